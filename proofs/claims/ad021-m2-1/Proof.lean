import JvmDerived
import JvmDerived.Pilot.@@N@@Statement
import JvmDerived.Pilot.@@N@@Code
set_option linter.unusedVariables false
set_option linter.unusedSimpArgs false
namespace Jvm.RoadKit
open Sem ClassFile Op Lib Jvm.Stand Jvm.Free Jvm.LawKit
section New
variable {p : Program} {l : Launch} {e : Env} {R : Room} {s : State} {m : MethodId} {args : Array Value} {below : List Frame} {meth : Method} {c : Code} {T : State} {locs : List Loc} {cells slots : Nat}
theorem retI (X : Stand p l e R s m args below meth c T locs cells slots) (hx : p.tables.exec = Jvm.exec) {pc : Nat} {Ls : Array Slot} {z : Int32} {rest : List Value} (hret : meth.sig.returnType = some .int) (hd : decode c.code pc = .ok (.ireturn, 1)) {fs : List Frame}
    (hl : ∀ (f : JFrame) (acts : List Action), f.method = m → f.locked = none → f.entered = [] → (doReturn e (T.setTop f) acts (some (.int z))).1 = T.setFrames fs) : Steps p.tables e below (T.setTop (mkF m pc Ls (.int z :: rest))) (T.setFrames fs) :=
  retOut X hx hret rfl (Or.inl ⟨rfl, Or.inl rfl, z, rfl⟩) hd hl
theorem retJ (X : Stand p l e R s m args below meth c T locs cells slots) (hx : p.tables.exec = Jvm.exec) {pc : Nat} {Ls : Array Slot} {z : Int64} {rest : List Value} (hret : meth.sig.returnType = some .long) (hd : decode c.code pc = .ok (.lreturn, 1)) {fs : List Frame}
    (hl : ∀ (f : JFrame) (acts : List Action), f.method = m → f.locked = none → f.entered = [] → (doReturn e (T.setTop f) acts (some (.long z))).1 = T.setFrames fs) : Steps p.tables e below (T.setTop (mkF m pc Ls (.long z :: rest))) (T.setFrames fs) :=
  retOut X hx hret rfl (Or.inr (Or.inl ⟨rfl, rfl, z, rfl⟩)) hd hl
theorem retA (X : Stand p l e R s m args below meth c T locs cells slots) (hx : p.tables.exec = Jvm.exec) {pc : Nat} {Ls : Array Slot} {w : Value} {t : FieldType} {rest : List Value} (hret : meth.sig.returnType = some t) (hd : decode c.code pc = .ok (.areturn, 1)) {fs : List Frame}
    (hl : ∀ (f : JFrame) (acts : List Action), f.method = m → f.locked = none → f.entered = [] → (doReturn e (T.setTop f) acts (some w)).1 = T.setFrames fs) (ht : t.isReference = true) (hw : w.isRef = true) : Steps p.tables e below (T.setTop (mkF m pc Ls (w :: rest))) (T.setFrames fs) :=
  retOut X hx hret (by cases t <;> first | rfl | (cases ht; done)) (Or.inr (Or.inr (Or.inr (Or.inr ⟨rfl, ht, hw⟩)))) hd hl
/-- from the state S on, the body runs to its end and leaves what Q says -/
def Gz (p : Program) (e : Env) (below : List Frame) (s : State) (C N : Nat) (Q : Option Value → Heap → List Loc → Prop) (S : State) : Prop :=
  ∃ s₂ o, Steps p.tables e below S s₂ ∧ s₂.status = .running ∧ Ended s₂ below o ∧ ∃ v L, o = .returned v ∧ Q v s₂.heap L ∧ FrameEnd s o s₂ L C N
variable {C N : Nat} {Q : Option Value → Heap → List Loc → Prop} {S S' : State}
theorem Gz.st (k : ∀ t, Steps p.tables e below S' t → Steps p.tables e below S t) (h : Gz p e below s C N Q S') : Gz p e below s C N Q S := by
  obtain ⟨s₂, o, h1, h2⟩ := h
  exact ⟨s₂, o, k _ h1, h2⟩
theorem Gz.tr (k : Steps p.tables e below S S') (h : Gz p e below s C N Q S') : Gz p e below s C N Q S := by
  obtain ⟨s₂, o, h1, h2⟩ := h
  exact ⟨s₂, o, k.trans h1, h2⟩
variable {pc : Nat} {Ls : Array Slot} {st : List Value} {Z : State} {a0 : Array Value} {hh : Heap}
theorem Gz.iloadN (n : Nat) {k : Fin 4} {v : Int32} (X : Stand p l e R s m args below meth c T locs cells slots) (hx : p.tables.exec = Jvm.exec) (hd : decode c.code pc = .ok (.iload_n k, 1)) (hl : Ls[k.val]? = some (.val (.int v))) (q : pc + 1 = n) (h : Gz p e below s C N Q (T.setTop (mkF m n Ls (.int v :: st)))) : Gz p e below s C N Q (T.setTop (mkF m pc Ls st)) := by subst q; exact Gz.st (fun t k => XS.iloadN X.here hx rfl hd hl k) h
theorem Gz.iload (n : Nat) {k : Nat} {v : Int32} (X : Stand p l e R s m args below meth c T locs cells slots) (hx : p.tables.exec = Jvm.exec) (hd : decode c.code pc = .ok (.iload k, 2)) (hl : Ls[k]? = some (.val (.int v))) (q : pc + 2 = n) (h : Gz p e below s C N Q (T.setTop (mkF m n Ls (.int v :: st)))) : Gz p e below s C N Q (T.setTop (mkF m pc Ls st)) := by subst q; exact Gz.st (fun t k => XS.iload X.here hx rfl hd hl k) h
theorem Gz.istoreN (n : Nat) (l' : Array Slot) {k : Fin 4} {v : Int32} (X : Stand p l e R s m args below meth c T locs cells slots) (hx : p.tables.exec = Jvm.exec) (hd : decode c.code pc = .ok (.istore_n k, 1)) (hl : storeLocals Ls k.val (.int v) = some l') (q : pc + 1 = n) (h : Gz p e below s C N Q (T.setTop (mkF m n l' st))) : Gz p e below s C N Q (T.setTop (mkF m pc Ls (.int v :: st))) := by subst q; exact Gz.st (fun t k => XS.istoreN X.here hx rfl hd rfl hl k) h
theorem Gz.istore (n : Nat) (l' : Array Slot) {k : Nat} {v : Int32} (X : Stand p l e R s m args below meth c T locs cells slots) (hx : p.tables.exec = Jvm.exec) (hd : decode c.code pc = .ok (.istore k, 2)) (hl : storeLocals Ls k (.int v) = some l') (q : pc + 2 = n) (h : Gz p e below s C N Q (T.setTop (mkF m n l' st))) : Gz p e below s C N Q (T.setTop (mkF m pc Ls (.int v :: st))) := by subst q; exact Gz.st (fun t k => XS.istore X.here hx rfl hd rfl hl k) h
theorem Gz.aloadN (n : Nat) {k : Fin 4} {v : Value} (X : Stand p l e R s m args below meth c T locs cells slots) (hx : p.tables.exec = Jvm.exec) (hd : decode c.code pc = .ok (.aload_n k, 1)) (hl : Ls[k.val]? = some (.val v)) (hv : v.isRef = true) (q : pc + 1 = n) (h : Gz p e below s C N Q (T.setTop (mkF m n Ls (v :: st)))) : Gz p e below s C N Q (T.setTop (mkF m pc Ls st)) := by subst q; exact Gz.st (fun t k => XS.aloadN X.here hx rfl hd hl hv k) h
theorem Gz.aload (n : Nat) {k : Nat} {v : Value} (X : Stand p l e R s m args below meth c T locs cells slots) (hx : p.tables.exec = Jvm.exec) (hd : decode c.code pc = .ok (.aload k, 2)) (hl : Ls[k]? = some (.val v)) (hv : v.isRef = true) (q : pc + 2 = n) (h : Gz p e below s C N Q (T.setTop (mkF m n Ls (v :: st)))) : Gz p e below s C N Q (T.setTop (mkF m pc Ls st)) := by subst q; exact Gz.st (fun t k => XS.aload X.here hx rfl hd hl hv k) h
theorem Gz.astore (n : Nat) (l' : Array Slot) {k : Nat} {v : Value} (X : Stand p l e R s m args below meth c T locs cells slots) (hx : p.tables.exec = Jvm.exec) (hd : decode c.code pc = .ok (.astore k, 2)) (hl : storeLocals Ls k v = some l') (hv : v.isRef = true) (q : pc + 2 = n) (h : Gz p e below s C N Q (T.setTop (mkF m n l' st))) : Gz p e below s C N Q (T.setTop (mkF m pc Ls (v :: st))) := by subst q; exact Gz.st (fun t k => XS.astore X.here hx rfl hd rfl hv hl k) h
theorem Gz.iconst (n : Nat) (v : Int32) (X : Stand p l e R s m args below meth c T locs cells slots) (hx : p.tables.exec = Jvm.exec) {i : Int} (hd : decode c.code pc = .ok (.iconst i, 1)) (hv : Int32.ofInt i = v) (q : pc + 1 = n) (h : Gz p e below s C N Q (T.setTop (mkF m n Ls (.int v :: st)))) : Gz p e below s C N Q (T.setTop (mkF m pc Ls st)) := by subst q hv; exact Gz.st (fun t k => XS.iconst X.here hx rfl hd k) h
theorem Gz.bipush (n : Nat) (v : Int32) (X : Stand p l e R s m args below meth c T locs cells slots) (hx : p.tables.exec = Jvm.exec) {i : Int} (hd : decode c.code pc = .ok (.bipush i, 2)) (hv : (Int8.ofInt i).toInt32 = v) (q : pc + 2 = n) (h : Gz p e below s C N Q (T.setTop (mkF m n Ls (.int v :: st)))) : Gz p e below s C N Q (T.setTop (mkF m pc Ls st)) := by subst q hv; exact Gz.st (fun t k => XS.bipush X.here hx rfl hd k) h
theorem Gz.iand (n : Nat) {x y : Int32} (X : Stand p l e R s m args below meth c T locs cells slots) (hx : p.tables.exec = Jvm.exec) (hd : decode c.code pc = .ok (.iand, 1))  (q : pc + 1 = n) (h : Gz p e below s C N Q (T.setTop (mkF m n Ls (.int (x &&& y) :: st)))) : Gz p e below s C N Q (T.setTop (mkF m pc Ls (.int y :: .int x :: st))) := by subst q; exact Gz.st (fun t k => XS.iand X.here hx rfl hd rfl k) h
theorem Gz.iushr (n : Nat) {x : Int32} {y : Int32} (X : Stand p l e R s m args below meth c T locs cells slots) (hx : p.tables.exec = Jvm.exec) (hd : decode c.code pc = .ok (.iushr, 1))  (q : pc + 1 = n) (h : Gz p e below s C N Q (T.setTop (mkF m n Ls (.int ((x.toUInt32 >>> (y &&& 31).toUInt32).toInt32) :: st)))) : Gz p e below s C N Q (T.setTop (mkF m pc Ls (.int y :: .int x :: st))) := by subst q; exact Gz.st (fun t k => XS.iushr X.here hx rfl hd rfl k) h
theorem Gz.i2b (n : Nat) {x : Int32} (X : Stand p l e R s m args below meth c T locs cells slots) (hx : p.tables.exec = Jvm.exec) (hd : decode c.code pc = .ok (.i2b, 1))  (q : pc + 1 = n) (h : Gz p e below s C N Q (T.setTop (mkF m n Ls (.int (x.toInt8.toInt32) :: st)))) : Gz p e below s C N Q (T.setTop (mkF m pc Ls (.int x :: st))) := by subst q; exact Gz.st (fun t k => XS.i2b X.here hx rfl hd rfl k) h
theorem Gz.idiv (n : Nat) {x y : Int32} (X : Stand p l e R s m args below meth c T locs cells slots) (hx : p.tables.exec = Jvm.exec) (hd : decode c.code pc = .ok (.idiv, 1)) (hy : y ≠ 0) (q : pc + 1 = n) (h : Gz p e below s C N Q (T.setTop (mkF m n Ls (.int (x / y) :: st)))) : Gz p e below s C N Q (T.setTop (mkF m pc Ls (.int y :: .int x :: st))) := by subst q; exact Gz.st (fun t k => XS.idiv X.here hx rfl hd rfl hy k) h
theorem Gz.idivV (n : Nat) (z : Int32) (X : Stand p l e R s m args below meth c T locs cells slots) (hx : p.tables.exec = Jvm.exec) {x y : Int32} (hd : decode c.code pc = .ok (.idiv, 1)) (hy : y ≠ 0) (hz : (x / y) = z) (q : pc + 1 = n) (h : Gz p e below s C N Q (T.setTop (mkF m n Ls (.int z :: st)))) : Gz p e below s C N Q (T.setTop (mkF m pc Ls (.int y :: .int x :: st))) := by subst hz; exact Gz.idiv n X hx hd hy q h
theorem Gz.irem (n : Nat) {x y : Int32} (X : Stand p l e R s m args below meth c T locs cells slots) (hx : p.tables.exec = Jvm.exec) (hd : decode c.code pc = .ok (.irem, 1)) (hy : y ≠ 0) (q : pc + 1 = n) (h : Gz p e below s C N Q (T.setTop (mkF m n Ls (.int (x % y) :: st)))) : Gz p e below s C N Q (T.setTop (mkF m pc Ls (.int y :: .int x :: st))) := by subst q; exact Gz.st (fun t k => iremM X hx rfl hd rfl hy k) h
theorem Gz.iinc (n : Nat) (l' : Array Slot) (X : Stand p l e R s m args below meth c T locs cells slots) (hx : p.tables.exec = Jvm.exec) {k : Nat} {i : Int} {x : Int32} (hd : decode c.code pc = .ok (.iinc k i, 3)) (hl : Ls[k]? = some (.val (.int x))) (hl' : storeLocals Ls k (.int (x + Int32.ofInt i)) = some l') (q : pc + 3 = n) (h : Gz p e below s C N Q (T.setTop (mkF m n l' st))) : Gz p e below s C N Q (T.setTop (mkF m pc Ls st)) := by subst q; exact Gz.st (fun t k => XS.iinc X.here hx rfl hd hl hl' k) h
theorem Gz.goto (n : Nat) (X : Stand p l e R s m args below meth c T locs cells slots) (hx : p.tables.exec = Jvm.exec) {o : Int} (hd : decode c.code pc = .ok (.goto o, 3)) (ho : 0 ≤ (pc : Int) + o) (q : ((pc : Int) + o).toNat = n) (h : Gz p e below s C N Q (T.setTop (mkF m n Ls st))) : Gz p e below s C N Q (T.setTop (mkF m pc Ls st)) := Gz.st (fun t k => XS.goto X.here hx rfl (pc0 := pc) (pc' := n) rfl hd ho q k) h
theorem Gz.ifYes (n : Nat) (X : Stand p l e R s m args below meth c T locs cells slots) (hx : p.tables.exec = Jvm.exec) {cd : ClassFile.Cond} {x : Int32} {o : Int} (hd : decode c.code pc = .ok (.ifCond cd o, 3)) (hc : ifCond.holds cd x = true) (ho : 0 ≤ (pc : Int) + o) (q : ((pc : Int) + o).toNat = n) (h : Gz p e below s C N Q (T.setTop (mkF m n Ls st))) : Gz p e below s C N Q (T.setTop (mkF m pc Ls (.int x :: st))) := Gz.st (fun t k => XS.ifYes X.here hx rfl (pc0 := pc) (pc' := n) rfl hd rfl hc ho q k) h
theorem Gz.ifNo (n : Nat) (X : Stand p l e R s m args below meth c T locs cells slots) (hx : p.tables.exec = Jvm.exec) {cd : ClassFile.Cond} {x : Int32} {o : Int} (hd : decode c.code pc = .ok (.ifCond cd o, 3)) (hc : ifCond.holds cd x = false) (q : pc + 3 = n) (h : Gz p e below s C N Q (T.setTop (mkF m n Ls st))) : Gz p e below s C N Q (T.setTop (mkF m pc Ls (.int x :: st))) := by subst q; exact Gz.st (fun t k => XS.ifNo X.here hx rfl hd rfl hc k) h
theorem Gz.icmpYes (n : Nat) (X : Stand p l e R s m args below meth c T locs cells slots) (hx : p.tables.exec = Jvm.exec) {cd : ClassFile.Cond} {x y : Int32} {o : Int} (hd : decode c.code pc = .ok (.if_icmp cd o, 3)) (hc : if_icmp.holds cd x y = true) (ho : 0 ≤ (pc : Int) + o) (q : ((pc : Int) + o).toNat = n) (h : Gz p e below s C N Q (T.setTop (mkF m n Ls st))) : Gz p e below s C N Q (T.setTop (mkF m pc Ls (.int y :: .int x :: st))) := Gz.st (fun t k => XS.icmpYes X.here hx rfl (pc0 := pc) (pc' := n) rfl hd rfl hc ho q k) h
theorem Gz.icmpNo (n : Nat) (X : Stand p l e R s m args below meth c T locs cells slots) (hx : p.tables.exec = Jvm.exec) {cd : ClassFile.Cond} {x y : Int32} {o : Int} (hd : decode c.code pc = .ok (.if_icmp cd o, 3)) (hc : if_icmp.holds cd x y = false) (q : pc + 3 = n) (h : Gz p e below s C N Q (T.setTop (mkF m n Ls st))) : Gz p e below s C N Q (T.setTop (mkF m pc Ls (.int y :: .int x :: st))) := by subst q; exact Gz.st (fun t k => XS.icmpNo X.here hx rfl hd rfl hc k) h
theorem Gz.ifnullYes (n : Nat) (X : Stand p l e R s m args below meth c T locs cells slots) (hx : p.tables.exec = Jvm.exec) {o : Int} (hd : decode c.code pc = .ok (.ifnull o, 3)) (ho : 0 ≤ (pc : Int) + o) (q : ((pc : Int) + o).toNat = n) (h : Gz p e below s C N Q (T.setTop (mkF m n Ls st))) : Gz p e below s C N Q (T.setTop (mkF m pc Ls (.null :: st))) := Gz.st (fun t k => XS.ifnullYes X.here hx rfl (pc0 := pc) (pc' := n) rfl hd rfl ho q k) h
theorem Gz.ifnullNo (n : Nat) (X : Stand p l e R s m args below meth c T locs cells slots) (hx : p.tables.exec = Jvm.exec) {b : Addr} {o : Int} (hd : decode c.code pc = .ok (.ifnull o, 3)) (q : pc + 3 = n) (h : Gz p e below s C N Q (T.setTop (mkF m n Ls st))) : Gz p e below s C N Q (T.setTop (mkF m pc Ls (.ref b :: st))) := by subst q; exact Gz.st (fun t k => XS.ifnullNo X.here hx rfl hd rfl k) h
theorem Gz.ldcI (n : Nat) (X : Stand p l e R s m args below meth c T locs cells slots) (hx : p.tables.exec = Jvm.exec) {own : String} {ix : Nat} {v : Int32} (hd : decode c.code pc = .ok (.ldc ix, 2)) (hown : s.vm.findClass own = some m.cls) (w : (Cond.constant own ix v).before args s = true) (q : pc + 2 = n) (h : Gz p e below s C N Q (T.setTop (mkF m n Ls (.int v :: st)))) : Gz p e below s C N Q (T.setTop (mkF m pc Ls st)) := by subst q; exact Gz.st (X.ldcInt hx hown w (g := mkF m pc Ls st) rfl hd) h
theorem Gz.getF (n : Nat) (X : Stand p l e R s m args below meth c T locs cells slots) (hx : p.tables.exec = Jvm.exec) (hZ : Z.Warmed39 s.vm) {own : String} (hown : s.vm.findClass own = some m.cls) {R0 O nm d host : String} {ix : Nat} (hd : decode c.code pc = .ok (.getfield ix, 3)) (w : (Cond.fieldLink own ix R0 nm d).before a0 Z = true ∨ (Cond.fieldLinkNest own ix R0 nm d host).before a0 Z = true) (via : Via Z R0 O nm d) (eT : T.heap = hh) {a : Addr} {v : Value} (F : Fld Z hh a O nm d v) (q : pc + 3 = n) (h : ∀ T', Stand p l e R s m args below meth c T' (locs) (cells) (slots) → T'.heap = hh → Gz p e below s C N Q (T'.setTop (mkF m n Ls (v :: st)))) : Gz p e below s C N Q (T.setTop (mkF m pc Ls (.ref a :: st))) := by
  subst q
  obtain ⟨T', X', e', st'⟩ := Jvm.RoadKit.getF X hx hZ hown w via eT F (g := mkF m pc Ls (.ref a :: st)) rfl rfl hd
  exact Gz.st st' (h T' X' e')
theorem Gz.getS (n : Nat) (X : Stand p l e R s m args below meth c T locs cells slots) (hx : p.tables.exec = Jvm.exec) (hZ : Z.Warmed39 s.vm) {own : String} (hown : s.vm.findClass own = some m.cls) {R0 O nm d host : String} {ix : Nat} (hd : decode c.code pc = .ok (.getstatic ix, 3)) (w : (Cond.fieldLink own ix R0 nm d).before a0 Z = true ∨ (Cond.fieldLinkNest own ix R0 nm d host).before a0 Z = true) (via : Via Z R0 O nm d) (eT : T.heap = hh) {v : Value} (F : Sta Z hh O nm d v) (q : pc + 3 = n) (h : ∀ T', Stand p l e R s m args below meth c T' (locs) (cells) (slots) → T'.heap = hh → Gz p e below s C N Q (T'.setTop (mkF m n Ls (v :: st)))) : Gz p e below s C N Q (T.setTop (mkF m pc Ls st)) := by
  subst q
  obtain ⟨T', X', e', st'⟩ := getS2 X hx hZ hown w via eT F (g := mkF m pc Ls st) rfl hd
  exact Gz.st st' (h T' X' e')
theorem Gz.stB (n : Nat) (X : Stand p l e R s m args below meth c T locs cells slots) (hx : p.tables.exec = Jvm.exec) (hZ : Z.Warmed39 s.vm) {a : Addr} {cl : Cell} {j : Int32} {x : Int32} (hd : decode c.code pc = .ok (.bastore, 1)) (eT : T.heap = hh) (A : Arr Z hh a cl .byte) (hj : ¬ (j < 0 ∨ cl.slots.size ≤ j.toNatClampNeg)) (q : pc + 1 = n) (h : ∀ T' h', Stand p l e R s m args below meth c T' (locs ++ [⟨a, j.toNatClampNeg⟩]) (cells) (slots) → T'.heap = h' → Wr hh h' a j.toNatClampNeg (.int (nar .byte x)) → Gz p e below s C N Q (T'.setTop (mkF m n Ls st))) : Gz p e below s C N Q (T.setTop (mkF m pc Ls (.int x :: .int j :: .ref a :: st))) := by
  subst q
  obtain ⟨T', h', X', e', W, st'⟩ := Jvm.RoadKit.stB X hx hZ eT A (j := j) hj (g := mkF m pc Ls (.int x :: .int j :: .ref a :: st)) rfl rfl hd
  exact Gz.st st' (h T' h' X' e' W)
theorem Gz.ldB (n : Nat) (X : Stand p l e R s m args below meth c T locs cells slots) (hx : p.tables.exec = Jvm.exec) (hZ : Z.Warmed39 s.vm) {a : Addr} {cl : Cell} {j : Int32} {v : Value} (hd : decode c.code pc = .ok (.baload, 1)) (eT : T.heap = hh) (A : Arr Z hh a cl .byte) (hj : ¬ (j < 0 ∨ cl.slots.size ≤ j.toNatClampNeg)) (hv : cl.slots[j.toNatClampNeg]? = some v) (q : pc + 1 = n) (h : Gz p e below s C N Q (T.setTop (mkF m n Ls (v :: st)))) : Gz p e below s C N Q (T.setTop (mkF m pc Ls (.int j :: .ref a :: st))) := by
  subst q
  exact Gz.st (X.baloadBytes hx (j := j) (v := v) (by rw [eT]; exact A.1) (State.isArrayOf_alike hZ.alike A.2.1) A.2.2 hj hv (g := mkF m pc Ls (.int j :: .ref a :: st)) rfl rfl hd) h
theorem Gz.alen (n : Nat) (X : Stand p l e R s m args below meth c T locs cells slots) (hx : p.tables.exec = Jvm.exec) (hZ : Z.Warmed39 s.vm) {a : Addr} {cl : Cell} {z : Int32} {ty : FieldType} (hd : decode c.code pc = .ok (.arraylength, 1)) (eT : T.heap = hh) (A : Arr Z hh a cl ty) (hs : cl.slots.size = z.toNatClampNeg) (hz : ¬ z < 0) (q : pc + 1 = n) (h : Gz p e below s C N Q (T.setTop (mkF m n Ls (.int z :: st)))) : Gz p e below s C N Q (T.setTop (mkF m pc Ls (.ref a :: st))) := by
  subst q
  refine Gz.st (X.arraylength hx (by rw [eT]; exact A.1) (State.isArrayOf_alike hZ.alike A.2.1) (g := mkF m pc Ls (.ref a :: st)) rfl rfl hd) ?_
  rw [len_of hs hz]
  exact h
theorem Gz.enter {g g' : JFrame} (q : g = g') (h : Gz p e below s C N Q (T.setTop g')) : Gz p e below s C N Q (T.setTop g) := q ▸ h
theorem Gz.fin (X : Stand p l e R s m args below meth c T locs cells slots) {v : Option Value} (hv : meth.sig.returnType = none → v = none) (hlocks : meth.locks = false) (hc : cells ≤ C) (hn : slots ≤ N)
    (hst : ∀ fs, (∀ (f : JFrame) (acts : List Action), f.method = m → f.locked = none → f.entered = [] → (doReturn e (T.setTop f) acts v).1 = T.setFrames fs) → Steps p.tables e below S (T.setFrames fs)) (hq : Q v T.heap locs) : Gz p e below s C N Q S := by
  obtain ⟨fs, hr, hrun, hended, hW, hsame⟩ := X.leave hv hlocks
  exact ⟨_, _, hst fs hr, hrun, hended, _, _, rfl, hq, ⟨_, rfl⟩, hW, hsame.mono hc hn⟩
theorem retNV (X : Stand p l e R s m args below meth c T locs cells slots) (hx : p.tables.exec = Jvm.exec) {pc : Nat} {Ls : Array Slot} {z w : Int32} {t : FieldType} {rest : List Value} (hret : meth.sig.returnType = some t) (ht : t = .boolean ∨ t = .byte ∨ t = .char ∨ t = .short)
    (hd : decode c.code pc = .ok (.ireturn, 1)) {fs : List Frame} (hl : ∀ (f : JFrame) (acts : List Action), f.method = m → f.locked = none → f.entered = [] → (doReturn e (T.setTop f) acts (some (.int w))).1 = T.setFrames fs) (hw : nar t z = w) :
    Steps p.tables e below (T.setTop (mkF m pc Ls (.int z :: rest))) (T.setFrames fs) := by subst hw; exact retN X hx hret ht hd hl
theorem own_nb (x : Int32) : nar .byte (x.toInt8.toInt32) = x.toInt8.toInt32 := by show (x.toInt8.toInt32).toInt8.toInt32 = _; simp
theorem lt_irr (x : Int32) : ¬ x < x := Int32.lt_irrefl
theorem own_rl {a z r j : Nat} (h : a < z) (q : r = z + 1 + j) : a ≠ r := by omega
theorem own_ro {x z r j : Nat} (h : x = z) (q : r = z + 1 + j) : x ≠ r := by omega
theorem own_rr {z a b i j : Nat} (h : a = z + 1 + i) (q : b = z + 1 + j) (w : i ≠ j) : a ≠ b := by omega
theorem own_rg {n z r j : Nat} (h : n ≤ z) (q : r = z + 1 + j) : n ≤ r := by omega
theorem own_fldI {a0 : Array Value} {Z : State} {t : Term} {a : Addr} {C n d : String} {k : Int32} (ev : t.eval a0 Z none [] Z = some (.ref a)) (h : (Cond.eq (.field t C n d) (.int k)).value a0 Z none Z [] = some true) : Fld Z Z.heap a C n d (.int k) := by
  obtain ⟨x, y, e1, e2, k1, k2⟩ := cmp_v (Or.inl h)
  cases Option.some.inj (e2.symm.trans (Term.int_eval k))
  obtain ⟨z, rfl⟩ := k2
  have q := gotT (Cond.eq_ints e1 (Term.int_eval k)) h
  subst q
  rw [fld_at ev] at e1
  exact Fld.start e1
theorem own_len {a0 : Array Value} {Z : State} {t : Term} {a : Addr} {cl : Cell} {ty : FieldType} {z : Int32} (ev : t.eval a0 Z none [] Z = some (.ref a)) (A : Arr Z Z.heap a cl ty) (h : (Cond.eq (.length t) (.int z)).value a0 Z none Z [] = some true) : cl.slots.size < 2 ^ 31 ∧ cl.slots.size.toInt32 = z := by
  obtain ⟨x, y, e1, e2, k1, k2⟩ := cmp_v (Or.inl h)
  obtain ⟨b, cell, f1, f2, f3, f4⟩ := Jvm.Lib.length_spec e1
  cases Option.some.inj (ev.symm.trans f1)
  cases f2.symm.trans (Arr.fin (U := Z) (Vm.Alike.refl _) A)
  subst f4
  exact ⟨f3, gotT (Cond.eq_ints e1 (Term.int_eval z)) h⟩
theorem own_el {a0 : Array Value} {Z : State} {t : Term} {a : Addr} {cl : Cell} {ty : FieldType} {j v : Int32} (ev : t.eval a0 Z none [] Z = some (.ref a)) (A : Arr Z Z.heap a cl ty) (h : (Cond.eq (.elem t (.int j)) (.int v)).value a0 Z none Z [] = some true) : cl.slots[j.toNatClampNeg]? = some (.int v) := by
  obtain ⟨x, y, e1, e2, k1, k2⟩ := cmp_v (Or.inl h)
  cases Option.some.inj (e2.symm.trans (Term.int_eval v))
  obtain ⟨z, rfl⟩ := k2
  have q := gotT (Cond.eq_ints e1 (Term.int_eval v)) h
  subst q
  exact (elem_in e1 ev (Term.int_eval j) A.1).2
end New
end Jvm.RoadKit
namespace Jvm.Pilot.@@N@@
open Jvm Jvm.ClassFile Sem Op Lib Jvm.Free Jvm.Stand Jvm.LawKit Jvm.RoadKit Bundle Jvm.Pilot.@@N@@.Jvm.D
theorem ww {av : Array Value} {Z : State} (hw : ∀ d ∈ tables_1, d.before av Z = true) (i : Nat) {d : Jvm.Cond} (h : tables_1[i]? = some d) : d.before av Z = true := hw _ (List.mem_of_getElem? h)
theorem own_nat (z : Int32) (n : Nat) (hn : n ≤ 2147483648) (h0 : 0 ≤ z.toInt) (h1 : z.toInt < n) : ∃ k : Nat, k < n ∧ z = Int32.ofNat k := by
  refine ⟨z.toInt.toNat, by omega, ?_⟩
  apply Int32.toInt_inj.mp
  rw [Int32.toInt_ofNat_of_lt (by omega)]
  omega
theorem own_i2c (z : Int32) (h0 : 0 ≤ z.toInt) (h1 : z.toInt < 65536) : z.toUInt32.toUInt16.toUInt32.toInt32 = z := by
  apply Int32.toInt_inj.mp
  have := c_i2c z
  omega
theorem own_asym32 {x y : Int32} (h : y < x) : ¬ x < y := fun q => by rw [Int32.lt_iff_toInt_lt] at *; omega
theorem own_asym64 {x y : Int64} (h : y < x) : ¬ x < y := fun q => by rw [Int64.lt_iff_toInt_lt] at *; omega
theorem own_irr32 {x y : Int32} (h : x = y) : ¬ x < y := fun q => by rw [Int32.lt_iff_toInt_lt] at *; subst h; omega
theorem own_irr64 {x y : Int64} (h : x = y) : ¬ x < y := fun q => by rw [Int64.lt_iff_toInt_lt] at *; subst h; omega
theorem own_tri32 {x y : Int32} (h : ¬ y < x) (g : ¬ x = y) : x < y := by
  rw [← Int32.toInt_inj] at g; rw [Int32.lt_iff_toInt_lt] at *; omega
theorem own_tri64 {x y : Int64} (h : ¬ y < x) (g : ¬ x = y) : x < y := by
  rw [← Int64.toInt_inj] at g; rw [Int64.lt_iff_toInt_lt] at *; omega
theorem own_nlt32 {x y : Int32} (h : x < y) : ¬ x = y := fun q => own_irr32 q h
theorem own_nlt64 {x y : Int64} (h : x < y) : ¬ x = y := fun q => own_irr64 q h
theorem own_ngt32 {x y : Int32} (h : y < x) : ¬ x = y := fun q => own_irr32 q.symm h
theorem own_ngt64 {x y : Int64} (h : y < x) : ¬ x = y := fun q => own_irr64 q.symm h
theorem own_both32 {x y : Int32} (h : ¬ x < y) (g : ¬ y < x) : x = y := by
  rw [← Int32.toInt_inj]; rw [Int32.lt_iff_toInt_lt] at *; omega
theorem own_both64 {x y : Int64} (h : ¬ x < y) (g : ¬ y < x) : x = y := by
  rw [← Int64.toInt_inj]; rw [Int64.lt_iff_toInt_lt] at *; omega
theorem own_rem (z d : Int32) (hd : d ≠ 0) (h0 : 0 ≤ z.toInt) (n : Nat) (hn : d.toInt = n) (hn2 : n ≤ 2147483648) : ∃ k : Nat, k < n ∧ z % d = Int32.ofNat k := by
  have hr := c_irem z d n hn
  have hn0 : n ≠ 0 := fun q => hd (Int32.toInt_inj.mp (by rw [hn, q]; rfl))
  have h1 := hr.1 h0
  have h2 : 0 ≤ z.toInt % (n : Int) := Int.emod_nonneg _ (by omega)
  have h3 : z.toInt % (n : Int) < n := Int.emod_lt_of_pos _ (by omega)
  exact own_nat _ n hn2 (by omega) (by omega)
theorem own_ALt32 {e j k : Int32} (h : e < j) (q : j.toInt ≤ k.toInt) : e < k := by
  rw [Int32.lt_iff_toInt_lt] at *; omega
theorem own_AGf32 {e j k : Int32} (h : e < j) (q : j.toInt ≤ k.toInt + 1) : ¬ k < e := by
  rw [Int32.lt_iff_toInt_lt] at *; omega
theorem own_AEf32 {e j k : Int32} (h : e < j) (q : j.toInt ≤ k.toInt) : ¬ e = k := by
  intro z; subst z; rw [Int32.lt_iff_toInt_lt] at h; omega
theorem own_BLf32 {e j k : Int32} (h : ¬ e < j) (q : k.toInt ≤ j.toInt) : ¬ e < k := by
  rw [Int32.lt_iff_toInt_lt] at *; omega
theorem own_BGt32 {e j k : Int32} (h : ¬ e < j) (q : k.toInt < j.toInt) : k < e := by
  rw [Int32.lt_iff_toInt_lt] at *; omega
theorem own_BEf32 {e j k : Int32} (h : ¬ e < j) (q : k.toInt < j.toInt) : ¬ e = k := by
  intro z; subst z; rw [Int32.lt_iff_toInt_lt] at h; omega
theorem own_CLf32 {e j k : Int32} (h : j < e) (q : k.toInt ≤ j.toInt + 1) : ¬ e < k := by
  rw [Int32.lt_iff_toInt_lt] at *; omega
theorem own_CGt32 {e j k : Int32} (h : j < e) (q : k.toInt ≤ j.toInt) : k < e := by
  rw [Int32.lt_iff_toInt_lt] at *; omega
theorem own_CEf32 {e j k : Int32} (h : j < e) (q : k.toInt ≤ j.toInt) : ¬ e = k := by
  intro z; subst z; rw [Int32.lt_iff_toInt_lt] at h; omega
theorem own_DLt32 {e j k : Int32} (h : ¬ j < e) (q : j.toInt < k.toInt) : e < k := by
  rw [Int32.lt_iff_toInt_lt] at *; omega
theorem own_DGf32 {e j k : Int32} (h : ¬ j < e) (q : j.toInt ≤ k.toInt) : ¬ k < e := by
  rw [Int32.lt_iff_toInt_lt] at *; omega
theorem own_DEf32 {e j k : Int32} (h : ¬ j < e) (q : j.toInt < k.toInt) : ¬ e = k := by
  intro z; subst z; rw [Int32.lt_iff_toInt_lt] at h; omega
theorem own_eqEt32 {e j k : Int32} (h : e = j) (q : j = k) : e = k := by rw [h]; exact q
theorem own_eqEf32 {e j k : Int32} (h : e = j) (q : ¬ j = k) : ¬ e = k := by rw [h]; exact q
theorem own_eqLt32 {e j k : Int32} (h : e = j) (q : j < k) : e < k := by rw [h]; exact q
theorem own_eqLf32 {e j k : Int32} (h : e = j) (q : ¬ j < k) : ¬ e < k := by rw [h]; exact q
theorem own_eqGt32 {e j k : Int32} (h : e = j) (q : k < j) : k < e := by rw [h]; exact q
theorem own_eqGf32 {e j k : Int32} (h : e = j) (q : ¬ k < j) : ¬ k < e := by rw [h]; exact q
theorem own_ALt64 {e j k : Int64} (h : e < j) (q : j.toInt ≤ k.toInt) : e < k := by
  rw [Int64.lt_iff_toInt_lt] at *; omega
theorem own_AGf64 {e j k : Int64} (h : e < j) (q : j.toInt ≤ k.toInt + 1) : ¬ k < e := by
  rw [Int64.lt_iff_toInt_lt] at *; omega
theorem own_AEf64 {e j k : Int64} (h : e < j) (q : j.toInt ≤ k.toInt) : ¬ e = k := by
  intro z; subst z; rw [Int64.lt_iff_toInt_lt] at h; omega
theorem own_BLf64 {e j k : Int64} (h : ¬ e < j) (q : k.toInt ≤ j.toInt) : ¬ e < k := by
  rw [Int64.lt_iff_toInt_lt] at *; omega
theorem own_BGt64 {e j k : Int64} (h : ¬ e < j) (q : k.toInt < j.toInt) : k < e := by
  rw [Int64.lt_iff_toInt_lt] at *; omega
theorem own_BEf64 {e j k : Int64} (h : ¬ e < j) (q : k.toInt < j.toInt) : ¬ e = k := by
  intro z; subst z; rw [Int64.lt_iff_toInt_lt] at h; omega
theorem own_CLf64 {e j k : Int64} (h : j < e) (q : k.toInt ≤ j.toInt + 1) : ¬ e < k := by
  rw [Int64.lt_iff_toInt_lt] at *; omega
theorem own_CGt64 {e j k : Int64} (h : j < e) (q : k.toInt ≤ j.toInt) : k < e := by
  rw [Int64.lt_iff_toInt_lt] at *; omega
theorem own_CEf64 {e j k : Int64} (h : j < e) (q : k.toInt ≤ j.toInt) : ¬ e = k := by
  intro z; subst z; rw [Int64.lt_iff_toInt_lt] at h; omega
theorem own_DLt64 {e j k : Int64} (h : ¬ j < e) (q : j.toInt < k.toInt) : e < k := by
  rw [Int64.lt_iff_toInt_lt] at *; omega
theorem own_DGf64 {e j k : Int64} (h : ¬ j < e) (q : j.toInt ≤ k.toInt) : ¬ k < e := by
  rw [Int64.lt_iff_toInt_lt] at *; omega
theorem own_DEf64 {e j k : Int64} (h : ¬ j < e) (q : j.toInt < k.toInt) : ¬ e = k := by
  intro z; subst z; rw [Int64.lt_iff_toInt_lt] at h; omega
theorem own_eqEt64 {e j k : Int64} (h : e = j) (q : j = k) : e = k := by rw [h]; exact q
theorem own_eqEf64 {e j k : Int64} (h : e = j) (q : ¬ j = k) : ¬ e = k := by rw [h]; exact q
theorem own_eqLt64 {e j k : Int64} (h : e = j) (q : j < k) : e < k := by rw [h]; exact q
theorem own_eqLf64 {e j k : Int64} (h : e = j) (q : ¬ j < k) : ¬ e < k := by rw [h]; exact q
theorem own_eqGt64 {e j k : Int64} (h : e = j) (q : k < j) : k < e := by rw [h]; exact q
theorem own_eqGf64 {e j k : Int64} (h : e = j) (q : ¬ k < j) : ¬ k < e := by rw [h]; exact q
theorem d1_0 : decode method_3_code 0 = .ok (.iload_n 0, 1) := by decide +kernel
theorem d1_1 : decode method_3_code 1 = .ok (.ifCond .ne 7, 3) := by decide +kernel
theorem d1_4 : decode method_3_code 4 = .ok (.getstatic 24, 3) := by decide +kernel
theorem d1_7 : decode method_3_code 7 = .ok (.areturn, 1) := by decide +kernel
theorem d1_8 : decode method_3_code 8 = .ok (.iload_n 0, 1) := by decide +kernel
theorem d1_9 : decode method_3_code 9 = .ok (.iconst 1, 1) := by decide +kernel
theorem d1_10 : decode method_3_code 10 = .ok (.if_icmp .ne 7, 3) := by decide +kernel
theorem d1_13 : decode method_3_code 13 = .ok (.getstatic 28, 3) := by decide +kernel
theorem d1_16 : decode method_3_code 16 = .ok (.areturn, 1) := by decide +kernel
theorem d1_17 : decode method_3_code 17 = .ok (.iload_n 0, 1) := by decide +kernel
theorem d1_18 : decode method_3_code 18 = .ok (.iconst 2, 1) := by decide +kernel
theorem d1_19 : decode method_3_code 19 = .ok (.if_icmp .ne 7, 3) := by decide +kernel
theorem d1_22 : decode method_3_code 22 = .ok (.getstatic 31, 3) := by decide +kernel
theorem d1_25 : decode method_3_code 25 = .ok (.areturn, 1) := by decide +kernel
theorem d1_26 : decode method_3_code 26 = .ok (.iload_n 0, 1) := by decide +kernel
theorem d1_27 : decode method_3_code 27 = .ok (.iconst 3, 1) := by decide +kernel
theorem d1_28 : decode method_3_code 28 = .ok (.if_icmp .ne 7, 3) := by decide +kernel
theorem d1_31 : decode method_3_code 31 = .ok (.getstatic 34, 3) := by decide +kernel
theorem d1_34 : decode method_3_code 34 = .ok (.areturn, 1) := by decide +kernel
theorem d1_35 : decode method_3_code 35 = .ok (.iload_n 0, 1) := by decide +kernel
theorem d1_36 : decode method_3_code 36 = .ok (.iconst 4, 1) := by decide +kernel
theorem d1_37 : decode method_3_code 37 = .ok (.if_icmp .ne 7, 3) := by decide +kernel
theorem d1_40 : decode method_3_code 40 = .ok (.getstatic 37, 3) := by decide +kernel
theorem d1_43 : decode method_3_code 43 = .ok (.areturn, 1) := by decide +kernel
theorem d1_44 : decode method_3_code 44 = .ok (.getstatic 40, 3) := by decide +kernel
theorem d1_47 : decode method_3_code 47 = .ok (.areturn, 1) := by decide +kernel
theorem pn_0 : plainName "com/example/arkivsjekk/arkivsjekk/XmlEncodingByteOrderMarkUnitsPinLaw" = true := by first | (simp [plainName, overriddenIn]; done) | decide +kernel
theorem ef_rm1 (m : MethodId) (p0 : Int32) : entryFrame m #[(.int p0)] 1 = mkF m 0 #[.val (.int p0)] [] := by first | (simp [entryFrame, mkF, argsToLocals, Value.category]; done) | rfl
def fPick (p0 : Int32) (s_UTF_8 : Addr) (s_UTF_16BE : Addr) (s_UTF_16LE : Addr) (s_UCS_4BE : Addr) (s_UCS_4LE : Addr) (s_EBCDIC : Addr) : Addr := (if p0 = (0 : Int32) then s_UTF_8 else (if p0 = (1 : Int32) then s_UTF_16BE else (if p0 = (2 : Int32) then s_UTF_16LE else (if p0 = (3 : Int32) then s_UCS_4BE else (if p0 = (4 : Int32) then s_UCS_4LE else s_EBCDIC)))))
def Q_rm1 (Z : State) (p0 : Int32) (s_UTF_8 : Addr) (s_UTF_16BE : Addr) (s_UTF_16LE : Addr) (s_UCS_4BE : Addr) (s_UCS_4LE : Addr) (s_EBCDIC : Addr) (h0 : Heap) (n0 : Nat) (v : Option Value) (h : Heap) (L : List Loc) : Prop := v = some (.ref (fPick p0 s_UTF_8 s_UTF_16BE s_UTF_16LE s_UCS_4BE s_UCS_4LE s_EBCDIC)) ∧ Fr n0 L ∧ h = h0
set_option maxRecDepth 65536 in
set_option maxHeartbeats 40000000 in
theorem rm1 (l : Launch) (Z : State) (av0 : Array Value) (hw : ∀ d ∈ tables_1, d.before av0 Z = true) (ws : List Jvm.Cond) (p0 : Int32) (s_UTF_8 : Addr) (s_UTF_16BE : Addr) (s_UTF_16LE : Addr) (s_UCS_4BE : Addr) (s_UCS_4LE : Addr) (s_EBCDIC : Addr) (h0 : Heap) (n0 : Nat) (Z0 : n0 ≤ h0.size) (S_s_UTF_8 : Sta Z h0 "com/example/arkivsjekk/arkivsjekk/XmlEncoding" "UTF_8" "Lcom/example/arkivsjekk/arkivsjekk/XmlEncoding;" (.ref s_UTF_8)) (S_s_UTF_16BE : Sta Z h0 "com/example/arkivsjekk/arkivsjekk/XmlEncoding" "UTF_16BE" "Lcom/example/arkivsjekk/arkivsjekk/XmlEncoding;" (.ref s_UTF_16BE)) (S_s_UTF_16LE : Sta Z h0 "com/example/arkivsjekk/arkivsjekk/XmlEncoding" "UTF_16LE" "Lcom/example/arkivsjekk/arkivsjekk/XmlEncoding;" (.ref s_UTF_16LE)) (S_s_UCS_4BE : Sta Z h0 "com/example/arkivsjekk/arkivsjekk/XmlEncoding" "UCS_4BE" "Lcom/example/arkivsjekk/arkivsjekk/XmlEncoding;" (.ref s_UCS_4BE)) (S_s_UCS_4LE : Sta Z h0 "com/example/arkivsjekk/arkivsjekk/XmlEncoding" "UCS_4LE" "Lcom/example/arkivsjekk/arkivsjekk/XmlEncoding;" (.ref s_UCS_4LE)) (S_s_EBCDIC : Sta Z h0 "com/example/arkivsjekk/arkivsjekk/XmlEncoding" "EBCDIC" "Lcom/example/arkivsjekk/arkivsjekk/XmlEncoding;" (.ref s_EBCDIC)) :
    MetFree l (⟨"com/example/arkivsjekk/arkivsjekk/XmlEncodingByteOrderMarkUnitsPinLaw", "pick", "(I)Lcom/example/arkivsjekk/arkivsjekk/XmlEncoding;"⟩ : MethodName) (head1 (Jvm.Cond.code (⟨"com/example/arkivsjekk/arkivsjekk/XmlEncodingByteOrderMarkUnitsPinLaw", "pick", "(I)Lcom/example/arkivsjekk/arkivsjekk/XmlEncoding;"⟩ : MethodName) method_3_code 1 (some (.object "com/example/arkivsjekk/arkivsjekk/XmlEncoding")) :: ws) ({ frames := 0, cells := 0, slots := 0, locals := 0 } : Room)) (fun a U => a = #[(.int p0)] ∧ Z.Warmed39 U.vm ∧ U.heap = h0) (fun _ _ _ _ _ => True) (fun _ U o U' => ∃ v L, o = .returned v ∧ Q_rm1 Z p0 s_UTF_8 s_UTF_16BE s_UTF_16LE s_UCS_4BE s_UCS_4LE s_EBCDIC h0 n0 v U'.heap L ∧ FrameEnd U o U' L ({ frames := 0, cells := 0, slots := 0, locals := 0 } : Room).cells ({ frames := 0, cells := 0, slots := 0, locals := 0 } : Room).slots) := by
  refine MetFree.of_bodySF (plainFor_of_name pn_0) hisR ?_
  intro p e s m args below meth c s₁ Bd hml0 hP hK
  obtain ⟨rfl, hZ, hh⟩ := hP
  have hx := Bd.exec
  have hby := Bd.bytes
  have hml : c.maxLocals = 1 := hml0
  have dd : ∀ {pc : Nat} {r : Except DecodeError (Instr × Nat)}, decode method_3_code pc = r → decode c.code pc = r := fun q => hb hby q
  have hown : s.vm.findClass "com/example/arkivsjekk/arkivsjekk/XmlEncodingByteOrderMarkUnitsPinLaw" = some m.cls := findClass_of_methodNamed Bd.named
  have hnm := (name_of_methodNamed Bd.named Bd.method).1
  have X0 : Stand p l e ({ frames := 0, cells := 0, slots := 0, locals := 0 } : Room) s m #[(.int p0)] below meth c s₁ [] 0 0 := Stand.of_body Bd
  have e0 : s₁.heap = h0 := by rw [← hh, Bd.state]; rfl
  have N0 := Fr.nil n0
  have hret := Bd.returns
  have hlk := Bd.notSynchronized
  show Gz p e below s ({ frames := 0, cells := 0, slots := 0, locals := 0 } : Room).cells ({ frames := 0, cells := 0, slots := 0, locals := 0 } : Room).slots (Q_rm1 Z p0 s_UTF_8 s_UTF_16BE s_UTF_16LE s_UCS_4BE s_UCS_4LE s_EBCDIC h0 n0) (s₁.setTop (entryFrame m #[(.int p0)] 1))
  refine Gz.enter (ef_rm1 m p0) ?_
  refine Gz.iloadN 1 X0 hx (dd d1_0) rfl rfl ?_
  by_cases hc1 : p0 = (0 : Int32)
  · refine Gz.ifNo 4 X0 hx (dd d1_1) ((if0 _ _).trans (teq hc1).2) rfl ?_
    refine Gz.getS 7 X0 hx hZ hown (dd d1_4) (host := "") (Or.inl (ww hw 5 rfl)) Via.refl e0 S_s_UTF_8 rfl fun T2 X2 e2 => ?_
    refine Gz.fin X2 (v := some (.ref s_UTF_8)) (fun h => by rw [hret] at h; cases h) hlk (by decide) (by decide) (fun fs hr => retA X2 hx hret (dd d1_7) hr rfl rfl) ?_
    rw [e2]
    exact ⟨(by unfold fPick; rw [if_pos hc1]), N0, rfl⟩
  · refine Gz.ifYes 8 X0 hx (dd d1_1) ((if0 _ _).trans (feq hc1).2) (by decide) (by decide) ?_
    refine Gz.iloadN 9 X0 hx (dd d1_8) rfl rfl ?_
    refine Gz.iconst 10 (1 : Int32) X0 hx (dd d1_9) rfl rfl ?_
    by_cases hc3 : p0 = (1 : Int32)
    · refine Gz.icmpNo 13 X0 hx (dd d1_10) (teq hc3).2 rfl ?_
      refine Gz.getS 16 X0 hx hZ hown (dd d1_13) (host := "") (Or.inl (ww hw 28 rfl)) Via.refl e0 S_s_UTF_16BE rfl fun T4 X4 e4 => ?_
      refine Gz.fin X4 (v := some (.ref s_UTF_16BE)) (fun h => by rw [hret] at h; cases h) hlk (by decide) (by decide) (fun fs hr => retA X4 hx hret (dd d1_16) hr rfl rfl) ?_
      rw [e4]
      exact ⟨(by unfold fPick; rw [if_neg hc1, if_pos hc3]), N0, rfl⟩
    · refine Gz.icmpYes 17 X0 hx (dd d1_10) (feq hc3).2 (by decide) (by decide) ?_
      refine Gz.iloadN 18 X0 hx (dd d1_17) rfl rfl ?_
      refine Gz.iconst 19 (2 : Int32) X0 hx (dd d1_18) rfl rfl ?_
      by_cases hc5 : p0 = (2 : Int32)
      · refine Gz.icmpNo 22 X0 hx (dd d1_19) (teq hc5).2 rfl ?_
        refine Gz.getS 25 X0 hx hZ hown (dd d1_22) (host := "") (Or.inl (ww hw 30 rfl)) Via.refl e0 S_s_UTF_16LE rfl fun T6 X6 e6 => ?_
        refine Gz.fin X6 (v := some (.ref s_UTF_16LE)) (fun h => by rw [hret] at h; cases h) hlk (by decide) (by decide) (fun fs hr => retA X6 hx hret (dd d1_25) hr rfl rfl) ?_
        rw [e6]
        exact ⟨(by unfold fPick; rw [if_neg hc1, if_neg hc3, if_pos hc5]), N0, rfl⟩
      · refine Gz.icmpYes 26 X0 hx (dd d1_19) (feq hc5).2 (by decide) (by decide) ?_
        refine Gz.iloadN 27 X0 hx (dd d1_26) rfl rfl ?_
        refine Gz.iconst 28 (3 : Int32) X0 hx (dd d1_27) rfl rfl ?_
        by_cases hc7 : p0 = (3 : Int32)
        · refine Gz.icmpNo 31 X0 hx (dd d1_28) (teq hc7).2 rfl ?_
          refine Gz.getS 34 X0 hx hZ hown (dd d1_31) (host := "") (Or.inl (ww hw 26 rfl)) Via.refl e0 S_s_UCS_4BE rfl fun T8 X8 e8 => ?_
          refine Gz.fin X8 (v := some (.ref s_UCS_4BE)) (fun h => by rw [hret] at h; cases h) hlk (by decide) (by decide) (fun fs hr => retA X8 hx hret (dd d1_34) hr rfl rfl) ?_
          rw [e8]
          exact ⟨(by unfold fPick; rw [if_neg hc1, if_neg hc3, if_neg hc5, if_pos hc7]), N0, rfl⟩
        · refine Gz.icmpYes 35 X0 hx (dd d1_28) (feq hc7).2 (by decide) (by decide) ?_
          refine Gz.iloadN 36 X0 hx (dd d1_35) rfl rfl ?_
          refine Gz.iconst 37 (4 : Int32) X0 hx (dd d1_36) rfl rfl ?_
          by_cases hc9 : p0 = (4 : Int32)
          · refine Gz.icmpNo 40 X0 hx (dd d1_37) (teq hc9).2 rfl ?_
            refine Gz.getS 43 X0 hx hZ hown (dd d1_40) (host := "") (Or.inl (ww hw 24 rfl)) Via.refl e0 S_s_UCS_4LE rfl fun T10 X10 e10 => ?_
            refine Gz.fin X10 (v := some (.ref s_UCS_4LE)) (fun h => by rw [hret] at h; cases h) hlk (by decide) (by decide) (fun fs hr => retA X10 hx hret (dd d1_43) hr rfl rfl) ?_
            rw [e10]
            exact ⟨(by unfold fPick; rw [if_neg hc1, if_neg hc3, if_neg hc5, if_neg hc7, if_pos hc9]), N0, rfl⟩
          · refine Gz.icmpYes 44 X0 hx (dd d1_37) (feq hc9).2 (by decide) (by decide) ?_
            refine Gz.getS 47 X0 hx hZ hown (dd d1_44) (host := "") (Or.inl (ww hw 32 rfl)) Via.refl e0 S_s_EBCDIC rfl fun T11 X11 e11 => ?_
            refine Gz.fin X11 (v := some (.ref s_EBCDIC)) (fun h => by rw [hret] at h; cases h) hlk (by decide) (by decide) (fun fs hr => retA X11 hx hret (dd d1_47) hr rfl rfl) ?_
            rw [e11]
            exact ⟨(by unfold fPick; rw [if_neg hc1, if_neg hc3, if_neg hc5, if_neg hc7, if_neg hc9]), N0, rfl⟩
theorem d3_0 : decode prog_62_method_13_code 0 = .ok (.aload_n 2, 1) := by decide +kernel
theorem d3_1 : decode prog_62_method_13_code 1 = .ok (.ifnull 13, 3) := by decide +kernel
theorem d3_14 : decode prog_62_method_13_code 14 = .ok (.iconst 0, 1) := by decide +kernel
theorem d3_15 : decode prog_62_method_13_code 15 = .ok (.istore_n 3, 1) := by decide +kernel
theorem d3_16 : decode prog_62_method_13_code 16 = .ok (.iconst 0, 1) := by decide +kernel
theorem d3_17 : decode prog_62_method_13_code 17 = .ok (.istore 4, 2) := by decide +kernel
theorem d3_19 : decode prog_62_method_13_code 19 = .ok (.iload_n 3, 1) := by decide +kernel
theorem d3_20 : decode prog_62_method_13_code 20 = .ok (.ifCond .eq 33, 3) := by decide +kernel
theorem d3_53 : decode prog_62_method_13_code 53 = .ok (.iload_n 3, 1) := by decide +kernel
theorem d3_54 : decode prog_62_method_13_code 54 = .ok (.ireturn, 1) := by decide +kernel
theorem pn_1 : plainName "com/example/arkivsjekk/arkivsjekk/XmlEncoding" = true := by first | (simp [plainName, overriddenIn]; done) | decide +kernel
theorem ef_rmSn (m : MethodId) (a0 : Addr) (p1 : Int32) : entryFrame m #[(.ref a0), (.int p1), .null] 5 = mkF m 0 #[.val (.ref a0), .val (.int p1), .val .null, .unset, .unset] [] := by first | (simp [entryFrame, mkF, argsToLocals, Value.category]; done) | rfl
def fSn (a0 : Addr) (p1 : Int32) : Int32 := (0 : Int32)
def Q_rmSn (Z : State) (a0 : Addr) (p1 : Int32) (h0 : Heap) (n0 : Nat) (v : Option Value) (h : Heap) (L : List Loc) : Prop := v = some (.int (fSn a0 p1)) ∧ Fr n0 L ∧ h = h0
set_option maxRecDepth 65536 in
set_option maxHeartbeats 40000000 in
theorem rmSn (l : Launch) (Z : State) (av0 : Array Value) (hw : ∀ d ∈ tables_1, d.before av0 Z = true) (ws : List Jvm.Cond) (a0 : Addr) (p1 : Int32) (h0 : Heap) (n0 : Nat) (Z0 : n0 ≤ h0.size)  :
    MetFree l (⟨"com/example/arkivsjekk/arkivsjekk/XmlEncoding", "startsWith", "([BI[B)Z"⟩ : MethodName) (head1 (Jvm.Cond.code (⟨"com/example/arkivsjekk/arkivsjekk/XmlEncoding", "startsWith", "([BI[B)Z"⟩ : MethodName) prog_62_method_13_code 5 (some .boolean) :: ws) ({ frames := 0, cells := 0, slots := 0, locals := 0 } : Room)) (fun a U => a = #[(.ref a0), (.int p1), .null] ∧ Z.Warmed39 U.vm ∧ U.heap = h0) (fun _ _ _ _ _ => True) (fun _ U o U' => ∃ v L, o = .returned v ∧ Q_rmSn Z a0 p1 h0 n0 v U'.heap L ∧ FrameEnd U o U' L ({ frames := 0, cells := 0, slots := 0, locals := 0 } : Room).cells ({ frames := 0, cells := 0, slots := 0, locals := 0 } : Room).slots) := by
  refine MetFree.of_bodySF (plainFor_of_name pn_1) hisR ?_
  intro p e s m args below meth c s₁ Bd hml0 hP hK
  obtain ⟨rfl, hZ, hh⟩ := hP
  have hx := Bd.exec
  have hby := Bd.bytes
  have hml : c.maxLocals = 5 := hml0
  have dd : ∀ {pc : Nat} {r : Except DecodeError (Instr × Nat)}, decode prog_62_method_13_code pc = r → decode c.code pc = r := fun q => hb hby q
  have hown : s.vm.findClass "com/example/arkivsjekk/arkivsjekk/XmlEncoding" = some m.cls := findClass_of_methodNamed Bd.named
  have hnm := (name_of_methodNamed Bd.named Bd.method).1
  have X0 : Stand p l e ({ frames := 0, cells := 0, slots := 0, locals := 0 } : Room) s m #[(.ref a0), (.int p1), .null] below meth c s₁ [] 0 0 := Stand.of_body Bd
  have e0 : s₁.heap = h0 := by rw [← hh, Bd.state]; rfl
  have N0 := Fr.nil n0
  have hret := Bd.returns
  have hlk := Bd.notSynchronized
  show Gz p e below s ({ frames := 0, cells := 0, slots := 0, locals := 0 } : Room).cells ({ frames := 0, cells := 0, slots := 0, locals := 0 } : Room).slots (Q_rmSn Z a0 p1 h0 n0) (s₁.setTop (entryFrame m #[(.ref a0), (.int p1), .null] 5))
  refine Gz.enter (ef_rmSn m a0 p1) ?_
  refine Gz.aloadN 1 X0 hx (dd d3_0) rfl rfl rfl ?_
  refine Gz.ifnullYes 14 X0 hx (dd d3_1) (by decide) (by decide) ?_
  refine Gz.iconst 15 (0 : Int32) X0 hx (dd d3_14) rfl rfl ?_
  refine Gz.istoreN 16 #[.val (.ref a0), .val (.int p1), .val .null, .val (.int (0 : Int32)), .unset] X0 hx (dd d3_15) rfl rfl ?_
  refine Gz.iconst 17 (0 : Int32) X0 hx (dd d3_16) rfl rfl ?_
  refine Gz.istore 19 #[.val (.ref a0), .val (.int p1), .val .null, .val (.int (0 : Int32)), .val (.int (0 : Int32))] X0 hx (dd d3_17) rfl rfl ?_
  refine Gz.iloadN 20 X0 hx (dd d3_19) rfl rfl ?_
  refine Gz.ifYes 53 X0 hx (dd d3_20) ((if0 _ _).trans (teq (by decide : (0 : Int32) = (0 : Int32))).1) (by decide) (by decide) ?_
  refine Gz.iloadN 54 X0 hx (dd d3_53) rfl rfl ?_
  refine Gz.fin X0 (v := some (.int (0 : Int32))) (fun h => by rw [hret] at h; cases h) hlk (by decide) (by decide) (fun fs hr => retN X0 hx (t := .boolean) hret (by simp) (dd d3_54) hr) ?_
  rw [e0]
  exact ⟨rfl, N0, rfl⟩
theorem d3_4 : decode prog_62_method_13_code 4 = .ok (.iload_n 1, 1) := by decide +kernel
theorem d3_5 : decode prog_62_method_13_code 5 = .ok (.aload_n 2, 1) := by decide +kernel
theorem d3_6 : decode prog_62_method_13_code 6 = .ok (.arraylength, 1) := by decide +kernel
theorem d3_7 : decode prog_62_method_13_code 7 = .ok (.if_icmp .lt 7, 3) := by decide +kernel
theorem d3_10 : decode prog_62_method_13_code 10 = .ok (.iconst 1, 1) := by decide +kernel
theorem d3_11 : decode prog_62_method_13_code 11 = .ok (.goto 4, 3) := by decide +kernel
theorem d3_23 : decode prog_62_method_13_code 23 = .ok (.iload 4, 2) := by decide +kernel
theorem d3_25 : decode prog_62_method_13_code 25 = .ok (.aload_n 2, 1) := by decide +kernel
theorem d3_26 : decode prog_62_method_13_code 26 = .ok (.arraylength, 1) := by decide +kernel
theorem d3_27 : decode prog_62_method_13_code 27 = .ok (.if_icmp .ge 26, 3) := by decide +kernel
theorem d3_30 : decode prog_62_method_13_code 30 = .ok (.aload_n 0, 1) := by decide +kernel
theorem d3_31 : decode prog_62_method_13_code 31 = .ok (.iload 4, 2) := by decide +kernel
theorem d3_33 : decode prog_62_method_13_code 33 = .ok (.baload, 1) := by decide +kernel
theorem d3_34 : decode prog_62_method_13_code 34 = .ok (.aload_n 2, 1) := by decide +kernel
theorem d3_35 : decode prog_62_method_13_code 35 = .ok (.iload 4, 2) := by decide +kernel
theorem d3_37 : decode prog_62_method_13_code 37 = .ok (.baload, 1) := by decide +kernel
theorem d3_38 : decode prog_62_method_13_code 38 = .ok (.if_icmp .ne 7, 3) := by decide +kernel
theorem d3_41 : decode prog_62_method_13_code 41 = .ok (.iconst 1, 1) := by decide +kernel
theorem d3_42 : decode prog_62_method_13_code 42 = .ok (.goto 4, 3) := by decide +kernel
theorem d3_45 : decode prog_62_method_13_code 45 = .ok (.iconst 0, 1) := by decide +kernel
theorem d3_46 : decode prog_62_method_13_code 46 = .ok (.istore_n 3, 1) := by decide +kernel
theorem d3_47 : decode prog_62_method_13_code 47 = .ok (.iinc 4 1, 3) := by decide +kernel
theorem d3_50 : decode prog_62_method_13_code 50 = .ok (.goto (-31), 3) := by decide +kernel
theorem ef_rmS2 (m : MethodId) (a0 : Addr) (p1 : Int32) (a2 : Addr) : entryFrame m #[(.ref a0), (.int p1), (.ref a2)] 5 = mkF m 0 #[.val (.ref a0), .val (.int p1), .val (.ref a2), .unset, .unset] [] := by first | (simp [entryFrame, mkF, argsToLocals, Value.category]; done) | rfl
def fS2 (a0 : Addr) (p1 : Int32) (a2 : Addr) (w0 : Int32) (w1 : Int32) (w2 : Int32) (w3 : Int32) (v0 : Int32) (v1 : Int32) : Int32 := (if p1 < (2 : Int32) then (0 : Int32) else (if w0 = v0 then (if w1 = v1 then (1 : Int32) else (0 : Int32)) else (0 : Int32)))
def Q_rmS2 (Z : State) (a0 : Addr) (p1 : Int32) (a2 : Addr) (k_a0 : ClassId) (w0 : Int32) (w1 : Int32) (w2 : Int32) (w3 : Int32) (k_a2 : ClassId) (v0 : Int32) (v1 : Int32) (h0 : Heap) (n0 : Nat) (v : Option Value) (h : Heap) (L : List Loc) : Prop := v = some (.int (fS2 a0 p1 a2 w0 w1 w2 w3 v0 v1)) ∧ Fr n0 L ∧ h = h0
set_option maxRecDepth 65536 in
set_option maxHeartbeats 40000000 in
theorem rmS2 (l : Launch) (Z : State) (av0 : Array Value) (hw : ∀ d ∈ tables_1, d.before av0 Z = true) (ws : List Jvm.Cond) (a0 : Addr) (p1 : Int32) (a2 : Addr) (k_a0 : ClassId) (w0 : Int32) (w1 : Int32) (w2 : Int32) (w3 : Int32) (k_a2 : ClassId) (v0 : Int32) (v1 : Int32) (h0 : Heap) (n0 : Nat) (Z0 : n0 ≤ h0.size) (V_a0 : Arv Z h0 a0 k_a0 .byte (4 : Int32) [(.int w0), (.int w1), (.int w2), (.int w3)] (.int (0 : Int32))) (V_a2 : Arv Z h0 a2 k_a2 .byte (2 : Int32) [(.int v0), (.int v1)] (.int (0 : Int32))) :
    MetFree l (⟨"com/example/arkivsjekk/arkivsjekk/XmlEncoding", "startsWith", "([BI[B)Z"⟩ : MethodName) (head1 (Jvm.Cond.code (⟨"com/example/arkivsjekk/arkivsjekk/XmlEncoding", "startsWith", "([BI[B)Z"⟩ : MethodName) prog_62_method_13_code 5 (some .boolean) :: ws) ({ frames := 0, cells := 0, slots := 0, locals := 0 } : Room)) (fun a U => a = #[(.ref a0), (.int p1), (.ref a2)] ∧ Z.Warmed39 U.vm ∧ U.heap = h0) (fun _ _ _ _ _ => True) (fun _ U o U' => ∃ v L, o = .returned v ∧ Q_rmS2 Z a0 p1 a2 k_a0 w0 w1 w2 w3 k_a2 v0 v1 h0 n0 v U'.heap L ∧ FrameEnd U o U' L ({ frames := 0, cells := 0, slots := 0, locals := 0 } : Room).cells ({ frames := 0, cells := 0, slots := 0, locals := 0 } : Room).slots) := by
  refine MetFree.of_bodySF (plainFor_of_name pn_1) hisR ?_
  intro p e s m args below meth c s₁ Bd hml0 hP hK
  obtain ⟨rfl, hZ, hh⟩ := hP
  have hx := Bd.exec
  have hby := Bd.bytes
  have hml : c.maxLocals = 5 := hml0
  have dd : ∀ {pc : Nat} {r : Except DecodeError (Instr × Nat)}, decode prog_62_method_13_code pc = r → decode c.code pc = r := fun q => hb hby q
  have hown : s.vm.findClass "com/example/arkivsjekk/arkivsjekk/XmlEncoding" = some m.cls := findClass_of_methodNamed Bd.named
  have hnm := (name_of_methodNamed Bd.named Bd.method).1
  have X0 : Stand p l e ({ frames := 0, cells := 0, slots := 0, locals := 0 } : Room) s m #[(.ref a0), (.int p1), (.ref a2)] below meth c s₁ [] 0 0 := Stand.of_body Bd
  have e0 : s₁.heap = h0 := by rw [← hh, Bd.state]; rfl
  have N0 := Fr.nil n0
  have hret := Bd.returns
  have hlk := Bd.notSynchronized
  show Gz p e below s ({ frames := 0, cells := 0, slots := 0, locals := 0 } : Room).cells ({ frames := 0, cells := 0, slots := 0, locals := 0 } : Room).slots (Q_rmS2 Z a0 p1 a2 k_a0 w0 w1 w2 w3 k_a2 v0 v1 h0 n0) (s₁.setTop (entryFrame m #[(.ref a0), (.int p1), (.ref a2)] 5))
  refine Gz.enter (ef_rmS2 m a0 p1 a2) ?_
  refine Gz.aloadN 1 X0 hx (dd d3_0) rfl rfl rfl ?_
  refine Gz.ifnullNo 4 X0 hx (dd d3_1) rfl ?_
  refine Gz.iloadN 5 X0 hx (dd d3_4) rfl rfl ?_
  refine Gz.aloadN 6 X0 hx (dd d3_5) rfl rfl rfl ?_
  obtain ⟨c1, A1, -, S1, N1, -, -⟩ := id V_a2
  refine Gz.alen 7 X0 hx hZ (dd d3_6) e0 A1 S1 N1 rfl ?_
  by_cases hc2 : p1 < (2 : Int32)
  · refine Gz.icmpYes 14 X0 hx (dd d3_7) (tlt hc2).1 (by decide) (by decide) ?_
    refine Gz.iconst 15 (0 : Int32) X0 hx (dd d3_14) rfl rfl ?_
    refine Gz.istoreN 16 #[.val (.ref a0), .val (.int p1), .val (.ref a2), .val (.int (0 : Int32)), .unset] X0 hx (dd d3_15) rfl rfl ?_
    refine Gz.iconst 17 (0 : Int32) X0 hx (dd d3_16) rfl rfl ?_
    refine Gz.istore 19 #[.val (.ref a0), .val (.int p1), .val (.ref a2), .val (.int (0 : Int32)), .val (.int (0 : Int32))] X0 hx (dd d3_17) rfl rfl ?_
    refine Gz.iloadN 20 X0 hx (dd d3_19) rfl rfl ?_
    refine Gz.ifYes 53 X0 hx (dd d3_20) ((if0 _ _).trans (teq (by decide : (0 : Int32) = (0 : Int32))).1) (by decide) (by decide) ?_
    refine Gz.iloadN 54 X0 hx (dd d3_53) rfl rfl ?_
    refine Gz.fin X0 (v := some (.int (0 : Int32))) (fun h => by rw [hret] at h; cases h) hlk (by decide) (by decide) (fun fs hr => retN X0 hx (t := .boolean) hret (by simp) (dd d3_54) hr) ?_
    rw [e0]
    exact ⟨(by unfold fS2; rw [if_pos hc2]), N0, rfl⟩
  · refine Gz.icmpNo 10 X0 hx (dd d3_7) (flt hc2).1 rfl ?_
    refine Gz.iconst 11 (1 : Int32) X0 hx (dd d3_10) rfl rfl ?_
    refine Gz.goto 15 X0 hx (dd d3_11) (by decide) (by decide) ?_
    refine Gz.istoreN 16 #[.val (.ref a0), .val (.int p1), .val (.ref a2), .val (.int (1 : Int32)), .unset] X0 hx (dd d3_15) rfl rfl ?_
    refine Gz.iconst 17 (0 : Int32) X0 hx (dd d3_16) rfl rfl ?_
    refine Gz.istore 19 #[.val (.ref a0), .val (.int p1), .val (.ref a2), .val (.int (1 : Int32)), .val (.int (0 : Int32))] X0 hx (dd d3_17) rfl rfl ?_
    refine Gz.iloadN 20 X0 hx (dd d3_19) rfl rfl ?_
    refine Gz.ifNo 23 X0 hx (dd d3_20) ((if0 _ _).trans (feq (by decide : ¬ ((1 : Int32) = (0 : Int32)))).1) rfl ?_
    refine Gz.iload 25 X0 hx (dd d3_23) rfl rfl ?_
    refine Gz.aloadN 26 X0 hx (dd d3_25) rfl rfl rfl ?_
    obtain ⟨c3, A3, -, S3, N3, -, -⟩ := id V_a2
    refine Gz.alen 27 X0 hx hZ (dd d3_26) e0 A3 S3 N3 rfl ?_
    refine Gz.icmpNo 30 X0 hx (dd d3_27) (tlt (by decide : (0 : Int32) < (2 : Int32))).2.1 rfl ?_
    refine Gz.aloadN 31 X0 hx (dd d3_30) rfl rfl rfl ?_
    refine Gz.iload 33 X0 hx (dd d3_31) rfl rfl ?_
    obtain ⟨c4, A4, q4, S4, N4, H4, G4⟩ := id V_a0
    have hin4 : ¬ ((0 : Int32) < 0 ∨ c4.slots.size ≤ ((0 : Int32)).toNatClampNeg) := inb_of S4 ⟨by decide, by decide⟩
    refine Gz.ldB 34 X0 hx hZ (dd d3_33) e0 A4 hin4 (Has.at H4 hin4 (rfl : _ = ((.int w0) : Value))) rfl ?_
    refine Gz.aloadN 35 X0 hx (dd d3_34) rfl rfl rfl ?_
    refine Gz.iload 37 X0 hx (dd d3_35) rfl rfl ?_
    obtain ⟨c5, A5, q5, S5, N5, H5, G5⟩ := id V_a2
    have hin5 : ¬ ((0 : Int32) < 0 ∨ c5.slots.size ≤ ((0 : Int32)).toNatClampNeg) := inb_of S5 ⟨by decide, by decide⟩
    refine Gz.ldB 38 X0 hx hZ (dd d3_37) e0 A5 hin5 (Has.at H5 hin5 (rfl : _ = ((.int v0) : Value))) rfl ?_
    by_cases hc6 : w0 = v0
    · refine Gz.icmpNo 41 X0 hx (dd d3_38) (teq hc6).2 rfl ?_
      refine Gz.iconst 42 (1 : Int32) X0 hx (dd d3_41) rfl rfl ?_
      refine Gz.goto 46 X0 hx (dd d3_42) (by decide) (by decide) ?_
      refine Gz.istoreN 47 #[.val (.ref a0), .val (.int p1), .val (.ref a2), .val (.int (1 : Int32)), .val (.int (0 : Int32))] X0 hx (dd d3_46) rfl rfl ?_
      refine Gz.iinc 50 #[.val (.ref a0), .val (.int p1), .val (.ref a2), .val (.int (1 : Int32)), .val (.int (1 : Int32))] X0 hx (dd d3_47) rfl rfl rfl ?_
      refine Gz.goto 19 X0 hx (dd d3_50) (by decide) (by decide) ?_
      refine Gz.iloadN 20 X0 hx (dd d3_19) rfl rfl ?_
      refine Gz.ifNo 23 X0 hx (dd d3_20) ((if0 _ _).trans (feq (by decide : ¬ ((1 : Int32) = (0 : Int32)))).1) rfl ?_
      refine Gz.iload 25 X0 hx (dd d3_23) rfl rfl ?_
      refine Gz.aloadN 26 X0 hx (dd d3_25) rfl rfl rfl ?_
      obtain ⟨c7, A7, -, S7, N7, -, -⟩ := id V_a2
      refine Gz.alen 27 X0 hx hZ (dd d3_26) e0 A7 S7 N7 rfl ?_
      refine Gz.icmpNo 30 X0 hx (dd d3_27) (tlt (by decide : (1 : Int32) < (2 : Int32))).2.1 rfl ?_
      refine Gz.aloadN 31 X0 hx (dd d3_30) rfl rfl rfl ?_
      refine Gz.iload 33 X0 hx (dd d3_31) rfl rfl ?_
      obtain ⟨c8, A8, q8, S8, N8, H8, G8⟩ := id V_a0
      have hin8 : ¬ ((1 : Int32) < 0 ∨ c8.slots.size ≤ ((1 : Int32)).toNatClampNeg) := inb_of S8 ⟨by decide, by decide⟩
      refine Gz.ldB 34 X0 hx hZ (dd d3_33) e0 A8 hin8 (Has.at H8 hin8 (rfl : _ = ((.int w1) : Value))) rfl ?_
      refine Gz.aloadN 35 X0 hx (dd d3_34) rfl rfl rfl ?_
      refine Gz.iload 37 X0 hx (dd d3_35) rfl rfl ?_
      obtain ⟨c9, A9, q9, S9, N9, H9, G9⟩ := id V_a2
      have hin9 : ¬ ((1 : Int32) < 0 ∨ c9.slots.size ≤ ((1 : Int32)).toNatClampNeg) := inb_of S9 ⟨by decide, by decide⟩
      refine Gz.ldB 38 X0 hx hZ (dd d3_37) e0 A9 hin9 (Has.at H9 hin9 (rfl : _ = ((.int v1) : Value))) rfl ?_
      by_cases hc10 : w1 = v1
      · refine Gz.icmpNo 41 X0 hx (dd d3_38) (teq hc10).2 rfl ?_
        refine Gz.iconst 42 (1 : Int32) X0 hx (dd d3_41) rfl rfl ?_
        refine Gz.goto 46 X0 hx (dd d3_42) (by decide) (by decide) ?_
        refine Gz.istoreN 47 #[.val (.ref a0), .val (.int p1), .val (.ref a2), .val (.int (1 : Int32)), .val (.int (1 : Int32))] X0 hx (dd d3_46) rfl rfl ?_
        refine Gz.iinc 50 #[.val (.ref a0), .val (.int p1), .val (.ref a2), .val (.int (1 : Int32)), .val (.int (2 : Int32))] X0 hx (dd d3_47) rfl rfl rfl ?_
        refine Gz.goto 19 X0 hx (dd d3_50) (by decide) (by decide) ?_
        refine Gz.iloadN 20 X0 hx (dd d3_19) rfl rfl ?_
        refine Gz.ifNo 23 X0 hx (dd d3_20) ((if0 _ _).trans (feq (by decide : ¬ ((1 : Int32) = (0 : Int32)))).1) rfl ?_
        refine Gz.iload 25 X0 hx (dd d3_23) rfl rfl ?_
        refine Gz.aloadN 26 X0 hx (dd d3_25) rfl rfl rfl ?_
        obtain ⟨c11, A11, -, S11, N11, -, -⟩ := id V_a2
        refine Gz.alen 27 X0 hx hZ (dd d3_26) e0 A11 S11 N11 rfl ?_
        refine Gz.icmpYes 53 X0 hx (dd d3_27) (flt (by decide : ¬ ((2 : Int32) < (2 : Int32)))).2.1 (by decide) (by decide) ?_
        refine Gz.iloadN 54 X0 hx (dd d3_53) rfl rfl ?_
        refine Gz.fin X0 (v := some (.int (1 : Int32))) (fun h => by rw [hret] at h; cases h) hlk (by decide) (by decide) (fun fs hr => retN X0 hx (t := .boolean) hret (by simp) (dd d3_54) hr) ?_
        rw [e0]
        exact ⟨(by unfold fS2; rw [if_neg hc2, if_pos hc6, if_pos hc10]), N0, rfl⟩
      · refine Gz.icmpYes 45 X0 hx (dd d3_38) (feq hc10).2 (by decide) (by decide) ?_
        refine Gz.iconst 46 (0 : Int32) X0 hx (dd d3_45) rfl rfl ?_
        refine Gz.istoreN 47 #[.val (.ref a0), .val (.int p1), .val (.ref a2), .val (.int (0 : Int32)), .val (.int (1 : Int32))] X0 hx (dd d3_46) rfl rfl ?_
        refine Gz.iinc 50 #[.val (.ref a0), .val (.int p1), .val (.ref a2), .val (.int (0 : Int32)), .val (.int (2 : Int32))] X0 hx (dd d3_47) rfl rfl rfl ?_
        refine Gz.goto 19 X0 hx (dd d3_50) (by decide) (by decide) ?_
        refine Gz.iloadN 20 X0 hx (dd d3_19) rfl rfl ?_
        refine Gz.ifYes 53 X0 hx (dd d3_20) ((if0 _ _).trans (teq (by decide : (0 : Int32) = (0 : Int32))).1) (by decide) (by decide) ?_
        refine Gz.iloadN 54 X0 hx (dd d3_53) rfl rfl ?_
        refine Gz.fin X0 (v := some (.int (0 : Int32))) (fun h => by rw [hret] at h; cases h) hlk (by decide) (by decide) (fun fs hr => retN X0 hx (t := .boolean) hret (by simp) (dd d3_54) hr) ?_
        rw [e0]
        exact ⟨(by unfold fS2; rw [if_neg hc2, if_pos hc6, if_neg hc10]), N0, rfl⟩
    · refine Gz.icmpYes 45 X0 hx (dd d3_38) (feq hc6).2 (by decide) (by decide) ?_
      refine Gz.iconst 46 (0 : Int32) X0 hx (dd d3_45) rfl rfl ?_
      refine Gz.istoreN 47 #[.val (.ref a0), .val (.int p1), .val (.ref a2), .val (.int (0 : Int32)), .val (.int (0 : Int32))] X0 hx (dd d3_46) rfl rfl ?_
      refine Gz.iinc 50 #[.val (.ref a0), .val (.int p1), .val (.ref a2), .val (.int (0 : Int32)), .val (.int (1 : Int32))] X0 hx (dd d3_47) rfl rfl rfl ?_
      refine Gz.goto 19 X0 hx (dd d3_50) (by decide) (by decide) ?_
      refine Gz.iloadN 20 X0 hx (dd d3_19) rfl rfl ?_
      refine Gz.ifYes 53 X0 hx (dd d3_20) ((if0 _ _).trans (teq (by decide : (0 : Int32) = (0 : Int32))).1) (by decide) (by decide) ?_
      refine Gz.iloadN 54 X0 hx (dd d3_53) rfl rfl ?_
      refine Gz.fin X0 (v := some (.int (0 : Int32))) (fun h => by rw [hret] at h; cases h) hlk (by decide) (by decide) (fun fs hr => retN X0 hx (t := .boolean) hret (by simp) (dd d3_54) hr) ?_
      rw [e0]
      exact ⟨(by unfold fS2; rw [if_neg hc2, if_neg hc6]), N0, rfl⟩
theorem ef_rmS3 (m : MethodId) (a0 : Addr) (p1 : Int32) (a2 : Addr) : entryFrame m #[(.ref a0), (.int p1), (.ref a2)] 5 = mkF m 0 #[.val (.ref a0), .val (.int p1), .val (.ref a2), .unset, .unset] [] := by first | (simp [entryFrame, mkF, argsToLocals, Value.category]; done) | rfl
def fS3 (a0 : Addr) (p1 : Int32) (a2 : Addr) (w0 : Int32) (w1 : Int32) (w2 : Int32) (w3 : Int32) (v0 : Int32) (v1 : Int32) (v2 : Int32) : Int32 := (if p1 < (3 : Int32) then (0 : Int32) else (if w0 = v0 then (if w1 = v1 then (if w2 = v2 then (1 : Int32) else (0 : Int32)) else (0 : Int32)) else (0 : Int32)))
def Q_rmS3 (Z : State) (a0 : Addr) (p1 : Int32) (a2 : Addr) (k_a0 : ClassId) (w0 : Int32) (w1 : Int32) (w2 : Int32) (w3 : Int32) (k_a2 : ClassId) (v0 : Int32) (v1 : Int32) (v2 : Int32) (h0 : Heap) (n0 : Nat) (v : Option Value) (h : Heap) (L : List Loc) : Prop := v = some (.int (fS3 a0 p1 a2 w0 w1 w2 w3 v0 v1 v2)) ∧ Fr n0 L ∧ h = h0
set_option maxRecDepth 65536 in
set_option maxHeartbeats 40000000 in
theorem rmS3 (l : Launch) (Z : State) (av0 : Array Value) (hw : ∀ d ∈ tables_1, d.before av0 Z = true) (ws : List Jvm.Cond) (a0 : Addr) (p1 : Int32) (a2 : Addr) (k_a0 : ClassId) (w0 : Int32) (w1 : Int32) (w2 : Int32) (w3 : Int32) (k_a2 : ClassId) (v0 : Int32) (v1 : Int32) (v2 : Int32) (h0 : Heap) (n0 : Nat) (Z0 : n0 ≤ h0.size) (V_a0 : Arv Z h0 a0 k_a0 .byte (4 : Int32) [(.int w0), (.int w1), (.int w2), (.int w3)] (.int (0 : Int32))) (V_a2 : Arv Z h0 a2 k_a2 .byte (3 : Int32) [(.int v0), (.int v1), (.int v2)] (.int (0 : Int32))) :
    MetFree l (⟨"com/example/arkivsjekk/arkivsjekk/XmlEncoding", "startsWith", "([BI[B)Z"⟩ : MethodName) (head1 (Jvm.Cond.code (⟨"com/example/arkivsjekk/arkivsjekk/XmlEncoding", "startsWith", "([BI[B)Z"⟩ : MethodName) prog_62_method_13_code 5 (some .boolean) :: ws) ({ frames := 0, cells := 0, slots := 0, locals := 0 } : Room)) (fun a U => a = #[(.ref a0), (.int p1), (.ref a2)] ∧ Z.Warmed39 U.vm ∧ U.heap = h0) (fun _ _ _ _ _ => True) (fun _ U o U' => ∃ v L, o = .returned v ∧ Q_rmS3 Z a0 p1 a2 k_a0 w0 w1 w2 w3 k_a2 v0 v1 v2 h0 n0 v U'.heap L ∧ FrameEnd U o U' L ({ frames := 0, cells := 0, slots := 0, locals := 0 } : Room).cells ({ frames := 0, cells := 0, slots := 0, locals := 0 } : Room).slots) := by
  refine MetFree.of_bodySF (plainFor_of_name pn_1) hisR ?_
  intro p e s m args below meth c s₁ Bd hml0 hP hK
  obtain ⟨rfl, hZ, hh⟩ := hP
  have hx := Bd.exec
  have hby := Bd.bytes
  have hml : c.maxLocals = 5 := hml0
  have dd : ∀ {pc : Nat} {r : Except DecodeError (Instr × Nat)}, decode prog_62_method_13_code pc = r → decode c.code pc = r := fun q => hb hby q
  have hown : s.vm.findClass "com/example/arkivsjekk/arkivsjekk/XmlEncoding" = some m.cls := findClass_of_methodNamed Bd.named
  have hnm := (name_of_methodNamed Bd.named Bd.method).1
  have X0 : Stand p l e ({ frames := 0, cells := 0, slots := 0, locals := 0 } : Room) s m #[(.ref a0), (.int p1), (.ref a2)] below meth c s₁ [] 0 0 := Stand.of_body Bd
  have e0 : s₁.heap = h0 := by rw [← hh, Bd.state]; rfl
  have N0 := Fr.nil n0
  have hret := Bd.returns
  have hlk := Bd.notSynchronized
  show Gz p e below s ({ frames := 0, cells := 0, slots := 0, locals := 0 } : Room).cells ({ frames := 0, cells := 0, slots := 0, locals := 0 } : Room).slots (Q_rmS3 Z a0 p1 a2 k_a0 w0 w1 w2 w3 k_a2 v0 v1 v2 h0 n0) (s₁.setTop (entryFrame m #[(.ref a0), (.int p1), (.ref a2)] 5))
  refine Gz.enter (ef_rmS3 m a0 p1 a2) ?_
  refine Gz.aloadN 1 X0 hx (dd d3_0) rfl rfl rfl ?_
  refine Gz.ifnullNo 4 X0 hx (dd d3_1) rfl ?_
  refine Gz.iloadN 5 X0 hx (dd d3_4) rfl rfl ?_
  refine Gz.aloadN 6 X0 hx (dd d3_5) rfl rfl rfl ?_
  obtain ⟨c1, A1, -, S1, N1, -, -⟩ := id V_a2
  refine Gz.alen 7 X0 hx hZ (dd d3_6) e0 A1 S1 N1 rfl ?_
  by_cases hc2 : p1 < (3 : Int32)
  · refine Gz.icmpYes 14 X0 hx (dd d3_7) (tlt hc2).1 (by decide) (by decide) ?_
    refine Gz.iconst 15 (0 : Int32) X0 hx (dd d3_14) rfl rfl ?_
    refine Gz.istoreN 16 #[.val (.ref a0), .val (.int p1), .val (.ref a2), .val (.int (0 : Int32)), .unset] X0 hx (dd d3_15) rfl rfl ?_
    refine Gz.iconst 17 (0 : Int32) X0 hx (dd d3_16) rfl rfl ?_
    refine Gz.istore 19 #[.val (.ref a0), .val (.int p1), .val (.ref a2), .val (.int (0 : Int32)), .val (.int (0 : Int32))] X0 hx (dd d3_17) rfl rfl ?_
    refine Gz.iloadN 20 X0 hx (dd d3_19) rfl rfl ?_
    refine Gz.ifYes 53 X0 hx (dd d3_20) ((if0 _ _).trans (teq (by decide : (0 : Int32) = (0 : Int32))).1) (by decide) (by decide) ?_
    refine Gz.iloadN 54 X0 hx (dd d3_53) rfl rfl ?_
    refine Gz.fin X0 (v := some (.int (0 : Int32))) (fun h => by rw [hret] at h; cases h) hlk (by decide) (by decide) (fun fs hr => retN X0 hx (t := .boolean) hret (by simp) (dd d3_54) hr) ?_
    rw [e0]
    exact ⟨(by unfold fS3; rw [if_pos hc2]), N0, rfl⟩
  · refine Gz.icmpNo 10 X0 hx (dd d3_7) (flt hc2).1 rfl ?_
    refine Gz.iconst 11 (1 : Int32) X0 hx (dd d3_10) rfl rfl ?_
    refine Gz.goto 15 X0 hx (dd d3_11) (by decide) (by decide) ?_
    refine Gz.istoreN 16 #[.val (.ref a0), .val (.int p1), .val (.ref a2), .val (.int (1 : Int32)), .unset] X0 hx (dd d3_15) rfl rfl ?_
    refine Gz.iconst 17 (0 : Int32) X0 hx (dd d3_16) rfl rfl ?_
    refine Gz.istore 19 #[.val (.ref a0), .val (.int p1), .val (.ref a2), .val (.int (1 : Int32)), .val (.int (0 : Int32))] X0 hx (dd d3_17) rfl rfl ?_
    refine Gz.iloadN 20 X0 hx (dd d3_19) rfl rfl ?_
    refine Gz.ifNo 23 X0 hx (dd d3_20) ((if0 _ _).trans (feq (by decide : ¬ ((1 : Int32) = (0 : Int32)))).1) rfl ?_
    refine Gz.iload 25 X0 hx (dd d3_23) rfl rfl ?_
    refine Gz.aloadN 26 X0 hx (dd d3_25) rfl rfl rfl ?_
    obtain ⟨c3, A3, -, S3, N3, -, -⟩ := id V_a2
    refine Gz.alen 27 X0 hx hZ (dd d3_26) e0 A3 S3 N3 rfl ?_
    refine Gz.icmpNo 30 X0 hx (dd d3_27) (tlt (by decide : (0 : Int32) < (3 : Int32))).2.1 rfl ?_
    refine Gz.aloadN 31 X0 hx (dd d3_30) rfl rfl rfl ?_
    refine Gz.iload 33 X0 hx (dd d3_31) rfl rfl ?_
    obtain ⟨c4, A4, q4, S4, N4, H4, G4⟩ := id V_a0
    have hin4 : ¬ ((0 : Int32) < 0 ∨ c4.slots.size ≤ ((0 : Int32)).toNatClampNeg) := inb_of S4 ⟨by decide, by decide⟩
    refine Gz.ldB 34 X0 hx hZ (dd d3_33) e0 A4 hin4 (Has.at H4 hin4 (rfl : _ = ((.int w0) : Value))) rfl ?_
    refine Gz.aloadN 35 X0 hx (dd d3_34) rfl rfl rfl ?_
    refine Gz.iload 37 X0 hx (dd d3_35) rfl rfl ?_
    obtain ⟨c5, A5, q5, S5, N5, H5, G5⟩ := id V_a2
    have hin5 : ¬ ((0 : Int32) < 0 ∨ c5.slots.size ≤ ((0 : Int32)).toNatClampNeg) := inb_of S5 ⟨by decide, by decide⟩
    refine Gz.ldB 38 X0 hx hZ (dd d3_37) e0 A5 hin5 (Has.at H5 hin5 (rfl : _ = ((.int v0) : Value))) rfl ?_
    by_cases hc6 : w0 = v0
    · refine Gz.icmpNo 41 X0 hx (dd d3_38) (teq hc6).2 rfl ?_
      refine Gz.iconst 42 (1 : Int32) X0 hx (dd d3_41) rfl rfl ?_
      refine Gz.goto 46 X0 hx (dd d3_42) (by decide) (by decide) ?_
      refine Gz.istoreN 47 #[.val (.ref a0), .val (.int p1), .val (.ref a2), .val (.int (1 : Int32)), .val (.int (0 : Int32))] X0 hx (dd d3_46) rfl rfl ?_
      refine Gz.iinc 50 #[.val (.ref a0), .val (.int p1), .val (.ref a2), .val (.int (1 : Int32)), .val (.int (1 : Int32))] X0 hx (dd d3_47) rfl rfl rfl ?_
      refine Gz.goto 19 X0 hx (dd d3_50) (by decide) (by decide) ?_
      refine Gz.iloadN 20 X0 hx (dd d3_19) rfl rfl ?_
      refine Gz.ifNo 23 X0 hx (dd d3_20) ((if0 _ _).trans (feq (by decide : ¬ ((1 : Int32) = (0 : Int32)))).1) rfl ?_
      refine Gz.iload 25 X0 hx (dd d3_23) rfl rfl ?_
      refine Gz.aloadN 26 X0 hx (dd d3_25) rfl rfl rfl ?_
      obtain ⟨c7, A7, -, S7, N7, -, -⟩ := id V_a2
      refine Gz.alen 27 X0 hx hZ (dd d3_26) e0 A7 S7 N7 rfl ?_
      refine Gz.icmpNo 30 X0 hx (dd d3_27) (tlt (by decide : (1 : Int32) < (3 : Int32))).2.1 rfl ?_
      refine Gz.aloadN 31 X0 hx (dd d3_30) rfl rfl rfl ?_
      refine Gz.iload 33 X0 hx (dd d3_31) rfl rfl ?_
      obtain ⟨c8, A8, q8, S8, N8, H8, G8⟩ := id V_a0
      have hin8 : ¬ ((1 : Int32) < 0 ∨ c8.slots.size ≤ ((1 : Int32)).toNatClampNeg) := inb_of S8 ⟨by decide, by decide⟩
      refine Gz.ldB 34 X0 hx hZ (dd d3_33) e0 A8 hin8 (Has.at H8 hin8 (rfl : _ = ((.int w1) : Value))) rfl ?_
      refine Gz.aloadN 35 X0 hx (dd d3_34) rfl rfl rfl ?_
      refine Gz.iload 37 X0 hx (dd d3_35) rfl rfl ?_
      obtain ⟨c9, A9, q9, S9, N9, H9, G9⟩ := id V_a2
      have hin9 : ¬ ((1 : Int32) < 0 ∨ c9.slots.size ≤ ((1 : Int32)).toNatClampNeg) := inb_of S9 ⟨by decide, by decide⟩
      refine Gz.ldB 38 X0 hx hZ (dd d3_37) e0 A9 hin9 (Has.at H9 hin9 (rfl : _ = ((.int v1) : Value))) rfl ?_
      by_cases hc10 : w1 = v1
      · refine Gz.icmpNo 41 X0 hx (dd d3_38) (teq hc10).2 rfl ?_
        refine Gz.iconst 42 (1 : Int32) X0 hx (dd d3_41) rfl rfl ?_
        refine Gz.goto 46 X0 hx (dd d3_42) (by decide) (by decide) ?_
        refine Gz.istoreN 47 #[.val (.ref a0), .val (.int p1), .val (.ref a2), .val (.int (1 : Int32)), .val (.int (1 : Int32))] X0 hx (dd d3_46) rfl rfl ?_
        refine Gz.iinc 50 #[.val (.ref a0), .val (.int p1), .val (.ref a2), .val (.int (1 : Int32)), .val (.int (2 : Int32))] X0 hx (dd d3_47) rfl rfl rfl ?_
        refine Gz.goto 19 X0 hx (dd d3_50) (by decide) (by decide) ?_
        refine Gz.iloadN 20 X0 hx (dd d3_19) rfl rfl ?_
        refine Gz.ifNo 23 X0 hx (dd d3_20) ((if0 _ _).trans (feq (by decide : ¬ ((1 : Int32) = (0 : Int32)))).1) rfl ?_
        refine Gz.iload 25 X0 hx (dd d3_23) rfl rfl ?_
        refine Gz.aloadN 26 X0 hx (dd d3_25) rfl rfl rfl ?_
        obtain ⟨c11, A11, -, S11, N11, -, -⟩ := id V_a2
        refine Gz.alen 27 X0 hx hZ (dd d3_26) e0 A11 S11 N11 rfl ?_
        refine Gz.icmpNo 30 X0 hx (dd d3_27) (tlt (by decide : (2 : Int32) < (3 : Int32))).2.1 rfl ?_
        refine Gz.aloadN 31 X0 hx (dd d3_30) rfl rfl rfl ?_
        refine Gz.iload 33 X0 hx (dd d3_31) rfl rfl ?_
        obtain ⟨c12, A12, q12, S12, N12, H12, G12⟩ := id V_a0
        have hin12 : ¬ ((2 : Int32) < 0 ∨ c12.slots.size ≤ ((2 : Int32)).toNatClampNeg) := inb_of S12 ⟨by decide, by decide⟩
        refine Gz.ldB 34 X0 hx hZ (dd d3_33) e0 A12 hin12 (Has.at H12 hin12 (rfl : _ = ((.int w2) : Value))) rfl ?_
        refine Gz.aloadN 35 X0 hx (dd d3_34) rfl rfl rfl ?_
        refine Gz.iload 37 X0 hx (dd d3_35) rfl rfl ?_
        obtain ⟨c13, A13, q13, S13, N13, H13, G13⟩ := id V_a2
        have hin13 : ¬ ((2 : Int32) < 0 ∨ c13.slots.size ≤ ((2 : Int32)).toNatClampNeg) := inb_of S13 ⟨by decide, by decide⟩
        refine Gz.ldB 38 X0 hx hZ (dd d3_37) e0 A13 hin13 (Has.at H13 hin13 (rfl : _ = ((.int v2) : Value))) rfl ?_
        by_cases hc14 : w2 = v2
        · refine Gz.icmpNo 41 X0 hx (dd d3_38) (teq hc14).2 rfl ?_
          refine Gz.iconst 42 (1 : Int32) X0 hx (dd d3_41) rfl rfl ?_
          refine Gz.goto 46 X0 hx (dd d3_42) (by decide) (by decide) ?_
          refine Gz.istoreN 47 #[.val (.ref a0), .val (.int p1), .val (.ref a2), .val (.int (1 : Int32)), .val (.int (2 : Int32))] X0 hx (dd d3_46) rfl rfl ?_
          refine Gz.iinc 50 #[.val (.ref a0), .val (.int p1), .val (.ref a2), .val (.int (1 : Int32)), .val (.int (3 : Int32))] X0 hx (dd d3_47) rfl rfl rfl ?_
          refine Gz.goto 19 X0 hx (dd d3_50) (by decide) (by decide) ?_
          refine Gz.iloadN 20 X0 hx (dd d3_19) rfl rfl ?_
          refine Gz.ifNo 23 X0 hx (dd d3_20) ((if0 _ _).trans (feq (by decide : ¬ ((1 : Int32) = (0 : Int32)))).1) rfl ?_
          refine Gz.iload 25 X0 hx (dd d3_23) rfl rfl ?_
          refine Gz.aloadN 26 X0 hx (dd d3_25) rfl rfl rfl ?_
          obtain ⟨c15, A15, -, S15, N15, -, -⟩ := id V_a2
          refine Gz.alen 27 X0 hx hZ (dd d3_26) e0 A15 S15 N15 rfl ?_
          refine Gz.icmpYes 53 X0 hx (dd d3_27) (flt (by decide : ¬ ((3 : Int32) < (3 : Int32)))).2.1 (by decide) (by decide) ?_
          refine Gz.iloadN 54 X0 hx (dd d3_53) rfl rfl ?_
          refine Gz.fin X0 (v := some (.int (1 : Int32))) (fun h => by rw [hret] at h; cases h) hlk (by decide) (by decide) (fun fs hr => retN X0 hx (t := .boolean) hret (by simp) (dd d3_54) hr) ?_
          rw [e0]
          exact ⟨(by unfold fS3; rw [if_neg hc2, if_pos hc6, if_pos hc10, if_pos hc14]), N0, rfl⟩
        · refine Gz.icmpYes 45 X0 hx (dd d3_38) (feq hc14).2 (by decide) (by decide) ?_
          refine Gz.iconst 46 (0 : Int32) X0 hx (dd d3_45) rfl rfl ?_
          refine Gz.istoreN 47 #[.val (.ref a0), .val (.int p1), .val (.ref a2), .val (.int (0 : Int32)), .val (.int (2 : Int32))] X0 hx (dd d3_46) rfl rfl ?_
          refine Gz.iinc 50 #[.val (.ref a0), .val (.int p1), .val (.ref a2), .val (.int (0 : Int32)), .val (.int (3 : Int32))] X0 hx (dd d3_47) rfl rfl rfl ?_
          refine Gz.goto 19 X0 hx (dd d3_50) (by decide) (by decide) ?_
          refine Gz.iloadN 20 X0 hx (dd d3_19) rfl rfl ?_
          refine Gz.ifYes 53 X0 hx (dd d3_20) ((if0 _ _).trans (teq (by decide : (0 : Int32) = (0 : Int32))).1) (by decide) (by decide) ?_
          refine Gz.iloadN 54 X0 hx (dd d3_53) rfl rfl ?_
          refine Gz.fin X0 (v := some (.int (0 : Int32))) (fun h => by rw [hret] at h; cases h) hlk (by decide) (by decide) (fun fs hr => retN X0 hx (t := .boolean) hret (by simp) (dd d3_54) hr) ?_
          rw [e0]
          exact ⟨(by unfold fS3; rw [if_neg hc2, if_pos hc6, if_pos hc10, if_neg hc14]), N0, rfl⟩
      · refine Gz.icmpYes 45 X0 hx (dd d3_38) (feq hc10).2 (by decide) (by decide) ?_
        refine Gz.iconst 46 (0 : Int32) X0 hx (dd d3_45) rfl rfl ?_
        refine Gz.istoreN 47 #[.val (.ref a0), .val (.int p1), .val (.ref a2), .val (.int (0 : Int32)), .val (.int (1 : Int32))] X0 hx (dd d3_46) rfl rfl ?_
        refine Gz.iinc 50 #[.val (.ref a0), .val (.int p1), .val (.ref a2), .val (.int (0 : Int32)), .val (.int (2 : Int32))] X0 hx (dd d3_47) rfl rfl rfl ?_
        refine Gz.goto 19 X0 hx (dd d3_50) (by decide) (by decide) ?_
        refine Gz.iloadN 20 X0 hx (dd d3_19) rfl rfl ?_
        refine Gz.ifYes 53 X0 hx (dd d3_20) ((if0 _ _).trans (teq (by decide : (0 : Int32) = (0 : Int32))).1) (by decide) (by decide) ?_
        refine Gz.iloadN 54 X0 hx (dd d3_53) rfl rfl ?_
        refine Gz.fin X0 (v := some (.int (0 : Int32))) (fun h => by rw [hret] at h; cases h) hlk (by decide) (by decide) (fun fs hr => retN X0 hx (t := .boolean) hret (by simp) (dd d3_54) hr) ?_
        rw [e0]
        exact ⟨(by unfold fS3; rw [if_neg hc2, if_pos hc6, if_neg hc10]), N0, rfl⟩
    · refine Gz.icmpYes 45 X0 hx (dd d3_38) (feq hc6).2 (by decide) (by decide) ?_
      refine Gz.iconst 46 (0 : Int32) X0 hx (dd d3_45) rfl rfl ?_
      refine Gz.istoreN 47 #[.val (.ref a0), .val (.int p1), .val (.ref a2), .val (.int (0 : Int32)), .val (.int (0 : Int32))] X0 hx (dd d3_46) rfl rfl ?_
      refine Gz.iinc 50 #[.val (.ref a0), .val (.int p1), .val (.ref a2), .val (.int (0 : Int32)), .val (.int (1 : Int32))] X0 hx (dd d3_47) rfl rfl rfl ?_
      refine Gz.goto 19 X0 hx (dd d3_50) (by decide) (by decide) ?_
      refine Gz.iloadN 20 X0 hx (dd d3_19) rfl rfl ?_
      refine Gz.ifYes 53 X0 hx (dd d3_20) ((if0 _ _).trans (teq (by decide : (0 : Int32) = (0 : Int32))).1) (by decide) (by decide) ?_
      refine Gz.iloadN 54 X0 hx (dd d3_53) rfl rfl ?_
      refine Gz.fin X0 (v := some (.int (0 : Int32))) (fun h => by rw [hret] at h; cases h) hlk (by decide) (by decide) (fun fs hr => retN X0 hx (t := .boolean) hret (by simp) (dd d3_54) hr) ?_
      rw [e0]
      exact ⟨(by unfold fS3; rw [if_neg hc2, if_neg hc6]), N0, rfl⟩
theorem pd_0 : parseMethodDescriptor "([BI[B)Z" = some ⟨[(.array .byte), .int, (.array .byte)], some .boolean⟩ := by decide +kernel
theorem d2_0 : decode prog_62_method_7_code 0 = .ok (.aload_n 1, 1) := by decide +kernel
theorem d2_1 : decode prog_62_method_7_code 1 = .ok (.iload_n 2, 1) := by decide +kernel
theorem d2_2 : decode prog_62_method_7_code 2 = .ok (.aload_n 0, 1) := by decide +kernel
theorem d2_3 : decode prog_62_method_7_code 3 = .ok (.getfield 53, 3) := by decide +kernel
theorem d2_6 : decode prog_62_method_7_code 6 = .ok (.invokestatic 74, 3) := by decide +kernel
theorem d2_9 : decode prog_62_method_7_code 9 = .ok (.ifCond .eq 16, 3) := by decide +kernel
theorem d2_25 : decode prog_62_method_7_code 25 = .ok (.iconst 0, 1) := by decide +kernel
theorem d2_26 : decode prog_62_method_7_code 26 = .ok (.ireturn, 1) := by decide +kernel
theorem ef_rmBn (m : MethodId) (a0 : Addr) (a1 : Addr) (p2 : Int32) : entryFrame m #[(.ref a0), (.ref a1), (.int p2)] 3 = mkF m 0 #[.val (.ref a0), .val (.ref a1), .val (.int p2)] [] := by first | (simp [entryFrame, mkF, argsToLocals, Value.category]; done) | rfl
def fBn (a0 : Addr) (a1 : Addr) (p2 : Int32) : Int32 := (0 : Int32)
def Q_rmBn (Z : State) (a0 : Addr) (a1 : Addr) (p2 : Int32) (h0 : Heap) (n0 : Nat) (v : Option Value) (h : Heap) (L : List Loc) : Prop := v = some (.int (fBn a0 a1 p2)) ∧ Fr n0 L ∧ h = h0
set_option maxRecDepth 65536 in
set_option maxHeartbeats 40000000 in
theorem rmBn (l : Launch) (Z : State) (av0 : Array Value) (hw : ∀ d ∈ tables_1, d.before av0 Z = true) (ws : List Jvm.Cond) (a0 : Addr) (a1 : Addr) (p2 : Int32) (h0 : Heap) (n0 : Nat) (Z0 : n0 ≤ h0.size) (F_byteOrderMark_a0 : Fld Z h0 a0 "com/example/arkivsjekk/arkivsjekk/XmlEncoding" "byteOrderMark" "[B" .null) :
    MetFree l (⟨"com/example/arkivsjekk/arkivsjekk/XmlEncoding", "byteOrderMarkUnits", "([BI)I"⟩ : MethodName) (head1 (Jvm.Cond.code (⟨"com/example/arkivsjekk/arkivsjekk/XmlEncoding", "byteOrderMarkUnits", "([BI)I"⟩ : MethodName) prog_62_method_7_code 3 (some .int) :: ws) ({ frames := 1, cells := 0, slots := 0, locals := 16 } : Room)) (fun a U => a = #[(.ref a0), (.ref a1), (.int p2)] ∧ Z.Warmed39 U.vm ∧ U.heap = h0) (fun _ _ _ _ _ => True) (fun _ U o U' => ∃ v L, o = .returned v ∧ Q_rmBn Z a0 a1 p2 h0 n0 v U'.heap L ∧ FrameEnd U o U' L ({ frames := 1, cells := 0, slots := 0, locals := 16 } : Room).cells ({ frames := 1, cells := 0, slots := 0, locals := 16 } : Room).slots) := by
  refine MetFree.of_bodySF (plainFor_of_name pn_1) hisR ?_
  intro p e s m args below meth c s₁ Bd hml0 hP hK
  obtain ⟨rfl, hZ, hh⟩ := hP
  have hx := Bd.exec
  have hby := Bd.bytes
  have hml : c.maxLocals = 3 := hml0
  have dd : ∀ {pc : Nat} {r : Except DecodeError (Instr × Nat)}, decode prog_62_method_7_code pc = r → decode c.code pc = r := fun q => hb hby q
  have hown : s.vm.findClass "com/example/arkivsjekk/arkivsjekk/XmlEncoding" = some m.cls := findClass_of_methodNamed Bd.named
  have hnm := (name_of_methodNamed Bd.named Bd.method).1
  have X0 : Stand p l e ({ frames := 1, cells := 0, slots := 0, locals := 16 } : Room) s m #[(.ref a0), (.ref a1), (.int p2)] below meth c s₁ [] 0 0 := Stand.of_body Bd
  have e0 : s₁.heap = h0 := by rw [← hh, Bd.state]; rfl
  have N0 := Fr.nil n0
  have hret := Bd.returns
  have hlk := Bd.notSynchronized
  show Gz p e below s ({ frames := 1, cells := 0, slots := 0, locals := 16 } : Room).cells ({ frames := 1, cells := 0, slots := 0, locals := 16 } : Room).slots (Q_rmBn Z a0 a1 p2 h0 n0) (s₁.setTop (entryFrame m #[(.ref a0), (.ref a1), (.int p2)] 3))
  refine Gz.enter (ef_rmBn m a0 a1 p2) ?_
  refine Gz.aloadN 1 X0 hx (dd d2_0) rfl rfl rfl ?_
  refine Gz.iloadN 2 X0 hx (dd d2_1) rfl rfl ?_
  refine Gz.aloadN 3 X0 hx (dd d2_2) rfl rfl rfl ?_
  refine Gz.getF 6 X0 hx hZ hown (dd d2_3) (host := "") (Or.inl (ww hw 14 rfl)) Via.refl e0 F_byteOrderMark_a0 rfl fun T1 X1 e1 => ?_
  obtain ⟨_, _, ⟨T2, L2, k2, n2⟩, -, X2, ⟨Lc2, hQ2, l2, y2, z2⟩, st2⟩ := Jvm.LawKit.callS X1 hx (y := (⟨"com/example/arkivsjekk/arkivsjekk/XmlEncoding", "startsWith", "([BI[B)Z"⟩ : MethodName)) hown (mvT hZ (ww hw 16 rfl)) (mvT hZ (ww hw 17 rfl)) (mvT hZ (ww hw 6 rfl)) (mvT hZ (ww hw 18 rfl)) (by decide) (backOf (W := 0) (rmSn l Z av0 hw [] a1 p2  h0 n0 Z0 ) hZ (ww hw 18 rfl) (ww hw 6 rfl) (by decide) (by decide)) (g := (mkF m 6 #[.val (.ref a0), .val (.ref a1), .val (.int p2)] [.null, (.int p2), (.ref a1)])) rfl (by rw [hml]; rfl) (argsL := [(.ref a1), (.int p2), .null]) (rest := []) (lenOf pd_0 rfl) rfl (by show 2 * 0 + _ ≤ _; exact Nat.le_of_eq rfl) (dd d2_6) (fun _ _ => ⟨rfl, e1, (by decide : 0 + 0 ≤ _), (by decide : 0 + 0 ≤ _)⟩)
  dsimp only [Pt.U, Pt.locs, Pt.cells, Pt.slots, Q_rmSn] at X2 l2 y2 z2 st2 hQ2
  subst l2 y2 z2
  rw [show (fSn a1 p2) = (0 : Int32) from (by unfold fSn; rfl)] at hQ2
  obtain ⟨rfl, N2q, e2⟩ := hQ2
  have N2 := Fr.app N0 N2q
  refine Gz.st st2 ?_
  refine Gz.ifYes 25 X2 hx (dd d2_9) ((if0 _ _).trans (teq (by decide : (0 : Int32) = (0 : Int32))).1) (by decide) (by decide) ?_
  refine Gz.iconst 26 (0 : Int32) X2 hx (dd d2_25) rfl rfl ?_
  refine Gz.fin X2 (v := some (.int (0 : Int32))) (fun h => by rw [hret] at h; cases h) hlk (by decide) (by decide) (fun fs hr => retI X2 hx hret (dd d2_26) hr) ?_
  rw [e2]
  exact ⟨rfl, N2, rfl⟩
theorem d2_12 : decode prog_62_method_7_code 12 = .ok (.aload_n 0, 1) := by decide +kernel
theorem d2_13 : decode prog_62_method_7_code 13 = .ok (.getfield 53, 3) := by decide +kernel
theorem d2_16 : decode prog_62_method_7_code 16 = .ok (.arraylength, 1) := by decide +kernel
theorem d2_17 : decode prog_62_method_7_code 17 = .ok (.aload_n 0, 1) := by decide +kernel
theorem d2_18 : decode prog_62_method_7_code 18 = .ok (.getfield 45, 3) := by decide +kernel
theorem d2_21 : decode prog_62_method_7_code 21 = .ok (.idiv, 1) := by decide +kernel
theorem d2_22 : decode prog_62_method_7_code 22 = .ok (.goto 4, 3) := by decide +kernel
theorem ef_rmB3 (m : MethodId) (a0 : Addr) (a1 : Addr) (p2 : Int32) : entryFrame m #[(.ref a0), (.ref a1), (.int p2)] 3 = mkF m 0 #[.val (.ref a0), .val (.ref a1), .val (.int p2)] [] := by first | (simp [entryFrame, mkF, argsToLocals, Value.category]; done) | rfl
def fB3 (a0 : Addr) (a1 : Addr) (p2 : Int32) (bm : Addr) (w0 : Int32) (w1 : Int32) (w2 : Int32) (w3 : Int32) (v0 : Int32) (v1 : Int32) (v2 : Int32) : Int32 := (if (fS3 a1 p2 bm w0 w1 w2 w3 v0 v1 v2) = (0 : Int32) then (0 : Int32) else (3 : Int32))
def Q_rmB3 (Z : State) (a0 : Addr) (a1 : Addr) (p2 : Int32) (bm : Addr) (k_a1 : ClassId) (w0 : Int32) (w1 : Int32) (w2 : Int32) (w3 : Int32) (k_bm : ClassId) (v0 : Int32) (v1 : Int32) (v2 : Int32) (h0 : Heap) (n0 : Nat) (v : Option Value) (h : Heap) (L : List Loc) : Prop := v = some (.int (fB3 a0 a1 p2 bm w0 w1 w2 w3 v0 v1 v2)) ∧ Fr n0 L ∧ h = h0
set_option maxRecDepth 65536 in
set_option maxHeartbeats 40000000 in
theorem rmB3 (l : Launch) (Z : State) (av0 : Array Value) (hw : ∀ d ∈ tables_1, d.before av0 Z = true) (ws : List Jvm.Cond) (a0 : Addr) (a1 : Addr) (p2 : Int32) (bm : Addr) (k_a1 : ClassId) (w0 : Int32) (w1 : Int32) (w2 : Int32) (w3 : Int32) (k_bm : ClassId) (v0 : Int32) (v1 : Int32) (v2 : Int32) (h0 : Heap) (n0 : Nat) (Z0 : n0 ≤ h0.size) (F_byteOrderMark_a0 : Fld Z h0 a0 "com/example/arkivsjekk/arkivsjekk/XmlEncoding" "byteOrderMark" "[B" (.ref bm)) (F_unitBytes_a0 : Fld Z h0 a0 "com/example/arkivsjekk/arkivsjekk/XmlEncoding" "unitBytes" "I" (.int (1 : Int32))) (V_a1 : Arv Z h0 a1 k_a1 .byte (4 : Int32) [(.int w0), (.int w1), (.int w2), (.int w3)] (.int (0 : Int32))) (V_bm : Arv Z h0 bm k_bm .byte (3 : Int32) [(.int v0), (.int v1), (.int v2)] (.int (0 : Int32))) :
    MetFree l (⟨"com/example/arkivsjekk/arkivsjekk/XmlEncoding", "byteOrderMarkUnits", "([BI)I"⟩ : MethodName) (head1 (Jvm.Cond.code (⟨"com/example/arkivsjekk/arkivsjekk/XmlEncoding", "byteOrderMarkUnits", "([BI)I"⟩ : MethodName) prog_62_method_7_code 3 (some .int) :: ws) ({ frames := 1, cells := 0, slots := 0, locals := 16 } : Room)) (fun a U => a = #[(.ref a0), (.ref a1), (.int p2)] ∧ Z.Warmed39 U.vm ∧ U.heap = h0) (fun _ _ _ _ _ => True) (fun _ U o U' => ∃ v L, o = .returned v ∧ Q_rmB3 Z a0 a1 p2 bm k_a1 w0 w1 w2 w3 k_bm v0 v1 v2 h0 n0 v U'.heap L ∧ FrameEnd U o U' L ({ frames := 1, cells := 0, slots := 0, locals := 16 } : Room).cells ({ frames := 1, cells := 0, slots := 0, locals := 16 } : Room).slots) := by
  refine MetFree.of_bodySF (plainFor_of_name pn_1) hisR ?_
  intro p e s m args below meth c s₁ Bd hml0 hP hK
  obtain ⟨rfl, hZ, hh⟩ := hP
  have hx := Bd.exec
  have hby := Bd.bytes
  have hml : c.maxLocals = 3 := hml0
  have dd : ∀ {pc : Nat} {r : Except DecodeError (Instr × Nat)}, decode prog_62_method_7_code pc = r → decode c.code pc = r := fun q => hb hby q
  have hown : s.vm.findClass "com/example/arkivsjekk/arkivsjekk/XmlEncoding" = some m.cls := findClass_of_methodNamed Bd.named
  have hnm := (name_of_methodNamed Bd.named Bd.method).1
  have X0 : Stand p l e ({ frames := 1, cells := 0, slots := 0, locals := 16 } : Room) s m #[(.ref a0), (.ref a1), (.int p2)] below meth c s₁ [] 0 0 := Stand.of_body Bd
  have e0 : s₁.heap = h0 := by rw [← hh, Bd.state]; rfl
  have N0 := Fr.nil n0
  have hret := Bd.returns
  have hlk := Bd.notSynchronized
  show Gz p e below s ({ frames := 1, cells := 0, slots := 0, locals := 16 } : Room).cells ({ frames := 1, cells := 0, slots := 0, locals := 16 } : Room).slots (Q_rmB3 Z a0 a1 p2 bm k_a1 w0 w1 w2 w3 k_bm v0 v1 v2 h0 n0) (s₁.setTop (entryFrame m #[(.ref a0), (.ref a1), (.int p2)] 3))
  refine Gz.enter (ef_rmB3 m a0 a1 p2) ?_
  refine Gz.aloadN 1 X0 hx (dd d2_0) rfl rfl rfl ?_
  refine Gz.iloadN 2 X0 hx (dd d2_1) rfl rfl ?_
  refine Gz.aloadN 3 X0 hx (dd d2_2) rfl rfl rfl ?_
  refine Gz.getF 6 X0 hx hZ hown (dd d2_3) (host := "") (Or.inl (ww hw 14 rfl)) Via.refl e0 F_byteOrderMark_a0 rfl fun T1 X1 e1 => ?_
  obtain ⟨_, _, ⟨T2, L2, k2, n2⟩, -, X2, ⟨Lc2, hQ2, l2, y2, z2⟩, st2⟩ := Jvm.LawKit.callS X1 hx (y := (⟨"com/example/arkivsjekk/arkivsjekk/XmlEncoding", "startsWith", "([BI[B)Z"⟩ : MethodName)) hown (mvT hZ (ww hw 16 rfl)) (mvT hZ (ww hw 17 rfl)) (mvT hZ (ww hw 6 rfl)) (mvT hZ (ww hw 18 rfl)) (by decide) (backOf (W := 0) (rmS3 l Z av0 hw [] a1 p2 bm k_a1 w0 w1 w2 w3 k_bm v0 v1 v2 h0 n0 Z0 V_a1 V_bm) hZ (ww hw 18 rfl) (ww hw 6 rfl) (by decide) (by decide)) (g := (mkF m 6 #[.val (.ref a0), .val (.ref a1), .val (.int p2)] [(.ref bm), (.int p2), (.ref a1)])) rfl (by rw [hml]; rfl) (argsL := [(.ref a1), (.int p2), (.ref bm)]) (rest := []) (lenOf pd_0 rfl) rfl (by show 2 * 0 + _ ≤ _; exact Nat.le_of_eq rfl) (dd d2_6) (fun _ _ => ⟨rfl, e1, (by decide : 0 + 0 ≤ _), (by decide : 0 + 0 ≤ _)⟩)
  dsimp only [Pt.U, Pt.locs, Pt.cells, Pt.slots, Q_rmS3] at X2 l2 y2 z2 st2 hQ2
  subst l2 y2 z2
  obtain ⟨rfl, N2q, e2⟩ := hQ2
  have N2 := Fr.app N0 N2q
  refine Gz.st st2 ?_
  by_cases hc3 : (fS3 a1 p2 bm w0 w1 w2 w3 v0 v1 v2) = (0 : Int32)
  · refine Gz.ifYes 25 X2 hx (dd d2_9) ((if0 _ _).trans (teq hc3).1) (by decide) (by decide) ?_
    refine Gz.iconst 26 (0 : Int32) X2 hx (dd d2_25) rfl rfl ?_
    refine Gz.fin X2 (v := some (.int (0 : Int32))) (fun h => by rw [hret] at h; cases h) hlk (by decide) (by decide) (fun fs hr => retI X2 hx hret (dd d2_26) hr) ?_
    rw [e2]
    exact ⟨(by unfold fB3; rw [if_pos hc3]), N2, rfl⟩
  · refine Gz.ifNo 12 X2 hx (dd d2_9) ((if0 _ _).trans (feq hc3).1) rfl ?_
    refine Gz.aloadN 13 X2 hx (dd d2_12) rfl rfl rfl ?_
    refine Gz.getF 16 X2 hx hZ hown (dd d2_13) (host := "") (Or.inl (ww hw 14 rfl)) Via.refl e2 F_byteOrderMark_a0 rfl fun T4 X4 e4 => ?_
    obtain ⟨c5, A5, -, S5, N5, -, -⟩ := id V_bm
    refine Gz.alen 17 X4 hx hZ (dd d2_16) e4 A5 S5 N5 rfl ?_
    refine Gz.aloadN 18 X4 hx (dd d2_17) rfl rfl rfl ?_
    refine Gz.getF 21 X4 hx hZ hown (dd d2_18) (host := "") (Or.inl (ww hw 19 rfl)) Via.refl e4 F_unitBytes_a0 rfl fun T6 X6 e6 => ?_
    refine Gz.idivV 22 (3 : Int32) X6 hx (dd d2_21) (by decide) rfl rfl ?_
    refine Gz.goto 26 X6 hx (dd d2_22) (by decide) (by decide) ?_
    refine Gz.fin X6 (v := some (.int (3 : Int32))) (fun h => by rw [hret] at h; cases h) hlk (by decide) (by decide) (fun fs hr => retI X6 hx hret (dd d2_26) hr) ?_
    rw [e6]
    exact ⟨(by unfold fB3; rw [if_neg hc3]), N2, rfl⟩
theorem ef_rmB2 (m : MethodId) (a0 : Addr) (a1 : Addr) (p2 : Int32) : entryFrame m #[(.ref a0), (.ref a1), (.int p2)] 3 = mkF m 0 #[.val (.ref a0), .val (.ref a1), .val (.int p2)] [] := by first | (simp [entryFrame, mkF, argsToLocals, Value.category]; done) | rfl
def fB2 (a0 : Addr) (a1 : Addr) (p2 : Int32) (bm : Addr) (w0 : Int32) (w1 : Int32) (w2 : Int32) (w3 : Int32) (v0 : Int32) (v1 : Int32) : Int32 := (if (fS2 a1 p2 bm w0 w1 w2 w3 v0 v1) = (0 : Int32) then (0 : Int32) else (1 : Int32))
def Q_rmB2 (Z : State) (a0 : Addr) (a1 : Addr) (p2 : Int32) (bm : Addr) (k_a1 : ClassId) (w0 : Int32) (w1 : Int32) (w2 : Int32) (w3 : Int32) (k_bm : ClassId) (v0 : Int32) (v1 : Int32) (h0 : Heap) (n0 : Nat) (v : Option Value) (h : Heap) (L : List Loc) : Prop := v = some (.int (fB2 a0 a1 p2 bm w0 w1 w2 w3 v0 v1)) ∧ Fr n0 L ∧ h = h0
set_option maxRecDepth 65536 in
set_option maxHeartbeats 40000000 in
theorem rmB2 (l : Launch) (Z : State) (av0 : Array Value) (hw : ∀ d ∈ tables_1, d.before av0 Z = true) (ws : List Jvm.Cond) (a0 : Addr) (a1 : Addr) (p2 : Int32) (bm : Addr) (k_a1 : ClassId) (w0 : Int32) (w1 : Int32) (w2 : Int32) (w3 : Int32) (k_bm : ClassId) (v0 : Int32) (v1 : Int32) (h0 : Heap) (n0 : Nat) (Z0 : n0 ≤ h0.size) (F_byteOrderMark_a0 : Fld Z h0 a0 "com/example/arkivsjekk/arkivsjekk/XmlEncoding" "byteOrderMark" "[B" (.ref bm)) (F_unitBytes_a0 : Fld Z h0 a0 "com/example/arkivsjekk/arkivsjekk/XmlEncoding" "unitBytes" "I" (.int (2 : Int32))) (V_a1 : Arv Z h0 a1 k_a1 .byte (4 : Int32) [(.int w0), (.int w1), (.int w2), (.int w3)] (.int (0 : Int32))) (V_bm : Arv Z h0 bm k_bm .byte (2 : Int32) [(.int v0), (.int v1)] (.int (0 : Int32))) :
    MetFree l (⟨"com/example/arkivsjekk/arkivsjekk/XmlEncoding", "byteOrderMarkUnits", "([BI)I"⟩ : MethodName) (head1 (Jvm.Cond.code (⟨"com/example/arkivsjekk/arkivsjekk/XmlEncoding", "byteOrderMarkUnits", "([BI)I"⟩ : MethodName) prog_62_method_7_code 3 (some .int) :: ws) ({ frames := 1, cells := 0, slots := 0, locals := 16 } : Room)) (fun a U => a = #[(.ref a0), (.ref a1), (.int p2)] ∧ Z.Warmed39 U.vm ∧ U.heap = h0) (fun _ _ _ _ _ => True) (fun _ U o U' => ∃ v L, o = .returned v ∧ Q_rmB2 Z a0 a1 p2 bm k_a1 w0 w1 w2 w3 k_bm v0 v1 h0 n0 v U'.heap L ∧ FrameEnd U o U' L ({ frames := 1, cells := 0, slots := 0, locals := 16 } : Room).cells ({ frames := 1, cells := 0, slots := 0, locals := 16 } : Room).slots) := by
  refine MetFree.of_bodySF (plainFor_of_name pn_1) hisR ?_
  intro p e s m args below meth c s₁ Bd hml0 hP hK
  obtain ⟨rfl, hZ, hh⟩ := hP
  have hx := Bd.exec
  have hby := Bd.bytes
  have hml : c.maxLocals = 3 := hml0
  have dd : ∀ {pc : Nat} {r : Except DecodeError (Instr × Nat)}, decode prog_62_method_7_code pc = r → decode c.code pc = r := fun q => hb hby q
  have hown : s.vm.findClass "com/example/arkivsjekk/arkivsjekk/XmlEncoding" = some m.cls := findClass_of_methodNamed Bd.named
  have hnm := (name_of_methodNamed Bd.named Bd.method).1
  have X0 : Stand p l e ({ frames := 1, cells := 0, slots := 0, locals := 16 } : Room) s m #[(.ref a0), (.ref a1), (.int p2)] below meth c s₁ [] 0 0 := Stand.of_body Bd
  have e0 : s₁.heap = h0 := by rw [← hh, Bd.state]; rfl
  have N0 := Fr.nil n0
  have hret := Bd.returns
  have hlk := Bd.notSynchronized
  show Gz p e below s ({ frames := 1, cells := 0, slots := 0, locals := 16 } : Room).cells ({ frames := 1, cells := 0, slots := 0, locals := 16 } : Room).slots (Q_rmB2 Z a0 a1 p2 bm k_a1 w0 w1 w2 w3 k_bm v0 v1 h0 n0) (s₁.setTop (entryFrame m #[(.ref a0), (.ref a1), (.int p2)] 3))
  refine Gz.enter (ef_rmB2 m a0 a1 p2) ?_
  refine Gz.aloadN 1 X0 hx (dd d2_0) rfl rfl rfl ?_
  refine Gz.iloadN 2 X0 hx (dd d2_1) rfl rfl ?_
  refine Gz.aloadN 3 X0 hx (dd d2_2) rfl rfl rfl ?_
  refine Gz.getF 6 X0 hx hZ hown (dd d2_3) (host := "") (Or.inl (ww hw 14 rfl)) Via.refl e0 F_byteOrderMark_a0 rfl fun T1 X1 e1 => ?_
  obtain ⟨_, _, ⟨T2, L2, k2, n2⟩, -, X2, ⟨Lc2, hQ2, l2, y2, z2⟩, st2⟩ := Jvm.LawKit.callS X1 hx (y := (⟨"com/example/arkivsjekk/arkivsjekk/XmlEncoding", "startsWith", "([BI[B)Z"⟩ : MethodName)) hown (mvT hZ (ww hw 16 rfl)) (mvT hZ (ww hw 17 rfl)) (mvT hZ (ww hw 6 rfl)) (mvT hZ (ww hw 18 rfl)) (by decide) (backOf (W := 0) (rmS2 l Z av0 hw [] a1 p2 bm k_a1 w0 w1 w2 w3 k_bm v0 v1 h0 n0 Z0 V_a1 V_bm) hZ (ww hw 18 rfl) (ww hw 6 rfl) (by decide) (by decide)) (g := (mkF m 6 #[.val (.ref a0), .val (.ref a1), .val (.int p2)] [(.ref bm), (.int p2), (.ref a1)])) rfl (by rw [hml]; rfl) (argsL := [(.ref a1), (.int p2), (.ref bm)]) (rest := []) (lenOf pd_0 rfl) rfl (by show 2 * 0 + _ ≤ _; exact Nat.le_of_eq rfl) (dd d2_6) (fun _ _ => ⟨rfl, e1, (by decide : 0 + 0 ≤ _), (by decide : 0 + 0 ≤ _)⟩)
  dsimp only [Pt.U, Pt.locs, Pt.cells, Pt.slots, Q_rmS2] at X2 l2 y2 z2 st2 hQ2
  subst l2 y2 z2
  obtain ⟨rfl, N2q, e2⟩ := hQ2
  have N2 := Fr.app N0 N2q
  refine Gz.st st2 ?_
  by_cases hc3 : (fS2 a1 p2 bm w0 w1 w2 w3 v0 v1) = (0 : Int32)
  · refine Gz.ifYes 25 X2 hx (dd d2_9) ((if0 _ _).trans (teq hc3).1) (by decide) (by decide) ?_
    refine Gz.iconst 26 (0 : Int32) X2 hx (dd d2_25) rfl rfl ?_
    refine Gz.fin X2 (v := some (.int (0 : Int32))) (fun h => by rw [hret] at h; cases h) hlk (by decide) (by decide) (fun fs hr => retI X2 hx hret (dd d2_26) hr) ?_
    rw [e2]
    exact ⟨(by unfold fB2; rw [if_pos hc3]), N2, rfl⟩
  · refine Gz.ifNo 12 X2 hx (dd d2_9) ((if0 _ _).trans (feq hc3).1) rfl ?_
    refine Gz.aloadN 13 X2 hx (dd d2_12) rfl rfl rfl ?_
    refine Gz.getF 16 X2 hx hZ hown (dd d2_13) (host := "") (Or.inl (ww hw 14 rfl)) Via.refl e2 F_byteOrderMark_a0 rfl fun T4 X4 e4 => ?_
    obtain ⟨c5, A5, -, S5, N5, -, -⟩ := id V_bm
    refine Gz.alen 17 X4 hx hZ (dd d2_16) e4 A5 S5 N5 rfl ?_
    refine Gz.aloadN 18 X4 hx (dd d2_17) rfl rfl rfl ?_
    refine Gz.getF 21 X4 hx hZ hown (dd d2_18) (host := "") (Or.inl (ww hw 19 rfl)) Via.refl e4 F_unitBytes_a0 rfl fun T6 X6 e6 => ?_
    refine Gz.idivV 22 (1 : Int32) X6 hx (dd d2_21) (by decide) rfl rfl ?_
    refine Gz.goto 26 X6 hx (dd d2_22) (by decide) (by decide) ?_
    refine Gz.fin X6 (v := some (.int (1 : Int32))) (fun h => by rw [hret] at h; cases h) hlk (by decide) (by decide) (fun fs hr => retI X6 hx hret (dd d2_26) hr) ?_
    rw [e6]
    exact ⟨(by unfold fB2; rw [if_neg hc3]), N2, rfl⟩
theorem d4_0 : decode method_4_code 0 = .ok (.iload_n 0, 1) := by decide +kernel
theorem d4_1 : decode method_4_code 1 = .ok (.ifCond .ne 31, 3) := by decide +kernel
theorem d4_4 : decode method_4_code 4 = .ok (.iload 4, 2) := by decide +kernel
theorem d4_6 : decode method_4_code 6 = .ok (.iconst 3, 1) := by decide +kernel
theorem d4_7 : decode method_4_code 7 = .ok (.if_icmp .lt 23, 3) := by decide +kernel
theorem d4_10 : decode method_4_code 10 = .ok (.iload_n 1, 1) := by decide +kernel
theorem d4_11 : decode method_4_code 11 = .ok (.bipush (-17), 2) := by decide +kernel
theorem d4_13 : decode method_4_code 13 = .ok (.if_icmp .ne 17, 3) := by decide +kernel
theorem d4_16 : decode method_4_code 16 = .ok (.iload_n 2, 1) := by decide +kernel
theorem d4_17 : decode method_4_code 17 = .ok (.bipush (-69), 2) := by decide +kernel
theorem d4_19 : decode method_4_code 19 = .ok (.if_icmp .ne 11, 3) := by decide +kernel
theorem d4_22 : decode method_4_code 22 = .ok (.iload_n 3, 1) := by decide +kernel
theorem d4_23 : decode method_4_code 23 = .ok (.bipush (-65), 2) := by decide +kernel
theorem d4_25 : decode method_4_code 25 = .ok (.if_icmp .ne 5, 3) := by decide +kernel
theorem d4_28 : decode method_4_code 28 = .ok (.iconst 3, 1) := by decide +kernel
theorem d4_29 : decode method_4_code 29 = .ok (.ireturn, 1) := by decide +kernel
theorem d4_30 : decode method_4_code 30 = .ok (.iconst 0, 1) := by decide +kernel
theorem d4_31 : decode method_4_code 31 = .ok (.ireturn, 1) := by decide +kernel
theorem d4_32 : decode method_4_code 32 = .ok (.iload_n 0, 1) := by decide +kernel
theorem d4_33 : decode method_4_code 33 = .ok (.iconst 1, 1) := by decide +kernel
theorem d4_34 : decode method_4_code 34 = .ok (.if_icmp .ne 24, 3) := by decide +kernel
theorem d4_37 : decode method_4_code 37 = .ok (.iload 4, 2) := by decide +kernel
theorem d4_39 : decode method_4_code 39 = .ok (.iconst 2, 1) := by decide +kernel
theorem d4_40 : decode method_4_code 40 = .ok (.if_icmp .lt 16, 3) := by decide +kernel
theorem d4_43 : decode method_4_code 43 = .ok (.iload_n 1, 1) := by decide +kernel
theorem d4_44 : decode method_4_code 44 = .ok (.bipush (-2), 2) := by decide +kernel
theorem d4_46 : decode method_4_code 46 = .ok (.if_icmp .ne 10, 3) := by decide +kernel
theorem d4_49 : decode method_4_code 49 = .ok (.iload_n 2, 1) := by decide +kernel
theorem d4_50 : decode method_4_code 50 = .ok (.iconst (-1), 1) := by decide +kernel
theorem d4_51 : decode method_4_code 51 = .ok (.if_icmp .ne 5, 3) := by decide +kernel
theorem d4_54 : decode method_4_code 54 = .ok (.iconst 1, 1) := by decide +kernel
theorem d4_55 : decode method_4_code 55 = .ok (.ireturn, 1) := by decide +kernel
theorem d4_56 : decode method_4_code 56 = .ok (.iconst 0, 1) := by decide +kernel
theorem d4_57 : decode method_4_code 57 = .ok (.ireturn, 1) := by decide +kernel
theorem d4_58 : decode method_4_code 58 = .ok (.iload_n 0, 1) := by decide +kernel
theorem d4_59 : decode method_4_code 59 = .ok (.iconst 2, 1) := by decide +kernel
theorem d4_60 : decode method_4_code 60 = .ok (.if_icmp .ne 24, 3) := by decide +kernel
theorem d4_63 : decode method_4_code 63 = .ok (.iload 4, 2) := by decide +kernel
theorem d4_65 : decode method_4_code 65 = .ok (.iconst 2, 1) := by decide +kernel
theorem d4_66 : decode method_4_code 66 = .ok (.if_icmp .lt 16, 3) := by decide +kernel
theorem d4_69 : decode method_4_code 69 = .ok (.iload_n 1, 1) := by decide +kernel
theorem d4_70 : decode method_4_code 70 = .ok (.iconst (-1), 1) := by decide +kernel
theorem d4_71 : decode method_4_code 71 = .ok (.if_icmp .ne 11, 3) := by decide +kernel
theorem d4_74 : decode method_4_code 74 = .ok (.iload_n 2, 1) := by decide +kernel
theorem d4_75 : decode method_4_code 75 = .ok (.bipush (-2), 2) := by decide +kernel
theorem d4_77 : decode method_4_code 77 = .ok (.if_icmp .ne 5, 3) := by decide +kernel
theorem d4_80 : decode method_4_code 80 = .ok (.iconst 1, 1) := by decide +kernel
theorem d4_81 : decode method_4_code 81 = .ok (.ireturn, 1) := by decide +kernel
theorem d4_82 : decode method_4_code 82 = .ok (.iconst 0, 1) := by decide +kernel
theorem d4_83 : decode method_4_code 83 = .ok (.ireturn, 1) := by decide +kernel
theorem d4_84 : decode method_4_code 84 = .ok (.iconst 0, 1) := by decide +kernel
theorem d4_85 : decode method_4_code 85 = .ok (.ireturn, 1) := by decide +kernel
theorem ef_rm4 (m : MethodId) (p0 : Int32) (p1 : Int32) (p2 : Int32) (p3 : Int32) (p4 : Int32) : entryFrame m #[(.int p0), (.int p1), (.int p2), (.int p3), (.int p4)] 5 = mkF m 0 #[.val (.int p0), .val (.int p1), .val (.int p2), .val (.int p3), .val (.int p4)] [] := by first | (simp [entryFrame, mkF, argsToLocals, Value.category]; done) | rfl
def fE (p0 : Int32) (p1 : Int32) (p2 : Int32) (p3 : Int32) (p4 : Int32) : Int32 := (if p0 = (0 : Int32) then (if p4 < (3 : Int32) then (0 : Int32) else (if p1 = (-17 : Int32) then (if p2 = (-69 : Int32) then (if p3 = (-65 : Int32) then (3 : Int32) else (0 : Int32)) else (0 : Int32)) else (0 : Int32))) else (if p0 = (1 : Int32) then (if p4 < (2 : Int32) then (0 : Int32) else (if p1 = (-2 : Int32) then (if p2 = (-1 : Int32) then (1 : Int32) else (0 : Int32)) else (0 : Int32))) else (if p0 = (2 : Int32) then (if p4 < (2 : Int32) then (0 : Int32) else (if p1 = (-1 : Int32) then (if p2 = (-2 : Int32) then (1 : Int32) else (0 : Int32)) else (0 : Int32))) else (0 : Int32))))
def Q_rm4 (Z : State) (p0 : Int32) (p1 : Int32) (p2 : Int32) (p3 : Int32) (p4 : Int32) (h0 : Heap) (n0 : Nat) (v : Option Value) (h : Heap) (L : List Loc) : Prop := v = some (.int (fE p0 p1 p2 p3 p4)) ∧ Fr n0 L ∧ h = h0
set_option maxRecDepth 65536 in
set_option maxHeartbeats 40000000 in
theorem rm4 (l : Launch) (Z : State) (av0 : Array Value) (hw : ∀ d ∈ tables_1, d.before av0 Z = true) (ws : List Jvm.Cond) (p0 : Int32) (p1 : Int32) (p2 : Int32) (p3 : Int32) (p4 : Int32) (h0 : Heap) (n0 : Nat) (Z0 : n0 ≤ h0.size)  :
    MetFree l (⟨"com/example/arkivsjekk/arkivsjekk/XmlEncodingByteOrderMarkUnitsPinLaw", "expected", "(IBBBI)I"⟩ : MethodName) (head1 (Jvm.Cond.code (⟨"com/example/arkivsjekk/arkivsjekk/XmlEncodingByteOrderMarkUnitsPinLaw", "expected", "(IBBBI)I"⟩ : MethodName) method_4_code 5 (some .int) :: ws) ({ frames := 0, cells := 0, slots := 0, locals := 0 } : Room)) (fun a U => a = #[(.int p0), (.int p1), (.int p2), (.int p3), (.int p4)] ∧ Z.Warmed39 U.vm ∧ U.heap = h0) (fun _ _ _ _ _ => True) (fun _ U o U' => ∃ v L, o = .returned v ∧ Q_rm4 Z p0 p1 p2 p3 p4 h0 n0 v U'.heap L ∧ FrameEnd U o U' L ({ frames := 0, cells := 0, slots := 0, locals := 0 } : Room).cells ({ frames := 0, cells := 0, slots := 0, locals := 0 } : Room).slots) := by
  refine MetFree.of_bodySF (plainFor_of_name pn_0) hisR ?_
  intro p e s m args below meth c s₁ Bd hml0 hP hK
  obtain ⟨rfl, hZ, hh⟩ := hP
  have hx := Bd.exec
  have hby := Bd.bytes
  have hml : c.maxLocals = 5 := hml0
  have dd : ∀ {pc : Nat} {r : Except DecodeError (Instr × Nat)}, decode method_4_code pc = r → decode c.code pc = r := fun q => hb hby q
  have hown : s.vm.findClass "com/example/arkivsjekk/arkivsjekk/XmlEncodingByteOrderMarkUnitsPinLaw" = some m.cls := findClass_of_methodNamed Bd.named
  have hnm := (name_of_methodNamed Bd.named Bd.method).1
  have X0 : Stand p l e ({ frames := 0, cells := 0, slots := 0, locals := 0 } : Room) s m #[(.int p0), (.int p1), (.int p2), (.int p3), (.int p4)] below meth c s₁ [] 0 0 := Stand.of_body Bd
  have e0 : s₁.heap = h0 := by rw [← hh, Bd.state]; rfl
  have N0 := Fr.nil n0
  have hret := Bd.returns
  have hlk := Bd.notSynchronized
  show Gz p e below s ({ frames := 0, cells := 0, slots := 0, locals := 0 } : Room).cells ({ frames := 0, cells := 0, slots := 0, locals := 0 } : Room).slots (Q_rm4 Z p0 p1 p2 p3 p4 h0 n0) (s₁.setTop (entryFrame m #[(.int p0), (.int p1), (.int p2), (.int p3), (.int p4)] 5))
  refine Gz.enter (ef_rm4 m p0 p1 p2 p3 p4) ?_
  refine Gz.iloadN 1 X0 hx (dd d4_0) rfl rfl ?_
  by_cases hc1 : p0 = (0 : Int32)
  · refine Gz.ifNo 4 X0 hx (dd d4_1) ((if0 _ _).trans (teq hc1).2) rfl ?_
    refine Gz.iload 6 X0 hx (dd d4_4) rfl rfl ?_
    refine Gz.iconst 7 (3 : Int32) X0 hx (dd d4_6) rfl rfl ?_
    by_cases hc2 : p4 < (3 : Int32)
    · refine Gz.icmpYes 30 X0 hx (dd d4_7) (tlt hc2).1 (by decide) (by decide) ?_
      refine Gz.iconst 31 (0 : Int32) X0 hx (dd d4_30) rfl rfl ?_
      refine Gz.fin X0 (v := some (.int (0 : Int32))) (fun h => by rw [hret] at h; cases h) hlk (by decide) (by decide) (fun fs hr => retI X0 hx hret (dd d4_31) hr) ?_
      rw [e0]
      exact ⟨(by unfold fE; rw [if_pos hc1, if_pos hc2]), N0, rfl⟩
    · refine Gz.icmpNo 10 X0 hx (dd d4_7) (flt hc2).1 rfl ?_
      refine Gz.iloadN 11 X0 hx (dd d4_10) rfl rfl ?_
      refine Gz.bipush 13 (-17 : Int32) X0 hx (dd d4_11) rfl rfl ?_
      by_cases hc3 : p1 = (-17 : Int32)
      · refine Gz.icmpNo 16 X0 hx (dd d4_13) (teq hc3).2 rfl ?_
        refine Gz.iloadN 17 X0 hx (dd d4_16) rfl rfl ?_
        refine Gz.bipush 19 (-69 : Int32) X0 hx (dd d4_17) rfl rfl ?_
        by_cases hc4 : p2 = (-69 : Int32)
        · refine Gz.icmpNo 22 X0 hx (dd d4_19) (teq hc4).2 rfl ?_
          refine Gz.iloadN 23 X0 hx (dd d4_22) rfl rfl ?_
          refine Gz.bipush 25 (-65 : Int32) X0 hx (dd d4_23) rfl rfl ?_
          by_cases hc5 : p3 = (-65 : Int32)
          · refine Gz.icmpNo 28 X0 hx (dd d4_25) (teq hc5).2 rfl ?_
            refine Gz.iconst 29 (3 : Int32) X0 hx (dd d4_28) rfl rfl ?_
            refine Gz.fin X0 (v := some (.int (3 : Int32))) (fun h => by rw [hret] at h; cases h) hlk (by decide) (by decide) (fun fs hr => retI X0 hx hret (dd d4_29) hr) ?_
            rw [e0]
            exact ⟨(by unfold fE; rw [if_pos hc1, if_neg hc2, if_pos hc3, if_pos hc4, if_pos hc5]), N0, rfl⟩
          · refine Gz.icmpYes 30 X0 hx (dd d4_25) (feq hc5).2 (by decide) (by decide) ?_
            refine Gz.iconst 31 (0 : Int32) X0 hx (dd d4_30) rfl rfl ?_
            refine Gz.fin X0 (v := some (.int (0 : Int32))) (fun h => by rw [hret] at h; cases h) hlk (by decide) (by decide) (fun fs hr => retI X0 hx hret (dd d4_31) hr) ?_
            rw [e0]
            exact ⟨(by unfold fE; rw [if_pos hc1, if_neg hc2, if_pos hc3, if_pos hc4, if_neg hc5]), N0, rfl⟩
        · refine Gz.icmpYes 30 X0 hx (dd d4_19) (feq hc4).2 (by decide) (by decide) ?_
          refine Gz.iconst 31 (0 : Int32) X0 hx (dd d4_30) rfl rfl ?_
          refine Gz.fin X0 (v := some (.int (0 : Int32))) (fun h => by rw [hret] at h; cases h) hlk (by decide) (by decide) (fun fs hr => retI X0 hx hret (dd d4_31) hr) ?_
          rw [e0]
          exact ⟨(by unfold fE; rw [if_pos hc1, if_neg hc2, if_pos hc3, if_neg hc4]), N0, rfl⟩
      · refine Gz.icmpYes 30 X0 hx (dd d4_13) (feq hc3).2 (by decide) (by decide) ?_
        refine Gz.iconst 31 (0 : Int32) X0 hx (dd d4_30) rfl rfl ?_
        refine Gz.fin X0 (v := some (.int (0 : Int32))) (fun h => by rw [hret] at h; cases h) hlk (by decide) (by decide) (fun fs hr => retI X0 hx hret (dd d4_31) hr) ?_
        rw [e0]
        exact ⟨(by unfold fE; rw [if_pos hc1, if_neg hc2, if_neg hc3]), N0, rfl⟩
  · refine Gz.ifYes 32 X0 hx (dd d4_1) ((if0 _ _).trans (feq hc1).2) (by decide) (by decide) ?_
    refine Gz.iloadN 33 X0 hx (dd d4_32) rfl rfl ?_
    refine Gz.iconst 34 (1 : Int32) X0 hx (dd d4_33) rfl rfl ?_
    by_cases hc6 : p0 = (1 : Int32)
    · refine Gz.icmpNo 37 X0 hx (dd d4_34) (teq hc6).2 rfl ?_
      refine Gz.iload 39 X0 hx (dd d4_37) rfl rfl ?_
      refine Gz.iconst 40 (2 : Int32) X0 hx (dd d4_39) rfl rfl ?_
      by_cases hc7 : p4 < (2 : Int32)
      · refine Gz.icmpYes 56 X0 hx (dd d4_40) (tlt hc7).1 (by decide) (by decide) ?_
        refine Gz.iconst 57 (0 : Int32) X0 hx (dd d4_56) rfl rfl ?_
        refine Gz.fin X0 (v := some (.int (0 : Int32))) (fun h => by rw [hret] at h; cases h) hlk (by decide) (by decide) (fun fs hr => retI X0 hx hret (dd d4_57) hr) ?_
        rw [e0]
        exact ⟨(by unfold fE; rw [if_neg hc1, if_pos hc6, if_pos hc7]), N0, rfl⟩
      · refine Gz.icmpNo 43 X0 hx (dd d4_40) (flt hc7).1 rfl ?_
        refine Gz.iloadN 44 X0 hx (dd d4_43) rfl rfl ?_
        refine Gz.bipush 46 (-2 : Int32) X0 hx (dd d4_44) rfl rfl ?_
        by_cases hc8 : p1 = (-2 : Int32)
        · refine Gz.icmpNo 49 X0 hx (dd d4_46) (teq hc8).2 rfl ?_
          refine Gz.iloadN 50 X0 hx (dd d4_49) rfl rfl ?_
          refine Gz.iconst 51 (-1 : Int32) X0 hx (dd d4_50) rfl rfl ?_
          by_cases hc9 : p2 = (-1 : Int32)
          · refine Gz.icmpNo 54 X0 hx (dd d4_51) (teq hc9).2 rfl ?_
            refine Gz.iconst 55 (1 : Int32) X0 hx (dd d4_54) rfl rfl ?_
            refine Gz.fin X0 (v := some (.int (1 : Int32))) (fun h => by rw [hret] at h; cases h) hlk (by decide) (by decide) (fun fs hr => retI X0 hx hret (dd d4_55) hr) ?_
            rw [e0]
            exact ⟨(by unfold fE; rw [if_neg hc1, if_pos hc6, if_neg hc7, if_pos hc8, if_pos hc9]), N0, rfl⟩
          · refine Gz.icmpYes 56 X0 hx (dd d4_51) (feq hc9).2 (by decide) (by decide) ?_
            refine Gz.iconst 57 (0 : Int32) X0 hx (dd d4_56) rfl rfl ?_
            refine Gz.fin X0 (v := some (.int (0 : Int32))) (fun h => by rw [hret] at h; cases h) hlk (by decide) (by decide) (fun fs hr => retI X0 hx hret (dd d4_57) hr) ?_
            rw [e0]
            exact ⟨(by unfold fE; rw [if_neg hc1, if_pos hc6, if_neg hc7, if_pos hc8, if_neg hc9]), N0, rfl⟩
        · refine Gz.icmpYes 56 X0 hx (dd d4_46) (feq hc8).2 (by decide) (by decide) ?_
          refine Gz.iconst 57 (0 : Int32) X0 hx (dd d4_56) rfl rfl ?_
          refine Gz.fin X0 (v := some (.int (0 : Int32))) (fun h => by rw [hret] at h; cases h) hlk (by decide) (by decide) (fun fs hr => retI X0 hx hret (dd d4_57) hr) ?_
          rw [e0]
          exact ⟨(by unfold fE; rw [if_neg hc1, if_pos hc6, if_neg hc7, if_neg hc8]), N0, rfl⟩
    · refine Gz.icmpYes 58 X0 hx (dd d4_34) (feq hc6).2 (by decide) (by decide) ?_
      refine Gz.iloadN 59 X0 hx (dd d4_58) rfl rfl ?_
      refine Gz.iconst 60 (2 : Int32) X0 hx (dd d4_59) rfl rfl ?_
      by_cases hc10 : p0 = (2 : Int32)
      · refine Gz.icmpNo 63 X0 hx (dd d4_60) (teq hc10).2 rfl ?_
        refine Gz.iload 65 X0 hx (dd d4_63) rfl rfl ?_
        refine Gz.iconst 66 (2 : Int32) X0 hx (dd d4_65) rfl rfl ?_
        by_cases hc11 : p4 < (2 : Int32)
        · refine Gz.icmpYes 82 X0 hx (dd d4_66) (tlt hc11).1 (by decide) (by decide) ?_
          refine Gz.iconst 83 (0 : Int32) X0 hx (dd d4_82) rfl rfl ?_
          refine Gz.fin X0 (v := some (.int (0 : Int32))) (fun h => by rw [hret] at h; cases h) hlk (by decide) (by decide) (fun fs hr => retI X0 hx hret (dd d4_83) hr) ?_
          rw [e0]
          exact ⟨(by unfold fE; rw [if_neg hc1, if_neg hc6, if_pos hc10, if_pos hc11]), N0, rfl⟩
        · refine Gz.icmpNo 69 X0 hx (dd d4_66) (flt hc11).1 rfl ?_
          refine Gz.iloadN 70 X0 hx (dd d4_69) rfl rfl ?_
          refine Gz.iconst 71 (-1 : Int32) X0 hx (dd d4_70) rfl rfl ?_
          by_cases hc12 : p1 = (-1 : Int32)
          · refine Gz.icmpNo 74 X0 hx (dd d4_71) (teq hc12).2 rfl ?_
            refine Gz.iloadN 75 X0 hx (dd d4_74) rfl rfl ?_
            refine Gz.bipush 77 (-2 : Int32) X0 hx (dd d4_75) rfl rfl ?_
            by_cases hc13 : p2 = (-2 : Int32)
            · refine Gz.icmpNo 80 X0 hx (dd d4_77) (teq hc13).2 rfl ?_
              refine Gz.iconst 81 (1 : Int32) X0 hx (dd d4_80) rfl rfl ?_
              refine Gz.fin X0 (v := some (.int (1 : Int32))) (fun h => by rw [hret] at h; cases h) hlk (by decide) (by decide) (fun fs hr => retI X0 hx hret (dd d4_81) hr) ?_
              rw [e0]
              exact ⟨(by unfold fE; rw [if_neg hc1, if_neg hc6, if_pos hc10, if_neg hc11, if_pos hc12, if_pos hc13]), N0, rfl⟩
            · refine Gz.icmpYes 82 X0 hx (dd d4_77) (feq hc13).2 (by decide) (by decide) ?_
              refine Gz.iconst 83 (0 : Int32) X0 hx (dd d4_82) rfl rfl ?_
              refine Gz.fin X0 (v := some (.int (0 : Int32))) (fun h => by rw [hret] at h; cases h) hlk (by decide) (by decide) (fun fs hr => retI X0 hx hret (dd d4_83) hr) ?_
              rw [e0]
              exact ⟨(by unfold fE; rw [if_neg hc1, if_neg hc6, if_pos hc10, if_neg hc11, if_pos hc12, if_neg hc13]), N0, rfl⟩
          · refine Gz.icmpYes 82 X0 hx (dd d4_71) (feq hc12).2 (by decide) (by decide) ?_
            refine Gz.iconst 83 (0 : Int32) X0 hx (dd d4_82) rfl rfl ?_
            refine Gz.fin X0 (v := some (.int (0 : Int32))) (fun h => by rw [hret] at h; cases h) hlk (by decide) (by decide) (fun fs hr => retI X0 hx hret (dd d4_83) hr) ?_
            rw [e0]
            exact ⟨(by unfold fE; rw [if_neg hc1, if_neg hc6, if_pos hc10, if_neg hc11, if_neg hc12]), N0, rfl⟩
      · refine Gz.icmpYes 84 X0 hx (dd d4_60) (feq hc10).2 (by decide) (by decide) ?_
        refine Gz.iconst 85 (0 : Int32) X0 hx (dd d4_84) rfl rfl ?_
        refine Gz.fin X0 (v := some (.int (0 : Int32))) (fun h => by rw [hret] at h; cases h) hlk (by decide) (by decide) (fun fs hr => retI X0 hx hret (dd d4_85) hr) ?_
        rw [e0]
        exact ⟨(by unfold fE; rw [if_neg hc1, if_neg hc6, if_neg hc10]), N0, rfl⟩
theorem own_six (x : Int32) : let z := (x &&& (2147483647 : Int32)) % (6 : Int32); z = (0 : Int32) ∨ z = (1 : Int32) ∨ z = (2 : Int32) ∨ z = (3 : Int32) ∨ z = (4 : Int32) ∨ z = (5 : Int32) := by
  intro z
  have hm := c_mask x 2147483647 31 (by decide) (by decide)
  obtain ⟨k, hk, e⟩ := own_rem (x &&& (2147483647 : Int32)) 6 (by decide) (by rw [hm]; omega) 6 (by decide) (by decide)
  have e' : z = Int32.ofNat k := e
  rw [e']
  have : k = 0 ∨ k = 1 ∨ k = 2 ∨ k = 3 ∨ k = 4 ∨ k = 5 := by omega
  rcases this with rfl | rfl | rfl | rfl | rfl | rfl <;> decide
theorem own_and3 (x : Int32) : (x &&& (3 : Int32)) = (0 : Int32) ∨ (x &&& (3 : Int32)) = (1 : Int32) ∨ (x &&& (3 : Int32)) = (2 : Int32) ∨ (x &&& (3 : Int32)) = (3 : Int32) := by
  have hm := c_mask x 3 2 (by decide) (by decide)
  obtain ⟨k, hk, e⟩ := own_nat (x &&& (3 : Int32)) 4 (by decide) (by rw [hm]; omega) (by rw [hm]; omega)
  rw [e]
  have : k = 0 ∨ k = 1 ∨ k = 2 ∨ k = 3 := by omega
  rcases this with rfl | rfl | rfl | rfl <;> decide
theorem own_8 (a a1 bm : Addr) (p w0 w1 w2 w3 : Int32) : fB3 a a1 p bm w0 w1 w2 w3 (-17) (-69) (-65) = fE 0 w0 w1 w2 p := by
  unfold fB3 fS3 fE
  rw [if_pos rfl]
  by_cases h0 : p < 3
  · simp only [if_pos h0, if_true]
  · by_cases h1 : w0 = -17
    · by_cases h2 : w1 = -69
      · by_cases h3 : w2 = -65
        · simp only [if_neg h0, if_pos h1, if_pos h2, if_pos h3, if_neg (by decide : ¬ (1 : Int32) = 0)]
        · simp only [if_neg h0, if_pos h1, if_pos h2, if_neg h3, if_true]
      · simp only [if_neg h0, if_pos h1, if_neg h2, if_true]
    · simp only [if_neg h0, if_neg h1, if_true]
theorem own_b (a a1 bm : Addr) (p w0 w1 w2 w3 : Int32) : fB2 a a1 p bm w0 w1 w2 w3 (-2) (-1) = fE 1 w0 w1 w2 p := by
  unfold fB2 fS2 fE
  rw [if_neg (by decide : ¬ (1 : Int32) = 0), if_pos rfl]
  by_cases h0 : p < 2
  · simp only [if_pos h0, if_true]
  · by_cases h1 : w0 = -2
    · by_cases h2 : w1 = -1
      · simp only [if_neg h0, if_pos h1, if_pos h2, if_neg (by decide : ¬ (1 : Int32) = 0)]
      · simp only [if_neg h0, if_pos h1, if_neg h2, if_true]
    · simp only [if_neg h0, if_neg h1, if_true]
theorem own_l (a a1 bm : Addr) (p w0 w1 w2 w3 : Int32) : fB2 a a1 p bm w0 w1 w2 w3 (-1) (-2) = fE 2 w0 w1 w2 p := by
  unfold fB2 fS2 fE
  rw [if_neg (by decide : ¬ (2 : Int32) = 0), if_neg (by decide : ¬ (2 : Int32) = 1), if_pos rfl]
  by_cases h0 : p < 2
  · simp only [if_pos h0, if_true]
  · by_cases h1 : w0 = -1
    · by_cases h2 : w1 = -2
      · simp only [if_neg h0, if_pos h1, if_pos h2, if_neg (by decide : ¬ (1 : Int32) = 0)]
      · simp only [if_neg h0, if_pos h1, if_neg h2, if_true]
    · simp only [if_neg h0, if_neg h1, if_true]
theorem pd_1 : parseMethodDescriptor "([BI)I" = some ⟨[(.array .byte), .int], some .int⟩ := by decide +kernel
theorem pd_2 : parseMethodDescriptor "(IBBBI)I" = some ⟨[.int, .byte, .byte, .byte, .int], some .int⟩ := by decide +kernel
def Q_law (n0 : Nat) (v : Option Value) (h : Heap) (L : List Loc) : Prop := v = some (.int 1) ∧ Fr n0 L
set_option maxRecDepth 65536 in
set_option maxHeartbeats 40000000 in
theorem sg150 {p : Program} {l : Launch} {e : Env} {s : State} {m : MethodId} {args : Array Value} {below : List Frame} {meth : Method} {c : Code} {T0 : State} {locs : List Loc} {Z : State} {av0 : Array Value} {hS : Heap} (s0 : Slot) (s1 : Slot) (s2 : Slot) (s3 : Slot) (s4 : Slot) (s5 : Slot) (kk : Int32) (ln : Int32) (hd : Addr) (s10 : Slot) (st_UTF_8 : Addr) (st_UTF_16BE : Addr) (st_UTF_16LE : Addr) (st_UCS_4BE : Addr) (st_UCS_4LE : Addr) (st_EBCDIC : Addr) (bm_UTF_8 : Addr) (k_bm_UTF_8 : ClassId) (bm_UTF_16BE : Addr) (k_bm_UTF_16BE : ClassId) (bm_UTF_16LE : Addr) (k_bm_UTF_16LE : ClassId) (k_hd : ClassId) (w0 : Int32) (w1 : Int32) (w2 : Int32) (w3 : Int32) (n0 : Nat)
    (X0 : Stand p l e room_1 s m args below meth c T0 locs 1 4) (hx : p.tables.exec = Jvm.exec) (hZ : Z.Warmed39 s.vm) (hw : ∀ d ∈ tables_1, d.before av0 Z = true) (hby : c.code = code) (hml : c.maxLocals = 12) (hown : s.vm.findClass "com/example/arkivsjekk/arkivsjekk/XmlEncodingByteOrderMarkUnitsPinLaw" = some m.cls) (hret : meth.sig.returnType = some .boolean) (hlk : meth.locks = false) (e0 : T0.heap = hS) (N0 : Fr n0 locs) (Z0 : n0 ≤ hS.size) (S_st_UTF_8 : Sta Z hS "com/example/arkivsjekk/arkivsjekk/XmlEncoding" "UTF_8" "Lcom/example/arkivsjekk/arkivsjekk/XmlEncoding;" (.ref st_UTF_8)) (S_st_UTF_16BE : Sta Z hS "com/example/arkivsjekk/arkivsjekk/XmlEncoding" "UTF_16BE" "Lcom/example/arkivsjekk/arkivsjekk/XmlEncoding;" (.ref st_UTF_16BE)) (S_st_UTF_16LE : Sta Z hS "com/example/arkivsjekk/arkivsjekk/XmlEncoding" "UTF_16LE" "Lcom/example/arkivsjekk/arkivsjekk/XmlEncoding;" (.ref st_UTF_16LE)) (S_st_UCS_4BE : Sta Z hS "com/example/arkivsjekk/arkivsjekk/XmlEncoding" "UCS_4BE" "Lcom/example/arkivsjekk/arkivsjekk/XmlEncoding;" (.ref st_UCS_4BE)) (S_st_UCS_4LE : Sta Z hS "com/example/arkivsjekk/arkivsjekk/XmlEncoding" "UCS_4LE" "Lcom/example/arkivsjekk/arkivsjekk/XmlEncoding;" (.ref st_UCS_4LE)) (S_st_EBCDIC : Sta Z hS "com/example/arkivsjekk/arkivsjekk/XmlEncoding" "EBCDIC" "Lcom/example/arkivsjekk/arkivsjekk/XmlEncoding;" (.ref st_EBCDIC)) (E_st_UTF_8 : Exa Z hS st_UTF_8 "com/example/arkivsjekk/arkivsjekk/XmlEncoding") (E_st_UTF_16BE : Exa Z hS st_UTF_16BE "com/example/arkivsjekk/arkivsjekk/XmlEncoding") (E_st_UTF_16LE : Exa Z hS st_UTF_16LE "com/example/arkivsjekk/arkivsjekk/XmlEncoding") (E_st_UCS_4BE : Exa Z hS st_UCS_4BE "com/example/arkivsjekk/arkivsjekk/XmlEncoding") (E_st_UCS_4LE : Exa Z hS st_UCS_4LE "com/example/arkivsjekk/arkivsjekk/XmlEncoding") (E_st_EBCDIC : Exa Z hS st_EBCDIC "com/example/arkivsjekk/arkivsjekk/XmlEncoding") (F_byteOrderMark_st_UTF_8 : Fld Z hS st_UTF_8 "com/example/arkivsjekk/arkivsjekk/XmlEncoding" "byteOrderMark" "[B" (.ref bm_UTF_8)) (F_unitBytes_st_UTF_8 : Fld Z hS st_UTF_8 "com/example/arkivsjekk/arkivsjekk/XmlEncoding" "unitBytes" "I" (.int (1 : Int32))) (V_bm_UTF_8 : Arv Z hS bm_UTF_8 k_bm_UTF_8 .byte (3 : Int32) [(.int (-17 : Int32)), (.int (-69 : Int32)), (.int (-65 : Int32))] (.int (0 : Int32))) (F_byteOrderMark_st_UTF_16BE : Fld Z hS st_UTF_16BE "com/example/arkivsjekk/arkivsjekk/XmlEncoding" "byteOrderMark" "[B" (.ref bm_UTF_16BE)) (F_unitBytes_st_UTF_16BE : Fld Z hS st_UTF_16BE "com/example/arkivsjekk/arkivsjekk/XmlEncoding" "unitBytes" "I" (.int (2 : Int32))) (V_bm_UTF_16BE : Arv Z hS bm_UTF_16BE k_bm_UTF_16BE .byte (2 : Int32) [(.int (-2 : Int32)), (.int (-1 : Int32))] (.int (0 : Int32))) (F_byteOrderMark_st_UTF_16LE : Fld Z hS st_UTF_16LE "com/example/arkivsjekk/arkivsjekk/XmlEncoding" "byteOrderMark" "[B" (.ref bm_UTF_16LE)) (F_unitBytes_st_UTF_16LE : Fld Z hS st_UTF_16LE "com/example/arkivsjekk/arkivsjekk/XmlEncoding" "unitBytes" "I" (.int (2 : Int32))) (V_bm_UTF_16LE : Arv Z hS bm_UTF_16LE k_bm_UTF_16LE .byte (2 : Int32) [(.int (-1 : Int32)), (.int (-2 : Int32))] (.int (0 : Int32))) (F_byteOrderMark_st_UCS_4BE : Fld Z hS st_UCS_4BE "com/example/arkivsjekk/arkivsjekk/XmlEncoding" "byteOrderMark" "[B" .null) (F_byteOrderMark_st_UCS_4LE : Fld Z hS st_UCS_4LE "com/example/arkivsjekk/arkivsjekk/XmlEncoding" "byteOrderMark" "[B" .null) (F_byteOrderMark_st_EBCDIC : Fld Z hS st_EBCDIC "com/example/arkivsjekk/arkivsjekk/XmlEncoding" "byteOrderMark" "[B" .null) (V_hd : Arv Z hS hd k_hd .byte (4 : Int32) [(.int w0), (.int w1), (.int w2), (.int w3)] (.int (0 : Int32))) (h_kk : kk = (0 : Int32) ∨ kk = (1 : Int32) ∨ kk = (2 : Int32) ∨ kk = (3 : Int32) ∨ kk = (4 : Int32) ∨ kk = (5 : Int32)) :
    Gz p e below s 16 128 (Q_law n0) (T0.setTop (mkF m 150 #[s0, s1, s2, s3, s4, s5, .val (.int kk), .val (.ref (fPick kk st_UTF_8 st_UTF_16BE st_UTF_16LE st_UCS_4BE st_UCS_4LE st_EBCDIC)), .val (.int ln), .val (.ref hd), s10, .unset] [])) := by
  have dd : ∀ {pc : Nat} {r : Except DecodeError (Instr × Nat)}, decode code pc = r → decode c.code pc = r := fun q => hb hby q
  show Gz p e below s _ _ _ (T0.setTop (mkF m 150 #[s0, s1, s2, s3, s4, s5, .val (.int kk), .val (.ref (fPick kk st_UTF_8 st_UTF_16BE st_UTF_16LE st_UCS_4BE st_UCS_4LE st_EBCDIC)), .val (.int ln), .val (.ref hd), s10, .unset] []))
  rcases h_kk with rfl | rfl | rfl | rfl | rfl | rfl
  · show Gz p e below s _ _ _ (T0.setTop (mkF m 150 #[s0, s1, s2, s3, s4, s5, .val (.int (0 : Int32)), .val (.ref (fPick (0 : Int32) st_UTF_8 st_UTF_16BE st_UTF_16LE st_UCS_4BE st_UCS_4LE st_EBCDIC)), .val (.int ln), .val (.ref hd), s10, .unset] []))
    rw [show (fPick (0 : Int32) st_UTF_8 st_UTF_16BE st_UTF_16LE st_UCS_4BE st_UCS_4LE st_EBCDIC) = st_UTF_8 from (by unfold fPick; rw [if_pos rfl])]
    refine Gz.aload 152 X0 hx (dd at_150) rfl rfl rfl ?_
    refine Gz.aload 154 X0 hx (dd at_152) rfl rfl rfl ?_
    refine Gz.iload 156 X0 hx (dd at_154) rfl rfl ?_
    obtain ⟨cq1, kq1, q1a, q1b, q1c⟩ := isOf hZ e0 E_st_UTF_8
    obtain ⟨_, _, ⟨T1, L1, k1, n1⟩, -, X1, ⟨Lc1, hQ1, l1, y1, z1⟩, st1⟩ := X0.virtualBack hx (y := (⟨"com/example/arkivsjekk/arkivsjekk/XmlEncoding", "byteOrderMarkUnits", "([BI)I"⟩ : MethodName)) (z := (⟨"com/example/arkivsjekk/arkivsjekk/XmlEncoding", "byteOrderMarkUnits", "([BI)I"⟩ : MethodName)) hown (mvT hZ (ww hw 9 rfl)) (mvT hZ (ww hw 10 rfl)) (notFace_of_selects (args := #[]) (mvT hZ (ww hw 12 rfl))) (mvT hZ (ww hw 12 rfl)) (mvT hZ (ww hw 11 rfl)) (by decide) (backOf (W := 0) (rmB3 l Z av0 hw [] st_UTF_8 hd ln bm_UTF_8 k_hd w0 w1 w2 w3 k_bm_UTF_8 (-17 : Int32) (-69 : Int32) (-65 : Int32) hS n0 Z0 F_byteOrderMark_st_UTF_8 F_unitBytes_st_UTF_8 V_hd V_bm_UTF_8) hZ (ww hw 13 rfl) (ww hw 6 rfl) (by decide) (by decide)) q1a q1c (g := (mkF m 156 #[s0, s1, s2, s3, s4, s5, .val (.int (0 : Int32)), .val (.ref st_UTF_8), .val (.int ln), .val (.ref hd), s10, .unset] [(.int ln), (.ref hd), (.ref st_UTF_8)])) rfl (by rw [hml]; rfl) (Steps.refl _) (argsL := [(.ref hd), (.int ln)]) (rest := []) (lenOf pd_1 rfl) rfl (by show 2 * 0 + _ ≤ _; exact Nat.le_of_eq rfl) (dd at_156) (fun _ _ => ⟨rfl, e0, (by decide : 1 + 0 ≤ _), (by decide : 4 + 0 ≤ _)⟩)
    dsimp only [Pt.U, Pt.locs, Pt.cells, Pt.slots, Q_rmB3] at X1 l1 y1 z1 st1 hQ1
    subst l1 y1 z1
    obtain ⟨rfl, N1q, e1⟩ := hQ1
    have N1 := Fr.app N0 N1q
    refine Gz.tr st1 ?_
    refine Gz.istore 161 #[s0, s1, s2, s3, s4, s5, .val (.int (0 : Int32)), .val (.ref st_UTF_8), .val (.int ln), .val (.ref hd), s10, .val (.int (fB3 st_UTF_8 hd ln bm_UTF_8 w0 w1 w2 w3 (-17 : Int32) (-69 : Int32) (-65 : Int32)))] X1 hx (dd at_159) rfl rfl ?_
    refine Gz.iload 163 X1 hx (dd at_161) rfl rfl ?_
    refine Gz.iload 165 X1 hx (dd at_163) rfl rfl ?_
    refine Gz.aload 167 X1 hx (dd at_165) rfl rfl rfl ?_
    refine Gz.iconst 168 (0 : Int32) X1 hx (dd at_167) rfl rfl ?_
    obtain ⟨c2, A2, q2, S2, N2, H2, G2⟩ := id V_hd
    have hin2 : ¬ ((0 : Int32) < 0 ∨ c2.slots.size ≤ ((0 : Int32)).toNatClampNeg) := inb_of S2 ⟨by decide, by decide⟩
    refine Gz.ldB 169 X1 hx hZ (dd at_168) e1 A2 hin2 (Has.at H2 hin2 (rfl : _ = ((.int w0) : Value))) rfl ?_
    refine Gz.aload 171 X1 hx (dd at_169) rfl rfl rfl ?_
    refine Gz.iconst 172 (1 : Int32) X1 hx (dd at_171) rfl rfl ?_
    obtain ⟨c3, A3, q3, S3, N3, H3, G3⟩ := id V_hd
    have hin3 : ¬ ((1 : Int32) < 0 ∨ c3.slots.size ≤ ((1 : Int32)).toNatClampNeg) := inb_of S3 ⟨by decide, by decide⟩
    refine Gz.ldB 173 X1 hx hZ (dd at_172) e1 A3 hin3 (Has.at H3 hin3 (rfl : _ = ((.int w1) : Value))) rfl ?_
    refine Gz.aload 175 X1 hx (dd at_173) rfl rfl rfl ?_
    refine Gz.iconst 176 (2 : Int32) X1 hx (dd at_175) rfl rfl ?_
    obtain ⟨c4, A4, q4, S4, N4, H4, G4⟩ := id V_hd
    have hin4 : ¬ ((2 : Int32) < 0 ∨ c4.slots.size ≤ ((2 : Int32)).toNatClampNeg) := inb_of S4 ⟨by decide, by decide⟩
    refine Gz.ldB 177 X1 hx hZ (dd at_176) e1 A4 hin4 (Has.at H4 hin4 (rfl : _ = ((.int w2) : Value))) rfl ?_
    refine Gz.iload 179 X1 hx (dd at_177) rfl rfl ?_
    obtain ⟨_, _, ⟨T5, L5, k5, n5⟩, -, X5, ⟨Lc5, hQ5, l5, y5, z5⟩, st5⟩ := Jvm.LawKit.callS X1 hx (y := (⟨"com/example/arkivsjekk/arkivsjekk/XmlEncodingByteOrderMarkUnitsPinLaw", "expected", "(IBBBI)I"⟩ : MethodName)) hown (mvT hZ (ww hw 21 rfl)) (mvT hZ (ww hw 22 rfl)) (mvT hZ (ww hw 3 rfl)) (mvT hZ (ww hw 23 rfl)) (by decide) (backOf (W := 1) (rm4 l Z av0 hw [] (0 : Int32) w0 w1 w2 ln  hS n0 Z0 ) hZ (ww hw 23 rfl) (ww hw 3 rfl) (by decide) (by decide)) (g := (mkF m 179 #[s0, s1, s2, s3, s4, s5, .val (.int (0 : Int32)), .val (.ref st_UTF_8), .val (.int ln), .val (.ref hd), s10, .val (.int (fB3 st_UTF_8 hd ln bm_UTF_8 w0 w1 w2 w3 (-17 : Int32) (-69 : Int32) (-65 : Int32)))] [(.int ln), (.int w2), (.int w1), (.int w0), (.int (0 : Int32)), (.int (fB3 st_UTF_8 hd ln bm_UTF_8 w0 w1 w2 w3 (-17 : Int32) (-69 : Int32) (-65 : Int32)))])) rfl (by rw [hml]; rfl) (argsL := [(.int (0 : Int32)), (.int w0), (.int w1), (.int w2), (.int ln)]) (rest := [(.int (fB3 st_UTF_8 hd ln bm_UTF_8 w0 w1 w2 w3 (-17 : Int32) (-69 : Int32) (-65 : Int32)))]) (lenOf pd_2 rfl) rfl (by show 2 * 0 + _ ≤ _; exact Nat.le_of_eq rfl) (dd at_179) (fun _ _ => ⟨rfl, e1, (by decide : 1 + 0 ≤ _), (by decide : 4 + 0 ≤ _)⟩)
    dsimp only [Pt.U, Pt.locs, Pt.cells, Pt.slots, Q_rm4] at X5 l5 y5 z5 st5 hQ5
    subst l5 y5 z5
    obtain ⟨rfl, N5q, e5⟩ := hQ5
    have N5 := Fr.app N1 N5q
    refine Gz.st st5 ?_
    refine Gz.icmpNo 185 X5 hx (dd at_182) (teq (own_8 _ _ _ _ _ _ _ _ : (fB3 st_UTF_8 hd ln bm_UTF_8 w0 w1 w2 w3 (-17 : Int32) (-69 : Int32) (-65 : Int32)) = (fE (0 : Int32) w0 w1 w2 ln))).2 rfl ?_
    refine Gz.iconst 186 (1 : Int32) X5 hx (dd at_185) rfl rfl ?_
    refine Gz.goto 190 X5 hx (dd at_186) (by decide) (by decide) ?_
    refine Gz.fin X5 (v := some (.int (1 : Int32))) (fun h => by rw [hret] at h; cases h) hlk (by decide) (by decide) (fun fs hr => retN X5 hx (t := .boolean) hret (by simp) (dd at_190) hr) ?_
    exact ⟨rfl, N5⟩
  · show Gz p e below s _ _ _ (T0.setTop (mkF m 150 #[s0, s1, s2, s3, s4, s5, .val (.int (1 : Int32)), .val (.ref (fPick (1 : Int32) st_UTF_8 st_UTF_16BE st_UTF_16LE st_UCS_4BE st_UCS_4LE st_EBCDIC)), .val (.int ln), .val (.ref hd), s10, .unset] []))
    rw [show (fPick (1 : Int32) st_UTF_8 st_UTF_16BE st_UTF_16LE st_UCS_4BE st_UCS_4LE st_EBCDIC) = st_UTF_16BE from (by unfold fPick; rw [if_neg (by decide), if_pos rfl])]
    refine Gz.aload 152 X0 hx (dd at_150) rfl rfl rfl ?_
    refine Gz.aload 154 X0 hx (dd at_152) rfl rfl rfl ?_
    refine Gz.iload 156 X0 hx (dd at_154) rfl rfl ?_
    obtain ⟨cq6, kq6, q6a, q6b, q6c⟩ := isOf hZ e0 E_st_UTF_16BE
    obtain ⟨_, _, ⟨T6, L6, k6, n6⟩, -, X6, ⟨Lc6, hQ6, l6, y6, z6⟩, st6⟩ := X0.virtualBack hx (y := (⟨"com/example/arkivsjekk/arkivsjekk/XmlEncoding", "byteOrderMarkUnits", "([BI)I"⟩ : MethodName)) (z := (⟨"com/example/arkivsjekk/arkivsjekk/XmlEncoding", "byteOrderMarkUnits", "([BI)I"⟩ : MethodName)) hown (mvT hZ (ww hw 9 rfl)) (mvT hZ (ww hw 10 rfl)) (notFace_of_selects (args := #[]) (mvT hZ (ww hw 12 rfl))) (mvT hZ (ww hw 12 rfl)) (mvT hZ (ww hw 11 rfl)) (by decide) (backOf (W := 0) (rmB2 l Z av0 hw [] st_UTF_16BE hd ln bm_UTF_16BE k_hd w0 w1 w2 w3 k_bm_UTF_16BE (-2 : Int32) (-1 : Int32) hS n0 Z0 F_byteOrderMark_st_UTF_16BE F_unitBytes_st_UTF_16BE V_hd V_bm_UTF_16BE) hZ (ww hw 13 rfl) (ww hw 6 rfl) (by decide) (by decide)) q6a q6c (g := (mkF m 156 #[s0, s1, s2, s3, s4, s5, .val (.int (1 : Int32)), .val (.ref st_UTF_16BE), .val (.int ln), .val (.ref hd), s10, .unset] [(.int ln), (.ref hd), (.ref st_UTF_16BE)])) rfl (by rw [hml]; rfl) (Steps.refl _) (argsL := [(.ref hd), (.int ln)]) (rest := []) (lenOf pd_1 rfl) rfl (by show 2 * 0 + _ ≤ _; exact Nat.le_of_eq rfl) (dd at_156) (fun _ _ => ⟨rfl, e0, (by decide : 1 + 0 ≤ _), (by decide : 4 + 0 ≤ _)⟩)
    dsimp only [Pt.U, Pt.locs, Pt.cells, Pt.slots, Q_rmB2] at X6 l6 y6 z6 st6 hQ6
    subst l6 y6 z6
    obtain ⟨rfl, N6q, e6⟩ := hQ6
    have N6 := Fr.app N0 N6q
    refine Gz.tr st6 ?_
    refine Gz.istore 161 #[s0, s1, s2, s3, s4, s5, .val (.int (1 : Int32)), .val (.ref st_UTF_16BE), .val (.int ln), .val (.ref hd), s10, .val (.int (fB2 st_UTF_16BE hd ln bm_UTF_16BE w0 w1 w2 w3 (-2 : Int32) (-1 : Int32)))] X6 hx (dd at_159) rfl rfl ?_
    refine Gz.iload 163 X6 hx (dd at_161) rfl rfl ?_
    refine Gz.iload 165 X6 hx (dd at_163) rfl rfl ?_
    refine Gz.aload 167 X6 hx (dd at_165) rfl rfl rfl ?_
    refine Gz.iconst 168 (0 : Int32) X6 hx (dd at_167) rfl rfl ?_
    obtain ⟨c7, A7, q7, S7, N7, H7, G7⟩ := id V_hd
    have hin7 : ¬ ((0 : Int32) < 0 ∨ c7.slots.size ≤ ((0 : Int32)).toNatClampNeg) := inb_of S7 ⟨by decide, by decide⟩
    refine Gz.ldB 169 X6 hx hZ (dd at_168) e6 A7 hin7 (Has.at H7 hin7 (rfl : _ = ((.int w0) : Value))) rfl ?_
    refine Gz.aload 171 X6 hx (dd at_169) rfl rfl rfl ?_
    refine Gz.iconst 172 (1 : Int32) X6 hx (dd at_171) rfl rfl ?_
    obtain ⟨c8, A8, q8, S8, N8, H8, G8⟩ := id V_hd
    have hin8 : ¬ ((1 : Int32) < 0 ∨ c8.slots.size ≤ ((1 : Int32)).toNatClampNeg) := inb_of S8 ⟨by decide, by decide⟩
    refine Gz.ldB 173 X6 hx hZ (dd at_172) e6 A8 hin8 (Has.at H8 hin8 (rfl : _ = ((.int w1) : Value))) rfl ?_
    refine Gz.aload 175 X6 hx (dd at_173) rfl rfl rfl ?_
    refine Gz.iconst 176 (2 : Int32) X6 hx (dd at_175) rfl rfl ?_
    obtain ⟨c9, A9, q9, S9, N9, H9, G9⟩ := id V_hd
    have hin9 : ¬ ((2 : Int32) < 0 ∨ c9.slots.size ≤ ((2 : Int32)).toNatClampNeg) := inb_of S9 ⟨by decide, by decide⟩
    refine Gz.ldB 177 X6 hx hZ (dd at_176) e6 A9 hin9 (Has.at H9 hin9 (rfl : _ = ((.int w2) : Value))) rfl ?_
    refine Gz.iload 179 X6 hx (dd at_177) rfl rfl ?_
    obtain ⟨_, _, ⟨T10, L10, k10, n10⟩, -, X10, ⟨Lc10, hQ10, l10, y10, z10⟩, st10⟩ := Jvm.LawKit.callS X6 hx (y := (⟨"com/example/arkivsjekk/arkivsjekk/XmlEncodingByteOrderMarkUnitsPinLaw", "expected", "(IBBBI)I"⟩ : MethodName)) hown (mvT hZ (ww hw 21 rfl)) (mvT hZ (ww hw 22 rfl)) (mvT hZ (ww hw 3 rfl)) (mvT hZ (ww hw 23 rfl)) (by decide) (backOf (W := 1) (rm4 l Z av0 hw [] (1 : Int32) w0 w1 w2 ln  hS n0 Z0 ) hZ (ww hw 23 rfl) (ww hw 3 rfl) (by decide) (by decide)) (g := (mkF m 179 #[s0, s1, s2, s3, s4, s5, .val (.int (1 : Int32)), .val (.ref st_UTF_16BE), .val (.int ln), .val (.ref hd), s10, .val (.int (fB2 st_UTF_16BE hd ln bm_UTF_16BE w0 w1 w2 w3 (-2 : Int32) (-1 : Int32)))] [(.int ln), (.int w2), (.int w1), (.int w0), (.int (1 : Int32)), (.int (fB2 st_UTF_16BE hd ln bm_UTF_16BE w0 w1 w2 w3 (-2 : Int32) (-1 : Int32)))])) rfl (by rw [hml]; rfl) (argsL := [(.int (1 : Int32)), (.int w0), (.int w1), (.int w2), (.int ln)]) (rest := [(.int (fB2 st_UTF_16BE hd ln bm_UTF_16BE w0 w1 w2 w3 (-2 : Int32) (-1 : Int32)))]) (lenOf pd_2 rfl) rfl (by show 2 * 0 + _ ≤ _; exact Nat.le_of_eq rfl) (dd at_179) (fun _ _ => ⟨rfl, e6, (by decide : 1 + 0 ≤ _), (by decide : 4 + 0 ≤ _)⟩)
    dsimp only [Pt.U, Pt.locs, Pt.cells, Pt.slots, Q_rm4] at X10 l10 y10 z10 st10 hQ10
    subst l10 y10 z10
    obtain ⟨rfl, N10q, e10⟩ := hQ10
    have N10 := Fr.app N6 N10q
    refine Gz.st st10 ?_
    refine Gz.icmpNo 185 X10 hx (dd at_182) (teq (own_b _ _ _ _ _ _ _ _ : (fB2 st_UTF_16BE hd ln bm_UTF_16BE w0 w1 w2 w3 (-2 : Int32) (-1 : Int32)) = (fE (1 : Int32) w0 w1 w2 ln))).2 rfl ?_
    refine Gz.iconst 186 (1 : Int32) X10 hx (dd at_185) rfl rfl ?_
    refine Gz.goto 190 X10 hx (dd at_186) (by decide) (by decide) ?_
    refine Gz.fin X10 (v := some (.int (1 : Int32))) (fun h => by rw [hret] at h; cases h) hlk (by decide) (by decide) (fun fs hr => retN X10 hx (t := .boolean) hret (by simp) (dd at_190) hr) ?_
    exact ⟨rfl, N10⟩
  · show Gz p e below s _ _ _ (T0.setTop (mkF m 150 #[s0, s1, s2, s3, s4, s5, .val (.int (2 : Int32)), .val (.ref (fPick (2 : Int32) st_UTF_8 st_UTF_16BE st_UTF_16LE st_UCS_4BE st_UCS_4LE st_EBCDIC)), .val (.int ln), .val (.ref hd), s10, .unset] []))
    rw [show (fPick (2 : Int32) st_UTF_8 st_UTF_16BE st_UTF_16LE st_UCS_4BE st_UCS_4LE st_EBCDIC) = st_UTF_16LE from (by unfold fPick; rw [if_neg (by decide), if_neg (by decide), if_pos rfl])]
    refine Gz.aload 152 X0 hx (dd at_150) rfl rfl rfl ?_
    refine Gz.aload 154 X0 hx (dd at_152) rfl rfl rfl ?_
    refine Gz.iload 156 X0 hx (dd at_154) rfl rfl ?_
    obtain ⟨cq11, kq11, q11a, q11b, q11c⟩ := isOf hZ e0 E_st_UTF_16LE
    obtain ⟨_, _, ⟨T11, L11, k11, n11⟩, -, X11, ⟨Lc11, hQ11, l11, y11, z11⟩, st11⟩ := X0.virtualBack hx (y := (⟨"com/example/arkivsjekk/arkivsjekk/XmlEncoding", "byteOrderMarkUnits", "([BI)I"⟩ : MethodName)) (z := (⟨"com/example/arkivsjekk/arkivsjekk/XmlEncoding", "byteOrderMarkUnits", "([BI)I"⟩ : MethodName)) hown (mvT hZ (ww hw 9 rfl)) (mvT hZ (ww hw 10 rfl)) (notFace_of_selects (args := #[]) (mvT hZ (ww hw 12 rfl))) (mvT hZ (ww hw 12 rfl)) (mvT hZ (ww hw 11 rfl)) (by decide) (backOf (W := 0) (rmB2 l Z av0 hw [] st_UTF_16LE hd ln bm_UTF_16LE k_hd w0 w1 w2 w3 k_bm_UTF_16LE (-1 : Int32) (-2 : Int32) hS n0 Z0 F_byteOrderMark_st_UTF_16LE F_unitBytes_st_UTF_16LE V_hd V_bm_UTF_16LE) hZ (ww hw 13 rfl) (ww hw 6 rfl) (by decide) (by decide)) q11a q11c (g := (mkF m 156 #[s0, s1, s2, s3, s4, s5, .val (.int (2 : Int32)), .val (.ref st_UTF_16LE), .val (.int ln), .val (.ref hd), s10, .unset] [(.int ln), (.ref hd), (.ref st_UTF_16LE)])) rfl (by rw [hml]; rfl) (Steps.refl _) (argsL := [(.ref hd), (.int ln)]) (rest := []) (lenOf pd_1 rfl) rfl (by show 2 * 0 + _ ≤ _; exact Nat.le_of_eq rfl) (dd at_156) (fun _ _ => ⟨rfl, e0, (by decide : 1 + 0 ≤ _), (by decide : 4 + 0 ≤ _)⟩)
    dsimp only [Pt.U, Pt.locs, Pt.cells, Pt.slots, Q_rmB2] at X11 l11 y11 z11 st11 hQ11
    subst l11 y11 z11
    obtain ⟨rfl, N11q, e11⟩ := hQ11
    have N11 := Fr.app N0 N11q
    refine Gz.tr st11 ?_
    refine Gz.istore 161 #[s0, s1, s2, s3, s4, s5, .val (.int (2 : Int32)), .val (.ref st_UTF_16LE), .val (.int ln), .val (.ref hd), s10, .val (.int (fB2 st_UTF_16LE hd ln bm_UTF_16LE w0 w1 w2 w3 (-1 : Int32) (-2 : Int32)))] X11 hx (dd at_159) rfl rfl ?_
    refine Gz.iload 163 X11 hx (dd at_161) rfl rfl ?_
    refine Gz.iload 165 X11 hx (dd at_163) rfl rfl ?_
    refine Gz.aload 167 X11 hx (dd at_165) rfl rfl rfl ?_
    refine Gz.iconst 168 (0 : Int32) X11 hx (dd at_167) rfl rfl ?_
    obtain ⟨c12, A12, q12, S12, N12, H12, G12⟩ := id V_hd
    have hin12 : ¬ ((0 : Int32) < 0 ∨ c12.slots.size ≤ ((0 : Int32)).toNatClampNeg) := inb_of S12 ⟨by decide, by decide⟩
    refine Gz.ldB 169 X11 hx hZ (dd at_168) e11 A12 hin12 (Has.at H12 hin12 (rfl : _ = ((.int w0) : Value))) rfl ?_
    refine Gz.aload 171 X11 hx (dd at_169) rfl rfl rfl ?_
    refine Gz.iconst 172 (1 : Int32) X11 hx (dd at_171) rfl rfl ?_
    obtain ⟨c13, A13, q13, S13, N13, H13, G13⟩ := id V_hd
    have hin13 : ¬ ((1 : Int32) < 0 ∨ c13.slots.size ≤ ((1 : Int32)).toNatClampNeg) := inb_of S13 ⟨by decide, by decide⟩
    refine Gz.ldB 173 X11 hx hZ (dd at_172) e11 A13 hin13 (Has.at H13 hin13 (rfl : _ = ((.int w1) : Value))) rfl ?_
    refine Gz.aload 175 X11 hx (dd at_173) rfl rfl rfl ?_
    refine Gz.iconst 176 (2 : Int32) X11 hx (dd at_175) rfl rfl ?_
    obtain ⟨c14, A14, q14, S14, N14, H14, G14⟩ := id V_hd
    have hin14 : ¬ ((2 : Int32) < 0 ∨ c14.slots.size ≤ ((2 : Int32)).toNatClampNeg) := inb_of S14 ⟨by decide, by decide⟩
    refine Gz.ldB 177 X11 hx hZ (dd at_176) e11 A14 hin14 (Has.at H14 hin14 (rfl : _ = ((.int w2) : Value))) rfl ?_
    refine Gz.iload 179 X11 hx (dd at_177) rfl rfl ?_
    obtain ⟨_, _, ⟨T15, L15, k15, n15⟩, -, X15, ⟨Lc15, hQ15, l15, y15, z15⟩, st15⟩ := Jvm.LawKit.callS X11 hx (y := (⟨"com/example/arkivsjekk/arkivsjekk/XmlEncodingByteOrderMarkUnitsPinLaw", "expected", "(IBBBI)I"⟩ : MethodName)) hown (mvT hZ (ww hw 21 rfl)) (mvT hZ (ww hw 22 rfl)) (mvT hZ (ww hw 3 rfl)) (mvT hZ (ww hw 23 rfl)) (by decide) (backOf (W := 1) (rm4 l Z av0 hw [] (2 : Int32) w0 w1 w2 ln  hS n0 Z0 ) hZ (ww hw 23 rfl) (ww hw 3 rfl) (by decide) (by decide)) (g := (mkF m 179 #[s0, s1, s2, s3, s4, s5, .val (.int (2 : Int32)), .val (.ref st_UTF_16LE), .val (.int ln), .val (.ref hd), s10, .val (.int (fB2 st_UTF_16LE hd ln bm_UTF_16LE w0 w1 w2 w3 (-1 : Int32) (-2 : Int32)))] [(.int ln), (.int w2), (.int w1), (.int w0), (.int (2 : Int32)), (.int (fB2 st_UTF_16LE hd ln bm_UTF_16LE w0 w1 w2 w3 (-1 : Int32) (-2 : Int32)))])) rfl (by rw [hml]; rfl) (argsL := [(.int (2 : Int32)), (.int w0), (.int w1), (.int w2), (.int ln)]) (rest := [(.int (fB2 st_UTF_16LE hd ln bm_UTF_16LE w0 w1 w2 w3 (-1 : Int32) (-2 : Int32)))]) (lenOf pd_2 rfl) rfl (by show 2 * 0 + _ ≤ _; exact Nat.le_of_eq rfl) (dd at_179) (fun _ _ => ⟨rfl, e11, (by decide : 1 + 0 ≤ _), (by decide : 4 + 0 ≤ _)⟩)
    dsimp only [Pt.U, Pt.locs, Pt.cells, Pt.slots, Q_rm4] at X15 l15 y15 z15 st15 hQ15
    subst l15 y15 z15
    obtain ⟨rfl, N15q, e15⟩ := hQ15
    have N15 := Fr.app N11 N15q
    refine Gz.st st15 ?_
    refine Gz.icmpNo 185 X15 hx (dd at_182) (teq (own_l _ _ _ _ _ _ _ _ : (fB2 st_UTF_16LE hd ln bm_UTF_16LE w0 w1 w2 w3 (-1 : Int32) (-2 : Int32)) = (fE (2 : Int32) w0 w1 w2 ln))).2 rfl ?_
    refine Gz.iconst 186 (1 : Int32) X15 hx (dd at_185) rfl rfl ?_
    refine Gz.goto 190 X15 hx (dd at_186) (by decide) (by decide) ?_
    refine Gz.fin X15 (v := some (.int (1 : Int32))) (fun h => by rw [hret] at h; cases h) hlk (by decide) (by decide) (fun fs hr => retN X15 hx (t := .boolean) hret (by simp) (dd at_190) hr) ?_
    exact ⟨rfl, N15⟩
  · show Gz p e below s _ _ _ (T0.setTop (mkF m 150 #[s0, s1, s2, s3, s4, s5, .val (.int (3 : Int32)), .val (.ref (fPick (3 : Int32) st_UTF_8 st_UTF_16BE st_UTF_16LE st_UCS_4BE st_UCS_4LE st_EBCDIC)), .val (.int ln), .val (.ref hd), s10, .unset] []))
    rw [show (fPick (3 : Int32) st_UTF_8 st_UTF_16BE st_UTF_16LE st_UCS_4BE st_UCS_4LE st_EBCDIC) = st_UCS_4BE from (by unfold fPick; rw [if_neg (by decide), if_neg (by decide), if_neg (by decide), if_pos rfl])]
    refine Gz.aload 152 X0 hx (dd at_150) rfl rfl rfl ?_
    refine Gz.aload 154 X0 hx (dd at_152) rfl rfl rfl ?_
    refine Gz.iload 156 X0 hx (dd at_154) rfl rfl ?_
    obtain ⟨cq16, kq16, q16a, q16b, q16c⟩ := isOf hZ e0 E_st_UCS_4BE
    obtain ⟨_, _, ⟨T16, L16, k16, n16⟩, -, X16, ⟨Lc16, hQ16, l16, y16, z16⟩, st16⟩ := X0.virtualBack hx (y := (⟨"com/example/arkivsjekk/arkivsjekk/XmlEncoding", "byteOrderMarkUnits", "([BI)I"⟩ : MethodName)) (z := (⟨"com/example/arkivsjekk/arkivsjekk/XmlEncoding", "byteOrderMarkUnits", "([BI)I"⟩ : MethodName)) hown (mvT hZ (ww hw 9 rfl)) (mvT hZ (ww hw 10 rfl)) (notFace_of_selects (args := #[]) (mvT hZ (ww hw 12 rfl))) (mvT hZ (ww hw 12 rfl)) (mvT hZ (ww hw 11 rfl)) (by decide) (backOf (W := 0) (rmBn l Z av0 hw [] st_UCS_4BE hd ln  hS n0 Z0 F_byteOrderMark_st_UCS_4BE) hZ (ww hw 13 rfl) (ww hw 6 rfl) (by decide) (by decide)) q16a q16c (g := (mkF m 156 #[s0, s1, s2, s3, s4, s5, .val (.int (3 : Int32)), .val (.ref st_UCS_4BE), .val (.int ln), .val (.ref hd), s10, .unset] [(.int ln), (.ref hd), (.ref st_UCS_4BE)])) rfl (by rw [hml]; rfl) (Steps.refl _) (argsL := [(.ref hd), (.int ln)]) (rest := []) (lenOf pd_1 rfl) rfl (by show 2 * 0 + _ ≤ _; exact Nat.le_of_eq rfl) (dd at_156) (fun _ _ => ⟨rfl, e0, (by decide : 1 + 0 ≤ _), (by decide : 4 + 0 ≤ _)⟩)
    dsimp only [Pt.U, Pt.locs, Pt.cells, Pt.slots, Q_rmBn] at X16 l16 y16 z16 st16 hQ16
    subst l16 y16 z16
    rw [show (fBn st_UCS_4BE hd ln) = (0 : Int32) from (by unfold fBn; rfl)] at hQ16
    obtain ⟨rfl, N16q, e16⟩ := hQ16
    have N16 := Fr.app N0 N16q
    refine Gz.tr st16 ?_
    refine Gz.istore 161 #[s0, s1, s2, s3, s4, s5, .val (.int (3 : Int32)), .val (.ref st_UCS_4BE), .val (.int ln), .val (.ref hd), s10, .val (.int (0 : Int32))] X16 hx (dd at_159) rfl rfl ?_
    refine Gz.iload 163 X16 hx (dd at_161) rfl rfl ?_
    refine Gz.iload 165 X16 hx (dd at_163) rfl rfl ?_
    refine Gz.aload 167 X16 hx (dd at_165) rfl rfl rfl ?_
    refine Gz.iconst 168 (0 : Int32) X16 hx (dd at_167) rfl rfl ?_
    obtain ⟨c17, A17, q17, S17, N17, H17, G17⟩ := id V_hd
    have hin17 : ¬ ((0 : Int32) < 0 ∨ c17.slots.size ≤ ((0 : Int32)).toNatClampNeg) := inb_of S17 ⟨by decide, by decide⟩
    refine Gz.ldB 169 X16 hx hZ (dd at_168) e16 A17 hin17 (Has.at H17 hin17 (rfl : _ = ((.int w0) : Value))) rfl ?_
    refine Gz.aload 171 X16 hx (dd at_169) rfl rfl rfl ?_
    refine Gz.iconst 172 (1 : Int32) X16 hx (dd at_171) rfl rfl ?_
    obtain ⟨c18, A18, q18, S18, N18, H18, G18⟩ := id V_hd
    have hin18 : ¬ ((1 : Int32) < 0 ∨ c18.slots.size ≤ ((1 : Int32)).toNatClampNeg) := inb_of S18 ⟨by decide, by decide⟩
    refine Gz.ldB 173 X16 hx hZ (dd at_172) e16 A18 hin18 (Has.at H18 hin18 (rfl : _ = ((.int w1) : Value))) rfl ?_
    refine Gz.aload 175 X16 hx (dd at_173) rfl rfl rfl ?_
    refine Gz.iconst 176 (2 : Int32) X16 hx (dd at_175) rfl rfl ?_
    obtain ⟨c19, A19, q19, S19, N19, H19, G19⟩ := id V_hd
    have hin19 : ¬ ((2 : Int32) < 0 ∨ c19.slots.size ≤ ((2 : Int32)).toNatClampNeg) := inb_of S19 ⟨by decide, by decide⟩
    refine Gz.ldB 177 X16 hx hZ (dd at_176) e16 A19 hin19 (Has.at H19 hin19 (rfl : _ = ((.int w2) : Value))) rfl ?_
    refine Gz.iload 179 X16 hx (dd at_177) rfl rfl ?_
    obtain ⟨_, _, ⟨T20, L20, k20, n20⟩, -, X20, ⟨Lc20, hQ20, l20, y20, z20⟩, st20⟩ := Jvm.LawKit.callS X16 hx (y := (⟨"com/example/arkivsjekk/arkivsjekk/XmlEncodingByteOrderMarkUnitsPinLaw", "expected", "(IBBBI)I"⟩ : MethodName)) hown (mvT hZ (ww hw 21 rfl)) (mvT hZ (ww hw 22 rfl)) (mvT hZ (ww hw 3 rfl)) (mvT hZ (ww hw 23 rfl)) (by decide) (backOf (W := 1) (rm4 l Z av0 hw [] (3 : Int32) w0 w1 w2 ln  hS n0 Z0 ) hZ (ww hw 23 rfl) (ww hw 3 rfl) (by decide) (by decide)) (g := (mkF m 179 #[s0, s1, s2, s3, s4, s5, .val (.int (3 : Int32)), .val (.ref st_UCS_4BE), .val (.int ln), .val (.ref hd), s10, .val (.int (0 : Int32))] [(.int ln), (.int w2), (.int w1), (.int w0), (.int (3 : Int32)), (.int (0 : Int32))])) rfl (by rw [hml]; rfl) (argsL := [(.int (3 : Int32)), (.int w0), (.int w1), (.int w2), (.int ln)]) (rest := [(.int (0 : Int32))]) (lenOf pd_2 rfl) rfl (by show 2 * 0 + _ ≤ _; exact Nat.le_of_eq rfl) (dd at_179) (fun _ _ => ⟨rfl, e16, (by decide : 1 + 0 ≤ _), (by decide : 4 + 0 ≤ _)⟩)
    dsimp only [Pt.U, Pt.locs, Pt.cells, Pt.slots, Q_rm4] at X20 l20 y20 z20 st20 hQ20
    subst l20 y20 z20
    obtain ⟨rfl, N20q, e20⟩ := hQ20
    have N20 := Fr.app N16 N20q
    refine Gz.st st20 ?_
    refine Gz.icmpNo 185 X20 hx (dd at_182) (teq ((by unfold fE; rw [if_neg (by decide), if_neg (by decide), if_neg (by decide)]) : (0 : Int32) = (fE (3 : Int32) w0 w1 w2 ln))).2 rfl ?_
    refine Gz.iconst 186 (1 : Int32) X20 hx (dd at_185) rfl rfl ?_
    refine Gz.goto 190 X20 hx (dd at_186) (by decide) (by decide) ?_
    refine Gz.fin X20 (v := some (.int (1 : Int32))) (fun h => by rw [hret] at h; cases h) hlk (by decide) (by decide) (fun fs hr => retN X20 hx (t := .boolean) hret (by simp) (dd at_190) hr) ?_
    exact ⟨rfl, N20⟩
  · show Gz p e below s _ _ _ (T0.setTop (mkF m 150 #[s0, s1, s2, s3, s4, s5, .val (.int (4 : Int32)), .val (.ref (fPick (4 : Int32) st_UTF_8 st_UTF_16BE st_UTF_16LE st_UCS_4BE st_UCS_4LE st_EBCDIC)), .val (.int ln), .val (.ref hd), s10, .unset] []))
    rw [show (fPick (4 : Int32) st_UTF_8 st_UTF_16BE st_UTF_16LE st_UCS_4BE st_UCS_4LE st_EBCDIC) = st_UCS_4LE from (by unfold fPick; rw [if_neg (by decide), if_neg (by decide), if_neg (by decide), if_neg (by decide), if_pos rfl])]
    refine Gz.aload 152 X0 hx (dd at_150) rfl rfl rfl ?_
    refine Gz.aload 154 X0 hx (dd at_152) rfl rfl rfl ?_
    refine Gz.iload 156 X0 hx (dd at_154) rfl rfl ?_
    obtain ⟨cq21, kq21, q21a, q21b, q21c⟩ := isOf hZ e0 E_st_UCS_4LE
    obtain ⟨_, _, ⟨T21, L21, k21, n21⟩, -, X21, ⟨Lc21, hQ21, l21, y21, z21⟩, st21⟩ := X0.virtualBack hx (y := (⟨"com/example/arkivsjekk/arkivsjekk/XmlEncoding", "byteOrderMarkUnits", "([BI)I"⟩ : MethodName)) (z := (⟨"com/example/arkivsjekk/arkivsjekk/XmlEncoding", "byteOrderMarkUnits", "([BI)I"⟩ : MethodName)) hown (mvT hZ (ww hw 9 rfl)) (mvT hZ (ww hw 10 rfl)) (notFace_of_selects (args := #[]) (mvT hZ (ww hw 12 rfl))) (mvT hZ (ww hw 12 rfl)) (mvT hZ (ww hw 11 rfl)) (by decide) (backOf (W := 0) (rmBn l Z av0 hw [] st_UCS_4LE hd ln  hS n0 Z0 F_byteOrderMark_st_UCS_4LE) hZ (ww hw 13 rfl) (ww hw 6 rfl) (by decide) (by decide)) q21a q21c (g := (mkF m 156 #[s0, s1, s2, s3, s4, s5, .val (.int (4 : Int32)), .val (.ref st_UCS_4LE), .val (.int ln), .val (.ref hd), s10, .unset] [(.int ln), (.ref hd), (.ref st_UCS_4LE)])) rfl (by rw [hml]; rfl) (Steps.refl _) (argsL := [(.ref hd), (.int ln)]) (rest := []) (lenOf pd_1 rfl) rfl (by show 2 * 0 + _ ≤ _; exact Nat.le_of_eq rfl) (dd at_156) (fun _ _ => ⟨rfl, e0, (by decide : 1 + 0 ≤ _), (by decide : 4 + 0 ≤ _)⟩)
    dsimp only [Pt.U, Pt.locs, Pt.cells, Pt.slots, Q_rmBn] at X21 l21 y21 z21 st21 hQ21
    subst l21 y21 z21
    rw [show (fBn st_UCS_4LE hd ln) = (0 : Int32) from (by unfold fBn; rfl)] at hQ21
    obtain ⟨rfl, N21q, e21⟩ := hQ21
    have N21 := Fr.app N0 N21q
    refine Gz.tr st21 ?_
    refine Gz.istore 161 #[s0, s1, s2, s3, s4, s5, .val (.int (4 : Int32)), .val (.ref st_UCS_4LE), .val (.int ln), .val (.ref hd), s10, .val (.int (0 : Int32))] X21 hx (dd at_159) rfl rfl ?_
    refine Gz.iload 163 X21 hx (dd at_161) rfl rfl ?_
    refine Gz.iload 165 X21 hx (dd at_163) rfl rfl ?_
    refine Gz.aload 167 X21 hx (dd at_165) rfl rfl rfl ?_
    refine Gz.iconst 168 (0 : Int32) X21 hx (dd at_167) rfl rfl ?_
    obtain ⟨c22, A22, q22, S22, N22, H22, G22⟩ := id V_hd
    have hin22 : ¬ ((0 : Int32) < 0 ∨ c22.slots.size ≤ ((0 : Int32)).toNatClampNeg) := inb_of S22 ⟨by decide, by decide⟩
    refine Gz.ldB 169 X21 hx hZ (dd at_168) e21 A22 hin22 (Has.at H22 hin22 (rfl : _ = ((.int w0) : Value))) rfl ?_
    refine Gz.aload 171 X21 hx (dd at_169) rfl rfl rfl ?_
    refine Gz.iconst 172 (1 : Int32) X21 hx (dd at_171) rfl rfl ?_
    obtain ⟨c23, A23, q23, S23, N23, H23, G23⟩ := id V_hd
    have hin23 : ¬ ((1 : Int32) < 0 ∨ c23.slots.size ≤ ((1 : Int32)).toNatClampNeg) := inb_of S23 ⟨by decide, by decide⟩
    refine Gz.ldB 173 X21 hx hZ (dd at_172) e21 A23 hin23 (Has.at H23 hin23 (rfl : _ = ((.int w1) : Value))) rfl ?_
    refine Gz.aload 175 X21 hx (dd at_173) rfl rfl rfl ?_
    refine Gz.iconst 176 (2 : Int32) X21 hx (dd at_175) rfl rfl ?_
    obtain ⟨c24, A24, q24, S24, N24, H24, G24⟩ := id V_hd
    have hin24 : ¬ ((2 : Int32) < 0 ∨ c24.slots.size ≤ ((2 : Int32)).toNatClampNeg) := inb_of S24 ⟨by decide, by decide⟩
    refine Gz.ldB 177 X21 hx hZ (dd at_176) e21 A24 hin24 (Has.at H24 hin24 (rfl : _ = ((.int w2) : Value))) rfl ?_
    refine Gz.iload 179 X21 hx (dd at_177) rfl rfl ?_
    obtain ⟨_, _, ⟨T25, L25, k25, n25⟩, -, X25, ⟨Lc25, hQ25, l25, y25, z25⟩, st25⟩ := Jvm.LawKit.callS X21 hx (y := (⟨"com/example/arkivsjekk/arkivsjekk/XmlEncodingByteOrderMarkUnitsPinLaw", "expected", "(IBBBI)I"⟩ : MethodName)) hown (mvT hZ (ww hw 21 rfl)) (mvT hZ (ww hw 22 rfl)) (mvT hZ (ww hw 3 rfl)) (mvT hZ (ww hw 23 rfl)) (by decide) (backOf (W := 1) (rm4 l Z av0 hw [] (4 : Int32) w0 w1 w2 ln  hS n0 Z0 ) hZ (ww hw 23 rfl) (ww hw 3 rfl) (by decide) (by decide)) (g := (mkF m 179 #[s0, s1, s2, s3, s4, s5, .val (.int (4 : Int32)), .val (.ref st_UCS_4LE), .val (.int ln), .val (.ref hd), s10, .val (.int (0 : Int32))] [(.int ln), (.int w2), (.int w1), (.int w0), (.int (4 : Int32)), (.int (0 : Int32))])) rfl (by rw [hml]; rfl) (argsL := [(.int (4 : Int32)), (.int w0), (.int w1), (.int w2), (.int ln)]) (rest := [(.int (0 : Int32))]) (lenOf pd_2 rfl) rfl (by show 2 * 0 + _ ≤ _; exact Nat.le_of_eq rfl) (dd at_179) (fun _ _ => ⟨rfl, e21, (by decide : 1 + 0 ≤ _), (by decide : 4 + 0 ≤ _)⟩)
    dsimp only [Pt.U, Pt.locs, Pt.cells, Pt.slots, Q_rm4] at X25 l25 y25 z25 st25 hQ25
    subst l25 y25 z25
    obtain ⟨rfl, N25q, e25⟩ := hQ25
    have N25 := Fr.app N21 N25q
    refine Gz.st st25 ?_
    refine Gz.icmpNo 185 X25 hx (dd at_182) (teq ((by unfold fE; rw [if_neg (by decide), if_neg (by decide), if_neg (by decide)]) : (0 : Int32) = (fE (4 : Int32) w0 w1 w2 ln))).2 rfl ?_
    refine Gz.iconst 186 (1 : Int32) X25 hx (dd at_185) rfl rfl ?_
    refine Gz.goto 190 X25 hx (dd at_186) (by decide) (by decide) ?_
    refine Gz.fin X25 (v := some (.int (1 : Int32))) (fun h => by rw [hret] at h; cases h) hlk (by decide) (by decide) (fun fs hr => retN X25 hx (t := .boolean) hret (by simp) (dd at_190) hr) ?_
    exact ⟨rfl, N25⟩
  · show Gz p e below s _ _ _ (T0.setTop (mkF m 150 #[s0, s1, s2, s3, s4, s5, .val (.int (5 : Int32)), .val (.ref (fPick (5 : Int32) st_UTF_8 st_UTF_16BE st_UTF_16LE st_UCS_4BE st_UCS_4LE st_EBCDIC)), .val (.int ln), .val (.ref hd), s10, .unset] []))
    rw [show (fPick (5 : Int32) st_UTF_8 st_UTF_16BE st_UTF_16LE st_UCS_4BE st_UCS_4LE st_EBCDIC) = st_EBCDIC from (by unfold fPick; rw [if_neg (by decide), if_neg (by decide), if_neg (by decide), if_neg (by decide), if_neg (by decide)])]
    refine Gz.aload 152 X0 hx (dd at_150) rfl rfl rfl ?_
    refine Gz.aload 154 X0 hx (dd at_152) rfl rfl rfl ?_
    refine Gz.iload 156 X0 hx (dd at_154) rfl rfl ?_
    obtain ⟨cq26, kq26, q26a, q26b, q26c⟩ := isOf hZ e0 E_st_EBCDIC
    obtain ⟨_, _, ⟨T26, L26, k26, n26⟩, -, X26, ⟨Lc26, hQ26, l26, y26, z26⟩, st26⟩ := X0.virtualBack hx (y := (⟨"com/example/arkivsjekk/arkivsjekk/XmlEncoding", "byteOrderMarkUnits", "([BI)I"⟩ : MethodName)) (z := (⟨"com/example/arkivsjekk/arkivsjekk/XmlEncoding", "byteOrderMarkUnits", "([BI)I"⟩ : MethodName)) hown (mvT hZ (ww hw 9 rfl)) (mvT hZ (ww hw 10 rfl)) (notFace_of_selects (args := #[]) (mvT hZ (ww hw 12 rfl))) (mvT hZ (ww hw 12 rfl)) (mvT hZ (ww hw 11 rfl)) (by decide) (backOf (W := 0) (rmBn l Z av0 hw [] st_EBCDIC hd ln  hS n0 Z0 F_byteOrderMark_st_EBCDIC) hZ (ww hw 13 rfl) (ww hw 6 rfl) (by decide) (by decide)) q26a q26c (g := (mkF m 156 #[s0, s1, s2, s3, s4, s5, .val (.int (5 : Int32)), .val (.ref st_EBCDIC), .val (.int ln), .val (.ref hd), s10, .unset] [(.int ln), (.ref hd), (.ref st_EBCDIC)])) rfl (by rw [hml]; rfl) (Steps.refl _) (argsL := [(.ref hd), (.int ln)]) (rest := []) (lenOf pd_1 rfl) rfl (by show 2 * 0 + _ ≤ _; exact Nat.le_of_eq rfl) (dd at_156) (fun _ _ => ⟨rfl, e0, (by decide : 1 + 0 ≤ _), (by decide : 4 + 0 ≤ _)⟩)
    dsimp only [Pt.U, Pt.locs, Pt.cells, Pt.slots, Q_rmBn] at X26 l26 y26 z26 st26 hQ26
    subst l26 y26 z26
    rw [show (fBn st_EBCDIC hd ln) = (0 : Int32) from (by unfold fBn; rfl)] at hQ26
    obtain ⟨rfl, N26q, e26⟩ := hQ26
    have N26 := Fr.app N0 N26q
    refine Gz.tr st26 ?_
    refine Gz.istore 161 #[s0, s1, s2, s3, s4, s5, .val (.int (5 : Int32)), .val (.ref st_EBCDIC), .val (.int ln), .val (.ref hd), s10, .val (.int (0 : Int32))] X26 hx (dd at_159) rfl rfl ?_
    refine Gz.iload 163 X26 hx (dd at_161) rfl rfl ?_
    refine Gz.iload 165 X26 hx (dd at_163) rfl rfl ?_
    refine Gz.aload 167 X26 hx (dd at_165) rfl rfl rfl ?_
    refine Gz.iconst 168 (0 : Int32) X26 hx (dd at_167) rfl rfl ?_
    obtain ⟨c27, A27, q27, S27, N27, H27, G27⟩ := id V_hd
    have hin27 : ¬ ((0 : Int32) < 0 ∨ c27.slots.size ≤ ((0 : Int32)).toNatClampNeg) := inb_of S27 ⟨by decide, by decide⟩
    refine Gz.ldB 169 X26 hx hZ (dd at_168) e26 A27 hin27 (Has.at H27 hin27 (rfl : _ = ((.int w0) : Value))) rfl ?_
    refine Gz.aload 171 X26 hx (dd at_169) rfl rfl rfl ?_
    refine Gz.iconst 172 (1 : Int32) X26 hx (dd at_171) rfl rfl ?_
    obtain ⟨c28, A28, q28, S28, N28, H28, G28⟩ := id V_hd
    have hin28 : ¬ ((1 : Int32) < 0 ∨ c28.slots.size ≤ ((1 : Int32)).toNatClampNeg) := inb_of S28 ⟨by decide, by decide⟩
    refine Gz.ldB 173 X26 hx hZ (dd at_172) e26 A28 hin28 (Has.at H28 hin28 (rfl : _ = ((.int w1) : Value))) rfl ?_
    refine Gz.aload 175 X26 hx (dd at_173) rfl rfl rfl ?_
    refine Gz.iconst 176 (2 : Int32) X26 hx (dd at_175) rfl rfl ?_
    obtain ⟨c29, A29, q29, S29, N29, H29, G29⟩ := id V_hd
    have hin29 : ¬ ((2 : Int32) < 0 ∨ c29.slots.size ≤ ((2 : Int32)).toNatClampNeg) := inb_of S29 ⟨by decide, by decide⟩
    refine Gz.ldB 177 X26 hx hZ (dd at_176) e26 A29 hin29 (Has.at H29 hin29 (rfl : _ = ((.int w2) : Value))) rfl ?_
    refine Gz.iload 179 X26 hx (dd at_177) rfl rfl ?_
    obtain ⟨_, _, ⟨T30, L30, k30, n30⟩, -, X30, ⟨Lc30, hQ30, l30, y30, z30⟩, st30⟩ := Jvm.LawKit.callS X26 hx (y := (⟨"com/example/arkivsjekk/arkivsjekk/XmlEncodingByteOrderMarkUnitsPinLaw", "expected", "(IBBBI)I"⟩ : MethodName)) hown (mvT hZ (ww hw 21 rfl)) (mvT hZ (ww hw 22 rfl)) (mvT hZ (ww hw 3 rfl)) (mvT hZ (ww hw 23 rfl)) (by decide) (backOf (W := 1) (rm4 l Z av0 hw [] (5 : Int32) w0 w1 w2 ln  hS n0 Z0 ) hZ (ww hw 23 rfl) (ww hw 3 rfl) (by decide) (by decide)) (g := (mkF m 179 #[s0, s1, s2, s3, s4, s5, .val (.int (5 : Int32)), .val (.ref st_EBCDIC), .val (.int ln), .val (.ref hd), s10, .val (.int (0 : Int32))] [(.int ln), (.int w2), (.int w1), (.int w0), (.int (5 : Int32)), (.int (0 : Int32))])) rfl (by rw [hml]; rfl) (argsL := [(.int (5 : Int32)), (.int w0), (.int w1), (.int w2), (.int ln)]) (rest := [(.int (0 : Int32))]) (lenOf pd_2 rfl) rfl (by show 2 * 0 + _ ≤ _; exact Nat.le_of_eq rfl) (dd at_179) (fun _ _ => ⟨rfl, e26, (by decide : 1 + 0 ≤ _), (by decide : 4 + 0 ≤ _)⟩)
    dsimp only [Pt.U, Pt.locs, Pt.cells, Pt.slots, Q_rm4] at X30 l30 y30 z30 st30 hQ30
    subst l30 y30 z30
    obtain ⟨rfl, N30q, e30⟩ := hQ30
    have N30 := Fr.app N26 N30q
    refine Gz.st st30 ?_
    refine Gz.icmpNo 185 X30 hx (dd at_182) (teq ((by unfold fE; rw [if_neg (by decide), if_neg (by decide), if_neg (by decide)]) : (0 : Int32) = (fE (5 : Int32) w0 w1 w2 ln))).2 rfl ?_
    refine Gz.iconst 186 (1 : Int32) X30 hx (dd at_185) rfl rfl ?_
    refine Gz.goto 190 X30 hx (dd at_186) (by decide) (by decide) ?_
    refine Gz.fin X30 (v := some (.int (1 : Int32))) (fun h => by rw [hret] at h; cases h) hlk (by decide) (by decide) (fun fs hr => retN X30 hx (t := .boolean) hret (by simp) (dd at_190) hr) ?_
    exact ⟨rfl, N30⟩
theorem pd_3 : parseMethodDescriptor "(I)Lcom/example/arkivsjekk/arkivsjekk/XmlEncoding;" = some ⟨[.int], some (.object "com/example/arkivsjekk/arkivsjekk/XmlEncoding")⟩ := by decide +kernel
theorem ef_rm0 (m : MethodId) (p0 : Int32) (p1 : Int32) (p2 : Int32) (p3 : Int32) (p4 : Int32) (p5 : Int32) : entryFrame m #[(.int p0), (.int p1), (.int p2), (.int p3), (.int p4), (.int p5)] maxLocals = mkF m 0 #[.val (.int p0), .val (.int p1), .val (.int p2), .val (.int p3), .val (.int p4), .val (.int p5), .unset, .unset, .unset, .unset, .unset, .unset] [] := by first | (simp [entryFrame, mkF, argsToLocals, Value.category, maxLocals]; done) | rfl
set_option maxRecDepth 65536 in
set_option maxHeartbeats 40000000 in
theorem rm0 (l : Launch) (Z : State) (av0 : Array Value) (hw : ∀ d ∈ tables_1, d.before av0 Z = true) (ws : List Jvm.Cond) (p0 : Int32) (p1 : Int32) (p2 : Int32) (p3 : Int32) (p4 : Int32) (p5 : Int32) (st_UTF_8 : Addr) (st_UTF_16BE : Addr) (st_UTF_16LE : Addr) (st_UCS_4BE : Addr) (st_UCS_4LE : Addr) (st_EBCDIC : Addr) (bm_UTF_8 : Addr) (k_bm_UTF_8 : ClassId) (bm_UTF_16BE : Addr) (k_bm_UTF_16BE : ClassId) (bm_UTF_16LE : Addr) (k_bm_UTF_16LE : ClassId) (h0 : Heap) (n0 : Nat) (Z0 : n0 ≤ h0.size) (S_st_UTF_8 : Sta Z h0 "com/example/arkivsjekk/arkivsjekk/XmlEncoding" "UTF_8" "Lcom/example/arkivsjekk/arkivsjekk/XmlEncoding;" (.ref st_UTF_8)) (S_st_UTF_16BE : Sta Z h0 "com/example/arkivsjekk/arkivsjekk/XmlEncoding" "UTF_16BE" "Lcom/example/arkivsjekk/arkivsjekk/XmlEncoding;" (.ref st_UTF_16BE)) (S_st_UTF_16LE : Sta Z h0 "com/example/arkivsjekk/arkivsjekk/XmlEncoding" "UTF_16LE" "Lcom/example/arkivsjekk/arkivsjekk/XmlEncoding;" (.ref st_UTF_16LE)) (S_st_UCS_4BE : Sta Z h0 "com/example/arkivsjekk/arkivsjekk/XmlEncoding" "UCS_4BE" "Lcom/example/arkivsjekk/arkivsjekk/XmlEncoding;" (.ref st_UCS_4BE)) (S_st_UCS_4LE : Sta Z h0 "com/example/arkivsjekk/arkivsjekk/XmlEncoding" "UCS_4LE" "Lcom/example/arkivsjekk/arkivsjekk/XmlEncoding;" (.ref st_UCS_4LE)) (S_st_EBCDIC : Sta Z h0 "com/example/arkivsjekk/arkivsjekk/XmlEncoding" "EBCDIC" "Lcom/example/arkivsjekk/arkivsjekk/XmlEncoding;" (.ref st_EBCDIC)) (E_st_UTF_8 : Exa Z h0 st_UTF_8 "com/example/arkivsjekk/arkivsjekk/XmlEncoding") (E_st_UTF_16BE : Exa Z h0 st_UTF_16BE "com/example/arkivsjekk/arkivsjekk/XmlEncoding") (E_st_UTF_16LE : Exa Z h0 st_UTF_16LE "com/example/arkivsjekk/arkivsjekk/XmlEncoding") (E_st_UCS_4BE : Exa Z h0 st_UCS_4BE "com/example/arkivsjekk/arkivsjekk/XmlEncoding") (E_st_UCS_4LE : Exa Z h0 st_UCS_4LE "com/example/arkivsjekk/arkivsjekk/XmlEncoding") (E_st_EBCDIC : Exa Z h0 st_EBCDIC "com/example/arkivsjekk/arkivsjekk/XmlEncoding") (F_byteOrderMark_st_UTF_8 : Fld Z h0 st_UTF_8 "com/example/arkivsjekk/arkivsjekk/XmlEncoding" "byteOrderMark" "[B" (.ref bm_UTF_8)) (F_unitBytes_st_UTF_8 : Fld Z h0 st_UTF_8 "com/example/arkivsjekk/arkivsjekk/XmlEncoding" "unitBytes" "I" (.int (1 : Int32))) (V_bm_UTF_8 : Arv Z h0 bm_UTF_8 k_bm_UTF_8 .byte (3 : Int32) [(.int (-17 : Int32)), (.int (-69 : Int32)), (.int (-65 : Int32))] (.int (0 : Int32))) (F_byteOrderMark_st_UTF_16BE : Fld Z h0 st_UTF_16BE "com/example/arkivsjekk/arkivsjekk/XmlEncoding" "byteOrderMark" "[B" (.ref bm_UTF_16BE)) (F_unitBytes_st_UTF_16BE : Fld Z h0 st_UTF_16BE "com/example/arkivsjekk/arkivsjekk/XmlEncoding" "unitBytes" "I" (.int (2 : Int32))) (V_bm_UTF_16BE : Arv Z h0 bm_UTF_16BE k_bm_UTF_16BE .byte (2 : Int32) [(.int (-2 : Int32)), (.int (-1 : Int32))] (.int (0 : Int32))) (F_byteOrderMark_st_UTF_16LE : Fld Z h0 st_UTF_16LE "com/example/arkivsjekk/arkivsjekk/XmlEncoding" "byteOrderMark" "[B" (.ref bm_UTF_16LE)) (F_unitBytes_st_UTF_16LE : Fld Z h0 st_UTF_16LE "com/example/arkivsjekk/arkivsjekk/XmlEncoding" "unitBytes" "I" (.int (2 : Int32))) (V_bm_UTF_16LE : Arv Z h0 bm_UTF_16LE k_bm_UTF_16LE .byte (2 : Int32) [(.int (-1 : Int32)), (.int (-2 : Int32))] (.int (0 : Int32))) (F_byteOrderMark_st_UCS_4BE : Fld Z h0 st_UCS_4BE "com/example/arkivsjekk/arkivsjekk/XmlEncoding" "byteOrderMark" "[B" .null) (F_byteOrderMark_st_UCS_4LE : Fld Z h0 st_UCS_4LE "com/example/arkivsjekk/arkivsjekk/XmlEncoding" "byteOrderMark" "[B" .null) (F_byteOrderMark_st_EBCDIC : Fld Z h0 st_EBCDIC "com/example/arkivsjekk/arkivsjekk/XmlEncoding" "byteOrderMark" "[B" .null) :
    MetFree l x (head1 (Jvm.Cond.code x code maxLocals ret :: ws) room_1) (fun a U => a = #[(.int p0), (.int p1), (.int p2), (.int p3), (.int p4), (.int p5)] ∧ Z.Warmed39 U.vm ∧ U.heap = h0) (fun _ _ _ _ _ => True) (fun _ U o U' => ∃ v L, o = .returned v ∧ Q_law n0 v U'.heap L ∧ FrameEnd U o U' L 16 128) := by
  refine MetFree.of_bodySF (plainFor_of_name pn_0) hisR ?_
  intro p e s m args below meth c s₁ Bd hml0 hP hK
  obtain ⟨rfl, hZ, hh⟩ := hP
  have hx := Bd.exec
  have hby := Bd.bytes
  have hml : c.maxLocals = 12 := hml0
  have dd : ∀ {pc : Nat} {r : Except DecodeError (Instr × Nat)}, decode code pc = r → decode c.code pc = r := fun q => hb hby q
  have hown : s.vm.findClass "com/example/arkivsjekk/arkivsjekk/XmlEncodingByteOrderMarkUnitsPinLaw" = some m.cls := findClass_of_methodNamed Bd.named
  have hnm := (name_of_methodNamed Bd.named Bd.method).1
  have X0 : Stand p l e room_1 s m #[(.int p0), (.int p1), (.int p2), (.int p3), (.int p4), (.int p5)] below meth c s₁ [] 0 0 := Stand.of_body Bd
  have e0 : s₁.heap = h0 := by rw [← hh, Bd.state]; rfl
  have N0 := Fr.nil n0
  have hret := Bd.returns
  have hlk := Bd.notSynchronized
  show Gz p e below s 16 128 (Q_law n0) (s₁.setTop (entryFrame m #[(.int p0), (.int p1), (.int p2), (.int p3), (.int p4), (.int p5)] maxLocals))
  refine Gz.enter (ef_rm0 m p0 p1 p2 p3 p4 p5) ?_
  refine Gz.iloadN 1 X0 hx (dd at_0) rfl rfl ?_
  refine Gz.ldcI 3 X0 hx (dd at_1) hown (mvT hZ (ww hw 0 rfl)) rfl ?_
  refine Gz.iand 4 X0 hx (dd at_3) rfl ?_
  refine Gz.bipush 6 (6 : Int32) X0 hx (dd at_4) rfl rfl ?_
  refine Gz.irem 7 X0 hx (dd at_6) (by decide) rfl ?_
  show Gz p e below s _ _ _ (s₁.setTop (mkF m 7 #[.val (.int p0), .val (.int p1), .val (.int p2), .val (.int p3), .val (.int p4), .val (.int p5), .unset, .unset, .unset, .unset, .unset, .unset] [(.int ((p0 &&& (2147483647 : Int32)) % (6 : Int32)))]))
  obtain ⟨kk, q_kk, h_kk⟩ : ∃ z, ((p0 &&& (2147483647 : Int32)) % (6 : Int32)) = z ∧ (z = (0 : Int32) ∨ z = (1 : Int32) ∨ z = (2 : Int32) ∨ z = (3 : Int32) ∨ z = (4 : Int32) ∨ z = (5 : Int32)) := ⟨_, rfl, own_six _⟩
  rw [q_kk]
  show Gz p e below s _ _ _ (s₁.setTop (mkF m 7 #[.val (.int p0), .val (.int p1), .val (.int p2), .val (.int p3), .val (.int p4), .val (.int p5), .unset, .unset, .unset, .unset, .unset, .unset] [(.int kk)]))
  refine Gz.istore 9 #[.val (.int p0), .val (.int p1), .val (.int p2), .val (.int p3), .val (.int p4), .val (.int p5), .val (.int kk), .unset, .unset, .unset, .unset, .unset] X0 hx (dd at_7) rfl rfl ?_
  refine Gz.iload 11 X0 hx (dd at_9) rfl rfl ?_
  obtain ⟨_, _, ⟨T1, L1, k1, n1⟩, -, X1, ⟨Lc1, hQ1, l1, y1, z1⟩, st1⟩ := Jvm.LawKit.callS X0 hx (y := (⟨"com/example/arkivsjekk/arkivsjekk/XmlEncodingByteOrderMarkUnitsPinLaw", "pick", "(I)Lcom/example/arkivsjekk/arkivsjekk/XmlEncoding;"⟩ : MethodName)) hown (mvT hZ (ww hw 1 rfl)) (mvT hZ (ww hw 2 rfl)) (mvT hZ (ww hw 3 rfl)) (mvT hZ (ww hw 4 rfl)) (by decide) (backOf (W := 0) (rm1 l Z av0 hw [] kk st_UTF_8 st_UTF_16BE st_UTF_16LE st_UCS_4BE st_UCS_4LE st_EBCDIC h0 n0 Z0 S_st_UTF_8 S_st_UTF_16BE S_st_UTF_16LE S_st_UCS_4BE S_st_UCS_4LE S_st_EBCDIC) hZ (ww hw 4 rfl) (ww hw 3 rfl) (by decide) (by decide)) (g := (mkF m 11 #[.val (.int p0), .val (.int p1), .val (.int p2), .val (.int p3), .val (.int p4), .val (.int p5), .val (.int kk), .unset, .unset, .unset, .unset, .unset] [(.int kk)])) rfl (by rw [hml]; rfl) (argsL := [(.int kk)]) (rest := []) (lenOf pd_3 rfl) rfl (by show 2 * 0 + _ ≤ _; exact Nat.le_of_eq rfl) (dd at_11) (fun _ _ => ⟨rfl, e0, (by decide : 0 + 0 ≤ _), (by decide : 0 + 0 ≤ _)⟩)
  dsimp only [Pt.U, Pt.locs, Pt.cells, Pt.slots, Q_rm1] at X1 l1 y1 z1 st1 hQ1
  subst l1 y1 z1
  obtain ⟨rfl, N1q, e1⟩ := hQ1
  have N1 := Fr.app N0 N1q
  refine Gz.st st1 ?_
  refine Gz.astore 16 #[.val (.int p0), .val (.int p1), .val (.int p2), .val (.int p3), .val (.int p4), .val (.int p5), .val (.int kk), .val (.ref (fPick kk st_UTF_8 st_UTF_16BE st_UTF_16LE st_UCS_4BE st_UCS_4LE st_EBCDIC)), .unset, .unset, .unset, .unset] X1 hx (dd at_14) rfl rfl rfl ?_
  refine Gz.iload 18 X1 hx (dd at_16) rfl rfl ?_
  refine Gz.bipush 20 (7 : Int32) X1 hx (dd at_18) rfl rfl ?_
  refine Gz.iand 21 X1 hx (dd at_20) rfl ?_
  refine Gz.iconst 22 (5 : Int32) X1 hx (dd at_21) rfl rfl ?_
  refine Gz.irem 23 X1 hx (dd at_22) (by decide) rfl ?_
  show Gz p e below s _ _ _ (T1.setTop (mkF m 23 #[.val (.int p0), .val (.int p1), .val (.int p2), .val (.int p3), .val (.int p4), .val (.int p5), .val (.int kk), .val (.ref (fPick kk st_UTF_8 st_UTF_16BE st_UTF_16LE st_UCS_4BE st_UCS_4LE st_EBCDIC)), .unset, .unset, .unset, .unset] [(.int ((p5 &&& (7 : Int32)) % (5 : Int32)))]))
  obtain ⟨ln, q_ln⟩ : ∃ z, ((p5 &&& (7 : Int32)) % (5 : Int32)) = z := ⟨_, rfl⟩
  rw [q_ln]
  show Gz p e below s _ _ _ (T1.setTop (mkF m 23 #[.val (.int p0), .val (.int p1), .val (.int p2), .val (.int p3), .val (.int p4), .val (.int p5), .val (.int kk), .val (.ref (fPick kk st_UTF_8 st_UTF_16BE st_UTF_16LE st_UCS_4BE st_UCS_4LE st_EBCDIC)), .unset, .unset, .unset, .unset] [(.int ln)]))
  refine Gz.istore 25 #[.val (.int p0), .val (.int p1), .val (.int p2), .val (.int p3), .val (.int p4), .val (.int p5), .val (.int kk), .val (.ref (fPick kk st_UTF_8 st_UTF_16BE st_UTF_16LE st_UCS_4BE st_UCS_4LE st_EBCDIC)), .val (.int ln), .unset, .unset, .unset] X1 hx (dd at_23) rfl rfl ?_
  refine Gz.iconst 26 (4 : Int32) X1 hx (dd at_25) rfl rfl ?_
  obtain ⟨T2, h2, k2, X2, e2, E2, A2, Q2, st2⟩ := newPE X1 hx hZ (ww hw 8 rfl) e1 (g := (mkF m 26 #[.val (.int p0), .val (.int p1), .val (.int p2), .val (.int p3), .val (.int p4), .val (.int p5), .val (.int kk), .val (.ref (fPick kk st_UTF_8 st_UTF_16BE st_UTF_16LE st_UCS_4BE st_UCS_4LE st_EBCDIC)), .val (.int ln), .unset, .unset, .unset] [(.int (4 : Int32))])) rfl (dd at_26) rfl (by decide) (cap := 4) (by decide) (by decide) (by decide) (by decide) (ad := "[B") rfl
  obtain ⟨b2, g2⟩ : ∃ z, z = h0.size := ⟨_, rfl⟩
  rw [← g2] at A2 Q2 st2
  have ne_st_UTF_8_b2 : st_UTF_8 ≠ b2 := Nat.ne_of_lt (Nat.lt_of_lt_of_le (E_st_UTF_8).lt (Nat.le_of_eq g2.symm))
  have ne_st_UTF_16BE_b2 : st_UTF_16BE ≠ b2 := Nat.ne_of_lt (Nat.lt_of_lt_of_le (E_st_UTF_16BE).lt (Nat.le_of_eq g2.symm))
  have ne_st_UTF_16LE_b2 : st_UTF_16LE ≠ b2 := Nat.ne_of_lt (Nat.lt_of_lt_of_le (E_st_UTF_16LE).lt (Nat.le_of_eq g2.symm))
  have ne_st_UCS_4BE_b2 : st_UCS_4BE ≠ b2 := Nat.ne_of_lt (Nat.lt_of_lt_of_le (E_st_UCS_4BE).lt (Nat.le_of_eq g2.symm))
  have ne_st_UCS_4LE_b2 : st_UCS_4LE ≠ b2 := Nat.ne_of_lt (Nat.lt_of_lt_of_le (E_st_UCS_4LE).lt (Nat.le_of_eq g2.symm))
  have ne_st_EBCDIC_b2 : st_EBCDIC ≠ b2 := Nat.ne_of_lt (Nat.lt_of_lt_of_le (E_st_EBCDIC).lt (Nat.le_of_eq g2.symm))
  have ne_bm_UTF_8_b2 : bm_UTF_8 ≠ b2 := Nat.ne_of_lt (Nat.lt_of_lt_of_le (V_bm_UTF_8).lt (Nat.le_of_eq g2.symm))
  have ne_bm_UTF_16BE_b2 : bm_UTF_16BE ≠ b2 := Nat.ne_of_lt (Nat.lt_of_lt_of_le (V_bm_UTF_16BE).lt (Nat.le_of_eq g2.symm))
  have ne_bm_UTF_16LE_b2 : bm_UTF_16LE ≠ b2 := Nat.ne_of_lt (Nat.lt_of_lt_of_le (V_bm_UTF_16LE).lt (Nat.le_of_eq g2.symm))
  have g_b2 : n0 ≤ b2 := Nat.le_trans Z0 (Nat.le_of_eq g2.symm)
  have SZ2 : n0 ≤ h2.size := Nat.le_trans Z0 E2.1
  have f2_S_st_UTF_8 := Sta.ext E2 S_st_UTF_8
  have f2_S_st_UTF_16BE := Sta.ext E2 S_st_UTF_16BE
  have f2_S_st_UTF_16LE := Sta.ext E2 S_st_UTF_16LE
  have f2_S_st_UCS_4BE := Sta.ext E2 S_st_UCS_4BE
  have f2_S_st_UCS_4LE := Sta.ext E2 S_st_UCS_4LE
  have f2_S_st_EBCDIC := Sta.ext E2 S_st_EBCDIC
  have f2_E_st_UTF_8 := Exa.ext E2 E_st_UTF_8
  have f2_E_st_UTF_16BE := Exa.ext E2 E_st_UTF_16BE
  have f2_E_st_UTF_16LE := Exa.ext E2 E_st_UTF_16LE
  have f2_E_st_UCS_4BE := Exa.ext E2 E_st_UCS_4BE
  have f2_E_st_UCS_4LE := Exa.ext E2 E_st_UCS_4LE
  have f2_E_st_EBCDIC := Exa.ext E2 E_st_EBCDIC
  have f2_F_byteOrderMark_st_UTF_8 := Fld.ext E2 F_byteOrderMark_st_UTF_8
  have f2_F_unitBytes_st_UTF_8 := Fld.ext E2 F_unitBytes_st_UTF_8
  have f2_V_bm_UTF_8 := Arv.ext V_bm_UTF_8 E2
  have f2_F_byteOrderMark_st_UTF_16BE := Fld.ext E2 F_byteOrderMark_st_UTF_16BE
  have f2_F_unitBytes_st_UTF_16BE := Fld.ext E2 F_unitBytes_st_UTF_16BE
  have f2_V_bm_UTF_16BE := Arv.ext V_bm_UTF_16BE E2
  have f2_F_byteOrderMark_st_UTF_16LE := Fld.ext E2 F_byteOrderMark_st_UTF_16LE
  have f2_F_unitBytes_st_UTF_16LE := Fld.ext E2 F_unitBytes_st_UTF_16LE
  have f2_V_bm_UTF_16LE := Arv.ext V_bm_UTF_16LE E2
  have f2_F_byteOrderMark_st_UCS_4BE := Fld.ext E2 F_byteOrderMark_st_UCS_4BE
  have f2_F_byteOrderMark_st_UCS_4LE := Fld.ext E2 F_byteOrderMark_st_UCS_4LE
  have f2_F_byteOrderMark_st_EBCDIC := Fld.ext E2 F_byteOrderMark_st_EBCDIC
  have V2 : Arv Z h2 b2 k2 .byte (4 : Int32) [(.int (0 : Int32)), (.int (0 : Int32)), (.int (0 : Int32)), (.int (0 : Int32))] (.int (0 : Int32)) := (Arv.new A2 (by decide)).pad (pad_rep [] (.int (0 : Int32)) 4)
  refine Gz.st st2 ?_
  refine Gz.astore 30 #[.val (.int p0), .val (.int p1), .val (.int p2), .val (.int p3), .val (.int p4), .val (.int p5), .val (.int kk), .val (.ref (fPick kk st_UTF_8 st_UTF_16BE st_UTF_16LE st_UCS_4BE st_UCS_4LE st_EBCDIC)), .val (.int ln), .val (.ref b2), .unset, .unset] X2 hx (dd at_28) rfl rfl rfl ?_
  refine Gz.aload 32 X2 hx (dd at_30) rfl rfl rfl ?_
  refine Gz.iconst 33 (0 : Int32) X2 hx (dd at_32) rfl rfl ?_
  refine Gz.iloadN 34 X2 hx (dd at_33) rfl rfl ?_
  refine Gz.i2b 35 X2 hx (dd at_34) rfl ?_
  obtain ⟨c3, A3, q3, S3, N3, H3, G3⟩ := id V2
  have hin3 : ¬ ((0 : Int32) < 0 ∨ c3.slots.size ≤ ((0 : Int32)).toNatClampNeg) := inb_of S3 ⟨by decide, by decide⟩
  refine Gz.stB 36 X2 hx hZ (dd at_35) e2 A3 hin3 rfl fun T4 h4 X4 e4 W4 => ?_
  have V4 := Arv.set A3 q3 S3 N3 H3 G3 (fits_nar_byte _) W4 0 rfl (Nat.le_of_ble_eq_true rfl)
  replace V4 : Arv Z h4 b2 k2 .byte (4 : Int32) [(.int ((p1.toInt8.toInt32).toInt8.toInt32)), (.int (0 : Int32)), (.int (0 : Int32)), (.int (0 : Int32))] (.int (0 : Int32)) := V4
  have f4_S_st_UTF_8 := Sta.wr W4 f2_S_st_UTF_8
  have f4_S_st_UTF_16BE := Sta.wr W4 f2_S_st_UTF_16BE
  have f4_S_st_UTF_16LE := Sta.wr W4 f2_S_st_UTF_16LE
  have f4_S_st_UCS_4BE := Sta.wr W4 f2_S_st_UCS_4BE
  have f4_S_st_UCS_4LE := Sta.wr W4 f2_S_st_UCS_4LE
  have f4_S_st_EBCDIC := Sta.wr W4 f2_S_st_EBCDIC
  have f4_E_st_UTF_8 := Exa.wr W4 f2_E_st_UTF_8
  have f4_E_st_UTF_16BE := Exa.wr W4 f2_E_st_UTF_16BE
  have f4_E_st_UTF_16LE := Exa.wr W4 f2_E_st_UTF_16LE
  have f4_E_st_UCS_4BE := Exa.wr W4 f2_E_st_UCS_4BE
  have f4_E_st_UCS_4LE := Exa.wr W4 f2_E_st_UCS_4LE
  have f4_E_st_EBCDIC := Exa.wr W4 f2_E_st_EBCDIC
  have f4_F_byteOrderMark_st_UTF_8 := Fld.other W4 f2_F_byteOrderMark_st_UTF_8 (Or.inl ne_st_UTF_8_b2)
  have f4_F_unitBytes_st_UTF_8 := Fld.other W4 f2_F_unitBytes_st_UTF_8 (Or.inl ne_st_UTF_8_b2)
  have f4_V_bm_UTF_8 := Arv.other f2_V_bm_UTF_8 W4 ne_bm_UTF_8_b2
  have f4_F_byteOrderMark_st_UTF_16BE := Fld.other W4 f2_F_byteOrderMark_st_UTF_16BE (Or.inl ne_st_UTF_16BE_b2)
  have f4_F_unitBytes_st_UTF_16BE := Fld.other W4 f2_F_unitBytes_st_UTF_16BE (Or.inl ne_st_UTF_16BE_b2)
  have f4_V_bm_UTF_16BE := Arv.other f2_V_bm_UTF_16BE W4 ne_bm_UTF_16BE_b2
  have f4_F_byteOrderMark_st_UTF_16LE := Fld.other W4 f2_F_byteOrderMark_st_UTF_16LE (Or.inl ne_st_UTF_16LE_b2)
  have f4_F_unitBytes_st_UTF_16LE := Fld.other W4 f2_F_unitBytes_st_UTF_16LE (Or.inl ne_st_UTF_16LE_b2)
  have f4_V_bm_UTF_16LE := Arv.other f2_V_bm_UTF_16LE W4 ne_bm_UTF_16LE_b2
  have f4_F_byteOrderMark_st_UCS_4BE := Fld.other W4 f2_F_byteOrderMark_st_UCS_4BE (Or.inl ne_st_UCS_4BE_b2)
  have f4_F_byteOrderMark_st_UCS_4LE := Fld.other W4 f2_F_byteOrderMark_st_UCS_4LE (Or.inl ne_st_UCS_4LE_b2)
  have f4_F_byteOrderMark_st_EBCDIC := Fld.other W4 f2_F_byteOrderMark_st_EBCDIC (Or.inl ne_st_EBCDIC_b2)
  have f4_Eb2 := Exa.wr W4 Q2
  have N4 := Fr.snoc X4 N1 g_b2
  have SZ4 : n0 ≤ h4.size := Nat.le_trans SZ2 (Keep.of_wr W4).1
  refine Gz.aload 38 X4 hx (dd at_36) rfl rfl rfl ?_
  refine Gz.iconst 39 (1 : Int32) X4 hx (dd at_38) rfl rfl ?_
  refine Gz.iloadN 40 X4 hx (dd at_39) rfl rfl ?_
  refine Gz.i2b 41 X4 hx (dd at_40) rfl ?_
  obtain ⟨c5, A5, q5, S5, N5, H5, G5⟩ := id V4
  have hin5 : ¬ ((1 : Int32) < 0 ∨ c5.slots.size ≤ ((1 : Int32)).toNatClampNeg) := inb_of S5 ⟨by decide, by decide⟩
  refine Gz.stB 42 X4 hx hZ (dd at_41) e4 A5 hin5 rfl fun T6 h6 X6 e6 W6 => ?_
  have V6 := Arv.set A5 q5 S5 N5 H5 G5 (fits_nar_byte _) W6 1 rfl (Nat.le_of_ble_eq_true rfl)
  replace V6 : Arv Z h6 b2 k2 .byte (4 : Int32) [(.int ((p1.toInt8.toInt32).toInt8.toInt32)), (.int ((p2.toInt8.toInt32).toInt8.toInt32)), (.int (0 : Int32)), (.int (0 : Int32))] (.int (0 : Int32)) := V6
  have f6_S_st_UTF_8 := Sta.wr W6 f4_S_st_UTF_8
  have f6_S_st_UTF_16BE := Sta.wr W6 f4_S_st_UTF_16BE
  have f6_S_st_UTF_16LE := Sta.wr W6 f4_S_st_UTF_16LE
  have f6_S_st_UCS_4BE := Sta.wr W6 f4_S_st_UCS_4BE
  have f6_S_st_UCS_4LE := Sta.wr W6 f4_S_st_UCS_4LE
  have f6_S_st_EBCDIC := Sta.wr W6 f4_S_st_EBCDIC
  have f6_E_st_UTF_8 := Exa.wr W6 f4_E_st_UTF_8
  have f6_E_st_UTF_16BE := Exa.wr W6 f4_E_st_UTF_16BE
  have f6_E_st_UTF_16LE := Exa.wr W6 f4_E_st_UTF_16LE
  have f6_E_st_UCS_4BE := Exa.wr W6 f4_E_st_UCS_4BE
  have f6_E_st_UCS_4LE := Exa.wr W6 f4_E_st_UCS_4LE
  have f6_E_st_EBCDIC := Exa.wr W6 f4_E_st_EBCDIC
  have f6_F_byteOrderMark_st_UTF_8 := Fld.other W6 f4_F_byteOrderMark_st_UTF_8 (Or.inl ne_st_UTF_8_b2)
  have f6_F_unitBytes_st_UTF_8 := Fld.other W6 f4_F_unitBytes_st_UTF_8 (Or.inl ne_st_UTF_8_b2)
  have f6_V_bm_UTF_8 := Arv.other f4_V_bm_UTF_8 W6 ne_bm_UTF_8_b2
  have f6_F_byteOrderMark_st_UTF_16BE := Fld.other W6 f4_F_byteOrderMark_st_UTF_16BE (Or.inl ne_st_UTF_16BE_b2)
  have f6_F_unitBytes_st_UTF_16BE := Fld.other W6 f4_F_unitBytes_st_UTF_16BE (Or.inl ne_st_UTF_16BE_b2)
  have f6_V_bm_UTF_16BE := Arv.other f4_V_bm_UTF_16BE W6 ne_bm_UTF_16BE_b2
  have f6_F_byteOrderMark_st_UTF_16LE := Fld.other W6 f4_F_byteOrderMark_st_UTF_16LE (Or.inl ne_st_UTF_16LE_b2)
  have f6_F_unitBytes_st_UTF_16LE := Fld.other W6 f4_F_unitBytes_st_UTF_16LE (Or.inl ne_st_UTF_16LE_b2)
  have f6_V_bm_UTF_16LE := Arv.other f4_V_bm_UTF_16LE W6 ne_bm_UTF_16LE_b2
  have f6_F_byteOrderMark_st_UCS_4BE := Fld.other W6 f4_F_byteOrderMark_st_UCS_4BE (Or.inl ne_st_UCS_4BE_b2)
  have f6_F_byteOrderMark_st_UCS_4LE := Fld.other W6 f4_F_byteOrderMark_st_UCS_4LE (Or.inl ne_st_UCS_4LE_b2)
  have f6_F_byteOrderMark_st_EBCDIC := Fld.other W6 f4_F_byteOrderMark_st_EBCDIC (Or.inl ne_st_EBCDIC_b2)
  have f6_Eb2 := Exa.wr W6 f4_Eb2
  have N6 := Fr.snoc X6 N4 g_b2
  have SZ6 : n0 ≤ h6.size := Nat.le_trans SZ4 (Keep.of_wr W6).1
  refine Gz.aload 44 X6 hx (dd at_42) rfl rfl rfl ?_
  refine Gz.iconst 45 (2 : Int32) X6 hx (dd at_44) rfl rfl ?_
  refine Gz.iloadN 46 X6 hx (dd at_45) rfl rfl ?_
  refine Gz.i2b 47 X6 hx (dd at_46) rfl ?_
  obtain ⟨c7, A7, q7, S7, N7, H7, G7⟩ := id V6
  have hin7 : ¬ ((2 : Int32) < 0 ∨ c7.slots.size ≤ ((2 : Int32)).toNatClampNeg) := inb_of S7 ⟨by decide, by decide⟩
  refine Gz.stB 48 X6 hx hZ (dd at_47) e6 A7 hin7 rfl fun T8 h8 X8 e8 W8 => ?_
  have V8 := Arv.set A7 q7 S7 N7 H7 G7 (fits_nar_byte _) W8 2 rfl (Nat.le_of_ble_eq_true rfl)
  replace V8 : Arv Z h8 b2 k2 .byte (4 : Int32) [(.int ((p1.toInt8.toInt32).toInt8.toInt32)), (.int ((p2.toInt8.toInt32).toInt8.toInt32)), (.int ((p3.toInt8.toInt32).toInt8.toInt32)), (.int (0 : Int32))] (.int (0 : Int32)) := V8
  have f8_S_st_UTF_8 := Sta.wr W8 f6_S_st_UTF_8
  have f8_S_st_UTF_16BE := Sta.wr W8 f6_S_st_UTF_16BE
  have f8_S_st_UTF_16LE := Sta.wr W8 f6_S_st_UTF_16LE
  have f8_S_st_UCS_4BE := Sta.wr W8 f6_S_st_UCS_4BE
  have f8_S_st_UCS_4LE := Sta.wr W8 f6_S_st_UCS_4LE
  have f8_S_st_EBCDIC := Sta.wr W8 f6_S_st_EBCDIC
  have f8_E_st_UTF_8 := Exa.wr W8 f6_E_st_UTF_8
  have f8_E_st_UTF_16BE := Exa.wr W8 f6_E_st_UTF_16BE
  have f8_E_st_UTF_16LE := Exa.wr W8 f6_E_st_UTF_16LE
  have f8_E_st_UCS_4BE := Exa.wr W8 f6_E_st_UCS_4BE
  have f8_E_st_UCS_4LE := Exa.wr W8 f6_E_st_UCS_4LE
  have f8_E_st_EBCDIC := Exa.wr W8 f6_E_st_EBCDIC
  have f8_F_byteOrderMark_st_UTF_8 := Fld.other W8 f6_F_byteOrderMark_st_UTF_8 (Or.inl ne_st_UTF_8_b2)
  have f8_F_unitBytes_st_UTF_8 := Fld.other W8 f6_F_unitBytes_st_UTF_8 (Or.inl ne_st_UTF_8_b2)
  have f8_V_bm_UTF_8 := Arv.other f6_V_bm_UTF_8 W8 ne_bm_UTF_8_b2
  have f8_F_byteOrderMark_st_UTF_16BE := Fld.other W8 f6_F_byteOrderMark_st_UTF_16BE (Or.inl ne_st_UTF_16BE_b2)
  have f8_F_unitBytes_st_UTF_16BE := Fld.other W8 f6_F_unitBytes_st_UTF_16BE (Or.inl ne_st_UTF_16BE_b2)
  have f8_V_bm_UTF_16BE := Arv.other f6_V_bm_UTF_16BE W8 ne_bm_UTF_16BE_b2
  have f8_F_byteOrderMark_st_UTF_16LE := Fld.other W8 f6_F_byteOrderMark_st_UTF_16LE (Or.inl ne_st_UTF_16LE_b2)
  have f8_F_unitBytes_st_UTF_16LE := Fld.other W8 f6_F_unitBytes_st_UTF_16LE (Or.inl ne_st_UTF_16LE_b2)
  have f8_V_bm_UTF_16LE := Arv.other f6_V_bm_UTF_16LE W8 ne_bm_UTF_16LE_b2
  have f8_F_byteOrderMark_st_UCS_4BE := Fld.other W8 f6_F_byteOrderMark_st_UCS_4BE (Or.inl ne_st_UCS_4BE_b2)
  have f8_F_byteOrderMark_st_UCS_4LE := Fld.other W8 f6_F_byteOrderMark_st_UCS_4LE (Or.inl ne_st_UCS_4LE_b2)
  have f8_F_byteOrderMark_st_EBCDIC := Fld.other W8 f6_F_byteOrderMark_st_EBCDIC (Or.inl ne_st_EBCDIC_b2)
  have f8_Eb2 := Exa.wr W8 f6_Eb2
  have N8 := Fr.snoc X8 N6 g_b2
  have SZ8 : n0 ≤ h8.size := Nat.le_trans SZ6 (Keep.of_wr W8).1
  refine Gz.aload 50 X8 hx (dd at_48) rfl rfl rfl ?_
  refine Gz.iconst 51 (3 : Int32) X8 hx (dd at_50) rfl rfl ?_
  refine Gz.iload 53 X8 hx (dd at_51) rfl rfl ?_
  refine Gz.i2b 54 X8 hx (dd at_53) rfl ?_
  obtain ⟨c9, A9, q9, S9, N9, H9, G9⟩ := id V8
  have hin9 : ¬ ((3 : Int32) < 0 ∨ c9.slots.size ≤ ((3 : Int32)).toNatClampNeg) := inb_of S9 ⟨by decide, by decide⟩
  refine Gz.stB 55 X8 hx hZ (dd at_54) e8 A9 hin9 rfl fun T10 h10 X10 e10 W10 => ?_
  have V10 := Arv.set A9 q9 S9 N9 H9 G9 (fits_nar_byte _) W10 3 rfl (Nat.le_of_ble_eq_true rfl)
  replace V10 : Arv Z h10 b2 k2 .byte (4 : Int32) [(.int ((p1.toInt8.toInt32).toInt8.toInt32)), (.int ((p2.toInt8.toInt32).toInt8.toInt32)), (.int ((p3.toInt8.toInt32).toInt8.toInt32)), (.int ((p4.toInt8.toInt32).toInt8.toInt32))] (.int (0 : Int32)) := V10
  have f10_S_st_UTF_8 := Sta.wr W10 f8_S_st_UTF_8
  have f10_S_st_UTF_16BE := Sta.wr W10 f8_S_st_UTF_16BE
  have f10_S_st_UTF_16LE := Sta.wr W10 f8_S_st_UTF_16LE
  have f10_S_st_UCS_4BE := Sta.wr W10 f8_S_st_UCS_4BE
  have f10_S_st_UCS_4LE := Sta.wr W10 f8_S_st_UCS_4LE
  have f10_S_st_EBCDIC := Sta.wr W10 f8_S_st_EBCDIC
  have f10_E_st_UTF_8 := Exa.wr W10 f8_E_st_UTF_8
  have f10_E_st_UTF_16BE := Exa.wr W10 f8_E_st_UTF_16BE
  have f10_E_st_UTF_16LE := Exa.wr W10 f8_E_st_UTF_16LE
  have f10_E_st_UCS_4BE := Exa.wr W10 f8_E_st_UCS_4BE
  have f10_E_st_UCS_4LE := Exa.wr W10 f8_E_st_UCS_4LE
  have f10_E_st_EBCDIC := Exa.wr W10 f8_E_st_EBCDIC
  have f10_F_byteOrderMark_st_UTF_8 := Fld.other W10 f8_F_byteOrderMark_st_UTF_8 (Or.inl ne_st_UTF_8_b2)
  have f10_F_unitBytes_st_UTF_8 := Fld.other W10 f8_F_unitBytes_st_UTF_8 (Or.inl ne_st_UTF_8_b2)
  have f10_V_bm_UTF_8 := Arv.other f8_V_bm_UTF_8 W10 ne_bm_UTF_8_b2
  have f10_F_byteOrderMark_st_UTF_16BE := Fld.other W10 f8_F_byteOrderMark_st_UTF_16BE (Or.inl ne_st_UTF_16BE_b2)
  have f10_F_unitBytes_st_UTF_16BE := Fld.other W10 f8_F_unitBytes_st_UTF_16BE (Or.inl ne_st_UTF_16BE_b2)
  have f10_V_bm_UTF_16BE := Arv.other f8_V_bm_UTF_16BE W10 ne_bm_UTF_16BE_b2
  have f10_F_byteOrderMark_st_UTF_16LE := Fld.other W10 f8_F_byteOrderMark_st_UTF_16LE (Or.inl ne_st_UTF_16LE_b2)
  have f10_F_unitBytes_st_UTF_16LE := Fld.other W10 f8_F_unitBytes_st_UTF_16LE (Or.inl ne_st_UTF_16LE_b2)
  have f10_V_bm_UTF_16LE := Arv.other f8_V_bm_UTF_16LE W10 ne_bm_UTF_16LE_b2
  have f10_F_byteOrderMark_st_UCS_4BE := Fld.other W10 f8_F_byteOrderMark_st_UCS_4BE (Or.inl ne_st_UCS_4BE_b2)
  have f10_F_byteOrderMark_st_UCS_4LE := Fld.other W10 f8_F_byteOrderMark_st_UCS_4LE (Or.inl ne_st_UCS_4LE_b2)
  have f10_F_byteOrderMark_st_EBCDIC := Fld.other W10 f8_F_byteOrderMark_st_EBCDIC (Or.inl ne_st_EBCDIC_b2)
  have f10_Eb2 := Exa.wr W10 f8_Eb2
  have N10 := Fr.snoc X10 N8 g_b2
  have SZ10 : n0 ≤ h10.size := Nat.le_trans SZ8 (Keep.of_wr W10).1
  refine Gz.iload 57 X10 hx (dd at_55) rfl rfl ?_
  refine Gz.iconst 58 (3 : Int32) X10 hx (dd at_57) rfl rfl ?_
  refine Gz.iushr 59 X10 hx (dd at_58) rfl ?_
  refine Gz.iconst 60 (3 : Int32) X10 hx (dd at_59) rfl rfl ?_
  refine Gz.iand 61 X10 hx (dd at_60) rfl ?_
  show Gz p e below s _ _ _ (T10.setTop (mkF m 61 #[.val (.int p0), .val (.int p1), .val (.int p2), .val (.int p3), .val (.int p4), .val (.int p5), .val (.int kk), .val (.ref (fPick kk st_UTF_8 st_UTF_16BE st_UTF_16LE st_UCS_4BE st_UCS_4LE st_EBCDIC)), .val (.int ln), .val (.ref b2), .unset, .unset] [(.int (((p5.toUInt32 >>> ((3 : Int32) &&& 31).toUInt32).toInt32) &&& (3 : Int32)))]))
  obtain ⟨pt, q_pt⟩ : ∃ z, (((p5.toUInt32 >>> ((3 : Int32) &&& 31).toUInt32).toInt32) &&& (3 : Int32)) = z := ⟨_, rfl⟩
  rw [q_pt]
  show Gz p e below s _ _ _ (T10.setTop (mkF m 61 #[.val (.int p0), .val (.int p1), .val (.int p2), .val (.int p3), .val (.int p4), .val (.int p5), .val (.int kk), .val (.ref (fPick kk st_UTF_8 st_UTF_16BE st_UTF_16LE st_UCS_4BE st_UCS_4LE st_EBCDIC)), .val (.int ln), .val (.ref b2), .unset, .unset] [(.int pt)]))
  refine Gz.istore 63 #[.val (.int p0), .val (.int p1), .val (.int p2), .val (.int p3), .val (.int p4), .val (.int p5), .val (.int kk), .val (.ref (fPick kk st_UTF_8 st_UTF_16BE st_UTF_16LE st_UCS_4BE st_UCS_4LE st_EBCDIC)), .val (.int ln), .val (.ref b2), .val (.int pt), .unset] X10 hx (dd at_61) rfl rfl ?_
  refine Gz.iload 65 X10 hx (dd at_63) rfl rfl ?_
  by_cases hc11 : pt = (0 : Int32)
  · refine Gz.ifNo 68 X10 hx (dd at_65) ((if0 _ _).trans (teq hc11).2) rfl ?_
    refine Gz.aload 70 X10 hx (dd at_68) rfl rfl rfl ?_
    refine Gz.iconst 71 (0 : Int32) X10 hx (dd at_70) rfl rfl ?_
    refine Gz.bipush 73 (-17 : Int32) X10 hx (dd at_71) rfl rfl ?_
    obtain ⟨c12, A12, q12, S12, N12, H12, G12⟩ := id V10
    have hin12 : ¬ ((0 : Int32) < 0 ∨ c12.slots.size ≤ ((0 : Int32)).toNatClampNeg) := inb_of S12 ⟨by decide, by decide⟩
    refine Gz.stB 74 X10 hx hZ (dd at_73) e10 A12 hin12 rfl fun T13 h13 X13 e13 W13 => ?_
    have V13 := Arv.set A12 q12 S12 N12 H12 G12 (fits_nar_byte _) W13 0 rfl (Nat.le_of_ble_eq_true rfl)
    replace V13 : Arv Z h13 b2 k2 .byte (4 : Int32) [(.int (-17 : Int32)), (.int ((p2.toInt8.toInt32).toInt8.toInt32)), (.int ((p3.toInt8.toInt32).toInt8.toInt32)), (.int ((p4.toInt8.toInt32).toInt8.toInt32))] (.int (0 : Int32)) := V13
    have f13_S_st_UTF_8 := Sta.wr W13 f10_S_st_UTF_8
    have f13_S_st_UTF_16BE := Sta.wr W13 f10_S_st_UTF_16BE
    have f13_S_st_UTF_16LE := Sta.wr W13 f10_S_st_UTF_16LE
    have f13_S_st_UCS_4BE := Sta.wr W13 f10_S_st_UCS_4BE
    have f13_S_st_UCS_4LE := Sta.wr W13 f10_S_st_UCS_4LE
    have f13_S_st_EBCDIC := Sta.wr W13 f10_S_st_EBCDIC
    have f13_E_st_UTF_8 := Exa.wr W13 f10_E_st_UTF_8
    have f13_E_st_UTF_16BE := Exa.wr W13 f10_E_st_UTF_16BE
    have f13_E_st_UTF_16LE := Exa.wr W13 f10_E_st_UTF_16LE
    have f13_E_st_UCS_4BE := Exa.wr W13 f10_E_st_UCS_4BE
    have f13_E_st_UCS_4LE := Exa.wr W13 f10_E_st_UCS_4LE
    have f13_E_st_EBCDIC := Exa.wr W13 f10_E_st_EBCDIC
    have f13_F_byteOrderMark_st_UTF_8 := Fld.other W13 f10_F_byteOrderMark_st_UTF_8 (Or.inl ne_st_UTF_8_b2)
    have f13_F_unitBytes_st_UTF_8 := Fld.other W13 f10_F_unitBytes_st_UTF_8 (Or.inl ne_st_UTF_8_b2)
    have f13_V_bm_UTF_8 := Arv.other f10_V_bm_UTF_8 W13 ne_bm_UTF_8_b2
    have f13_F_byteOrderMark_st_UTF_16BE := Fld.other W13 f10_F_byteOrderMark_st_UTF_16BE (Or.inl ne_st_UTF_16BE_b2)
    have f13_F_unitBytes_st_UTF_16BE := Fld.other W13 f10_F_unitBytes_st_UTF_16BE (Or.inl ne_st_UTF_16BE_b2)
    have f13_V_bm_UTF_16BE := Arv.other f10_V_bm_UTF_16BE W13 ne_bm_UTF_16BE_b2
    have f13_F_byteOrderMark_st_UTF_16LE := Fld.other W13 f10_F_byteOrderMark_st_UTF_16LE (Or.inl ne_st_UTF_16LE_b2)
    have f13_F_unitBytes_st_UTF_16LE := Fld.other W13 f10_F_unitBytes_st_UTF_16LE (Or.inl ne_st_UTF_16LE_b2)
    have f13_V_bm_UTF_16LE := Arv.other f10_V_bm_UTF_16LE W13 ne_bm_UTF_16LE_b2
    have f13_F_byteOrderMark_st_UCS_4BE := Fld.other W13 f10_F_byteOrderMark_st_UCS_4BE (Or.inl ne_st_UCS_4BE_b2)
    have f13_F_byteOrderMark_st_UCS_4LE := Fld.other W13 f10_F_byteOrderMark_st_UCS_4LE (Or.inl ne_st_UCS_4LE_b2)
    have f13_F_byteOrderMark_st_EBCDIC := Fld.other W13 f10_F_byteOrderMark_st_EBCDIC (Or.inl ne_st_EBCDIC_b2)
    have f13_Eb2 := Exa.wr W13 f10_Eb2
    have N13 := Fr.snoc X13 N10 g_b2
    have SZ13 : n0 ≤ h13.size := Nat.le_trans SZ10 (Keep.of_wr W13).1
    refine Gz.aload 76 X13 hx (dd at_74) rfl rfl rfl ?_
    refine Gz.iconst 77 (1 : Int32) X13 hx (dd at_76) rfl rfl ?_
    refine Gz.bipush 79 (-69 : Int32) X13 hx (dd at_77) rfl rfl ?_
    obtain ⟨c14, A14, q14, S14, N14, H14, G14⟩ := id V13
    have hin14 : ¬ ((1 : Int32) < 0 ∨ c14.slots.size ≤ ((1 : Int32)).toNatClampNeg) := inb_of S14 ⟨by decide, by decide⟩
    refine Gz.stB 80 X13 hx hZ (dd at_79) e13 A14 hin14 rfl fun T15 h15 X15 e15 W15 => ?_
    have V15 := Arv.set A14 q14 S14 N14 H14 G14 (fits_nar_byte _) W15 1 rfl (Nat.le_of_ble_eq_true rfl)
    replace V15 : Arv Z h15 b2 k2 .byte (4 : Int32) [(.int (-17 : Int32)), (.int (-69 : Int32)), (.int ((p3.toInt8.toInt32).toInt8.toInt32)), (.int ((p4.toInt8.toInt32).toInt8.toInt32))] (.int (0 : Int32)) := V15
    have f15_S_st_UTF_8 := Sta.wr W15 f13_S_st_UTF_8
    have f15_S_st_UTF_16BE := Sta.wr W15 f13_S_st_UTF_16BE
    have f15_S_st_UTF_16LE := Sta.wr W15 f13_S_st_UTF_16LE
    have f15_S_st_UCS_4BE := Sta.wr W15 f13_S_st_UCS_4BE
    have f15_S_st_UCS_4LE := Sta.wr W15 f13_S_st_UCS_4LE
    have f15_S_st_EBCDIC := Sta.wr W15 f13_S_st_EBCDIC
    have f15_E_st_UTF_8 := Exa.wr W15 f13_E_st_UTF_8
    have f15_E_st_UTF_16BE := Exa.wr W15 f13_E_st_UTF_16BE
    have f15_E_st_UTF_16LE := Exa.wr W15 f13_E_st_UTF_16LE
    have f15_E_st_UCS_4BE := Exa.wr W15 f13_E_st_UCS_4BE
    have f15_E_st_UCS_4LE := Exa.wr W15 f13_E_st_UCS_4LE
    have f15_E_st_EBCDIC := Exa.wr W15 f13_E_st_EBCDIC
    have f15_F_byteOrderMark_st_UTF_8 := Fld.other W15 f13_F_byteOrderMark_st_UTF_8 (Or.inl ne_st_UTF_8_b2)
    have f15_F_unitBytes_st_UTF_8 := Fld.other W15 f13_F_unitBytes_st_UTF_8 (Or.inl ne_st_UTF_8_b2)
    have f15_V_bm_UTF_8 := Arv.other f13_V_bm_UTF_8 W15 ne_bm_UTF_8_b2
    have f15_F_byteOrderMark_st_UTF_16BE := Fld.other W15 f13_F_byteOrderMark_st_UTF_16BE (Or.inl ne_st_UTF_16BE_b2)
    have f15_F_unitBytes_st_UTF_16BE := Fld.other W15 f13_F_unitBytes_st_UTF_16BE (Or.inl ne_st_UTF_16BE_b2)
    have f15_V_bm_UTF_16BE := Arv.other f13_V_bm_UTF_16BE W15 ne_bm_UTF_16BE_b2
    have f15_F_byteOrderMark_st_UTF_16LE := Fld.other W15 f13_F_byteOrderMark_st_UTF_16LE (Or.inl ne_st_UTF_16LE_b2)
    have f15_F_unitBytes_st_UTF_16LE := Fld.other W15 f13_F_unitBytes_st_UTF_16LE (Or.inl ne_st_UTF_16LE_b2)
    have f15_V_bm_UTF_16LE := Arv.other f13_V_bm_UTF_16LE W15 ne_bm_UTF_16LE_b2
    have f15_F_byteOrderMark_st_UCS_4BE := Fld.other W15 f13_F_byteOrderMark_st_UCS_4BE (Or.inl ne_st_UCS_4BE_b2)
    have f15_F_byteOrderMark_st_UCS_4LE := Fld.other W15 f13_F_byteOrderMark_st_UCS_4LE (Or.inl ne_st_UCS_4LE_b2)
    have f15_F_byteOrderMark_st_EBCDIC := Fld.other W15 f13_F_byteOrderMark_st_EBCDIC (Or.inl ne_st_EBCDIC_b2)
    have f15_Eb2 := Exa.wr W15 f13_Eb2
    have N15 := Fr.snoc X15 N13 g_b2
    have SZ15 : n0 ≤ h15.size := Nat.le_trans SZ13 (Keep.of_wr W15).1
    refine Gz.aload 82 X15 hx (dd at_80) rfl rfl rfl ?_
    refine Gz.iconst 83 (2 : Int32) X15 hx (dd at_82) rfl rfl ?_
    refine Gz.bipush 85 (-65 : Int32) X15 hx (dd at_83) rfl rfl ?_
    obtain ⟨c16, A16, q16, S16, N16, H16, G16⟩ := id V15
    have hin16 : ¬ ((2 : Int32) < 0 ∨ c16.slots.size ≤ ((2 : Int32)).toNatClampNeg) := inb_of S16 ⟨by decide, by decide⟩
    refine Gz.stB 86 X15 hx hZ (dd at_85) e15 A16 hin16 rfl fun T17 h17 X17 e17 W17 => ?_
    have V17 := Arv.set A16 q16 S16 N16 H16 G16 (fits_nar_byte _) W17 2 rfl (Nat.le_of_ble_eq_true rfl)
    replace V17 : Arv Z h17 b2 k2 .byte (4 : Int32) [(.int (-17 : Int32)), (.int (-69 : Int32)), (.int (-65 : Int32)), (.int ((p4.toInt8.toInt32).toInt8.toInt32))] (.int (0 : Int32)) := V17
    have f17_S_st_UTF_8 := Sta.wr W17 f15_S_st_UTF_8
    have f17_S_st_UTF_16BE := Sta.wr W17 f15_S_st_UTF_16BE
    have f17_S_st_UTF_16LE := Sta.wr W17 f15_S_st_UTF_16LE
    have f17_S_st_UCS_4BE := Sta.wr W17 f15_S_st_UCS_4BE
    have f17_S_st_UCS_4LE := Sta.wr W17 f15_S_st_UCS_4LE
    have f17_S_st_EBCDIC := Sta.wr W17 f15_S_st_EBCDIC
    have f17_E_st_UTF_8 := Exa.wr W17 f15_E_st_UTF_8
    have f17_E_st_UTF_16BE := Exa.wr W17 f15_E_st_UTF_16BE
    have f17_E_st_UTF_16LE := Exa.wr W17 f15_E_st_UTF_16LE
    have f17_E_st_UCS_4BE := Exa.wr W17 f15_E_st_UCS_4BE
    have f17_E_st_UCS_4LE := Exa.wr W17 f15_E_st_UCS_4LE
    have f17_E_st_EBCDIC := Exa.wr W17 f15_E_st_EBCDIC
    have f17_F_byteOrderMark_st_UTF_8 := Fld.other W17 f15_F_byteOrderMark_st_UTF_8 (Or.inl ne_st_UTF_8_b2)
    have f17_F_unitBytes_st_UTF_8 := Fld.other W17 f15_F_unitBytes_st_UTF_8 (Or.inl ne_st_UTF_8_b2)
    have f17_V_bm_UTF_8 := Arv.other f15_V_bm_UTF_8 W17 ne_bm_UTF_8_b2
    have f17_F_byteOrderMark_st_UTF_16BE := Fld.other W17 f15_F_byteOrderMark_st_UTF_16BE (Or.inl ne_st_UTF_16BE_b2)
    have f17_F_unitBytes_st_UTF_16BE := Fld.other W17 f15_F_unitBytes_st_UTF_16BE (Or.inl ne_st_UTF_16BE_b2)
    have f17_V_bm_UTF_16BE := Arv.other f15_V_bm_UTF_16BE W17 ne_bm_UTF_16BE_b2
    have f17_F_byteOrderMark_st_UTF_16LE := Fld.other W17 f15_F_byteOrderMark_st_UTF_16LE (Or.inl ne_st_UTF_16LE_b2)
    have f17_F_unitBytes_st_UTF_16LE := Fld.other W17 f15_F_unitBytes_st_UTF_16LE (Or.inl ne_st_UTF_16LE_b2)
    have f17_V_bm_UTF_16LE := Arv.other f15_V_bm_UTF_16LE W17 ne_bm_UTF_16LE_b2
    have f17_F_byteOrderMark_st_UCS_4BE := Fld.other W17 f15_F_byteOrderMark_st_UCS_4BE (Or.inl ne_st_UCS_4BE_b2)
    have f17_F_byteOrderMark_st_UCS_4LE := Fld.other W17 f15_F_byteOrderMark_st_UCS_4LE (Or.inl ne_st_UCS_4LE_b2)
    have f17_F_byteOrderMark_st_EBCDIC := Fld.other W17 f15_F_byteOrderMark_st_EBCDIC (Or.inl ne_st_EBCDIC_b2)
    have f17_Eb2 := Exa.wr W17 f15_Eb2
    have N17 := Fr.snoc X17 N15 g_b2
    have SZ17 : n0 ≤ h17.size := Nat.le_trans SZ15 (Keep.of_wr W17).1
    refine Gz.goto 126 X17 hx (dd at_86) (by decide) (by decide) ?_
    refine Gz.iload 128 X17 hx (dd at_126) rfl rfl ?_
    refine Gz.iconst 129 (5 : Int32) X17 hx (dd at_128) rfl rfl ?_
    refine Gz.iushr 130 X17 hx (dd at_129) rfl ?_
    refine Gz.iconst 131 (1 : Int32) X17 hx (dd at_130) rfl rfl ?_
    refine Gz.iand 132 X17 hx (dd at_131) rfl ?_
    by_cases hc18 : (((p5.toUInt32 >>> ((5 : Int32) &&& 31).toUInt32).toInt32) &&& (1 : Int32)) = (0 : Int32)
    · refine Gz.ifYes 150 X17 hx (dd at_132) ((if0 _ _).trans (teq hc18).1) (by decide) (by decide) ?_
      exact sg150 (.val (.int p0)) (.val (.int p1)) (.val (.int p2)) (.val (.int p3)) (.val (.int p4)) (.val (.int p5)) kk ln b2 (.val (.int pt)) st_UTF_8 st_UTF_16BE st_UTF_16LE st_UCS_4BE st_UCS_4LE st_EBCDIC bm_UTF_8 k_bm_UTF_8 bm_UTF_16BE k_bm_UTF_16BE bm_UTF_16LE k_bm_UTF_16LE k2 (-17 : Int32) (-69 : Int32) (-65 : Int32) ((p4.toInt8.toInt32).toInt8.toInt32) n0 X17 hx hZ hw hby hml hown hret hlk e17 N17 SZ17 f17_S_st_UTF_8 f17_S_st_UTF_16BE f17_S_st_UTF_16LE f17_S_st_UCS_4BE f17_S_st_UCS_4LE f17_S_st_EBCDIC f17_E_st_UTF_8 f17_E_st_UTF_16BE f17_E_st_UTF_16LE f17_E_st_UCS_4BE f17_E_st_UCS_4LE f17_E_st_EBCDIC f17_F_byteOrderMark_st_UTF_8 f17_F_unitBytes_st_UTF_8 f17_V_bm_UTF_8 f17_F_byteOrderMark_st_UTF_16BE f17_F_unitBytes_st_UTF_16BE f17_V_bm_UTF_16BE f17_F_byteOrderMark_st_UTF_16LE f17_F_unitBytes_st_UTF_16LE f17_V_bm_UTF_16LE f17_F_byteOrderMark_st_UCS_4BE f17_F_byteOrderMark_st_UCS_4LE f17_F_byteOrderMark_st_EBCDIC V17 h_kk
    · refine Gz.ifNo 135 X17 hx (dd at_132) ((if0 _ _).trans (feq hc18).1) rfl ?_
      refine Gz.aload 137 X17 hx (dd at_135) rfl rfl rfl ?_
      refine Gz.iload 139 X17 hx (dd at_137) rfl rfl ?_
      refine Gz.bipush 141 (6 : Int32) X17 hx (dd at_139) rfl rfl ?_
      refine Gz.iushr 142 X17 hx (dd at_141) rfl ?_
      refine Gz.iconst 143 (3 : Int32) X17 hx (dd at_142) rfl rfl ?_
      refine Gz.iand 144 X17 hx (dd at_143) rfl ?_
      show Gz p e below s _ _ _ (T17.setTop (mkF m 144 #[.val (.int p0), .val (.int p1), .val (.int p2), .val (.int p3), .val (.int p4), .val (.int p5), .val (.int kk), .val (.ref (fPick kk st_UTF_8 st_UTF_16BE st_UTF_16LE st_UCS_4BE st_UCS_4LE st_EBCDIC)), .val (.int ln), .val (.ref b2), .val (.int pt), .unset] [(.int (((p5.toUInt32 >>> ((6 : Int32) &&& 31).toUInt32).toInt32) &&& (3 : Int32))), (.ref b2)]))
      rcases own_and3 _ with hs19 | hs19 | hs19 | hs19
      · rw [hs19]
        refine Gz.iloadN 145 X17 hx (dd at_144) rfl rfl ?_
        refine Gz.bipush 147 (8 : Int32) X17 hx (dd at_145) rfl rfl ?_
        refine Gz.iushr 148 X17 hx (dd at_147) rfl ?_
        refine Gz.i2b 149 X17 hx (dd at_148) rfl ?_
        obtain ⟨c20, A20, q20, S20, N20, H20, G20⟩ := id V17
        have hin20 : ¬ ((0 : Int32) < 0 ∨ c20.slots.size ≤ ((0 : Int32)).toNatClampNeg) := inb_of S20 ⟨by decide, by decide⟩
        refine Gz.stB 150 X17 hx hZ (dd at_149) e17 A20 hin20 rfl fun T21 h21 X21 e21 W21 => ?_
        have V21 := Arv.set A20 q20 S20 N20 H20 G20 (fits_nar_byte _) W21 0 rfl (Nat.le_of_ble_eq_true rfl)
        replace V21 : Arv Z h21 b2 k2 .byte (4 : Int32) [(.int ((((p1.toUInt32 >>> ((8 : Int32) &&& 31).toUInt32).toInt32).toInt8.toInt32).toInt8.toInt32)), (.int (-69 : Int32)), (.int (-65 : Int32)), (.int ((p4.toInt8.toInt32).toInt8.toInt32))] (.int (0 : Int32)) := V21
        have f21_S_st_UTF_8 := Sta.wr W21 f17_S_st_UTF_8
        have f21_S_st_UTF_16BE := Sta.wr W21 f17_S_st_UTF_16BE
        have f21_S_st_UTF_16LE := Sta.wr W21 f17_S_st_UTF_16LE
        have f21_S_st_UCS_4BE := Sta.wr W21 f17_S_st_UCS_4BE
        have f21_S_st_UCS_4LE := Sta.wr W21 f17_S_st_UCS_4LE
        have f21_S_st_EBCDIC := Sta.wr W21 f17_S_st_EBCDIC
        have f21_E_st_UTF_8 := Exa.wr W21 f17_E_st_UTF_8
        have f21_E_st_UTF_16BE := Exa.wr W21 f17_E_st_UTF_16BE
        have f21_E_st_UTF_16LE := Exa.wr W21 f17_E_st_UTF_16LE
        have f21_E_st_UCS_4BE := Exa.wr W21 f17_E_st_UCS_4BE
        have f21_E_st_UCS_4LE := Exa.wr W21 f17_E_st_UCS_4LE
        have f21_E_st_EBCDIC := Exa.wr W21 f17_E_st_EBCDIC
        have f21_F_byteOrderMark_st_UTF_8 := Fld.other W21 f17_F_byteOrderMark_st_UTF_8 (Or.inl ne_st_UTF_8_b2)
        have f21_F_unitBytes_st_UTF_8 := Fld.other W21 f17_F_unitBytes_st_UTF_8 (Or.inl ne_st_UTF_8_b2)
        have f21_V_bm_UTF_8 := Arv.other f17_V_bm_UTF_8 W21 ne_bm_UTF_8_b2
        have f21_F_byteOrderMark_st_UTF_16BE := Fld.other W21 f17_F_byteOrderMark_st_UTF_16BE (Or.inl ne_st_UTF_16BE_b2)
        have f21_F_unitBytes_st_UTF_16BE := Fld.other W21 f17_F_unitBytes_st_UTF_16BE (Or.inl ne_st_UTF_16BE_b2)
        have f21_V_bm_UTF_16BE := Arv.other f17_V_bm_UTF_16BE W21 ne_bm_UTF_16BE_b2
        have f21_F_byteOrderMark_st_UTF_16LE := Fld.other W21 f17_F_byteOrderMark_st_UTF_16LE (Or.inl ne_st_UTF_16LE_b2)
        have f21_F_unitBytes_st_UTF_16LE := Fld.other W21 f17_F_unitBytes_st_UTF_16LE (Or.inl ne_st_UTF_16LE_b2)
        have f21_V_bm_UTF_16LE := Arv.other f17_V_bm_UTF_16LE W21 ne_bm_UTF_16LE_b2
        have f21_F_byteOrderMark_st_UCS_4BE := Fld.other W21 f17_F_byteOrderMark_st_UCS_4BE (Or.inl ne_st_UCS_4BE_b2)
        have f21_F_byteOrderMark_st_UCS_4LE := Fld.other W21 f17_F_byteOrderMark_st_UCS_4LE (Or.inl ne_st_UCS_4LE_b2)
        have f21_F_byteOrderMark_st_EBCDIC := Fld.other W21 f17_F_byteOrderMark_st_EBCDIC (Or.inl ne_st_EBCDIC_b2)
        have f21_Eb2 := Exa.wr W21 f17_Eb2
        have N21 := Fr.snoc X21 N17 g_b2
        have SZ21 : n0 ≤ h21.size := Nat.le_trans SZ17 (Keep.of_wr W21).1
        exact sg150 (.val (.int p0)) (.val (.int p1)) (.val (.int p2)) (.val (.int p3)) (.val (.int p4)) (.val (.int p5)) kk ln b2 (.val (.int pt)) st_UTF_8 st_UTF_16BE st_UTF_16LE st_UCS_4BE st_UCS_4LE st_EBCDIC bm_UTF_8 k_bm_UTF_8 bm_UTF_16BE k_bm_UTF_16BE bm_UTF_16LE k_bm_UTF_16LE k2 ((((p1.toUInt32 >>> ((8 : Int32) &&& 31).toUInt32).toInt32).toInt8.toInt32).toInt8.toInt32) (-69 : Int32) (-65 : Int32) ((p4.toInt8.toInt32).toInt8.toInt32) n0 X21 hx hZ hw hby hml hown hret hlk e21 N21 SZ21 f21_S_st_UTF_8 f21_S_st_UTF_16BE f21_S_st_UTF_16LE f21_S_st_UCS_4BE f21_S_st_UCS_4LE f21_S_st_EBCDIC f21_E_st_UTF_8 f21_E_st_UTF_16BE f21_E_st_UTF_16LE f21_E_st_UCS_4BE f21_E_st_UCS_4LE f21_E_st_EBCDIC f21_F_byteOrderMark_st_UTF_8 f21_F_unitBytes_st_UTF_8 f21_V_bm_UTF_8 f21_F_byteOrderMark_st_UTF_16BE f21_F_unitBytes_st_UTF_16BE f21_V_bm_UTF_16BE f21_F_byteOrderMark_st_UTF_16LE f21_F_unitBytes_st_UTF_16LE f21_V_bm_UTF_16LE f21_F_byteOrderMark_st_UCS_4BE f21_F_byteOrderMark_st_UCS_4LE f21_F_byteOrderMark_st_EBCDIC V21 h_kk
      · rw [hs19]
        refine Gz.iloadN 145 X17 hx (dd at_144) rfl rfl ?_
        refine Gz.bipush 147 (8 : Int32) X17 hx (dd at_145) rfl rfl ?_
        refine Gz.iushr 148 X17 hx (dd at_147) rfl ?_
        refine Gz.i2b 149 X17 hx (dd at_148) rfl ?_
        obtain ⟨c22, A22, q22, S22, N22, H22, G22⟩ := id V17
        have hin22 : ¬ ((1 : Int32) < 0 ∨ c22.slots.size ≤ ((1 : Int32)).toNatClampNeg) := inb_of S22 ⟨by decide, by decide⟩
        refine Gz.stB 150 X17 hx hZ (dd at_149) e17 A22 hin22 rfl fun T23 h23 X23 e23 W23 => ?_
        have V23 := Arv.set A22 q22 S22 N22 H22 G22 (fits_nar_byte _) W23 1 rfl (Nat.le_of_ble_eq_true rfl)
        replace V23 : Arv Z h23 b2 k2 .byte (4 : Int32) [(.int (-17 : Int32)), (.int ((((p1.toUInt32 >>> ((8 : Int32) &&& 31).toUInt32).toInt32).toInt8.toInt32).toInt8.toInt32)), (.int (-65 : Int32)), (.int ((p4.toInt8.toInt32).toInt8.toInt32))] (.int (0 : Int32)) := V23
        have f23_S_st_UTF_8 := Sta.wr W23 f17_S_st_UTF_8
        have f23_S_st_UTF_16BE := Sta.wr W23 f17_S_st_UTF_16BE
        have f23_S_st_UTF_16LE := Sta.wr W23 f17_S_st_UTF_16LE
        have f23_S_st_UCS_4BE := Sta.wr W23 f17_S_st_UCS_4BE
        have f23_S_st_UCS_4LE := Sta.wr W23 f17_S_st_UCS_4LE
        have f23_S_st_EBCDIC := Sta.wr W23 f17_S_st_EBCDIC
        have f23_E_st_UTF_8 := Exa.wr W23 f17_E_st_UTF_8
        have f23_E_st_UTF_16BE := Exa.wr W23 f17_E_st_UTF_16BE
        have f23_E_st_UTF_16LE := Exa.wr W23 f17_E_st_UTF_16LE
        have f23_E_st_UCS_4BE := Exa.wr W23 f17_E_st_UCS_4BE
        have f23_E_st_UCS_4LE := Exa.wr W23 f17_E_st_UCS_4LE
        have f23_E_st_EBCDIC := Exa.wr W23 f17_E_st_EBCDIC
        have f23_F_byteOrderMark_st_UTF_8 := Fld.other W23 f17_F_byteOrderMark_st_UTF_8 (Or.inl ne_st_UTF_8_b2)
        have f23_F_unitBytes_st_UTF_8 := Fld.other W23 f17_F_unitBytes_st_UTF_8 (Or.inl ne_st_UTF_8_b2)
        have f23_V_bm_UTF_8 := Arv.other f17_V_bm_UTF_8 W23 ne_bm_UTF_8_b2
        have f23_F_byteOrderMark_st_UTF_16BE := Fld.other W23 f17_F_byteOrderMark_st_UTF_16BE (Or.inl ne_st_UTF_16BE_b2)
        have f23_F_unitBytes_st_UTF_16BE := Fld.other W23 f17_F_unitBytes_st_UTF_16BE (Or.inl ne_st_UTF_16BE_b2)
        have f23_V_bm_UTF_16BE := Arv.other f17_V_bm_UTF_16BE W23 ne_bm_UTF_16BE_b2
        have f23_F_byteOrderMark_st_UTF_16LE := Fld.other W23 f17_F_byteOrderMark_st_UTF_16LE (Or.inl ne_st_UTF_16LE_b2)
        have f23_F_unitBytes_st_UTF_16LE := Fld.other W23 f17_F_unitBytes_st_UTF_16LE (Or.inl ne_st_UTF_16LE_b2)
        have f23_V_bm_UTF_16LE := Arv.other f17_V_bm_UTF_16LE W23 ne_bm_UTF_16LE_b2
        have f23_F_byteOrderMark_st_UCS_4BE := Fld.other W23 f17_F_byteOrderMark_st_UCS_4BE (Or.inl ne_st_UCS_4BE_b2)
        have f23_F_byteOrderMark_st_UCS_4LE := Fld.other W23 f17_F_byteOrderMark_st_UCS_4LE (Or.inl ne_st_UCS_4LE_b2)
        have f23_F_byteOrderMark_st_EBCDIC := Fld.other W23 f17_F_byteOrderMark_st_EBCDIC (Or.inl ne_st_EBCDIC_b2)
        have f23_Eb2 := Exa.wr W23 f17_Eb2
        have N23 := Fr.snoc X23 N17 g_b2
        have SZ23 : n0 ≤ h23.size := Nat.le_trans SZ17 (Keep.of_wr W23).1
        exact sg150 (.val (.int p0)) (.val (.int p1)) (.val (.int p2)) (.val (.int p3)) (.val (.int p4)) (.val (.int p5)) kk ln b2 (.val (.int pt)) st_UTF_8 st_UTF_16BE st_UTF_16LE st_UCS_4BE st_UCS_4LE st_EBCDIC bm_UTF_8 k_bm_UTF_8 bm_UTF_16BE k_bm_UTF_16BE bm_UTF_16LE k_bm_UTF_16LE k2 (-17 : Int32) ((((p1.toUInt32 >>> ((8 : Int32) &&& 31).toUInt32).toInt32).toInt8.toInt32).toInt8.toInt32) (-65 : Int32) ((p4.toInt8.toInt32).toInt8.toInt32) n0 X23 hx hZ hw hby hml hown hret hlk e23 N23 SZ23 f23_S_st_UTF_8 f23_S_st_UTF_16BE f23_S_st_UTF_16LE f23_S_st_UCS_4BE f23_S_st_UCS_4LE f23_S_st_EBCDIC f23_E_st_UTF_8 f23_E_st_UTF_16BE f23_E_st_UTF_16LE f23_E_st_UCS_4BE f23_E_st_UCS_4LE f23_E_st_EBCDIC f23_F_byteOrderMark_st_UTF_8 f23_F_unitBytes_st_UTF_8 f23_V_bm_UTF_8 f23_F_byteOrderMark_st_UTF_16BE f23_F_unitBytes_st_UTF_16BE f23_V_bm_UTF_16BE f23_F_byteOrderMark_st_UTF_16LE f23_F_unitBytes_st_UTF_16LE f23_V_bm_UTF_16LE f23_F_byteOrderMark_st_UCS_4BE f23_F_byteOrderMark_st_UCS_4LE f23_F_byteOrderMark_st_EBCDIC V23 h_kk
      · rw [hs19]
        refine Gz.iloadN 145 X17 hx (dd at_144) rfl rfl ?_
        refine Gz.bipush 147 (8 : Int32) X17 hx (dd at_145) rfl rfl ?_
        refine Gz.iushr 148 X17 hx (dd at_147) rfl ?_
        refine Gz.i2b 149 X17 hx (dd at_148) rfl ?_
        obtain ⟨c24, A24, q24, S24, N24, H24, G24⟩ := id V17
        have hin24 : ¬ ((2 : Int32) < 0 ∨ c24.slots.size ≤ ((2 : Int32)).toNatClampNeg) := inb_of S24 ⟨by decide, by decide⟩
        refine Gz.stB 150 X17 hx hZ (dd at_149) e17 A24 hin24 rfl fun T25 h25 X25 e25 W25 => ?_
        have V25 := Arv.set A24 q24 S24 N24 H24 G24 (fits_nar_byte _) W25 2 rfl (Nat.le_of_ble_eq_true rfl)
        replace V25 : Arv Z h25 b2 k2 .byte (4 : Int32) [(.int (-17 : Int32)), (.int (-69 : Int32)), (.int ((((p1.toUInt32 >>> ((8 : Int32) &&& 31).toUInt32).toInt32).toInt8.toInt32).toInt8.toInt32)), (.int ((p4.toInt8.toInt32).toInt8.toInt32))] (.int (0 : Int32)) := V25
        have f25_S_st_UTF_8 := Sta.wr W25 f17_S_st_UTF_8
        have f25_S_st_UTF_16BE := Sta.wr W25 f17_S_st_UTF_16BE
        have f25_S_st_UTF_16LE := Sta.wr W25 f17_S_st_UTF_16LE
        have f25_S_st_UCS_4BE := Sta.wr W25 f17_S_st_UCS_4BE
        have f25_S_st_UCS_4LE := Sta.wr W25 f17_S_st_UCS_4LE
        have f25_S_st_EBCDIC := Sta.wr W25 f17_S_st_EBCDIC
        have f25_E_st_UTF_8 := Exa.wr W25 f17_E_st_UTF_8
        have f25_E_st_UTF_16BE := Exa.wr W25 f17_E_st_UTF_16BE
        have f25_E_st_UTF_16LE := Exa.wr W25 f17_E_st_UTF_16LE
        have f25_E_st_UCS_4BE := Exa.wr W25 f17_E_st_UCS_4BE
        have f25_E_st_UCS_4LE := Exa.wr W25 f17_E_st_UCS_4LE
        have f25_E_st_EBCDIC := Exa.wr W25 f17_E_st_EBCDIC
        have f25_F_byteOrderMark_st_UTF_8 := Fld.other W25 f17_F_byteOrderMark_st_UTF_8 (Or.inl ne_st_UTF_8_b2)
        have f25_F_unitBytes_st_UTF_8 := Fld.other W25 f17_F_unitBytes_st_UTF_8 (Or.inl ne_st_UTF_8_b2)
        have f25_V_bm_UTF_8 := Arv.other f17_V_bm_UTF_8 W25 ne_bm_UTF_8_b2
        have f25_F_byteOrderMark_st_UTF_16BE := Fld.other W25 f17_F_byteOrderMark_st_UTF_16BE (Or.inl ne_st_UTF_16BE_b2)
        have f25_F_unitBytes_st_UTF_16BE := Fld.other W25 f17_F_unitBytes_st_UTF_16BE (Or.inl ne_st_UTF_16BE_b2)
        have f25_V_bm_UTF_16BE := Arv.other f17_V_bm_UTF_16BE W25 ne_bm_UTF_16BE_b2
        have f25_F_byteOrderMark_st_UTF_16LE := Fld.other W25 f17_F_byteOrderMark_st_UTF_16LE (Or.inl ne_st_UTF_16LE_b2)
        have f25_F_unitBytes_st_UTF_16LE := Fld.other W25 f17_F_unitBytes_st_UTF_16LE (Or.inl ne_st_UTF_16LE_b2)
        have f25_V_bm_UTF_16LE := Arv.other f17_V_bm_UTF_16LE W25 ne_bm_UTF_16LE_b2
        have f25_F_byteOrderMark_st_UCS_4BE := Fld.other W25 f17_F_byteOrderMark_st_UCS_4BE (Or.inl ne_st_UCS_4BE_b2)
        have f25_F_byteOrderMark_st_UCS_4LE := Fld.other W25 f17_F_byteOrderMark_st_UCS_4LE (Or.inl ne_st_UCS_4LE_b2)
        have f25_F_byteOrderMark_st_EBCDIC := Fld.other W25 f17_F_byteOrderMark_st_EBCDIC (Or.inl ne_st_EBCDIC_b2)
        have f25_Eb2 := Exa.wr W25 f17_Eb2
        have N25 := Fr.snoc X25 N17 g_b2
        have SZ25 : n0 ≤ h25.size := Nat.le_trans SZ17 (Keep.of_wr W25).1
        exact sg150 (.val (.int p0)) (.val (.int p1)) (.val (.int p2)) (.val (.int p3)) (.val (.int p4)) (.val (.int p5)) kk ln b2 (.val (.int pt)) st_UTF_8 st_UTF_16BE st_UTF_16LE st_UCS_4BE st_UCS_4LE st_EBCDIC bm_UTF_8 k_bm_UTF_8 bm_UTF_16BE k_bm_UTF_16BE bm_UTF_16LE k_bm_UTF_16LE k2 (-17 : Int32) (-69 : Int32) ((((p1.toUInt32 >>> ((8 : Int32) &&& 31).toUInt32).toInt32).toInt8.toInt32).toInt8.toInt32) ((p4.toInt8.toInt32).toInt8.toInt32) n0 X25 hx hZ hw hby hml hown hret hlk e25 N25 SZ25 f25_S_st_UTF_8 f25_S_st_UTF_16BE f25_S_st_UTF_16LE f25_S_st_UCS_4BE f25_S_st_UCS_4LE f25_S_st_EBCDIC f25_E_st_UTF_8 f25_E_st_UTF_16BE f25_E_st_UTF_16LE f25_E_st_UCS_4BE f25_E_st_UCS_4LE f25_E_st_EBCDIC f25_F_byteOrderMark_st_UTF_8 f25_F_unitBytes_st_UTF_8 f25_V_bm_UTF_8 f25_F_byteOrderMark_st_UTF_16BE f25_F_unitBytes_st_UTF_16BE f25_V_bm_UTF_16BE f25_F_byteOrderMark_st_UTF_16LE f25_F_unitBytes_st_UTF_16LE f25_V_bm_UTF_16LE f25_F_byteOrderMark_st_UCS_4BE f25_F_byteOrderMark_st_UCS_4LE f25_F_byteOrderMark_st_EBCDIC V25 h_kk
      · rw [hs19]
        refine Gz.iloadN 145 X17 hx (dd at_144) rfl rfl ?_
        refine Gz.bipush 147 (8 : Int32) X17 hx (dd at_145) rfl rfl ?_
        refine Gz.iushr 148 X17 hx (dd at_147) rfl ?_
        refine Gz.i2b 149 X17 hx (dd at_148) rfl ?_
        obtain ⟨c26, A26, q26, S26, N26, H26, G26⟩ := id V17
        have hin26 : ¬ ((3 : Int32) < 0 ∨ c26.slots.size ≤ ((3 : Int32)).toNatClampNeg) := inb_of S26 ⟨by decide, by decide⟩
        refine Gz.stB 150 X17 hx hZ (dd at_149) e17 A26 hin26 rfl fun T27 h27 X27 e27 W27 => ?_
        have V27 := Arv.set A26 q26 S26 N26 H26 G26 (fits_nar_byte _) W27 3 rfl (Nat.le_of_ble_eq_true rfl)
        replace V27 : Arv Z h27 b2 k2 .byte (4 : Int32) [(.int (-17 : Int32)), (.int (-69 : Int32)), (.int (-65 : Int32)), (.int ((((p1.toUInt32 >>> ((8 : Int32) &&& 31).toUInt32).toInt32).toInt8.toInt32).toInt8.toInt32))] (.int (0 : Int32)) := V27
        have f27_S_st_UTF_8 := Sta.wr W27 f17_S_st_UTF_8
        have f27_S_st_UTF_16BE := Sta.wr W27 f17_S_st_UTF_16BE
        have f27_S_st_UTF_16LE := Sta.wr W27 f17_S_st_UTF_16LE
        have f27_S_st_UCS_4BE := Sta.wr W27 f17_S_st_UCS_4BE
        have f27_S_st_UCS_4LE := Sta.wr W27 f17_S_st_UCS_4LE
        have f27_S_st_EBCDIC := Sta.wr W27 f17_S_st_EBCDIC
        have f27_E_st_UTF_8 := Exa.wr W27 f17_E_st_UTF_8
        have f27_E_st_UTF_16BE := Exa.wr W27 f17_E_st_UTF_16BE
        have f27_E_st_UTF_16LE := Exa.wr W27 f17_E_st_UTF_16LE
        have f27_E_st_UCS_4BE := Exa.wr W27 f17_E_st_UCS_4BE
        have f27_E_st_UCS_4LE := Exa.wr W27 f17_E_st_UCS_4LE
        have f27_E_st_EBCDIC := Exa.wr W27 f17_E_st_EBCDIC
        have f27_F_byteOrderMark_st_UTF_8 := Fld.other W27 f17_F_byteOrderMark_st_UTF_8 (Or.inl ne_st_UTF_8_b2)
        have f27_F_unitBytes_st_UTF_8 := Fld.other W27 f17_F_unitBytes_st_UTF_8 (Or.inl ne_st_UTF_8_b2)
        have f27_V_bm_UTF_8 := Arv.other f17_V_bm_UTF_8 W27 ne_bm_UTF_8_b2
        have f27_F_byteOrderMark_st_UTF_16BE := Fld.other W27 f17_F_byteOrderMark_st_UTF_16BE (Or.inl ne_st_UTF_16BE_b2)
        have f27_F_unitBytes_st_UTF_16BE := Fld.other W27 f17_F_unitBytes_st_UTF_16BE (Or.inl ne_st_UTF_16BE_b2)
        have f27_V_bm_UTF_16BE := Arv.other f17_V_bm_UTF_16BE W27 ne_bm_UTF_16BE_b2
        have f27_F_byteOrderMark_st_UTF_16LE := Fld.other W27 f17_F_byteOrderMark_st_UTF_16LE (Or.inl ne_st_UTF_16LE_b2)
        have f27_F_unitBytes_st_UTF_16LE := Fld.other W27 f17_F_unitBytes_st_UTF_16LE (Or.inl ne_st_UTF_16LE_b2)
        have f27_V_bm_UTF_16LE := Arv.other f17_V_bm_UTF_16LE W27 ne_bm_UTF_16LE_b2
        have f27_F_byteOrderMark_st_UCS_4BE := Fld.other W27 f17_F_byteOrderMark_st_UCS_4BE (Or.inl ne_st_UCS_4BE_b2)
        have f27_F_byteOrderMark_st_UCS_4LE := Fld.other W27 f17_F_byteOrderMark_st_UCS_4LE (Or.inl ne_st_UCS_4LE_b2)
        have f27_F_byteOrderMark_st_EBCDIC := Fld.other W27 f17_F_byteOrderMark_st_EBCDIC (Or.inl ne_st_EBCDIC_b2)
        have f27_Eb2 := Exa.wr W27 f17_Eb2
        have N27 := Fr.snoc X27 N17 g_b2
        have SZ27 : n0 ≤ h27.size := Nat.le_trans SZ17 (Keep.of_wr W27).1
        exact sg150 (.val (.int p0)) (.val (.int p1)) (.val (.int p2)) (.val (.int p3)) (.val (.int p4)) (.val (.int p5)) kk ln b2 (.val (.int pt)) st_UTF_8 st_UTF_16BE st_UTF_16LE st_UCS_4BE st_UCS_4LE st_EBCDIC bm_UTF_8 k_bm_UTF_8 bm_UTF_16BE k_bm_UTF_16BE bm_UTF_16LE k_bm_UTF_16LE k2 (-17 : Int32) (-69 : Int32) (-65 : Int32) ((((p1.toUInt32 >>> ((8 : Int32) &&& 31).toUInt32).toInt32).toInt8.toInt32).toInt8.toInt32) n0 X27 hx hZ hw hby hml hown hret hlk e27 N27 SZ27 f27_S_st_UTF_8 f27_S_st_UTF_16BE f27_S_st_UTF_16LE f27_S_st_UCS_4BE f27_S_st_UCS_4LE f27_S_st_EBCDIC f27_E_st_UTF_8 f27_E_st_UTF_16BE f27_E_st_UTF_16LE f27_E_st_UCS_4BE f27_E_st_UCS_4LE f27_E_st_EBCDIC f27_F_byteOrderMark_st_UTF_8 f27_F_unitBytes_st_UTF_8 f27_V_bm_UTF_8 f27_F_byteOrderMark_st_UTF_16BE f27_F_unitBytes_st_UTF_16BE f27_V_bm_UTF_16BE f27_F_byteOrderMark_st_UTF_16LE f27_F_unitBytes_st_UTF_16LE f27_V_bm_UTF_16LE f27_F_byteOrderMark_st_UCS_4BE f27_F_byteOrderMark_st_UCS_4LE f27_F_byteOrderMark_st_EBCDIC V27 h_kk
  · refine Gz.ifYes 89 X10 hx (dd at_65) ((if0 _ _).trans (feq hc11).2) (by decide) (by decide) ?_
    refine Gz.iload 91 X10 hx (dd at_89) rfl rfl ?_
    refine Gz.iconst 92 (1 : Int32) X10 hx (dd at_91) rfl rfl ?_
    by_cases hc28 : pt = (1 : Int32)
    · refine Gz.icmpNo 95 X10 hx (dd at_92) (teq hc28).2 rfl ?_
      refine Gz.aload 97 X10 hx (dd at_95) rfl rfl rfl ?_
      refine Gz.iconst 98 (0 : Int32) X10 hx (dd at_97) rfl rfl ?_
      refine Gz.bipush 100 (-2 : Int32) X10 hx (dd at_98) rfl rfl ?_
      obtain ⟨c29, A29, q29, S29, N29, H29, G29⟩ := id V10
      have hin29 : ¬ ((0 : Int32) < 0 ∨ c29.slots.size ≤ ((0 : Int32)).toNatClampNeg) := inb_of S29 ⟨by decide, by decide⟩
      refine Gz.stB 101 X10 hx hZ (dd at_100) e10 A29 hin29 rfl fun T30 h30 X30 e30 W30 => ?_
      have V30 := Arv.set A29 q29 S29 N29 H29 G29 (fits_nar_byte _) W30 0 rfl (Nat.le_of_ble_eq_true rfl)
      replace V30 : Arv Z h30 b2 k2 .byte (4 : Int32) [(.int (-2 : Int32)), (.int ((p2.toInt8.toInt32).toInt8.toInt32)), (.int ((p3.toInt8.toInt32).toInt8.toInt32)), (.int ((p4.toInt8.toInt32).toInt8.toInt32))] (.int (0 : Int32)) := V30
      have f30_S_st_UTF_8 := Sta.wr W30 f10_S_st_UTF_8
      have f30_S_st_UTF_16BE := Sta.wr W30 f10_S_st_UTF_16BE
      have f30_S_st_UTF_16LE := Sta.wr W30 f10_S_st_UTF_16LE
      have f30_S_st_UCS_4BE := Sta.wr W30 f10_S_st_UCS_4BE
      have f30_S_st_UCS_4LE := Sta.wr W30 f10_S_st_UCS_4LE
      have f30_S_st_EBCDIC := Sta.wr W30 f10_S_st_EBCDIC
      have f30_E_st_UTF_8 := Exa.wr W30 f10_E_st_UTF_8
      have f30_E_st_UTF_16BE := Exa.wr W30 f10_E_st_UTF_16BE
      have f30_E_st_UTF_16LE := Exa.wr W30 f10_E_st_UTF_16LE
      have f30_E_st_UCS_4BE := Exa.wr W30 f10_E_st_UCS_4BE
      have f30_E_st_UCS_4LE := Exa.wr W30 f10_E_st_UCS_4LE
      have f30_E_st_EBCDIC := Exa.wr W30 f10_E_st_EBCDIC
      have f30_F_byteOrderMark_st_UTF_8 := Fld.other W30 f10_F_byteOrderMark_st_UTF_8 (Or.inl ne_st_UTF_8_b2)
      have f30_F_unitBytes_st_UTF_8 := Fld.other W30 f10_F_unitBytes_st_UTF_8 (Or.inl ne_st_UTF_8_b2)
      have f30_V_bm_UTF_8 := Arv.other f10_V_bm_UTF_8 W30 ne_bm_UTF_8_b2
      have f30_F_byteOrderMark_st_UTF_16BE := Fld.other W30 f10_F_byteOrderMark_st_UTF_16BE (Or.inl ne_st_UTF_16BE_b2)
      have f30_F_unitBytes_st_UTF_16BE := Fld.other W30 f10_F_unitBytes_st_UTF_16BE (Or.inl ne_st_UTF_16BE_b2)
      have f30_V_bm_UTF_16BE := Arv.other f10_V_bm_UTF_16BE W30 ne_bm_UTF_16BE_b2
      have f30_F_byteOrderMark_st_UTF_16LE := Fld.other W30 f10_F_byteOrderMark_st_UTF_16LE (Or.inl ne_st_UTF_16LE_b2)
      have f30_F_unitBytes_st_UTF_16LE := Fld.other W30 f10_F_unitBytes_st_UTF_16LE (Or.inl ne_st_UTF_16LE_b2)
      have f30_V_bm_UTF_16LE := Arv.other f10_V_bm_UTF_16LE W30 ne_bm_UTF_16LE_b2
      have f30_F_byteOrderMark_st_UCS_4BE := Fld.other W30 f10_F_byteOrderMark_st_UCS_4BE (Or.inl ne_st_UCS_4BE_b2)
      have f30_F_byteOrderMark_st_UCS_4LE := Fld.other W30 f10_F_byteOrderMark_st_UCS_4LE (Or.inl ne_st_UCS_4LE_b2)
      have f30_F_byteOrderMark_st_EBCDIC := Fld.other W30 f10_F_byteOrderMark_st_EBCDIC (Or.inl ne_st_EBCDIC_b2)
      have f30_Eb2 := Exa.wr W30 f10_Eb2
      have N30 := Fr.snoc X30 N10 g_b2
      have SZ30 : n0 ≤ h30.size := Nat.le_trans SZ10 (Keep.of_wr W30).1
      refine Gz.aload 103 X30 hx (dd at_101) rfl rfl rfl ?_
      refine Gz.iconst 104 (1 : Int32) X30 hx (dd at_103) rfl rfl ?_
      refine Gz.iconst 105 (-1 : Int32) X30 hx (dd at_104) rfl rfl ?_
      obtain ⟨c31, A31, q31, S31, N31, H31, G31⟩ := id V30
      have hin31 : ¬ ((1 : Int32) < 0 ∨ c31.slots.size ≤ ((1 : Int32)).toNatClampNeg) := inb_of S31 ⟨by decide, by decide⟩
      refine Gz.stB 106 X30 hx hZ (dd at_105) e30 A31 hin31 rfl fun T32 h32 X32 e32 W32 => ?_
      have V32 := Arv.set A31 q31 S31 N31 H31 G31 (fits_nar_byte _) W32 1 rfl (Nat.le_of_ble_eq_true rfl)
      replace V32 : Arv Z h32 b2 k2 .byte (4 : Int32) [(.int (-2 : Int32)), (.int (-1 : Int32)), (.int ((p3.toInt8.toInt32).toInt8.toInt32)), (.int ((p4.toInt8.toInt32).toInt8.toInt32))] (.int (0 : Int32)) := V32
      have f32_S_st_UTF_8 := Sta.wr W32 f30_S_st_UTF_8
      have f32_S_st_UTF_16BE := Sta.wr W32 f30_S_st_UTF_16BE
      have f32_S_st_UTF_16LE := Sta.wr W32 f30_S_st_UTF_16LE
      have f32_S_st_UCS_4BE := Sta.wr W32 f30_S_st_UCS_4BE
      have f32_S_st_UCS_4LE := Sta.wr W32 f30_S_st_UCS_4LE
      have f32_S_st_EBCDIC := Sta.wr W32 f30_S_st_EBCDIC
      have f32_E_st_UTF_8 := Exa.wr W32 f30_E_st_UTF_8
      have f32_E_st_UTF_16BE := Exa.wr W32 f30_E_st_UTF_16BE
      have f32_E_st_UTF_16LE := Exa.wr W32 f30_E_st_UTF_16LE
      have f32_E_st_UCS_4BE := Exa.wr W32 f30_E_st_UCS_4BE
      have f32_E_st_UCS_4LE := Exa.wr W32 f30_E_st_UCS_4LE
      have f32_E_st_EBCDIC := Exa.wr W32 f30_E_st_EBCDIC
      have f32_F_byteOrderMark_st_UTF_8 := Fld.other W32 f30_F_byteOrderMark_st_UTF_8 (Or.inl ne_st_UTF_8_b2)
      have f32_F_unitBytes_st_UTF_8 := Fld.other W32 f30_F_unitBytes_st_UTF_8 (Or.inl ne_st_UTF_8_b2)
      have f32_V_bm_UTF_8 := Arv.other f30_V_bm_UTF_8 W32 ne_bm_UTF_8_b2
      have f32_F_byteOrderMark_st_UTF_16BE := Fld.other W32 f30_F_byteOrderMark_st_UTF_16BE (Or.inl ne_st_UTF_16BE_b2)
      have f32_F_unitBytes_st_UTF_16BE := Fld.other W32 f30_F_unitBytes_st_UTF_16BE (Or.inl ne_st_UTF_16BE_b2)
      have f32_V_bm_UTF_16BE := Arv.other f30_V_bm_UTF_16BE W32 ne_bm_UTF_16BE_b2
      have f32_F_byteOrderMark_st_UTF_16LE := Fld.other W32 f30_F_byteOrderMark_st_UTF_16LE (Or.inl ne_st_UTF_16LE_b2)
      have f32_F_unitBytes_st_UTF_16LE := Fld.other W32 f30_F_unitBytes_st_UTF_16LE (Or.inl ne_st_UTF_16LE_b2)
      have f32_V_bm_UTF_16LE := Arv.other f30_V_bm_UTF_16LE W32 ne_bm_UTF_16LE_b2
      have f32_F_byteOrderMark_st_UCS_4BE := Fld.other W32 f30_F_byteOrderMark_st_UCS_4BE (Or.inl ne_st_UCS_4BE_b2)
      have f32_F_byteOrderMark_st_UCS_4LE := Fld.other W32 f30_F_byteOrderMark_st_UCS_4LE (Or.inl ne_st_UCS_4LE_b2)
      have f32_F_byteOrderMark_st_EBCDIC := Fld.other W32 f30_F_byteOrderMark_st_EBCDIC (Or.inl ne_st_EBCDIC_b2)
      have f32_Eb2 := Exa.wr W32 f30_Eb2
      have N32 := Fr.snoc X32 N30 g_b2
      have SZ32 : n0 ≤ h32.size := Nat.le_trans SZ30 (Keep.of_wr W32).1
      refine Gz.goto 126 X32 hx (dd at_106) (by decide) (by decide) ?_
      refine Gz.iload 128 X32 hx (dd at_126) rfl rfl ?_
      refine Gz.iconst 129 (5 : Int32) X32 hx (dd at_128) rfl rfl ?_
      refine Gz.iushr 130 X32 hx (dd at_129) rfl ?_
      refine Gz.iconst 131 (1 : Int32) X32 hx (dd at_130) rfl rfl ?_
      refine Gz.iand 132 X32 hx (dd at_131) rfl ?_
      by_cases hc33 : (((p5.toUInt32 >>> ((5 : Int32) &&& 31).toUInt32).toInt32) &&& (1 : Int32)) = (0 : Int32)
      · refine Gz.ifYes 150 X32 hx (dd at_132) ((if0 _ _).trans (teq hc33).1) (by decide) (by decide) ?_
        exact sg150 (.val (.int p0)) (.val (.int p1)) (.val (.int p2)) (.val (.int p3)) (.val (.int p4)) (.val (.int p5)) kk ln b2 (.val (.int pt)) st_UTF_8 st_UTF_16BE st_UTF_16LE st_UCS_4BE st_UCS_4LE st_EBCDIC bm_UTF_8 k_bm_UTF_8 bm_UTF_16BE k_bm_UTF_16BE bm_UTF_16LE k_bm_UTF_16LE k2 (-2 : Int32) (-1 : Int32) ((p3.toInt8.toInt32).toInt8.toInt32) ((p4.toInt8.toInt32).toInt8.toInt32) n0 X32 hx hZ hw hby hml hown hret hlk e32 N32 SZ32 f32_S_st_UTF_8 f32_S_st_UTF_16BE f32_S_st_UTF_16LE f32_S_st_UCS_4BE f32_S_st_UCS_4LE f32_S_st_EBCDIC f32_E_st_UTF_8 f32_E_st_UTF_16BE f32_E_st_UTF_16LE f32_E_st_UCS_4BE f32_E_st_UCS_4LE f32_E_st_EBCDIC f32_F_byteOrderMark_st_UTF_8 f32_F_unitBytes_st_UTF_8 f32_V_bm_UTF_8 f32_F_byteOrderMark_st_UTF_16BE f32_F_unitBytes_st_UTF_16BE f32_V_bm_UTF_16BE f32_F_byteOrderMark_st_UTF_16LE f32_F_unitBytes_st_UTF_16LE f32_V_bm_UTF_16LE f32_F_byteOrderMark_st_UCS_4BE f32_F_byteOrderMark_st_UCS_4LE f32_F_byteOrderMark_st_EBCDIC V32 h_kk
      · refine Gz.ifNo 135 X32 hx (dd at_132) ((if0 _ _).trans (feq hc33).1) rfl ?_
        refine Gz.aload 137 X32 hx (dd at_135) rfl rfl rfl ?_
        refine Gz.iload 139 X32 hx (dd at_137) rfl rfl ?_
        refine Gz.bipush 141 (6 : Int32) X32 hx (dd at_139) rfl rfl ?_
        refine Gz.iushr 142 X32 hx (dd at_141) rfl ?_
        refine Gz.iconst 143 (3 : Int32) X32 hx (dd at_142) rfl rfl ?_
        refine Gz.iand 144 X32 hx (dd at_143) rfl ?_
        show Gz p e below s _ _ _ (T32.setTop (mkF m 144 #[.val (.int p0), .val (.int p1), .val (.int p2), .val (.int p3), .val (.int p4), .val (.int p5), .val (.int kk), .val (.ref (fPick kk st_UTF_8 st_UTF_16BE st_UTF_16LE st_UCS_4BE st_UCS_4LE st_EBCDIC)), .val (.int ln), .val (.ref b2), .val (.int pt), .unset] [(.int (((p5.toUInt32 >>> ((6 : Int32) &&& 31).toUInt32).toInt32) &&& (3 : Int32))), (.ref b2)]))
        rcases own_and3 _ with hs34 | hs34 | hs34 | hs34
        · rw [hs34]
          refine Gz.iloadN 145 X32 hx (dd at_144) rfl rfl ?_
          refine Gz.bipush 147 (8 : Int32) X32 hx (dd at_145) rfl rfl ?_
          refine Gz.iushr 148 X32 hx (dd at_147) rfl ?_
          refine Gz.i2b 149 X32 hx (dd at_148) rfl ?_
          obtain ⟨c35, A35, q35, S35, N35, H35, G35⟩ := id V32
          have hin35 : ¬ ((0 : Int32) < 0 ∨ c35.slots.size ≤ ((0 : Int32)).toNatClampNeg) := inb_of S35 ⟨by decide, by decide⟩
          refine Gz.stB 150 X32 hx hZ (dd at_149) e32 A35 hin35 rfl fun T36 h36 X36 e36 W36 => ?_
          have V36 := Arv.set A35 q35 S35 N35 H35 G35 (fits_nar_byte _) W36 0 rfl (Nat.le_of_ble_eq_true rfl)
          replace V36 : Arv Z h36 b2 k2 .byte (4 : Int32) [(.int ((((p1.toUInt32 >>> ((8 : Int32) &&& 31).toUInt32).toInt32).toInt8.toInt32).toInt8.toInt32)), (.int (-1 : Int32)), (.int ((p3.toInt8.toInt32).toInt8.toInt32)), (.int ((p4.toInt8.toInt32).toInt8.toInt32))] (.int (0 : Int32)) := V36
          have f36_S_st_UTF_8 := Sta.wr W36 f32_S_st_UTF_8
          have f36_S_st_UTF_16BE := Sta.wr W36 f32_S_st_UTF_16BE
          have f36_S_st_UTF_16LE := Sta.wr W36 f32_S_st_UTF_16LE
          have f36_S_st_UCS_4BE := Sta.wr W36 f32_S_st_UCS_4BE
          have f36_S_st_UCS_4LE := Sta.wr W36 f32_S_st_UCS_4LE
          have f36_S_st_EBCDIC := Sta.wr W36 f32_S_st_EBCDIC
          have f36_E_st_UTF_8 := Exa.wr W36 f32_E_st_UTF_8
          have f36_E_st_UTF_16BE := Exa.wr W36 f32_E_st_UTF_16BE
          have f36_E_st_UTF_16LE := Exa.wr W36 f32_E_st_UTF_16LE
          have f36_E_st_UCS_4BE := Exa.wr W36 f32_E_st_UCS_4BE
          have f36_E_st_UCS_4LE := Exa.wr W36 f32_E_st_UCS_4LE
          have f36_E_st_EBCDIC := Exa.wr W36 f32_E_st_EBCDIC
          have f36_F_byteOrderMark_st_UTF_8 := Fld.other W36 f32_F_byteOrderMark_st_UTF_8 (Or.inl ne_st_UTF_8_b2)
          have f36_F_unitBytes_st_UTF_8 := Fld.other W36 f32_F_unitBytes_st_UTF_8 (Or.inl ne_st_UTF_8_b2)
          have f36_V_bm_UTF_8 := Arv.other f32_V_bm_UTF_8 W36 ne_bm_UTF_8_b2
          have f36_F_byteOrderMark_st_UTF_16BE := Fld.other W36 f32_F_byteOrderMark_st_UTF_16BE (Or.inl ne_st_UTF_16BE_b2)
          have f36_F_unitBytes_st_UTF_16BE := Fld.other W36 f32_F_unitBytes_st_UTF_16BE (Or.inl ne_st_UTF_16BE_b2)
          have f36_V_bm_UTF_16BE := Arv.other f32_V_bm_UTF_16BE W36 ne_bm_UTF_16BE_b2
          have f36_F_byteOrderMark_st_UTF_16LE := Fld.other W36 f32_F_byteOrderMark_st_UTF_16LE (Or.inl ne_st_UTF_16LE_b2)
          have f36_F_unitBytes_st_UTF_16LE := Fld.other W36 f32_F_unitBytes_st_UTF_16LE (Or.inl ne_st_UTF_16LE_b2)
          have f36_V_bm_UTF_16LE := Arv.other f32_V_bm_UTF_16LE W36 ne_bm_UTF_16LE_b2
          have f36_F_byteOrderMark_st_UCS_4BE := Fld.other W36 f32_F_byteOrderMark_st_UCS_4BE (Or.inl ne_st_UCS_4BE_b2)
          have f36_F_byteOrderMark_st_UCS_4LE := Fld.other W36 f32_F_byteOrderMark_st_UCS_4LE (Or.inl ne_st_UCS_4LE_b2)
          have f36_F_byteOrderMark_st_EBCDIC := Fld.other W36 f32_F_byteOrderMark_st_EBCDIC (Or.inl ne_st_EBCDIC_b2)
          have f36_Eb2 := Exa.wr W36 f32_Eb2
          have N36 := Fr.snoc X36 N32 g_b2
          have SZ36 : n0 ≤ h36.size := Nat.le_trans SZ32 (Keep.of_wr W36).1
          exact sg150 (.val (.int p0)) (.val (.int p1)) (.val (.int p2)) (.val (.int p3)) (.val (.int p4)) (.val (.int p5)) kk ln b2 (.val (.int pt)) st_UTF_8 st_UTF_16BE st_UTF_16LE st_UCS_4BE st_UCS_4LE st_EBCDIC bm_UTF_8 k_bm_UTF_8 bm_UTF_16BE k_bm_UTF_16BE bm_UTF_16LE k_bm_UTF_16LE k2 ((((p1.toUInt32 >>> ((8 : Int32) &&& 31).toUInt32).toInt32).toInt8.toInt32).toInt8.toInt32) (-1 : Int32) ((p3.toInt8.toInt32).toInt8.toInt32) ((p4.toInt8.toInt32).toInt8.toInt32) n0 X36 hx hZ hw hby hml hown hret hlk e36 N36 SZ36 f36_S_st_UTF_8 f36_S_st_UTF_16BE f36_S_st_UTF_16LE f36_S_st_UCS_4BE f36_S_st_UCS_4LE f36_S_st_EBCDIC f36_E_st_UTF_8 f36_E_st_UTF_16BE f36_E_st_UTF_16LE f36_E_st_UCS_4BE f36_E_st_UCS_4LE f36_E_st_EBCDIC f36_F_byteOrderMark_st_UTF_8 f36_F_unitBytes_st_UTF_8 f36_V_bm_UTF_8 f36_F_byteOrderMark_st_UTF_16BE f36_F_unitBytes_st_UTF_16BE f36_V_bm_UTF_16BE f36_F_byteOrderMark_st_UTF_16LE f36_F_unitBytes_st_UTF_16LE f36_V_bm_UTF_16LE f36_F_byteOrderMark_st_UCS_4BE f36_F_byteOrderMark_st_UCS_4LE f36_F_byteOrderMark_st_EBCDIC V36 h_kk
        · rw [hs34]
          refine Gz.iloadN 145 X32 hx (dd at_144) rfl rfl ?_
          refine Gz.bipush 147 (8 : Int32) X32 hx (dd at_145) rfl rfl ?_
          refine Gz.iushr 148 X32 hx (dd at_147) rfl ?_
          refine Gz.i2b 149 X32 hx (dd at_148) rfl ?_
          obtain ⟨c37, A37, q37, S37, N37, H37, G37⟩ := id V32
          have hin37 : ¬ ((1 : Int32) < 0 ∨ c37.slots.size ≤ ((1 : Int32)).toNatClampNeg) := inb_of S37 ⟨by decide, by decide⟩
          refine Gz.stB 150 X32 hx hZ (dd at_149) e32 A37 hin37 rfl fun T38 h38 X38 e38 W38 => ?_
          have V38 := Arv.set A37 q37 S37 N37 H37 G37 (fits_nar_byte _) W38 1 rfl (Nat.le_of_ble_eq_true rfl)
          replace V38 : Arv Z h38 b2 k2 .byte (4 : Int32) [(.int (-2 : Int32)), (.int ((((p1.toUInt32 >>> ((8 : Int32) &&& 31).toUInt32).toInt32).toInt8.toInt32).toInt8.toInt32)), (.int ((p3.toInt8.toInt32).toInt8.toInt32)), (.int ((p4.toInt8.toInt32).toInt8.toInt32))] (.int (0 : Int32)) := V38
          have f38_S_st_UTF_8 := Sta.wr W38 f32_S_st_UTF_8
          have f38_S_st_UTF_16BE := Sta.wr W38 f32_S_st_UTF_16BE
          have f38_S_st_UTF_16LE := Sta.wr W38 f32_S_st_UTF_16LE
          have f38_S_st_UCS_4BE := Sta.wr W38 f32_S_st_UCS_4BE
          have f38_S_st_UCS_4LE := Sta.wr W38 f32_S_st_UCS_4LE
          have f38_S_st_EBCDIC := Sta.wr W38 f32_S_st_EBCDIC
          have f38_E_st_UTF_8 := Exa.wr W38 f32_E_st_UTF_8
          have f38_E_st_UTF_16BE := Exa.wr W38 f32_E_st_UTF_16BE
          have f38_E_st_UTF_16LE := Exa.wr W38 f32_E_st_UTF_16LE
          have f38_E_st_UCS_4BE := Exa.wr W38 f32_E_st_UCS_4BE
          have f38_E_st_UCS_4LE := Exa.wr W38 f32_E_st_UCS_4LE
          have f38_E_st_EBCDIC := Exa.wr W38 f32_E_st_EBCDIC
          have f38_F_byteOrderMark_st_UTF_8 := Fld.other W38 f32_F_byteOrderMark_st_UTF_8 (Or.inl ne_st_UTF_8_b2)
          have f38_F_unitBytes_st_UTF_8 := Fld.other W38 f32_F_unitBytes_st_UTF_8 (Or.inl ne_st_UTF_8_b2)
          have f38_V_bm_UTF_8 := Arv.other f32_V_bm_UTF_8 W38 ne_bm_UTF_8_b2
          have f38_F_byteOrderMark_st_UTF_16BE := Fld.other W38 f32_F_byteOrderMark_st_UTF_16BE (Or.inl ne_st_UTF_16BE_b2)
          have f38_F_unitBytes_st_UTF_16BE := Fld.other W38 f32_F_unitBytes_st_UTF_16BE (Or.inl ne_st_UTF_16BE_b2)
          have f38_V_bm_UTF_16BE := Arv.other f32_V_bm_UTF_16BE W38 ne_bm_UTF_16BE_b2
          have f38_F_byteOrderMark_st_UTF_16LE := Fld.other W38 f32_F_byteOrderMark_st_UTF_16LE (Or.inl ne_st_UTF_16LE_b2)
          have f38_F_unitBytes_st_UTF_16LE := Fld.other W38 f32_F_unitBytes_st_UTF_16LE (Or.inl ne_st_UTF_16LE_b2)
          have f38_V_bm_UTF_16LE := Arv.other f32_V_bm_UTF_16LE W38 ne_bm_UTF_16LE_b2
          have f38_F_byteOrderMark_st_UCS_4BE := Fld.other W38 f32_F_byteOrderMark_st_UCS_4BE (Or.inl ne_st_UCS_4BE_b2)
          have f38_F_byteOrderMark_st_UCS_4LE := Fld.other W38 f32_F_byteOrderMark_st_UCS_4LE (Or.inl ne_st_UCS_4LE_b2)
          have f38_F_byteOrderMark_st_EBCDIC := Fld.other W38 f32_F_byteOrderMark_st_EBCDIC (Or.inl ne_st_EBCDIC_b2)
          have f38_Eb2 := Exa.wr W38 f32_Eb2
          have N38 := Fr.snoc X38 N32 g_b2
          have SZ38 : n0 ≤ h38.size := Nat.le_trans SZ32 (Keep.of_wr W38).1
          exact sg150 (.val (.int p0)) (.val (.int p1)) (.val (.int p2)) (.val (.int p3)) (.val (.int p4)) (.val (.int p5)) kk ln b2 (.val (.int pt)) st_UTF_8 st_UTF_16BE st_UTF_16LE st_UCS_4BE st_UCS_4LE st_EBCDIC bm_UTF_8 k_bm_UTF_8 bm_UTF_16BE k_bm_UTF_16BE bm_UTF_16LE k_bm_UTF_16LE k2 (-2 : Int32) ((((p1.toUInt32 >>> ((8 : Int32) &&& 31).toUInt32).toInt32).toInt8.toInt32).toInt8.toInt32) ((p3.toInt8.toInt32).toInt8.toInt32) ((p4.toInt8.toInt32).toInt8.toInt32) n0 X38 hx hZ hw hby hml hown hret hlk e38 N38 SZ38 f38_S_st_UTF_8 f38_S_st_UTF_16BE f38_S_st_UTF_16LE f38_S_st_UCS_4BE f38_S_st_UCS_4LE f38_S_st_EBCDIC f38_E_st_UTF_8 f38_E_st_UTF_16BE f38_E_st_UTF_16LE f38_E_st_UCS_4BE f38_E_st_UCS_4LE f38_E_st_EBCDIC f38_F_byteOrderMark_st_UTF_8 f38_F_unitBytes_st_UTF_8 f38_V_bm_UTF_8 f38_F_byteOrderMark_st_UTF_16BE f38_F_unitBytes_st_UTF_16BE f38_V_bm_UTF_16BE f38_F_byteOrderMark_st_UTF_16LE f38_F_unitBytes_st_UTF_16LE f38_V_bm_UTF_16LE f38_F_byteOrderMark_st_UCS_4BE f38_F_byteOrderMark_st_UCS_4LE f38_F_byteOrderMark_st_EBCDIC V38 h_kk
        · rw [hs34]
          refine Gz.iloadN 145 X32 hx (dd at_144) rfl rfl ?_
          refine Gz.bipush 147 (8 : Int32) X32 hx (dd at_145) rfl rfl ?_
          refine Gz.iushr 148 X32 hx (dd at_147) rfl ?_
          refine Gz.i2b 149 X32 hx (dd at_148) rfl ?_
          obtain ⟨c39, A39, q39, S39, N39, H39, G39⟩ := id V32
          have hin39 : ¬ ((2 : Int32) < 0 ∨ c39.slots.size ≤ ((2 : Int32)).toNatClampNeg) := inb_of S39 ⟨by decide, by decide⟩
          refine Gz.stB 150 X32 hx hZ (dd at_149) e32 A39 hin39 rfl fun T40 h40 X40 e40 W40 => ?_
          have V40 := Arv.set A39 q39 S39 N39 H39 G39 (fits_nar_byte _) W40 2 rfl (Nat.le_of_ble_eq_true rfl)
          replace V40 : Arv Z h40 b2 k2 .byte (4 : Int32) [(.int (-2 : Int32)), (.int (-1 : Int32)), (.int ((((p1.toUInt32 >>> ((8 : Int32) &&& 31).toUInt32).toInt32).toInt8.toInt32).toInt8.toInt32)), (.int ((p4.toInt8.toInt32).toInt8.toInt32))] (.int (0 : Int32)) := V40
          have f40_S_st_UTF_8 := Sta.wr W40 f32_S_st_UTF_8
          have f40_S_st_UTF_16BE := Sta.wr W40 f32_S_st_UTF_16BE
          have f40_S_st_UTF_16LE := Sta.wr W40 f32_S_st_UTF_16LE
          have f40_S_st_UCS_4BE := Sta.wr W40 f32_S_st_UCS_4BE
          have f40_S_st_UCS_4LE := Sta.wr W40 f32_S_st_UCS_4LE
          have f40_S_st_EBCDIC := Sta.wr W40 f32_S_st_EBCDIC
          have f40_E_st_UTF_8 := Exa.wr W40 f32_E_st_UTF_8
          have f40_E_st_UTF_16BE := Exa.wr W40 f32_E_st_UTF_16BE
          have f40_E_st_UTF_16LE := Exa.wr W40 f32_E_st_UTF_16LE
          have f40_E_st_UCS_4BE := Exa.wr W40 f32_E_st_UCS_4BE
          have f40_E_st_UCS_4LE := Exa.wr W40 f32_E_st_UCS_4LE
          have f40_E_st_EBCDIC := Exa.wr W40 f32_E_st_EBCDIC
          have f40_F_byteOrderMark_st_UTF_8 := Fld.other W40 f32_F_byteOrderMark_st_UTF_8 (Or.inl ne_st_UTF_8_b2)
          have f40_F_unitBytes_st_UTF_8 := Fld.other W40 f32_F_unitBytes_st_UTF_8 (Or.inl ne_st_UTF_8_b2)
          have f40_V_bm_UTF_8 := Arv.other f32_V_bm_UTF_8 W40 ne_bm_UTF_8_b2
          have f40_F_byteOrderMark_st_UTF_16BE := Fld.other W40 f32_F_byteOrderMark_st_UTF_16BE (Or.inl ne_st_UTF_16BE_b2)
          have f40_F_unitBytes_st_UTF_16BE := Fld.other W40 f32_F_unitBytes_st_UTF_16BE (Or.inl ne_st_UTF_16BE_b2)
          have f40_V_bm_UTF_16BE := Arv.other f32_V_bm_UTF_16BE W40 ne_bm_UTF_16BE_b2
          have f40_F_byteOrderMark_st_UTF_16LE := Fld.other W40 f32_F_byteOrderMark_st_UTF_16LE (Or.inl ne_st_UTF_16LE_b2)
          have f40_F_unitBytes_st_UTF_16LE := Fld.other W40 f32_F_unitBytes_st_UTF_16LE (Or.inl ne_st_UTF_16LE_b2)
          have f40_V_bm_UTF_16LE := Arv.other f32_V_bm_UTF_16LE W40 ne_bm_UTF_16LE_b2
          have f40_F_byteOrderMark_st_UCS_4BE := Fld.other W40 f32_F_byteOrderMark_st_UCS_4BE (Or.inl ne_st_UCS_4BE_b2)
          have f40_F_byteOrderMark_st_UCS_4LE := Fld.other W40 f32_F_byteOrderMark_st_UCS_4LE (Or.inl ne_st_UCS_4LE_b2)
          have f40_F_byteOrderMark_st_EBCDIC := Fld.other W40 f32_F_byteOrderMark_st_EBCDIC (Or.inl ne_st_EBCDIC_b2)
          have f40_Eb2 := Exa.wr W40 f32_Eb2
          have N40 := Fr.snoc X40 N32 g_b2
          have SZ40 : n0 ≤ h40.size := Nat.le_trans SZ32 (Keep.of_wr W40).1
          exact sg150 (.val (.int p0)) (.val (.int p1)) (.val (.int p2)) (.val (.int p3)) (.val (.int p4)) (.val (.int p5)) kk ln b2 (.val (.int pt)) st_UTF_8 st_UTF_16BE st_UTF_16LE st_UCS_4BE st_UCS_4LE st_EBCDIC bm_UTF_8 k_bm_UTF_8 bm_UTF_16BE k_bm_UTF_16BE bm_UTF_16LE k_bm_UTF_16LE k2 (-2 : Int32) (-1 : Int32) ((((p1.toUInt32 >>> ((8 : Int32) &&& 31).toUInt32).toInt32).toInt8.toInt32).toInt8.toInt32) ((p4.toInt8.toInt32).toInt8.toInt32) n0 X40 hx hZ hw hby hml hown hret hlk e40 N40 SZ40 f40_S_st_UTF_8 f40_S_st_UTF_16BE f40_S_st_UTF_16LE f40_S_st_UCS_4BE f40_S_st_UCS_4LE f40_S_st_EBCDIC f40_E_st_UTF_8 f40_E_st_UTF_16BE f40_E_st_UTF_16LE f40_E_st_UCS_4BE f40_E_st_UCS_4LE f40_E_st_EBCDIC f40_F_byteOrderMark_st_UTF_8 f40_F_unitBytes_st_UTF_8 f40_V_bm_UTF_8 f40_F_byteOrderMark_st_UTF_16BE f40_F_unitBytes_st_UTF_16BE f40_V_bm_UTF_16BE f40_F_byteOrderMark_st_UTF_16LE f40_F_unitBytes_st_UTF_16LE f40_V_bm_UTF_16LE f40_F_byteOrderMark_st_UCS_4BE f40_F_byteOrderMark_st_UCS_4LE f40_F_byteOrderMark_st_EBCDIC V40 h_kk
        · rw [hs34]
          refine Gz.iloadN 145 X32 hx (dd at_144) rfl rfl ?_
          refine Gz.bipush 147 (8 : Int32) X32 hx (dd at_145) rfl rfl ?_
          refine Gz.iushr 148 X32 hx (dd at_147) rfl ?_
          refine Gz.i2b 149 X32 hx (dd at_148) rfl ?_
          obtain ⟨c41, A41, q41, S41, N41, H41, G41⟩ := id V32
          have hin41 : ¬ ((3 : Int32) < 0 ∨ c41.slots.size ≤ ((3 : Int32)).toNatClampNeg) := inb_of S41 ⟨by decide, by decide⟩
          refine Gz.stB 150 X32 hx hZ (dd at_149) e32 A41 hin41 rfl fun T42 h42 X42 e42 W42 => ?_
          have V42 := Arv.set A41 q41 S41 N41 H41 G41 (fits_nar_byte _) W42 3 rfl (Nat.le_of_ble_eq_true rfl)
          replace V42 : Arv Z h42 b2 k2 .byte (4 : Int32) [(.int (-2 : Int32)), (.int (-1 : Int32)), (.int ((p3.toInt8.toInt32).toInt8.toInt32)), (.int ((((p1.toUInt32 >>> ((8 : Int32) &&& 31).toUInt32).toInt32).toInt8.toInt32).toInt8.toInt32))] (.int (0 : Int32)) := V42
          have f42_S_st_UTF_8 := Sta.wr W42 f32_S_st_UTF_8
          have f42_S_st_UTF_16BE := Sta.wr W42 f32_S_st_UTF_16BE
          have f42_S_st_UTF_16LE := Sta.wr W42 f32_S_st_UTF_16LE
          have f42_S_st_UCS_4BE := Sta.wr W42 f32_S_st_UCS_4BE
          have f42_S_st_UCS_4LE := Sta.wr W42 f32_S_st_UCS_4LE
          have f42_S_st_EBCDIC := Sta.wr W42 f32_S_st_EBCDIC
          have f42_E_st_UTF_8 := Exa.wr W42 f32_E_st_UTF_8
          have f42_E_st_UTF_16BE := Exa.wr W42 f32_E_st_UTF_16BE
          have f42_E_st_UTF_16LE := Exa.wr W42 f32_E_st_UTF_16LE
          have f42_E_st_UCS_4BE := Exa.wr W42 f32_E_st_UCS_4BE
          have f42_E_st_UCS_4LE := Exa.wr W42 f32_E_st_UCS_4LE
          have f42_E_st_EBCDIC := Exa.wr W42 f32_E_st_EBCDIC
          have f42_F_byteOrderMark_st_UTF_8 := Fld.other W42 f32_F_byteOrderMark_st_UTF_8 (Or.inl ne_st_UTF_8_b2)
          have f42_F_unitBytes_st_UTF_8 := Fld.other W42 f32_F_unitBytes_st_UTF_8 (Or.inl ne_st_UTF_8_b2)
          have f42_V_bm_UTF_8 := Arv.other f32_V_bm_UTF_8 W42 ne_bm_UTF_8_b2
          have f42_F_byteOrderMark_st_UTF_16BE := Fld.other W42 f32_F_byteOrderMark_st_UTF_16BE (Or.inl ne_st_UTF_16BE_b2)
          have f42_F_unitBytes_st_UTF_16BE := Fld.other W42 f32_F_unitBytes_st_UTF_16BE (Or.inl ne_st_UTF_16BE_b2)
          have f42_V_bm_UTF_16BE := Arv.other f32_V_bm_UTF_16BE W42 ne_bm_UTF_16BE_b2
          have f42_F_byteOrderMark_st_UTF_16LE := Fld.other W42 f32_F_byteOrderMark_st_UTF_16LE (Or.inl ne_st_UTF_16LE_b2)
          have f42_F_unitBytes_st_UTF_16LE := Fld.other W42 f32_F_unitBytes_st_UTF_16LE (Or.inl ne_st_UTF_16LE_b2)
          have f42_V_bm_UTF_16LE := Arv.other f32_V_bm_UTF_16LE W42 ne_bm_UTF_16LE_b2
          have f42_F_byteOrderMark_st_UCS_4BE := Fld.other W42 f32_F_byteOrderMark_st_UCS_4BE (Or.inl ne_st_UCS_4BE_b2)
          have f42_F_byteOrderMark_st_UCS_4LE := Fld.other W42 f32_F_byteOrderMark_st_UCS_4LE (Or.inl ne_st_UCS_4LE_b2)
          have f42_F_byteOrderMark_st_EBCDIC := Fld.other W42 f32_F_byteOrderMark_st_EBCDIC (Or.inl ne_st_EBCDIC_b2)
          have f42_Eb2 := Exa.wr W42 f32_Eb2
          have N42 := Fr.snoc X42 N32 g_b2
          have SZ42 : n0 ≤ h42.size := Nat.le_trans SZ32 (Keep.of_wr W42).1
          exact sg150 (.val (.int p0)) (.val (.int p1)) (.val (.int p2)) (.val (.int p3)) (.val (.int p4)) (.val (.int p5)) kk ln b2 (.val (.int pt)) st_UTF_8 st_UTF_16BE st_UTF_16LE st_UCS_4BE st_UCS_4LE st_EBCDIC bm_UTF_8 k_bm_UTF_8 bm_UTF_16BE k_bm_UTF_16BE bm_UTF_16LE k_bm_UTF_16LE k2 (-2 : Int32) (-1 : Int32) ((p3.toInt8.toInt32).toInt8.toInt32) ((((p1.toUInt32 >>> ((8 : Int32) &&& 31).toUInt32).toInt32).toInt8.toInt32).toInt8.toInt32) n0 X42 hx hZ hw hby hml hown hret hlk e42 N42 SZ42 f42_S_st_UTF_8 f42_S_st_UTF_16BE f42_S_st_UTF_16LE f42_S_st_UCS_4BE f42_S_st_UCS_4LE f42_S_st_EBCDIC f42_E_st_UTF_8 f42_E_st_UTF_16BE f42_E_st_UTF_16LE f42_E_st_UCS_4BE f42_E_st_UCS_4LE f42_E_st_EBCDIC f42_F_byteOrderMark_st_UTF_8 f42_F_unitBytes_st_UTF_8 f42_V_bm_UTF_8 f42_F_byteOrderMark_st_UTF_16BE f42_F_unitBytes_st_UTF_16BE f42_V_bm_UTF_16BE f42_F_byteOrderMark_st_UTF_16LE f42_F_unitBytes_st_UTF_16LE f42_V_bm_UTF_16LE f42_F_byteOrderMark_st_UCS_4BE f42_F_byteOrderMark_st_UCS_4LE f42_F_byteOrderMark_st_EBCDIC V42 h_kk
    · refine Gz.icmpYes 109 X10 hx (dd at_92) (feq hc28).2 (by decide) (by decide) ?_
      refine Gz.iload 111 X10 hx (dd at_109) rfl rfl ?_
      refine Gz.iconst 112 (2 : Int32) X10 hx (dd at_111) rfl rfl ?_
      by_cases hc43 : pt = (2 : Int32)
      · refine Gz.icmpNo 115 X10 hx (dd at_112) (teq hc43).2 rfl ?_
        refine Gz.aload 117 X10 hx (dd at_115) rfl rfl rfl ?_
        refine Gz.iconst 118 (0 : Int32) X10 hx (dd at_117) rfl rfl ?_
        refine Gz.iconst 119 (-1 : Int32) X10 hx (dd at_118) rfl rfl ?_
        obtain ⟨c44, A44, q44, S44, N44, H44, G44⟩ := id V10
        have hin44 : ¬ ((0 : Int32) < 0 ∨ c44.slots.size ≤ ((0 : Int32)).toNatClampNeg) := inb_of S44 ⟨by decide, by decide⟩
        refine Gz.stB 120 X10 hx hZ (dd at_119) e10 A44 hin44 rfl fun T45 h45 X45 e45 W45 => ?_
        have V45 := Arv.set A44 q44 S44 N44 H44 G44 (fits_nar_byte _) W45 0 rfl (Nat.le_of_ble_eq_true rfl)
        replace V45 : Arv Z h45 b2 k2 .byte (4 : Int32) [(.int (-1 : Int32)), (.int ((p2.toInt8.toInt32).toInt8.toInt32)), (.int ((p3.toInt8.toInt32).toInt8.toInt32)), (.int ((p4.toInt8.toInt32).toInt8.toInt32))] (.int (0 : Int32)) := V45
        have f45_S_st_UTF_8 := Sta.wr W45 f10_S_st_UTF_8
        have f45_S_st_UTF_16BE := Sta.wr W45 f10_S_st_UTF_16BE
        have f45_S_st_UTF_16LE := Sta.wr W45 f10_S_st_UTF_16LE
        have f45_S_st_UCS_4BE := Sta.wr W45 f10_S_st_UCS_4BE
        have f45_S_st_UCS_4LE := Sta.wr W45 f10_S_st_UCS_4LE
        have f45_S_st_EBCDIC := Sta.wr W45 f10_S_st_EBCDIC
        have f45_E_st_UTF_8 := Exa.wr W45 f10_E_st_UTF_8
        have f45_E_st_UTF_16BE := Exa.wr W45 f10_E_st_UTF_16BE
        have f45_E_st_UTF_16LE := Exa.wr W45 f10_E_st_UTF_16LE
        have f45_E_st_UCS_4BE := Exa.wr W45 f10_E_st_UCS_4BE
        have f45_E_st_UCS_4LE := Exa.wr W45 f10_E_st_UCS_4LE
        have f45_E_st_EBCDIC := Exa.wr W45 f10_E_st_EBCDIC
        have f45_F_byteOrderMark_st_UTF_8 := Fld.other W45 f10_F_byteOrderMark_st_UTF_8 (Or.inl ne_st_UTF_8_b2)
        have f45_F_unitBytes_st_UTF_8 := Fld.other W45 f10_F_unitBytes_st_UTF_8 (Or.inl ne_st_UTF_8_b2)
        have f45_V_bm_UTF_8 := Arv.other f10_V_bm_UTF_8 W45 ne_bm_UTF_8_b2
        have f45_F_byteOrderMark_st_UTF_16BE := Fld.other W45 f10_F_byteOrderMark_st_UTF_16BE (Or.inl ne_st_UTF_16BE_b2)
        have f45_F_unitBytes_st_UTF_16BE := Fld.other W45 f10_F_unitBytes_st_UTF_16BE (Or.inl ne_st_UTF_16BE_b2)
        have f45_V_bm_UTF_16BE := Arv.other f10_V_bm_UTF_16BE W45 ne_bm_UTF_16BE_b2
        have f45_F_byteOrderMark_st_UTF_16LE := Fld.other W45 f10_F_byteOrderMark_st_UTF_16LE (Or.inl ne_st_UTF_16LE_b2)
        have f45_F_unitBytes_st_UTF_16LE := Fld.other W45 f10_F_unitBytes_st_UTF_16LE (Or.inl ne_st_UTF_16LE_b2)
        have f45_V_bm_UTF_16LE := Arv.other f10_V_bm_UTF_16LE W45 ne_bm_UTF_16LE_b2
        have f45_F_byteOrderMark_st_UCS_4BE := Fld.other W45 f10_F_byteOrderMark_st_UCS_4BE (Or.inl ne_st_UCS_4BE_b2)
        have f45_F_byteOrderMark_st_UCS_4LE := Fld.other W45 f10_F_byteOrderMark_st_UCS_4LE (Or.inl ne_st_UCS_4LE_b2)
        have f45_F_byteOrderMark_st_EBCDIC := Fld.other W45 f10_F_byteOrderMark_st_EBCDIC (Or.inl ne_st_EBCDIC_b2)
        have f45_Eb2 := Exa.wr W45 f10_Eb2
        have N45 := Fr.snoc X45 N10 g_b2
        have SZ45 : n0 ≤ h45.size := Nat.le_trans SZ10 (Keep.of_wr W45).1
        refine Gz.aload 122 X45 hx (dd at_120) rfl rfl rfl ?_
        refine Gz.iconst 123 (1 : Int32) X45 hx (dd at_122) rfl rfl ?_
        refine Gz.bipush 125 (-2 : Int32) X45 hx (dd at_123) rfl rfl ?_
        obtain ⟨c46, A46, q46, S46, N46, H46, G46⟩ := id V45
        have hin46 : ¬ ((1 : Int32) < 0 ∨ c46.slots.size ≤ ((1 : Int32)).toNatClampNeg) := inb_of S46 ⟨by decide, by decide⟩
        refine Gz.stB 126 X45 hx hZ (dd at_125) e45 A46 hin46 rfl fun T47 h47 X47 e47 W47 => ?_
        have V47 := Arv.set A46 q46 S46 N46 H46 G46 (fits_nar_byte _) W47 1 rfl (Nat.le_of_ble_eq_true rfl)
        replace V47 : Arv Z h47 b2 k2 .byte (4 : Int32) [(.int (-1 : Int32)), (.int (-2 : Int32)), (.int ((p3.toInt8.toInt32).toInt8.toInt32)), (.int ((p4.toInt8.toInt32).toInt8.toInt32))] (.int (0 : Int32)) := V47
        have f47_S_st_UTF_8 := Sta.wr W47 f45_S_st_UTF_8
        have f47_S_st_UTF_16BE := Sta.wr W47 f45_S_st_UTF_16BE
        have f47_S_st_UTF_16LE := Sta.wr W47 f45_S_st_UTF_16LE
        have f47_S_st_UCS_4BE := Sta.wr W47 f45_S_st_UCS_4BE
        have f47_S_st_UCS_4LE := Sta.wr W47 f45_S_st_UCS_4LE
        have f47_S_st_EBCDIC := Sta.wr W47 f45_S_st_EBCDIC
        have f47_E_st_UTF_8 := Exa.wr W47 f45_E_st_UTF_8
        have f47_E_st_UTF_16BE := Exa.wr W47 f45_E_st_UTF_16BE
        have f47_E_st_UTF_16LE := Exa.wr W47 f45_E_st_UTF_16LE
        have f47_E_st_UCS_4BE := Exa.wr W47 f45_E_st_UCS_4BE
        have f47_E_st_UCS_4LE := Exa.wr W47 f45_E_st_UCS_4LE
        have f47_E_st_EBCDIC := Exa.wr W47 f45_E_st_EBCDIC
        have f47_F_byteOrderMark_st_UTF_8 := Fld.other W47 f45_F_byteOrderMark_st_UTF_8 (Or.inl ne_st_UTF_8_b2)
        have f47_F_unitBytes_st_UTF_8 := Fld.other W47 f45_F_unitBytes_st_UTF_8 (Or.inl ne_st_UTF_8_b2)
        have f47_V_bm_UTF_8 := Arv.other f45_V_bm_UTF_8 W47 ne_bm_UTF_8_b2
        have f47_F_byteOrderMark_st_UTF_16BE := Fld.other W47 f45_F_byteOrderMark_st_UTF_16BE (Or.inl ne_st_UTF_16BE_b2)
        have f47_F_unitBytes_st_UTF_16BE := Fld.other W47 f45_F_unitBytes_st_UTF_16BE (Or.inl ne_st_UTF_16BE_b2)
        have f47_V_bm_UTF_16BE := Arv.other f45_V_bm_UTF_16BE W47 ne_bm_UTF_16BE_b2
        have f47_F_byteOrderMark_st_UTF_16LE := Fld.other W47 f45_F_byteOrderMark_st_UTF_16LE (Or.inl ne_st_UTF_16LE_b2)
        have f47_F_unitBytes_st_UTF_16LE := Fld.other W47 f45_F_unitBytes_st_UTF_16LE (Or.inl ne_st_UTF_16LE_b2)
        have f47_V_bm_UTF_16LE := Arv.other f45_V_bm_UTF_16LE W47 ne_bm_UTF_16LE_b2
        have f47_F_byteOrderMark_st_UCS_4BE := Fld.other W47 f45_F_byteOrderMark_st_UCS_4BE (Or.inl ne_st_UCS_4BE_b2)
        have f47_F_byteOrderMark_st_UCS_4LE := Fld.other W47 f45_F_byteOrderMark_st_UCS_4LE (Or.inl ne_st_UCS_4LE_b2)
        have f47_F_byteOrderMark_st_EBCDIC := Fld.other W47 f45_F_byteOrderMark_st_EBCDIC (Or.inl ne_st_EBCDIC_b2)
        have f47_Eb2 := Exa.wr W47 f45_Eb2
        have N47 := Fr.snoc X47 N45 g_b2
        have SZ47 : n0 ≤ h47.size := Nat.le_trans SZ45 (Keep.of_wr W47).1
        refine Gz.iload 128 X47 hx (dd at_126) rfl rfl ?_
        refine Gz.iconst 129 (5 : Int32) X47 hx (dd at_128) rfl rfl ?_
        refine Gz.iushr 130 X47 hx (dd at_129) rfl ?_
        refine Gz.iconst 131 (1 : Int32) X47 hx (dd at_130) rfl rfl ?_
        refine Gz.iand 132 X47 hx (dd at_131) rfl ?_
        by_cases hc48 : (((p5.toUInt32 >>> ((5 : Int32) &&& 31).toUInt32).toInt32) &&& (1 : Int32)) = (0 : Int32)
        · refine Gz.ifYes 150 X47 hx (dd at_132) ((if0 _ _).trans (teq hc48).1) (by decide) (by decide) ?_
          exact sg150 (.val (.int p0)) (.val (.int p1)) (.val (.int p2)) (.val (.int p3)) (.val (.int p4)) (.val (.int p5)) kk ln b2 (.val (.int pt)) st_UTF_8 st_UTF_16BE st_UTF_16LE st_UCS_4BE st_UCS_4LE st_EBCDIC bm_UTF_8 k_bm_UTF_8 bm_UTF_16BE k_bm_UTF_16BE bm_UTF_16LE k_bm_UTF_16LE k2 (-1 : Int32) (-2 : Int32) ((p3.toInt8.toInt32).toInt8.toInt32) ((p4.toInt8.toInt32).toInt8.toInt32) n0 X47 hx hZ hw hby hml hown hret hlk e47 N47 SZ47 f47_S_st_UTF_8 f47_S_st_UTF_16BE f47_S_st_UTF_16LE f47_S_st_UCS_4BE f47_S_st_UCS_4LE f47_S_st_EBCDIC f47_E_st_UTF_8 f47_E_st_UTF_16BE f47_E_st_UTF_16LE f47_E_st_UCS_4BE f47_E_st_UCS_4LE f47_E_st_EBCDIC f47_F_byteOrderMark_st_UTF_8 f47_F_unitBytes_st_UTF_8 f47_V_bm_UTF_8 f47_F_byteOrderMark_st_UTF_16BE f47_F_unitBytes_st_UTF_16BE f47_V_bm_UTF_16BE f47_F_byteOrderMark_st_UTF_16LE f47_F_unitBytes_st_UTF_16LE f47_V_bm_UTF_16LE f47_F_byteOrderMark_st_UCS_4BE f47_F_byteOrderMark_st_UCS_4LE f47_F_byteOrderMark_st_EBCDIC V47 h_kk
        · refine Gz.ifNo 135 X47 hx (dd at_132) ((if0 _ _).trans (feq hc48).1) rfl ?_
          refine Gz.aload 137 X47 hx (dd at_135) rfl rfl rfl ?_
          refine Gz.iload 139 X47 hx (dd at_137) rfl rfl ?_
          refine Gz.bipush 141 (6 : Int32) X47 hx (dd at_139) rfl rfl ?_
          refine Gz.iushr 142 X47 hx (dd at_141) rfl ?_
          refine Gz.iconst 143 (3 : Int32) X47 hx (dd at_142) rfl rfl ?_
          refine Gz.iand 144 X47 hx (dd at_143) rfl ?_
          show Gz p e below s _ _ _ (T47.setTop (mkF m 144 #[.val (.int p0), .val (.int p1), .val (.int p2), .val (.int p3), .val (.int p4), .val (.int p5), .val (.int kk), .val (.ref (fPick kk st_UTF_8 st_UTF_16BE st_UTF_16LE st_UCS_4BE st_UCS_4LE st_EBCDIC)), .val (.int ln), .val (.ref b2), .val (.int pt), .unset] [(.int (((p5.toUInt32 >>> ((6 : Int32) &&& 31).toUInt32).toInt32) &&& (3 : Int32))), (.ref b2)]))
          rcases own_and3 _ with hs49 | hs49 | hs49 | hs49
          · rw [hs49]
            refine Gz.iloadN 145 X47 hx (dd at_144) rfl rfl ?_
            refine Gz.bipush 147 (8 : Int32) X47 hx (dd at_145) rfl rfl ?_
            refine Gz.iushr 148 X47 hx (dd at_147) rfl ?_
            refine Gz.i2b 149 X47 hx (dd at_148) rfl ?_
            obtain ⟨c50, A50, q50, S50, N50, H50, G50⟩ := id V47
            have hin50 : ¬ ((0 : Int32) < 0 ∨ c50.slots.size ≤ ((0 : Int32)).toNatClampNeg) := inb_of S50 ⟨by decide, by decide⟩
            refine Gz.stB 150 X47 hx hZ (dd at_149) e47 A50 hin50 rfl fun T51 h51 X51 e51 W51 => ?_
            have V51 := Arv.set A50 q50 S50 N50 H50 G50 (fits_nar_byte _) W51 0 rfl (Nat.le_of_ble_eq_true rfl)
            replace V51 : Arv Z h51 b2 k2 .byte (4 : Int32) [(.int ((((p1.toUInt32 >>> ((8 : Int32) &&& 31).toUInt32).toInt32).toInt8.toInt32).toInt8.toInt32)), (.int (-2 : Int32)), (.int ((p3.toInt8.toInt32).toInt8.toInt32)), (.int ((p4.toInt8.toInt32).toInt8.toInt32))] (.int (0 : Int32)) := V51
            have f51_S_st_UTF_8 := Sta.wr W51 f47_S_st_UTF_8
            have f51_S_st_UTF_16BE := Sta.wr W51 f47_S_st_UTF_16BE
            have f51_S_st_UTF_16LE := Sta.wr W51 f47_S_st_UTF_16LE
            have f51_S_st_UCS_4BE := Sta.wr W51 f47_S_st_UCS_4BE
            have f51_S_st_UCS_4LE := Sta.wr W51 f47_S_st_UCS_4LE
            have f51_S_st_EBCDIC := Sta.wr W51 f47_S_st_EBCDIC
            have f51_E_st_UTF_8 := Exa.wr W51 f47_E_st_UTF_8
            have f51_E_st_UTF_16BE := Exa.wr W51 f47_E_st_UTF_16BE
            have f51_E_st_UTF_16LE := Exa.wr W51 f47_E_st_UTF_16LE
            have f51_E_st_UCS_4BE := Exa.wr W51 f47_E_st_UCS_4BE
            have f51_E_st_UCS_4LE := Exa.wr W51 f47_E_st_UCS_4LE
            have f51_E_st_EBCDIC := Exa.wr W51 f47_E_st_EBCDIC
            have f51_F_byteOrderMark_st_UTF_8 := Fld.other W51 f47_F_byteOrderMark_st_UTF_8 (Or.inl ne_st_UTF_8_b2)
            have f51_F_unitBytes_st_UTF_8 := Fld.other W51 f47_F_unitBytes_st_UTF_8 (Or.inl ne_st_UTF_8_b2)
            have f51_V_bm_UTF_8 := Arv.other f47_V_bm_UTF_8 W51 ne_bm_UTF_8_b2
            have f51_F_byteOrderMark_st_UTF_16BE := Fld.other W51 f47_F_byteOrderMark_st_UTF_16BE (Or.inl ne_st_UTF_16BE_b2)
            have f51_F_unitBytes_st_UTF_16BE := Fld.other W51 f47_F_unitBytes_st_UTF_16BE (Or.inl ne_st_UTF_16BE_b2)
            have f51_V_bm_UTF_16BE := Arv.other f47_V_bm_UTF_16BE W51 ne_bm_UTF_16BE_b2
            have f51_F_byteOrderMark_st_UTF_16LE := Fld.other W51 f47_F_byteOrderMark_st_UTF_16LE (Or.inl ne_st_UTF_16LE_b2)
            have f51_F_unitBytes_st_UTF_16LE := Fld.other W51 f47_F_unitBytes_st_UTF_16LE (Or.inl ne_st_UTF_16LE_b2)
            have f51_V_bm_UTF_16LE := Arv.other f47_V_bm_UTF_16LE W51 ne_bm_UTF_16LE_b2
            have f51_F_byteOrderMark_st_UCS_4BE := Fld.other W51 f47_F_byteOrderMark_st_UCS_4BE (Or.inl ne_st_UCS_4BE_b2)
            have f51_F_byteOrderMark_st_UCS_4LE := Fld.other W51 f47_F_byteOrderMark_st_UCS_4LE (Or.inl ne_st_UCS_4LE_b2)
            have f51_F_byteOrderMark_st_EBCDIC := Fld.other W51 f47_F_byteOrderMark_st_EBCDIC (Or.inl ne_st_EBCDIC_b2)
            have f51_Eb2 := Exa.wr W51 f47_Eb2
            have N51 := Fr.snoc X51 N47 g_b2
            have SZ51 : n0 ≤ h51.size := Nat.le_trans SZ47 (Keep.of_wr W51).1
            exact sg150 (.val (.int p0)) (.val (.int p1)) (.val (.int p2)) (.val (.int p3)) (.val (.int p4)) (.val (.int p5)) kk ln b2 (.val (.int pt)) st_UTF_8 st_UTF_16BE st_UTF_16LE st_UCS_4BE st_UCS_4LE st_EBCDIC bm_UTF_8 k_bm_UTF_8 bm_UTF_16BE k_bm_UTF_16BE bm_UTF_16LE k_bm_UTF_16LE k2 ((((p1.toUInt32 >>> ((8 : Int32) &&& 31).toUInt32).toInt32).toInt8.toInt32).toInt8.toInt32) (-2 : Int32) ((p3.toInt8.toInt32).toInt8.toInt32) ((p4.toInt8.toInt32).toInt8.toInt32) n0 X51 hx hZ hw hby hml hown hret hlk e51 N51 SZ51 f51_S_st_UTF_8 f51_S_st_UTF_16BE f51_S_st_UTF_16LE f51_S_st_UCS_4BE f51_S_st_UCS_4LE f51_S_st_EBCDIC f51_E_st_UTF_8 f51_E_st_UTF_16BE f51_E_st_UTF_16LE f51_E_st_UCS_4BE f51_E_st_UCS_4LE f51_E_st_EBCDIC f51_F_byteOrderMark_st_UTF_8 f51_F_unitBytes_st_UTF_8 f51_V_bm_UTF_8 f51_F_byteOrderMark_st_UTF_16BE f51_F_unitBytes_st_UTF_16BE f51_V_bm_UTF_16BE f51_F_byteOrderMark_st_UTF_16LE f51_F_unitBytes_st_UTF_16LE f51_V_bm_UTF_16LE f51_F_byteOrderMark_st_UCS_4BE f51_F_byteOrderMark_st_UCS_4LE f51_F_byteOrderMark_st_EBCDIC V51 h_kk
          · rw [hs49]
            refine Gz.iloadN 145 X47 hx (dd at_144) rfl rfl ?_
            refine Gz.bipush 147 (8 : Int32) X47 hx (dd at_145) rfl rfl ?_
            refine Gz.iushr 148 X47 hx (dd at_147) rfl ?_
            refine Gz.i2b 149 X47 hx (dd at_148) rfl ?_
            obtain ⟨c52, A52, q52, S52, N52, H52, G52⟩ := id V47
            have hin52 : ¬ ((1 : Int32) < 0 ∨ c52.slots.size ≤ ((1 : Int32)).toNatClampNeg) := inb_of S52 ⟨by decide, by decide⟩
            refine Gz.stB 150 X47 hx hZ (dd at_149) e47 A52 hin52 rfl fun T53 h53 X53 e53 W53 => ?_
            have V53 := Arv.set A52 q52 S52 N52 H52 G52 (fits_nar_byte _) W53 1 rfl (Nat.le_of_ble_eq_true rfl)
            replace V53 : Arv Z h53 b2 k2 .byte (4 : Int32) [(.int (-1 : Int32)), (.int ((((p1.toUInt32 >>> ((8 : Int32) &&& 31).toUInt32).toInt32).toInt8.toInt32).toInt8.toInt32)), (.int ((p3.toInt8.toInt32).toInt8.toInt32)), (.int ((p4.toInt8.toInt32).toInt8.toInt32))] (.int (0 : Int32)) := V53
            have f53_S_st_UTF_8 := Sta.wr W53 f47_S_st_UTF_8
            have f53_S_st_UTF_16BE := Sta.wr W53 f47_S_st_UTF_16BE
            have f53_S_st_UTF_16LE := Sta.wr W53 f47_S_st_UTF_16LE
            have f53_S_st_UCS_4BE := Sta.wr W53 f47_S_st_UCS_4BE
            have f53_S_st_UCS_4LE := Sta.wr W53 f47_S_st_UCS_4LE
            have f53_S_st_EBCDIC := Sta.wr W53 f47_S_st_EBCDIC
            have f53_E_st_UTF_8 := Exa.wr W53 f47_E_st_UTF_8
            have f53_E_st_UTF_16BE := Exa.wr W53 f47_E_st_UTF_16BE
            have f53_E_st_UTF_16LE := Exa.wr W53 f47_E_st_UTF_16LE
            have f53_E_st_UCS_4BE := Exa.wr W53 f47_E_st_UCS_4BE
            have f53_E_st_UCS_4LE := Exa.wr W53 f47_E_st_UCS_4LE
            have f53_E_st_EBCDIC := Exa.wr W53 f47_E_st_EBCDIC
            have f53_F_byteOrderMark_st_UTF_8 := Fld.other W53 f47_F_byteOrderMark_st_UTF_8 (Or.inl ne_st_UTF_8_b2)
            have f53_F_unitBytes_st_UTF_8 := Fld.other W53 f47_F_unitBytes_st_UTF_8 (Or.inl ne_st_UTF_8_b2)
            have f53_V_bm_UTF_8 := Arv.other f47_V_bm_UTF_8 W53 ne_bm_UTF_8_b2
            have f53_F_byteOrderMark_st_UTF_16BE := Fld.other W53 f47_F_byteOrderMark_st_UTF_16BE (Or.inl ne_st_UTF_16BE_b2)
            have f53_F_unitBytes_st_UTF_16BE := Fld.other W53 f47_F_unitBytes_st_UTF_16BE (Or.inl ne_st_UTF_16BE_b2)
            have f53_V_bm_UTF_16BE := Arv.other f47_V_bm_UTF_16BE W53 ne_bm_UTF_16BE_b2
            have f53_F_byteOrderMark_st_UTF_16LE := Fld.other W53 f47_F_byteOrderMark_st_UTF_16LE (Or.inl ne_st_UTF_16LE_b2)
            have f53_F_unitBytes_st_UTF_16LE := Fld.other W53 f47_F_unitBytes_st_UTF_16LE (Or.inl ne_st_UTF_16LE_b2)
            have f53_V_bm_UTF_16LE := Arv.other f47_V_bm_UTF_16LE W53 ne_bm_UTF_16LE_b2
            have f53_F_byteOrderMark_st_UCS_4BE := Fld.other W53 f47_F_byteOrderMark_st_UCS_4BE (Or.inl ne_st_UCS_4BE_b2)
            have f53_F_byteOrderMark_st_UCS_4LE := Fld.other W53 f47_F_byteOrderMark_st_UCS_4LE (Or.inl ne_st_UCS_4LE_b2)
            have f53_F_byteOrderMark_st_EBCDIC := Fld.other W53 f47_F_byteOrderMark_st_EBCDIC (Or.inl ne_st_EBCDIC_b2)
            have f53_Eb2 := Exa.wr W53 f47_Eb2
            have N53 := Fr.snoc X53 N47 g_b2
            have SZ53 : n0 ≤ h53.size := Nat.le_trans SZ47 (Keep.of_wr W53).1
            exact sg150 (.val (.int p0)) (.val (.int p1)) (.val (.int p2)) (.val (.int p3)) (.val (.int p4)) (.val (.int p5)) kk ln b2 (.val (.int pt)) st_UTF_8 st_UTF_16BE st_UTF_16LE st_UCS_4BE st_UCS_4LE st_EBCDIC bm_UTF_8 k_bm_UTF_8 bm_UTF_16BE k_bm_UTF_16BE bm_UTF_16LE k_bm_UTF_16LE k2 (-1 : Int32) ((((p1.toUInt32 >>> ((8 : Int32) &&& 31).toUInt32).toInt32).toInt8.toInt32).toInt8.toInt32) ((p3.toInt8.toInt32).toInt8.toInt32) ((p4.toInt8.toInt32).toInt8.toInt32) n0 X53 hx hZ hw hby hml hown hret hlk e53 N53 SZ53 f53_S_st_UTF_8 f53_S_st_UTF_16BE f53_S_st_UTF_16LE f53_S_st_UCS_4BE f53_S_st_UCS_4LE f53_S_st_EBCDIC f53_E_st_UTF_8 f53_E_st_UTF_16BE f53_E_st_UTF_16LE f53_E_st_UCS_4BE f53_E_st_UCS_4LE f53_E_st_EBCDIC f53_F_byteOrderMark_st_UTF_8 f53_F_unitBytes_st_UTF_8 f53_V_bm_UTF_8 f53_F_byteOrderMark_st_UTF_16BE f53_F_unitBytes_st_UTF_16BE f53_V_bm_UTF_16BE f53_F_byteOrderMark_st_UTF_16LE f53_F_unitBytes_st_UTF_16LE f53_V_bm_UTF_16LE f53_F_byteOrderMark_st_UCS_4BE f53_F_byteOrderMark_st_UCS_4LE f53_F_byteOrderMark_st_EBCDIC V53 h_kk
          · rw [hs49]
            refine Gz.iloadN 145 X47 hx (dd at_144) rfl rfl ?_
            refine Gz.bipush 147 (8 : Int32) X47 hx (dd at_145) rfl rfl ?_
            refine Gz.iushr 148 X47 hx (dd at_147) rfl ?_
            refine Gz.i2b 149 X47 hx (dd at_148) rfl ?_
            obtain ⟨c54, A54, q54, S54, N54, H54, G54⟩ := id V47
            have hin54 : ¬ ((2 : Int32) < 0 ∨ c54.slots.size ≤ ((2 : Int32)).toNatClampNeg) := inb_of S54 ⟨by decide, by decide⟩
            refine Gz.stB 150 X47 hx hZ (dd at_149) e47 A54 hin54 rfl fun T55 h55 X55 e55 W55 => ?_
            have V55 := Arv.set A54 q54 S54 N54 H54 G54 (fits_nar_byte _) W55 2 rfl (Nat.le_of_ble_eq_true rfl)
            replace V55 : Arv Z h55 b2 k2 .byte (4 : Int32) [(.int (-1 : Int32)), (.int (-2 : Int32)), (.int ((((p1.toUInt32 >>> ((8 : Int32) &&& 31).toUInt32).toInt32).toInt8.toInt32).toInt8.toInt32)), (.int ((p4.toInt8.toInt32).toInt8.toInt32))] (.int (0 : Int32)) := V55
            have f55_S_st_UTF_8 := Sta.wr W55 f47_S_st_UTF_8
            have f55_S_st_UTF_16BE := Sta.wr W55 f47_S_st_UTF_16BE
            have f55_S_st_UTF_16LE := Sta.wr W55 f47_S_st_UTF_16LE
            have f55_S_st_UCS_4BE := Sta.wr W55 f47_S_st_UCS_4BE
            have f55_S_st_UCS_4LE := Sta.wr W55 f47_S_st_UCS_4LE
            have f55_S_st_EBCDIC := Sta.wr W55 f47_S_st_EBCDIC
            have f55_E_st_UTF_8 := Exa.wr W55 f47_E_st_UTF_8
            have f55_E_st_UTF_16BE := Exa.wr W55 f47_E_st_UTF_16BE
            have f55_E_st_UTF_16LE := Exa.wr W55 f47_E_st_UTF_16LE
            have f55_E_st_UCS_4BE := Exa.wr W55 f47_E_st_UCS_4BE
            have f55_E_st_UCS_4LE := Exa.wr W55 f47_E_st_UCS_4LE
            have f55_E_st_EBCDIC := Exa.wr W55 f47_E_st_EBCDIC
            have f55_F_byteOrderMark_st_UTF_8 := Fld.other W55 f47_F_byteOrderMark_st_UTF_8 (Or.inl ne_st_UTF_8_b2)
            have f55_F_unitBytes_st_UTF_8 := Fld.other W55 f47_F_unitBytes_st_UTF_8 (Or.inl ne_st_UTF_8_b2)
            have f55_V_bm_UTF_8 := Arv.other f47_V_bm_UTF_8 W55 ne_bm_UTF_8_b2
            have f55_F_byteOrderMark_st_UTF_16BE := Fld.other W55 f47_F_byteOrderMark_st_UTF_16BE (Or.inl ne_st_UTF_16BE_b2)
            have f55_F_unitBytes_st_UTF_16BE := Fld.other W55 f47_F_unitBytes_st_UTF_16BE (Or.inl ne_st_UTF_16BE_b2)
            have f55_V_bm_UTF_16BE := Arv.other f47_V_bm_UTF_16BE W55 ne_bm_UTF_16BE_b2
            have f55_F_byteOrderMark_st_UTF_16LE := Fld.other W55 f47_F_byteOrderMark_st_UTF_16LE (Or.inl ne_st_UTF_16LE_b2)
            have f55_F_unitBytes_st_UTF_16LE := Fld.other W55 f47_F_unitBytes_st_UTF_16LE (Or.inl ne_st_UTF_16LE_b2)
            have f55_V_bm_UTF_16LE := Arv.other f47_V_bm_UTF_16LE W55 ne_bm_UTF_16LE_b2
            have f55_F_byteOrderMark_st_UCS_4BE := Fld.other W55 f47_F_byteOrderMark_st_UCS_4BE (Or.inl ne_st_UCS_4BE_b2)
            have f55_F_byteOrderMark_st_UCS_4LE := Fld.other W55 f47_F_byteOrderMark_st_UCS_4LE (Or.inl ne_st_UCS_4LE_b2)
            have f55_F_byteOrderMark_st_EBCDIC := Fld.other W55 f47_F_byteOrderMark_st_EBCDIC (Or.inl ne_st_EBCDIC_b2)
            have f55_Eb2 := Exa.wr W55 f47_Eb2
            have N55 := Fr.snoc X55 N47 g_b2
            have SZ55 : n0 ≤ h55.size := Nat.le_trans SZ47 (Keep.of_wr W55).1
            exact sg150 (.val (.int p0)) (.val (.int p1)) (.val (.int p2)) (.val (.int p3)) (.val (.int p4)) (.val (.int p5)) kk ln b2 (.val (.int pt)) st_UTF_8 st_UTF_16BE st_UTF_16LE st_UCS_4BE st_UCS_4LE st_EBCDIC bm_UTF_8 k_bm_UTF_8 bm_UTF_16BE k_bm_UTF_16BE bm_UTF_16LE k_bm_UTF_16LE k2 (-1 : Int32) (-2 : Int32) ((((p1.toUInt32 >>> ((8 : Int32) &&& 31).toUInt32).toInt32).toInt8.toInt32).toInt8.toInt32) ((p4.toInt8.toInt32).toInt8.toInt32) n0 X55 hx hZ hw hby hml hown hret hlk e55 N55 SZ55 f55_S_st_UTF_8 f55_S_st_UTF_16BE f55_S_st_UTF_16LE f55_S_st_UCS_4BE f55_S_st_UCS_4LE f55_S_st_EBCDIC f55_E_st_UTF_8 f55_E_st_UTF_16BE f55_E_st_UTF_16LE f55_E_st_UCS_4BE f55_E_st_UCS_4LE f55_E_st_EBCDIC f55_F_byteOrderMark_st_UTF_8 f55_F_unitBytes_st_UTF_8 f55_V_bm_UTF_8 f55_F_byteOrderMark_st_UTF_16BE f55_F_unitBytes_st_UTF_16BE f55_V_bm_UTF_16BE f55_F_byteOrderMark_st_UTF_16LE f55_F_unitBytes_st_UTF_16LE f55_V_bm_UTF_16LE f55_F_byteOrderMark_st_UCS_4BE f55_F_byteOrderMark_st_UCS_4LE f55_F_byteOrderMark_st_EBCDIC V55 h_kk
          · rw [hs49]
            refine Gz.iloadN 145 X47 hx (dd at_144) rfl rfl ?_
            refine Gz.bipush 147 (8 : Int32) X47 hx (dd at_145) rfl rfl ?_
            refine Gz.iushr 148 X47 hx (dd at_147) rfl ?_
            refine Gz.i2b 149 X47 hx (dd at_148) rfl ?_
            obtain ⟨c56, A56, q56, S56, N56, H56, G56⟩ := id V47
            have hin56 : ¬ ((3 : Int32) < 0 ∨ c56.slots.size ≤ ((3 : Int32)).toNatClampNeg) := inb_of S56 ⟨by decide, by decide⟩
            refine Gz.stB 150 X47 hx hZ (dd at_149) e47 A56 hin56 rfl fun T57 h57 X57 e57 W57 => ?_
            have V57 := Arv.set A56 q56 S56 N56 H56 G56 (fits_nar_byte _) W57 3 rfl (Nat.le_of_ble_eq_true rfl)
            replace V57 : Arv Z h57 b2 k2 .byte (4 : Int32) [(.int (-1 : Int32)), (.int (-2 : Int32)), (.int ((p3.toInt8.toInt32).toInt8.toInt32)), (.int ((((p1.toUInt32 >>> ((8 : Int32) &&& 31).toUInt32).toInt32).toInt8.toInt32).toInt8.toInt32))] (.int (0 : Int32)) := V57
            have f57_S_st_UTF_8 := Sta.wr W57 f47_S_st_UTF_8
            have f57_S_st_UTF_16BE := Sta.wr W57 f47_S_st_UTF_16BE
            have f57_S_st_UTF_16LE := Sta.wr W57 f47_S_st_UTF_16LE
            have f57_S_st_UCS_4BE := Sta.wr W57 f47_S_st_UCS_4BE
            have f57_S_st_UCS_4LE := Sta.wr W57 f47_S_st_UCS_4LE
            have f57_S_st_EBCDIC := Sta.wr W57 f47_S_st_EBCDIC
            have f57_E_st_UTF_8 := Exa.wr W57 f47_E_st_UTF_8
            have f57_E_st_UTF_16BE := Exa.wr W57 f47_E_st_UTF_16BE
            have f57_E_st_UTF_16LE := Exa.wr W57 f47_E_st_UTF_16LE
            have f57_E_st_UCS_4BE := Exa.wr W57 f47_E_st_UCS_4BE
            have f57_E_st_UCS_4LE := Exa.wr W57 f47_E_st_UCS_4LE
            have f57_E_st_EBCDIC := Exa.wr W57 f47_E_st_EBCDIC
            have f57_F_byteOrderMark_st_UTF_8 := Fld.other W57 f47_F_byteOrderMark_st_UTF_8 (Or.inl ne_st_UTF_8_b2)
            have f57_F_unitBytes_st_UTF_8 := Fld.other W57 f47_F_unitBytes_st_UTF_8 (Or.inl ne_st_UTF_8_b2)
            have f57_V_bm_UTF_8 := Arv.other f47_V_bm_UTF_8 W57 ne_bm_UTF_8_b2
            have f57_F_byteOrderMark_st_UTF_16BE := Fld.other W57 f47_F_byteOrderMark_st_UTF_16BE (Or.inl ne_st_UTF_16BE_b2)
            have f57_F_unitBytes_st_UTF_16BE := Fld.other W57 f47_F_unitBytes_st_UTF_16BE (Or.inl ne_st_UTF_16BE_b2)
            have f57_V_bm_UTF_16BE := Arv.other f47_V_bm_UTF_16BE W57 ne_bm_UTF_16BE_b2
            have f57_F_byteOrderMark_st_UTF_16LE := Fld.other W57 f47_F_byteOrderMark_st_UTF_16LE (Or.inl ne_st_UTF_16LE_b2)
            have f57_F_unitBytes_st_UTF_16LE := Fld.other W57 f47_F_unitBytes_st_UTF_16LE (Or.inl ne_st_UTF_16LE_b2)
            have f57_V_bm_UTF_16LE := Arv.other f47_V_bm_UTF_16LE W57 ne_bm_UTF_16LE_b2
            have f57_F_byteOrderMark_st_UCS_4BE := Fld.other W57 f47_F_byteOrderMark_st_UCS_4BE (Or.inl ne_st_UCS_4BE_b2)
            have f57_F_byteOrderMark_st_UCS_4LE := Fld.other W57 f47_F_byteOrderMark_st_UCS_4LE (Or.inl ne_st_UCS_4LE_b2)
            have f57_F_byteOrderMark_st_EBCDIC := Fld.other W57 f47_F_byteOrderMark_st_EBCDIC (Or.inl ne_st_EBCDIC_b2)
            have f57_Eb2 := Exa.wr W57 f47_Eb2
            have N57 := Fr.snoc X57 N47 g_b2
            have SZ57 : n0 ≤ h57.size := Nat.le_trans SZ47 (Keep.of_wr W57).1
            exact sg150 (.val (.int p0)) (.val (.int p1)) (.val (.int p2)) (.val (.int p3)) (.val (.int p4)) (.val (.int p5)) kk ln b2 (.val (.int pt)) st_UTF_8 st_UTF_16BE st_UTF_16LE st_UCS_4BE st_UCS_4LE st_EBCDIC bm_UTF_8 k_bm_UTF_8 bm_UTF_16BE k_bm_UTF_16BE bm_UTF_16LE k_bm_UTF_16LE k2 (-1 : Int32) (-2 : Int32) ((p3.toInt8.toInt32).toInt8.toInt32) ((((p1.toUInt32 >>> ((8 : Int32) &&& 31).toUInt32).toInt32).toInt8.toInt32).toInt8.toInt32) n0 X57 hx hZ hw hby hml hown hret hlk e57 N57 SZ57 f57_S_st_UTF_8 f57_S_st_UTF_16BE f57_S_st_UTF_16LE f57_S_st_UCS_4BE f57_S_st_UCS_4LE f57_S_st_EBCDIC f57_E_st_UTF_8 f57_E_st_UTF_16BE f57_E_st_UTF_16LE f57_E_st_UCS_4BE f57_E_st_UCS_4LE f57_E_st_EBCDIC f57_F_byteOrderMark_st_UTF_8 f57_F_unitBytes_st_UTF_8 f57_V_bm_UTF_8 f57_F_byteOrderMark_st_UTF_16BE f57_F_unitBytes_st_UTF_16BE f57_V_bm_UTF_16BE f57_F_byteOrderMark_st_UTF_16LE f57_F_unitBytes_st_UTF_16LE f57_V_bm_UTF_16LE f57_F_byteOrderMark_st_UCS_4BE f57_F_byteOrderMark_st_UCS_4LE f57_F_byteOrderMark_st_EBCDIC V57 h_kk
      · refine Gz.icmpYes 126 X10 hx (dd at_112) (feq hc43).2 (by decide) (by decide) ?_
        refine Gz.iload 128 X10 hx (dd at_126) rfl rfl ?_
        refine Gz.iconst 129 (5 : Int32) X10 hx (dd at_128) rfl rfl ?_
        refine Gz.iushr 130 X10 hx (dd at_129) rfl ?_
        refine Gz.iconst 131 (1 : Int32) X10 hx (dd at_130) rfl rfl ?_
        refine Gz.iand 132 X10 hx (dd at_131) rfl ?_
        by_cases hc58 : (((p5.toUInt32 >>> ((5 : Int32) &&& 31).toUInt32).toInt32) &&& (1 : Int32)) = (0 : Int32)
        · refine Gz.ifYes 150 X10 hx (dd at_132) ((if0 _ _).trans (teq hc58).1) (by decide) (by decide) ?_
          exact sg150 (.val (.int p0)) (.val (.int p1)) (.val (.int p2)) (.val (.int p3)) (.val (.int p4)) (.val (.int p5)) kk ln b2 (.val (.int pt)) st_UTF_8 st_UTF_16BE st_UTF_16LE st_UCS_4BE st_UCS_4LE st_EBCDIC bm_UTF_8 k_bm_UTF_8 bm_UTF_16BE k_bm_UTF_16BE bm_UTF_16LE k_bm_UTF_16LE k2 ((p1.toInt8.toInt32).toInt8.toInt32) ((p2.toInt8.toInt32).toInt8.toInt32) ((p3.toInt8.toInt32).toInt8.toInt32) ((p4.toInt8.toInt32).toInt8.toInt32) n0 X10 hx hZ hw hby hml hown hret hlk e10 N10 SZ10 f10_S_st_UTF_8 f10_S_st_UTF_16BE f10_S_st_UTF_16LE f10_S_st_UCS_4BE f10_S_st_UCS_4LE f10_S_st_EBCDIC f10_E_st_UTF_8 f10_E_st_UTF_16BE f10_E_st_UTF_16LE f10_E_st_UCS_4BE f10_E_st_UCS_4LE f10_E_st_EBCDIC f10_F_byteOrderMark_st_UTF_8 f10_F_unitBytes_st_UTF_8 f10_V_bm_UTF_8 f10_F_byteOrderMark_st_UTF_16BE f10_F_unitBytes_st_UTF_16BE f10_V_bm_UTF_16BE f10_F_byteOrderMark_st_UTF_16LE f10_F_unitBytes_st_UTF_16LE f10_V_bm_UTF_16LE f10_F_byteOrderMark_st_UCS_4BE f10_F_byteOrderMark_st_UCS_4LE f10_F_byteOrderMark_st_EBCDIC V10 h_kk
        · refine Gz.ifNo 135 X10 hx (dd at_132) ((if0 _ _).trans (feq hc58).1) rfl ?_
          refine Gz.aload 137 X10 hx (dd at_135) rfl rfl rfl ?_
          refine Gz.iload 139 X10 hx (dd at_137) rfl rfl ?_
          refine Gz.bipush 141 (6 : Int32) X10 hx (dd at_139) rfl rfl ?_
          refine Gz.iushr 142 X10 hx (dd at_141) rfl ?_
          refine Gz.iconst 143 (3 : Int32) X10 hx (dd at_142) rfl rfl ?_
          refine Gz.iand 144 X10 hx (dd at_143) rfl ?_
          show Gz p e below s _ _ _ (T10.setTop (mkF m 144 #[.val (.int p0), .val (.int p1), .val (.int p2), .val (.int p3), .val (.int p4), .val (.int p5), .val (.int kk), .val (.ref (fPick kk st_UTF_8 st_UTF_16BE st_UTF_16LE st_UCS_4BE st_UCS_4LE st_EBCDIC)), .val (.int ln), .val (.ref b2), .val (.int pt), .unset] [(.int (((p5.toUInt32 >>> ((6 : Int32) &&& 31).toUInt32).toInt32) &&& (3 : Int32))), (.ref b2)]))
          rcases own_and3 _ with hs59 | hs59 | hs59 | hs59
          · rw [hs59]
            refine Gz.iloadN 145 X10 hx (dd at_144) rfl rfl ?_
            refine Gz.bipush 147 (8 : Int32) X10 hx (dd at_145) rfl rfl ?_
            refine Gz.iushr 148 X10 hx (dd at_147) rfl ?_
            refine Gz.i2b 149 X10 hx (dd at_148) rfl ?_
            obtain ⟨c60, A60, q60, S60, N60, H60, G60⟩ := id V10
            have hin60 : ¬ ((0 : Int32) < 0 ∨ c60.slots.size ≤ ((0 : Int32)).toNatClampNeg) := inb_of S60 ⟨by decide, by decide⟩
            refine Gz.stB 150 X10 hx hZ (dd at_149) e10 A60 hin60 rfl fun T61 h61 X61 e61 W61 => ?_
            have V61 := Arv.set A60 q60 S60 N60 H60 G60 (fits_nar_byte _) W61 0 rfl (Nat.le_of_ble_eq_true rfl)
            replace V61 : Arv Z h61 b2 k2 .byte (4 : Int32) [(.int ((((p1.toUInt32 >>> ((8 : Int32) &&& 31).toUInt32).toInt32).toInt8.toInt32).toInt8.toInt32)), (.int ((p2.toInt8.toInt32).toInt8.toInt32)), (.int ((p3.toInt8.toInt32).toInt8.toInt32)), (.int ((p4.toInt8.toInt32).toInt8.toInt32))] (.int (0 : Int32)) := V61
            have f61_S_st_UTF_8 := Sta.wr W61 f10_S_st_UTF_8
            have f61_S_st_UTF_16BE := Sta.wr W61 f10_S_st_UTF_16BE
            have f61_S_st_UTF_16LE := Sta.wr W61 f10_S_st_UTF_16LE
            have f61_S_st_UCS_4BE := Sta.wr W61 f10_S_st_UCS_4BE
            have f61_S_st_UCS_4LE := Sta.wr W61 f10_S_st_UCS_4LE
            have f61_S_st_EBCDIC := Sta.wr W61 f10_S_st_EBCDIC
            have f61_E_st_UTF_8 := Exa.wr W61 f10_E_st_UTF_8
            have f61_E_st_UTF_16BE := Exa.wr W61 f10_E_st_UTF_16BE
            have f61_E_st_UTF_16LE := Exa.wr W61 f10_E_st_UTF_16LE
            have f61_E_st_UCS_4BE := Exa.wr W61 f10_E_st_UCS_4BE
            have f61_E_st_UCS_4LE := Exa.wr W61 f10_E_st_UCS_4LE
            have f61_E_st_EBCDIC := Exa.wr W61 f10_E_st_EBCDIC
            have f61_F_byteOrderMark_st_UTF_8 := Fld.other W61 f10_F_byteOrderMark_st_UTF_8 (Or.inl ne_st_UTF_8_b2)
            have f61_F_unitBytes_st_UTF_8 := Fld.other W61 f10_F_unitBytes_st_UTF_8 (Or.inl ne_st_UTF_8_b2)
            have f61_V_bm_UTF_8 := Arv.other f10_V_bm_UTF_8 W61 ne_bm_UTF_8_b2
            have f61_F_byteOrderMark_st_UTF_16BE := Fld.other W61 f10_F_byteOrderMark_st_UTF_16BE (Or.inl ne_st_UTF_16BE_b2)
            have f61_F_unitBytes_st_UTF_16BE := Fld.other W61 f10_F_unitBytes_st_UTF_16BE (Or.inl ne_st_UTF_16BE_b2)
            have f61_V_bm_UTF_16BE := Arv.other f10_V_bm_UTF_16BE W61 ne_bm_UTF_16BE_b2
            have f61_F_byteOrderMark_st_UTF_16LE := Fld.other W61 f10_F_byteOrderMark_st_UTF_16LE (Or.inl ne_st_UTF_16LE_b2)
            have f61_F_unitBytes_st_UTF_16LE := Fld.other W61 f10_F_unitBytes_st_UTF_16LE (Or.inl ne_st_UTF_16LE_b2)
            have f61_V_bm_UTF_16LE := Arv.other f10_V_bm_UTF_16LE W61 ne_bm_UTF_16LE_b2
            have f61_F_byteOrderMark_st_UCS_4BE := Fld.other W61 f10_F_byteOrderMark_st_UCS_4BE (Or.inl ne_st_UCS_4BE_b2)
            have f61_F_byteOrderMark_st_UCS_4LE := Fld.other W61 f10_F_byteOrderMark_st_UCS_4LE (Or.inl ne_st_UCS_4LE_b2)
            have f61_F_byteOrderMark_st_EBCDIC := Fld.other W61 f10_F_byteOrderMark_st_EBCDIC (Or.inl ne_st_EBCDIC_b2)
            have f61_Eb2 := Exa.wr W61 f10_Eb2
            have N61 := Fr.snoc X61 N10 g_b2
            have SZ61 : n0 ≤ h61.size := Nat.le_trans SZ10 (Keep.of_wr W61).1
            exact sg150 (.val (.int p0)) (.val (.int p1)) (.val (.int p2)) (.val (.int p3)) (.val (.int p4)) (.val (.int p5)) kk ln b2 (.val (.int pt)) st_UTF_8 st_UTF_16BE st_UTF_16LE st_UCS_4BE st_UCS_4LE st_EBCDIC bm_UTF_8 k_bm_UTF_8 bm_UTF_16BE k_bm_UTF_16BE bm_UTF_16LE k_bm_UTF_16LE k2 ((((p1.toUInt32 >>> ((8 : Int32) &&& 31).toUInt32).toInt32).toInt8.toInt32).toInt8.toInt32) ((p2.toInt8.toInt32).toInt8.toInt32) ((p3.toInt8.toInt32).toInt8.toInt32) ((p4.toInt8.toInt32).toInt8.toInt32) n0 X61 hx hZ hw hby hml hown hret hlk e61 N61 SZ61 f61_S_st_UTF_8 f61_S_st_UTF_16BE f61_S_st_UTF_16LE f61_S_st_UCS_4BE f61_S_st_UCS_4LE f61_S_st_EBCDIC f61_E_st_UTF_8 f61_E_st_UTF_16BE f61_E_st_UTF_16LE f61_E_st_UCS_4BE f61_E_st_UCS_4LE f61_E_st_EBCDIC f61_F_byteOrderMark_st_UTF_8 f61_F_unitBytes_st_UTF_8 f61_V_bm_UTF_8 f61_F_byteOrderMark_st_UTF_16BE f61_F_unitBytes_st_UTF_16BE f61_V_bm_UTF_16BE f61_F_byteOrderMark_st_UTF_16LE f61_F_unitBytes_st_UTF_16LE f61_V_bm_UTF_16LE f61_F_byteOrderMark_st_UCS_4BE f61_F_byteOrderMark_st_UCS_4LE f61_F_byteOrderMark_st_EBCDIC V61 h_kk
          · rw [hs59]
            refine Gz.iloadN 145 X10 hx (dd at_144) rfl rfl ?_
            refine Gz.bipush 147 (8 : Int32) X10 hx (dd at_145) rfl rfl ?_
            refine Gz.iushr 148 X10 hx (dd at_147) rfl ?_
            refine Gz.i2b 149 X10 hx (dd at_148) rfl ?_
            obtain ⟨c62, A62, q62, S62, N62, H62, G62⟩ := id V10
            have hin62 : ¬ ((1 : Int32) < 0 ∨ c62.slots.size ≤ ((1 : Int32)).toNatClampNeg) := inb_of S62 ⟨by decide, by decide⟩
            refine Gz.stB 150 X10 hx hZ (dd at_149) e10 A62 hin62 rfl fun T63 h63 X63 e63 W63 => ?_
            have V63 := Arv.set A62 q62 S62 N62 H62 G62 (fits_nar_byte _) W63 1 rfl (Nat.le_of_ble_eq_true rfl)
            replace V63 : Arv Z h63 b2 k2 .byte (4 : Int32) [(.int ((p1.toInt8.toInt32).toInt8.toInt32)), (.int ((((p1.toUInt32 >>> ((8 : Int32) &&& 31).toUInt32).toInt32).toInt8.toInt32).toInt8.toInt32)), (.int ((p3.toInt8.toInt32).toInt8.toInt32)), (.int ((p4.toInt8.toInt32).toInt8.toInt32))] (.int (0 : Int32)) := V63
            have f63_S_st_UTF_8 := Sta.wr W63 f10_S_st_UTF_8
            have f63_S_st_UTF_16BE := Sta.wr W63 f10_S_st_UTF_16BE
            have f63_S_st_UTF_16LE := Sta.wr W63 f10_S_st_UTF_16LE
            have f63_S_st_UCS_4BE := Sta.wr W63 f10_S_st_UCS_4BE
            have f63_S_st_UCS_4LE := Sta.wr W63 f10_S_st_UCS_4LE
            have f63_S_st_EBCDIC := Sta.wr W63 f10_S_st_EBCDIC
            have f63_E_st_UTF_8 := Exa.wr W63 f10_E_st_UTF_8
            have f63_E_st_UTF_16BE := Exa.wr W63 f10_E_st_UTF_16BE
            have f63_E_st_UTF_16LE := Exa.wr W63 f10_E_st_UTF_16LE
            have f63_E_st_UCS_4BE := Exa.wr W63 f10_E_st_UCS_4BE
            have f63_E_st_UCS_4LE := Exa.wr W63 f10_E_st_UCS_4LE
            have f63_E_st_EBCDIC := Exa.wr W63 f10_E_st_EBCDIC
            have f63_F_byteOrderMark_st_UTF_8 := Fld.other W63 f10_F_byteOrderMark_st_UTF_8 (Or.inl ne_st_UTF_8_b2)
            have f63_F_unitBytes_st_UTF_8 := Fld.other W63 f10_F_unitBytes_st_UTF_8 (Or.inl ne_st_UTF_8_b2)
            have f63_V_bm_UTF_8 := Arv.other f10_V_bm_UTF_8 W63 ne_bm_UTF_8_b2
            have f63_F_byteOrderMark_st_UTF_16BE := Fld.other W63 f10_F_byteOrderMark_st_UTF_16BE (Or.inl ne_st_UTF_16BE_b2)
            have f63_F_unitBytes_st_UTF_16BE := Fld.other W63 f10_F_unitBytes_st_UTF_16BE (Or.inl ne_st_UTF_16BE_b2)
            have f63_V_bm_UTF_16BE := Arv.other f10_V_bm_UTF_16BE W63 ne_bm_UTF_16BE_b2
            have f63_F_byteOrderMark_st_UTF_16LE := Fld.other W63 f10_F_byteOrderMark_st_UTF_16LE (Or.inl ne_st_UTF_16LE_b2)
            have f63_F_unitBytes_st_UTF_16LE := Fld.other W63 f10_F_unitBytes_st_UTF_16LE (Or.inl ne_st_UTF_16LE_b2)
            have f63_V_bm_UTF_16LE := Arv.other f10_V_bm_UTF_16LE W63 ne_bm_UTF_16LE_b2
            have f63_F_byteOrderMark_st_UCS_4BE := Fld.other W63 f10_F_byteOrderMark_st_UCS_4BE (Or.inl ne_st_UCS_4BE_b2)
            have f63_F_byteOrderMark_st_UCS_4LE := Fld.other W63 f10_F_byteOrderMark_st_UCS_4LE (Or.inl ne_st_UCS_4LE_b2)
            have f63_F_byteOrderMark_st_EBCDIC := Fld.other W63 f10_F_byteOrderMark_st_EBCDIC (Or.inl ne_st_EBCDIC_b2)
            have f63_Eb2 := Exa.wr W63 f10_Eb2
            have N63 := Fr.snoc X63 N10 g_b2
            have SZ63 : n0 ≤ h63.size := Nat.le_trans SZ10 (Keep.of_wr W63).1
            exact sg150 (.val (.int p0)) (.val (.int p1)) (.val (.int p2)) (.val (.int p3)) (.val (.int p4)) (.val (.int p5)) kk ln b2 (.val (.int pt)) st_UTF_8 st_UTF_16BE st_UTF_16LE st_UCS_4BE st_UCS_4LE st_EBCDIC bm_UTF_8 k_bm_UTF_8 bm_UTF_16BE k_bm_UTF_16BE bm_UTF_16LE k_bm_UTF_16LE k2 ((p1.toInt8.toInt32).toInt8.toInt32) ((((p1.toUInt32 >>> ((8 : Int32) &&& 31).toUInt32).toInt32).toInt8.toInt32).toInt8.toInt32) ((p3.toInt8.toInt32).toInt8.toInt32) ((p4.toInt8.toInt32).toInt8.toInt32) n0 X63 hx hZ hw hby hml hown hret hlk e63 N63 SZ63 f63_S_st_UTF_8 f63_S_st_UTF_16BE f63_S_st_UTF_16LE f63_S_st_UCS_4BE f63_S_st_UCS_4LE f63_S_st_EBCDIC f63_E_st_UTF_8 f63_E_st_UTF_16BE f63_E_st_UTF_16LE f63_E_st_UCS_4BE f63_E_st_UCS_4LE f63_E_st_EBCDIC f63_F_byteOrderMark_st_UTF_8 f63_F_unitBytes_st_UTF_8 f63_V_bm_UTF_8 f63_F_byteOrderMark_st_UTF_16BE f63_F_unitBytes_st_UTF_16BE f63_V_bm_UTF_16BE f63_F_byteOrderMark_st_UTF_16LE f63_F_unitBytes_st_UTF_16LE f63_V_bm_UTF_16LE f63_F_byteOrderMark_st_UCS_4BE f63_F_byteOrderMark_st_UCS_4LE f63_F_byteOrderMark_st_EBCDIC V63 h_kk
          · rw [hs59]
            refine Gz.iloadN 145 X10 hx (dd at_144) rfl rfl ?_
            refine Gz.bipush 147 (8 : Int32) X10 hx (dd at_145) rfl rfl ?_
            refine Gz.iushr 148 X10 hx (dd at_147) rfl ?_
            refine Gz.i2b 149 X10 hx (dd at_148) rfl ?_
            obtain ⟨c64, A64, q64, S64, N64, H64, G64⟩ := id V10
            have hin64 : ¬ ((2 : Int32) < 0 ∨ c64.slots.size ≤ ((2 : Int32)).toNatClampNeg) := inb_of S64 ⟨by decide, by decide⟩
            refine Gz.stB 150 X10 hx hZ (dd at_149) e10 A64 hin64 rfl fun T65 h65 X65 e65 W65 => ?_
            have V65 := Arv.set A64 q64 S64 N64 H64 G64 (fits_nar_byte _) W65 2 rfl (Nat.le_of_ble_eq_true rfl)
            replace V65 : Arv Z h65 b2 k2 .byte (4 : Int32) [(.int ((p1.toInt8.toInt32).toInt8.toInt32)), (.int ((p2.toInt8.toInt32).toInt8.toInt32)), (.int ((((p1.toUInt32 >>> ((8 : Int32) &&& 31).toUInt32).toInt32).toInt8.toInt32).toInt8.toInt32)), (.int ((p4.toInt8.toInt32).toInt8.toInt32))] (.int (0 : Int32)) := V65
            have f65_S_st_UTF_8 := Sta.wr W65 f10_S_st_UTF_8
            have f65_S_st_UTF_16BE := Sta.wr W65 f10_S_st_UTF_16BE
            have f65_S_st_UTF_16LE := Sta.wr W65 f10_S_st_UTF_16LE
            have f65_S_st_UCS_4BE := Sta.wr W65 f10_S_st_UCS_4BE
            have f65_S_st_UCS_4LE := Sta.wr W65 f10_S_st_UCS_4LE
            have f65_S_st_EBCDIC := Sta.wr W65 f10_S_st_EBCDIC
            have f65_E_st_UTF_8 := Exa.wr W65 f10_E_st_UTF_8
            have f65_E_st_UTF_16BE := Exa.wr W65 f10_E_st_UTF_16BE
            have f65_E_st_UTF_16LE := Exa.wr W65 f10_E_st_UTF_16LE
            have f65_E_st_UCS_4BE := Exa.wr W65 f10_E_st_UCS_4BE
            have f65_E_st_UCS_4LE := Exa.wr W65 f10_E_st_UCS_4LE
            have f65_E_st_EBCDIC := Exa.wr W65 f10_E_st_EBCDIC
            have f65_F_byteOrderMark_st_UTF_8 := Fld.other W65 f10_F_byteOrderMark_st_UTF_8 (Or.inl ne_st_UTF_8_b2)
            have f65_F_unitBytes_st_UTF_8 := Fld.other W65 f10_F_unitBytes_st_UTF_8 (Or.inl ne_st_UTF_8_b2)
            have f65_V_bm_UTF_8 := Arv.other f10_V_bm_UTF_8 W65 ne_bm_UTF_8_b2
            have f65_F_byteOrderMark_st_UTF_16BE := Fld.other W65 f10_F_byteOrderMark_st_UTF_16BE (Or.inl ne_st_UTF_16BE_b2)
            have f65_F_unitBytes_st_UTF_16BE := Fld.other W65 f10_F_unitBytes_st_UTF_16BE (Or.inl ne_st_UTF_16BE_b2)
            have f65_V_bm_UTF_16BE := Arv.other f10_V_bm_UTF_16BE W65 ne_bm_UTF_16BE_b2
            have f65_F_byteOrderMark_st_UTF_16LE := Fld.other W65 f10_F_byteOrderMark_st_UTF_16LE (Or.inl ne_st_UTF_16LE_b2)
            have f65_F_unitBytes_st_UTF_16LE := Fld.other W65 f10_F_unitBytes_st_UTF_16LE (Or.inl ne_st_UTF_16LE_b2)
            have f65_V_bm_UTF_16LE := Arv.other f10_V_bm_UTF_16LE W65 ne_bm_UTF_16LE_b2
            have f65_F_byteOrderMark_st_UCS_4BE := Fld.other W65 f10_F_byteOrderMark_st_UCS_4BE (Or.inl ne_st_UCS_4BE_b2)
            have f65_F_byteOrderMark_st_UCS_4LE := Fld.other W65 f10_F_byteOrderMark_st_UCS_4LE (Or.inl ne_st_UCS_4LE_b2)
            have f65_F_byteOrderMark_st_EBCDIC := Fld.other W65 f10_F_byteOrderMark_st_EBCDIC (Or.inl ne_st_EBCDIC_b2)
            have f65_Eb2 := Exa.wr W65 f10_Eb2
            have N65 := Fr.snoc X65 N10 g_b2
            have SZ65 : n0 ≤ h65.size := Nat.le_trans SZ10 (Keep.of_wr W65).1
            exact sg150 (.val (.int p0)) (.val (.int p1)) (.val (.int p2)) (.val (.int p3)) (.val (.int p4)) (.val (.int p5)) kk ln b2 (.val (.int pt)) st_UTF_8 st_UTF_16BE st_UTF_16LE st_UCS_4BE st_UCS_4LE st_EBCDIC bm_UTF_8 k_bm_UTF_8 bm_UTF_16BE k_bm_UTF_16BE bm_UTF_16LE k_bm_UTF_16LE k2 ((p1.toInt8.toInt32).toInt8.toInt32) ((p2.toInt8.toInt32).toInt8.toInt32) ((((p1.toUInt32 >>> ((8 : Int32) &&& 31).toUInt32).toInt32).toInt8.toInt32).toInt8.toInt32) ((p4.toInt8.toInt32).toInt8.toInt32) n0 X65 hx hZ hw hby hml hown hret hlk e65 N65 SZ65 f65_S_st_UTF_8 f65_S_st_UTF_16BE f65_S_st_UTF_16LE f65_S_st_UCS_4BE f65_S_st_UCS_4LE f65_S_st_EBCDIC f65_E_st_UTF_8 f65_E_st_UTF_16BE f65_E_st_UTF_16LE f65_E_st_UCS_4BE f65_E_st_UCS_4LE f65_E_st_EBCDIC f65_F_byteOrderMark_st_UTF_8 f65_F_unitBytes_st_UTF_8 f65_V_bm_UTF_8 f65_F_byteOrderMark_st_UTF_16BE f65_F_unitBytes_st_UTF_16BE f65_V_bm_UTF_16BE f65_F_byteOrderMark_st_UTF_16LE f65_F_unitBytes_st_UTF_16LE f65_V_bm_UTF_16LE f65_F_byteOrderMark_st_UCS_4BE f65_F_byteOrderMark_st_UCS_4LE f65_F_byteOrderMark_st_EBCDIC V65 h_kk
          · rw [hs59]
            refine Gz.iloadN 145 X10 hx (dd at_144) rfl rfl ?_
            refine Gz.bipush 147 (8 : Int32) X10 hx (dd at_145) rfl rfl ?_
            refine Gz.iushr 148 X10 hx (dd at_147) rfl ?_
            refine Gz.i2b 149 X10 hx (dd at_148) rfl ?_
            obtain ⟨c66, A66, q66, S66, N66, H66, G66⟩ := id V10
            have hin66 : ¬ ((3 : Int32) < 0 ∨ c66.slots.size ≤ ((3 : Int32)).toNatClampNeg) := inb_of S66 ⟨by decide, by decide⟩
            refine Gz.stB 150 X10 hx hZ (dd at_149) e10 A66 hin66 rfl fun T67 h67 X67 e67 W67 => ?_
            have V67 := Arv.set A66 q66 S66 N66 H66 G66 (fits_nar_byte _) W67 3 rfl (Nat.le_of_ble_eq_true rfl)
            replace V67 : Arv Z h67 b2 k2 .byte (4 : Int32) [(.int ((p1.toInt8.toInt32).toInt8.toInt32)), (.int ((p2.toInt8.toInt32).toInt8.toInt32)), (.int ((p3.toInt8.toInt32).toInt8.toInt32)), (.int ((((p1.toUInt32 >>> ((8 : Int32) &&& 31).toUInt32).toInt32).toInt8.toInt32).toInt8.toInt32))] (.int (0 : Int32)) := V67
            have f67_S_st_UTF_8 := Sta.wr W67 f10_S_st_UTF_8
            have f67_S_st_UTF_16BE := Sta.wr W67 f10_S_st_UTF_16BE
            have f67_S_st_UTF_16LE := Sta.wr W67 f10_S_st_UTF_16LE
            have f67_S_st_UCS_4BE := Sta.wr W67 f10_S_st_UCS_4BE
            have f67_S_st_UCS_4LE := Sta.wr W67 f10_S_st_UCS_4LE
            have f67_S_st_EBCDIC := Sta.wr W67 f10_S_st_EBCDIC
            have f67_E_st_UTF_8 := Exa.wr W67 f10_E_st_UTF_8
            have f67_E_st_UTF_16BE := Exa.wr W67 f10_E_st_UTF_16BE
            have f67_E_st_UTF_16LE := Exa.wr W67 f10_E_st_UTF_16LE
            have f67_E_st_UCS_4BE := Exa.wr W67 f10_E_st_UCS_4BE
            have f67_E_st_UCS_4LE := Exa.wr W67 f10_E_st_UCS_4LE
            have f67_E_st_EBCDIC := Exa.wr W67 f10_E_st_EBCDIC
            have f67_F_byteOrderMark_st_UTF_8 := Fld.other W67 f10_F_byteOrderMark_st_UTF_8 (Or.inl ne_st_UTF_8_b2)
            have f67_F_unitBytes_st_UTF_8 := Fld.other W67 f10_F_unitBytes_st_UTF_8 (Or.inl ne_st_UTF_8_b2)
            have f67_V_bm_UTF_8 := Arv.other f10_V_bm_UTF_8 W67 ne_bm_UTF_8_b2
            have f67_F_byteOrderMark_st_UTF_16BE := Fld.other W67 f10_F_byteOrderMark_st_UTF_16BE (Or.inl ne_st_UTF_16BE_b2)
            have f67_F_unitBytes_st_UTF_16BE := Fld.other W67 f10_F_unitBytes_st_UTF_16BE (Or.inl ne_st_UTF_16BE_b2)
            have f67_V_bm_UTF_16BE := Arv.other f10_V_bm_UTF_16BE W67 ne_bm_UTF_16BE_b2
            have f67_F_byteOrderMark_st_UTF_16LE := Fld.other W67 f10_F_byteOrderMark_st_UTF_16LE (Or.inl ne_st_UTF_16LE_b2)
            have f67_F_unitBytes_st_UTF_16LE := Fld.other W67 f10_F_unitBytes_st_UTF_16LE (Or.inl ne_st_UTF_16LE_b2)
            have f67_V_bm_UTF_16LE := Arv.other f10_V_bm_UTF_16LE W67 ne_bm_UTF_16LE_b2
            have f67_F_byteOrderMark_st_UCS_4BE := Fld.other W67 f10_F_byteOrderMark_st_UCS_4BE (Or.inl ne_st_UCS_4BE_b2)
            have f67_F_byteOrderMark_st_UCS_4LE := Fld.other W67 f10_F_byteOrderMark_st_UCS_4LE (Or.inl ne_st_UCS_4LE_b2)
            have f67_F_byteOrderMark_st_EBCDIC := Fld.other W67 f10_F_byteOrderMark_st_EBCDIC (Or.inl ne_st_EBCDIC_b2)
            have f67_Eb2 := Exa.wr W67 f10_Eb2
            have N67 := Fr.snoc X67 N10 g_b2
            have SZ67 : n0 ≤ h67.size := Nat.le_trans SZ10 (Keep.of_wr W67).1
            exact sg150 (.val (.int p0)) (.val (.int p1)) (.val (.int p2)) (.val (.int p3)) (.val (.int p4)) (.val (.int p5)) kk ln b2 (.val (.int pt)) st_UTF_8 st_UTF_16BE st_UTF_16LE st_UCS_4BE st_UCS_4LE st_EBCDIC bm_UTF_8 k_bm_UTF_8 bm_UTF_16BE k_bm_UTF_16BE bm_UTF_16LE k_bm_UTF_16LE k2 ((p1.toInt8.toInt32).toInt8.toInt32) ((p2.toInt8.toInt32).toInt8.toInt32) ((p3.toInt8.toInt32).toInt8.toInt32) ((((p1.toUInt32 >>> ((8 : Int32) &&& 31).toUInt32).toInt32).toInt8.toInt32).toInt8.toInt32) n0 X67 hx hZ hw hby hml hown hret hlk e67 N67 SZ67 f67_S_st_UTF_8 f67_S_st_UTF_16BE f67_S_st_UTF_16LE f67_S_st_UCS_4BE f67_S_st_UCS_4LE f67_S_st_EBCDIC f67_E_st_UTF_8 f67_E_st_UTF_16BE f67_E_st_UTF_16LE f67_E_st_UCS_4BE f67_E_st_UCS_4LE f67_E_st_EBCDIC f67_F_byteOrderMark_st_UTF_8 f67_F_unitBytes_st_UTF_8 f67_V_bm_UTF_8 f67_F_byteOrderMark_st_UTF_16BE f67_F_unitBytes_st_UTF_16BE f67_V_bm_UTF_16BE f67_F_byteOrderMark_st_UTF_16LE f67_F_unitBytes_st_UTF_16LE f67_V_bm_UTF_16LE f67_F_byteOrderMark_st_UCS_4BE f67_F_byteOrderMark_st_UCS_4LE f67_F_byteOrderMark_st_EBCDIC V67 h_kk
set_option maxRecDepth 65536 in
set_option maxHeartbeats 40000000 in
theorem comes_1 {Post : Tables → Env → Array Value → State → Outcome → State → Prop} (hpost : ∀ tb e args s v u, (limb_1_1.after args s (.returned v) u = true ∧ limb_1_2.after args s (.returned v) u = true ∧ True) → FrameEnd s (.returned v) u (Jvm.fieldLocs frame_1_writes args s ++ Jvm.arrayLocs frame_1_arrays args s ++ Jvm.staticLocs frame_1_statics s) 16 128 → Post tb e args s (.returned v) u) :
    ArmFor flags0 classFile x code maxLocals ret World_1 tables_1 room_1 Calls_1 rest_1 Pre_1 Post := by
  intro l hfl _ _ p e ha hc hk s m args below hf hA hF happ hP
  obtain ⟨hcalls, hrest, hpre⟩ := hP
  obtain ⟨-, -, -, hnamed, -, -, -, hat⟩ := (Spec.applies_iff hf).mp happ
  obtain ⟨hg, hn⟩ := and_e (Cond.before_iff.mp (show (Jvm.Cond.and given_1 narrow_1).before args s = true from hpre))
  obtain ⟨hcnt, hg0⟩ := and_e hg
  obtain ⟨ha0, hg1⟩ := and_e hg0
  obtain ⟨ha1, hg2⟩ := and_e hg1
  obtain ⟨ha2, hg3⟩ := and_e hg2
  obtain ⟨ha3, hg4⟩ := and_e hg3
  obtain ⟨ha4, hg5⟩ := and_e hg4
  have ha5 := hg5
  obtain ⟨w0, w1, w2, w3, w4, w5, rfl⟩ : ∃ w0 w1 w2 w3 w4 w5 : Value, args = #[w0, w1, w2, w3, w4, w5] := by
    have hs : args.size = 6 := by simpa [Cond.value, given_1] using hcnt
    obtain ⟨L⟩ := args
    match L, hs with
    | [w0, w1, w2, w3, w4, w5], _ => exact ⟨w0, w1, w2, w3, w4, w5, rfl⟩
  have hw := fun d (hd : d ∈ tables_1) => atoms_spec (ws := Jvm.Cond.code x code maxLocals ret :: tables_1) hat d (List.mem_cons_of_mem _ hd)
  have hfit : Fit s := fun {y c} hc i hi => by
    obtain ⟨ha, rfl⟩ := Array.getElem?_eq_some_iff.mp hc
    have q := List.all_eq_true.mp ((Array.all_eq_true_iff_forall_mem.mp hF) _ (Array.getElem_mem ha)) i (List.mem_range.mpr hi)
    simpa [Array.getElem?_eq_getElem hi] using q
  obtain ⟨i0, ei0⟩ := is_v ha0
  obtain rfl : w0 = (.int i0) := Option.some.inj ei0
  obtain ⟨i1, ei1⟩ := is_v ha1
  obtain rfl : w1 = (.int i1) := Option.some.inj ei1
  obtain ⟨i2, ei2⟩ := is_v ha2
  obtain rfl : w2 = (.int i2) := Option.some.inj ei2
  obtain ⟨i3, ei3⟩ := is_v ha3
  obtain rfl : w3 = (.int i3) := Option.some.inj ei3
  obtain ⟨i4, ei4⟩ := is_v ha4
  obtain rfl : w4 = (.int i4) := Option.some.inj ei4
  obtain ⟨i5, ei5⟩ := is_v ha5
  obtain rfl : w5 = (.int i5) := Option.some.inj ei5
  obtain ⟨nn0, nr0⟩ := and_e hn
  obtain ⟨nn1, nr1⟩ := and_e nr0
  obtain ⟨nn2, nr2⟩ := and_e nr1
  obtain ⟨nn3, nr3⟩ := and_e nr2
  obtain ⟨nn4, nr4⟩ := and_e nr3
  obtain ⟨nn5, nr5⟩ := and_e nr4
  obtain ⟨nn6, nr6⟩ := and_e nr5
  obtain ⟨nn7, nr7⟩ := and_e nr6
  obtain ⟨nn8, nr8⟩ := and_e nr7
  obtain ⟨nn9, nr9⟩ := and_e nr8
  obtain ⟨nn10, nr10⟩ := and_e nr9
  obtain ⟨nn11, nr11⟩ := and_e nr10
  obtain ⟨nn12, nr12⟩ := and_e nr11
  obtain ⟨nn13, nr13⟩ := and_e nr12
  obtain ⟨nn14, nr14⟩ := and_e nr13
  obtain ⟨nn15, nr15⟩ := and_e nr14
  obtain ⟨nn16, nr16⟩ := and_e nr15
  obtain ⟨nn17, nr17⟩ := and_e nr16
  obtain ⟨nn18, nr18⟩ := and_e nr17
  obtain ⟨nn19, nr19⟩ := and_e nr18
  obtain ⟨nn20, nr20⟩ := and_e nr19
  obtain ⟨nn21, nr21⟩ := and_e nr20
  obtain ⟨nn22, nr22⟩ := and_e nr21
  obtain ⟨nn23, nr23⟩ := and_e nr22
  obtain ⟨nn24, nr24⟩ := and_e nr23
  obtain ⟨nn25, nr25⟩ := and_e nr24
  obtain ⟨nn26, nr26⟩ := and_e nr25
  have nn27 := nr26
  obtain ⟨st_UTF_8, ev_UTF_8⟩ := exa_v nn0
  have S_UTF_8 : Sta s s.heap "com/example/arkivsjekk/arkivsjekk/XmlEncoding" "UTF_8" "Lcom/example/arkivsjekk/arkivsjekk/XmlEncoding;" (.ref st_UTF_8) := Sta.start ev_UTF_8 (Or.inr ⟨(ww hw 6 rfl), (ww hw 7 rfl)⟩)
  have E_UTF_8 : Exa s s.heap st_UTF_8 "com/example/arkivsjekk/arkivsjekk/XmlEncoding" := Exa.start ev_UTF_8 nn0
  obtain ⟨st_UCS_4LE, ev_UCS_4LE⟩ := exa_v nn7
  have S_UCS_4LE : Sta s s.heap "com/example/arkivsjekk/arkivsjekk/XmlEncoding" "UCS_4LE" "Lcom/example/arkivsjekk/arkivsjekk/XmlEncoding;" (.ref st_UCS_4LE) := Sta.start ev_UCS_4LE (Or.inr ⟨(ww hw 6 rfl), (ww hw 25 rfl)⟩)
  have E_UCS_4LE : Exa s s.heap st_UCS_4LE "com/example/arkivsjekk/arkivsjekk/XmlEncoding" := Exa.start ev_UCS_4LE nn7
  obtain ⟨st_UCS_4BE, ev_UCS_4BE⟩ := exa_v nn9
  have S_UCS_4BE : Sta s s.heap "com/example/arkivsjekk/arkivsjekk/XmlEncoding" "UCS_4BE" "Lcom/example/arkivsjekk/arkivsjekk/XmlEncoding;" (.ref st_UCS_4BE) := Sta.start ev_UCS_4BE (Or.inr ⟨(ww hw 6 rfl), (ww hw 27 rfl)⟩)
  have E_UCS_4BE : Exa s s.heap st_UCS_4BE "com/example/arkivsjekk/arkivsjekk/XmlEncoding" := Exa.start ev_UCS_4BE nn9
  obtain ⟨st_UTF_16BE, ev_UTF_16BE⟩ := exa_v nn11
  have S_UTF_16BE : Sta s s.heap "com/example/arkivsjekk/arkivsjekk/XmlEncoding" "UTF_16BE" "Lcom/example/arkivsjekk/arkivsjekk/XmlEncoding;" (.ref st_UTF_16BE) := Sta.start ev_UTF_16BE (Or.inr ⟨(ww hw 6 rfl), (ww hw 29 rfl)⟩)
  have E_UTF_16BE : Exa s s.heap st_UTF_16BE "com/example/arkivsjekk/arkivsjekk/XmlEncoding" := Exa.start ev_UTF_16BE nn11
  obtain ⟨st_UTF_16LE, ev_UTF_16LE⟩ := exa_v nn14
  have S_UTF_16LE : Sta s s.heap "com/example/arkivsjekk/arkivsjekk/XmlEncoding" "UTF_16LE" "Lcom/example/arkivsjekk/arkivsjekk/XmlEncoding;" (.ref st_UTF_16LE) := Sta.start ev_UTF_16LE (Or.inr ⟨(ww hw 6 rfl), (ww hw 31 rfl)⟩)
  have E_UTF_16LE : Exa s s.heap st_UTF_16LE "com/example/arkivsjekk/arkivsjekk/XmlEncoding" := Exa.start ev_UTF_16LE nn14
  obtain ⟨st_EBCDIC, ev_EBCDIC⟩ := exa_v nn19
  have S_EBCDIC : Sta s s.heap "com/example/arkivsjekk/arkivsjekk/XmlEncoding" "EBCDIC" "Lcom/example/arkivsjekk/arkivsjekk/XmlEncoding;" (.ref st_EBCDIC) := Sta.start ev_EBCDIC (Or.inr ⟨(ww hw 6 rfl), (ww hw 33 rfl)⟩)
  have E_EBCDIC : Exa s s.heap st_EBCDIC "com/example/arkivsjekk/arkivsjekk/XmlEncoding" := Exa.start ev_EBCDIC nn19
  have F_unitBytes_UTF_8 := own_fldI ev_UTF_8 nn6
  have F_unitBytes_UTF_16BE := own_fldI ev_UTF_16BE nn22
  have F_unitBytes_UTF_16LE := own_fldI ev_UTF_16LE nn24
  have F_unitBytes_UCS_4LE := own_fldI ev_UCS_4LE nn25
  have F_unitBytes_UCS_4BE := own_fldI ev_UCS_4BE nn26
  have F_unitBytes_EBCDIC := own_fldI ev_EBCDIC nn27
  have F_byteOrderMark_UCS_4LE : Fld s s.heap st_UCS_4LE "com/example/arkivsjekk/arkivsjekk/XmlEncoding" "byteOrderMark" "[B" .null := Fld.start ((fld_at ev_UCS_4LE).symm.trans (null_v nn8))
  have F_byteOrderMark_UCS_4BE : Fld s s.heap st_UCS_4BE "com/example/arkivsjekk/arkivsjekk/XmlEncoding" "byteOrderMark" "[B" .null := Fld.start ((fld_at ev_UCS_4BE).symm.trans (null_v nn10))
  have F_byteOrderMark_EBCDIC : Fld s s.heap st_EBCDIC "com/example/arkivsjekk/arkivsjekk/XmlEncoding" "byteOrderMark" "[B" .null := Fld.start ((fld_at ev_EBCDIC).symm.trans (null_v nn20))
  obtain ⟨ar_UTF_8_byteOrderMark, ea_UTF_8_byteOrderMark⟩ := arr_v nn1
  have F_byteOrderMark_UTF_8 : Fld s s.heap st_UTF_8 "com/example/arkivsjekk/arkivsjekk/XmlEncoding" "byteOrderMark" "[B" (.ref ar_UTF_8_byteOrderMark) := Fld.start ((fld_at ev_UTF_8).symm.trans ea_UTF_8_byteOrderMark)
  obtain ⟨cl_UTF_8_byteOrderMark, A_UTF_8_byteOrderMark⟩ := Arr.start ea_UTF_8_byteOrderMark nn1
  have l_UTF_8_byteOrderMark := own_len ea_UTF_8_byteOrderMark A_UTF_8_byteOrderMark nn2
  have V_UTF_8_byteOrderMark : Arv s s.heap ar_UTF_8_byteOrderMark cl_UTF_8_byteOrderMark.cls .byte (3 : Int32) [(.int (-17 : Int32)), (.int (-69 : Int32)), (.int (-65 : Int32))] (.int (0 : Int32)) := Arv.start hfit A_UTF_8_byteOrderMark l_UTF_8_byteOrderMark.1 l_UTF_8_byteOrderMark.2 (by decide) rfl ⟨own_el ea_UTF_8_byteOrderMark A_UTF_8_byteOrderMark nn3, own_el ea_UTF_8_byteOrderMark A_UTF_8_byteOrderMark nn4, own_el ea_UTF_8_byteOrderMark A_UTF_8_byteOrderMark nn5, trivial⟩
  obtain ⟨ar_UTF_16BE_byteOrderMark, ea_UTF_16BE_byteOrderMark⟩ := arr_v nn12
  have F_byteOrderMark_UTF_16BE : Fld s s.heap st_UTF_16BE "com/example/arkivsjekk/arkivsjekk/XmlEncoding" "byteOrderMark" "[B" (.ref ar_UTF_16BE_byteOrderMark) := Fld.start ((fld_at ev_UTF_16BE).symm.trans ea_UTF_16BE_byteOrderMark)
  obtain ⟨cl_UTF_16BE_byteOrderMark, A_UTF_16BE_byteOrderMark⟩ := Arr.start ea_UTF_16BE_byteOrderMark nn12
  have l_UTF_16BE_byteOrderMark := own_len ea_UTF_16BE_byteOrderMark A_UTF_16BE_byteOrderMark nn13
  have V_UTF_16BE_byteOrderMark : Arv s s.heap ar_UTF_16BE_byteOrderMark cl_UTF_16BE_byteOrderMark.cls .byte (2 : Int32) [(.int (-2 : Int32)), (.int (-1 : Int32))] (.int (0 : Int32)) := Arv.start hfit A_UTF_16BE_byteOrderMark l_UTF_16BE_byteOrderMark.1 l_UTF_16BE_byteOrderMark.2 (by decide) rfl ⟨own_el ea_UTF_16BE_byteOrderMark A_UTF_16BE_byteOrderMark nn17, own_el ea_UTF_16BE_byteOrderMark A_UTF_16BE_byteOrderMark nn21, trivial⟩
  obtain ⟨ar_UTF_16LE_byteOrderMark, ea_UTF_16LE_byteOrderMark⟩ := arr_v nn15
  have F_byteOrderMark_UTF_16LE : Fld s s.heap st_UTF_16LE "com/example/arkivsjekk/arkivsjekk/XmlEncoding" "byteOrderMark" "[B" (.ref ar_UTF_16LE_byteOrderMark) := Fld.start ((fld_at ev_UTF_16LE).symm.trans ea_UTF_16LE_byteOrderMark)
  obtain ⟨cl_UTF_16LE_byteOrderMark, A_UTF_16LE_byteOrderMark⟩ := Arr.start ea_UTF_16LE_byteOrderMark nn15
  have l_UTF_16LE_byteOrderMark := own_len ea_UTF_16LE_byteOrderMark A_UTF_16LE_byteOrderMark nn16
  have V_UTF_16LE_byteOrderMark : Arv s s.heap ar_UTF_16LE_byteOrderMark cl_UTF_16LE_byteOrderMark.cls .byte (2 : Int32) [(.int (-1 : Int32)), (.int (-2 : Int32))] (.int (0 : Int32)) := Arv.start hfit A_UTF_16LE_byteOrderMark l_UTF_16LE_byteOrderMark.1 l_UTF_16LE_byteOrderMark.2 (by decide) rfl ⟨own_el ea_UTF_16LE_byteOrderMark A_UTF_16LE_byteOrderMark nn18, own_el ea_UTF_16LE_byteOrderMark A_UTF_16LE_byteOrderMark nn23, trivial⟩
  obtain ⟨n, o, h1, h2, h3, _, L, rfl, ⟨rfl, N⟩, hq⟩ := rm0 l s _ hw tables_1 i0 i1 i2 i3 i4 i5 st_UTF_8 st_UTF_16BE st_UTF_16LE st_UCS_4BE st_UCS_4LE st_EBCDIC ar_UTF_8_byteOrderMark cl_UTF_8_byteOrderMark.cls ar_UTF_16BE_byteOrderMark cl_UTF_16BE_byteOrderMark.cls ar_UTF_16LE_byteOrderMark cl_UTF_16LE_byteOrderMark.cls s.heap s.heap.size (Nat.le_refl _) S_UTF_8 S_UTF_16BE S_UTF_16LE S_UCS_4BE S_UCS_4LE S_EBCDIC E_UTF_8 E_UTF_16BE E_UTF_16LE E_UCS_4BE E_UCS_4LE E_EBCDIC F_byteOrderMark_UTF_8 F_unitBytes_UTF_8 V_UTF_8_byteOrderMark F_byteOrderMark_UTF_16BE F_unitBytes_UTF_16BE V_UTF_16BE_byteOrderMark F_byteOrderMark_UTF_16LE F_unitBytes_UTF_16LE V_UTF_16LE_byteOrderMark F_byteOrderMark_UCS_4BE F_byteOrderMark_UCS_4LE F_byteOrderMark_EBCDIC p e ha hc hk s m _ below hf ((Spec.applies_iff_loose hf).mp happ).1 ⟨rfl, State.Warmed39.refl s, rfl⟩ trivial
  refine ⟨n, _, h1, h2, h3, hpost _ _ _ _ _ _ ⟨Cond.after_iff.mpr rfl, Cond.after_iff.mpr (eq_i res_at (Term.int_eval (1)) rfl), trivial⟩ ⟨hq.1, hq.2.1, (hq.2.2.sift fun y hy => Or.inr (N y hy)).mono (by decide) (by decide)⟩⟩
theorem main_1_1 : Claimed_1_1 := comes_1 fun _ _ _ _ _ _ h hF => ⟨h.1, hF⟩
theorem main_1_2 : Claimed_1_2 := comes_1 fun _ _ _ _ _ _ h hF => ⟨h.2.1, hF⟩
end Jvm.Pilot.@@N@@
namespace Jvm.Pilot.@@N@@
open Jvm Jvm.ClassFile Sem Op Lib Jvm.Free Jvm.Stand Jvm.Pilot.@@N@@.Jvm.D
/-! MADE BY PROGRAM (witnessworld.py) out of the Statement's table words and the real class files: 12 classes; the members and pool entries that the words name. The judged class is class 1, her method 1. -/
namespace start1
open Jvm.ClassFile
def u (s : String) : CpInfo := .utf8 (stringToUtf16 s)
/-- a pool by its gaps: so many unusable entries, then the entry; so many at the end -/
def gap : Nat → List CpInfo → List CpInfo
  | 0, r => r
  | n + 1, r => .unusable :: gap n r
def poolList (es : List (Nat × CpInfo)) (last : Nat) : List CpInfo := es.foldr (fun e r => gap e.1 (e.2 :: r)) (gap last [])
def pool (es : List (Nat × CpInfo)) (last : Nat) : Array CpInfo := ⟨poolList es last⟩
def fileOf (pool : Array CpInfo) (this : Nat) (attrs : Array Attribute := #[]) (ms : Array MethodInfo := #[]) (fl : Nat := 33) (sup : Nat := 0) (ifs : Array Nat := #[]) (fds : Array FieldInfo := #[]) : ClassFile where
  minorVersion := 0
  majorVersion := 65
  constantPool := pool
  accessFlags := fl
  thisClass := this
  superClass := sup
  interfaces := ifs
  fields := fds
  methods := ms
  attributes := attrs
def plain (name : String) (sup : Option ClassId) : Class where
  name := name
  kind := .ordinary
  loader := none
  accessFlags := 33
  super := sup
  interfaces := #[]
  cf := none
  fields := #[]
  methods := #[]
  instanceTypes := #[]
  staticTypes := #[]
  resolved := #[]
  callSites := []
  init := .initialized
  statics := none
  mirror := none

def pool0 : Array CpInfo := pool [(5, u "<init>"), (0, u "()V"), (1, .class_ 10), (1, u "java/lang/Object")] 113

def k0m0 : Method := { name := "<init>", desc := "()V", sig := { parameters := [], returnType := none }, accessFlags := 1, code := none }
/-- java/lang/Object -/
def k0 : Class := { plain "java/lang/Object" none with
  accessFlags := 33
  interfaces := #[]
  cf := some (fileOf pool0 8 #[] #[{ accessFlags := 1, nameIndex := 5, descriptorIndex := 6, attributes := #[] }] 33 0 #[] #[])
  fields := #[]
  methods := #[k0m0]
  instanceTypes := #[]
  staticTypes := #[]
  resolved := Array.replicate 124 none
  statics := none }

def pool1 : Array CpInfo := pool [(2, .class_ 4), (1, u "java/lang/Object"), (0, u "<init>"), (0, u "()V"), (0, .integer 2147483647), (0, .methodref 9 10), (0, .class_ 11), (0, .nameAndType 12 13), (0, u "com/example/arkivsjekk/arkivsjekk/XmlEncodingByteOrderMarkUnitsPinLaw"), (0, u "pick"), (0, u "(I)Lcom/example/arkivsjekk/arkivsjekk/XmlEncoding;"), (0, .methodref 15 16), (0, .class_ 17), (0, .nameAndType 18 19), (0, u "com/example/arkivsjekk/arkivsjekk/XmlEncoding"), (0, u "byteOrderMarkUnits"), (0, u "([BI)I"), (0, .methodref 9 21), (0, .nameAndType 22 23), (0, u "expected"), (0, u "(IBBBI)I"), (0, .fieldref 15 25), (0, .nameAndType 26 27), (0, u "UTF_8"), (0, u "Lcom/example/arkivsjekk/arkivsjekk/XmlEncoding;"), (0, .fieldref 15 29), (0, .nameAndType 30 27), (0, u "UTF_16BE"), (0, .fieldref 15 32), (0, .nameAndType 33 27), (0, u "UTF_16LE"), (0, .fieldref 15 35), (0, .nameAndType 36 27), (0, u "UCS_4BE"), (0, .fieldref 15 38), (0, .nameAndType 39 27), (0, u "UCS_4LE"), (0, .fieldref 15 41), (0, .nameAndType 42 27), (0, u "EBCDIC"), (2, u "law"), (0, u "(IIIIII)Z")] 5

def k1m0 : Method := { name := "<init>", desc := "()V", sig := { parameters := [], returnType := none }, accessFlags := 1, code := none }
def k1c1 : Code := { maxStack := 6, maxLocals := 12, code := code, exceptionTable := #[], attributes := #[] }
def k1m1 : Method := { name := "law", desc := "(IIIIII)Z", sig := { parameters := [.int, .int, .int, .int, .int, .int], returnType := some .boolean }, accessFlags := 9, code := some k1c1 }
def k1c2 : Code := { maxStack := 2, maxLocals := 1, code := method_3_code, exceptionTable := #[], attributes := #[] }
def k1m2 : Method := { name := "pick", desc := "(I)Lcom/example/arkivsjekk/arkivsjekk/XmlEncoding;", sig := { parameters := [.int], returnType := some (.object "com/example/arkivsjekk/arkivsjekk/XmlEncoding") }, accessFlags := 10, code := some k1c2 }
def k1c3 : Code := { maxStack := 2, maxLocals := 5, code := method_4_code, exceptionTable := #[], attributes := #[] }
def k1m3 : Method := { name := "expected", desc := "(IBBBI)I", sig := { parameters := [.int, .byte, .byte, .byte, .int], returnType := some .int }, accessFlags := 10, code := some k1c3 }
/-- com/example/arkivsjekk/arkivsjekk/XmlEncodingByteOrderMarkUnitsPinLaw -/
def k1 : Class := { plain "com/example/arkivsjekk/arkivsjekk/XmlEncodingByteOrderMarkUnitsPinLaw" (some 0) with
  accessFlags := 49
  interfaces := #[]
  cf := some (fileOf pool1 9 #[] #[{ accessFlags := 1, nameIndex := 5, descriptorIndex := 6, attributes := #[] }, { accessFlags := 9, nameIndex := 45, descriptorIndex := 46, attributes := #[] }, { accessFlags := 10, nameIndex := 12, descriptorIndex := 13, attributes := #[] }, { accessFlags := 10, nameIndex := 22, descriptorIndex := 23, attributes := #[] }] 49 2 #[] #[])
  fields := #[]
  methods := #[k1m0, k1m1, k1m2, k1m3]
  instanceTypes := #[]
  staticTypes := #[]
  resolved := Array.replicate 52 none
  statics := none }

def pool2 : Array CpInfo := pool [(1, .class_ 2), (0, u "java/lang/constant/Constable"), (0, .class_ 4), (0, u "java/lang/Object")] 6

/-- java/lang/constant/Constable -/
def k2 : Class := { plain "java/lang/constant/Constable" (some 0) with
  accessFlags := 1537
  interfaces := #[]
  cf := some (fileOf pool2 1 #[] #[] 1537 3 #[] #[])
  fields := #[]
  methods := #[]
  instanceTypes := #[]
  staticTypes := #[]
  resolved := Array.replicate 11 none
  statics := none }

def pool3 : Array CpInfo := pool [(1, .class_ 2), (0, u "java/lang/Comparable"), (0, .class_ 4), (0, u "java/lang/Object")] 7

/-- java/lang/Comparable -/
def k3 : Class := { plain "java/lang/Comparable" (some 0) with
  accessFlags := 1537
  interfaces := #[]
  cf := some (fileOf pool3 1 #[] #[] 1537 3 #[] #[])
  fields := #[]
  methods := #[]
  instanceTypes := #[]
  staticTypes := #[]
  resolved := Array.replicate 12 none
  statics := none }

def pool4 : Array CpInfo := pool [(1, .class_ 2), (0, u "java/io/Serializable"), (0, .class_ 4), (0, u "java/lang/Object")] 2

/-- java/io/Serializable -/
def k4 : Class := { plain "java/io/Serializable" (some 0) with
  accessFlags := 1537
  interfaces := #[]
  cf := some (fileOf pool4 1 #[] #[] 1537 3 #[] #[])
  fields := #[]
  methods := #[]
  instanceTypes := #[]
  staticTypes := #[]
  resolved := Array.replicate 7 none
  statics := none }

def pool5 : Array CpInfo := pool [(2, .class_ 4), (1, u "java/lang/Enum"), (0, u "name"), (0, u "Ljava/lang/String;"), (2, u "ordinal"), (0, u "I"), (1, .class_ 14), (1, u "java/lang/Object"), (4, u "hash"), (86, .class_ 108), (1, u "java/lang/Enum$EnumDesc"), (2, .class_ 112), (0, u "java/lang/constant/Constable"), (0, .class_ 114), (0, u "java/lang/Comparable"), (0, .class_ 116), (0, u "java/io/Serializable")] 87

/-- java/lang/Enum -/
def k5 : Class := { plain "java/lang/Enum" (some 0) with
  accessFlags := 1057
  interfaces := #[2, 3, 4]
  cf := some (fileOf pool5 2 #[.nestMembers #[106]] #[] 1057 12 #[111, 113, 115] #[{ accessFlags := 18, nameIndex := 5, descriptorIndex := 6, attributes := #[] }, { accessFlags := 18, nameIndex := 9, descriptorIndex := 10, attributes := #[] }, { accessFlags := 2, nameIndex := 19, descriptorIndex := 10, attributes := #[] }])
  fields := #[{ name := "name", type := (.object "java/lang/String"), accessFlags := 18, slot := 0, constantValue := 0 }, { name := "ordinal", type := .int, accessFlags := 18, slot := 1, constantValue := 0 }, { name := "hash", type := .int, accessFlags := 2, slot := 2, constantValue := 0 }]
  methods := #[]
  instanceTypes := #[(.object "java/lang/String"), .int, .int]
  staticTypes := #[]
  resolved := Array.replicate 204 none
  statics := none }

def pool6 : Array CpInfo := pool [(1, .class_ 2), (0, u "com/example/arkivsjekk/arkivsjekk/XmlEncoding"), (2, u "UTF_8"), (0, u "Lcom/example/arkivsjekk/arkivsjekk/XmlEncoding;"), (2, u "UTF_16BE"), (2, u "UTF_16LE"), (2, u "UCS_4BE"), (2, u "UCS_4LE"), (2, u "EBCDIC"), (2, u "$VALUES"), (0, u "[Lcom/example/arkivsjekk/arkivsjekk/XmlEncoding;"), (6, .class_ 34), (1, u "java/lang/Enum"), (8, u "label"), (0, u "Ljava/lang/String;"), (0, .fieldref 1 46), (0, .nameAndType 47 48), (0, u "unitBytes"), (0, u "I"), (2, u "bigEndian"), (0, u "Z"), (0, .fieldref 1 54), (0, .nameAndType 55 56), (0, u "byteOrderMark"), (0, u "[B"), (2, u "opening"), (8, u "names"), (0, u "Ljava/util/List;"), (4, .methodref 1 75), (0, .nameAndType 76 77), (0, u "startsWith"), (0, u "([BI[B)Z"), (109, u "CANNOT_CHECK"), (13, u "byteOrderMarkUnits"), (0, u "([BI)I")] 29

def k6c0 : Code := { maxStack := 3, maxLocals := 3, code := prog_62_method_7_code, exceptionTable := #[], attributes := #[] }
def k6m0 : Method := { name := "byteOrderMarkUnits", desc := "([BI)I", sig := { parameters := [(.array .byte), .int], returnType := some .int }, accessFlags := 0, code := some k6c0 }
def k6c1 : Code := { maxStack := 3, maxLocals := 5, code := prog_62_method_13_code, exceptionTable := #[], attributes := #[] }
def k6m1 : Method := { name := "startsWith", desc := "([BI[B)Z", sig := { parameters := [(.array .byte), .int, (.array .byte)], returnType := some .boolean }, accessFlags := 10, code := some k6c1 }
/-- com/example/arkivsjekk/arkivsjekk/XmlEncoding -/
def k6 : Class := { plain "com/example/arkivsjekk/arkivsjekk/XmlEncoding" (some 5) with
  accessFlags := 16432
  interfaces := #[]
  cf := some (fileOf pool6 1 #[] #[{ accessFlags := 0, nameIndex := 201, descriptorIndex := 202, attributes := #[] }, { accessFlags := 10, nameIndex := 76, descriptorIndex := 77, attributes := #[] }] 16432 32 #[] #[{ accessFlags := 16409, nameIndex := 5, descriptorIndex := 6, attributes := #[] }, { accessFlags := 16409, nameIndex := 9, descriptorIndex := 6, attributes := #[] }, { accessFlags := 16409, nameIndex := 12, descriptorIndex := 6, attributes := #[] }, { accessFlags := 16409, nameIndex := 15, descriptorIndex := 6, attributes := #[] }, { accessFlags := 16409, nameIndex := 18, descriptorIndex := 6, attributes := #[] }, { accessFlags := 16409, nameIndex := 21, descriptorIndex := 6, attributes := #[] }, { accessFlags := 26, nameIndex := 187, descriptorIndex := 44, attributes := #[] }, { accessFlags := 18, nameIndex := 43, descriptorIndex := 44, attributes := #[] }, { accessFlags := 18, nameIndex := 47, descriptorIndex := 48, attributes := #[] }, { accessFlags := 18, nameIndex := 51, descriptorIndex := 52, attributes := #[] }, { accessFlags := 18, nameIndex := 55, descriptorIndex := 56, attributes := #[] }, { accessFlags := 18, nameIndex := 59, descriptorIndex := 56, attributes := #[] }, { accessFlags := 18, nameIndex := 68, descriptorIndex := 69, attributes := #[] }, { accessFlags := 4122, nameIndex := 24, descriptorIndex := 25, attributes := #[] }])
  fields := #[{ name := "UTF_8", type := (.object "com/example/arkivsjekk/arkivsjekk/XmlEncoding"), accessFlags := 16409, slot := 0, constantValue := 0 }, { name := "UTF_16BE", type := (.object "com/example/arkivsjekk/arkivsjekk/XmlEncoding"), accessFlags := 16409, slot := 1, constantValue := 0 }, { name := "UTF_16LE", type := (.object "com/example/arkivsjekk/arkivsjekk/XmlEncoding"), accessFlags := 16409, slot := 2, constantValue := 0 }, { name := "UCS_4BE", type := (.object "com/example/arkivsjekk/arkivsjekk/XmlEncoding"), accessFlags := 16409, slot := 3, constantValue := 0 }, { name := "UCS_4LE", type := (.object "com/example/arkivsjekk/arkivsjekk/XmlEncoding"), accessFlags := 16409, slot := 4, constantValue := 0 }, { name := "EBCDIC", type := (.object "com/example/arkivsjekk/arkivsjekk/XmlEncoding"), accessFlags := 16409, slot := 5, constantValue := 0 }, { name := "CANNOT_CHECK", type := (.object "java/lang/String"), accessFlags := 26, slot := 6, constantValue := 0 }, { name := "label", type := (.object "java/lang/String"), accessFlags := 18, slot := 3, constantValue := 0 }, { name := "unitBytes", type := .int, accessFlags := 18, slot := 4, constantValue := 0 }, { name := "bigEndian", type := .boolean, accessFlags := 18, slot := 5, constantValue := 0 }, { name := "byteOrderMark", type := (.array .byte), accessFlags := 18, slot := 6, constantValue := 0 }, { name := "opening", type := (.array .byte), accessFlags := 18, slot := 7, constantValue := 0 }, { name := "names", type := (.object "java/util/List"), accessFlags := 18, slot := 8, constantValue := 0 }, { name := "$VALUES", type := (.array (.object "com/example/arkivsjekk/arkivsjekk/XmlEncoding")), accessFlags := 4122, slot := 7, constantValue := 0 }]
  methods := #[k6m0, k6m1]
  instanceTypes := #[(.object "java/lang/String"), .int, .int, (.object "java/lang/String"), .int, .boolean, (.array .byte), (.array .byte), (.object "java/util/List")]
  staticTypes := #[(.object "com/example/arkivsjekk/arkivsjekk/XmlEncoding"), (.object "com/example/arkivsjekk/arkivsjekk/XmlEncoding"), (.object "com/example/arkivsjekk/arkivsjekk/XmlEncoding"), (.object "com/example/arkivsjekk/arkivsjekk/XmlEncoding"), (.object "com/example/arkivsjekk/arkivsjekk/XmlEncoding"), (.object "com/example/arkivsjekk/arkivsjekk/XmlEncoding"), (.object "java/lang/String"), (.array (.object "com/example/arkivsjekk/arkivsjekk/XmlEncoding"))]
  resolved := Array.replicate 232 none
  statics := some 0 }

def pool7 : Array CpInfo := pool [(1, u "java/lang/Cloneable"), (0, .class_ 1), (0, u "java/lang/Object"), (0, .class_ 3)] 3

/-- java/lang/Cloneable -/
def k7 : Class := { plain "java/lang/Cloneable" (some 0) with
  accessFlags := 1537
  interfaces := #[]
  cf := some (fileOf pool7 2 #[] #[] 1537 4 #[] #[])
  fields := #[]
  methods := #[]
  instanceTypes := #[]
  staticTypes := #[]
  resolved := Array.replicate 8 none
  statics := none }

/-- the primitive byte -/
def k8 : Class := { plain "byte" none with kind := .primitive 'B', accessFlags := 0x411 }
/-- [B -/
def k9 : Class := { plain "[B" (some 0) with kind := .array 8 .byte, interfaces := #[7, 4], accessFlags := 1041 }

/-- the primitive int -/
def k10 : Class := { plain "int" none with kind := .primitive 'I', accessFlags := 0x411 }
/-- [I -/
def k11 : Class := { plain "[I" (some 0) with kind := .array 10 .int, interfaces := #[7, 4], accessFlags := 1041 }

def heap : Heap := #[{ cls := 6, slots := #[.ref 1, .ref 2, .ref 3, .ref 4, .ref 5, .ref 6, .null, .null], vm := .statics 6 },
  { cls := 6, slots := #[.null, .int 0, .int 0, .null, .int 1, .int 0, .ref 7, .null, .null], vm := .none },
  { cls := 6, slots := #[.null, .int 1, .int 0, .null, .int 2, .int 0, .ref 8, .ref 10, .null], vm := .none },
  { cls := 6, slots := #[.null, .int 2, .int 0, .null, .int 2, .int 0, .ref 9, .ref 11, .null], vm := .none },
  { cls := 6, slots := #[.null, .int 3, .int 0, .null, .int 4, .int 0, .null, .ref 12, .null], vm := .none },
  { cls := 6, slots := #[.null, .int 4, .int 0, .null, .int 4, .int 0, .null, .ref 13, .null], vm := .none },
  { cls := 6, slots := #[.null, .int 5, .int 0, .null, .int 1, .int 0, .null, .ref 14, .null], vm := .none },
  { cls := 9, slots := #[.int (-17), .int (-69), .int (-65)], vm := .none },
  { cls := 9, slots := #[.int (-2), .int (-1)], vm := .none },
  { cls := 9, slots := #[.int (-1), .int (-2)], vm := .none },
  { cls := 9, slots := #[.int 0, .int 60, .int 0, .int 63], vm := .none },
  { cls := 9, slots := #[.int 60, .int 0, .int 63, .int 0], vm := .none },
  { cls := 9, slots := #[.int 0, .int 0, .int 0, .int 60], vm := .none },
  { cls := 9, slots := #[.int 60, .int 0, .int 0, .int 0], vm := .none },
  { cls := 9, slots := #[.int 76, .int 111, .int (-89), .int (-108)], vm := .none }]
def classes : Array Class := #[k0, k1, k2, k3, k4, k5, k6, k7, k8, k9, k10, k11]
def interned : List (Array UInt16 × Addr) := []
def slotsUsed : Nat := 89
def theMethod : MethodId := ⟨1, 1⟩
def args0 : Array Value := #[.int 1, .int 1, .int 1, .int 1, .int 1, .int 1]
def aboutOver (below : List Frame) : State where
  vm := { classes := classes, interned := interned.toArray }
  heap := heap
  slotsUsed := slotsUsed
  threads := #[{ frames := .invoking theMethod args0 :: below }]
def below0 : List Frame := [.native { method := ⟨0, 0⟩, args := #[] }]
def about1 : State := aboutOver below0
def p0 : Program := .bare "" "" ""
def e0 : Env := launch0.env 0 0 0
theorem w_frames : about1.frames = Frame.invoking theMethod args0 :: below0 := rfl
set_option maxRecDepth 65536 in
theorem w_args : argsFit about1.vm theMethod args0 = true := by decide +kernel
set_option maxRecDepth 65536 in
theorem w_heap : heapFits about1 = true := by decide +kernel
set_option maxRecDepth 65536 in
theorem w_runnable : about1.curStatus? = some .runnable := by decide +kernel
set_option maxRecDepth 65536 in
theorem w_alone : about1.alone = true := by decide +kernel
set_option maxRecDepth 65536 in
theorem w_named : about1.methodNamed? x = some theMethod := by decide +kernel
set_option maxRecDepth 65536 in
theorem w_hears : about1.hears theMethod below0 = true := by decide +kernel
set_option maxRecDepth 65536 in
theorem w_ripe : about1.ripe theMethod args0 below0 = true := by decide +kernel
theorem w_running : about1.status = .running := rfl
set_option maxRecDepth 65536 in
theorem w_room : about1.hasRoom e0.platform room_1 = true :=
  launch0.hasRoom_least _ room_1 (by decide +kernel) (by decide +kernel) (by decide +kernel) (by decide +kernel) (by decide +kernel) (by decide +kernel)
theorem allAtoms_all (ts : List Jvm.Cond) (a : Array Jvm.Value) (st : Jvm.State) : (allAtoms ts).before a st = ts.all (fun c => c.before a st) := by
  induction ts with
  | nil => rfl
  | cons c t ih =>
    show (Jvm.Cond.and c (allAtoms t)).before a st = _
    rw [Jvm.Cond.before_and, ih, List.all_cons]
def words1 : List Jvm.Cond := Jvm.Cond.code x code maxLocals ret :: tables_1
/-- a 'code' word, met by the world's own term for the bytes: nothing is compared byte by byte -/
theorem code_word {y : MethodName} {bytes : ByteArray} {mx : Nat} {rt : Option FieldType} {a : Array Value} {s : State} {m : MethodId} {meth : Method} {c : Code} (h1 : s.methodNamed? y = some m) (h2 : s.vm.method? m = some meth) (h3 : meth.code = some c) (h4 : c.code = bytes)
    (h5 : (c.maxLocals == mx && c.exceptionTable.isEmpty && decide (c.maxStack ≤ mostOperands) && decide (meth.sig.returnType = rt) && !meth.locks && decide (parseMethodDescriptor y.desc = some meth.sig)) = true) : (Jvm.Cond.code y bytes mx rt).before a s = true := by
  simp only [Bool.and_eq_true, beq_iff_eq, Bool.not_eq_true', decide_eq_true_eq] at h5
  obtain ⟨⟨⟨⟨⟨g1, g2⟩, g3⟩, g4⟩, g5⟩, g6⟩ := h5
  simp [Cond.before, Cond.holds, Cond.value, h1, h2, h3, h4, g1, g2, g3, g4, g5, g6]
def isCode : Jvm.Cond → Bool
  | .code _ _ _ _ => true
  | _ => false
theorem all_split {L : List Jvm.Cond} {P : Jvm.Cond → Bool} (h1 : L.all (fun c => isCode c || P c) = true) (h2 : ∀ c ∈ L.filter isCode, P c = true) : L.all P = true := by
  refine List.all_eq_true.mpr fun c hc => ?_
  have h := List.all_eq_true.mp h1 c hc
  rcases Bool.eq_false_or_eq_true (isCode c) with hi | hi
  · exact h2 c (List.mem_filter.mpr ⟨hc, hi⟩)
  · simpa [hi] using h
set_option maxRecDepth 65536 in
theorem w_c0 : (Jvm.Cond.code x code maxLocals ret).before args0 about1 = true := code_word (m := ⟨1, 1⟩) (meth := k1m1) (c := k1c1) (by decide +kernel) rfl rfl rfl (by decide +kernel)
set_option maxRecDepth 65536 in
theorem w_c1 : (Jvm.Cond.code ({ cls := "com/example/arkivsjekk/arkivsjekk/XmlEncodingByteOrderMarkUnitsPinLaw", name := "pick", desc := "(I)Lcom/example/arkivsjekk/arkivsjekk/XmlEncoding;" } : Jvm.MethodName) method_3_code (1 : Nat) (Option.some (Jvm.ClassFile.FieldType.object "com/example/arkivsjekk/arkivsjekk/XmlEncoding"))).before args0 about1 = true := code_word (m := ⟨1, 2⟩) (meth := k1m2) (c := k1c2) (by decide +kernel) rfl rfl rfl (by decide +kernel)
set_option maxRecDepth 65536 in
theorem w_c2 : (Jvm.Cond.code ({ cls := "com/example/arkivsjekk/arkivsjekk/XmlEncoding", name := "byteOrderMarkUnits", desc := "([BI)I" } : Jvm.MethodName) prog_62_method_7_code (3 : Nat) (Option.some Jvm.ClassFile.FieldType.int)).before args0 about1 = true := code_word (m := ⟨6, 0⟩) (meth := k6m0) (c := k6c0) (by decide +kernel) rfl rfl rfl (by decide +kernel)
set_option maxRecDepth 65536 in
theorem w_c3 : (Jvm.Cond.code ({ cls := "com/example/arkivsjekk/arkivsjekk/XmlEncoding", name := "startsWith", desc := "([BI[B)Z" } : Jvm.MethodName) prog_62_method_13_code (5 : Nat) (Option.some Jvm.ClassFile.FieldType.boolean)).before args0 about1 = true := code_word (m := ⟨6, 1⟩) (meth := k6m1) (c := k6c1) (by decide +kernel) rfl rfl rfl (by decide +kernel)
set_option maxRecDepth 65536 in
theorem w_c4 : (Jvm.Cond.code ({ cls := "com/example/arkivsjekk/arkivsjekk/XmlEncodingByteOrderMarkUnitsPinLaw", name := "expected", desc := "(IBBBI)I" } : Jvm.MethodName) method_4_code (5 : Nat) (Option.some Jvm.ClassFile.FieldType.int)).before args0 about1 = true := code_word (m := ⟨1, 3⟩) (meth := k1m3) (c := k1c3) (by decide +kernel) rfl rfl rfl (by decide +kernel)
def codes1 : List Jvm.Cond := [Jvm.Cond.code x code maxLocals ret, Jvm.Cond.code ({ cls := "com/example/arkivsjekk/arkivsjekk/XmlEncodingByteOrderMarkUnitsPinLaw", name := "pick", desc := "(I)Lcom/example/arkivsjekk/arkivsjekk/XmlEncoding;" } : Jvm.MethodName) method_3_code (1 : Nat) (Option.some (Jvm.ClassFile.FieldType.object "com/example/arkivsjekk/arkivsjekk/XmlEncoding")), Jvm.Cond.code ({ cls := "com/example/arkivsjekk/arkivsjekk/XmlEncoding", name := "byteOrderMarkUnits", desc := "([BI)I" } : Jvm.MethodName) prog_62_method_7_code (3 : Nat) (Option.some Jvm.ClassFile.FieldType.int), Jvm.Cond.code ({ cls := "com/example/arkivsjekk/arkivsjekk/XmlEncoding", name := "startsWith", desc := "([BI[B)Z" } : Jvm.MethodName) prog_62_method_13_code (5 : Nat) (Option.some Jvm.ClassFile.FieldType.boolean), Jvm.Cond.code ({ cls := "com/example/arkivsjekk/arkivsjekk/XmlEncodingByteOrderMarkUnitsPinLaw", name := "expected", desc := "(IBBBI)I" } : Jvm.MethodName) method_4_code (5 : Nat) (Option.some Jvm.ClassFile.FieldType.int)]
set_option maxRecDepth 65536 in
theorem codes_eq : words1.filter isCode = codes1 := rfl
theorem w_codes : ∀ c ∈ words1.filter isCode, c.before args0 about1 = true := by
  rw [codes_eq]
  intro c hc
  simp only [codes1, List.mem_cons, List.not_mem_nil, or_false] at hc
  rcases hc with rfl | rfl | rfl | rfl | rfl
  · exact w_c0
  · exact w_c1
  · exact w_c2
  · exact w_c3
  · exact w_c4
set_option maxRecDepth 65536 in
theorem w_t1 : (words1.take 24).all (fun c => isCode c || c.before args0 about1) = true := by decide +kernel
set_option maxRecDepth 65536 in
theorem w_t2 : (words1.drop 24).all (fun c => isCode c || c.before args0 about1) = true := by decide +kernel
theorem w_tables : (allAtoms (Jvm.Cond.code x code maxLocals ret :: tables_1)).before args0 about1 = true := by
  rw [allAtoms_all]
  show words1.all (fun c => c.before args0 about1) = true
  refine all_split ?_ w_codes
  rw [← List.take_append_drop 24 words1, List.all_append, w_t1, w_t2]
  rfl
set_option maxRecDepth 65536 in
theorem w_case : (Jvm.Cond.and given_1 narrow_1).before args0 about1 = true := by decide +kernel
theorem w_applies : (headSpec (Jvm.Cond.code x code maxLocals ret :: tables_1) room_1).applies x e0.platform about1 = true :=
  (Spec.applies_iff w_frames).mpr ⟨w_running, w_runnable, w_alone, w_named, w_hears, w_ripe, w_room, w_tables⟩
theorem atStart : AtStart classFile x code maxLocals ret World_1 tables_1 room_1 Calls_1 rest_1 Pre_1 launch0 p0 e0 about1 theMethod args0 below0 :=
  ⟨lists_1, trivial, launch0.admits_env _ _ _, launch0.least_env, fairChoices_fair.cas, fairChoices_fair.clock, w_frames, w_args, w_heap, w_applies, trivial, trivial, w_case⟩
end start1
theorem witness_1 : WitnessClaimed_1 := ⟨start1.p0, start1.e0, start1.about1, start1.theMethod, start1.args0, start1.below0, start1.atStart⟩
end Jvm.Pilot.@@N@@
