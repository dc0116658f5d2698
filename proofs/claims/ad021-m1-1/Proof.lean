import JvmDerived
import JvmDerived.Pilot.@@N@@Statement
import JvmDerived.Pilot.@@N@@Code
set_option linter.unusedVariables false
set_option linter.unusedSimpArgs false
namespace Jvm.RoadKit
open Sem ClassFile Op Lib Jvm.Stand Jvm.Free Jvm.LawKit
section New
variable {p : Program} {l : Launch} {e : Env} {R : Room} {s : State} {m : MethodId} {args : Array Value} {below : List Frame} {meth : Method} {c : Code} {T : State} {locs : List Loc} {cells slots : Nat}
theorem retI (X : Stand p l e R s m args below meth c T locs cells slots) (hx : p.tables.exec = Jvm.exec) {pc : Nat} {Ls : Array Slot} {z : Int32} {rest : List Value} (hret : meth.sig.returnType = some .int) (hd : decode c.code pc = .ok (.ireturn, 1)) {fs : List Frame}
    (hl : ∀ (f : JFrame) (acts : List Action), f.method = m → f.locked = none → f.entered = [] → (doReturn e (T.setTop f) acts (some (.int z))).1 = T.setFrames fs) : Steps p.tables e below (T.setTop (mkF m pc Ls (.int z :: rest))) (T.setFrames fs) :=
  retOut X hx hret rfl (Or.inl ⟨rfl, Or.inl rfl, z, rfl⟩) hd hl
theorem retJ (X : Stand p l e R s m args below meth c T locs cells slots) (hx : p.tables.exec = Jvm.exec) {pc : Nat} {Ls : Array Slot} {z : Int64} {rest : List Value} (hret : meth.sig.returnType = some .long) (hd : decode c.code pc = .ok (.lreturn, 1)) {fs : List Frame}
    (hl : ∀ (f : JFrame) (acts : List Action), f.method = m → f.locked = none → f.entered = [] → (doReturn e (T.setTop f) acts (some (.long z))).1 = T.setFrames fs) : Steps p.tables e below (T.setTop (mkF m pc Ls (.long z :: rest))) (T.setFrames fs) :=
  retOut X hx hret rfl (Or.inr (Or.inl ⟨rfl, rfl, z, rfl⟩)) hd hl
theorem retA (X : Stand p l e R s m args below meth c T locs cells slots) (hx : p.tables.exec = Jvm.exec) {pc : Nat} {Ls : Array Slot} {w : Value} {t : FieldType} {rest : List Value} (hret : meth.sig.returnType = some t) (hd : decode c.code pc = .ok (.areturn, 1)) {fs : List Frame}
    (hl : ∀ (f : JFrame) (acts : List Action), f.method = m → f.locked = none → f.entered = [] → (doReturn e (T.setTop f) acts (some w)).1 = T.setFrames fs) (ht : t.isReference = true) (hw : w.isRef = true) : Steps p.tables e below (T.setTop (mkF m pc Ls (w :: rest))) (T.setFrames fs) :=
  retOut X hx hret (by cases t <;> first | rfl | (cases ht; done)) (Or.inr (Or.inr (Or.inr (Or.inr ⟨rfl, ht, hw⟩)))) hd hl
/-- from the state S on, the body runs to its end and leaves what Q says -/
def Gz (p : Program) (e : Env) (below : List Frame) (s : State) (C N : Nat) (Q : Option Value → Heap → List Loc → Prop) (S : State) : Prop :=
  ∃ s₂ o, Steps p.tables e below S s₂ ∧ s₂.status = .running ∧ Ended s₂ below o ∧ ∃ v L, o = .returned v ∧ Q v s₂.heap L ∧ FrameEnd s o s₂ L C N
variable {C N : Nat} {Q : Option Value → Heap → List Loc → Prop} {S S' : State}
theorem Gz.st (k : ∀ t, Steps p.tables e below S' t → Steps p.tables e below S t) (h : Gz p e below s C N Q S') : Gz p e below s C N Q S := by
  obtain ⟨s₂, o, h1, h2⟩ := h
  exact ⟨s₂, o, k _ h1, h2⟩
theorem Gz.tr (k : Steps p.tables e below S S') (h : Gz p e below s C N Q S') : Gz p e below s C N Q S := by
  obtain ⟨s₂, o, h1, h2⟩ := h
  exact ⟨s₂, o, k.trans h1, h2⟩
def Gw (p : Program) (e : Env) (below : List Frame) (s : State) (C N : Nat) (Q : Option Value → Heap → List Loc → Prop) (S : State) : Prop :=
  ∃ s₂ o, Steps p.tables e below S s₂ ∧ s₂.status = .running ∧ Ended s₂ below o ∧ ∃ v L, o = .returned v ∧ Q v s₂.heap L ∧ ReturnedEndW s o s₂ L C N
theorem Gw.st (k : ∀ t, Steps p.tables e below S' t → Steps p.tables e below S t) (h : Gw p e below s C N Q S') : Gw p e below s C N Q S := by
  obtain ⟨s₂, o, h1, h2⟩ := h
  exact ⟨s₂, o, k _ h1, h2⟩
theorem Gw.tr (k : Steps p.tables e below S S') (h : Gw p e below s C N Q S') : Gw p e below s C N Q S := by
  obtain ⟨s₂, o, h1, h2⟩ := h
  exact ⟨s₂, o, k.trans h1, h2⟩
variable {pc : Nat} {Ls : Array Slot} {st : List Value} {Z : State} {a0 : Array Value} {hh : Heap}
theorem Gz.iloadN (n : Nat) {k : Fin 4} {v : Int32} (X : Stand p l e R s m args below meth c T locs cells slots) (hx : p.tables.exec = Jvm.exec) (hd : decode c.code pc = .ok (.iload_n k, 1)) (hl : Ls[k.val]? = some (.val (.int v))) (q : pc + 1 = n) (h : Gz p e below s C N Q (T.setTop (mkF m n Ls (.int v :: st)))) : Gz p e below s C N Q (T.setTop (mkF m pc Ls st)) := by subst q; exact Gz.st (fun t k => XS.iloadN X.here hx rfl hd hl k) h
theorem Gz.iload (n : Nat) {k : Nat} {v : Int32} (X : Stand p l e R s m args below meth c T locs cells slots) (hx : p.tables.exec = Jvm.exec) (hd : decode c.code pc = .ok (.iload k, 2)) (hl : Ls[k]? = some (.val (.int v))) (q : pc + 2 = n) (h : Gz p e below s C N Q (T.setTop (mkF m n Ls (.int v :: st)))) : Gz p e below s C N Q (T.setTop (mkF m pc Ls st)) := by subst q; exact Gz.st (fun t k => XS.iload X.here hx rfl hd hl k) h
theorem Gz.istoreN (n : Nat) (l' : Array Slot) {k : Fin 4} {v : Int32} (X : Stand p l e R s m args below meth c T locs cells slots) (hx : p.tables.exec = Jvm.exec) (hd : decode c.code pc = .ok (.istore_n k, 1)) (hl : storeLocals Ls k.val (.int v) = some l') (q : pc + 1 = n) (h : Gz p e below s C N Q (T.setTop (mkF m n l' st))) : Gz p e below s C N Q (T.setTop (mkF m pc Ls (.int v :: st))) := by subst q; exact Gz.st (fun t k => XS.istoreN X.here hx rfl hd rfl hl k) h
theorem Gz.istore (n : Nat) (l' : Array Slot) {k : Nat} {v : Int32} (X : Stand p l e R s m args below meth c T locs cells slots) (hx : p.tables.exec = Jvm.exec) (hd : decode c.code pc = .ok (.istore k, 2)) (hl : storeLocals Ls k (.int v) = some l') (q : pc + 2 = n) (h : Gz p e below s C N Q (T.setTop (mkF m n l' st))) : Gz p e below s C N Q (T.setTop (mkF m pc Ls (.int v :: st))) := by subst q; exact Gz.st (fun t k => XS.istore X.here hx rfl hd rfl hl k) h
theorem Gz.aloadN (n : Nat) {k : Fin 4} {v : Value} (X : Stand p l e R s m args below meth c T locs cells slots) (hx : p.tables.exec = Jvm.exec) (hd : decode c.code pc = .ok (.aload_n k, 1)) (hl : Ls[k.val]? = some (.val v)) (hv : v.isRef = true) (q : pc + 1 = n) (h : Gz p e below s C N Q (T.setTop (mkF m n Ls (v :: st)))) : Gz p e below s C N Q (T.setTop (mkF m pc Ls st)) := by subst q; exact Gz.st (fun t k => XS.aloadN X.here hx rfl hd hl hv k) h
theorem Gz.aload (n : Nat) {k : Nat} {v : Value} (X : Stand p l e R s m args below meth c T locs cells slots) (hx : p.tables.exec = Jvm.exec) (hd : decode c.code pc = .ok (.aload k, 2)) (hl : Ls[k]? = some (.val v)) (hv : v.isRef = true) (q : pc + 2 = n) (h : Gz p e below s C N Q (T.setTop (mkF m n Ls (v :: st)))) : Gz p e below s C N Q (T.setTop (mkF m pc Ls st)) := by subst q; exact Gz.st (fun t k => XS.aload X.here hx rfl hd hl hv k) h
theorem Gz.astoreN (n : Nat) (l' : Array Slot) {k : Fin 4} {v : Value} (X : Stand p l e R s m args below meth c T locs cells slots) (hx : p.tables.exec = Jvm.exec) (hd : decode c.code pc = .ok (.astore_n k, 1)) (hl : storeLocals Ls k.val v = some l') (hv : v.isRef = true) (q : pc + 1 = n) (h : Gz p e below s C N Q (T.setTop (mkF m n l' st))) : Gz p e below s C N Q (T.setTop (mkF m pc Ls (v :: st))) := by subst q; exact Gz.st (fun t k => XS.astoreN X.here hx rfl hd rfl hv hl k) h
theorem Gz.iconst (n : Nat) (v : Int32) (X : Stand p l e R s m args below meth c T locs cells slots) (hx : p.tables.exec = Jvm.exec) {i : Int} (hd : decode c.code pc = .ok (.iconst i, 1)) (hv : Int32.ofInt i = v) (q : pc + 1 = n) (h : Gz p e below s C N Q (T.setTop (mkF m n Ls (.int v :: st)))) : Gz p e below s C N Q (T.setTop (mkF m pc Ls st)) := by subst q hv; exact Gz.st (fun t k => XS.iconst X.here hx rfl hd k) h
theorem Gz.iinc (n : Nat) (l' : Array Slot) (X : Stand p l e R s m args below meth c T locs cells slots) (hx : p.tables.exec = Jvm.exec) {k : Nat} {i : Int} {x : Int32} (hd : decode c.code pc = .ok (.iinc k i, 3)) (hl : Ls[k]? = some (.val (.int x))) (hl' : storeLocals Ls k (.int (x + Int32.ofInt i)) = some l') (q : pc + 3 = n) (h : Gz p e below s C N Q (T.setTop (mkF m n l' st))) : Gz p e below s C N Q (T.setTop (mkF m pc Ls st)) := by subst q; exact Gz.st (fun t k => XS.iinc X.here hx rfl hd hl hl' k) h
theorem Gz.goto (n : Nat) (X : Stand p l e R s m args below meth c T locs cells slots) (hx : p.tables.exec = Jvm.exec) {o : Int} (hd : decode c.code pc = .ok (.goto o, 3)) (ho : 0 ≤ (pc : Int) + o) (q : ((pc : Int) + o).toNat = n) (h : Gz p e below s C N Q (T.setTop (mkF m n Ls st))) : Gz p e below s C N Q (T.setTop (mkF m pc Ls st)) := Gz.st (fun t k => XS.goto X.here hx rfl (pc0 := pc) (pc' := n) rfl hd ho q k) h
theorem Gz.ifYes (n : Nat) (X : Stand p l e R s m args below meth c T locs cells slots) (hx : p.tables.exec = Jvm.exec) {cd : ClassFile.Cond} {x : Int32} {o : Int} (hd : decode c.code pc = .ok (.ifCond cd o, 3)) (hc : ifCond.holds cd x = true) (ho : 0 ≤ (pc : Int) + o) (q : ((pc : Int) + o).toNat = n) (h : Gz p e below s C N Q (T.setTop (mkF m n Ls st))) : Gz p e below s C N Q (T.setTop (mkF m pc Ls (.int x :: st))) := Gz.st (fun t k => XS.ifYes X.here hx rfl (pc0 := pc) (pc' := n) rfl hd rfl hc ho q k) h
theorem Gz.ifNo (n : Nat) (X : Stand p l e R s m args below meth c T locs cells slots) (hx : p.tables.exec = Jvm.exec) {cd : ClassFile.Cond} {x : Int32} {o : Int} (hd : decode c.code pc = .ok (.ifCond cd o, 3)) (hc : ifCond.holds cd x = false) (q : pc + 3 = n) (h : Gz p e below s C N Q (T.setTop (mkF m n Ls st))) : Gz p e below s C N Q (T.setTop (mkF m pc Ls (.int x :: st))) := by subst q; exact Gz.st (fun t k => XS.ifNo X.here hx rfl hd rfl hc k) h
theorem Gz.icmpYes (n : Nat) (X : Stand p l e R s m args below meth c T locs cells slots) (hx : p.tables.exec = Jvm.exec) {cd : ClassFile.Cond} {x y : Int32} {o : Int} (hd : decode c.code pc = .ok (.if_icmp cd o, 3)) (hc : if_icmp.holds cd x y = true) (ho : 0 ≤ (pc : Int) + o) (q : ((pc : Int) + o).toNat = n) (h : Gz p e below s C N Q (T.setTop (mkF m n Ls st))) : Gz p e below s C N Q (T.setTop (mkF m pc Ls (.int y :: .int x :: st))) := Gz.st (fun t k => XS.icmpYes X.here hx rfl (pc0 := pc) (pc' := n) rfl hd rfl hc ho q k) h
theorem Gz.icmpNo (n : Nat) (X : Stand p l e R s m args below meth c T locs cells slots) (hx : p.tables.exec = Jvm.exec) {cd : ClassFile.Cond} {x y : Int32} {o : Int} (hd : decode c.code pc = .ok (.if_icmp cd o, 3)) (hc : if_icmp.holds cd x y = false) (q : pc + 3 = n) (h : Gz p e below s C N Q (T.setTop (mkF m n Ls st))) : Gz p e below s C N Q (T.setTop (mkF m pc Ls (.int y :: .int x :: st))) := by subst q; exact Gz.st (fun t k => XS.icmpNo X.here hx rfl hd rfl hc k) h
theorem Gz.acmp (n : Nat) (same : Bool) (X : Stand p l e R s m args below meth c T locs cells slots) (hx : p.tables.exec = Jvm.exec) {cd : ACond} {x y : Value} {o : Int} (hd : decode c.code pc = .ok (.if_acmp cd o, 3)) (h1 : x.isRef = true) (h2 : y.isRef = true) (hq : decide (x = y) = same) (ho : 0 ≤ (pc : Int) + o) (q : n = if acV cd same = true then ((pc : Int) + o).toNat else pc + 3) (h : Gz p e below s C N Q (T.setTop (mkF m n Ls st))) : Gz p e below s C N Q (T.setTop (mkF m pc Ls (y :: x :: st))) := Gz.st (fun t k => Jvm.RoadKit.acmp X hx rfl h1 h2 (pc0 := pc) (pc' := n) rfl hd rfl hq ho q k) h
theorem Gz.getF (n : Nat) (X : Stand p l e R s m args below meth c T locs cells slots) (hx : p.tables.exec = Jvm.exec) (hZ : Z.Warmed39 s.vm) {own : String} (hown : s.vm.findClass own = some m.cls) {R0 O nm d host : String} {ix : Nat} (hd : decode c.code pc = .ok (.getfield ix, 3)) (w : (Cond.fieldLink own ix R0 nm d).before a0 Z = true ∨ (Cond.fieldLinkNest own ix R0 nm d host).before a0 Z = true) (via : Via Z R0 O nm d) (eT : T.heap = hh) {a : Addr} {v : Value} (F : Fld Z hh a O nm d v) (q : pc + 3 = n) (h : ∀ T', Stand p l e R s m args below meth c T' (locs) (cells) (slots) → T'.heap = hh → Gz p e below s C N Q (T'.setTop (mkF m n Ls (v :: st)))) : Gz p e below s C N Q (T.setTop (mkF m pc Ls (.ref a :: st))) := by
  subst q
  obtain ⟨T', X', e', st'⟩ := Jvm.RoadKit.getF X hx hZ hown w via eT F (g := mkF m pc Ls (.ref a :: st)) rfl rfl hd
  exact Gz.st st' (h T' X' e')
theorem Gz.getS (n : Nat) (X : Stand p l e R s m args below meth c T locs cells slots) (hx : p.tables.exec = Jvm.exec) (hZ : Z.Warmed39 s.vm) {own : String} (hown : s.vm.findClass own = some m.cls) {R0 O nm d host : String} {ix : Nat} (hd : decode c.code pc = .ok (.getstatic ix, 3)) (w : (Cond.fieldLink own ix R0 nm d).before a0 Z = true ∨ (Cond.fieldLinkNest own ix R0 nm d host).before a0 Z = true) (via : Via Z R0 O nm d) (eT : T.heap = hh) {v : Value} (F : Sta Z hh O nm d v) (q : pc + 3 = n) (h : ∀ T', Stand p l e R s m args below meth c T' (locs) (cells) (slots) → T'.heap = hh → Gz p e below s C N Q (T'.setTop (mkF m n Ls (v :: st)))) : Gz p e below s C N Q (T.setTop (mkF m pc Ls st)) := by
  subst q
  obtain ⟨T', X', e', st'⟩ := getS2 X hx hZ hown w via eT F (g := mkF m pc Ls st) rfl hd
  exact Gz.st st' (h T' X' e')
theorem Gz.castY (n : Nat) (X : Stand p l e R s m args below meth c T locs cells slots) (hx : p.tables.exec = Jvm.exec) (hZ : Z.Warmed39 s.vm) {own : String} (hown : s.vm.findClass own = some m.cls) {K : String} {ix : Nat} (hd : decode c.code pc = .ok (.checkcast ix, 3)) (w : (Cond.classLink own ix K).before a0 Z = true) (eT : T.heap = hh) {a : Addr} (F : Ins Z hh a K true) (q : pc + 3 = n) (h : ∀ T', Stand p l e R s m args below meth c T' (locs) (cells) (slots) → T'.heap = hh → Gz p e below s C N Q (T'.setTop (mkF m n Ls (.ref a :: st)))) : Gz p e below s C N Q (T.setTop (mkF m pc Ls (.ref a :: st))) := by
  subst q
  obtain ⟨T', X', e', st'⟩ := Jvm.RoadKit.castY X hx hZ hown w eT F (g := mkF m pc Ls (.ref a :: st)) rfl rfl hd
  exact Gz.st st' (h T' X' e')
theorem Gz.instY (n : Nat) (X : Stand p l e R s m args below meth c T locs cells slots) (hx : p.tables.exec = Jvm.exec) (hZ : Z.Warmed39 s.vm) {own : String} (hown : s.vm.findClass own = some m.cls) {K : String} {ix : Nat} (hd : decode c.code pc = .ok (.instanceof ix, 3)) (w : (Cond.classLink own ix K).before a0 Z = true) (eT : T.heap = hh) {a : Addr} (F : Ins Z hh a K true) (q : pc + 3 = n) (h : ∀ T', Stand p l e R s m args below meth c T' (locs) (cells) (slots) → T'.heap = hh → Gz p e below s C N Q (T'.setTop (mkF m n Ls (.int (1 : Int32) :: st)))) : Gz p e below s C N Q (T.setTop (mkF m pc Ls (.ref a :: st))) := by
  subst q
  obtain ⟨T', X', e', st'⟩ := Jvm.RoadKit.instY X hx hZ hown w eT F (g := mkF m pc Ls (.ref a :: st)) rfl rfl hd
  exact Gz.st st' (h T' X' e')
theorem Gz.ldB (n : Nat) (X : Stand p l e R s m args below meth c T locs cells slots) (hx : p.tables.exec = Jvm.exec) (hZ : Z.Warmed39 s.vm) {a : Addr} {cl : Cell} {j : Int32} {v : Value} (hd : decode c.code pc = .ok (.baload, 1)) (eT : T.heap = hh) (A : Arr Z hh a cl .byte) (hj : ¬ (j < 0 ∨ cl.slots.size ≤ j.toNatClampNeg)) (hv : cl.slots[j.toNatClampNeg]? = some v) (q : pc + 1 = n) (h : Gz p e below s C N Q (T.setTop (mkF m n Ls (v :: st)))) : Gz p e below s C N Q (T.setTop (mkF m pc Ls (.int j :: .ref a :: st))) := by
  subst q
  exact Gz.st (X.baloadBytes hx (j := j) (v := v) (by rw [eT]; exact A.1) (State.isArrayOf_alike hZ.alike A.2.1) A.2.2 hj hv (g := mkF m pc Ls (.int j :: .ref a :: st)) rfl rfl hd) h
theorem Gz.alen (n : Nat) (X : Stand p l e R s m args below meth c T locs cells slots) (hx : p.tables.exec = Jvm.exec) (hZ : Z.Warmed39 s.vm) {a : Addr} {cl : Cell} {z : Int32} {ty : FieldType} (hd : decode c.code pc = .ok (.arraylength, 1)) (eT : T.heap = hh) (A : Arr Z hh a cl ty) (hs : cl.slots.size = z.toNatClampNeg) (hz : ¬ z < 0) (q : pc + 1 = n) (h : Gz p e below s C N Q (T.setTop (mkF m n Ls (.int z :: st)))) : Gz p e below s C N Q (T.setTop (mkF m pc Ls (.ref a :: st))) := by
  subst q
  refine Gz.st (X.arraylength hx (by rw [eT]; exact A.1) (State.isArrayOf_alike hZ.alike A.2.1) (g := mkF m pc Ls (.ref a :: st)) rfl rfl hd) ?_
  rw [len_of hs hz]
  exact h
theorem Gw.iloadN (n : Nat) {k : Fin 4} {v : Int32} (X : Stand p l e R s m args below meth c T locs cells slots) (hx : p.tables.exec = Jvm.exec) (hd : decode c.code pc = .ok (.iload_n k, 1)) (hl : Ls[k.val]? = some (.val (.int v))) (q : pc + 1 = n) (h : Gw p e below s C N Q (T.setTop (mkF m n Ls (.int v :: st)))) : Gw p e below s C N Q (T.setTop (mkF m pc Ls st)) := by subst q; exact Gw.st (fun t k => XS.iloadN X.here hx rfl hd hl k) h
theorem Gw.istoreN (n : Nat) (l' : Array Slot) {k : Fin 4} {v : Int32} (X : Stand p l e R s m args below meth c T locs cells slots) (hx : p.tables.exec = Jvm.exec) (hd : decode c.code pc = .ok (.istore_n k, 1)) (hl : storeLocals Ls k.val (.int v) = some l') (q : pc + 1 = n) (h : Gw p e below s C N Q (T.setTop (mkF m n l' st))) : Gw p e below s C N Q (T.setTop (mkF m pc Ls (.int v :: st))) := by subst q; exact Gw.st (fun t k => XS.istoreN X.here hx rfl hd rfl hl k) h
theorem Gw.aloadN (n : Nat) {k : Fin 4} {v : Value} (X : Stand p l e R s m args below meth c T locs cells slots) (hx : p.tables.exec = Jvm.exec) (hd : decode c.code pc = .ok (.aload_n k, 1)) (hl : Ls[k.val]? = some (.val v)) (hv : v.isRef = true) (q : pc + 1 = n) (h : Gw p e below s C N Q (T.setTop (mkF m n Ls (v :: st)))) : Gw p e below s C N Q (T.setTop (mkF m pc Ls st)) := by subst q; exact Gw.st (fun t k => XS.aloadN X.here hx rfl hd hl hv k) h
theorem Gw.astoreN (n : Nat) (l' : Array Slot) {k : Fin 4} {v : Value} (X : Stand p l e R s m args below meth c T locs cells slots) (hx : p.tables.exec = Jvm.exec) (hd : decode c.code pc = .ok (.astore_n k, 1)) (hl : storeLocals Ls k.val v = some l') (hv : v.isRef = true) (q : pc + 1 = n) (h : Gw p e below s C N Q (T.setTop (mkF m n l' st))) : Gw p e below s C N Q (T.setTop (mkF m pc Ls (v :: st))) := by subst q; exact Gw.st (fun t k => XS.astoreN X.here hx rfl hd rfl hv hl k) h
theorem Gw.astore (n : Nat) (l' : Array Slot) {k : Nat} {v : Value} (X : Stand p l e R s m args below meth c T locs cells slots) (hx : p.tables.exec = Jvm.exec) (hd : decode c.code pc = .ok (.astore k, 2)) (hl : storeLocals Ls k v = some l') (hv : v.isRef = true) (q : pc + 2 = n) (h : Gw p e below s C N Q (T.setTop (mkF m n l' st))) : Gw p e below s C N Q (T.setTop (mkF m pc Ls (v :: st))) := by subst q; exact Gw.st (fun t k => XS.astore X.here hx rfl hd rfl hv hl k) h
theorem Gw.iconst (n : Nat) (v : Int32) (X : Stand p l e R s m args below meth c T locs cells slots) (hx : p.tables.exec = Jvm.exec) {i : Int} (hd : decode c.code pc = .ok (.iconst i, 1)) (hv : Int32.ofInt i = v) (q : pc + 1 = n) (h : Gw p e below s C N Q (T.setTop (mkF m n Ls (.int v :: st)))) : Gw p e below s C N Q (T.setTop (mkF m pc Ls st)) := by subst q hv; exact Gw.st (fun t k => XS.iconst X.here hx rfl hd k) h
theorem Gw.iand (n : Nat) {x y : Int32} (X : Stand p l e R s m args below meth c T locs cells slots) (hx : p.tables.exec = Jvm.exec) (hd : decode c.code pc = .ok (.iand, 1))  (q : pc + 1 = n) (h : Gw p e below s C N Q (T.setTop (mkF m n Ls (.int (x &&& y) :: st)))) : Gw p e below s C N Q (T.setTop (mkF m pc Ls (.int y :: .int x :: st))) := by subst q; exact Gw.st (fun t k => XS.iand X.here hx rfl hd rfl k) h
theorem Gw.irem (n : Nat) {x y : Int32} (X : Stand p l e R s m args below meth c T locs cells slots) (hx : p.tables.exec = Jvm.exec) (hd : decode c.code pc = .ok (.irem, 1)) (hy : y ≠ 0) (q : pc + 1 = n) (h : Gw p e below s C N Q (T.setTop (mkF m n Ls (.int (x % y) :: st)))) : Gw p e below s C N Q (T.setTop (mkF m pc Ls (.int y :: .int x :: st))) := by subst q; exact Gw.st (fun t k => iremM X hx rfl hd rfl hy k) h
theorem Gw.ldcI (n : Nat) (X : Stand p l e R s m args below meth c T locs cells slots) (hx : p.tables.exec = Jvm.exec) {own : String} {ix : Nat} {v : Int32} (hd : decode c.code pc = .ok (.ldc ix, 2)) (hown : s.vm.findClass own = some m.cls) (w : (Cond.constant own ix v).before args s = true) (q : pc + 2 = n) (h : Gw p e below s C N Q (T.setTop (mkF m n Ls (.int v :: st)))) : Gw p e below s C N Q (T.setTop (mkF m pc Ls st)) := by subst q; exact Gw.st (X.ldcInt hx hown w (g := mkF m pc Ls st) rfl hd) h
theorem Gw.enter {g g' : JFrame} (q : g = g') (h : Gw p e below s C N Q (T.setTop g')) : Gw p e below s C N Q (T.setTop g) := q ▸ h
theorem Gz.enter {g g' : JFrame} (q : g = g') (h : Gz p e below s C N Q (T.setTop g')) : Gz p e below s C N Q (T.setTop g) := q ▸ h
theorem Gz.fin (X : Stand p l e R s m args below meth c T locs cells slots) {v : Option Value} (hv : meth.sig.returnType = none → v = none) (hlocks : meth.locks = false) (hc : cells ≤ C) (hn : slots ≤ N)
    (hst : ∀ fs, (∀ (f : JFrame) (acts : List Action), f.method = m → f.locked = none → f.entered = [] → (doReturn e (T.setTop f) acts v).1 = T.setFrames fs) → Steps p.tables e below S (T.setFrames fs)) (hq : Q v T.heap locs) : Gz p e below s C N Q S := by
  obtain ⟨fs, hr, hrun, hended, hW, hsame⟩ := X.leave hv hlocks
  exact ⟨_, _, hst fs hr, hrun, hended, _, _, rfl, hq, ⟨_, rfl⟩, hW, hsame.mono hc hn⟩
theorem retNV (X : Stand p l e R s m args below meth c T locs cells slots) (hx : p.tables.exec = Jvm.exec) {pc : Nat} {Ls : Array Slot} {z w : Int32} {t : FieldType} {rest : List Value} (hret : meth.sig.returnType = some t) (ht : t = .boolean ∨ t = .byte ∨ t = .char ∨ t = .short)
    (hd : decode c.code pc = .ok (.ireturn, 1)) {fs : List Frame} (hl : ∀ (f : JFrame) (acts : List Action), f.method = m → f.locked = none → f.entered = [] → (doReturn e (T.setTop f) acts (some (.int w))).1 = T.setFrames fs) (hw : nar t z = w) :
    Steps p.tables e below (T.setTop (mkF m pc Ls (.int z :: rest))) (T.setFrames fs) := by subst hw; exact retN X hx hret ht hd hl
theorem own_nb (x : Int32) : nar .byte (x.toInt8.toInt32) = x.toInt8.toInt32 := by show (x.toInt8.toInt32).toInt8.toInt32 = _; simp
theorem lt_irr (x : Int32) : ¬ x < x := Int32.lt_irrefl
theorem own_rl {a z r j : Nat} (h : a < z) (q : r = z + 1 + j) : a ≠ r := by omega
theorem own_ro {x z r j : Nat} (h : x = z) (q : r = z + 1 + j) : x ≠ r := by omega
theorem own_rr {z a b i j : Nat} (h : a = z + 1 + i) (q : b = z + 1 + j) (w : i ≠ j) : a ≠ b := by omega
theorem own_rg {n z r j : Nat} (h : n ≤ z) (q : r = z + 1 + j) : n ≤ r := by omega
theorem own_selp {a0 : Array Value} {y y' : MethodName} (hsame : y'.cls = y.cls) (hsel : (Cond.selects y'.cls y' y').before a0 s = true) (hi' : (Cond.instanceMethod y').before a0 s = true) (hi : (Cond.instanceMethod y).before a0 s = true) (hp : s.PrivateAt y) (hy : y.cls ≠ "java/lang/invoke/MethodHandle" ∧ y.cls ≠ "java/lang/invoke/VarHandle") : (Cond.selects y.cls y y).before a0 s = true := by
  obtain ⟨mk, methM, hn, hm, -, -⟩ := Cond.instanceMethod_spec hi'
  obtain ⟨kr, hkr, hni⟩ := notFace_of_selects hsel mk hn
  exact selects_self_of_private (hsame ▸ findClass_of_methodNamed hn) hkr hni hp hi hy
def NSt (h : Heap) (w : Addr) : Prop := ∀ cell : Cell, h[w]? = some cell → cell.vm.isStatics = false
theorem nst_of {Z : State} {h : Heap} {w : Addr} {K : String} (E : Exa Z h w K) : NSt h w := fun cell hc => by
  obtain ⟨c', k, h1, h2, h3, h4, -⟩ := E
  cases hc.symm.trans h1
  exact h4
theorem own_staK {Z : State} {h h' : Heap} {ws : List Addr} {K n d : String} {v : Value} (F : Sta Z h K n d v) (KK : Keep h h' ws) (q : ∀ w ∈ ws, NSt h w) : Sta Z h' K n d v := by
  obtain ⟨cf, i, k, f, a, cell, h1, h2, h3, h4, h5, h6, h7⟩ := F
  refine ⟨cf, i, k, f, a, cell, h1, h2, h3, h4, KK.2.1 a cell h5 fun hm => ?_, h6, h7⟩
  have := q a hm cell h5
  rw [h6] at this
  cases this
/-- a call of a method that the named class inherits, by the contract of the one that declares it -/
theorem own_upBack (X : Stand p l e R s m args below meth c T locs cells slots) (hx : p.tables.exec = Jvm.exec) {own K owner : String} {index : Nat} {y : MethodName} (hown : s.vm.findClass own = some m.cls) (w1 : (Cond.methodLink own index y).before args s = true) (w2 : (Cond.sameMethod y.cls owner y.name y.desc).before args s = true) (ho : owner ≠ "java/lang/invoke/MethodHandle" ∧ owner ≠ "java/lang/invoke/VarHandle")
    (w3 : (Cond.declares ⟨owner, y.name, y.desc⟩).before args s = true) (w4 : (Cond.selects K y ⟨owner, y.name, y.desc⟩).before args s = true) (w5 : (Cond.instanceMethod ⟨owner, y.name, y.desc⟩).before args s = true)
    {W : Nat} {Pre : Pt → Array Value → Prop} {Post : Pt → Array Value → Option Value → Pt → Prop} (hK : Back l R p e below s args ⟨owner, y.name, y.desc⟩ 3 W Pre Post)
    {b : Addr} {cB : ClassId} (hcB : s.vm.findClass K = some cB) (hb : IsOf cB T b) {g : JFrame} (hg : g.method = m) (hsize : g.locals.size = c.maxLocals) {argsL rest : List Value}
    (hlen : ∀ sig, parseMethodDescriptor y.desc = some sig → argsL.length = sig.parameters.length) (hstack : g.stack = argsL.reverse ++ .ref b :: rest) (hW : 2 * g.monitorRoom + (rest.map fun v => v.category).sum ≤ W)
    (hd : decode c.code g.pc = .ok (.invokevirtual index, 3)) (hpre : ∀ vm₁, s.WarmedH vm₁ → Pre ⟨T.setVm vm₁, locs, cells, slots⟩ (.ref b :: argsL).toArray) :
    ∃ (v : Option Value) (vm₁ : Vm) (B : Pt), s.WarmedH vm₁ ∧ Stand p l e R s m args below meth c B.U B.locs B.cells B.slots ∧ Post ⟨T.setVm vm₁, locs, cells, slots⟩ (.ref b :: argsL).toArray v B ∧
      Steps p.tables e below (T.setTop g) (B.U.setTop { g with pc := g.pc + 3, stack := v.toList ++ rest }) := by
  obtain ⟨cell, hc1, hc2, hc3⟩ := hb
  obtain ⟨r0, r, n0, hr0, st0, sig0⟩ := Cond.declares_spec w3
  obtain ⟨mk, mm, nk, hmk, -, abk⟩ := Cond.instanceMethod_spec w5
  obtain ⟨cn, ck, r1, f1, f2, f3, f4, f5⟩ := Cond.sameMethod_found w2
  obtain ⟨c2, r2, m2, q1, q2, q3, q4, kP, k1, k2⟩ := Cond.selects_spec w4
  obtain rfl : r0 = mk := Option.some.inj (n0.symm.trans nk)
  obtain rfl : r0 = r1 := Option.some.inj (n0.symm.trans f5)
  obtain rfl : r0 = r2 := Option.some.inj (f4.symm.trans q2)
  obtain rfl : r0 = m2 := Option.some.inj (n0.symm.trans q3)
  obtain rfl : cB = c2 := Option.some.inj (hcB.symm.trans q1)
  obtain ⟨vm₁, X₁, st₁⟩ := X.invokevirtualUp hx hown w1 w2 ho n0 hr0 st0 hc1 (fun z h => by rw [h] at hc3; cases hc3) (by rw [Launch.admits_selectMethod X.admits, hc2]; exact q4) hmk abk k1 k2 hg (argsL := argsL) (rest := rest) (hlen _ sig0) hstack hd
  obtain ⟨v, B, X', hp, hs⟩ := hK m meth c ⟨T.setVm vm₁, locs, cells, slots⟩ { g with stack := rest } (.invokevirtual index) r0 (.ref b :: argsL).toArray X₁ hg hsize hd hW (X₁.named n0) (hpre vm₁ X₁.warmed)
  exact ⟨v, vm₁, B, X₁.warmed, X', hp, (st₁ _ fun acts => by rw [doInvoke_state]; exact Steps.refl _).trans hs⟩
theorem own_fldI {a0 : Array Value} {Z : State} {t : Term} {a : Addr} {C n d : String} {k : Int32} (ev : t.eval a0 Z none [] Z = some (.ref a)) (h : (Cond.eq (.field t C n d) (.int k)).value a0 Z none Z [] = some true) : Fld Z Z.heap a C n d (.int k) := by
  obtain ⟨x, y, e1, e2, k1, k2⟩ := cmp_v (Or.inl h)
  cases Option.some.inj (e2.symm.trans (Term.int_eval k))
  obtain ⟨z, rfl⟩ := k2
  have q := gotT (Cond.eq_ints e1 (Term.int_eval k)) h
  subst q
  rw [fld_at ev] at e1
  exact Fld.start e1
theorem own_len {a0 : Array Value} {Z : State} {t : Term} {a : Addr} {cl : Cell} {ty : FieldType} {z : Int32} (ev : t.eval a0 Z none [] Z = some (.ref a)) (A : Arr Z Z.heap a cl ty) (h : (Cond.eq (.length t) (.int z)).value a0 Z none Z [] = some true) : cl.slots.size < 2 ^ 31 ∧ cl.slots.size.toInt32 = z := by
  obtain ⟨x, y, e1, e2, k1, k2⟩ := cmp_v (Or.inl h)
  obtain ⟨b, cell, f1, f2, f3, f4⟩ := Jvm.Lib.length_spec e1
  cases Option.some.inj (ev.symm.trans f1)
  cases f2.symm.trans (Arr.fin (U := Z) (Vm.Alike.refl _) A)
  subst f4
  exact ⟨f3, gotT (Cond.eq_ints e1 (Term.int_eval z)) h⟩
theorem own_el {a0 : Array Value} {Z : State} {t : Term} {a : Addr} {cl : Cell} {ty : FieldType} {j v : Int32} (ev : t.eval a0 Z none [] Z = some (.ref a)) (A : Arr Z Z.heap a cl ty) (h : (Cond.eq (.elem t (.int j)) (.int v)).value a0 Z none Z [] = some true) : cl.slots[j.toNatClampNeg]? = some (.int v) := by
  obtain ⟨x, y, e1, e2, k1, k2⟩ := cmp_v (Or.inl h)
  cases Option.some.inj (e2.symm.trans (Term.int_eval v))
  obtain ⟨z, rfl⟩ := k2
  have q := gotT (Cond.eq_ints e1 (Term.int_eval v)) h
  subst q
  exact (elem_in e1 ev (Term.int_eval j) A.1).2
end New
end Jvm.RoadKit
namespace Jvm.Pilot.@@N@@
open Jvm Jvm.ClassFile Sem Op Lib Jvm.Free Jvm.Stand Jvm.LawKit Jvm.RoadKit Bundle Jvm.Pilot.@@N@@.Jvm.D
theorem ww {av : Array Value} {Z : State} (hw : ∀ d ∈ tables_1, d.before av Z = true) (i : Nat) {d : Jvm.Cond} (h : tables_1[i]? = some d) : d.before av Z = true := hw _ (List.mem_of_getElem? h)
theorem own_nat (z : Int32) (n : Nat) (hn : n ≤ 2147483648) (h0 : 0 ≤ z.toInt) (h1 : z.toInt < n) : ∃ k : Nat, k < n ∧ z = Int32.ofNat k := by
  refine ⟨z.toInt.toNat, by omega, ?_⟩
  apply Int32.toInt_inj.mp
  rw [Int32.toInt_ofNat_of_lt (by omega)]
  omega
theorem own_i2c (z : Int32) (h0 : 0 ≤ z.toInt) (h1 : z.toInt < 65536) : z.toUInt32.toUInt16.toUInt32.toInt32 = z := by
  apply Int32.toInt_inj.mp
  have := c_i2c z
  omega
theorem own_asym32 {x y : Int32} (h : y < x) : ¬ x < y := fun q => by rw [Int32.lt_iff_toInt_lt] at *; omega
theorem own_asym64 {x y : Int64} (h : y < x) : ¬ x < y := fun q => by rw [Int64.lt_iff_toInt_lt] at *; omega
theorem own_irr32 {x y : Int32} (h : x = y) : ¬ x < y := fun q => by rw [Int32.lt_iff_toInt_lt] at *; subst h; omega
theorem own_irr64 {x y : Int64} (h : x = y) : ¬ x < y := fun q => by rw [Int64.lt_iff_toInt_lt] at *; subst h; omega
theorem own_tri32 {x y : Int32} (h : ¬ y < x) (g : ¬ x = y) : x < y := by
  rw [← Int32.toInt_inj] at g; rw [Int32.lt_iff_toInt_lt] at *; omega
theorem own_tri64 {x y : Int64} (h : ¬ y < x) (g : ¬ x = y) : x < y := by
  rw [← Int64.toInt_inj] at g; rw [Int64.lt_iff_toInt_lt] at *; omega
theorem own_nlt32 {x y : Int32} (h : x < y) : ¬ x = y := fun q => own_irr32 q h
theorem own_nlt64 {x y : Int64} (h : x < y) : ¬ x = y := fun q => own_irr64 q h
theorem own_ngt32 {x y : Int32} (h : y < x) : ¬ x = y := fun q => own_irr32 q.symm h
theorem own_ngt64 {x y : Int64} (h : y < x) : ¬ x = y := fun q => own_irr64 q.symm h
theorem own_both32 {x y : Int32} (h : ¬ x < y) (g : ¬ y < x) : x = y := by
  rw [← Int32.toInt_inj]; rw [Int32.lt_iff_toInt_lt] at *; omega
theorem own_both64 {x y : Int64} (h : ¬ x < y) (g : ¬ y < x) : x = y := by
  rw [← Int64.toInt_inj]; rw [Int64.lt_iff_toInt_lt] at *; omega
theorem own_rem (z d : Int32) (hd : d ≠ 0) (h0 : 0 ≤ z.toInt) (n : Nat) (hn : d.toInt = n) (hn2 : n ≤ 2147483648) : ∃ k : Nat, k < n ∧ z % d = Int32.ofNat k := by
  have hr := c_irem z d n hn
  have hn0 : n ≠ 0 := fun q => hd (Int32.toInt_inj.mp (by rw [hn, q]; rfl))
  have h1 := hr.1 h0
  have h2 : 0 ≤ z.toInt % (n : Int) := Int.emod_nonneg _ (by omega)
  have h3 : z.toInt % (n : Int) < n := Int.emod_lt_of_pos _ (by omega)
  exact own_nat _ n hn2 (by omega) (by omega)
theorem own_ALt32 {e j k : Int32} (h : e < j) (q : j.toInt ≤ k.toInt) : e < k := by
  rw [Int32.lt_iff_toInt_lt] at *; omega
theorem own_AGf32 {e j k : Int32} (h : e < j) (q : j.toInt ≤ k.toInt + 1) : ¬ k < e := by
  rw [Int32.lt_iff_toInt_lt] at *; omega
theorem own_AEf32 {e j k : Int32} (h : e < j) (q : j.toInt ≤ k.toInt) : ¬ e = k := by
  intro z; subst z; rw [Int32.lt_iff_toInt_lt] at h; omega
theorem own_BLf32 {e j k : Int32} (h : ¬ e < j) (q : k.toInt ≤ j.toInt) : ¬ e < k := by
  rw [Int32.lt_iff_toInt_lt] at *; omega
theorem own_BGt32 {e j k : Int32} (h : ¬ e < j) (q : k.toInt < j.toInt) : k < e := by
  rw [Int32.lt_iff_toInt_lt] at *; omega
theorem own_BEf32 {e j k : Int32} (h : ¬ e < j) (q : k.toInt < j.toInt) : ¬ e = k := by
  intro z; subst z; rw [Int32.lt_iff_toInt_lt] at h; omega
theorem own_CLf32 {e j k : Int32} (h : j < e) (q : k.toInt ≤ j.toInt + 1) : ¬ e < k := by
  rw [Int32.lt_iff_toInt_lt] at *; omega
theorem own_CGt32 {e j k : Int32} (h : j < e) (q : k.toInt ≤ j.toInt) : k < e := by
  rw [Int32.lt_iff_toInt_lt] at *; omega
theorem own_CEf32 {e j k : Int32} (h : j < e) (q : k.toInt ≤ j.toInt) : ¬ e = k := by
  intro z; subst z; rw [Int32.lt_iff_toInt_lt] at h; omega
theorem own_DLt32 {e j k : Int32} (h : ¬ j < e) (q : j.toInt < k.toInt) : e < k := by
  rw [Int32.lt_iff_toInt_lt] at *; omega
theorem own_DGf32 {e j k : Int32} (h : ¬ j < e) (q : j.toInt ≤ k.toInt) : ¬ k < e := by
  rw [Int32.lt_iff_toInt_lt] at *; omega
theorem own_DEf32 {e j k : Int32} (h : ¬ j < e) (q : j.toInt < k.toInt) : ¬ e = k := by
  intro z; subst z; rw [Int32.lt_iff_toInt_lt] at h; omega
theorem own_eqEt32 {e j k : Int32} (h : e = j) (q : j = k) : e = k := by rw [h]; exact q
theorem own_eqEf32 {e j k : Int32} (h : e = j) (q : ¬ j = k) : ¬ e = k := by rw [h]; exact q
theorem own_eqLt32 {e j k : Int32} (h : e = j) (q : j < k) : e < k := by rw [h]; exact q
theorem own_eqLf32 {e j k : Int32} (h : e = j) (q : ¬ j < k) : ¬ e < k := by rw [h]; exact q
theorem own_eqGt32 {e j k : Int32} (h : e = j) (q : k < j) : k < e := by rw [h]; exact q
theorem own_eqGf32 {e j k : Int32} (h : e = j) (q : ¬ k < j) : ¬ k < e := by rw [h]; exact q
theorem own_ALt64 {e j k : Int64} (h : e < j) (q : j.toInt ≤ k.toInt) : e < k := by
  rw [Int64.lt_iff_toInt_lt] at *; omega
theorem own_AGf64 {e j k : Int64} (h : e < j) (q : j.toInt ≤ k.toInt + 1) : ¬ k < e := by
  rw [Int64.lt_iff_toInt_lt] at *; omega
theorem own_AEf64 {e j k : Int64} (h : e < j) (q : j.toInt ≤ k.toInt) : ¬ e = k := by
  intro z; subst z; rw [Int64.lt_iff_toInt_lt] at h; omega
theorem own_BLf64 {e j k : Int64} (h : ¬ e < j) (q : k.toInt ≤ j.toInt) : ¬ e < k := by
  rw [Int64.lt_iff_toInt_lt] at *; omega
theorem own_BGt64 {e j k : Int64} (h : ¬ e < j) (q : k.toInt < j.toInt) : k < e := by
  rw [Int64.lt_iff_toInt_lt] at *; omega
theorem own_BEf64 {e j k : Int64} (h : ¬ e < j) (q : k.toInt < j.toInt) : ¬ e = k := by
  intro z; subst z; rw [Int64.lt_iff_toInt_lt] at h; omega
theorem own_CLf64 {e j k : Int64} (h : j < e) (q : k.toInt ≤ j.toInt + 1) : ¬ e < k := by
  rw [Int64.lt_iff_toInt_lt] at *; omega
theorem own_CGt64 {e j k : Int64} (h : j < e) (q : k.toInt ≤ j.toInt) : k < e := by
  rw [Int64.lt_iff_toInt_lt] at *; omega
theorem own_CEf64 {e j k : Int64} (h : j < e) (q : k.toInt ≤ j.toInt) : ¬ e = k := by
  intro z; subst z; rw [Int64.lt_iff_toInt_lt] at h; omega
theorem own_DLt64 {e j k : Int64} (h : ¬ j < e) (q : j.toInt < k.toInt) : e < k := by
  rw [Int64.lt_iff_toInt_lt] at *; omega
theorem own_DGf64 {e j k : Int64} (h : ¬ j < e) (q : j.toInt ≤ k.toInt) : ¬ k < e := by
  rw [Int64.lt_iff_toInt_lt] at *; omega
theorem own_DEf64 {e j k : Int64} (h : ¬ j < e) (q : j.toInt < k.toInt) : ¬ e = k := by
  intro z; subst z; rw [Int64.lt_iff_toInt_lt] at h; omega
theorem own_eqEt64 {e j k : Int64} (h : e = j) (q : j = k) : e = k := by rw [h]; exact q
theorem own_eqEf64 {e j k : Int64} (h : e = j) (q : ¬ j = k) : ¬ e = k := by rw [h]; exact q
theorem own_eqLt64 {e j k : Int64} (h : e = j) (q : j < k) : e < k := by rw [h]; exact q
theorem own_eqLf64 {e j k : Int64} (h : e = j) (q : ¬ j < k) : ¬ e < k := by rw [h]; exact q
theorem own_eqGt64 {e j k : Int64} (h : e = j) (q : k < j) : k < e := by rw [h]; exact q
theorem own_eqGf64 {e j k : Int64} (h : e = j) (q : ¬ k < j) : ¬ k < e := by rw [h]; exact q
theorem own_four (x : Int32) : ((x &&& (2147483647 : Int32)) % (4 : Int32)) = (0 : Int32) ∨ ((x &&& (2147483647 : Int32)) % (4 : Int32)) = (1 : Int32) ∨ ((x &&& (2147483647 : Int32)) % (4 : Int32)) = (2 : Int32) ∨ ((x &&& (2147483647 : Int32)) % (4 : Int32)) = (3 : Int32) := by
  have hm := c_mask x 2147483647 31 (by decide) (by decide)
  obtain ⟨k, hk, e⟩ := own_rem (x &&& (2147483647 : Int32)) 4 (by decide) (by rw [hm]; omega) 4 (by decide) (by decide)
  rw [e]
  have : k = 0 ∨ k = 1 ∨ k = 2 ∨ k = 3 := by omega
  rcases this with rfl | rfl | rfl | rfl <;> decide
theorem own_reb {p : Program} {e : Env} {below : List Frame} {s : State} {C N : Nat} {Q Q2 : Option Value → Heap → List Loc → Prop} {S : State} {vm1 : Vm} {k1 : Nat} (hS : s.Since vm1 k1) (hQ : ∀ v h L, Q2 v h L → Q v h L ∧ k1 ≤ h.size) (h : Gz p e below (s.setVm vm1) C N Q2 S) : Gw p e below s C N Q S := by
  obtain ⟨s₂, o, h1, h2, h3, v, L, rfl, hq, hr, hW, hs⟩ := h
  obtain ⟨hq1, hq2⟩ := hQ _ _ _ hq
  obtain ⟨a, b, c⟩ := hS.ended (U := s₂) hW hq2 hs
  exact ⟨s₂, _, h1, h2, h3, v, L, rfl, hq1, hr, a, b, c⟩
theorem own_atoms {Z : State} {av0 : Array Value} (hw : ∀ d ∈ tables_1, d.before av0 Z = true) : ∀ a ∈ Bundle.stringAtoms, a.before av0 Z = true := fun d hd => by
  simp only [Bundle.stringAtoms, List.mem_cons, List.not_mem_nil, or_false] at hd
  rcases hd with rfl | rfl | rfl | rfl | rfl | rfl | rfl <;> first | exact ww hw 23 rfl | exact ww hw 24 rfl | exact ww hw 25 rfl | exact ww hw 26 rfl | exact ww hw 27 rfl | exact ww hw 28 rfl | exact ww hw 29 rfl
def Q_lw (n0 kq : Nat) (v : Option Value) (h : Heap) (L : List Loc) : Prop := (v = some (.int 1) ∧ Fr n0 L) ∧ kq ≤ h.size
theorem d1_0 : decode method_2_code 0 = .ok (.iload_n 0, 1) := by decide +kernel
theorem d1_1 : decode method_2_code 1 = .ok (.ifCond .ne 7, 3) := by decide +kernel
theorem d1_4 : decode method_2_code 4 = .ok (.getstatic 7, 3) := by decide +kernel
theorem d1_7 : decode method_2_code 7 = .ok (.areturn, 1) := by decide +kernel
theorem d1_8 : decode method_2_code 8 = .ok (.iload_n 0, 1) := by decide +kernel
theorem d1_9 : decode method_2_code 9 = .ok (.iconst 1, 1) := by decide +kernel
theorem d1_10 : decode method_2_code 10 = .ok (.if_icmp .ne 7, 3) := by decide +kernel
theorem d1_13 : decode method_2_code 13 = .ok (.getstatic 13, 3) := by decide +kernel
theorem d1_16 : decode method_2_code 16 = .ok (.areturn, 1) := by decide +kernel
theorem d1_17 : decode method_2_code 17 = .ok (.iload_n 0, 1) := by decide +kernel
theorem d1_18 : decode method_2_code 18 = .ok (.iconst 2, 1) := by decide +kernel
theorem d1_19 : decode method_2_code 19 = .ok (.if_icmp .ne 7, 3) := by decide +kernel
theorem d1_22 : decode method_2_code 22 = .ok (.getstatic 16, 3) := by decide +kernel
theorem d1_25 : decode method_2_code 25 = .ok (.areturn, 1) := by decide +kernel
theorem d1_26 : decode method_2_code 26 = .ok (.getstatic 19, 3) := by decide +kernel
theorem d1_29 : decode method_2_code 29 = .ok (.areturn, 1) := by decide +kernel
theorem pn_0 : plainName "com/example/arkivsjekk/arkivsjekk/RoleExternalPinLaw" = true := by first | (simp [plainName, overriddenIn]; done) | decide +kernel
theorem ef_rm1 (m : MethodId) (p0 : Int32) : entryFrame m #[(.int p0)] 1 = mkF m 0 #[.val (.int p0)] [] := by first | (simp [entryFrame, mkF, argsToLocals, Value.category]; done) | rfl
def fRole (p0 : Int32) (s_REQUEST : Addr) (s_ADDITION : Addr) (s_NOTE : Addr) (s_REPLY : Addr) : Addr := (if p0 = (0 : Int32) then s_REQUEST else (if p0 = (1 : Int32) then s_ADDITION else (if p0 = (2 : Int32) then s_NOTE else s_REPLY)))
def Q_rm1 (Z : State) (p0 : Int32) (s_REQUEST : Addr) (s_ADDITION : Addr) (s_NOTE : Addr) (s_REPLY : Addr) (h0 : Heap) (n0 : Nat) (v : Option Value) (h : Heap) (L : List Loc) : Prop := v = some (.ref (fRole p0 s_REQUEST s_ADDITION s_NOTE s_REPLY)) ∧ Fr n0 L ∧ h = h0
set_option maxRecDepth 65536 in
set_option maxHeartbeats 40000000 in
theorem rm1 (l : Launch) (Z : State) (av0 : Array Value) (hw : ∀ d ∈ tables_1, d.before av0 Z = true) (ws : List Jvm.Cond) (p0 : Int32) (s_REQUEST : Addr) (s_ADDITION : Addr) (s_NOTE : Addr) (s_REPLY : Addr) (h0 : Heap) (n0 : Nat) (Z0 : n0 ≤ h0.size) (S_s_REQUEST : Sta Z h0 "com/example/arkivsjekk/arkivsjekk/SampleArchive$Role" "REQUEST" "Lcom/example/arkivsjekk/arkivsjekk/SampleArchive$Role;" (.ref s_REQUEST)) (S_s_ADDITION : Sta Z h0 "com/example/arkivsjekk/arkivsjekk/SampleArchive$Role" "ADDITION" "Lcom/example/arkivsjekk/arkivsjekk/SampleArchive$Role;" (.ref s_ADDITION)) (S_s_NOTE : Sta Z h0 "com/example/arkivsjekk/arkivsjekk/SampleArchive$Role" "NOTE" "Lcom/example/arkivsjekk/arkivsjekk/SampleArchive$Role;" (.ref s_NOTE)) (S_s_REPLY : Sta Z h0 "com/example/arkivsjekk/arkivsjekk/SampleArchive$Role" "REPLY" "Lcom/example/arkivsjekk/arkivsjekk/SampleArchive$Role;" (.ref s_REPLY)) :
    MetFree l (⟨"com/example/arkivsjekk/arkivsjekk/RoleExternalPinLaw", "roleFor", "(I)Lcom/example/arkivsjekk/arkivsjekk/SampleArchive$Role;"⟩ : MethodName) (head1 (Jvm.Cond.code (⟨"com/example/arkivsjekk/arkivsjekk/RoleExternalPinLaw", "roleFor", "(I)Lcom/example/arkivsjekk/arkivsjekk/SampleArchive$Role;"⟩ : MethodName) method_2_code 1 (some (.object "com/example/arkivsjekk/arkivsjekk/SampleArchive$Role")) :: ws) ({ frames := 0, cells := 0, slots := 0, locals := 0 } : Room)) (fun a U => a = #[(.int p0)] ∧ Z.Warmed39 U.vm ∧ U.heap = h0) (fun _ _ _ _ _ => True) (fun _ U o U' => ∃ v L, o = .returned v ∧ Q_rm1 Z p0 s_REQUEST s_ADDITION s_NOTE s_REPLY h0 n0 v U'.heap L ∧ FrameEnd U o U' L ({ frames := 0, cells := 0, slots := 0, locals := 0 } : Room).cells ({ frames := 0, cells := 0, slots := 0, locals := 0 } : Room).slots) := by
  refine MetFree.of_bodySF (plainFor_of_name pn_0) hisR ?_
  intro p e s m args below meth c s₁ Bd hml0 hP hK
  obtain ⟨rfl, hZ, hh⟩ := hP
  have hx := Bd.exec
  have hby := Bd.bytes
  have hml : c.maxLocals = 1 := hml0
  have dd : ∀ {pc : Nat} {r : Except DecodeError (Instr × Nat)}, decode method_2_code pc = r → decode c.code pc = r := fun q => hb hby q
  have hown : s.vm.findClass "com/example/arkivsjekk/arkivsjekk/RoleExternalPinLaw" = some m.cls := findClass_of_methodNamed Bd.named
  have hnm := (name_of_methodNamed Bd.named Bd.method).1
  have X0 : Stand p l e ({ frames := 0, cells := 0, slots := 0, locals := 0 } : Room) s m #[(.int p0)] below meth c s₁ [] 0 0 := Stand.of_body Bd
  have e0 : s₁.heap = h0 := by rw [← hh, Bd.state]; rfl
  have N0 := Fr.nil n0
  have hret := Bd.returns
  have hlk := Bd.notSynchronized
  show Gz p e below s ({ frames := 0, cells := 0, slots := 0, locals := 0 } : Room).cells ({ frames := 0, cells := 0, slots := 0, locals := 0 } : Room).slots (Q_rm1 Z p0 s_REQUEST s_ADDITION s_NOTE s_REPLY h0 n0) (s₁.setTop (entryFrame m #[(.int p0)] 1))
  refine Gz.enter (ef_rm1 m p0) ?_
  refine Gz.iloadN 1 X0 hx (dd d1_0) rfl rfl ?_
  by_cases hc1 : p0 = (0 : Int32)
  · refine Gz.ifNo 4 X0 hx (dd d1_1) ((if0 _ _).trans (teq hc1).2) rfl ?_
    refine Gz.getS 7 X0 hx hZ hown (dd d1_4) (host := "") (Or.inl (ww hw 5 rfl)) Via.refl e0 S_s_REQUEST rfl fun T2 X2 e2 => ?_
    refine Gz.fin X2 (v := some (.ref s_REQUEST)) (fun h => by rw [hret] at h; cases h) hlk (by decide) (by decide) (fun fs hr => retA X2 hx hret (dd d1_7) hr rfl rfl) ?_
    rw [e2]
    exact ⟨(by unfold fRole; rw [if_pos hc1]), N0, rfl⟩
  · refine Gz.ifYes 8 X0 hx (dd d1_1) ((if0 _ _).trans (feq hc1).2) (by decide) (by decide) ?_
    refine Gz.iloadN 9 X0 hx (dd d1_8) rfl rfl ?_
    refine Gz.iconst 10 (1 : Int32) X0 hx (dd d1_9) rfl rfl ?_
    by_cases hc3 : p0 = (1 : Int32)
    · refine Gz.icmpNo 13 X0 hx (dd d1_10) (teq hc3).2 rfl ?_
      refine Gz.getS 16 X0 hx hZ hown (dd d1_13) (host := "") (Or.inl (ww hw 50 rfl)) Via.refl e0 S_s_ADDITION rfl fun T4 X4 e4 => ?_
      refine Gz.fin X4 (v := some (.ref s_ADDITION)) (fun h => by rw [hret] at h; cases h) hlk (by decide) (by decide) (fun fs hr => retA X4 hx hret (dd d1_16) hr rfl rfl) ?_
      rw [e4]
      exact ⟨(by unfold fRole; rw [if_neg hc1, if_pos hc3]), N0, rfl⟩
    · refine Gz.icmpYes 17 X0 hx (dd d1_10) (feq hc3).2 (by decide) (by decide) ?_
      refine Gz.iloadN 18 X0 hx (dd d1_17) rfl rfl ?_
      refine Gz.iconst 19 (2 : Int32) X0 hx (dd d1_18) rfl rfl ?_
      by_cases hc5 : p0 = (2 : Int32)
      · refine Gz.icmpNo 22 X0 hx (dd d1_19) (teq hc5).2 rfl ?_
        refine Gz.getS 25 X0 hx hZ hown (dd d1_22) (host := "") (Or.inl (ww hw 49 rfl)) Via.refl e0 S_s_NOTE rfl fun T6 X6 e6 => ?_
        refine Gz.fin X6 (v := some (.ref s_NOTE)) (fun h => by rw [hret] at h; cases h) hlk (by decide) (by decide) (fun fs hr => retA X6 hx hret (dd d1_25) hr rfl rfl) ?_
        rw [e6]
        exact ⟨(by unfold fRole; rw [if_neg hc1, if_neg hc3, if_pos hc5]), N0, rfl⟩
      · refine Gz.icmpYes 26 X0 hx (dd d1_19) (feq hc5).2 (by decide) (by decide) ?_
        refine Gz.getS 29 X0 hx hZ hown (dd d1_26) (host := "") (Or.inl (ww hw 47 rfl)) Via.refl e0 S_s_REPLY rfl fun T7 X7 e7 => ?_
        refine Gz.fin X7 (v := some (.ref s_REPLY)) (fun h => by rw [hret] at h; cases h) hlk (by decide) (by decide) (fun fs hr => retA X7 hx hret (dd d1_29) hr rfl rfl) ?_
        rw [e7]
        exact ⟨(by unfold fRole; rw [if_neg hc1, if_neg hc3, if_neg hc5]), N0, rfl⟩
theorem d2_0 : decode prog_43_method_8_code 0 = .ok (.aload_n 0, 1) := by decide +kernel
theorem d2_1 : decode prog_43_method_8_code 1 = .ok (.getstatic 10, 3) := by decide +kernel
theorem d2_4 : decode prog_43_method_8_code 4 = .ok (.if_acmp .eq 7, 3) := by decide +kernel
theorem d2_7 : decode prog_43_method_8_code 7 = .ok (.iconst 1, 1) := by decide +kernel
theorem d2_8 : decode prog_43_method_8_code 8 = .ok (.goto 4, 3) := by decide +kernel
theorem d2_11 : decode prog_43_method_8_code 11 = .ok (.iconst 0, 1) := by decide +kernel
theorem d2_12 : decode prog_43_method_8_code 12 = .ok (.ireturn, 1) := by decide +kernel
theorem pn_1 : plainName "com/example/arkivsjekk/arkivsjekk/SampleArchive$Role" = true := by first | (simp [plainName, overriddenIn]; done) | decide +kernel
theorem ef_rm2 (m : MethodId) (a0 : Addr) : entryFrame m #[(.ref a0)] 1 = mkF m 0 #[.val (.ref a0)] [] := by first | (simp [entryFrame, mkF, argsToLocals, Value.category]; done) | rfl
def fExt (a0 : Addr) (s_NOTE : Addr) : Int32 := (if a0 = s_NOTE then (0 : Int32) else (1 : Int32))
def Q_rm2 (Z : State) (a0 : Addr) (s_NOTE : Addr) (h0 : Heap) (n0 : Nat) (v : Option Value) (h : Heap) (L : List Loc) : Prop := v = some (.int (fExt a0 s_NOTE)) ∧ Fr n0 L ∧ h = h0
set_option maxRecDepth 65536 in
set_option maxHeartbeats 40000000 in
theorem rm2 (l : Launch) (Z : State) (av0 : Array Value) (hw : ∀ d ∈ tables_1, d.before av0 Z = true) (ws : List Jvm.Cond) (a0 : Addr) (s_NOTE : Addr) (h0 : Heap) (n0 : Nat) (Z0 : n0 ≤ h0.size) (S_s_NOTE : Sta Z h0 "com/example/arkivsjekk/arkivsjekk/SampleArchive$Role" "NOTE" "Lcom/example/arkivsjekk/arkivsjekk/SampleArchive$Role;" (.ref s_NOTE)) :
    MetFree l (⟨"com/example/arkivsjekk/arkivsjekk/SampleArchive$Role", "external", "()Z"⟩ : MethodName) (head1 (Jvm.Cond.code (⟨"com/example/arkivsjekk/arkivsjekk/SampleArchive$Role", "external", "()Z"⟩ : MethodName) prog_43_method_8_code 1 (some .boolean) :: ws) ({ frames := 0, cells := 0, slots := 0, locals := 0 } : Room)) (fun a U => a = #[(.ref a0)] ∧ Z.Warmed39 U.vm ∧ U.heap = h0) (fun _ _ _ _ _ => True) (fun _ U o U' => ∃ v L, o = .returned v ∧ Q_rm2 Z a0 s_NOTE h0 n0 v U'.heap L ∧ FrameEnd U o U' L ({ frames := 0, cells := 0, slots := 0, locals := 0 } : Room).cells ({ frames := 0, cells := 0, slots := 0, locals := 0 } : Room).slots) := by
  refine MetFree.of_bodySF (plainFor_of_name pn_1) hisR ?_
  intro p e s m args below meth c s₁ Bd hml0 hP hK
  obtain ⟨rfl, hZ, hh⟩ := hP
  have hx := Bd.exec
  have hby := Bd.bytes
  have hml : c.maxLocals = 1 := hml0
  have dd : ∀ {pc : Nat} {r : Except DecodeError (Instr × Nat)}, decode prog_43_method_8_code pc = r → decode c.code pc = r := fun q => hb hby q
  have hown : s.vm.findClass "com/example/arkivsjekk/arkivsjekk/SampleArchive$Role" = some m.cls := findClass_of_methodNamed Bd.named
  have hnm := (name_of_methodNamed Bd.named Bd.method).1
  have X0 : Stand p l e ({ frames := 0, cells := 0, slots := 0, locals := 0 } : Room) s m #[(.ref a0)] below meth c s₁ [] 0 0 := Stand.of_body Bd
  have e0 : s₁.heap = h0 := by rw [← hh, Bd.state]; rfl
  have N0 := Fr.nil n0
  have hret := Bd.returns
  have hlk := Bd.notSynchronized
  show Gz p e below s ({ frames := 0, cells := 0, slots := 0, locals := 0 } : Room).cells ({ frames := 0, cells := 0, slots := 0, locals := 0 } : Room).slots (Q_rm2 Z a0 s_NOTE h0 n0) (s₁.setTop (entryFrame m #[(.ref a0)] 1))
  refine Gz.enter (ef_rm2 m a0) ?_
  refine Gz.aloadN 1 X0 hx (dd d2_0) rfl rfl rfl ?_
  refine Gz.getS 4 X0 hx hZ hown (dd d2_1) (host := "") (Or.inl (ww hw 13 rfl)) Via.refl e0 S_s_NOTE rfl fun T1 X1 e1 => ?_
  by_cases hc2 : a0 = s_NOTE
  · refine Gz.acmp 11 true X1 hx (dd d2_4) rfl rfl (decide_eq_true (congrArg Value.ref hc2)) (by decide) (by decide) ?_
    refine Gz.iconst 12 (0 : Int32) X1 hx (dd d2_11) rfl rfl ?_
    refine Gz.fin X1 (v := some (.int (0 : Int32))) (fun h => by rw [hret] at h; cases h) hlk (by decide) (by decide) (fun fs hr => retN X1 hx (t := .boolean) hret (by simp) (dd d2_12) hr) ?_
    rw [e1]
    exact ⟨(by unfold fExt; rw [if_pos hc2]), N0, rfl⟩
  · refine Gz.acmp 7 false X1 hx (dd d2_4) rfl rfl (decide_eq_false fun q => hc2 (Value.ref.inj q)) (by decide) (by decide) ?_
    refine Gz.iconst 8 (1 : Int32) X1 hx (dd d2_7) rfl rfl ?_
    refine Gz.goto 12 X1 hx (dd d2_8) (by decide) (by decide) ?_
    refine Gz.fin X1 (v := some (.int (1 : Int32))) (fun h => by rw [hret] at h; cases h) hlk (by decide) (by decide) (fun fs hr => retN X1 hx (t := .boolean) hret (by simp) (dd d2_12) hr) ?_
    rw [e1]
    exact ⟨(by unfold fExt; rw [if_neg hc2]), N0, rfl⟩
theorem d3_0 : decode prog_43_method_5_code 0 = .ok (.aload_n 0, 1) := by decide +kernel
theorem d3_1 : decode prog_43_method_5_code 1 = .ok (.getfield 39, 3) := by decide +kernel
theorem d3_4 : decode prog_43_method_5_code 4 = .ok (.areturn, 1) := by decide +kernel
theorem ef_rm3 (m : MethodId) (a0 : Addr) : entryFrame m #[(.ref a0)] 1 = mkF m 0 #[.val (.ref a0)] [] := by first | (simp [entryFrame, mkF, argsToLocals, Value.category]; done) | rfl
def fKor (a0 : Addr) (kp : Addr) : Addr := kp
def Q_rm3 (Z : State) (a0 : Addr) (kp : Addr) (h0 : Heap) (n0 : Nat) (v : Option Value) (h : Heap) (L : List Loc) : Prop := v = some (.ref (fKor a0 kp)) ∧ Fr n0 L ∧ h = h0
set_option maxRecDepth 65536 in
set_option maxHeartbeats 40000000 in
theorem rm3 (l : Launch) (Z : State) (av0 : Array Value) (hw : ∀ d ∈ tables_1, d.before av0 Z = true) (ws : List Jvm.Cond) (a0 : Addr) (kp : Addr) (h0 : Heap) (n0 : Nat) (Z0 : n0 ≤ h0.size) (F_korrespondanseparttype_a0 : Fld Z h0 a0 "com/example/arkivsjekk/arkivsjekk/SampleArchive$Role" "korrespondanseparttype" "Ljava/lang/String;" (.ref kp)) :
    MetFree l (⟨"com/example/arkivsjekk/arkivsjekk/SampleArchive$Role", "korrespondanseparttype", "()Ljava/lang/String;"⟩ : MethodName) (head1 (Jvm.Cond.code (⟨"com/example/arkivsjekk/arkivsjekk/SampleArchive$Role", "korrespondanseparttype", "()Ljava/lang/String;"⟩ : MethodName) prog_43_method_5_code 1 (some (.object "java/lang/String")) :: ws) ({ frames := 0, cells := 0, slots := 0, locals := 0 } : Room)) (fun a U => a = #[(.ref a0)] ∧ Z.Warmed39 U.vm ∧ U.heap = h0) (fun _ _ _ _ _ => True) (fun _ U o U' => ∃ v L, o = .returned v ∧ Q_rm3 Z a0 kp h0 n0 v U'.heap L ∧ FrameEnd U o U' L ({ frames := 0, cells := 0, slots := 0, locals := 0 } : Room).cells ({ frames := 0, cells := 0, slots := 0, locals := 0 } : Room).slots) := by
  refine MetFree.of_bodySF (plainFor_of_name pn_1) hisR ?_
  intro p e s m args below meth c s₁ Bd hml0 hP hK
  obtain ⟨rfl, hZ, hh⟩ := hP
  have hx := Bd.exec
  have hby := Bd.bytes
  have hml : c.maxLocals = 1 := hml0
  have dd : ∀ {pc : Nat} {r : Except DecodeError (Instr × Nat)}, decode prog_43_method_5_code pc = r → decode c.code pc = r := fun q => hb hby q
  have hown : s.vm.findClass "com/example/arkivsjekk/arkivsjekk/SampleArchive$Role" = some m.cls := findClass_of_methodNamed Bd.named
  have hnm := (name_of_methodNamed Bd.named Bd.method).1
  have X0 : Stand p l e ({ frames := 0, cells := 0, slots := 0, locals := 0 } : Room) s m #[(.ref a0)] below meth c s₁ [] 0 0 := Stand.of_body Bd
  have e0 : s₁.heap = h0 := by rw [← hh, Bd.state]; rfl
  have N0 := Fr.nil n0
  have hret := Bd.returns
  have hlk := Bd.notSynchronized
  show Gz p e below s ({ frames := 0, cells := 0, slots := 0, locals := 0 } : Room).cells ({ frames := 0, cells := 0, slots := 0, locals := 0 } : Room).slots (Q_rm3 Z a0 kp h0 n0) (s₁.setTop (entryFrame m #[(.ref a0)] 1))
  refine Gz.enter (ef_rm3 m a0) ?_
  refine Gz.aloadN 1 X0 hx (dd d3_0) rfl rfl rfl ?_
  refine Gz.getF 4 X0 hx hZ hown (dd d3_1) (host := "") (Or.inl (ww hw 20 rfl)) Via.refl e0 F_korrespondanseparttype_a0 rfl fun T1 X1 e1 => ?_
  refine Gz.fin X1 (v := some (.ref kp)) (fun h => by rw [hret] at h; cases h) hlk (by decide) (by decide) (fun fs hr => retA X1 hx hret (dd d3_4) hr rfl rfl) ?_
  rw [e1]
  exact ⟨rfl, N0, rfl⟩
theorem d6_0 : decode method_3_code 0 = .ok (.iload_n 0, 1) := by decide +kernel
theorem d6_1 : decode method_3_code 1 = .ok (.iconst 2, 1) := by decide +kernel
theorem d6_2 : decode method_3_code 2 = .ok (.if_icmp .ne 5, 3) := by decide +kernel
theorem d6_5 : decode method_3_code 5 = .ok (.iconst 0, 1) := by decide +kernel
theorem d6_6 : decode method_3_code 6 = .ok (.ireturn, 1) := by decide +kernel
theorem d6_7 : decode method_3_code 7 = .ok (.iconst 1, 1) := by decide +kernel
theorem d6_8 : decode method_3_code 8 = .ok (.ireturn, 1) := by decide +kernel
theorem ef_rm6 (m : MethodId) (p0 : Int32) : entryFrame m #[(.int p0)] 1 = mkF m 0 #[.val (.int p0)] [] := by first | (simp [entryFrame, mkF, argsToLocals, Value.category]; done) | rfl
def fExp (p0 : Int32) : Int32 := (if p0 = (2 : Int32) then (0 : Int32) else (1 : Int32))
def Q_rm6 (Z : State) (p0 : Int32) (h0 : Heap) (n0 : Nat) (v : Option Value) (h : Heap) (L : List Loc) : Prop := v = some (.int (fExp p0)) ∧ Fr n0 L ∧ h = h0
set_option maxRecDepth 65536 in
set_option maxHeartbeats 40000000 in
theorem rm6 (l : Launch) (Z : State) (av0 : Array Value) (hw : ∀ d ∈ tables_1, d.before av0 Z = true) (ws : List Jvm.Cond) (p0 : Int32) (h0 : Heap) (n0 : Nat) (Z0 : n0 ≤ h0.size)  :
    MetFree l (⟨"com/example/arkivsjekk/arkivsjekk/RoleExternalPinLaw", "expected", "(I)Z"⟩ : MethodName) (head1 (Jvm.Cond.code (⟨"com/example/arkivsjekk/arkivsjekk/RoleExternalPinLaw", "expected", "(I)Z"⟩ : MethodName) method_3_code 1 (some .boolean) :: ws) ({ frames := 0, cells := 0, slots := 0, locals := 0 } : Room)) (fun a U => a = #[(.int p0)] ∧ Z.Warmed39 U.vm ∧ U.heap = h0) (fun _ _ _ _ _ => True) (fun _ U o U' => ∃ v L, o = .returned v ∧ Q_rm6 Z p0 h0 n0 v U'.heap L ∧ FrameEnd U o U' L ({ frames := 0, cells := 0, slots := 0, locals := 0 } : Room).cells ({ frames := 0, cells := 0, slots := 0, locals := 0 } : Room).slots) := by
  refine MetFree.of_bodySF (plainFor_of_name pn_0) hisR ?_
  intro p e s m args below meth c s₁ Bd hml0 hP hK
  obtain ⟨rfl, hZ, hh⟩ := hP
  have hx := Bd.exec
  have hby := Bd.bytes
  have hml : c.maxLocals = 1 := hml0
  have dd : ∀ {pc : Nat} {r : Except DecodeError (Instr × Nat)}, decode method_3_code pc = r → decode c.code pc = r := fun q => hb hby q
  have hown : s.vm.findClass "com/example/arkivsjekk/arkivsjekk/RoleExternalPinLaw" = some m.cls := findClass_of_methodNamed Bd.named
  have hnm := (name_of_methodNamed Bd.named Bd.method).1
  have X0 : Stand p l e ({ frames := 0, cells := 0, slots := 0, locals := 0 } : Room) s m #[(.int p0)] below meth c s₁ [] 0 0 := Stand.of_body Bd
  have e0 : s₁.heap = h0 := by rw [← hh, Bd.state]; rfl
  have N0 := Fr.nil n0
  have hret := Bd.returns
  have hlk := Bd.notSynchronized
  show Gz p e below s ({ frames := 0, cells := 0, slots := 0, locals := 0 } : Room).cells ({ frames := 0, cells := 0, slots := 0, locals := 0 } : Room).slots (Q_rm6 Z p0 h0 n0) (s₁.setTop (entryFrame m #[(.int p0)] 1))
  refine Gz.enter (ef_rm6 m p0) ?_
  refine Gz.iloadN 1 X0 hx (dd d6_0) rfl rfl ?_
  refine Gz.iconst 2 (2 : Int32) X0 hx (dd d6_1) rfl rfl ?_
  by_cases hc1 : p0 = (2 : Int32)
  · refine Gz.icmpNo 5 X0 hx (dd d6_2) (teq hc1).2 rfl ?_
    refine Gz.iconst 6 (0 : Int32) X0 hx (dd d6_5) rfl rfl ?_
    refine Gz.fin X0 (v := some (.int (0 : Int32))) (fun h => by rw [hret] at h; cases h) hlk (by decide) (by decide) (fun fs hr => retN X0 hx (t := .boolean) hret (by simp) (dd d6_6) hr) ?_
    rw [e0]
    exact ⟨(by unfold fExp; rw [if_pos hc1]), N0, rfl⟩
  · refine Gz.icmpYes 7 X0 hx (dd d6_2) (feq hc1).2 (by decide) (by decide) ?_
    refine Gz.iconst 8 (1 : Int32) X0 hx (dd d6_7) rfl rfl ?_
    refine Gz.fin X0 (v := some (.int (1 : Int32))) (fun h => by rw [hret] at h; cases h) hlk (by decide) (by decide) (fun fs hr => retN X0 hx (t := .boolean) hret (by simp) (dd d6_8) hr) ?_
    rw [e0]
    exact ⟨(by unfold fExp; rw [if_neg hc1]), N0, rfl⟩
theorem d5_0 : decode jdk_43_method_13_code 0 = .ok (.aload_n 0, 1) := by decide +kernel
theorem d5_1 : decode jdk_43_method_13_code 1 = .ok (.arraylength, 1) := by decide +kernel
theorem d5_2 : decode jdk_43_method_13_code 2 = .ok (.aload_n 1, 1) := by decide +kernel
theorem d5_3 : decode jdk_43_method_13_code 3 = .ok (.arraylength, 1) := by decide +kernel
theorem d5_4 : decode jdk_43_method_13_code 4 = .ok (.if_icmp .ne 30, 3) := by decide +kernel
theorem d5_34 : decode jdk_43_method_13_code 34 = .ok (.iconst 0, 1) := by decide +kernel
theorem d5_35 : decode jdk_43_method_13_code 35 = .ok (.ireturn, 1) := by decide +kernel
theorem pn_2 : plainName "java/lang/StringLatin1" = true := by first | (simp [plainName, overriddenIn]; done) | decide +kernel
theorem ef_rmSlq (m : MethodId) (a0 : Addr) (a1 : Addr) : entryFrame m #[(.ref a0), (.ref a1)] 3 = mkF m 0 #[.val (.ref a0), .val (.ref a1), .unset] [] := by first | (simp [entryFrame, mkF, argsToLocals, Value.category]; done) | rfl
def fSlq (a0 : Addr) (a1 : Addr) : Int32 := (0 : Int32)
def Q_rmSlq (Z : State) (a0 : Addr) (a1 : Addr) (k_a0 : ClassId) (k_a1 : ClassId) (h0 : Heap) (n0 : Nat) (v : Option Value) (h : Heap) (L : List Loc) : Prop := v = some (.int (fSlq a0 a1)) ∧ Fr n0 L ∧ h = h0
set_option maxRecDepth 65536 in
set_option maxHeartbeats 40000000 in
theorem rmSlq (l : Launch) (Z : State) (av0 : Array Value) (hw : ∀ d ∈ tables_1, d.before av0 Z = true) (ws : List Jvm.Cond) (a0 : Addr) (a1 : Addr) (k_a0 : ClassId) (k_a1 : ClassId) (h0 : Heap) (n0 : Nat) (Z0 : n0 ≤ h0.size) (V_a0 : Arv Z h0 a0 k_a0 .byte (15 : Int32) [(.int (73 : Int32)), (.int (110 : Int32)), (.int (116 : Int32)), (.int (101 : Int32)), (.int (114 : Int32)), (.int (110 : Int32)), (.int (32 : Int32)), (.int (109 : Int32)), (.int (111 : Int32)), (.int (116 : Int32)), (.int (116 : Int32)), (.int (97 : Int32)), (.int (107 : Int32)), (.int (101 : Int32)), (.int (114 : Int32))] (.int (0 : Int32))) (V_a1 : Arv Z h0 a1 k_a1 .byte (8 : Int32) [(.int (65 : Int32)), (.int (118 : Int32)), (.int (115 : Int32)), (.int (101 : Int32)), (.int (110 : Int32)), (.int (100 : Int32)), (.int (101 : Int32)), (.int (114 : Int32))] (.int (0 : Int32))) :
    MetFree l (⟨"java/lang/StringLatin1", "equals", "([B[B)Z"⟩ : MethodName) (head1 (Jvm.Cond.code (⟨"java/lang/StringLatin1", "equals", "([B[B)Z"⟩ : MethodName) jdk_43_method_13_code 3 (some .boolean) :: ws) ({ frames := 0, cells := 0, slots := 0, locals := 0 } : Room)) (fun a U => a = #[(.ref a0), (.ref a1)] ∧ Z.Warmed39 U.vm ∧ U.heap = h0) (fun _ _ _ _ _ => True) (fun _ U o U' => ∃ v L, o = .returned v ∧ Q_rmSlq Z a0 a1 k_a0 k_a1 h0 n0 v U'.heap L ∧ FrameEnd U o U' L ({ frames := 0, cells := 0, slots := 0, locals := 0 } : Room).cells ({ frames := 0, cells := 0, slots := 0, locals := 0 } : Room).slots) := by
  refine MetFree.of_bodySF (plainFor_of_name pn_2) hisR ?_
  intro p e s m args below meth c s₁ Bd hml0 hP hK
  obtain ⟨rfl, hZ, hh⟩ := hP
  have hx := Bd.exec
  have hby := Bd.bytes
  have hml : c.maxLocals = 3 := hml0
  have dd : ∀ {pc : Nat} {r : Except DecodeError (Instr × Nat)}, decode jdk_43_method_13_code pc = r → decode c.code pc = r := fun q => hb hby q
  have hown : s.vm.findClass "java/lang/StringLatin1" = some m.cls := findClass_of_methodNamed Bd.named
  have hnm := (name_of_methodNamed Bd.named Bd.method).1
  have X0 : Stand p l e ({ frames := 0, cells := 0, slots := 0, locals := 0 } : Room) s m #[(.ref a0), (.ref a1)] below meth c s₁ [] 0 0 := Stand.of_body Bd
  have e0 : s₁.heap = h0 := by rw [← hh, Bd.state]; rfl
  have N0 := Fr.nil n0
  have hret := Bd.returns
  have hlk := Bd.notSynchronized
  show Gz p e below s ({ frames := 0, cells := 0, slots := 0, locals := 0 } : Room).cells ({ frames := 0, cells := 0, slots := 0, locals := 0 } : Room).slots (Q_rmSlq Z a0 a1 k_a0 k_a1 h0 n0) (s₁.setTop (entryFrame m #[(.ref a0), (.ref a1)] 3))
  refine Gz.enter (ef_rmSlq m a0 a1) ?_
  refine Gz.aloadN 1 X0 hx (dd d5_0) rfl rfl rfl ?_
  obtain ⟨c1, A1, -, S1, N1, -, -⟩ := id V_a0
  refine Gz.alen 2 X0 hx hZ (dd d5_1) e0 A1 S1 N1 rfl ?_
  refine Gz.aloadN 3 X0 hx (dd d5_2) rfl rfl rfl ?_
  obtain ⟨c2, A2, -, S2, N2, -, -⟩ := id V_a1
  refine Gz.alen 4 X0 hx hZ (dd d5_3) e0 A2 S2 N2 rfl ?_
  refine Gz.icmpYes 34 X0 hx (dd d5_4) (feq (by decide : ¬ ((15 : Int32) = (8 : Int32)))).2 (by decide) (by decide) ?_
  refine Gz.iconst 35 (0 : Int32) X0 hx (dd d5_34) rfl rfl ?_
  refine Gz.fin X0 (v := some (.int (0 : Int32))) (fun h => by rw [hret] at h; cases h) hlk (by decide) (by decide) (fun fs hr => retN X0 hx (t := .boolean) hret (by simp) (dd d5_35) hr) ?_
  rw [e0]
  exact ⟨rfl, N0, rfl⟩
theorem pd_0 : parseMethodDescriptor "([B[B)Z" = some ⟨[(.array .byte), (.array .byte)], some .boolean⟩ := by decide +kernel
abbrev ym0 : MethodName := ⟨"java/lang/StringLatin1", "equals", "([B[B)Z"⟩
theorem d4_0 : decode jdk_42_method_66_code 0 = .ok (.aload_n 0, 1) := by decide +kernel
theorem d4_1 : decode jdk_42_method_66_code 1 = .ok (.aload_n 1, 1) := by decide +kernel
theorem d4_2 : decode jdk_42_method_66_code 2 = .ok (.if_acmp .ne 5, 3) := by decide +kernel
theorem d4_7 : decode jdk_42_method_66_code 7 = .ok (.aload_n 1, 1) := by decide +kernel
theorem d4_8 : decode jdk_42_method_66_code 8 = .ok (.instanceof 10, 3) := by decide +kernel
theorem d4_11 : decode jdk_42_method_66_code 11 = .ok (.ifCond .eq 43, 3) := by decide +kernel
theorem d4_14 : decode jdk_42_method_66_code 14 = .ok (.aload_n 1, 1) := by decide +kernel
theorem d4_15 : decode jdk_42_method_66_code 15 = .ok (.checkcast 10, 3) := by decide +kernel
theorem d4_18 : decode jdk_42_method_66_code 18 = .ok (.astore_n 2, 1) := by decide +kernel
theorem d4_19 : decode jdk_42_method_66_code 19 = .ok (.getstatic 38, 3) := by decide +kernel
theorem d4_22 : decode jdk_42_method_66_code 22 = .ok (.ifCond .eq 14, 3) := by decide +kernel
theorem d4_25 : decode jdk_42_method_66_code 25 = .ok (.aload_n 0, 1) := by decide +kernel
theorem d4_26 : decode jdk_42_method_66_code 26 = .ok (.getfield 15, 3) := by decide +kernel
theorem d4_29 : decode jdk_42_method_66_code 29 = .ok (.aload_n 2, 1) := by decide +kernel
theorem d4_30 : decode jdk_42_method_66_code 30 = .ok (.getfield 15, 3) := by decide +kernel
theorem d4_33 : decode jdk_42_method_66_code 33 = .ok (.if_icmp .ne 21, 3) := by decide +kernel
theorem d4_36 : decode jdk_42_method_66_code 36 = .ok (.aload_n 0, 1) := by decide +kernel
theorem d4_37 : decode jdk_42_method_66_code 37 = .ok (.getfield 9, 3) := by decide +kernel
theorem d4_40 : decode jdk_42_method_66_code 40 = .ok (.aload_n 2, 1) := by decide +kernel
theorem d4_41 : decode jdk_42_method_66_code 41 = .ok (.getfield 9, 3) := by decide +kernel
theorem d4_44 : decode jdk_42_method_66_code 44 = .ok (.invokestatic 541, 3) := by decide +kernel
theorem d4_47 : decode jdk_42_method_66_code 47 = .ok (.ifCond .eq 7, 3) := by decide +kernel
theorem d4_54 : decode jdk_42_method_66_code 54 = .ok (.iconst 0, 1) := by decide +kernel
theorem d4_55 : decode jdk_42_method_66_code 55 = .ok (.ireturn, 1) := by decide +kernel
theorem pn_3 : plainName "java/lang/String" = true := by first | (simp [plainName, overriddenIn]; done) | decide +kernel
theorem ef_rmSeq (m : MethodId) (a0 : Addr) (a1 : Addr) : entryFrame m #[(.ref a0), (.ref a1)] 3 = mkF m 0 #[.val (.ref a0), .val (.ref a1), .unset] [] := by first | (simp [entryFrame, mkF, argsToLocals, Value.category]; done) | rfl
def fSeq (a0 : Addr) (a1 : Addr) (va : Addr) (vb : Addr) (cz : Int32) : Int32 := (0 : Int32)
def Q_rmSeq (Z : State) (a0 : Addr) (a1 : Addr) (va : Addr) (vb : Addr) (k_va : ClassId) (k_vb : ClassId) (cz : Int32) (h0 : Heap) (n0 : Nat) (v : Option Value) (h : Heap) (L : List Loc) : Prop := v = some (.int (fSeq a0 a1 va vb cz)) ∧ Fr n0 L ∧ h = h0
set_option maxRecDepth 65536 in
set_option maxHeartbeats 40000000 in
theorem rmSeq (l : Launch) (Z : State) (av0 : Array Value) (hw : ∀ d ∈ tables_1, d.before av0 Z = true) (ws : List Jvm.Cond) (a0 : Addr) (a1 : Addr) (va : Addr) (vb : Addr) (k_va : ClassId) (k_vb : ClassId) (cz : Int32) (h0 : Heap) (n0 : Nat) (Z0 : n0 ≤ h0.size) (E_a0 : Exa Z h0 a0 "java/lang/String") (E_a1 : Exa Z h0 a1 "java/lang/String") (F_coder_a0 : Fld Z h0 a0 "java/lang/String" "coder" "B" (.int (0 : Int32))) (F_coder_a1 : Fld Z h0 a1 "java/lang/String" "coder" "B" (.int (0 : Int32))) (F_value_a0 : Fld Z h0 a0 "java/lang/String" "value" "[B" (.ref va)) (F_value_a1 : Fld Z h0 a1 "java/lang/String" "value" "[B" (.ref vb)) (V_va : Arv Z h0 va k_va .byte (15 : Int32) [(.int (73 : Int32)), (.int (110 : Int32)), (.int (116 : Int32)), (.int (101 : Int32)), (.int (114 : Int32)), (.int (110 : Int32)), (.int (32 : Int32)), (.int (109 : Int32)), (.int (111 : Int32)), (.int (116 : Int32)), (.int (116 : Int32)), (.int (97 : Int32)), (.int (107 : Int32)), (.int (101 : Int32)), (.int (114 : Int32))] (.int (0 : Int32))) (V_vb : Arv Z h0 vb k_vb .byte (8 : Int32) [(.int (65 : Int32)), (.int (118 : Int32)), (.int (115 : Int32)), (.int (101 : Int32)), (.int (110 : Int32)), (.int (100 : Int32)), (.int (101 : Int32)), (.int (114 : Int32))] (.int (0 : Int32))) (S_cz : Sta Z h0 "java/lang/String" "COMPACT_STRINGS" "Z" (.int cz)) (hcz : ¬ (cz = (0 : Int32))) (ne_a0_a1 : a0 ≠ a1) :
    MetFree l (⟨"java/lang/String", "equals", "(Ljava/lang/Object;)Z"⟩ : MethodName) (head1 (Jvm.Cond.code (⟨"java/lang/String", "equals", "(Ljava/lang/Object;)Z"⟩ : MethodName) jdk_42_method_66_code 3 (some .boolean) :: ws) ({ frames := 1, cells := 0, slots := 0, locals := 14 } : Room)) (fun a U => a = #[(.ref a0), (.ref a1)] ∧ Z.Warmed39 U.vm ∧ U.heap = h0) (fun _ _ _ _ _ => True) (fun _ U o U' => ∃ v L, o = .returned v ∧ Q_rmSeq Z a0 a1 va vb k_va k_vb cz h0 n0 v U'.heap L ∧ FrameEnd U o U' L ({ frames := 1, cells := 0, slots := 0, locals := 14 } : Room).cells ({ frames := 1, cells := 0, slots := 0, locals := 14 } : Room).slots) := by
  refine MetFree.of_bodySF (plainFor_of_name pn_3) hisR ?_
  intro p e s m args below meth c s₁ Bd hml0 hP hK
  obtain ⟨rfl, hZ, hh⟩ := hP
  have hx := Bd.exec
  have hby := Bd.bytes
  have hml : c.maxLocals = 3 := hml0
  have dd : ∀ {pc : Nat} {r : Except DecodeError (Instr × Nat)}, decode jdk_42_method_66_code pc = r → decode c.code pc = r := fun q => hb hby q
  have hown : s.vm.findClass "java/lang/String" = some m.cls := findClass_of_methodNamed Bd.named
  have hnm := (name_of_methodNamed Bd.named Bd.method).1
  have X0 : Stand p l e ({ frames := 1, cells := 0, slots := 0, locals := 14 } : Room) s m #[(.ref a0), (.ref a1)] below meth c s₁ [] 0 0 := Stand.of_body Bd
  have e0 : s₁.heap = h0 := by rw [← hh, Bd.state]; rfl
  have N0 := Fr.nil n0
  have hret := Bd.returns
  have hlk := Bd.notSynchronized
  show Gz p e below s ({ frames := 1, cells := 0, slots := 0, locals := 14 } : Room).cells ({ frames := 1, cells := 0, slots := 0, locals := 14 } : Room).slots (Q_rmSeq Z a0 a1 va vb k_va k_vb cz h0 n0) (s₁.setTop (entryFrame m #[(.ref a0), (.ref a1)] 3))
  refine Gz.enter (ef_rmSeq m a0 a1) ?_
  refine Gz.aloadN 1 X0 hx (dd d4_0) rfl rfl rfl ?_
  refine Gz.aloadN 2 X0 hx (dd d4_1) rfl rfl rfl ?_
  refine Gz.acmp 7 false X0 hx (dd d4_2) rfl rfl (decide_eq_false fun q => ne_a0_a1 (Value.ref.inj q)) (by decide) (by decide) ?_
  refine Gz.aloadN 8 X0 hx (dd d4_7) rfl rfl rfl ?_
  refine Gz.instY 11 X0 hx hZ hown (dd d4_8) (ww hw 35 rfl) e0 (Ins.self E_a1) rfl fun T1 X1 e1 => ?_
  refine Gz.ifNo 14 X1 hx (dd d4_11) ((if0 _ _).trans (feq (by decide : ¬ ((1 : Int32) = (0 : Int32)))).1) rfl ?_
  refine Gz.aloadN 15 X1 hx (dd d4_14) rfl rfl rfl ?_
  refine Gz.castY 18 X1 hx hZ hown (dd d4_15) (ww hw 35 rfl) e1 (Ins.self E_a1) rfl fun T2 X2 e2 => ?_
  refine Gz.astoreN 19 #[.val (.ref a0), .val (.ref a1), .val (.ref a1)] X2 hx (dd d4_18) rfl rfl rfl ?_
  refine Gz.getS 22 X2 hx hZ hown (dd d4_19) (host := "") (Or.inl (ww hw 37 rfl)) Via.refl e2 S_cz rfl fun T3 X3 e3 => ?_
  refine Gz.ifNo 25 X3 hx (dd d4_22) ((if0 _ _).trans (feq (hcz : ¬ (cz = (0 : Int32)))).1) rfl ?_
  refine Gz.aloadN 26 X3 hx (dd d4_25) rfl rfl rfl ?_
  refine Gz.getF 29 X3 hx hZ hown (dd d4_26) (host := "") (Or.inl (ww hw 38 rfl)) Via.refl e3 F_coder_a0 rfl fun T4 X4 e4 => ?_
  refine Gz.aloadN 30 X4 hx (dd d4_29) rfl rfl rfl ?_
  refine Gz.getF 33 X4 hx hZ hown (dd d4_30) (host := "") (Or.inl (ww hw 38 rfl)) Via.refl e4 F_coder_a1 rfl fun T5 X5 e5 => ?_
  refine Gz.icmpNo 36 X5 hx (dd d4_33) (teq (by decide : (0 : Int32) = (0 : Int32))).2 rfl ?_
  refine Gz.aloadN 37 X5 hx (dd d4_36) rfl rfl rfl ?_
  refine Gz.getF 40 X5 hx hZ hown (dd d4_37) (host := "") (Or.inl (ww hw 39 rfl)) Via.refl e5 F_value_a0 rfl fun T6 X6 e6 => ?_
  refine Gz.aloadN 41 X6 hx (dd d4_40) rfl rfl rfl ?_
  refine Gz.getF 44 X6 hx hZ hown (dd d4_41) (host := "") (Or.inl (ww hw 39 rfl)) Via.refl e6 F_value_a1 rfl fun T7 X7 e7 => ?_
  obtain ⟨_, _, ⟨T8, L8, k8, n8⟩, -, X8, ⟨Lc8, hQ8, l8, y8, z8⟩, st8⟩ := Jvm.LawKit.callS X7 hx (y := ym0) hown (mvT hZ (ww hw 40 rfl)) (mvT hZ (ww hw 41 rfl)) (mvT hZ (ww hw 42 rfl)) (mvT hZ (ww hw 43 rfl)) (by decide) (backOf (W := 0) (rmSlq l Z av0 hw [] va vb k_va k_vb h0 n0 Z0 V_va V_vb) hZ (ww hw 43 rfl) (ww hw 42 rfl) (by decide) (by decide)) (g := (mkF m 44 #[.val (.ref a0), .val (.ref a1), .val (.ref a1)] [(.ref vb), (.ref va)])) rfl (by rw [hml]; rfl) (argsL := [(.ref va), (.ref vb)]) (rest := []) (lenOf pd_0 rfl) rfl (Nat.le_refl _) (dd d4_44) (fun _ _ => ⟨rfl, e7, (by decide : 0 + 0 ≤ _), (by decide : 0 + 0 ≤ _)⟩)
  dsimp only [Pt.U, Pt.locs, Pt.cells, Pt.slots, Q_rmSlq] at X8 l8 y8 z8 st8 hQ8
  subst l8 y8 z8
  rw [show (fSlq va vb) = (0 : Int32) from (by unfold fSlq; rfl)] at hQ8
  obtain ⟨rfl, N8q, e8⟩ := hQ8
  have N8 := Fr.app N0 N8q
  refine Gz.st st8 ?_
  refine Gz.ifYes 54 X8 hx (dd d4_47) ((if0 _ _).trans (teq (by decide : (0 : Int32) = (0 : Int32))).1) (by decide) (by decide) ?_
  refine Gz.iconst 55 (0 : Int32) X8 hx (dd d4_54) rfl rfl ?_
  refine Gz.fin X8 (v := some (.int (0 : Int32))) (fun h => by rw [hret] at h; cases h) hlk (by decide) (by decide) (fun fs hr => retN X8 hx (t := .boolean) hret (by simp) (dd d4_55) hr) ?_
  rw [e8]
  exact ⟨rfl, N8, rfl⟩
theorem ef_rmSlr (m : MethodId) (a0 : Addr) (a1 : Addr) : entryFrame m #[(.ref a0), (.ref a1)] 3 = mkF m 0 #[.val (.ref a0), .val (.ref a1), .unset] [] := by first | (simp [entryFrame, mkF, argsToLocals, Value.category]; done) | rfl
def fSlr (a0 : Addr) (a1 : Addr) : Int32 := (0 : Int32)
def Q_rmSlr (Z : State) (a0 : Addr) (a1 : Addr) (k_a0 : ClassId) (k_a1 : ClassId) (h0 : Heap) (n0 : Nat) (v : Option Value) (h : Heap) (L : List Loc) : Prop := v = some (.int (fSlr a0 a1)) ∧ Fr n0 L ∧ h = h0
set_option maxRecDepth 65536 in
set_option maxHeartbeats 40000000 in
theorem rmSlr (l : Launch) (Z : State) (av0 : Array Value) (hw : ∀ d ∈ tables_1, d.before av0 Z = true) (ws : List Jvm.Cond) (a0 : Addr) (a1 : Addr) (k_a0 : ClassId) (k_a1 : ClassId) (h0 : Heap) (n0 : Nat) (Z0 : n0 ≤ h0.size) (V_a0 : Arv Z h0 a0 k_a0 .byte (15 : Int32) [(.int (73 : Int32)), (.int (110 : Int32)), (.int (116 : Int32)), (.int (101 : Int32)), (.int (114 : Int32)), (.int (110 : Int32)), (.int (32 : Int32)), (.int (109 : Int32)), (.int (111 : Int32)), (.int (116 : Int32)), (.int (116 : Int32)), (.int (97 : Int32)), (.int (107 : Int32)), (.int (101 : Int32)), (.int (114 : Int32))] (.int (0 : Int32))) (V_a1 : Arv Z h0 a1 k_a1 .byte (8 : Int32) [(.int (77 : Int32)), (.int (111 : Int32)), (.int (116 : Int32)), (.int (116 : Int32)), (.int (97 : Int32)), (.int (107 : Int32)), (.int (101 : Int32)), (.int (114 : Int32))] (.int (0 : Int32))) :
    MetFree l (⟨"java/lang/StringLatin1", "equals", "([B[B)Z"⟩ : MethodName) (head1 (Jvm.Cond.code (⟨"java/lang/StringLatin1", "equals", "([B[B)Z"⟩ : MethodName) jdk_43_method_13_code 3 (some .boolean) :: ws) ({ frames := 0, cells := 0, slots := 0, locals := 0 } : Room)) (fun a U => a = #[(.ref a0), (.ref a1)] ∧ Z.Warmed39 U.vm ∧ U.heap = h0) (fun _ _ _ _ _ => True) (fun _ U o U' => ∃ v L, o = .returned v ∧ Q_rmSlr Z a0 a1 k_a0 k_a1 h0 n0 v U'.heap L ∧ FrameEnd U o U' L ({ frames := 0, cells := 0, slots := 0, locals := 0 } : Room).cells ({ frames := 0, cells := 0, slots := 0, locals := 0 } : Room).slots) := by
  refine MetFree.of_bodySF (plainFor_of_name pn_2) hisR ?_
  intro p e s m args below meth c s₁ Bd hml0 hP hK
  obtain ⟨rfl, hZ, hh⟩ := hP
  have hx := Bd.exec
  have hby := Bd.bytes
  have hml : c.maxLocals = 3 := hml0
  have dd : ∀ {pc : Nat} {r : Except DecodeError (Instr × Nat)}, decode jdk_43_method_13_code pc = r → decode c.code pc = r := fun q => hb hby q
  have hown : s.vm.findClass "java/lang/StringLatin1" = some m.cls := findClass_of_methodNamed Bd.named
  have hnm := (name_of_methodNamed Bd.named Bd.method).1
  have X0 : Stand p l e ({ frames := 0, cells := 0, slots := 0, locals := 0 } : Room) s m #[(.ref a0), (.ref a1)] below meth c s₁ [] 0 0 := Stand.of_body Bd
  have e0 : s₁.heap = h0 := by rw [← hh, Bd.state]; rfl
  have N0 := Fr.nil n0
  have hret := Bd.returns
  have hlk := Bd.notSynchronized
  show Gz p e below s ({ frames := 0, cells := 0, slots := 0, locals := 0 } : Room).cells ({ frames := 0, cells := 0, slots := 0, locals := 0 } : Room).slots (Q_rmSlr Z a0 a1 k_a0 k_a1 h0 n0) (s₁.setTop (entryFrame m #[(.ref a0), (.ref a1)] 3))
  refine Gz.enter (ef_rmSlr m a0 a1) ?_
  refine Gz.aloadN 1 X0 hx (dd d5_0) rfl rfl rfl ?_
  obtain ⟨c1, A1, -, S1, N1, -, -⟩ := id V_a0
  refine Gz.alen 2 X0 hx hZ (dd d5_1) e0 A1 S1 N1 rfl ?_
  refine Gz.aloadN 3 X0 hx (dd d5_2) rfl rfl rfl ?_
  obtain ⟨c2, A2, -, S2, N2, -, -⟩ := id V_a1
  refine Gz.alen 4 X0 hx hZ (dd d5_3) e0 A2 S2 N2 rfl ?_
  refine Gz.icmpYes 34 X0 hx (dd d5_4) (feq (by decide : ¬ ((15 : Int32) = (8 : Int32)))).2 (by decide) (by decide) ?_
  refine Gz.iconst 35 (0 : Int32) X0 hx (dd d5_34) rfl rfl ?_
  refine Gz.fin X0 (v := some (.int (0 : Int32))) (fun h => by rw [hret] at h; cases h) hlk (by decide) (by decide) (fun fs hr => retN X0 hx (t := .boolean) hret (by simp) (dd d5_35) hr) ?_
  rw [e0]
  exact ⟨rfl, N0, rfl⟩
theorem ef_rmSer (m : MethodId) (a0 : Addr) (a1 : Addr) : entryFrame m #[(.ref a0), (.ref a1)] 3 = mkF m 0 #[.val (.ref a0), .val (.ref a1), .unset] [] := by first | (simp [entryFrame, mkF, argsToLocals, Value.category]; done) | rfl
def fSer (a0 : Addr) (a1 : Addr) (va : Addr) (vb : Addr) (cz : Int32) : Int32 := (0 : Int32)
def Q_rmSer (Z : State) (a0 : Addr) (a1 : Addr) (va : Addr) (vb : Addr) (k_va : ClassId) (k_vb : ClassId) (cz : Int32) (h0 : Heap) (n0 : Nat) (v : Option Value) (h : Heap) (L : List Loc) : Prop := v = some (.int (fSer a0 a1 va vb cz)) ∧ Fr n0 L ∧ h = h0
set_option maxRecDepth 65536 in
set_option maxHeartbeats 40000000 in
theorem rmSer (l : Launch) (Z : State) (av0 : Array Value) (hw : ∀ d ∈ tables_1, d.before av0 Z = true) (ws : List Jvm.Cond) (a0 : Addr) (a1 : Addr) (va : Addr) (vb : Addr) (k_va : ClassId) (k_vb : ClassId) (cz : Int32) (h0 : Heap) (n0 : Nat) (Z0 : n0 ≤ h0.size) (E_a0 : Exa Z h0 a0 "java/lang/String") (E_a1 : Exa Z h0 a1 "java/lang/String") (F_coder_a0 : Fld Z h0 a0 "java/lang/String" "coder" "B" (.int (0 : Int32))) (F_coder_a1 : Fld Z h0 a1 "java/lang/String" "coder" "B" (.int (0 : Int32))) (F_value_a0 : Fld Z h0 a0 "java/lang/String" "value" "[B" (.ref va)) (F_value_a1 : Fld Z h0 a1 "java/lang/String" "value" "[B" (.ref vb)) (V_va : Arv Z h0 va k_va .byte (15 : Int32) [(.int (73 : Int32)), (.int (110 : Int32)), (.int (116 : Int32)), (.int (101 : Int32)), (.int (114 : Int32)), (.int (110 : Int32)), (.int (32 : Int32)), (.int (109 : Int32)), (.int (111 : Int32)), (.int (116 : Int32)), (.int (116 : Int32)), (.int (97 : Int32)), (.int (107 : Int32)), (.int (101 : Int32)), (.int (114 : Int32))] (.int (0 : Int32))) (V_vb : Arv Z h0 vb k_vb .byte (8 : Int32) [(.int (77 : Int32)), (.int (111 : Int32)), (.int (116 : Int32)), (.int (116 : Int32)), (.int (97 : Int32)), (.int (107 : Int32)), (.int (101 : Int32)), (.int (114 : Int32))] (.int (0 : Int32))) (S_cz : Sta Z h0 "java/lang/String" "COMPACT_STRINGS" "Z" (.int cz)) (hcz : ¬ (cz = (0 : Int32))) (ne_a0_a1 : a0 ≠ a1) :
    MetFree l (⟨"java/lang/String", "equals", "(Ljava/lang/Object;)Z"⟩ : MethodName) (head1 (Jvm.Cond.code (⟨"java/lang/String", "equals", "(Ljava/lang/Object;)Z"⟩ : MethodName) jdk_42_method_66_code 3 (some .boolean) :: ws) ({ frames := 1, cells := 0, slots := 0, locals := 14 } : Room)) (fun a U => a = #[(.ref a0), (.ref a1)] ∧ Z.Warmed39 U.vm ∧ U.heap = h0) (fun _ _ _ _ _ => True) (fun _ U o U' => ∃ v L, o = .returned v ∧ Q_rmSer Z a0 a1 va vb k_va k_vb cz h0 n0 v U'.heap L ∧ FrameEnd U o U' L ({ frames := 1, cells := 0, slots := 0, locals := 14 } : Room).cells ({ frames := 1, cells := 0, slots := 0, locals := 14 } : Room).slots) := by
  refine MetFree.of_bodySF (plainFor_of_name pn_3) hisR ?_
  intro p e s m args below meth c s₁ Bd hml0 hP hK
  obtain ⟨rfl, hZ, hh⟩ := hP
  have hx := Bd.exec
  have hby := Bd.bytes
  have hml : c.maxLocals = 3 := hml0
  have dd : ∀ {pc : Nat} {r : Except DecodeError (Instr × Nat)}, decode jdk_42_method_66_code pc = r → decode c.code pc = r := fun q => hb hby q
  have hown : s.vm.findClass "java/lang/String" = some m.cls := findClass_of_methodNamed Bd.named
  have hnm := (name_of_methodNamed Bd.named Bd.method).1
  have X0 : Stand p l e ({ frames := 1, cells := 0, slots := 0, locals := 14 } : Room) s m #[(.ref a0), (.ref a1)] below meth c s₁ [] 0 0 := Stand.of_body Bd
  have e0 : s₁.heap = h0 := by rw [← hh, Bd.state]; rfl
  have N0 := Fr.nil n0
  have hret := Bd.returns
  have hlk := Bd.notSynchronized
  show Gz p e below s ({ frames := 1, cells := 0, slots := 0, locals := 14 } : Room).cells ({ frames := 1, cells := 0, slots := 0, locals := 14 } : Room).slots (Q_rmSer Z a0 a1 va vb k_va k_vb cz h0 n0) (s₁.setTop (entryFrame m #[(.ref a0), (.ref a1)] 3))
  refine Gz.enter (ef_rmSer m a0 a1) ?_
  refine Gz.aloadN 1 X0 hx (dd d4_0) rfl rfl rfl ?_
  refine Gz.aloadN 2 X0 hx (dd d4_1) rfl rfl rfl ?_
  refine Gz.acmp 7 false X0 hx (dd d4_2) rfl rfl (decide_eq_false fun q => ne_a0_a1 (Value.ref.inj q)) (by decide) (by decide) ?_
  refine Gz.aloadN 8 X0 hx (dd d4_7) rfl rfl rfl ?_
  refine Gz.instY 11 X0 hx hZ hown (dd d4_8) (ww hw 35 rfl) e0 (Ins.self E_a1) rfl fun T1 X1 e1 => ?_
  refine Gz.ifNo 14 X1 hx (dd d4_11) ((if0 _ _).trans (feq (by decide : ¬ ((1 : Int32) = (0 : Int32)))).1) rfl ?_
  refine Gz.aloadN 15 X1 hx (dd d4_14) rfl rfl rfl ?_
  refine Gz.castY 18 X1 hx hZ hown (dd d4_15) (ww hw 35 rfl) e1 (Ins.self E_a1) rfl fun T2 X2 e2 => ?_
  refine Gz.astoreN 19 #[.val (.ref a0), .val (.ref a1), .val (.ref a1)] X2 hx (dd d4_18) rfl rfl rfl ?_
  refine Gz.getS 22 X2 hx hZ hown (dd d4_19) (host := "") (Or.inl (ww hw 37 rfl)) Via.refl e2 S_cz rfl fun T3 X3 e3 => ?_
  refine Gz.ifNo 25 X3 hx (dd d4_22) ((if0 _ _).trans (feq (hcz : ¬ (cz = (0 : Int32)))).1) rfl ?_
  refine Gz.aloadN 26 X3 hx (dd d4_25) rfl rfl rfl ?_
  refine Gz.getF 29 X3 hx hZ hown (dd d4_26) (host := "") (Or.inl (ww hw 38 rfl)) Via.refl e3 F_coder_a0 rfl fun T4 X4 e4 => ?_
  refine Gz.aloadN 30 X4 hx (dd d4_29) rfl rfl rfl ?_
  refine Gz.getF 33 X4 hx hZ hown (dd d4_30) (host := "") (Or.inl (ww hw 38 rfl)) Via.refl e4 F_coder_a1 rfl fun T5 X5 e5 => ?_
  refine Gz.icmpNo 36 X5 hx (dd d4_33) (teq (by decide : (0 : Int32) = (0 : Int32))).2 rfl ?_
  refine Gz.aloadN 37 X5 hx (dd d4_36) rfl rfl rfl ?_
  refine Gz.getF 40 X5 hx hZ hown (dd d4_37) (host := "") (Or.inl (ww hw 39 rfl)) Via.refl e5 F_value_a0 rfl fun T6 X6 e6 => ?_
  refine Gz.aloadN 41 X6 hx (dd d4_40) rfl rfl rfl ?_
  refine Gz.getF 44 X6 hx hZ hown (dd d4_41) (host := "") (Or.inl (ww hw 39 rfl)) Via.refl e6 F_value_a1 rfl fun T7 X7 e7 => ?_
  obtain ⟨_, _, ⟨T8, L8, k8, n8⟩, -, X8, ⟨Lc8, hQ8, l8, y8, z8⟩, st8⟩ := Jvm.LawKit.callS X7 hx (y := ym0) hown (mvT hZ (ww hw 40 rfl)) (mvT hZ (ww hw 41 rfl)) (mvT hZ (ww hw 42 rfl)) (mvT hZ (ww hw 43 rfl)) (by decide) (backOf (W := 0) (rmSlr l Z av0 hw [] va vb k_va k_vb h0 n0 Z0 V_va V_vb) hZ (ww hw 43 rfl) (ww hw 42 rfl) (by decide) (by decide)) (g := (mkF m 44 #[.val (.ref a0), .val (.ref a1), .val (.ref a1)] [(.ref vb), (.ref va)])) rfl (by rw [hml]; rfl) (argsL := [(.ref va), (.ref vb)]) (rest := []) (lenOf pd_0 rfl) rfl (Nat.le_refl _) (dd d4_44) (fun _ _ => ⟨rfl, e7, (by decide : 0 + 0 ≤ _), (by decide : 0 + 0 ≤ _)⟩)
  dsimp only [Pt.U, Pt.locs, Pt.cells, Pt.slots, Q_rmSlr] at X8 l8 y8 z8 st8 hQ8
  subst l8 y8 z8
  rw [show (fSlr va vb) = (0 : Int32) from (by unfold fSlr; rfl)] at hQ8
  obtain ⟨rfl, N8q, e8⟩ := hQ8
  have N8 := Fr.app N0 N8q
  refine Gz.st st8 ?_
  refine Gz.ifYes 54 X8 hx (dd d4_47) ((if0 _ _).trans (teq (by decide : (0 : Int32) = (0 : Int32))).1) (by decide) (by decide) ?_
  refine Gz.iconst 55 (0 : Int32) X8 hx (dd d4_54) rfl rfl ?_
  refine Gz.fin X8 (v := some (.int (0 : Int32))) (fun h => by rw [hret] at h; cases h) hlk (by decide) (by decide) (fun fs hr => retN X8 hx (t := .boolean) hret (by simp) (dd d4_55) hr) ?_
  rw [e8]
  exact ⟨rfl, N8, rfl⟩
theorem d5_7 : decode jdk_43_method_13_code 7 = .ok (.iconst 0, 1) := by decide +kernel
theorem d5_8 : decode jdk_43_method_13_code 8 = .ok (.istore_n 2, 1) := by decide +kernel
theorem d5_9 : decode jdk_43_method_13_code 9 = .ok (.iload_n 2, 1) := by decide +kernel
theorem d5_10 : decode jdk_43_method_13_code 10 = .ok (.aload_n 0, 1) := by decide +kernel
theorem d5_11 : decode jdk_43_method_13_code 11 = .ok (.arraylength, 1) := by decide +kernel
theorem d5_12 : decode jdk_43_method_13_code 12 = .ok (.if_icmp .ge 20, 3) := by decide +kernel
theorem d5_15 : decode jdk_43_method_13_code 15 = .ok (.aload_n 0, 1) := by decide +kernel
theorem d5_16 : decode jdk_43_method_13_code 16 = .ok (.iload_n 2, 1) := by decide +kernel
theorem d5_17 : decode jdk_43_method_13_code 17 = .ok (.baload, 1) := by decide +kernel
theorem d5_18 : decode jdk_43_method_13_code 18 = .ok (.aload_n 1, 1) := by decide +kernel
theorem d5_19 : decode jdk_43_method_13_code 19 = .ok (.iload_n 2, 1) := by decide +kernel
theorem d5_20 : decode jdk_43_method_13_code 20 = .ok (.baload, 1) := by decide +kernel
theorem d5_21 : decode jdk_43_method_13_code 21 = .ok (.if_icmp .eq 5, 3) := by decide +kernel
theorem d5_26 : decode jdk_43_method_13_code 26 = .ok (.iinc 2 1, 3) := by decide +kernel
theorem d5_29 : decode jdk_43_method_13_code 29 = .ok (.goto (-20), 3) := by decide +kernel
theorem d5_32 : decode jdk_43_method_13_code 32 = .ok (.iconst 1, 1) := by decide +kernel
theorem d5_33 : decode jdk_43_method_13_code 33 = .ok (.ireturn, 1) := by decide +kernel
theorem ef_rmSln (m : MethodId) (a0 : Addr) (a1 : Addr) : entryFrame m #[(.ref a0), (.ref a1)] 3 = mkF m 0 #[.val (.ref a0), .val (.ref a1), .unset] [] := by first | (simp [entryFrame, mkF, argsToLocals, Value.category]; done) | rfl
def fSln (a0 : Addr) (a1 : Addr) : Int32 := (1 : Int32)
def Q_rmSln (Z : State) (a0 : Addr) (a1 : Addr) (k_a0 : ClassId) (k_a1 : ClassId) (h0 : Heap) (n0 : Nat) (v : Option Value) (h : Heap) (L : List Loc) : Prop := v = some (.int (fSln a0 a1)) ∧ Fr n0 L ∧ h = h0
set_option maxRecDepth 65536 in
set_option maxHeartbeats 40000000 in
theorem rmSln (l : Launch) (Z : State) (av0 : Array Value) (hw : ∀ d ∈ tables_1, d.before av0 Z = true) (ws : List Jvm.Cond) (a0 : Addr) (a1 : Addr) (k_a0 : ClassId) (k_a1 : ClassId) (h0 : Heap) (n0 : Nat) (Z0 : n0 ≤ h0.size) (V_a0 : Arv Z h0 a0 k_a0 .byte (15 : Int32) [(.int (73 : Int32)), (.int (110 : Int32)), (.int (116 : Int32)), (.int (101 : Int32)), (.int (114 : Int32)), (.int (110 : Int32)), (.int (32 : Int32)), (.int (109 : Int32)), (.int (111 : Int32)), (.int (116 : Int32)), (.int (116 : Int32)), (.int (97 : Int32)), (.int (107 : Int32)), (.int (101 : Int32)), (.int (114 : Int32))] (.int (0 : Int32))) (V_a1 : Arv Z h0 a1 k_a1 .byte (15 : Int32) [(.int (73 : Int32)), (.int (110 : Int32)), (.int (116 : Int32)), (.int (101 : Int32)), (.int (114 : Int32)), (.int (110 : Int32)), (.int (32 : Int32)), (.int (109 : Int32)), (.int (111 : Int32)), (.int (116 : Int32)), (.int (116 : Int32)), (.int (97 : Int32)), (.int (107 : Int32)), (.int (101 : Int32)), (.int (114 : Int32))] (.int (0 : Int32))) :
    MetFree l (⟨"java/lang/StringLatin1", "equals", "([B[B)Z"⟩ : MethodName) (head1 (Jvm.Cond.code (⟨"java/lang/StringLatin1", "equals", "([B[B)Z"⟩ : MethodName) jdk_43_method_13_code 3 (some .boolean) :: ws) ({ frames := 0, cells := 0, slots := 0, locals := 0 } : Room)) (fun a U => a = #[(.ref a0), (.ref a1)] ∧ Z.Warmed39 U.vm ∧ U.heap = h0) (fun _ _ _ _ _ => True) (fun _ U o U' => ∃ v L, o = .returned v ∧ Q_rmSln Z a0 a1 k_a0 k_a1 h0 n0 v U'.heap L ∧ FrameEnd U o U' L ({ frames := 0, cells := 0, slots := 0, locals := 0 } : Room).cells ({ frames := 0, cells := 0, slots := 0, locals := 0 } : Room).slots) := by
  refine MetFree.of_bodySF (plainFor_of_name pn_2) hisR ?_
  intro p e s m args below meth c s₁ Bd hml0 hP hK
  obtain ⟨rfl, hZ, hh⟩ := hP
  have hx := Bd.exec
  have hby := Bd.bytes
  have hml : c.maxLocals = 3 := hml0
  have dd : ∀ {pc : Nat} {r : Except DecodeError (Instr × Nat)}, decode jdk_43_method_13_code pc = r → decode c.code pc = r := fun q => hb hby q
  have hown : s.vm.findClass "java/lang/StringLatin1" = some m.cls := findClass_of_methodNamed Bd.named
  have hnm := (name_of_methodNamed Bd.named Bd.method).1
  have X0 : Stand p l e ({ frames := 0, cells := 0, slots := 0, locals := 0 } : Room) s m #[(.ref a0), (.ref a1)] below meth c s₁ [] 0 0 := Stand.of_body Bd
  have e0 : s₁.heap = h0 := by rw [← hh, Bd.state]; rfl
  have N0 := Fr.nil n0
  have hret := Bd.returns
  have hlk := Bd.notSynchronized
  show Gz p e below s ({ frames := 0, cells := 0, slots := 0, locals := 0 } : Room).cells ({ frames := 0, cells := 0, slots := 0, locals := 0 } : Room).slots (Q_rmSln Z a0 a1 k_a0 k_a1 h0 n0) (s₁.setTop (entryFrame m #[(.ref a0), (.ref a1)] 3))
  refine Gz.enter (ef_rmSln m a0 a1) ?_
  refine Gz.aloadN 1 X0 hx (dd d5_0) rfl rfl rfl ?_
  obtain ⟨c1, A1, -, S1, N1, -, -⟩ := id V_a0
  refine Gz.alen 2 X0 hx hZ (dd d5_1) e0 A1 S1 N1 rfl ?_
  refine Gz.aloadN 3 X0 hx (dd d5_2) rfl rfl rfl ?_
  obtain ⟨c2, A2, -, S2, N2, -, -⟩ := id V_a1
  refine Gz.alen 4 X0 hx hZ (dd d5_3) e0 A2 S2 N2 rfl ?_
  refine Gz.icmpNo 7 X0 hx (dd d5_4) (teq (by decide : (15 : Int32) = (15 : Int32))).2 rfl ?_
  refine Gz.iconst 8 (0 : Int32) X0 hx (dd d5_7) rfl rfl ?_
  refine Gz.istoreN 9 #[.val (.ref a0), .val (.ref a1), .val (.int (0 : Int32))] X0 hx (dd d5_8) rfl rfl ?_
  refine Gz.iloadN 10 X0 hx (dd d5_9) rfl rfl ?_
  refine Gz.aloadN 11 X0 hx (dd d5_10) rfl rfl rfl ?_
  obtain ⟨c3, A3, -, S3, N3, -, -⟩ := id V_a0
  refine Gz.alen 12 X0 hx hZ (dd d5_11) e0 A3 S3 N3 rfl ?_
  refine Gz.icmpNo 15 X0 hx (dd d5_12) (tlt (by decide : (0 : Int32) < (15 : Int32))).2.1 rfl ?_
  refine Gz.aloadN 16 X0 hx (dd d5_15) rfl rfl rfl ?_
  refine Gz.iloadN 17 X0 hx (dd d5_16) rfl rfl ?_
  obtain ⟨c4, A4, q4, S4, N4, H4, G4⟩ := id V_a0
  have hin4 : ¬ ((0 : Int32) < 0 ∨ c4.slots.size ≤ ((0 : Int32)).toNatClampNeg) := inb_of S4 ⟨by decide, by decide⟩
  refine Gz.ldB 18 X0 hx hZ (dd d5_17) e0 A4 hin4 (Has.at H4 hin4 (rfl : _ = ((.int (73 : Int32)) : Value))) rfl ?_
  refine Gz.aloadN 19 X0 hx (dd d5_18) rfl rfl rfl ?_
  refine Gz.iloadN 20 X0 hx (dd d5_19) rfl rfl ?_
  obtain ⟨c5, A5, q5, S5, N5, H5, G5⟩ := id V_a1
  have hin5 : ¬ ((0 : Int32) < 0 ∨ c5.slots.size ≤ ((0 : Int32)).toNatClampNeg) := inb_of S5 ⟨by decide, by decide⟩
  refine Gz.ldB 21 X0 hx hZ (dd d5_20) e0 A5 hin5 (Has.at H5 hin5 (rfl : _ = ((.int (73 : Int32)) : Value))) rfl ?_
  refine Gz.icmpYes 26 X0 hx (dd d5_21) (teq (by decide : (73 : Int32) = (73 : Int32))).1 (by decide) (by decide) ?_
  refine Gz.iinc 29 #[.val (.ref a0), .val (.ref a1), .val (.int (1 : Int32))] X0 hx (dd d5_26) rfl rfl rfl ?_
  refine Gz.goto 9 X0 hx (dd d5_29) (by decide) (by decide) ?_
  refine Gz.iloadN 10 X0 hx (dd d5_9) rfl rfl ?_
  refine Gz.aloadN 11 X0 hx (dd d5_10) rfl rfl rfl ?_
  obtain ⟨c6, A6, -, S6, N6, -, -⟩ := id V_a0
  refine Gz.alen 12 X0 hx hZ (dd d5_11) e0 A6 S6 N6 rfl ?_
  refine Gz.icmpNo 15 X0 hx (dd d5_12) (tlt (by decide : (1 : Int32) < (15 : Int32))).2.1 rfl ?_
  refine Gz.aloadN 16 X0 hx (dd d5_15) rfl rfl rfl ?_
  refine Gz.iloadN 17 X0 hx (dd d5_16) rfl rfl ?_
  obtain ⟨c7, A7, q7, S7, N7, H7, G7⟩ := id V_a0
  have hin7 : ¬ ((1 : Int32) < 0 ∨ c7.slots.size ≤ ((1 : Int32)).toNatClampNeg) := inb_of S7 ⟨by decide, by decide⟩
  refine Gz.ldB 18 X0 hx hZ (dd d5_17) e0 A7 hin7 (Has.at H7 hin7 (rfl : _ = ((.int (110 : Int32)) : Value))) rfl ?_
  refine Gz.aloadN 19 X0 hx (dd d5_18) rfl rfl rfl ?_
  refine Gz.iloadN 20 X0 hx (dd d5_19) rfl rfl ?_
  obtain ⟨c8, A8, q8, S8, N8, H8, G8⟩ := id V_a1
  have hin8 : ¬ ((1 : Int32) < 0 ∨ c8.slots.size ≤ ((1 : Int32)).toNatClampNeg) := inb_of S8 ⟨by decide, by decide⟩
  refine Gz.ldB 21 X0 hx hZ (dd d5_20) e0 A8 hin8 (Has.at H8 hin8 (rfl : _ = ((.int (110 : Int32)) : Value))) rfl ?_
  refine Gz.icmpYes 26 X0 hx (dd d5_21) (teq (by decide : (110 : Int32) = (110 : Int32))).1 (by decide) (by decide) ?_
  refine Gz.iinc 29 #[.val (.ref a0), .val (.ref a1), .val (.int (2 : Int32))] X0 hx (dd d5_26) rfl rfl rfl ?_
  refine Gz.goto 9 X0 hx (dd d5_29) (by decide) (by decide) ?_
  refine Gz.iloadN 10 X0 hx (dd d5_9) rfl rfl ?_
  refine Gz.aloadN 11 X0 hx (dd d5_10) rfl rfl rfl ?_
  obtain ⟨c9, A9, -, S9, N9, -, -⟩ := id V_a0
  refine Gz.alen 12 X0 hx hZ (dd d5_11) e0 A9 S9 N9 rfl ?_
  refine Gz.icmpNo 15 X0 hx (dd d5_12) (tlt (by decide : (2 : Int32) < (15 : Int32))).2.1 rfl ?_
  refine Gz.aloadN 16 X0 hx (dd d5_15) rfl rfl rfl ?_
  refine Gz.iloadN 17 X0 hx (dd d5_16) rfl rfl ?_
  obtain ⟨c10, A10, q10, S10, N10, H10, G10⟩ := id V_a0
  have hin10 : ¬ ((2 : Int32) < 0 ∨ c10.slots.size ≤ ((2 : Int32)).toNatClampNeg) := inb_of S10 ⟨by decide, by decide⟩
  refine Gz.ldB 18 X0 hx hZ (dd d5_17) e0 A10 hin10 (Has.at H10 hin10 (rfl : _ = ((.int (116 : Int32)) : Value))) rfl ?_
  refine Gz.aloadN 19 X0 hx (dd d5_18) rfl rfl rfl ?_
  refine Gz.iloadN 20 X0 hx (dd d5_19) rfl rfl ?_
  obtain ⟨c11, A11, q11, S11, N11, H11, G11⟩ := id V_a1
  have hin11 : ¬ ((2 : Int32) < 0 ∨ c11.slots.size ≤ ((2 : Int32)).toNatClampNeg) := inb_of S11 ⟨by decide, by decide⟩
  refine Gz.ldB 21 X0 hx hZ (dd d5_20) e0 A11 hin11 (Has.at H11 hin11 (rfl : _ = ((.int (116 : Int32)) : Value))) rfl ?_
  refine Gz.icmpYes 26 X0 hx (dd d5_21) (teq (by decide : (116 : Int32) = (116 : Int32))).1 (by decide) (by decide) ?_
  refine Gz.iinc 29 #[.val (.ref a0), .val (.ref a1), .val (.int (3 : Int32))] X0 hx (dd d5_26) rfl rfl rfl ?_
  refine Gz.goto 9 X0 hx (dd d5_29) (by decide) (by decide) ?_
  refine Gz.iloadN 10 X0 hx (dd d5_9) rfl rfl ?_
  refine Gz.aloadN 11 X0 hx (dd d5_10) rfl rfl rfl ?_
  obtain ⟨c12, A12, -, S12, N12, -, -⟩ := id V_a0
  refine Gz.alen 12 X0 hx hZ (dd d5_11) e0 A12 S12 N12 rfl ?_
  refine Gz.icmpNo 15 X0 hx (dd d5_12) (tlt (by decide : (3 : Int32) < (15 : Int32))).2.1 rfl ?_
  refine Gz.aloadN 16 X0 hx (dd d5_15) rfl rfl rfl ?_
  refine Gz.iloadN 17 X0 hx (dd d5_16) rfl rfl ?_
  obtain ⟨c13, A13, q13, S13, N13, H13, G13⟩ := id V_a0
  have hin13 : ¬ ((3 : Int32) < 0 ∨ c13.slots.size ≤ ((3 : Int32)).toNatClampNeg) := inb_of S13 ⟨by decide, by decide⟩
  refine Gz.ldB 18 X0 hx hZ (dd d5_17) e0 A13 hin13 (Has.at H13 hin13 (rfl : _ = ((.int (101 : Int32)) : Value))) rfl ?_
  refine Gz.aloadN 19 X0 hx (dd d5_18) rfl rfl rfl ?_
  refine Gz.iloadN 20 X0 hx (dd d5_19) rfl rfl ?_
  obtain ⟨c14, A14, q14, S14, N14, H14, G14⟩ := id V_a1
  have hin14 : ¬ ((3 : Int32) < 0 ∨ c14.slots.size ≤ ((3 : Int32)).toNatClampNeg) := inb_of S14 ⟨by decide, by decide⟩
  refine Gz.ldB 21 X0 hx hZ (dd d5_20) e0 A14 hin14 (Has.at H14 hin14 (rfl : _ = ((.int (101 : Int32)) : Value))) rfl ?_
  refine Gz.icmpYes 26 X0 hx (dd d5_21) (teq (by decide : (101 : Int32) = (101 : Int32))).1 (by decide) (by decide) ?_
  refine Gz.iinc 29 #[.val (.ref a0), .val (.ref a1), .val (.int (4 : Int32))] X0 hx (dd d5_26) rfl rfl rfl ?_
  refine Gz.goto 9 X0 hx (dd d5_29) (by decide) (by decide) ?_
  refine Gz.iloadN 10 X0 hx (dd d5_9) rfl rfl ?_
  refine Gz.aloadN 11 X0 hx (dd d5_10) rfl rfl rfl ?_
  obtain ⟨c15, A15, -, S15, N15, -, -⟩ := id V_a0
  refine Gz.alen 12 X0 hx hZ (dd d5_11) e0 A15 S15 N15 rfl ?_
  refine Gz.icmpNo 15 X0 hx (dd d5_12) (tlt (by decide : (4 : Int32) < (15 : Int32))).2.1 rfl ?_
  refine Gz.aloadN 16 X0 hx (dd d5_15) rfl rfl rfl ?_
  refine Gz.iloadN 17 X0 hx (dd d5_16) rfl rfl ?_
  obtain ⟨c16, A16, q16, S16, N16, H16, G16⟩ := id V_a0
  have hin16 : ¬ ((4 : Int32) < 0 ∨ c16.slots.size ≤ ((4 : Int32)).toNatClampNeg) := inb_of S16 ⟨by decide, by decide⟩
  refine Gz.ldB 18 X0 hx hZ (dd d5_17) e0 A16 hin16 (Has.at H16 hin16 (rfl : _ = ((.int (114 : Int32)) : Value))) rfl ?_
  refine Gz.aloadN 19 X0 hx (dd d5_18) rfl rfl rfl ?_
  refine Gz.iloadN 20 X0 hx (dd d5_19) rfl rfl ?_
  obtain ⟨c17, A17, q17, S17, N17, H17, G17⟩ := id V_a1
  have hin17 : ¬ ((4 : Int32) < 0 ∨ c17.slots.size ≤ ((4 : Int32)).toNatClampNeg) := inb_of S17 ⟨by decide, by decide⟩
  refine Gz.ldB 21 X0 hx hZ (dd d5_20) e0 A17 hin17 (Has.at H17 hin17 (rfl : _ = ((.int (114 : Int32)) : Value))) rfl ?_
  refine Gz.icmpYes 26 X0 hx (dd d5_21) (teq (by decide : (114 : Int32) = (114 : Int32))).1 (by decide) (by decide) ?_
  refine Gz.iinc 29 #[.val (.ref a0), .val (.ref a1), .val (.int (5 : Int32))] X0 hx (dd d5_26) rfl rfl rfl ?_
  refine Gz.goto 9 X0 hx (dd d5_29) (by decide) (by decide) ?_
  refine Gz.iloadN 10 X0 hx (dd d5_9) rfl rfl ?_
  refine Gz.aloadN 11 X0 hx (dd d5_10) rfl rfl rfl ?_
  obtain ⟨c18, A18, -, S18, N18, -, -⟩ := id V_a0
  refine Gz.alen 12 X0 hx hZ (dd d5_11) e0 A18 S18 N18 rfl ?_
  refine Gz.icmpNo 15 X0 hx (dd d5_12) (tlt (by decide : (5 : Int32) < (15 : Int32))).2.1 rfl ?_
  refine Gz.aloadN 16 X0 hx (dd d5_15) rfl rfl rfl ?_
  refine Gz.iloadN 17 X0 hx (dd d5_16) rfl rfl ?_
  obtain ⟨c19, A19, q19, S19, N19, H19, G19⟩ := id V_a0
  have hin19 : ¬ ((5 : Int32) < 0 ∨ c19.slots.size ≤ ((5 : Int32)).toNatClampNeg) := inb_of S19 ⟨by decide, by decide⟩
  refine Gz.ldB 18 X0 hx hZ (dd d5_17) e0 A19 hin19 (Has.at H19 hin19 (rfl : _ = ((.int (110 : Int32)) : Value))) rfl ?_
  refine Gz.aloadN 19 X0 hx (dd d5_18) rfl rfl rfl ?_
  refine Gz.iloadN 20 X0 hx (dd d5_19) rfl rfl ?_
  obtain ⟨c20, A20, q20, S20, N20, H20, G20⟩ := id V_a1
  have hin20 : ¬ ((5 : Int32) < 0 ∨ c20.slots.size ≤ ((5 : Int32)).toNatClampNeg) := inb_of S20 ⟨by decide, by decide⟩
  refine Gz.ldB 21 X0 hx hZ (dd d5_20) e0 A20 hin20 (Has.at H20 hin20 (rfl : _ = ((.int (110 : Int32)) : Value))) rfl ?_
  refine Gz.icmpYes 26 X0 hx (dd d5_21) (teq (by decide : (110 : Int32) = (110 : Int32))).1 (by decide) (by decide) ?_
  refine Gz.iinc 29 #[.val (.ref a0), .val (.ref a1), .val (.int (6 : Int32))] X0 hx (dd d5_26) rfl rfl rfl ?_
  refine Gz.goto 9 X0 hx (dd d5_29) (by decide) (by decide) ?_
  refine Gz.iloadN 10 X0 hx (dd d5_9) rfl rfl ?_
  refine Gz.aloadN 11 X0 hx (dd d5_10) rfl rfl rfl ?_
  obtain ⟨c21, A21, -, S21, N21, -, -⟩ := id V_a0
  refine Gz.alen 12 X0 hx hZ (dd d5_11) e0 A21 S21 N21 rfl ?_
  refine Gz.icmpNo 15 X0 hx (dd d5_12) (tlt (by decide : (6 : Int32) < (15 : Int32))).2.1 rfl ?_
  refine Gz.aloadN 16 X0 hx (dd d5_15) rfl rfl rfl ?_
  refine Gz.iloadN 17 X0 hx (dd d5_16) rfl rfl ?_
  obtain ⟨c22, A22, q22, S22, N22, H22, G22⟩ := id V_a0
  have hin22 : ¬ ((6 : Int32) < 0 ∨ c22.slots.size ≤ ((6 : Int32)).toNatClampNeg) := inb_of S22 ⟨by decide, by decide⟩
  refine Gz.ldB 18 X0 hx hZ (dd d5_17) e0 A22 hin22 (Has.at H22 hin22 (rfl : _ = ((.int (32 : Int32)) : Value))) rfl ?_
  refine Gz.aloadN 19 X0 hx (dd d5_18) rfl rfl rfl ?_
  refine Gz.iloadN 20 X0 hx (dd d5_19) rfl rfl ?_
  obtain ⟨c23, A23, q23, S23, N23, H23, G23⟩ := id V_a1
  have hin23 : ¬ ((6 : Int32) < 0 ∨ c23.slots.size ≤ ((6 : Int32)).toNatClampNeg) := inb_of S23 ⟨by decide, by decide⟩
  refine Gz.ldB 21 X0 hx hZ (dd d5_20) e0 A23 hin23 (Has.at H23 hin23 (rfl : _ = ((.int (32 : Int32)) : Value))) rfl ?_
  refine Gz.icmpYes 26 X0 hx (dd d5_21) (teq (by decide : (32 : Int32) = (32 : Int32))).1 (by decide) (by decide) ?_
  refine Gz.iinc 29 #[.val (.ref a0), .val (.ref a1), .val (.int (7 : Int32))] X0 hx (dd d5_26) rfl rfl rfl ?_
  refine Gz.goto 9 X0 hx (dd d5_29) (by decide) (by decide) ?_
  refine Gz.iloadN 10 X0 hx (dd d5_9) rfl rfl ?_
  refine Gz.aloadN 11 X0 hx (dd d5_10) rfl rfl rfl ?_
  obtain ⟨c24, A24, -, S24, N24, -, -⟩ := id V_a0
  refine Gz.alen 12 X0 hx hZ (dd d5_11) e0 A24 S24 N24 rfl ?_
  refine Gz.icmpNo 15 X0 hx (dd d5_12) (tlt (by decide : (7 : Int32) < (15 : Int32))).2.1 rfl ?_
  refine Gz.aloadN 16 X0 hx (dd d5_15) rfl rfl rfl ?_
  refine Gz.iloadN 17 X0 hx (dd d5_16) rfl rfl ?_
  obtain ⟨c25, A25, q25, S25, N25, H25, G25⟩ := id V_a0
  have hin25 : ¬ ((7 : Int32) < 0 ∨ c25.slots.size ≤ ((7 : Int32)).toNatClampNeg) := inb_of S25 ⟨by decide, by decide⟩
  refine Gz.ldB 18 X0 hx hZ (dd d5_17) e0 A25 hin25 (Has.at H25 hin25 (rfl : _ = ((.int (109 : Int32)) : Value))) rfl ?_
  refine Gz.aloadN 19 X0 hx (dd d5_18) rfl rfl rfl ?_
  refine Gz.iloadN 20 X0 hx (dd d5_19) rfl rfl ?_
  obtain ⟨c26, A26, q26, S26, N26, H26, G26⟩ := id V_a1
  have hin26 : ¬ ((7 : Int32) < 0 ∨ c26.slots.size ≤ ((7 : Int32)).toNatClampNeg) := inb_of S26 ⟨by decide, by decide⟩
  refine Gz.ldB 21 X0 hx hZ (dd d5_20) e0 A26 hin26 (Has.at H26 hin26 (rfl : _ = ((.int (109 : Int32)) : Value))) rfl ?_
  refine Gz.icmpYes 26 X0 hx (dd d5_21) (teq (by decide : (109 : Int32) = (109 : Int32))).1 (by decide) (by decide) ?_
  refine Gz.iinc 29 #[.val (.ref a0), .val (.ref a1), .val (.int (8 : Int32))] X0 hx (dd d5_26) rfl rfl rfl ?_
  refine Gz.goto 9 X0 hx (dd d5_29) (by decide) (by decide) ?_
  refine Gz.iloadN 10 X0 hx (dd d5_9) rfl rfl ?_
  refine Gz.aloadN 11 X0 hx (dd d5_10) rfl rfl rfl ?_
  obtain ⟨c27, A27, -, S27, N27, -, -⟩ := id V_a0
  refine Gz.alen 12 X0 hx hZ (dd d5_11) e0 A27 S27 N27 rfl ?_
  refine Gz.icmpNo 15 X0 hx (dd d5_12) (tlt (by decide : (8 : Int32) < (15 : Int32))).2.1 rfl ?_
  refine Gz.aloadN 16 X0 hx (dd d5_15) rfl rfl rfl ?_
  refine Gz.iloadN 17 X0 hx (dd d5_16) rfl rfl ?_
  obtain ⟨c28, A28, q28, S28, N28, H28, G28⟩ := id V_a0
  have hin28 : ¬ ((8 : Int32) < 0 ∨ c28.slots.size ≤ ((8 : Int32)).toNatClampNeg) := inb_of S28 ⟨by decide, by decide⟩
  refine Gz.ldB 18 X0 hx hZ (dd d5_17) e0 A28 hin28 (Has.at H28 hin28 (rfl : _ = ((.int (111 : Int32)) : Value))) rfl ?_
  refine Gz.aloadN 19 X0 hx (dd d5_18) rfl rfl rfl ?_
  refine Gz.iloadN 20 X0 hx (dd d5_19) rfl rfl ?_
  obtain ⟨c29, A29, q29, S29, N29, H29, G29⟩ := id V_a1
  have hin29 : ¬ ((8 : Int32) < 0 ∨ c29.slots.size ≤ ((8 : Int32)).toNatClampNeg) := inb_of S29 ⟨by decide, by decide⟩
  refine Gz.ldB 21 X0 hx hZ (dd d5_20) e0 A29 hin29 (Has.at H29 hin29 (rfl : _ = ((.int (111 : Int32)) : Value))) rfl ?_
  refine Gz.icmpYes 26 X0 hx (dd d5_21) (teq (by decide : (111 : Int32) = (111 : Int32))).1 (by decide) (by decide) ?_
  refine Gz.iinc 29 #[.val (.ref a0), .val (.ref a1), .val (.int (9 : Int32))] X0 hx (dd d5_26) rfl rfl rfl ?_
  refine Gz.goto 9 X0 hx (dd d5_29) (by decide) (by decide) ?_
  refine Gz.iloadN 10 X0 hx (dd d5_9) rfl rfl ?_
  refine Gz.aloadN 11 X0 hx (dd d5_10) rfl rfl rfl ?_
  obtain ⟨c30, A30, -, S30, N30, -, -⟩ := id V_a0
  refine Gz.alen 12 X0 hx hZ (dd d5_11) e0 A30 S30 N30 rfl ?_
  refine Gz.icmpNo 15 X0 hx (dd d5_12) (tlt (by decide : (9 : Int32) < (15 : Int32))).2.1 rfl ?_
  refine Gz.aloadN 16 X0 hx (dd d5_15) rfl rfl rfl ?_
  refine Gz.iloadN 17 X0 hx (dd d5_16) rfl rfl ?_
  obtain ⟨c31, A31, q31, S31, N31, H31, G31⟩ := id V_a0
  have hin31 : ¬ ((9 : Int32) < 0 ∨ c31.slots.size ≤ ((9 : Int32)).toNatClampNeg) := inb_of S31 ⟨by decide, by decide⟩
  refine Gz.ldB 18 X0 hx hZ (dd d5_17) e0 A31 hin31 (Has.at H31 hin31 (rfl : _ = ((.int (116 : Int32)) : Value))) rfl ?_
  refine Gz.aloadN 19 X0 hx (dd d5_18) rfl rfl rfl ?_
  refine Gz.iloadN 20 X0 hx (dd d5_19) rfl rfl ?_
  obtain ⟨c32, A32, q32, S32, N32, H32, G32⟩ := id V_a1
  have hin32 : ¬ ((9 : Int32) < 0 ∨ c32.slots.size ≤ ((9 : Int32)).toNatClampNeg) := inb_of S32 ⟨by decide, by decide⟩
  refine Gz.ldB 21 X0 hx hZ (dd d5_20) e0 A32 hin32 (Has.at H32 hin32 (rfl : _ = ((.int (116 : Int32)) : Value))) rfl ?_
  refine Gz.icmpYes 26 X0 hx (dd d5_21) (teq (by decide : (116 : Int32) = (116 : Int32))).1 (by decide) (by decide) ?_
  refine Gz.iinc 29 #[.val (.ref a0), .val (.ref a1), .val (.int (10 : Int32))] X0 hx (dd d5_26) rfl rfl rfl ?_
  refine Gz.goto 9 X0 hx (dd d5_29) (by decide) (by decide) ?_
  refine Gz.iloadN 10 X0 hx (dd d5_9) rfl rfl ?_
  refine Gz.aloadN 11 X0 hx (dd d5_10) rfl rfl rfl ?_
  obtain ⟨c33, A33, -, S33, N33, -, -⟩ := id V_a0
  refine Gz.alen 12 X0 hx hZ (dd d5_11) e0 A33 S33 N33 rfl ?_
  refine Gz.icmpNo 15 X0 hx (dd d5_12) (tlt (by decide : (10 : Int32) < (15 : Int32))).2.1 rfl ?_
  refine Gz.aloadN 16 X0 hx (dd d5_15) rfl rfl rfl ?_
  refine Gz.iloadN 17 X0 hx (dd d5_16) rfl rfl ?_
  obtain ⟨c34, A34, q34, S34, N34, H34, G34⟩ := id V_a0
  have hin34 : ¬ ((10 : Int32) < 0 ∨ c34.slots.size ≤ ((10 : Int32)).toNatClampNeg) := inb_of S34 ⟨by decide, by decide⟩
  refine Gz.ldB 18 X0 hx hZ (dd d5_17) e0 A34 hin34 (Has.at H34 hin34 (rfl : _ = ((.int (116 : Int32)) : Value))) rfl ?_
  refine Gz.aloadN 19 X0 hx (dd d5_18) rfl rfl rfl ?_
  refine Gz.iloadN 20 X0 hx (dd d5_19) rfl rfl ?_
  obtain ⟨c35, A35, q35, S35, N35, H35, G35⟩ := id V_a1
  have hin35 : ¬ ((10 : Int32) < 0 ∨ c35.slots.size ≤ ((10 : Int32)).toNatClampNeg) := inb_of S35 ⟨by decide, by decide⟩
  refine Gz.ldB 21 X0 hx hZ (dd d5_20) e0 A35 hin35 (Has.at H35 hin35 (rfl : _ = ((.int (116 : Int32)) : Value))) rfl ?_
  refine Gz.icmpYes 26 X0 hx (dd d5_21) (teq (by decide : (116 : Int32) = (116 : Int32))).1 (by decide) (by decide) ?_
  refine Gz.iinc 29 #[.val (.ref a0), .val (.ref a1), .val (.int (11 : Int32))] X0 hx (dd d5_26) rfl rfl rfl ?_
  refine Gz.goto 9 X0 hx (dd d5_29) (by decide) (by decide) ?_
  refine Gz.iloadN 10 X0 hx (dd d5_9) rfl rfl ?_
  refine Gz.aloadN 11 X0 hx (dd d5_10) rfl rfl rfl ?_
  obtain ⟨c36, A36, -, S36, N36, -, -⟩ := id V_a0
  refine Gz.alen 12 X0 hx hZ (dd d5_11) e0 A36 S36 N36 rfl ?_
  refine Gz.icmpNo 15 X0 hx (dd d5_12) (tlt (by decide : (11 : Int32) < (15 : Int32))).2.1 rfl ?_
  refine Gz.aloadN 16 X0 hx (dd d5_15) rfl rfl rfl ?_
  refine Gz.iloadN 17 X0 hx (dd d5_16) rfl rfl ?_
  obtain ⟨c37, A37, q37, S37, N37, H37, G37⟩ := id V_a0
  have hin37 : ¬ ((11 : Int32) < 0 ∨ c37.slots.size ≤ ((11 : Int32)).toNatClampNeg) := inb_of S37 ⟨by decide, by decide⟩
  refine Gz.ldB 18 X0 hx hZ (dd d5_17) e0 A37 hin37 (Has.at H37 hin37 (rfl : _ = ((.int (97 : Int32)) : Value))) rfl ?_
  refine Gz.aloadN 19 X0 hx (dd d5_18) rfl rfl rfl ?_
  refine Gz.iloadN 20 X0 hx (dd d5_19) rfl rfl ?_
  obtain ⟨c38, A38, q38, S38, N38, H38, G38⟩ := id V_a1
  have hin38 : ¬ ((11 : Int32) < 0 ∨ c38.slots.size ≤ ((11 : Int32)).toNatClampNeg) := inb_of S38 ⟨by decide, by decide⟩
  refine Gz.ldB 21 X0 hx hZ (dd d5_20) e0 A38 hin38 (Has.at H38 hin38 (rfl : _ = ((.int (97 : Int32)) : Value))) rfl ?_
  refine Gz.icmpYes 26 X0 hx (dd d5_21) (teq (by decide : (97 : Int32) = (97 : Int32))).1 (by decide) (by decide) ?_
  refine Gz.iinc 29 #[.val (.ref a0), .val (.ref a1), .val (.int (12 : Int32))] X0 hx (dd d5_26) rfl rfl rfl ?_
  refine Gz.goto 9 X0 hx (dd d5_29) (by decide) (by decide) ?_
  refine Gz.iloadN 10 X0 hx (dd d5_9) rfl rfl ?_
  refine Gz.aloadN 11 X0 hx (dd d5_10) rfl rfl rfl ?_
  obtain ⟨c39, A39, -, S39, N39, -, -⟩ := id V_a0
  refine Gz.alen 12 X0 hx hZ (dd d5_11) e0 A39 S39 N39 rfl ?_
  refine Gz.icmpNo 15 X0 hx (dd d5_12) (tlt (by decide : (12 : Int32) < (15 : Int32))).2.1 rfl ?_
  refine Gz.aloadN 16 X0 hx (dd d5_15) rfl rfl rfl ?_
  refine Gz.iloadN 17 X0 hx (dd d5_16) rfl rfl ?_
  obtain ⟨c40, A40, q40, S40, N40, H40, G40⟩ := id V_a0
  have hin40 : ¬ ((12 : Int32) < 0 ∨ c40.slots.size ≤ ((12 : Int32)).toNatClampNeg) := inb_of S40 ⟨by decide, by decide⟩
  refine Gz.ldB 18 X0 hx hZ (dd d5_17) e0 A40 hin40 (Has.at H40 hin40 (rfl : _ = ((.int (107 : Int32)) : Value))) rfl ?_
  refine Gz.aloadN 19 X0 hx (dd d5_18) rfl rfl rfl ?_
  refine Gz.iloadN 20 X0 hx (dd d5_19) rfl rfl ?_
  obtain ⟨c41, A41, q41, S41, N41, H41, G41⟩ := id V_a1
  have hin41 : ¬ ((12 : Int32) < 0 ∨ c41.slots.size ≤ ((12 : Int32)).toNatClampNeg) := inb_of S41 ⟨by decide, by decide⟩
  refine Gz.ldB 21 X0 hx hZ (dd d5_20) e0 A41 hin41 (Has.at H41 hin41 (rfl : _ = ((.int (107 : Int32)) : Value))) rfl ?_
  refine Gz.icmpYes 26 X0 hx (dd d5_21) (teq (by decide : (107 : Int32) = (107 : Int32))).1 (by decide) (by decide) ?_
  refine Gz.iinc 29 #[.val (.ref a0), .val (.ref a1), .val (.int (13 : Int32))] X0 hx (dd d5_26) rfl rfl rfl ?_
  refine Gz.goto 9 X0 hx (dd d5_29) (by decide) (by decide) ?_
  refine Gz.iloadN 10 X0 hx (dd d5_9) rfl rfl ?_
  refine Gz.aloadN 11 X0 hx (dd d5_10) rfl rfl rfl ?_
  obtain ⟨c42, A42, -, S42, N42, -, -⟩ := id V_a0
  refine Gz.alen 12 X0 hx hZ (dd d5_11) e0 A42 S42 N42 rfl ?_
  refine Gz.icmpNo 15 X0 hx (dd d5_12) (tlt (by decide : (13 : Int32) < (15 : Int32))).2.1 rfl ?_
  refine Gz.aloadN 16 X0 hx (dd d5_15) rfl rfl rfl ?_
  refine Gz.iloadN 17 X0 hx (dd d5_16) rfl rfl ?_
  obtain ⟨c43, A43, q43, S43, N43, H43, G43⟩ := id V_a0
  have hin43 : ¬ ((13 : Int32) < 0 ∨ c43.slots.size ≤ ((13 : Int32)).toNatClampNeg) := inb_of S43 ⟨by decide, by decide⟩
  refine Gz.ldB 18 X0 hx hZ (dd d5_17) e0 A43 hin43 (Has.at H43 hin43 (rfl : _ = ((.int (101 : Int32)) : Value))) rfl ?_
  refine Gz.aloadN 19 X0 hx (dd d5_18) rfl rfl rfl ?_
  refine Gz.iloadN 20 X0 hx (dd d5_19) rfl rfl ?_
  obtain ⟨c44, A44, q44, S44, N44, H44, G44⟩ := id V_a1
  have hin44 : ¬ ((13 : Int32) < 0 ∨ c44.slots.size ≤ ((13 : Int32)).toNatClampNeg) := inb_of S44 ⟨by decide, by decide⟩
  refine Gz.ldB 21 X0 hx hZ (dd d5_20) e0 A44 hin44 (Has.at H44 hin44 (rfl : _ = ((.int (101 : Int32)) : Value))) rfl ?_
  refine Gz.icmpYes 26 X0 hx (dd d5_21) (teq (by decide : (101 : Int32) = (101 : Int32))).1 (by decide) (by decide) ?_
  refine Gz.iinc 29 #[.val (.ref a0), .val (.ref a1), .val (.int (14 : Int32))] X0 hx (dd d5_26) rfl rfl rfl ?_
  refine Gz.goto 9 X0 hx (dd d5_29) (by decide) (by decide) ?_
  refine Gz.iloadN 10 X0 hx (dd d5_9) rfl rfl ?_
  refine Gz.aloadN 11 X0 hx (dd d5_10) rfl rfl rfl ?_
  obtain ⟨c45, A45, -, S45, N45, -, -⟩ := id V_a0
  refine Gz.alen 12 X0 hx hZ (dd d5_11) e0 A45 S45 N45 rfl ?_
  refine Gz.icmpNo 15 X0 hx (dd d5_12) (tlt (by decide : (14 : Int32) < (15 : Int32))).2.1 rfl ?_
  refine Gz.aloadN 16 X0 hx (dd d5_15) rfl rfl rfl ?_
  refine Gz.iloadN 17 X0 hx (dd d5_16) rfl rfl ?_
  obtain ⟨c46, A46, q46, S46, N46, H46, G46⟩ := id V_a0
  have hin46 : ¬ ((14 : Int32) < 0 ∨ c46.slots.size ≤ ((14 : Int32)).toNatClampNeg) := inb_of S46 ⟨by decide, by decide⟩
  refine Gz.ldB 18 X0 hx hZ (dd d5_17) e0 A46 hin46 (Has.at H46 hin46 (rfl : _ = ((.int (114 : Int32)) : Value))) rfl ?_
  refine Gz.aloadN 19 X0 hx (dd d5_18) rfl rfl rfl ?_
  refine Gz.iloadN 20 X0 hx (dd d5_19) rfl rfl ?_
  obtain ⟨c47, A47, q47, S47, N47, H47, G47⟩ := id V_a1
  have hin47 : ¬ ((14 : Int32) < 0 ∨ c47.slots.size ≤ ((14 : Int32)).toNatClampNeg) := inb_of S47 ⟨by decide, by decide⟩
  refine Gz.ldB 21 X0 hx hZ (dd d5_20) e0 A47 hin47 (Has.at H47 hin47 (rfl : _ = ((.int (114 : Int32)) : Value))) rfl ?_
  refine Gz.icmpYes 26 X0 hx (dd d5_21) (teq (by decide : (114 : Int32) = (114 : Int32))).1 (by decide) (by decide) ?_
  refine Gz.iinc 29 #[.val (.ref a0), .val (.ref a1), .val (.int (15 : Int32))] X0 hx (dd d5_26) rfl rfl rfl ?_
  refine Gz.goto 9 X0 hx (dd d5_29) (by decide) (by decide) ?_
  refine Gz.iloadN 10 X0 hx (dd d5_9) rfl rfl ?_
  refine Gz.aloadN 11 X0 hx (dd d5_10) rfl rfl rfl ?_
  obtain ⟨c48, A48, -, S48, N48, -, -⟩ := id V_a0
  refine Gz.alen 12 X0 hx hZ (dd d5_11) e0 A48 S48 N48 rfl ?_
  refine Gz.icmpYes 32 X0 hx (dd d5_12) (flt (by decide : ¬ ((15 : Int32) < (15 : Int32)))).2.1 (by decide) (by decide) ?_
  refine Gz.iconst 33 (1 : Int32) X0 hx (dd d5_32) rfl rfl ?_
  refine Gz.fin X0 (v := some (.int (1 : Int32))) (fun h => by rw [hret] at h; cases h) hlk (by decide) (by decide) (fun fs hr => retN X0 hx (t := .boolean) hret (by simp) (dd d5_33) hr) ?_
  rw [e0]
  exact ⟨rfl, N0, rfl⟩
theorem d4_5 : decode jdk_42_method_66_code 5 = .ok (.iconst 1, 1) := by decide +kernel
theorem d4_6 : decode jdk_42_method_66_code 6 = .ok (.ireturn, 1) := by decide +kernel
theorem d4_50 : decode jdk_42_method_66_code 50 = .ok (.iconst 1, 1) := by decide +kernel
theorem d4_51 : decode jdk_42_method_66_code 51 = .ok (.goto 4, 3) := by decide +kernel
theorem ef_rmSen (m : MethodId) (a0 : Addr) (a1 : Addr) : entryFrame m #[(.ref a0), (.ref a1)] 3 = mkF m 0 #[.val (.ref a0), .val (.ref a1), .unset] [] := by first | (simp [entryFrame, mkF, argsToLocals, Value.category]; done) | rfl
def fSen (a0 : Addr) (a1 : Addr) (va : Addr) (vb : Addr) (cz : Int32) : Int32 := (if a0 = a1 then (1 : Int32) else (1 : Int32))
def Q_rmSen (Z : State) (a0 : Addr) (a1 : Addr) (va : Addr) (vb : Addr) (k_va : ClassId) (k_vb : ClassId) (cz : Int32) (h0 : Heap) (n0 : Nat) (v : Option Value) (h : Heap) (L : List Loc) : Prop := v = some (.int (fSen a0 a1 va vb cz)) ∧ Fr n0 L ∧ h = h0
set_option maxRecDepth 65536 in
set_option maxHeartbeats 40000000 in
theorem rmSen (l : Launch) (Z : State) (av0 : Array Value) (hw : ∀ d ∈ tables_1, d.before av0 Z = true) (ws : List Jvm.Cond) (a0 : Addr) (a1 : Addr) (va : Addr) (vb : Addr) (k_va : ClassId) (k_vb : ClassId) (cz : Int32) (h0 : Heap) (n0 : Nat) (Z0 : n0 ≤ h0.size) (E_a0 : Exa Z h0 a0 "java/lang/String") (E_a1 : Exa Z h0 a1 "java/lang/String") (F_coder_a0 : Fld Z h0 a0 "java/lang/String" "coder" "B" (.int (0 : Int32))) (F_coder_a1 : Fld Z h0 a1 "java/lang/String" "coder" "B" (.int (0 : Int32))) (F_value_a0 : Fld Z h0 a0 "java/lang/String" "value" "[B" (.ref va)) (F_value_a1 : Fld Z h0 a1 "java/lang/String" "value" "[B" (.ref vb)) (V_va : Arv Z h0 va k_va .byte (15 : Int32) [(.int (73 : Int32)), (.int (110 : Int32)), (.int (116 : Int32)), (.int (101 : Int32)), (.int (114 : Int32)), (.int (110 : Int32)), (.int (32 : Int32)), (.int (109 : Int32)), (.int (111 : Int32)), (.int (116 : Int32)), (.int (116 : Int32)), (.int (97 : Int32)), (.int (107 : Int32)), (.int (101 : Int32)), (.int (114 : Int32))] (.int (0 : Int32))) (V_vb : Arv Z h0 vb k_vb .byte (15 : Int32) [(.int (73 : Int32)), (.int (110 : Int32)), (.int (116 : Int32)), (.int (101 : Int32)), (.int (114 : Int32)), (.int (110 : Int32)), (.int (32 : Int32)), (.int (109 : Int32)), (.int (111 : Int32)), (.int (116 : Int32)), (.int (116 : Int32)), (.int (97 : Int32)), (.int (107 : Int32)), (.int (101 : Int32)), (.int (114 : Int32))] (.int (0 : Int32))) (S_cz : Sta Z h0 "java/lang/String" "COMPACT_STRINGS" "Z" (.int cz)) (hcz : ¬ (cz = (0 : Int32))) :
    MetFree l (⟨"java/lang/String", "equals", "(Ljava/lang/Object;)Z"⟩ : MethodName) (head1 (Jvm.Cond.code (⟨"java/lang/String", "equals", "(Ljava/lang/Object;)Z"⟩ : MethodName) jdk_42_method_66_code 3 (some .boolean) :: ws) ({ frames := 1, cells := 0, slots := 0, locals := 14 } : Room)) (fun a U => a = #[(.ref a0), (.ref a1)] ∧ Z.Warmed39 U.vm ∧ U.heap = h0) (fun _ _ _ _ _ => True) (fun _ U o U' => ∃ v L, o = .returned v ∧ Q_rmSen Z a0 a1 va vb k_va k_vb cz h0 n0 v U'.heap L ∧ FrameEnd U o U' L ({ frames := 1, cells := 0, slots := 0, locals := 14 } : Room).cells ({ frames := 1, cells := 0, slots := 0, locals := 14 } : Room).slots) := by
  refine MetFree.of_bodySF (plainFor_of_name pn_3) hisR ?_
  intro p e s m args below meth c s₁ Bd hml0 hP hK
  obtain ⟨rfl, hZ, hh⟩ := hP
  have hx := Bd.exec
  have hby := Bd.bytes
  have hml : c.maxLocals = 3 := hml0
  have dd : ∀ {pc : Nat} {r : Except DecodeError (Instr × Nat)}, decode jdk_42_method_66_code pc = r → decode c.code pc = r := fun q => hb hby q
  have hown : s.vm.findClass "java/lang/String" = some m.cls := findClass_of_methodNamed Bd.named
  have hnm := (name_of_methodNamed Bd.named Bd.method).1
  have X0 : Stand p l e ({ frames := 1, cells := 0, slots := 0, locals := 14 } : Room) s m #[(.ref a0), (.ref a1)] below meth c s₁ [] 0 0 := Stand.of_body Bd
  have e0 : s₁.heap = h0 := by rw [← hh, Bd.state]; rfl
  have N0 := Fr.nil n0
  have hret := Bd.returns
  have hlk := Bd.notSynchronized
  show Gz p e below s ({ frames := 1, cells := 0, slots := 0, locals := 14 } : Room).cells ({ frames := 1, cells := 0, slots := 0, locals := 14 } : Room).slots (Q_rmSen Z a0 a1 va vb k_va k_vb cz h0 n0) (s₁.setTop (entryFrame m #[(.ref a0), (.ref a1)] 3))
  refine Gz.enter (ef_rmSen m a0 a1) ?_
  refine Gz.aloadN 1 X0 hx (dd d4_0) rfl rfl rfl ?_
  refine Gz.aloadN 2 X0 hx (dd d4_1) rfl rfl rfl ?_
  by_cases hc1 : a0 = a1
  · refine Gz.acmp 5 true X0 hx (dd d4_2) rfl rfl (decide_eq_true (congrArg Value.ref hc1)) (by decide) (by decide) ?_
    refine Gz.iconst 6 (1 : Int32) X0 hx (dd d4_5) rfl rfl ?_
    refine Gz.fin X0 (v := some (.int (1 : Int32))) (fun h => by rw [hret] at h; cases h) hlk (by decide) (by decide) (fun fs hr => retN X0 hx (t := .boolean) hret (by simp) (dd d4_6) hr) ?_
    rw [e0]
    exact ⟨(by unfold fSen; rw [if_pos hc1]), N0, rfl⟩
  · refine Gz.acmp 7 false X0 hx (dd d4_2) rfl rfl (decide_eq_false fun q => hc1 (Value.ref.inj q)) (by decide) (by decide) ?_
    refine Gz.aloadN 8 X0 hx (dd d4_7) rfl rfl rfl ?_
    refine Gz.instY 11 X0 hx hZ hown (dd d4_8) (ww hw 35 rfl) e0 (Ins.self E_a1) rfl fun T2 X2 e2 => ?_
    refine Gz.ifNo 14 X2 hx (dd d4_11) ((if0 _ _).trans (feq (by decide : ¬ ((1 : Int32) = (0 : Int32)))).1) rfl ?_
    refine Gz.aloadN 15 X2 hx (dd d4_14) rfl rfl rfl ?_
    refine Gz.castY 18 X2 hx hZ hown (dd d4_15) (ww hw 35 rfl) e2 (Ins.self E_a1) rfl fun T3 X3 e3 => ?_
    refine Gz.astoreN 19 #[.val (.ref a0), .val (.ref a1), .val (.ref a1)] X3 hx (dd d4_18) rfl rfl rfl ?_
    refine Gz.getS 22 X3 hx hZ hown (dd d4_19) (host := "") (Or.inl (ww hw 37 rfl)) Via.refl e3 S_cz rfl fun T4 X4 e4 => ?_
    refine Gz.ifNo 25 X4 hx (dd d4_22) ((if0 _ _).trans (feq (hcz : ¬ (cz = (0 : Int32)))).1) rfl ?_
    refine Gz.aloadN 26 X4 hx (dd d4_25) rfl rfl rfl ?_
    refine Gz.getF 29 X4 hx hZ hown (dd d4_26) (host := "") (Or.inl (ww hw 38 rfl)) Via.refl e4 F_coder_a0 rfl fun T5 X5 e5 => ?_
    refine Gz.aloadN 30 X5 hx (dd d4_29) rfl rfl rfl ?_
    refine Gz.getF 33 X5 hx hZ hown (dd d4_30) (host := "") (Or.inl (ww hw 38 rfl)) Via.refl e5 F_coder_a1 rfl fun T6 X6 e6 => ?_
    refine Gz.icmpNo 36 X6 hx (dd d4_33) (teq (by decide : (0 : Int32) = (0 : Int32))).2 rfl ?_
    refine Gz.aloadN 37 X6 hx (dd d4_36) rfl rfl rfl ?_
    refine Gz.getF 40 X6 hx hZ hown (dd d4_37) (host := "") (Or.inl (ww hw 39 rfl)) Via.refl e6 F_value_a0 rfl fun T7 X7 e7 => ?_
    refine Gz.aloadN 41 X7 hx (dd d4_40) rfl rfl rfl ?_
    refine Gz.getF 44 X7 hx hZ hown (dd d4_41) (host := "") (Or.inl (ww hw 39 rfl)) Via.refl e7 F_value_a1 rfl fun T8 X8 e8 => ?_
    obtain ⟨_, _, ⟨T9, L9, k9, n9⟩, -, X9, ⟨Lc9, hQ9, l9, y9, z9⟩, st9⟩ := Jvm.LawKit.callS X8 hx (y := ym0) hown (mvT hZ (ww hw 40 rfl)) (mvT hZ (ww hw 41 rfl)) (mvT hZ (ww hw 42 rfl)) (mvT hZ (ww hw 43 rfl)) (by decide) (backOf (W := 0) (rmSln l Z av0 hw [] va vb k_va k_vb h0 n0 Z0 V_va V_vb) hZ (ww hw 43 rfl) (ww hw 42 rfl) (by decide) (by decide)) (g := (mkF m 44 #[.val (.ref a0), .val (.ref a1), .val (.ref a1)] [(.ref vb), (.ref va)])) rfl (by rw [hml]; rfl) (argsL := [(.ref va), (.ref vb)]) (rest := []) (lenOf pd_0 rfl) rfl (Nat.le_refl _) (dd d4_44) (fun _ _ => ⟨rfl, e8, (by decide : 0 + 0 ≤ _), (by decide : 0 + 0 ≤ _)⟩)
    dsimp only [Pt.U, Pt.locs, Pt.cells, Pt.slots, Q_rmSln] at X9 l9 y9 z9 st9 hQ9
    subst l9 y9 z9
    rw [show (fSln va vb) = (1 : Int32) from (by unfold fSln; rfl)] at hQ9
    obtain ⟨rfl, N9q, e9⟩ := hQ9
    have N9 := Fr.app N0 N9q
    refine Gz.st st9 ?_
    refine Gz.ifNo 50 X9 hx (dd d4_47) ((if0 _ _).trans (feq (by decide : ¬ ((1 : Int32) = (0 : Int32)))).1) rfl ?_
    refine Gz.iconst 51 (1 : Int32) X9 hx (dd d4_50) rfl rfl ?_
    refine Gz.goto 55 X9 hx (dd d4_51) (by decide) (by decide) ?_
    refine Gz.fin X9 (v := some (.int (1 : Int32))) (fun h => by rw [hret] at h; cases h) hlk (by decide) (by decide) (fun fs hr => retN X9 hx (t := .boolean) hret (by simp) (dd d4_55) hr) ?_
    rw [e9]
    exact ⟨(by unfold fSen; rw [if_neg hc1]), N9, rfl⟩
theorem pd_1 : parseMethodDescriptor "(Ljava/lang/Object;)Z" = some ⟨[(.object "java/lang/Object")], some .boolean⟩ := by decide +kernel
abbrev ym1 : MethodName := ⟨"java/lang/String", "equals", "(Ljava/lang/Object;)Z"⟩
theorem pd_2 : parseMethodDescriptor "(I)Z" = some ⟨[.int], some .boolean⟩ := by decide +kernel
abbrev ym2 : MethodName := ⟨"com/example/arkivsjekk/arkivsjekk/RoleExternalPinLaw", "expected", "(I)Z"⟩
def Q_law (n0 : Nat) (v : Option Value) (h : Heap) (L : List Loc) : Prop := v = some (.int 1) ∧ Fr n0 L
set_option maxRecDepth 65536 in
set_option maxHeartbeats 40000000 in
theorem sg0 {p : Program} {l : Launch} {e : Env} {s : State} {m : MethodId} {args : Array Value} {below : List Frame} {meth : Method} {c : Code} {T0 : State} {locs : List Loc} {Z : State} {av0 : Array Value} {hS : Heap} (kq : Nat) (s0 : Slot) (s2 : Slot) (pa : Addr) (la : Addr) (lb : Addr) (pv : Addr) (k_lb : ClassId) (k_pv : ClassId) (cz : Int32) (n0 : Nat)
    (X0 : Stand p l e room_1 s m args below meth c T0 locs 2 64) (hx : p.tables.exec = Jvm.exec) (hZ : Z.Warmed39 s.vm) (hw : ∀ d ∈ tables_1, d.before av0 Z = true) (hby : c.code = code) (hml : c.maxLocals = 6) (hown : s.vm.findClass "com/example/arkivsjekk/arkivsjekk/RoleExternalPinLaw" = some m.cls) (hret : meth.sig.returnType = some .boolean) (hlk : meth.locks = false) (e0 : T0.heap = hS) (N0 : Fr n0 locs) (Z0 : n0 ≤ hS.size) (E_la : Exa Z hS la "java/lang/String") (E_pa : Exa Z hS pa "java/lang/String") (F_coder_la : Fld Z hS la "java/lang/String" "coder" "B" (.int (0 : Int32))) (F_coder_pa : Fld Z hS pa "java/lang/String" "coder" "B" (.int (0 : Int32))) (F_value_la : Fld Z hS la "java/lang/String" "value" "[B" (.ref lb)) (F_value_pa : Fld Z hS pa "java/lang/String" "value" "[B" (.ref pv)) (V_lb : Arv Z hS lb k_lb .byte (15 : Int32) [(.int (73 : Int32)), (.int (110 : Int32)), (.int (116 : Int32)), (.int (101 : Int32)), (.int (114 : Int32)), (.int (110 : Int32)), (.int (32 : Int32)), (.int (109 : Int32)), (.int (111 : Int32)), (.int (116 : Int32)), (.int (116 : Int32)), (.int (97 : Int32)), (.int (107 : Int32)), (.int (101 : Int32)), (.int (114 : Int32))] (.int (0 : Int32))) (V_pv : Arv Z hS pv k_pv .byte (8 : Int32) [(.int (65 : Int32)), (.int (118 : Int32)), (.int (115 : Int32)), (.int (101 : Int32)), (.int (110 : Int32)), (.int (100 : Int32)), (.int (101 : Int32)), (.int (114 : Int32))] (.int (0 : Int32))) (S_cz : Sta Z hS "java/lang/String" "COMPACT_STRINGS" "Z" (.int cz)) (hcz : ¬ (cz = (0 : Int32))) (ne_la_pa : la ≠ pa) (hkq : kq ≤ hS.size) :
    Gz p e below s 8 1088 (Q_lw n0 kq) (T0.setTop (mkF m 25 #[s0, .val (.int (0 : Int32)), s2, .val (.int (1 : Int32)), .val (.ref pa), .unset] [(.ref la)])) := by
  have dd : ∀ {pc : Nat} {r : Except DecodeError (Instr × Nat)}, decode code pc = r → decode c.code pc = r := fun q => hb hby q
  refine Gz.aload 27 X0 hx (dd at_25) rfl rfl rfl ?_
  obtain ⟨cq1, kq1, q1a, q1b, q1c⟩ := isOf hZ e0 E_la
  obtain ⟨_, _, ⟨T1, L1, k1, n1⟩, -, X1, ⟨Lc1, hQ1, l1, y1, z1⟩, st1⟩ := X0.virtualBack hx (y := ym1) (z := ym1) hown (mvT hZ (ww hw 30 rfl)) (mvT hZ (ww hw 31 rfl)) (notFace_of_selects (args := #[]) (mvT hZ (ww hw 33 rfl))) (mvT hZ (ww hw 33 rfl)) (mvT hZ (ww hw 32 rfl)) (by decide) (backOf (W := 0) (rmSeq l Z av0 hw [] la pa lb pv k_lb k_pv cz hS n0 Z0 E_la E_pa F_coder_la F_coder_pa F_value_la F_value_pa V_lb V_pv S_cz hcz ne_la_pa) hZ (ww hw 34 rfl) (ww hw 23 rfl) (by decide) (by decide)) q1a q1c (g := (mkF m 27 #[s0, .val (.int (0 : Int32)), s2, .val (.int (1 : Int32)), .val (.ref pa), .unset] [(.ref pa), (.ref la)])) rfl (by rw [hml]; rfl) (Steps.refl _) (argsL := [(.ref pa)]) (rest := []) (lenOf pd_1 rfl) rfl (Nat.le_refl _) (dd at_27) (fun _ _ => ⟨rfl, e0, (by decide : 2 + 0 ≤ _), (by decide : 64 + 0 ≤ _)⟩)
  dsimp only [Pt.U, Pt.locs, Pt.cells, Pt.slots, Q_rmSeq] at X1 l1 y1 z1 st1 hQ1
  subst l1 y1 z1
  rw [show (fSeq la pa lb pv cz) = (0 : Int32) from (by unfold fSeq; rfl)] at hQ1
  obtain ⟨rfl, N1q, e1⟩ := hQ1
  have N1 := Fr.app N0 N1q
  refine Gz.tr st1 ?_
  refine Gz.istore 32 #[s0, .val (.int (0 : Int32)), s2, .val (.int (1 : Int32)), .val (.ref pa), .val (.int (0 : Int32))] X1 hx (dd at_30) rfl rfl ?_
  refine Gz.iloadN 33 X1 hx (dd at_32) rfl rfl ?_
  refine Gz.iloadN 34 X1 hx (dd at_33) rfl rfl ?_
  obtain ⟨_, _, ⟨T2, L2, k2, n2⟩, -, X2, ⟨Lc2, hQ2, l2, y2, z2⟩, st2⟩ := Jvm.LawKit.callS X1 hx (y := ym2) hown (mvT hZ (ww hw 44 rfl)) (mvT hZ (ww hw 45 rfl)) (mvT hZ (ww hw 3 rfl)) (mvT hZ (ww hw 46 rfl)) (by decide) (backOf (W := 1) (rm6 l Z av0 hw [] (0 : Int32)  hS n0 Z0 ) hZ (ww hw 46 rfl) (ww hw 3 rfl) (by decide) (by decide)) (g := (mkF m 34 #[s0, .val (.int (0 : Int32)), s2, .val (.int (1 : Int32)), .val (.ref pa), .val (.int (0 : Int32))] [(.int (0 : Int32)), (.int (1 : Int32))])) rfl (by rw [hml]; rfl) (argsL := [(.int (0 : Int32))]) (rest := [(.int (1 : Int32))]) (lenOf pd_2 rfl) rfl (Nat.le_refl _) (dd at_34) (fun _ _ => ⟨rfl, e1, (by decide : 2 + 0 ≤ _), (by decide : 64 + 0 ≤ _)⟩)
  dsimp only [Pt.U, Pt.locs, Pt.cells, Pt.slots, Q_rm6] at X2 l2 y2 z2 st2 hQ2
  subst l2 y2 z2
  rw [show (fExp (0 : Int32)) = (1 : Int32) from (by unfold fExp; rw [if_neg (by decide : ¬ ((0 : Int32) = (2 : Int32)))]; try decide)] at hQ2
  obtain ⟨rfl, N2q, e2⟩ := hQ2
  have N2 := Fr.app N1 N2q
  refine Gz.st st2 ?_
  refine Gz.icmpNo 40 X2 hx (dd at_37) (teq (by decide : (1 : Int32) = (1 : Int32))).2 rfl ?_
  refine Gz.iloadN 41 X2 hx (dd at_40) rfl rfl ?_
  refine Gz.iload 43 X2 hx (dd at_41) rfl rfl ?_
  refine Gz.ifNo 46 X2 hx (dd at_43) ((if0 _ _).trans (teq (by decide : (0 : Int32) = (0 : Int32))).2) rfl ?_
  refine Gz.iconst 47 (1 : Int32) X2 hx (dd at_46) rfl rfl ?_
  refine Gz.goto 51 X2 hx (dd at_47) (by decide) (by decide) ?_
  refine Gz.icmpNo 54 X2 hx (dd at_51) (teq (by decide : (1 : Int32) = (1 : Int32))).2 rfl ?_
  refine Gz.iconst 55 (1 : Int32) X2 hx (dd at_54) rfl rfl ?_
  refine Gz.goto 59 X2 hx (dd at_55) (by decide) (by decide) ?_
  refine Gz.fin X2 (v := some (.int (1 : Int32))) (fun h => by rw [hret] at h; cases h) hlk (by decide) (by decide) (fun fs hr => retN X2 hx (t := .boolean) hret (by simp) (dd at_59) hr) ?_
  exact ⟨⟨rfl, N2⟩, by rw [e2]; exact hkq⟩
set_option maxRecDepth 65536 in
set_option maxHeartbeats 40000000 in
theorem sg1 {p : Program} {l : Launch} {e : Env} {s : State} {m : MethodId} {args : Array Value} {below : List Frame} {meth : Method} {c : Code} {T0 : State} {locs : List Loc} {Z : State} {av0 : Array Value} {hS : Heap} (kq : Nat) (s0 : Slot) (s2 : Slot) (pa : Addr) (la : Addr) (lb : Addr) (pv : Addr) (k_lb : ClassId) (k_pv : ClassId) (cz : Int32) (n0 : Nat)
    (X0 : Stand p l e room_1 s m args below meth c T0 locs 2 64) (hx : p.tables.exec = Jvm.exec) (hZ : Z.Warmed39 s.vm) (hw : ∀ d ∈ tables_1, d.before av0 Z = true) (hby : c.code = code) (hml : c.maxLocals = 6) (hown : s.vm.findClass "com/example/arkivsjekk/arkivsjekk/RoleExternalPinLaw" = some m.cls) (hret : meth.sig.returnType = some .boolean) (hlk : meth.locks = false) (e0 : T0.heap = hS) (N0 : Fr n0 locs) (Z0 : n0 ≤ hS.size) (E_la : Exa Z hS la "java/lang/String") (E_pa : Exa Z hS pa "java/lang/String") (F_coder_la : Fld Z hS la "java/lang/String" "coder" "B" (.int (0 : Int32))) (F_coder_pa : Fld Z hS pa "java/lang/String" "coder" "B" (.int (0 : Int32))) (F_value_la : Fld Z hS la "java/lang/String" "value" "[B" (.ref lb)) (F_value_pa : Fld Z hS pa "java/lang/String" "value" "[B" (.ref pv)) (V_lb : Arv Z hS lb k_lb .byte (15 : Int32) [(.int (73 : Int32)), (.int (110 : Int32)), (.int (116 : Int32)), (.int (101 : Int32)), (.int (114 : Int32)), (.int (110 : Int32)), (.int (32 : Int32)), (.int (109 : Int32)), (.int (111 : Int32)), (.int (116 : Int32)), (.int (116 : Int32)), (.int (97 : Int32)), (.int (107 : Int32)), (.int (101 : Int32)), (.int (114 : Int32))] (.int (0 : Int32))) (V_pv : Arv Z hS pv k_pv .byte (8 : Int32) [(.int (65 : Int32)), (.int (118 : Int32)), (.int (115 : Int32)), (.int (101 : Int32)), (.int (110 : Int32)), (.int (100 : Int32)), (.int (101 : Int32)), (.int (114 : Int32))] (.int (0 : Int32))) (S_cz : Sta Z hS "java/lang/String" "COMPACT_STRINGS" "Z" (.int cz)) (hcz : ¬ (cz = (0 : Int32))) (ne_la_pa : la ≠ pa) (hkq : kq ≤ hS.size) :
    Gz p e below s 8 1088 (Q_lw n0 kq) (T0.setTop (mkF m 25 #[s0, .val (.int (1 : Int32)), s2, .val (.int (1 : Int32)), .val (.ref pa), .unset] [(.ref la)])) := by
  have dd : ∀ {pc : Nat} {r : Except DecodeError (Instr × Nat)}, decode code pc = r → decode c.code pc = r := fun q => hb hby q
  refine Gz.aload 27 X0 hx (dd at_25) rfl rfl rfl ?_
  obtain ⟨cq1, kq1, q1a, q1b, q1c⟩ := isOf hZ e0 E_la
  obtain ⟨_, _, ⟨T1, L1, k1, n1⟩, -, X1, ⟨Lc1, hQ1, l1, y1, z1⟩, st1⟩ := X0.virtualBack hx (y := ym1) (z := ym1) hown (mvT hZ (ww hw 30 rfl)) (mvT hZ (ww hw 31 rfl)) (notFace_of_selects (args := #[]) (mvT hZ (ww hw 33 rfl))) (mvT hZ (ww hw 33 rfl)) (mvT hZ (ww hw 32 rfl)) (by decide) (backOf (W := 0) (rmSeq l Z av0 hw [] la pa lb pv k_lb k_pv cz hS n0 Z0 E_la E_pa F_coder_la F_coder_pa F_value_la F_value_pa V_lb V_pv S_cz hcz ne_la_pa) hZ (ww hw 34 rfl) (ww hw 23 rfl) (by decide) (by decide)) q1a q1c (g := (mkF m 27 #[s0, .val (.int (1 : Int32)), s2, .val (.int (1 : Int32)), .val (.ref pa), .unset] [(.ref pa), (.ref la)])) rfl (by rw [hml]; rfl) (Steps.refl _) (argsL := [(.ref pa)]) (rest := []) (lenOf pd_1 rfl) rfl (Nat.le_refl _) (dd at_27) (fun _ _ => ⟨rfl, e0, (by decide : 2 + 0 ≤ _), (by decide : 64 + 0 ≤ _)⟩)
  dsimp only [Pt.U, Pt.locs, Pt.cells, Pt.slots, Q_rmSeq] at X1 l1 y1 z1 st1 hQ1
  subst l1 y1 z1
  rw [show (fSeq la pa lb pv cz) = (0 : Int32) from (by unfold fSeq; rfl)] at hQ1
  obtain ⟨rfl, N1q, e1⟩ := hQ1
  have N1 := Fr.app N0 N1q
  refine Gz.tr st1 ?_
  refine Gz.istore 32 #[s0, .val (.int (1 : Int32)), s2, .val (.int (1 : Int32)), .val (.ref pa), .val (.int (0 : Int32))] X1 hx (dd at_30) rfl rfl ?_
  refine Gz.iloadN 33 X1 hx (dd at_32) rfl rfl ?_
  refine Gz.iloadN 34 X1 hx (dd at_33) rfl rfl ?_
  obtain ⟨_, _, ⟨T2, L2, k2, n2⟩, -, X2, ⟨Lc2, hQ2, l2, y2, z2⟩, st2⟩ := Jvm.LawKit.callS X1 hx (y := ym2) hown (mvT hZ (ww hw 44 rfl)) (mvT hZ (ww hw 45 rfl)) (mvT hZ (ww hw 3 rfl)) (mvT hZ (ww hw 46 rfl)) (by decide) (backOf (W := 1) (rm6 l Z av0 hw [] (1 : Int32)  hS n0 Z0 ) hZ (ww hw 46 rfl) (ww hw 3 rfl) (by decide) (by decide)) (g := (mkF m 34 #[s0, .val (.int (1 : Int32)), s2, .val (.int (1 : Int32)), .val (.ref pa), .val (.int (0 : Int32))] [(.int (1 : Int32)), (.int (1 : Int32))])) rfl (by rw [hml]; rfl) (argsL := [(.int (1 : Int32))]) (rest := [(.int (1 : Int32))]) (lenOf pd_2 rfl) rfl (Nat.le_refl _) (dd at_34) (fun _ _ => ⟨rfl, e1, (by decide : 2 + 0 ≤ _), (by decide : 64 + 0 ≤ _)⟩)
  dsimp only [Pt.U, Pt.locs, Pt.cells, Pt.slots, Q_rm6] at X2 l2 y2 z2 st2 hQ2
  subst l2 y2 z2
  rw [show (fExp (1 : Int32)) = (1 : Int32) from (by unfold fExp; rw [if_neg (by decide : ¬ ((1 : Int32) = (2 : Int32)))]; try decide)] at hQ2
  obtain ⟨rfl, N2q, e2⟩ := hQ2
  have N2 := Fr.app N1 N2q
  refine Gz.st st2 ?_
  refine Gz.icmpNo 40 X2 hx (dd at_37) (teq (by decide : (1 : Int32) = (1 : Int32))).2 rfl ?_
  refine Gz.iloadN 41 X2 hx (dd at_40) rfl rfl ?_
  refine Gz.iload 43 X2 hx (dd at_41) rfl rfl ?_
  refine Gz.ifNo 46 X2 hx (dd at_43) ((if0 _ _).trans (teq (by decide : (0 : Int32) = (0 : Int32))).2) rfl ?_
  refine Gz.iconst 47 (1 : Int32) X2 hx (dd at_46) rfl rfl ?_
  refine Gz.goto 51 X2 hx (dd at_47) (by decide) (by decide) ?_
  refine Gz.icmpNo 54 X2 hx (dd at_51) (teq (by decide : (1 : Int32) = (1 : Int32))).2 rfl ?_
  refine Gz.iconst 55 (1 : Int32) X2 hx (dd at_54) rfl rfl ?_
  refine Gz.goto 59 X2 hx (dd at_55) (by decide) (by decide) ?_
  refine Gz.fin X2 (v := some (.int (1 : Int32))) (fun h => by rw [hret] at h; cases h) hlk (by decide) (by decide) (fun fs hr => retN X2 hx (t := .boolean) hret (by simp) (dd at_59) hr) ?_
  exact ⟨⟨rfl, N2⟩, by rw [e2]; exact hkq⟩
set_option maxRecDepth 65536 in
set_option maxHeartbeats 40000000 in
theorem sg2 {p : Program} {l : Launch} {e : Env} {s : State} {m : MethodId} {args : Array Value} {below : List Frame} {meth : Method} {c : Code} {T0 : State} {locs : List Loc} {Z : State} {av0 : Array Value} {hS : Heap} (kq : Nat) (s0 : Slot) (s2 : Slot) (pa : Addr) (la : Addr) (lb : Addr) (pv : Addr) (k_lb : ClassId) (k_pv : ClassId) (cz : Int32) (n0 : Nat)
    (X0 : Stand p l e room_1 s m args below meth c T0 locs 2 64) (hx : p.tables.exec = Jvm.exec) (hZ : Z.Warmed39 s.vm) (hw : ∀ d ∈ tables_1, d.before av0 Z = true) (hby : c.code = code) (hml : c.maxLocals = 6) (hown : s.vm.findClass "com/example/arkivsjekk/arkivsjekk/RoleExternalPinLaw" = some m.cls) (hret : meth.sig.returnType = some .boolean) (hlk : meth.locks = false) (e0 : T0.heap = hS) (N0 : Fr n0 locs) (Z0 : n0 ≤ hS.size) (E_la : Exa Z hS la "java/lang/String") (E_pa : Exa Z hS pa "java/lang/String") (F_coder_la : Fld Z hS la "java/lang/String" "coder" "B" (.int (0 : Int32))) (F_coder_pa : Fld Z hS pa "java/lang/String" "coder" "B" (.int (0 : Int32))) (F_value_la : Fld Z hS la "java/lang/String" "value" "[B" (.ref lb)) (F_value_pa : Fld Z hS pa "java/lang/String" "value" "[B" (.ref pv)) (V_lb : Arv Z hS lb k_lb .byte (15 : Int32) [(.int (73 : Int32)), (.int (110 : Int32)), (.int (116 : Int32)), (.int (101 : Int32)), (.int (114 : Int32)), (.int (110 : Int32)), (.int (32 : Int32)), (.int (109 : Int32)), (.int (111 : Int32)), (.int (116 : Int32)), (.int (116 : Int32)), (.int (97 : Int32)), (.int (107 : Int32)), (.int (101 : Int32)), (.int (114 : Int32))] (.int (0 : Int32))) (V_pv : Arv Z hS pv k_pv .byte (15 : Int32) [(.int (73 : Int32)), (.int (110 : Int32)), (.int (116 : Int32)), (.int (101 : Int32)), (.int (114 : Int32)), (.int (110 : Int32)), (.int (32 : Int32)), (.int (109 : Int32)), (.int (111 : Int32)), (.int (116 : Int32)), (.int (116 : Int32)), (.int (97 : Int32)), (.int (107 : Int32)), (.int (101 : Int32)), (.int (114 : Int32))] (.int (0 : Int32))) (S_cz : Sta Z hS "java/lang/String" "COMPACT_STRINGS" "Z" (.int cz)) (hcz : ¬ (cz = (0 : Int32))) (hkq : kq ≤ hS.size) :
    Gz p e below s 8 1088 (Q_lw n0 kq) (T0.setTop (mkF m 25 #[s0, .val (.int (2 : Int32)), s2, .val (.int (0 : Int32)), .val (.ref pa), .unset] [(.ref la)])) := by
  have dd : ∀ {pc : Nat} {r : Except DecodeError (Instr × Nat)}, decode code pc = r → decode c.code pc = r := fun q => hb hby q
  refine Gz.aload 27 X0 hx (dd at_25) rfl rfl rfl ?_
  obtain ⟨cq1, kq1, q1a, q1b, q1c⟩ := isOf hZ e0 E_la
  obtain ⟨_, _, ⟨T1, L1, k1, n1⟩, -, X1, ⟨Lc1, hQ1, l1, y1, z1⟩, st1⟩ := X0.virtualBack hx (y := ym1) (z := ym1) hown (mvT hZ (ww hw 30 rfl)) (mvT hZ (ww hw 31 rfl)) (notFace_of_selects (args := #[]) (mvT hZ (ww hw 33 rfl))) (mvT hZ (ww hw 33 rfl)) (mvT hZ (ww hw 32 rfl)) (by decide) (backOf (W := 0) (rmSen l Z av0 hw [] la pa lb pv k_lb k_pv cz hS n0 Z0 E_la E_pa F_coder_la F_coder_pa F_value_la F_value_pa V_lb V_pv S_cz hcz) hZ (ww hw 34 rfl) (ww hw 23 rfl) (by decide) (by decide)) q1a q1c (g := (mkF m 27 #[s0, .val (.int (2 : Int32)), s2, .val (.int (0 : Int32)), .val (.ref pa), .unset] [(.ref pa), (.ref la)])) rfl (by rw [hml]; rfl) (Steps.refl _) (argsL := [(.ref pa)]) (rest := []) (lenOf pd_1 rfl) rfl (Nat.le_refl _) (dd at_27) (fun _ _ => ⟨rfl, e0, (by decide : 2 + 0 ≤ _), (by decide : 64 + 0 ≤ _)⟩)
  dsimp only [Pt.U, Pt.locs, Pt.cells, Pt.slots, Q_rmSen] at X1 l1 y1 z1 st1 hQ1
  subst l1 y1 z1
  rw [show (fSen la pa lb pv cz) = (1 : Int32) from (by unfold fSen; split <;> rfl)] at hQ1
  obtain ⟨rfl, N1q, e1⟩ := hQ1
  have N1 := Fr.app N0 N1q
  refine Gz.tr st1 ?_
  refine Gz.istore 32 #[s0, .val (.int (2 : Int32)), s2, .val (.int (0 : Int32)), .val (.ref pa), .val (.int (1 : Int32))] X1 hx (dd at_30) rfl rfl ?_
  refine Gz.iloadN 33 X1 hx (dd at_32) rfl rfl ?_
  refine Gz.iloadN 34 X1 hx (dd at_33) rfl rfl ?_
  obtain ⟨_, _, ⟨T2, L2, k2, n2⟩, -, X2, ⟨Lc2, hQ2, l2, y2, z2⟩, st2⟩ := Jvm.LawKit.callS X1 hx (y := ym2) hown (mvT hZ (ww hw 44 rfl)) (mvT hZ (ww hw 45 rfl)) (mvT hZ (ww hw 3 rfl)) (mvT hZ (ww hw 46 rfl)) (by decide) (backOf (W := 1) (rm6 l Z av0 hw [] (2 : Int32)  hS n0 Z0 ) hZ (ww hw 46 rfl) (ww hw 3 rfl) (by decide) (by decide)) (g := (mkF m 34 #[s0, .val (.int (2 : Int32)), s2, .val (.int (0 : Int32)), .val (.ref pa), .val (.int (1 : Int32))] [(.int (2 : Int32)), (.int (0 : Int32))])) rfl (by rw [hml]; rfl) (argsL := [(.int (2 : Int32))]) (rest := [(.int (0 : Int32))]) (lenOf pd_2 rfl) rfl (Nat.le_refl _) (dd at_34) (fun _ _ => ⟨rfl, e1, (by decide : 2 + 0 ≤ _), (by decide : 64 + 0 ≤ _)⟩)
  dsimp only [Pt.U, Pt.locs, Pt.cells, Pt.slots, Q_rm6] at X2 l2 y2 z2 st2 hQ2
  subst l2 y2 z2
  rw [show (fExp (2 : Int32)) = (0 : Int32) from (by unfold fExp; rw [if_pos (by decide : (2 : Int32) = (2 : Int32))]; try decide)] at hQ2
  obtain ⟨rfl, N2q, e2⟩ := hQ2
  have N2 := Fr.app N1 N2q
  refine Gz.st st2 ?_
  refine Gz.icmpNo 40 X2 hx (dd at_37) (teq (by decide : (0 : Int32) = (0 : Int32))).2 rfl ?_
  refine Gz.iloadN 41 X2 hx (dd at_40) rfl rfl ?_
  refine Gz.iload 43 X2 hx (dd at_41) rfl rfl ?_
  refine Gz.ifYes 50 X2 hx (dd at_43) ((if0 _ _).trans (feq (by decide : ¬ ((1 : Int32) = (0 : Int32)))).2) (by decide) (by decide) ?_
  refine Gz.iconst 51 (0 : Int32) X2 hx (dd at_50) rfl rfl ?_
  refine Gz.icmpNo 54 X2 hx (dd at_51) (teq (by decide : (0 : Int32) = (0 : Int32))).2 rfl ?_
  refine Gz.iconst 55 (1 : Int32) X2 hx (dd at_54) rfl rfl ?_
  refine Gz.goto 59 X2 hx (dd at_55) (by decide) (by decide) ?_
  refine Gz.fin X2 (v := some (.int (1 : Int32))) (fun h => by rw [hret] at h; cases h) hlk (by decide) (by decide) (fun fs hr => retN X2 hx (t := .boolean) hret (by simp) (dd at_59) hr) ?_
  exact ⟨⟨rfl, N2⟩, by rw [e2]; exact hkq⟩
set_option maxRecDepth 65536 in
set_option maxHeartbeats 40000000 in
theorem sg3 {p : Program} {l : Launch} {e : Env} {s : State} {m : MethodId} {args : Array Value} {below : List Frame} {meth : Method} {c : Code} {T0 : State} {locs : List Loc} {Z : State} {av0 : Array Value} {hS : Heap} (kq : Nat) (s0 : Slot) (s2 : Slot) (pa : Addr) (la : Addr) (lb : Addr) (pv : Addr) (k_lb : ClassId) (k_pv : ClassId) (cz : Int32) (n0 : Nat)
    (X0 : Stand p l e room_1 s m args below meth c T0 locs 2 64) (hx : p.tables.exec = Jvm.exec) (hZ : Z.Warmed39 s.vm) (hw : ∀ d ∈ tables_1, d.before av0 Z = true) (hby : c.code = code) (hml : c.maxLocals = 6) (hown : s.vm.findClass "com/example/arkivsjekk/arkivsjekk/RoleExternalPinLaw" = some m.cls) (hret : meth.sig.returnType = some .boolean) (hlk : meth.locks = false) (e0 : T0.heap = hS) (N0 : Fr n0 locs) (Z0 : n0 ≤ hS.size) (E_la : Exa Z hS la "java/lang/String") (E_pa : Exa Z hS pa "java/lang/String") (F_coder_la : Fld Z hS la "java/lang/String" "coder" "B" (.int (0 : Int32))) (F_coder_pa : Fld Z hS pa "java/lang/String" "coder" "B" (.int (0 : Int32))) (F_value_la : Fld Z hS la "java/lang/String" "value" "[B" (.ref lb)) (F_value_pa : Fld Z hS pa "java/lang/String" "value" "[B" (.ref pv)) (V_lb : Arv Z hS lb k_lb .byte (15 : Int32) [(.int (73 : Int32)), (.int (110 : Int32)), (.int (116 : Int32)), (.int (101 : Int32)), (.int (114 : Int32)), (.int (110 : Int32)), (.int (32 : Int32)), (.int (109 : Int32)), (.int (111 : Int32)), (.int (116 : Int32)), (.int (116 : Int32)), (.int (97 : Int32)), (.int (107 : Int32)), (.int (101 : Int32)), (.int (114 : Int32))] (.int (0 : Int32))) (V_pv : Arv Z hS pv k_pv .byte (8 : Int32) [(.int (77 : Int32)), (.int (111 : Int32)), (.int (116 : Int32)), (.int (116 : Int32)), (.int (97 : Int32)), (.int (107 : Int32)), (.int (101 : Int32)), (.int (114 : Int32))] (.int (0 : Int32))) (S_cz : Sta Z hS "java/lang/String" "COMPACT_STRINGS" "Z" (.int cz)) (hcz : ¬ (cz = (0 : Int32))) (ne_la_pa : la ≠ pa) (hkq : kq ≤ hS.size) :
    Gz p e below s 8 1088 (Q_lw n0 kq) (T0.setTop (mkF m 25 #[s0, .val (.int (3 : Int32)), s2, .val (.int (1 : Int32)), .val (.ref pa), .unset] [(.ref la)])) := by
  have dd : ∀ {pc : Nat} {r : Except DecodeError (Instr × Nat)}, decode code pc = r → decode c.code pc = r := fun q => hb hby q
  refine Gz.aload 27 X0 hx (dd at_25) rfl rfl rfl ?_
  obtain ⟨cq1, kq1, q1a, q1b, q1c⟩ := isOf hZ e0 E_la
  obtain ⟨_, _, ⟨T1, L1, k1, n1⟩, -, X1, ⟨Lc1, hQ1, l1, y1, z1⟩, st1⟩ := X0.virtualBack hx (y := ym1) (z := ym1) hown (mvT hZ (ww hw 30 rfl)) (mvT hZ (ww hw 31 rfl)) (notFace_of_selects (args := #[]) (mvT hZ (ww hw 33 rfl))) (mvT hZ (ww hw 33 rfl)) (mvT hZ (ww hw 32 rfl)) (by decide) (backOf (W := 0) (rmSer l Z av0 hw [] la pa lb pv k_lb k_pv cz hS n0 Z0 E_la E_pa F_coder_la F_coder_pa F_value_la F_value_pa V_lb V_pv S_cz hcz ne_la_pa) hZ (ww hw 34 rfl) (ww hw 23 rfl) (by decide) (by decide)) q1a q1c (g := (mkF m 27 #[s0, .val (.int (3 : Int32)), s2, .val (.int (1 : Int32)), .val (.ref pa), .unset] [(.ref pa), (.ref la)])) rfl (by rw [hml]; rfl) (Steps.refl _) (argsL := [(.ref pa)]) (rest := []) (lenOf pd_1 rfl) rfl (Nat.le_refl _) (dd at_27) (fun _ _ => ⟨rfl, e0, (by decide : 2 + 0 ≤ _), (by decide : 64 + 0 ≤ _)⟩)
  dsimp only [Pt.U, Pt.locs, Pt.cells, Pt.slots, Q_rmSer] at X1 l1 y1 z1 st1 hQ1
  subst l1 y1 z1
  rw [show (fSer la pa lb pv cz) = (0 : Int32) from (by unfold fSer; rfl)] at hQ1
  obtain ⟨rfl, N1q, e1⟩ := hQ1
  have N1 := Fr.app N0 N1q
  refine Gz.tr st1 ?_
  refine Gz.istore 32 #[s0, .val (.int (3 : Int32)), s2, .val (.int (1 : Int32)), .val (.ref pa), .val (.int (0 : Int32))] X1 hx (dd at_30) rfl rfl ?_
  refine Gz.iloadN 33 X1 hx (dd at_32) rfl rfl ?_
  refine Gz.iloadN 34 X1 hx (dd at_33) rfl rfl ?_
  obtain ⟨_, _, ⟨T2, L2, k2, n2⟩, -, X2, ⟨Lc2, hQ2, l2, y2, z2⟩, st2⟩ := Jvm.LawKit.callS X1 hx (y := ym2) hown (mvT hZ (ww hw 44 rfl)) (mvT hZ (ww hw 45 rfl)) (mvT hZ (ww hw 3 rfl)) (mvT hZ (ww hw 46 rfl)) (by decide) (backOf (W := 1) (rm6 l Z av0 hw [] (3 : Int32)  hS n0 Z0 ) hZ (ww hw 46 rfl) (ww hw 3 rfl) (by decide) (by decide)) (g := (mkF m 34 #[s0, .val (.int (3 : Int32)), s2, .val (.int (1 : Int32)), .val (.ref pa), .val (.int (0 : Int32))] [(.int (3 : Int32)), (.int (1 : Int32))])) rfl (by rw [hml]; rfl) (argsL := [(.int (3 : Int32))]) (rest := [(.int (1 : Int32))]) (lenOf pd_2 rfl) rfl (Nat.le_refl _) (dd at_34) (fun _ _ => ⟨rfl, e1, (by decide : 2 + 0 ≤ _), (by decide : 64 + 0 ≤ _)⟩)
  dsimp only [Pt.U, Pt.locs, Pt.cells, Pt.slots, Q_rm6] at X2 l2 y2 z2 st2 hQ2
  subst l2 y2 z2
  rw [show (fExp (3 : Int32)) = (1 : Int32) from (by unfold fExp; rw [if_neg (by decide : ¬ ((3 : Int32) = (2 : Int32)))]; try decide)] at hQ2
  obtain ⟨rfl, N2q, e2⟩ := hQ2
  have N2 := Fr.app N1 N2q
  refine Gz.st st2 ?_
  refine Gz.icmpNo 40 X2 hx (dd at_37) (teq (by decide : (1 : Int32) = (1 : Int32))).2 rfl ?_
  refine Gz.iloadN 41 X2 hx (dd at_40) rfl rfl ?_
  refine Gz.iload 43 X2 hx (dd at_41) rfl rfl ?_
  refine Gz.ifNo 46 X2 hx (dd at_43) ((if0 _ _).trans (teq (by decide : (0 : Int32) = (0 : Int32))).2) rfl ?_
  refine Gz.iconst 47 (1 : Int32) X2 hx (dd at_46) rfl rfl ?_
  refine Gz.goto 51 X2 hx (dd at_47) (by decide) (by decide) ?_
  refine Gz.icmpNo 54 X2 hx (dd at_51) (teq (by decide : (1 : Int32) = (1 : Int32))).2 rfl ?_
  refine Gz.iconst 55 (1 : Int32) X2 hx (dd at_54) rfl rfl ?_
  refine Gz.goto 59 X2 hx (dd at_55) (by decide) (by decide) ?_
  refine Gz.fin X2 (v := some (.int (1 : Int32))) (fun h => by rw [hret] at h; cases h) hlk (by decide) (by decide) (fun fs hr => retN X2 hx (t := .boolean) hret (by simp) (dd at_59) hr) ?_
  exact ⟨⟨rfl, N2⟩, by rw [e2]; exact hkq⟩
theorem pd_3 : parseMethodDescriptor "(I)Lcom/example/arkivsjekk/arkivsjekk/SampleArchive$Role;" = some ⟨[.int], some (.object "com/example/arkivsjekk/arkivsjekk/SampleArchive$Role")⟩ := by decide +kernel
abbrev ym3 : MethodName := ⟨"com/example/arkivsjekk/arkivsjekk/RoleExternalPinLaw", "roleFor", "(I)Lcom/example/arkivsjekk/arkivsjekk/SampleArchive$Role;"⟩
theorem pd_4 : parseMethodDescriptor "()Z" = some ⟨[], some .boolean⟩ := by decide +kernel
abbrev ym4 : MethodName := ⟨"com/example/arkivsjekk/arkivsjekk/SampleArchive$Role", "external", "()Z"⟩
theorem pd_5 : parseMethodDescriptor "()Ljava/lang/String;" = some ⟨[], some (.object "java/lang/String")⟩ := by decide +kernel
abbrev ym5 : MethodName := ⟨"com/example/arkivsjekk/arkivsjekk/SampleArchive$Role", "korrespondanseparttype", "()Ljava/lang/String;"⟩
theorem ef_rm0 (m : MethodId) (p0 : Int32) : entryFrame m #[(.int p0)] maxLocals = mkF m 0 #[.val (.int p0), .unset, .unset, .unset, .unset, .unset] [] := by first | (simp [entryFrame, mkF, argsToLocals, Value.category, maxLocals]; done) | rfl
set_option maxRecDepth 65536 in
set_option maxHeartbeats 40000000 in
theorem rm0 (l : Launch) (Z : State) (av0 : Array Value) (hw : ∀ d ∈ tables_1, d.before av0 Z = true) (ws : List Jvm.Cond) (p0 : Int32) (st_REQUEST : Addr) (st_ADDITION : Addr) (st_NOTE : Addr) (st_REPLY : Addr) (pa_REQUEST : Addr) (pa_NOTE : Addr) (pa_REPLY : Addr) (pv_REQUEST : Addr) (k_pv_REQUEST : ClassId) (pv_NOTE : Addr) (k_pv_NOTE : ClassId) (pv_REPLY : Addr) (k_pv_REPLY : ClassId) (cz : Int32) (h0 : Heap) (n0 : Nat) (Z0 : n0 ≤ h0.size) (S_st_REQUEST : Sta Z h0 "com/example/arkivsjekk/arkivsjekk/SampleArchive$Role" "REQUEST" "Lcom/example/arkivsjekk/arkivsjekk/SampleArchive$Role;" (.ref st_REQUEST)) (S_st_ADDITION : Sta Z h0 "com/example/arkivsjekk/arkivsjekk/SampleArchive$Role" "ADDITION" "Lcom/example/arkivsjekk/arkivsjekk/SampleArchive$Role;" (.ref st_ADDITION)) (S_st_NOTE : Sta Z h0 "com/example/arkivsjekk/arkivsjekk/SampleArchive$Role" "NOTE" "Lcom/example/arkivsjekk/arkivsjekk/SampleArchive$Role;" (.ref st_NOTE)) (S_st_REPLY : Sta Z h0 "com/example/arkivsjekk/arkivsjekk/SampleArchive$Role" "REPLY" "Lcom/example/arkivsjekk/arkivsjekk/SampleArchive$Role;" (.ref st_REPLY)) (E_st_REQUEST : Exa Z h0 st_REQUEST "com/example/arkivsjekk/arkivsjekk/SampleArchive$Role") (E_st_ADDITION : Exa Z h0 st_ADDITION "com/example/arkivsjekk/arkivsjekk/SampleArchive$Role") (E_st_NOTE : Exa Z h0 st_NOTE "com/example/arkivsjekk/arkivsjekk/SampleArchive$Role") (E_st_REPLY : Exa Z h0 st_REPLY "com/example/arkivsjekk/arkivsjekk/SampleArchive$Role") (ne_st_NOTE_st_REQUEST : st_NOTE ≠ st_REQUEST) (ne_st_NOTE_st_ADDITION : st_NOTE ≠ st_ADDITION) (ne_st_NOTE_st_REPLY : st_NOTE ≠ st_REPLY) (F_korrespondanseparttype_st_REQUEST : Fld Z h0 st_REQUEST "com/example/arkivsjekk/arkivsjekk/SampleArchive$Role" "korrespondanseparttype" "Ljava/lang/String;" (.ref pa_REQUEST)) (F_korrespondanseparttype_st_ADDITION : Fld Z h0 st_ADDITION "com/example/arkivsjekk/arkivsjekk/SampleArchive$Role" "korrespondanseparttype" "Ljava/lang/String;" (.ref pa_REQUEST)) (F_korrespondanseparttype_st_NOTE : Fld Z h0 st_NOTE "com/example/arkivsjekk/arkivsjekk/SampleArchive$Role" "korrespondanseparttype" "Ljava/lang/String;" (.ref pa_NOTE)) (F_korrespondanseparttype_st_REPLY : Fld Z h0 st_REPLY "com/example/arkivsjekk/arkivsjekk/SampleArchive$Role" "korrespondanseparttype" "Ljava/lang/String;" (.ref pa_REPLY)) (E_pa_REQUEST : Exa Z h0 pa_REQUEST "java/lang/String") (F_coder_pa_REQUEST : Fld Z h0 pa_REQUEST "java/lang/String" "coder" "B" (.int (0 : Int32))) (F_value_pa_REQUEST : Fld Z h0 pa_REQUEST "java/lang/String" "value" "[B" (.ref pv_REQUEST)) (V_pv_REQUEST : Arv Z h0 pv_REQUEST k_pv_REQUEST .byte (8 : Int32) [(.int (65 : Int32)), (.int (118 : Int32)), (.int (115 : Int32)), (.int (101 : Int32)), (.int (110 : Int32)), (.int (100 : Int32)), (.int (101 : Int32)), (.int (114 : Int32))] (.int (0 : Int32))) (E_pa_NOTE : Exa Z h0 pa_NOTE "java/lang/String") (F_coder_pa_NOTE : Fld Z h0 pa_NOTE "java/lang/String" "coder" "B" (.int (0 : Int32))) (F_value_pa_NOTE : Fld Z h0 pa_NOTE "java/lang/String" "value" "[B" (.ref pv_NOTE)) (V_pv_NOTE : Arv Z h0 pv_NOTE k_pv_NOTE .byte (15 : Int32) [(.int (73 : Int32)), (.int (110 : Int32)), (.int (116 : Int32)), (.int (101 : Int32)), (.int (114 : Int32)), (.int (110 : Int32)), (.int (32 : Int32)), (.int (109 : Int32)), (.int (111 : Int32)), (.int (116 : Int32)), (.int (116 : Int32)), (.int (97 : Int32)), (.int (107 : Int32)), (.int (101 : Int32)), (.int (114 : Int32))] (.int (0 : Int32))) (E_pa_REPLY : Exa Z h0 pa_REPLY "java/lang/String") (F_coder_pa_REPLY : Fld Z h0 pa_REPLY "java/lang/String" "coder" "B" (.int (0 : Int32))) (F_value_pa_REPLY : Fld Z h0 pa_REPLY "java/lang/String" "value" "[B" (.ref pv_REPLY)) (V_pv_REPLY : Arv Z h0 pv_REPLY k_pv_REPLY .byte (8 : Int32) [(.int (77 : Int32)), (.int (111 : Int32)), (.int (116 : Int32)), (.int (116 : Int32)), (.int (97 : Int32)), (.int (107 : Int32)), (.int (101 : Int32)), (.int (114 : Int32))] (.int (0 : Int32))) (S_cz : Sta Z h0 "java/lang/String" "COMPACT_STRINGS" "Z" (.int cz)) (hcz : ¬ (cz = (0 : Int32))) (hn0 : n0 = h0.size) (hch : Jvm.Lit.constHeld Z "com/example/arkivsjekk/arkivsjekk/RoleExternalPinLaw" 37) (hcw : Jvm.Lit.compactW.before av0 Z = true) :
    MetFree l x (head1 (Jvm.Cond.code x code maxLocals ret :: ws) room_1) (fun a U => a = #[(.int p0)] ∧ Z.Warmed39 U.vm ∧ U.heap = h0 ∧ U = Z) (fun _ _ _ _ _ => True) (fun _ U o U' => ∃ v L, o = .returned v ∧ Q_law n0 v U'.heap L ∧ ReturnedEndW U o U' L 8 1088) := by
  refine MetFree.of_bodySF (plainFor_of_name pn_0) hisR ?_
  intro p e s m args below meth c s₁ Bd hml0 hP hK
  obtain ⟨rfl, hZ, hh, hUZ⟩ := hP
  have hx := Bd.exec
  have hby := Bd.bytes
  have hml : c.maxLocals = 6 := hml0
  have dd : ∀ {pc : Nat} {r : Except DecodeError (Instr × Nat)}, decode code pc = r → decode c.code pc = r := fun q => hb hby q
  have hown : s.vm.findClass "com/example/arkivsjekk/arkivsjekk/RoleExternalPinLaw" = some m.cls := findClass_of_methodNamed Bd.named
  have hnm := (name_of_methodNamed Bd.named Bd.method).1
  have X0 : Stand p l e room_1 s m #[(.int p0)] below meth c s₁ [] 0 0 := Stand.of_body Bd
  have e0 : s₁.heap = h0 := by rw [← hh, Bd.state]; rfl
  have N0 := Fr.nil n0
  have hret := Bd.returns
  have hlk := Bd.notSynchronized
  show Gw p e below s 8 1088 (Q_law n0) (s₁.setTop (entryFrame m #[(.int p0)] maxLocals))
  refine Gw.enter (ef_rm0 m p0) ?_
  refine Gw.iloadN 1 X0 hx (dd at_0) rfl rfl ?_
  refine Gw.ldcI 3 X0 hx (dd at_1) hown (mvT hZ (ww hw 0 rfl)) rfl ?_
  refine Gw.iand 4 X0 hx (dd at_3) rfl ?_
  refine Gw.iconst 5 (4 : Int32) X0 hx (dd at_4) rfl rfl ?_
  refine Gw.irem 6 X0 hx (dd at_5) (by decide) rfl ?_
  show Gw p e below s _ _ _ (s₁.setTop (mkF m 6 #[.val (.int p0), .unset, .unset, .unset, .unset, .unset] [(.int ((p0 &&& (2147483647 : Int32)) % (4 : Int32)))]))
  rcases own_four p0 with hs1 | hs1 | hs1 | hs1
  · rw [hs1]
    refine Gw.istoreN 7 #[.val (.int p0), .val (.int (0 : Int32)), .unset, .unset, .unset, .unset] X0 hx (dd at_6) rfl rfl ?_
    refine Gw.iloadN 8 X0 hx (dd at_7) rfl rfl ?_
    obtain ⟨_, _, ⟨T2, L2, k2, n2⟩, -, X2, ⟨Lc2, hQ2, l2, y2, z2⟩, st2⟩ := Jvm.LawKit.callS X0 hx (y := ym3) hown (mvT hZ (ww hw 1 rfl)) (mvT hZ (ww hw 2 rfl)) (mvT hZ (ww hw 3 rfl)) (mvT hZ (ww hw 4 rfl)) (by decide) (backOf (W := 0) (rm1 l Z av0 hw [] (0 : Int32) st_REQUEST st_ADDITION st_NOTE st_REPLY h0 n0 Z0 S_st_REQUEST S_st_ADDITION S_st_NOTE S_st_REPLY) hZ (ww hw 4 rfl) (ww hw 3 rfl) (by decide) (by decide)) (g := (mkF m 8 #[.val (.int p0), .val (.int (0 : Int32)), .unset, .unset, .unset, .unset] [(.int (0 : Int32))])) rfl (by rw [hml]; rfl) (argsL := [(.int (0 : Int32))]) (rest := []) (lenOf pd_3 rfl) rfl (Nat.le_refl _) (dd at_8) (fun _ _ => ⟨rfl, e0, (by decide : 0 + 0 ≤ _), (by decide : 0 + 0 ≤ _)⟩)
    dsimp only [Pt.U, Pt.locs, Pt.cells, Pt.slots, Q_rm1] at X2 l2 y2 z2 st2 hQ2
    subst l2 y2 z2
    rw [show (fRole (0 : Int32) st_REQUEST st_ADDITION st_NOTE st_REPLY) = st_REQUEST from (by unfold fRole; rw [if_pos (by decide : (0 : Int32) = (0 : Int32))]; try decide)] at hQ2
    obtain ⟨rfl, N2q, e2⟩ := hQ2
    have N2 := Fr.app N0 N2q
    refine Gw.st st2 ?_
    refine Gw.astoreN 12 #[.val (.int p0), .val (.int (0 : Int32)), .val (.ref st_REQUEST), .unset, .unset, .unset] X2 hx (dd at_11) rfl rfl rfl ?_
    refine Gw.aloadN 13 X2 hx (dd at_12) rfl rfl rfl ?_
    obtain ⟨cq3, kq3, q3a, q3b, q3c⟩ := isOf hZ e2 E_st_REQUEST
    obtain ⟨_, _, ⟨T3, L3, k3, n3⟩, -, X3, ⟨Lc3, hQ3, l3, y3, z3⟩, st3⟩ := X2.virtualBack hx (y := ym4) (z := ym4) hown (mvT hZ (ww hw 8 rfl)) (mvT hZ (ww hw 9 rfl)) (notFace_of_selects (args := #[]) (mvT hZ (ww hw 11 rfl))) (mvT hZ (ww hw 11 rfl)) (mvT hZ (ww hw 10 rfl)) (by decide) (backOf (W := 0) (rm2 l Z av0 hw [] st_REQUEST st_NOTE h0 n0 Z0 S_st_NOTE) hZ (ww hw 12 rfl) (ww hw 6 rfl) (by decide) (by decide)) q3a q3c (g := (mkF m 13 #[.val (.int p0), .val (.int (0 : Int32)), .val (.ref st_REQUEST), .unset, .unset, .unset] [(.ref st_REQUEST)])) rfl (by rw [hml]; rfl) (Steps.refl _) (argsL := []) (rest := []) (lenOf pd_4 rfl) rfl (Nat.le_refl _) (dd at_13) (fun _ _ => ⟨rfl, e2, (by decide : 0 + 0 ≤ _), (by decide : 0 + 0 ≤ _)⟩)
    dsimp only [Pt.U, Pt.locs, Pt.cells, Pt.slots, Q_rm2] at X3 l3 y3 z3 st3 hQ3
    subst l3 y3 z3
    rw [show (fExt st_REQUEST st_NOTE) = (1 : Int32) from (by unfold fExt; rw [if_neg (Ne.symm ne_st_NOTE_st_REQUEST)]; try decide)] at hQ3
    obtain ⟨rfl, N3q, e3⟩ := hQ3
    have N3 := Fr.app N2 N3q
    refine Gw.tr st3 ?_
    refine Gw.istoreN 17 #[.val (.int p0), .val (.int (0 : Int32)), .val (.ref st_REQUEST), .val (.int (1 : Int32)), .unset, .unset] X3 hx (dd at_16) rfl rfl ?_
    refine Gw.aloadN 18 X3 hx (dd at_17) rfl rfl rfl ?_
    obtain ⟨cq4, kq4, q4a, q4b, q4c⟩ := isOf hZ e3 E_st_REQUEST
    obtain ⟨_, _, ⟨T4, L4, k4, n4⟩, -, X4, ⟨Lc4, hQ4, l4, y4, z4⟩, st4⟩ := X3.virtualBack hx (y := ym5) (z := ym5) hown (mvT hZ (ww hw 15 rfl)) (mvT hZ (ww hw 16 rfl)) (notFace_of_selects (args := #[]) (mvT hZ (ww hw 18 rfl))) (mvT hZ (ww hw 18 rfl)) (mvT hZ (ww hw 17 rfl)) (by decide) (backOf (W := 0) (rm3 l Z av0 hw [] st_REQUEST pa_REQUEST h0 n0 Z0 F_korrespondanseparttype_st_REQUEST) hZ (ww hw 19 rfl) (ww hw 6 rfl) (by decide) (by decide)) q4a q4c (g := (mkF m 18 #[.val (.int p0), .val (.int (0 : Int32)), .val (.ref st_REQUEST), .val (.int (1 : Int32)), .unset, .unset] [(.ref st_REQUEST)])) rfl (by rw [hml]; rfl) (Steps.refl _) (argsL := []) (rest := []) (lenOf pd_5 rfl) rfl (Nat.le_refl _) (dd at_18) (fun _ _ => ⟨rfl, e3, (by decide : 0 + 0 ≤ _), (by decide : 0 + 0 ≤ _)⟩)
    dsimp only [Pt.U, Pt.locs, Pt.cells, Pt.slots, Q_rm3] at X4 l4 y4 z4 st4 hQ4
    subst l4 y4 z4
    rw [show (fKor st_REQUEST pa_REQUEST) = pa_REQUEST from (by unfold fKor; rfl)] at hQ4
    obtain ⟨rfl, N4q, e4⟩ := hQ4
    have N4 := Fr.app N3 N4q
    refine Gw.tr st4 ?_
    refine Gw.astore 23 #[.val (.int p0), .val (.int (0 : Int32)), .val (.ref st_REQUEST), .val (.int (1 : Int32)), .val (.ref pa_REQUEST), .unset] X4 hx (dd at_21) rfl rfl rfl ?_
    show Gw p e below s _ _ _ (T4.setTop (mkF m 23 #[.val (.int p0), .val (.int (0 : Int32)), .val (.ref st_REQUEST), .val (.int (1 : Int32)), .val (.ref pa_REQUEST), .unset] []))
    obtain ⟨la5, T5, h5, k5, lb5, kc5, X5, e5, E5, hS5, hk5, hZ, hown, A15, F15, F25, V5, -, -, -, -, -, st5⟩ := ldcSVd (s := s) (vm0 := s.vm) X4 hx hZ hown (ww hw 22 rfl) (own_atoms hw) e4 (k0 := 0) ((State.WarmedH.refl s).since 0) (Nat.zero_le _) (by rw [hh, ← hn0]; exact N4) (by rw [hUZ]; exact fun _ _ q => q) (Ts := []) (by rw [hUZ]; exact IB.start) (fun q => nomatch q) hch hcw (vs := [(.int (73 : Int32)), (.int (110 : Int32)), (.int (116 : Int32)), (.int (101 : Int32)), (.int (114 : Int32)), (.int (110 : Int32)), (.int (32 : Int32)), (.int (109 : Int32)), (.int (111 : Int32)), (.int (116 : Int32)), (.int (116 : Int32)), (.int (97 : Int32)), (.int (107 : Int32)), (.int (101 : Int32)), (.int (114 : Int32))]) (z := (15 : Int32)) ⟨by decide, by decide⟩ (by decide) (by decide) (g := (mkF m 23 #[.val (.int p0), .val (.int (0 : Int32)), .val (.ref st_REQUEST), .val (.int (1 : Int32)), .val (.ref pa_REQUEST), .unset] [])) rfl (dd at_23) (n := 60) (by decide) (by decide) (by decide) (by decide)
    have f5_S_st_REQUEST := Sta.ext E5 S_st_REQUEST
    have f5_S_st_ADDITION := Sta.ext E5 S_st_ADDITION
    have f5_S_st_NOTE := Sta.ext E5 S_st_NOTE
    have f5_S_st_REPLY := Sta.ext E5 S_st_REPLY
    have f5_E_st_REQUEST := Exa.ext E5 E_st_REQUEST
    have f5_E_st_ADDITION := Exa.ext E5 E_st_ADDITION
    have f5_E_st_NOTE := Exa.ext E5 E_st_NOTE
    have f5_E_st_REPLY := Exa.ext E5 E_st_REPLY
    have f5_F_korrespondanseparttype_st_REQUEST := Fld.ext E5 F_korrespondanseparttype_st_REQUEST
    have f5_F_korrespondanseparttype_st_ADDITION := Fld.ext E5 F_korrespondanseparttype_st_ADDITION
    have f5_F_korrespondanseparttype_st_NOTE := Fld.ext E5 F_korrespondanseparttype_st_NOTE
    have f5_F_korrespondanseparttype_st_REPLY := Fld.ext E5 F_korrespondanseparttype_st_REPLY
    have f5_E_pa_REQUEST := Exa.ext E5 E_pa_REQUEST
    have f5_F_coder_pa_REQUEST := Fld.ext E5 F_coder_pa_REQUEST
    have f5_F_value_pa_REQUEST := Fld.ext E5 F_value_pa_REQUEST
    have f5_V_pv_REQUEST := Arv.ext V_pv_REQUEST E5
    have f5_E_pa_NOTE := Exa.ext E5 E_pa_NOTE
    have f5_F_coder_pa_NOTE := Fld.ext E5 F_coder_pa_NOTE
    have f5_F_value_pa_NOTE := Fld.ext E5 F_value_pa_NOTE
    have f5_V_pv_NOTE := Arv.ext V_pv_NOTE E5
    have f5_E_pa_REPLY := Exa.ext E5 E_pa_REPLY
    have f5_F_coder_pa_REPLY := Fld.ext E5 F_coder_pa_REPLY
    have f5_F_value_pa_REPLY := Fld.ext E5 F_value_pa_REPLY
    have f5_V_pv_REPLY := Arv.ext V_pv_REPLY E5
    have f5_S_cz := Sta.ext E5 S_cz
    have SZ5 := Nat.le_trans Z0 E5.1
    have nb5 : lb5 ≠ pv_REQUEST := arv_ne V5 f5_V_pv_REQUEST (Or.inl (by decide))
    have ns5 : la5 ≠ pa_REQUEST := Fld.ne F25 f5_F_value_pa_REQUEST (fun q => nb5 (Value.ref.inj q))
    refine Gw.st st5 ?_
    exact own_reb hS5 (fun _ _ _ q => q) (sg0 k5 (.val (.int p0)) (.val (.ref st_REQUEST)) pa_REQUEST la5 lb5 pv_REQUEST kc5 k_pv_REQUEST cz n0 X5 hx hZ hw hby hml hown hret hlk e5 N4 SZ5 A15 f5_E_pa_REQUEST F15 f5_F_coder_pa_REQUEST F25 f5_F_value_pa_REQUEST V5 f5_V_pv_REQUEST f5_S_cz hcz ns5 hk5)
  · rw [hs1]
    refine Gw.istoreN 7 #[.val (.int p0), .val (.int (1 : Int32)), .unset, .unset, .unset, .unset] X0 hx (dd at_6) rfl rfl ?_
    refine Gw.iloadN 8 X0 hx (dd at_7) rfl rfl ?_
    obtain ⟨_, _, ⟨T6, L6, k6, n6⟩, -, X6, ⟨Lc6, hQ6, l6, y6, z6⟩, st6⟩ := Jvm.LawKit.callS X0 hx (y := ym3) hown (mvT hZ (ww hw 1 rfl)) (mvT hZ (ww hw 2 rfl)) (mvT hZ (ww hw 3 rfl)) (mvT hZ (ww hw 4 rfl)) (by decide) (backOf (W := 0) (rm1 l Z av0 hw [] (1 : Int32) st_REQUEST st_ADDITION st_NOTE st_REPLY h0 n0 Z0 S_st_REQUEST S_st_ADDITION S_st_NOTE S_st_REPLY) hZ (ww hw 4 rfl) (ww hw 3 rfl) (by decide) (by decide)) (g := (mkF m 8 #[.val (.int p0), .val (.int (1 : Int32)), .unset, .unset, .unset, .unset] [(.int (1 : Int32))])) rfl (by rw [hml]; rfl) (argsL := [(.int (1 : Int32))]) (rest := []) (lenOf pd_3 rfl) rfl (Nat.le_refl _) (dd at_8) (fun _ _ => ⟨rfl, e0, (by decide : 0 + 0 ≤ _), (by decide : 0 + 0 ≤ _)⟩)
    dsimp only [Pt.U, Pt.locs, Pt.cells, Pt.slots, Q_rm1] at X6 l6 y6 z6 st6 hQ6
    subst l6 y6 z6
    rw [show (fRole (1 : Int32) st_REQUEST st_ADDITION st_NOTE st_REPLY) = st_ADDITION from (by unfold fRole; rw [if_neg (by decide : ¬ ((1 : Int32) = (0 : Int32))), if_pos (by decide : (1 : Int32) = (1 : Int32))]; try decide)] at hQ6
    obtain ⟨rfl, N6q, e6⟩ := hQ6
    have N6 := Fr.app N0 N6q
    refine Gw.st st6 ?_
    refine Gw.astoreN 12 #[.val (.int p0), .val (.int (1 : Int32)), .val (.ref st_ADDITION), .unset, .unset, .unset] X6 hx (dd at_11) rfl rfl rfl ?_
    refine Gw.aloadN 13 X6 hx (dd at_12) rfl rfl rfl ?_
    obtain ⟨cq7, kq7, q7a, q7b, q7c⟩ := isOf hZ e6 E_st_ADDITION
    obtain ⟨_, _, ⟨T7, L7, k7, n7⟩, -, X7, ⟨Lc7, hQ7, l7, y7, z7⟩, st7⟩ := X6.virtualBack hx (y := ym4) (z := ym4) hown (mvT hZ (ww hw 8 rfl)) (mvT hZ (ww hw 9 rfl)) (notFace_of_selects (args := #[]) (mvT hZ (ww hw 11 rfl))) (mvT hZ (ww hw 11 rfl)) (mvT hZ (ww hw 10 rfl)) (by decide) (backOf (W := 0) (rm2 l Z av0 hw [] st_ADDITION st_NOTE h0 n0 Z0 S_st_NOTE) hZ (ww hw 12 rfl) (ww hw 6 rfl) (by decide) (by decide)) q7a q7c (g := (mkF m 13 #[.val (.int p0), .val (.int (1 : Int32)), .val (.ref st_ADDITION), .unset, .unset, .unset] [(.ref st_ADDITION)])) rfl (by rw [hml]; rfl) (Steps.refl _) (argsL := []) (rest := []) (lenOf pd_4 rfl) rfl (Nat.le_refl _) (dd at_13) (fun _ _ => ⟨rfl, e6, (by decide : 0 + 0 ≤ _), (by decide : 0 + 0 ≤ _)⟩)
    dsimp only [Pt.U, Pt.locs, Pt.cells, Pt.slots, Q_rm2] at X7 l7 y7 z7 st7 hQ7
    subst l7 y7 z7
    rw [show (fExt st_ADDITION st_NOTE) = (1 : Int32) from (by unfold fExt; rw [if_neg (Ne.symm ne_st_NOTE_st_ADDITION)]; try decide)] at hQ7
    obtain ⟨rfl, N7q, e7⟩ := hQ7
    have N7 := Fr.app N6 N7q
    refine Gw.tr st7 ?_
    refine Gw.istoreN 17 #[.val (.int p0), .val (.int (1 : Int32)), .val (.ref st_ADDITION), .val (.int (1 : Int32)), .unset, .unset] X7 hx (dd at_16) rfl rfl ?_
    refine Gw.aloadN 18 X7 hx (dd at_17) rfl rfl rfl ?_
    obtain ⟨cq8, kq8, q8a, q8b, q8c⟩ := isOf hZ e7 E_st_ADDITION
    obtain ⟨_, _, ⟨T8, L8, k8, n8⟩, -, X8, ⟨Lc8, hQ8, l8, y8, z8⟩, st8⟩ := X7.virtualBack hx (y := ym5) (z := ym5) hown (mvT hZ (ww hw 15 rfl)) (mvT hZ (ww hw 16 rfl)) (notFace_of_selects (args := #[]) (mvT hZ (ww hw 18 rfl))) (mvT hZ (ww hw 18 rfl)) (mvT hZ (ww hw 17 rfl)) (by decide) (backOf (W := 0) (rm3 l Z av0 hw [] st_ADDITION pa_REQUEST h0 n0 Z0 F_korrespondanseparttype_st_ADDITION) hZ (ww hw 19 rfl) (ww hw 6 rfl) (by decide) (by decide)) q8a q8c (g := (mkF m 18 #[.val (.int p0), .val (.int (1 : Int32)), .val (.ref st_ADDITION), .val (.int (1 : Int32)), .unset, .unset] [(.ref st_ADDITION)])) rfl (by rw [hml]; rfl) (Steps.refl _) (argsL := []) (rest := []) (lenOf pd_5 rfl) rfl (Nat.le_refl _) (dd at_18) (fun _ _ => ⟨rfl, e7, (by decide : 0 + 0 ≤ _), (by decide : 0 + 0 ≤ _)⟩)
    dsimp only [Pt.U, Pt.locs, Pt.cells, Pt.slots, Q_rm3] at X8 l8 y8 z8 st8 hQ8
    subst l8 y8 z8
    rw [show (fKor st_ADDITION pa_REQUEST) = pa_REQUEST from (by unfold fKor; rfl)] at hQ8
    obtain ⟨rfl, N8q, e8⟩ := hQ8
    have N8 := Fr.app N7 N8q
    refine Gw.tr st8 ?_
    refine Gw.astore 23 #[.val (.int p0), .val (.int (1 : Int32)), .val (.ref st_ADDITION), .val (.int (1 : Int32)), .val (.ref pa_REQUEST), .unset] X8 hx (dd at_21) rfl rfl rfl ?_
    show Gw p e below s _ _ _ (T8.setTop (mkF m 23 #[.val (.int p0), .val (.int (1 : Int32)), .val (.ref st_ADDITION), .val (.int (1 : Int32)), .val (.ref pa_REQUEST), .unset] []))
    obtain ⟨la9, T9, h9, k9, lb9, kc9, X9, e9, E9, hS9, hk9, hZ, hown, A19, F19, F29, V9, -, -, -, -, -, st9⟩ := ldcSVd (s := s) (vm0 := s.vm) X8 hx hZ hown (ww hw 22 rfl) (own_atoms hw) e8 (k0 := 0) ((State.WarmedH.refl s).since 0) (Nat.zero_le _) (by rw [hh, ← hn0]; exact N8) (by rw [hUZ]; exact fun _ _ q => q) (Ts := []) (by rw [hUZ]; exact IB.start) (fun q => nomatch q) hch hcw (vs := [(.int (73 : Int32)), (.int (110 : Int32)), (.int (116 : Int32)), (.int (101 : Int32)), (.int (114 : Int32)), (.int (110 : Int32)), (.int (32 : Int32)), (.int (109 : Int32)), (.int (111 : Int32)), (.int (116 : Int32)), (.int (116 : Int32)), (.int (97 : Int32)), (.int (107 : Int32)), (.int (101 : Int32)), (.int (114 : Int32))]) (z := (15 : Int32)) ⟨by decide, by decide⟩ (by decide) (by decide) (g := (mkF m 23 #[.val (.int p0), .val (.int (1 : Int32)), .val (.ref st_ADDITION), .val (.int (1 : Int32)), .val (.ref pa_REQUEST), .unset] [])) rfl (dd at_23) (n := 60) (by decide) (by decide) (by decide) (by decide)
    have f9_S_st_REQUEST := Sta.ext E9 S_st_REQUEST
    have f9_S_st_ADDITION := Sta.ext E9 S_st_ADDITION
    have f9_S_st_NOTE := Sta.ext E9 S_st_NOTE
    have f9_S_st_REPLY := Sta.ext E9 S_st_REPLY
    have f9_E_st_REQUEST := Exa.ext E9 E_st_REQUEST
    have f9_E_st_ADDITION := Exa.ext E9 E_st_ADDITION
    have f9_E_st_NOTE := Exa.ext E9 E_st_NOTE
    have f9_E_st_REPLY := Exa.ext E9 E_st_REPLY
    have f9_F_korrespondanseparttype_st_REQUEST := Fld.ext E9 F_korrespondanseparttype_st_REQUEST
    have f9_F_korrespondanseparttype_st_ADDITION := Fld.ext E9 F_korrespondanseparttype_st_ADDITION
    have f9_F_korrespondanseparttype_st_NOTE := Fld.ext E9 F_korrespondanseparttype_st_NOTE
    have f9_F_korrespondanseparttype_st_REPLY := Fld.ext E9 F_korrespondanseparttype_st_REPLY
    have f9_E_pa_REQUEST := Exa.ext E9 E_pa_REQUEST
    have f9_F_coder_pa_REQUEST := Fld.ext E9 F_coder_pa_REQUEST
    have f9_F_value_pa_REQUEST := Fld.ext E9 F_value_pa_REQUEST
    have f9_V_pv_REQUEST := Arv.ext V_pv_REQUEST E9
    have f9_E_pa_NOTE := Exa.ext E9 E_pa_NOTE
    have f9_F_coder_pa_NOTE := Fld.ext E9 F_coder_pa_NOTE
    have f9_F_value_pa_NOTE := Fld.ext E9 F_value_pa_NOTE
    have f9_V_pv_NOTE := Arv.ext V_pv_NOTE E9
    have f9_E_pa_REPLY := Exa.ext E9 E_pa_REPLY
    have f9_F_coder_pa_REPLY := Fld.ext E9 F_coder_pa_REPLY
    have f9_F_value_pa_REPLY := Fld.ext E9 F_value_pa_REPLY
    have f9_V_pv_REPLY := Arv.ext V_pv_REPLY E9
    have f9_S_cz := Sta.ext E9 S_cz
    have SZ9 := Nat.le_trans Z0 E9.1
    have nb9 : lb9 ≠ pv_REQUEST := arv_ne V9 f9_V_pv_REQUEST (Or.inl (by decide))
    have ns9 : la9 ≠ pa_REQUEST := Fld.ne F29 f9_F_value_pa_REQUEST (fun q => nb9 (Value.ref.inj q))
    refine Gw.st st9 ?_
    exact own_reb hS9 (fun _ _ _ q => q) (sg1 k9 (.val (.int p0)) (.val (.ref st_ADDITION)) pa_REQUEST la9 lb9 pv_REQUEST kc9 k_pv_REQUEST cz n0 X9 hx hZ hw hby hml hown hret hlk e9 N8 SZ9 A19 f9_E_pa_REQUEST F19 f9_F_coder_pa_REQUEST F29 f9_F_value_pa_REQUEST V9 f9_V_pv_REQUEST f9_S_cz hcz ns9 hk9)
  · rw [hs1]
    refine Gw.istoreN 7 #[.val (.int p0), .val (.int (2 : Int32)), .unset, .unset, .unset, .unset] X0 hx (dd at_6) rfl rfl ?_
    refine Gw.iloadN 8 X0 hx (dd at_7) rfl rfl ?_
    obtain ⟨_, _, ⟨T10, L10, k10, n10⟩, -, X10, ⟨Lc10, hQ10, l10, y10, z10⟩, st10⟩ := Jvm.LawKit.callS X0 hx (y := ym3) hown (mvT hZ (ww hw 1 rfl)) (mvT hZ (ww hw 2 rfl)) (mvT hZ (ww hw 3 rfl)) (mvT hZ (ww hw 4 rfl)) (by decide) (backOf (W := 0) (rm1 l Z av0 hw [] (2 : Int32) st_REQUEST st_ADDITION st_NOTE st_REPLY h0 n0 Z0 S_st_REQUEST S_st_ADDITION S_st_NOTE S_st_REPLY) hZ (ww hw 4 rfl) (ww hw 3 rfl) (by decide) (by decide)) (g := (mkF m 8 #[.val (.int p0), .val (.int (2 : Int32)), .unset, .unset, .unset, .unset] [(.int (2 : Int32))])) rfl (by rw [hml]; rfl) (argsL := [(.int (2 : Int32))]) (rest := []) (lenOf pd_3 rfl) rfl (Nat.le_refl _) (dd at_8) (fun _ _ => ⟨rfl, e0, (by decide : 0 + 0 ≤ _), (by decide : 0 + 0 ≤ _)⟩)
    dsimp only [Pt.U, Pt.locs, Pt.cells, Pt.slots, Q_rm1] at X10 l10 y10 z10 st10 hQ10
    subst l10 y10 z10
    rw [show (fRole (2 : Int32) st_REQUEST st_ADDITION st_NOTE st_REPLY) = st_NOTE from (by unfold fRole; rw [if_neg (by decide : ¬ ((2 : Int32) = (0 : Int32))), if_neg (by decide : ¬ ((2 : Int32) = (1 : Int32))), if_pos (by decide : (2 : Int32) = (2 : Int32))]; try decide)] at hQ10
    obtain ⟨rfl, N10q, e10⟩ := hQ10
    have N10 := Fr.app N0 N10q
    refine Gw.st st10 ?_
    refine Gw.astoreN 12 #[.val (.int p0), .val (.int (2 : Int32)), .val (.ref st_NOTE), .unset, .unset, .unset] X10 hx (dd at_11) rfl rfl rfl ?_
    refine Gw.aloadN 13 X10 hx (dd at_12) rfl rfl rfl ?_
    obtain ⟨cq11, kq11, q11a, q11b, q11c⟩ := isOf hZ e10 E_st_NOTE
    obtain ⟨_, _, ⟨T11, L11, k11, n11⟩, -, X11, ⟨Lc11, hQ11, l11, y11, z11⟩, st11⟩ := X10.virtualBack hx (y := ym4) (z := ym4) hown (mvT hZ (ww hw 8 rfl)) (mvT hZ (ww hw 9 rfl)) (notFace_of_selects (args := #[]) (mvT hZ (ww hw 11 rfl))) (mvT hZ (ww hw 11 rfl)) (mvT hZ (ww hw 10 rfl)) (by decide) (backOf (W := 0) (rm2 l Z av0 hw [] st_NOTE st_NOTE h0 n0 Z0 S_st_NOTE) hZ (ww hw 12 rfl) (ww hw 6 rfl) (by decide) (by decide)) q11a q11c (g := (mkF m 13 #[.val (.int p0), .val (.int (2 : Int32)), .val (.ref st_NOTE), .unset, .unset, .unset] [(.ref st_NOTE)])) rfl (by rw [hml]; rfl) (Steps.refl _) (argsL := []) (rest := []) (lenOf pd_4 rfl) rfl (Nat.le_refl _) (dd at_13) (fun _ _ => ⟨rfl, e10, (by decide : 0 + 0 ≤ _), (by decide : 0 + 0 ≤ _)⟩)
    dsimp only [Pt.U, Pt.locs, Pt.cells, Pt.slots, Q_rm2] at X11 l11 y11 z11 st11 hQ11
    subst l11 y11 z11
    rw [show (fExt st_NOTE st_NOTE) = (0 : Int32) from (by unfold fExt; rw [if_pos (rfl : st_NOTE = st_NOTE)]; try decide)] at hQ11
    obtain ⟨rfl, N11q, e11⟩ := hQ11
    have N11 := Fr.app N10 N11q
    refine Gw.tr st11 ?_
    refine Gw.istoreN 17 #[.val (.int p0), .val (.int (2 : Int32)), .val (.ref st_NOTE), .val (.int (0 : Int32)), .unset, .unset] X11 hx (dd at_16) rfl rfl ?_
    refine Gw.aloadN 18 X11 hx (dd at_17) rfl rfl rfl ?_
    obtain ⟨cq12, kq12, q12a, q12b, q12c⟩ := isOf hZ e11 E_st_NOTE
    obtain ⟨_, _, ⟨T12, L12, k12, n12⟩, -, X12, ⟨Lc12, hQ12, l12, y12, z12⟩, st12⟩ := X11.virtualBack hx (y := ym5) (z := ym5) hown (mvT hZ (ww hw 15 rfl)) (mvT hZ (ww hw 16 rfl)) (notFace_of_selects (args := #[]) (mvT hZ (ww hw 18 rfl))) (mvT hZ (ww hw 18 rfl)) (mvT hZ (ww hw 17 rfl)) (by decide) (backOf (W := 0) (rm3 l Z av0 hw [] st_NOTE pa_NOTE h0 n0 Z0 F_korrespondanseparttype_st_NOTE) hZ (ww hw 19 rfl) (ww hw 6 rfl) (by decide) (by decide)) q12a q12c (g := (mkF m 18 #[.val (.int p0), .val (.int (2 : Int32)), .val (.ref st_NOTE), .val (.int (0 : Int32)), .unset, .unset] [(.ref st_NOTE)])) rfl (by rw [hml]; rfl) (Steps.refl _) (argsL := []) (rest := []) (lenOf pd_5 rfl) rfl (Nat.le_refl _) (dd at_18) (fun _ _ => ⟨rfl, e11, (by decide : 0 + 0 ≤ _), (by decide : 0 + 0 ≤ _)⟩)
    dsimp only [Pt.U, Pt.locs, Pt.cells, Pt.slots, Q_rm3] at X12 l12 y12 z12 st12 hQ12
    subst l12 y12 z12
    rw [show (fKor st_NOTE pa_NOTE) = pa_NOTE from (by unfold fKor; rfl)] at hQ12
    obtain ⟨rfl, N12q, e12⟩ := hQ12
    have N12 := Fr.app N11 N12q
    refine Gw.tr st12 ?_
    refine Gw.astore 23 #[.val (.int p0), .val (.int (2 : Int32)), .val (.ref st_NOTE), .val (.int (0 : Int32)), .val (.ref pa_NOTE), .unset] X12 hx (dd at_21) rfl rfl rfl ?_
    show Gw p e below s _ _ _ (T12.setTop (mkF m 23 #[.val (.int p0), .val (.int (2 : Int32)), .val (.ref st_NOTE), .val (.int (0 : Int32)), .val (.ref pa_NOTE), .unset] []))
    obtain ⟨la13, T13, h13, k13, lb13, kc13, X13, e13, E13, hS13, hk13, hZ, hown, A113, F113, F213, V13, -, -, -, -, -, st13⟩ := ldcSVd (s := s) (vm0 := s.vm) X12 hx hZ hown (ww hw 22 rfl) (own_atoms hw) e12 (k0 := 0) ((State.WarmedH.refl s).since 0) (Nat.zero_le _) (by rw [hh, ← hn0]; exact N12) (by rw [hUZ]; exact fun _ _ q => q) (Ts := []) (by rw [hUZ]; exact IB.start) (fun q => nomatch q) hch hcw (vs := [(.int (73 : Int32)), (.int (110 : Int32)), (.int (116 : Int32)), (.int (101 : Int32)), (.int (114 : Int32)), (.int (110 : Int32)), (.int (32 : Int32)), (.int (109 : Int32)), (.int (111 : Int32)), (.int (116 : Int32)), (.int (116 : Int32)), (.int (97 : Int32)), (.int (107 : Int32)), (.int (101 : Int32)), (.int (114 : Int32))]) (z := (15 : Int32)) ⟨by decide, by decide⟩ (by decide) (by decide) (g := (mkF m 23 #[.val (.int p0), .val (.int (2 : Int32)), .val (.ref st_NOTE), .val (.int (0 : Int32)), .val (.ref pa_NOTE), .unset] [])) rfl (dd at_23) (n := 60) (by decide) (by decide) (by decide) (by decide)
    have f13_S_st_REQUEST := Sta.ext E13 S_st_REQUEST
    have f13_S_st_ADDITION := Sta.ext E13 S_st_ADDITION
    have f13_S_st_NOTE := Sta.ext E13 S_st_NOTE
    have f13_S_st_REPLY := Sta.ext E13 S_st_REPLY
    have f13_E_st_REQUEST := Exa.ext E13 E_st_REQUEST
    have f13_E_st_ADDITION := Exa.ext E13 E_st_ADDITION
    have f13_E_st_NOTE := Exa.ext E13 E_st_NOTE
    have f13_E_st_REPLY := Exa.ext E13 E_st_REPLY
    have f13_F_korrespondanseparttype_st_REQUEST := Fld.ext E13 F_korrespondanseparttype_st_REQUEST
    have f13_F_korrespondanseparttype_st_ADDITION := Fld.ext E13 F_korrespondanseparttype_st_ADDITION
    have f13_F_korrespondanseparttype_st_NOTE := Fld.ext E13 F_korrespondanseparttype_st_NOTE
    have f13_F_korrespondanseparttype_st_REPLY := Fld.ext E13 F_korrespondanseparttype_st_REPLY
    have f13_E_pa_REQUEST := Exa.ext E13 E_pa_REQUEST
    have f13_F_coder_pa_REQUEST := Fld.ext E13 F_coder_pa_REQUEST
    have f13_F_value_pa_REQUEST := Fld.ext E13 F_value_pa_REQUEST
    have f13_V_pv_REQUEST := Arv.ext V_pv_REQUEST E13
    have f13_E_pa_NOTE := Exa.ext E13 E_pa_NOTE
    have f13_F_coder_pa_NOTE := Fld.ext E13 F_coder_pa_NOTE
    have f13_F_value_pa_NOTE := Fld.ext E13 F_value_pa_NOTE
    have f13_V_pv_NOTE := Arv.ext V_pv_NOTE E13
    have f13_E_pa_REPLY := Exa.ext E13 E_pa_REPLY
    have f13_F_coder_pa_REPLY := Fld.ext E13 F_coder_pa_REPLY
    have f13_F_value_pa_REPLY := Fld.ext E13 F_value_pa_REPLY
    have f13_V_pv_REPLY := Arv.ext V_pv_REPLY E13
    have f13_S_cz := Sta.ext E13 S_cz
    have SZ13 := Nat.le_trans Z0 E13.1
    refine Gw.st st13 ?_
    exact own_reb hS13 (fun _ _ _ q => q) (sg2 k13 (.val (.int p0)) (.val (.ref st_NOTE)) pa_NOTE la13 lb13 pv_NOTE kc13 k_pv_NOTE cz n0 X13 hx hZ hw hby hml hown hret hlk e13 N12 SZ13 A113 f13_E_pa_NOTE F113 f13_F_coder_pa_NOTE F213 f13_F_value_pa_NOTE V13 f13_V_pv_NOTE f13_S_cz hcz hk13)
  · rw [hs1]
    refine Gw.istoreN 7 #[.val (.int p0), .val (.int (3 : Int32)), .unset, .unset, .unset, .unset] X0 hx (dd at_6) rfl rfl ?_
    refine Gw.iloadN 8 X0 hx (dd at_7) rfl rfl ?_
    obtain ⟨_, _, ⟨T14, L14, k14, n14⟩, -, X14, ⟨Lc14, hQ14, l14, y14, z14⟩, st14⟩ := Jvm.LawKit.callS X0 hx (y := ym3) hown (mvT hZ (ww hw 1 rfl)) (mvT hZ (ww hw 2 rfl)) (mvT hZ (ww hw 3 rfl)) (mvT hZ (ww hw 4 rfl)) (by decide) (backOf (W := 0) (rm1 l Z av0 hw [] (3 : Int32) st_REQUEST st_ADDITION st_NOTE st_REPLY h0 n0 Z0 S_st_REQUEST S_st_ADDITION S_st_NOTE S_st_REPLY) hZ (ww hw 4 rfl) (ww hw 3 rfl) (by decide) (by decide)) (g := (mkF m 8 #[.val (.int p0), .val (.int (3 : Int32)), .unset, .unset, .unset, .unset] [(.int (3 : Int32))])) rfl (by rw [hml]; rfl) (argsL := [(.int (3 : Int32))]) (rest := []) (lenOf pd_3 rfl) rfl (Nat.le_refl _) (dd at_8) (fun _ _ => ⟨rfl, e0, (by decide : 0 + 0 ≤ _), (by decide : 0 + 0 ≤ _)⟩)
    dsimp only [Pt.U, Pt.locs, Pt.cells, Pt.slots, Q_rm1] at X14 l14 y14 z14 st14 hQ14
    subst l14 y14 z14
    rw [show (fRole (3 : Int32) st_REQUEST st_ADDITION st_NOTE st_REPLY) = st_REPLY from (by unfold fRole; rw [if_neg (by decide : ¬ ((3 : Int32) = (0 : Int32))), if_neg (by decide : ¬ ((3 : Int32) = (1 : Int32))), if_neg (by decide : ¬ ((3 : Int32) = (2 : Int32)))]; try decide)] at hQ14
    obtain ⟨rfl, N14q, e14⟩ := hQ14
    have N14 := Fr.app N0 N14q
    refine Gw.st st14 ?_
    refine Gw.astoreN 12 #[.val (.int p0), .val (.int (3 : Int32)), .val (.ref st_REPLY), .unset, .unset, .unset] X14 hx (dd at_11) rfl rfl rfl ?_
    refine Gw.aloadN 13 X14 hx (dd at_12) rfl rfl rfl ?_
    obtain ⟨cq15, kq15, q15a, q15b, q15c⟩ := isOf hZ e14 E_st_REPLY
    obtain ⟨_, _, ⟨T15, L15, k15, n15⟩, -, X15, ⟨Lc15, hQ15, l15, y15, z15⟩, st15⟩ := X14.virtualBack hx (y := ym4) (z := ym4) hown (mvT hZ (ww hw 8 rfl)) (mvT hZ (ww hw 9 rfl)) (notFace_of_selects (args := #[]) (mvT hZ (ww hw 11 rfl))) (mvT hZ (ww hw 11 rfl)) (mvT hZ (ww hw 10 rfl)) (by decide) (backOf (W := 0) (rm2 l Z av0 hw [] st_REPLY st_NOTE h0 n0 Z0 S_st_NOTE) hZ (ww hw 12 rfl) (ww hw 6 rfl) (by decide) (by decide)) q15a q15c (g := (mkF m 13 #[.val (.int p0), .val (.int (3 : Int32)), .val (.ref st_REPLY), .unset, .unset, .unset] [(.ref st_REPLY)])) rfl (by rw [hml]; rfl) (Steps.refl _) (argsL := []) (rest := []) (lenOf pd_4 rfl) rfl (Nat.le_refl _) (dd at_13) (fun _ _ => ⟨rfl, e14, (by decide : 0 + 0 ≤ _), (by decide : 0 + 0 ≤ _)⟩)
    dsimp only [Pt.U, Pt.locs, Pt.cells, Pt.slots, Q_rm2] at X15 l15 y15 z15 st15 hQ15
    subst l15 y15 z15
    rw [show (fExt st_REPLY st_NOTE) = (1 : Int32) from (by unfold fExt; rw [if_neg (Ne.symm ne_st_NOTE_st_REPLY)]; try decide)] at hQ15
    obtain ⟨rfl, N15q, e15⟩ := hQ15
    have N15 := Fr.app N14 N15q
    refine Gw.tr st15 ?_
    refine Gw.istoreN 17 #[.val (.int p0), .val (.int (3 : Int32)), .val (.ref st_REPLY), .val (.int (1 : Int32)), .unset, .unset] X15 hx (dd at_16) rfl rfl ?_
    refine Gw.aloadN 18 X15 hx (dd at_17) rfl rfl rfl ?_
    obtain ⟨cq16, kq16, q16a, q16b, q16c⟩ := isOf hZ e15 E_st_REPLY
    obtain ⟨_, _, ⟨T16, L16, k16, n16⟩, -, X16, ⟨Lc16, hQ16, l16, y16, z16⟩, st16⟩ := X15.virtualBack hx (y := ym5) (z := ym5) hown (mvT hZ (ww hw 15 rfl)) (mvT hZ (ww hw 16 rfl)) (notFace_of_selects (args := #[]) (mvT hZ (ww hw 18 rfl))) (mvT hZ (ww hw 18 rfl)) (mvT hZ (ww hw 17 rfl)) (by decide) (backOf (W := 0) (rm3 l Z av0 hw [] st_REPLY pa_REPLY h0 n0 Z0 F_korrespondanseparttype_st_REPLY) hZ (ww hw 19 rfl) (ww hw 6 rfl) (by decide) (by decide)) q16a q16c (g := (mkF m 18 #[.val (.int p0), .val (.int (3 : Int32)), .val (.ref st_REPLY), .val (.int (1 : Int32)), .unset, .unset] [(.ref st_REPLY)])) rfl (by rw [hml]; rfl) (Steps.refl _) (argsL := []) (rest := []) (lenOf pd_5 rfl) rfl (Nat.le_refl _) (dd at_18) (fun _ _ => ⟨rfl, e15, (by decide : 0 + 0 ≤ _), (by decide : 0 + 0 ≤ _)⟩)
    dsimp only [Pt.U, Pt.locs, Pt.cells, Pt.slots, Q_rm3] at X16 l16 y16 z16 st16 hQ16
    subst l16 y16 z16
    rw [show (fKor st_REPLY pa_REPLY) = pa_REPLY from (by unfold fKor; rfl)] at hQ16
    obtain ⟨rfl, N16q, e16⟩ := hQ16
    have N16 := Fr.app N15 N16q
    refine Gw.tr st16 ?_
    refine Gw.astore 23 #[.val (.int p0), .val (.int (3 : Int32)), .val (.ref st_REPLY), .val (.int (1 : Int32)), .val (.ref pa_REPLY), .unset] X16 hx (dd at_21) rfl rfl rfl ?_
    show Gw p e below s _ _ _ (T16.setTop (mkF m 23 #[.val (.int p0), .val (.int (3 : Int32)), .val (.ref st_REPLY), .val (.int (1 : Int32)), .val (.ref pa_REPLY), .unset] []))
    obtain ⟨la17, T17, h17, k17, lb17, kc17, X17, e17, E17, hS17, hk17, hZ, hown, A117, F117, F217, V17, -, -, -, -, -, st17⟩ := ldcSVd (s := s) (vm0 := s.vm) X16 hx hZ hown (ww hw 22 rfl) (own_atoms hw) e16 (k0 := 0) ((State.WarmedH.refl s).since 0) (Nat.zero_le _) (by rw [hh, ← hn0]; exact N16) (by rw [hUZ]; exact fun _ _ q => q) (Ts := []) (by rw [hUZ]; exact IB.start) (fun q => nomatch q) hch hcw (vs := [(.int (73 : Int32)), (.int (110 : Int32)), (.int (116 : Int32)), (.int (101 : Int32)), (.int (114 : Int32)), (.int (110 : Int32)), (.int (32 : Int32)), (.int (109 : Int32)), (.int (111 : Int32)), (.int (116 : Int32)), (.int (116 : Int32)), (.int (97 : Int32)), (.int (107 : Int32)), (.int (101 : Int32)), (.int (114 : Int32))]) (z := (15 : Int32)) ⟨by decide, by decide⟩ (by decide) (by decide) (g := (mkF m 23 #[.val (.int p0), .val (.int (3 : Int32)), .val (.ref st_REPLY), .val (.int (1 : Int32)), .val (.ref pa_REPLY), .unset] [])) rfl (dd at_23) (n := 60) (by decide) (by decide) (by decide) (by decide)
    have f17_S_st_REQUEST := Sta.ext E17 S_st_REQUEST
    have f17_S_st_ADDITION := Sta.ext E17 S_st_ADDITION
    have f17_S_st_NOTE := Sta.ext E17 S_st_NOTE
    have f17_S_st_REPLY := Sta.ext E17 S_st_REPLY
    have f17_E_st_REQUEST := Exa.ext E17 E_st_REQUEST
    have f17_E_st_ADDITION := Exa.ext E17 E_st_ADDITION
    have f17_E_st_NOTE := Exa.ext E17 E_st_NOTE
    have f17_E_st_REPLY := Exa.ext E17 E_st_REPLY
    have f17_F_korrespondanseparttype_st_REQUEST := Fld.ext E17 F_korrespondanseparttype_st_REQUEST
    have f17_F_korrespondanseparttype_st_ADDITION := Fld.ext E17 F_korrespondanseparttype_st_ADDITION
    have f17_F_korrespondanseparttype_st_NOTE := Fld.ext E17 F_korrespondanseparttype_st_NOTE
    have f17_F_korrespondanseparttype_st_REPLY := Fld.ext E17 F_korrespondanseparttype_st_REPLY
    have f17_E_pa_REQUEST := Exa.ext E17 E_pa_REQUEST
    have f17_F_coder_pa_REQUEST := Fld.ext E17 F_coder_pa_REQUEST
    have f17_F_value_pa_REQUEST := Fld.ext E17 F_value_pa_REQUEST
    have f17_V_pv_REQUEST := Arv.ext V_pv_REQUEST E17
    have f17_E_pa_NOTE := Exa.ext E17 E_pa_NOTE
    have f17_F_coder_pa_NOTE := Fld.ext E17 F_coder_pa_NOTE
    have f17_F_value_pa_NOTE := Fld.ext E17 F_value_pa_NOTE
    have f17_V_pv_NOTE := Arv.ext V_pv_NOTE E17
    have f17_E_pa_REPLY := Exa.ext E17 E_pa_REPLY
    have f17_F_coder_pa_REPLY := Fld.ext E17 F_coder_pa_REPLY
    have f17_F_value_pa_REPLY := Fld.ext E17 F_value_pa_REPLY
    have f17_V_pv_REPLY := Arv.ext V_pv_REPLY E17
    have f17_S_cz := Sta.ext E17 S_cz
    have SZ17 := Nat.le_trans Z0 E17.1
    have nb17 : lb17 ≠ pv_REPLY := arv_ne V17 f17_V_pv_REPLY (Or.inl (by decide))
    have ns17 : la17 ≠ pa_REPLY := Fld.ne F217 f17_F_value_pa_REPLY (fun q => nb17 (Value.ref.inj q))
    refine Gw.st st17 ?_
    exact own_reb hS17 (fun _ _ _ q => q) (sg3 k17 (.val (.int p0)) (.val (.ref st_REPLY)) pa_REPLY la17 lb17 pv_REPLY kc17 k_pv_REPLY cz n0 X17 hx hZ hw hby hml hown hret hlk e17 N16 SZ17 A117 f17_E_pa_REPLY F117 f17_F_coder_pa_REPLY F217 f17_F_value_pa_REPLY V17 f17_V_pv_REPLY f17_S_cz hcz ns17 hk17)
theorem own_same {a0 : Array Value} {Z : State} {t u : Term} {a : Addr} (h : (Cond.eq t u).value a0 Z none Z [] = some true) (e : u.eval a0 Z none [] Z = some (.ref a)) : t.eval a0 Z none [] Z = some (.ref a) := by
  simp only [Cond.value, e] at h
  cases ht : t.eval a0 Z none [] Z with
  | none => simp [ht] at h
  | some x => cases x <;> simp [ht] at h ⊢ <;> exact h
set_option maxRecDepth 65536 in
set_option maxHeartbeats 40000000 in
theorem comes_1 {Post : Tables → Env → Array Value → State → Outcome → State → Prop} (hpost : ∀ tb e args s v u, (limb_1_1.after args s (.returned v) u = true ∧ limb_1_2.after args s (.returned v) u = true ∧ True) → ReturnedEndW s (.returned v) u (Jvm.fieldLocs frame_1_writes args s ++ Jvm.arrayLocs frame_1_arrays args s ++ Jvm.staticLocs frame_1_statics s) 8 1088 → Post tb e args s (.returned v) u) :
    ArmFor flags0 classFile x code maxLocals ret World_1 tables_1 room_1 Calls_1 rest_1 Pre_1 Post := by
  intro l hfl _ _ p e ha hc hk s m args below hf hA hF happ hP
  obtain ⟨hcalls, hrest, hpre⟩ := hP
  obtain ⟨-, -, -, hnamed, -, -, -, hat⟩ := (Spec.applies_iff hf).mp happ
  obtain ⟨hg, hn⟩ := and_e (Cond.before_iff.mp (show (Jvm.Cond.and given_1 narrow_1).before args s = true from hpre))
  obtain ⟨hcnt, hg0⟩ := and_e hg
  have ha0 := hg0
  obtain ⟨w0, rfl⟩ : ∃ w0 : Value, args = #[w0] := by
    have hs : args.size = 1 := by simpa [Cond.value, given_1] using hcnt
    obtain ⟨L⟩ := args
    match L, hs with
    | [w0], _ => exact ⟨w0, rfl⟩
  have hw := fun d (hd : d ∈ tables_1) => atoms_spec (ws := Jvm.Cond.code x code maxLocals ret :: tables_1) hat d (List.mem_cons_of_mem _ hd)
  have hfit : Fit s := fun {y c} hc i hi => by
    obtain ⟨ha, rfl⟩ := Array.getElem?_eq_some_iff.mp hc
    have q := List.all_eq_true.mp ((Array.all_eq_true_iff_forall_mem.mp hF) _ (Array.getElem_mem ha)) i (List.mem_range.mpr hi)
    simpa [Array.getElem?_eq_getElem hi] using q
  obtain ⟨hsets, hown0⟩ := atoms_of _ (rest_1_c_eq ▸ (show rest_1_c.before _ s = true from hrest))
  obtain ⟨i0, ei0⟩ := is_v ha0
  obtain rfl : w0 = (.int i0) := Option.some.inj ei0
  obtain ⟨nn0, nr0⟩ := and_e hn
  obtain ⟨nn1, nr1⟩ := and_e nr0
  obtain ⟨nn2, nr2⟩ := and_e nr1
  obtain ⟨nn3, nr3⟩ := and_e nr2
  obtain ⟨nn4, nr4⟩ := and_e nr3
  obtain ⟨nn5, nr5⟩ := and_e nr4
  obtain ⟨nn6, nr6⟩ := and_e nr5
  obtain ⟨nn7, nr7⟩ := and_e nr6
  obtain ⟨nn8, nr8⟩ := and_e nr7
  obtain ⟨nn9, nr9⟩ := and_e nr8
  obtain ⟨nn10, nr10⟩ := and_e nr9
  obtain ⟨nn11, nr11⟩ := and_e nr10
  obtain ⟨nn12, nr12⟩ := and_e nr11
  obtain ⟨nn13, nr13⟩ := and_e nr12
  obtain ⟨nn14, nr14⟩ := and_e nr13
  obtain ⟨nn15, nr15⟩ := and_e nr14
  obtain ⟨nn16, nr16⟩ := and_e nr15
  obtain ⟨nn17, nr17⟩ := and_e nr16
  obtain ⟨nn18, nr18⟩ := and_e nr17
  obtain ⟨nn19, nr19⟩ := and_e nr18
  obtain ⟨nn20, nr20⟩ := and_e nr19
  obtain ⟨nn21, nr21⟩ := and_e nr20
  obtain ⟨nn22, nr22⟩ := and_e nr21
  obtain ⟨nn23, nr23⟩ := and_e nr22
  obtain ⟨nn24, nr24⟩ := and_e nr23
  obtain ⟨nn25, nr25⟩ := and_e nr24
  obtain ⟨nn26, nr26⟩ := and_e nr25
  obtain ⟨nn27, nr27⟩ := and_e nr26
  obtain ⟨nn28, nr28⟩ := and_e nr27
  obtain ⟨nn29, nr29⟩ := and_e nr28
  obtain ⟨nn30, nr30⟩ := and_e nr29
  obtain ⟨nn31, nr31⟩ := and_e nr30
  obtain ⟨nn32, nr32⟩ := and_e nr31
  obtain ⟨nn33, nr33⟩ := and_e nr32
  obtain ⟨nn34, nr34⟩ := and_e nr33
  obtain ⟨nn35, nr35⟩ := and_e nr34
  obtain ⟨nn36, nr36⟩ := and_e nr35
  obtain ⟨nn37, nr37⟩ := and_e nr36
  obtain ⟨nn38, nr38⟩ := and_e nr37
  obtain ⟨nn39, nr39⟩ := and_e nr38
  obtain ⟨nn40, nr40⟩ := and_e nr39
  obtain ⟨nn41, nr41⟩ := and_e nr40
  obtain ⟨nn42, nr42⟩ := and_e nr41
  obtain ⟨nn43, nr43⟩ := and_e nr42
  obtain ⟨nn44, nr44⟩ := and_e nr43
  obtain ⟨nn45, nr45⟩ := and_e nr44
  obtain ⟨nn46, nr46⟩ := and_e nr45
  obtain ⟨nn47, nr47⟩ := and_e nr46
  obtain ⟨nn48, nr48⟩ := and_e nr47
  obtain ⟨nn49, nr49⟩ := and_e nr48
  obtain ⟨nn50, nr50⟩ := and_e nr49
  have nn51 := nr50
  obtain ⟨st_REQUEST, ev_REQUEST⟩ := exa_v nn0
  have S_REQUEST : Sta s s.heap "com/example/arkivsjekk/arkivsjekk/SampleArchive$Role" "REQUEST" "Lcom/example/arkivsjekk/arkivsjekk/SampleArchive$Role;" (.ref st_REQUEST) := Sta.start ev_REQUEST (Or.inr ⟨(ww hw 6 rfl), (ww hw 7 rfl)⟩)
  have E_REQUEST : Exa s s.heap st_REQUEST "com/example/arkivsjekk/arkivsjekk/SampleArchive$Role" := Exa.start ev_REQUEST nn0
  obtain ⟨st_NOTE, ev_NOTE⟩ := exa_v nn1
  have S_NOTE : Sta s s.heap "com/example/arkivsjekk/arkivsjekk/SampleArchive$Role" "NOTE" "Lcom/example/arkivsjekk/arkivsjekk/SampleArchive$Role;" (.ref st_NOTE) := Sta.start ev_NOTE (Or.inr ⟨(ww hw 6 rfl), (ww hw 14 rfl)⟩)
  have E_NOTE : Exa s s.heap st_NOTE "com/example/arkivsjekk/arkivsjekk/SampleArchive$Role" := Exa.start ev_NOTE nn1
  obtain ⟨st_REPLY, ev_REPLY⟩ := exa_v nn8
  have S_REPLY : Sta s s.heap "com/example/arkivsjekk/arkivsjekk/SampleArchive$Role" "REPLY" "Lcom/example/arkivsjekk/arkivsjekk/SampleArchive$Role;" (.ref st_REPLY) := Sta.start ev_REPLY (Or.inr ⟨(ww hw 6 rfl), (ww hw 48 rfl)⟩)
  have E_REPLY : Exa s s.heap st_REPLY "com/example/arkivsjekk/arkivsjekk/SampleArchive$Role" := Exa.start ev_REPLY nn8
  obtain ⟨st_ADDITION, ev_ADDITION⟩ := exa_v nn18
  have S_ADDITION : Sta s s.heap "com/example/arkivsjekk/arkivsjekk/SampleArchive$Role" "ADDITION" "Lcom/example/arkivsjekk/arkivsjekk/SampleArchive$Role;" (.ref st_ADDITION) := Sta.start ev_ADDITION (Or.inr ⟨(ww hw 6 rfl), (ww hw 51 rfl)⟩)
  have E_ADDITION : Exa s s.heap st_ADDITION "com/example/arkivsjekk/arkivsjekk/SampleArchive$Role" := Exa.start ev_ADDITION nn18
  have F_ordinal_REQUEST := own_fldI ev_REQUEST nn2
  have F_ordinal_NOTE := own_fldI ev_NOTE nn3
  have F_ordinal_REPLY := own_fldI ev_REPLY nn9
  have F_ordinal_ADDITION := own_fldI ev_ADDITION nn19
  have ne_REQUEST_NOTE : st_REQUEST ≠ st_NOTE := Fld.ne F_ordinal_REQUEST F_ordinal_NOTE (by decide)
  have ne_REQUEST_REPLY : st_REQUEST ≠ st_REPLY := Fld.ne F_ordinal_REQUEST F_ordinal_REPLY (by decide)
  have ne_REQUEST_ADDITION : st_REQUEST ≠ st_ADDITION := Fld.ne F_ordinal_REQUEST F_ordinal_ADDITION (by decide)
  have ne_NOTE_REPLY : st_NOTE ≠ st_REPLY := Fld.ne F_ordinal_NOTE F_ordinal_REPLY (by decide)
  have ne_NOTE_ADDITION : st_NOTE ≠ st_ADDITION := Fld.ne F_ordinal_NOTE F_ordinal_ADDITION (by decide)
  have ne_REPLY_ADDITION : st_REPLY ≠ st_ADDITION := Fld.ne F_ordinal_REPLY F_ordinal_ADDITION (by decide)
  obtain ⟨pa_REQUEST, ep_REQUEST⟩ := exa_v nn4
  have K_REQUEST : Fld s s.heap st_REQUEST "com/example/arkivsjekk/arkivsjekk/SampleArchive$Role" "korrespondanseparttype" "Ljava/lang/String;" (.ref pa_REQUEST) := Fld.start ((fld_at ev_REQUEST).symm.trans ep_REQUEST)
  have EP_REQUEST : Exa s s.heap pa_REQUEST "java/lang/String" := Exa.start ep_REQUEST nn4
  have C_REQUEST := own_fldI ep_REQUEST nn5
  obtain ⟨pv_REQUEST, ea_REQUEST⟩ := arr_v nn6
  have W_REQUEST : Fld s s.heap pa_REQUEST "java/lang/String" "value" "[B" (.ref pv_REQUEST) := Fld.start ((fld_at ep_REQUEST).symm.trans ea_REQUEST)
  obtain ⟨cl_REQUEST, A_REQUEST⟩ := Arr.start ea_REQUEST nn6
  have l_REQUEST := own_len ea_REQUEST A_REQUEST nn7
  have V_REQUEST : Arv s s.heap pv_REQUEST cl_REQUEST.cls .byte (8 : Int32) [(.int (65 : Int32)), (.int (118 : Int32)), (.int (115 : Int32)), (.int (101 : Int32)), (.int (110 : Int32)), (.int (100 : Int32)), (.int (101 : Int32)), (.int (114 : Int32))] (.int (0 : Int32)) := Arv.start hfit A_REQUEST l_REQUEST.1 l_REQUEST.2 (by decide) rfl ⟨own_el ea_REQUEST A_REQUEST nn21, own_el ea_REQUEST A_REQUEST nn22, own_el ea_REQUEST A_REQUEST nn23, own_el ea_REQUEST A_REQUEST nn24, own_el ea_REQUEST A_REQUEST nn25, own_el ea_REQUEST A_REQUEST nn26, own_el ea_REQUEST A_REQUEST nn27, own_el ea_REQUEST A_REQUEST nn28, trivial⟩
  obtain ⟨pa_NOTE, ep_NOTE⟩ := exa_v nn14
  have K_NOTE : Fld s s.heap st_NOTE "com/example/arkivsjekk/arkivsjekk/SampleArchive$Role" "korrespondanseparttype" "Ljava/lang/String;" (.ref pa_NOTE) := Fld.start ((fld_at ev_NOTE).symm.trans ep_NOTE)
  have EP_NOTE : Exa s s.heap pa_NOTE "java/lang/String" := Exa.start ep_NOTE nn14
  have C_NOTE := own_fldI ep_NOTE nn15
  obtain ⟨pv_NOTE, ea_NOTE⟩ := arr_v nn16
  have W_NOTE : Fld s s.heap pa_NOTE "java/lang/String" "value" "[B" (.ref pv_NOTE) := Fld.start ((fld_at ep_NOTE).symm.trans ea_NOTE)
  obtain ⟨cl_NOTE, A_NOTE⟩ := Arr.start ea_NOTE nn16
  have l_NOTE := own_len ea_NOTE A_NOTE nn17
  have V_NOTE : Arv s s.heap pv_NOTE cl_NOTE.cls .byte (15 : Int32) [(.int (73 : Int32)), (.int (110 : Int32)), (.int (116 : Int32)), (.int (101 : Int32)), (.int (114 : Int32)), (.int (110 : Int32)), (.int (32 : Int32)), (.int (109 : Int32)), (.int (111 : Int32)), (.int (116 : Int32)), (.int (116 : Int32)), (.int (97 : Int32)), (.int (107 : Int32)), (.int (101 : Int32)), (.int (114 : Int32))] (.int (0 : Int32)) := Arv.start hfit A_NOTE l_NOTE.1 l_NOTE.2 (by decide) rfl ⟨own_el ea_NOTE A_NOTE nn37, own_el ea_NOTE A_NOTE nn38, own_el ea_NOTE A_NOTE nn39, own_el ea_NOTE A_NOTE nn40, own_el ea_NOTE A_NOTE nn41, own_el ea_NOTE A_NOTE nn42, own_el ea_NOTE A_NOTE nn43, own_el ea_NOTE A_NOTE nn44, own_el ea_NOTE A_NOTE nn45, own_el ea_NOTE A_NOTE nn46, own_el ea_NOTE A_NOTE nn47, own_el ea_NOTE A_NOTE nn48, own_el ea_NOTE A_NOTE nn49, own_el ea_NOTE A_NOTE nn50, own_el ea_NOTE A_NOTE nn51, trivial⟩
  obtain ⟨pa_REPLY, ep_REPLY⟩ := exa_v nn10
  have K_REPLY : Fld s s.heap st_REPLY "com/example/arkivsjekk/arkivsjekk/SampleArchive$Role" "korrespondanseparttype" "Ljava/lang/String;" (.ref pa_REPLY) := Fld.start ((fld_at ev_REPLY).symm.trans ep_REPLY)
  have EP_REPLY : Exa s s.heap pa_REPLY "java/lang/String" := Exa.start ep_REPLY nn10
  have C_REPLY := own_fldI ep_REPLY nn11
  obtain ⟨pv_REPLY, ea_REPLY⟩ := arr_v nn12
  have W_REPLY : Fld s s.heap pa_REPLY "java/lang/String" "value" "[B" (.ref pv_REPLY) := Fld.start ((fld_at ep_REPLY).symm.trans ea_REPLY)
  obtain ⟨cl_REPLY, A_REPLY⟩ := Arr.start ea_REPLY nn12
  have l_REPLY := own_len ea_REPLY A_REPLY nn13
  have V_REPLY : Arv s s.heap pv_REPLY cl_REPLY.cls .byte (8 : Int32) [(.int (77 : Int32)), (.int (111 : Int32)), (.int (116 : Int32)), (.int (116 : Int32)), (.int (97 : Int32)), (.int (107 : Int32)), (.int (101 : Int32)), (.int (114 : Int32))] (.int (0 : Int32)) := Arv.start hfit A_REPLY l_REPLY.1 l_REPLY.2 (by decide) rfl ⟨own_el ea_REPLY A_REPLY nn29, own_el ea_REPLY A_REPLY nn30, own_el ea_REPLY A_REPLY nn31, own_el ea_REPLY A_REPLY nn32, own_el ea_REPLY A_REPLY nn33, own_el ea_REPLY A_REPLY nn34, own_el ea_REPLY A_REPLY nn35, own_el ea_REPLY A_REPLY nn36, trivial⟩
  have K_ADDITION : Fld s s.heap st_ADDITION "com/example/arkivsjekk/arkivsjekk/SampleArchive$Role" "korrespondanseparttype" "Ljava/lang/String;" (.ref pa_REQUEST) := Fld.start ((fld_at ev_ADDITION).symm.trans (own_same nn20 ep_REQUEST))
  have n5 := not_v (Cond.before_iff.mp (hsets _ (List.mem_of_getElem? (i := 2) rfl)))
  obtain ⟨cz, ecz⟩ := is_v (Cond.before_iff.mp (hsets _ (List.mem_of_getElem? (i := 1) rfl)))
  have S_cz : Sta s s.heap "java/lang/String" "COMPACT_STRINGS" "Z" (.int cz) := Sta.start ecz (Or.inl (hsets _ (List.mem_of_getElem? (i := 0) rfl)))
  have hcz : ¬ (cz = (0 : Int32)) := gotF (Cond.eq_ints ecz (Term.int_eval (0))) n5
  have hch : Jvm.Lit.constHeld s "com/example/arkivsjekk/arkivsjekk/RoleExternalPinLaw" 37 := hcalls.1 ("com/example/arkivsjekk/arkivsjekk/RoleExternalPinLaw", 37) (List.mem_singleton.mpr rfl)
  have hcw : Jvm.Lit.compactW.before _ s = true := hsets _ (List.mem_of_getElem? (i := 2) rfl)
  obtain ⟨n, o, h1, h2, h3, _, L, rfl, ⟨rfl, N⟩, hq⟩ := rm0 l s _ hw tables_1 i0 st_REQUEST st_ADDITION st_NOTE st_REPLY pa_REQUEST pa_NOTE pa_REPLY pv_REQUEST cl_REQUEST.cls pv_NOTE cl_NOTE.cls pv_REPLY cl_REPLY.cls cz s.heap s.heap.size (Nat.le_refl _) S_REQUEST S_ADDITION S_NOTE S_REPLY E_REQUEST E_ADDITION E_NOTE E_REPLY (Ne.symm ne_REQUEST_NOTE) ne_NOTE_ADDITION ne_NOTE_REPLY K_REQUEST K_ADDITION K_NOTE K_REPLY EP_REQUEST C_REQUEST W_REQUEST V_REQUEST EP_NOTE C_NOTE W_NOTE V_NOTE EP_REPLY C_REPLY W_REPLY V_REPLY S_cz hcz rfl hch hcw p e ha hc hk s m _ below hf ((Spec.applies_iff_loose hf).mp happ).1 ⟨rfl, State.Warmed39.refl s, rfl, rfl⟩ trivial
  refine ⟨n, _, h1, h2, h3, hpost _ _ _ _ _ _ ⟨Cond.after_iff.mpr rfl, Cond.after_iff.mpr (eq_i res_at (Term.int_eval (1)) rfl), trivial⟩ ⟨hq.1, hq.2.1, hq.2.2.1, (hq.2.2.2.sift fun y hy => Or.inr (N y hy)).mono (by decide) (by decide)⟩⟩
theorem main_1_1 : Claimed_1_1 := comes_1 fun _ _ _ _ _ _ h hF => ⟨h.1, hF⟩
theorem main_1_2 : Claimed_1_2 := comes_1 fun _ _ _ _ _ _ h hF => ⟨h.2.1, hF⟩
end Jvm.Pilot.@@N@@
namespace Jvm.Pilot.@@N@@
open Jvm Jvm.ClassFile Sem Op Lib Jvm.Free Jvm.Stand Jvm.Pilot.@@N@@.Jvm.D
/-! MADE BY PROGRAM (witnessworld.py) out of the Statement's table words and the real class files: 18 classes; the members and pool entries that the words name. The judged class is class 1, her method 3. -/
namespace start1
open Jvm.ClassFile
def u (s : String) : CpInfo := .utf8 (stringToUtf16 s)
/-- a pool by its gaps: so many unusable entries, then the entry; so many at the end -/
def gap : Nat → List CpInfo → List CpInfo
  | 0, r => r
  | n + 1, r => .unusable :: gap n r
def poolList (es : List (Nat × CpInfo)) (last : Nat) : List CpInfo := es.foldr (fun e r => gap e.1 (e.2 :: r)) (gap last [])
def pool (es : List (Nat × CpInfo)) (last : Nat) : Array CpInfo := ⟨poolList es last⟩
def fileOf (pool : Array CpInfo) (this : Nat) (attrs : Array Attribute := #[]) (ms : Array MethodInfo := #[]) (fl : Nat := 33) (sup : Nat := 0) (ifs : Array Nat := #[]) (fds : Array FieldInfo := #[]) : ClassFile where
  minorVersion := 0
  majorVersion := 65
  constantPool := pool
  accessFlags := fl
  thisClass := this
  superClass := sup
  interfaces := ifs
  fields := fds
  methods := ms
  attributes := attrs
def plain (name : String) (sup : Option ClassId) : Class where
  name := name
  kind := .ordinary
  loader := none
  accessFlags := 33
  super := sup
  interfaces := #[]
  cf := none
  fields := #[]
  methods := #[]
  instanceTypes := #[]
  staticTypes := #[]
  resolved := #[]
  callSites := []
  init := .initialized
  statics := none
  mirror := none

def pool0 : Array CpInfo := pool [(5, u "<init>"), (0, u "()V"), (1, .class_ 10), (1, u "java/lang/Object")] 113

def k0m0 : Method := { name := "<init>", desc := "()V", sig := { parameters := [], returnType := none }, accessFlags := 1, code := none }
/-- java/lang/Object -/
def k0 : Class := { plain "java/lang/Object" none with
  accessFlags := 33
  interfaces := #[]
  cf := some (fileOf pool0 8 #[] #[{ accessFlags := 1, nameIndex := 5, descriptorIndex := 6, attributes := #[] }] 33 0 #[] #[])
  fields := #[]
  methods := #[k0m0]
  instanceTypes := #[]
  staticTypes := #[]
  resolved := Array.replicate 124 none
  statics := none }

def pool1 : Array CpInfo := pool [(2, .class_ 4), (1, u "java/lang/Object"), (0, u "<init>"), (0, u "()V"), (0, .fieldref 8 9), (0, .class_ 10), (0, .nameAndType 11 12), (0, u "com/example/arkivsjekk/arkivsjekk/SampleArchive$Role"), (0, u "REQUEST"), (0, u "Lcom/example/arkivsjekk/arkivsjekk/SampleArchive$Role;"), (0, .fieldref 8 14), (0, .nameAndType 15 12), (0, u "ADDITION"), (0, .fieldref 8 17), (0, .nameAndType 18 12), (0, u "NOTE"), (0, .fieldref 8 20), (0, .nameAndType 21 12), (0, u "REPLY"), (0, .integer 2147483647), (0, .methodref 24 25), (0, .class_ 26), (0, .nameAndType 27 28), (0, u "com/example/arkivsjekk/arkivsjekk/RoleExternalPinLaw"), (0, u "roleFor"), (0, u "(I)Lcom/example/arkivsjekk/arkivsjekk/SampleArchive$Role;"), (0, .methodref 8 30), (0, .nameAndType 31 32), (0, u "external"), (0, u "()Z"), (0, .methodref 8 34), (0, .nameAndType 35 36), (0, u "korrespondanseparttype"), (0, u "()Ljava/lang/String;"), (0, .string 38), (0, u "Intern mottaker"), (0, .methodref 40 41), (0, .class_ 42), (0, .nameAndType 43 44), (0, u "java/lang/String"), (0, u "equals"), (0, u "(Ljava/lang/Object;)Z"), (0, .methodref 24 46), (0, .nameAndType 47 48), (0, u "expected"), (0, u "(I)Z"), (3, u "law")] 6

def k1m0 : Method := { name := "<init>", desc := "()V", sig := { parameters := [], returnType := none }, accessFlags := 2, code := none }
def k1c1 : Code := { maxStack := 2, maxLocals := 1, code := method_2_code, exceptionTable := #[], attributes := #[] }
def k1m1 : Method := { name := "roleFor", desc := "(I)Lcom/example/arkivsjekk/arkivsjekk/SampleArchive$Role;", sig := { parameters := [.int], returnType := some (.object "com/example/arkivsjekk/arkivsjekk/SampleArchive$Role") }, accessFlags := 10, code := some k1c1 }
def k1c2 : Code := { maxStack := 2, maxLocals := 1, code := method_3_code, exceptionTable := #[], attributes := #[] }
def k1m2 : Method := { name := "expected", desc := "(I)Z", sig := { parameters := [.int], returnType := some .boolean }, accessFlags := 10, code := some k1c2 }
def k1c3 : Code := { maxStack := 2, maxLocals := 6, code := code, exceptionTable := #[], attributes := #[] }
def k1m3 : Method := { name := "law", desc := "(I)Z", sig := { parameters := [.int], returnType := some .boolean }, accessFlags := 9, code := some k1c3 }
/-- com/example/arkivsjekk/arkivsjekk/RoleExternalPinLaw -/
def k1 : Class := { plain "com/example/arkivsjekk/arkivsjekk/RoleExternalPinLaw" (some 0) with
  accessFlags := 49
  interfaces := #[]
  cf := some (fileOf pool1 24 #[] #[{ accessFlags := 2, nameIndex := 5, descriptorIndex := 6, attributes := #[] }, { accessFlags := 10, nameIndex := 27, descriptorIndex := 28, attributes := #[] }, { accessFlags := 10, nameIndex := 47, descriptorIndex := 48, attributes := #[] }, { accessFlags := 9, nameIndex := 52, descriptorIndex := 48, attributes := #[] }] 49 2 #[] #[])
  fields := #[]
  methods := #[k1m0, k1m1, k1m2, k1m3]
  instanceTypes := #[]
  staticTypes := #[]
  resolved := Array.replicate 59 none
  statics := none }

def pool2 : Array CpInfo := pool [(1, .class_ 2), (0, u "java/lang/constant/Constable"), (0, .class_ 4), (0, u "java/lang/Object")] 6

/-- java/lang/constant/Constable -/
def k2 : Class := { plain "java/lang/constant/Constable" (some 0) with
  accessFlags := 1537
  interfaces := #[]
  cf := some (fileOf pool2 1 #[] #[] 1537 3 #[] #[])
  fields := #[]
  methods := #[]
  instanceTypes := #[]
  staticTypes := #[]
  resolved := Array.replicate 11 none
  statics := none }

def pool3 : Array CpInfo := pool [(1, .class_ 2), (0, u "java/lang/Comparable"), (0, .class_ 4), (0, u "java/lang/Object")] 7

/-- java/lang/Comparable -/
def k3 : Class := { plain "java/lang/Comparable" (some 0) with
  accessFlags := 1537
  interfaces := #[]
  cf := some (fileOf pool3 1 #[] #[] 1537 3 #[] #[])
  fields := #[]
  methods := #[]
  instanceTypes := #[]
  staticTypes := #[]
  resolved := Array.replicate 12 none
  statics := none }

def pool4 : Array CpInfo := pool [(1, .class_ 2), (0, u "java/io/Serializable"), (0, .class_ 4), (0, u "java/lang/Object")] 2

/-- java/io/Serializable -/
def k4 : Class := { plain "java/io/Serializable" (some 0) with
  accessFlags := 1537
  interfaces := #[]
  cf := some (fileOf pool4 1 #[] #[] 1537 3 #[] #[])
  fields := #[]
  methods := #[]
  instanceTypes := #[]
  staticTypes := #[]
  resolved := Array.replicate 7 none
  statics := none }

def pool5 : Array CpInfo := pool [(2, .class_ 4), (1, u "java/lang/Enum"), (0, u "name"), (0, u "Ljava/lang/String;"), (2, u "ordinal"), (0, u "I"), (1, .class_ 14), (1, u "java/lang/Object"), (4, u "hash"), (86, .class_ 108), (1, u "java/lang/Enum$EnumDesc"), (2, .class_ 112), (0, u "java/lang/constant/Constable"), (0, .class_ 114), (0, u "java/lang/Comparable"), (0, .class_ 116), (0, u "java/io/Serializable")] 87

/-- java/lang/Enum -/
def k5 : Class := { plain "java/lang/Enum" (some 0) with
  accessFlags := 1057
  interfaces := #[2, 3, 4]
  cf := some (fileOf pool5 2 #[.nestMembers #[106]] #[] 1057 12 #[111, 113, 115] #[{ accessFlags := 18, nameIndex := 5, descriptorIndex := 6, attributes := #[] }, { accessFlags := 18, nameIndex := 9, descriptorIndex := 10, attributes := #[] }, { accessFlags := 2, nameIndex := 19, descriptorIndex := 10, attributes := #[] }])
  fields := #[{ name := "name", type := (.object "java/lang/String"), accessFlags := 18, slot := 0, constantValue := 0 }, { name := "ordinal", type := .int, accessFlags := 18, slot := 1, constantValue := 0 }, { name := "hash", type := .int, accessFlags := 2, slot := 2, constantValue := 0 }]
  methods := #[]
  instanceTypes := #[(.object "java/lang/String"), .int, .int]
  staticTypes := #[]
  resolved := Array.replicate 204 none
  statics := none }

def pool6 : Array CpInfo := pool [(1, .class_ 2), (0, u "com/example/arkivsjekk/arkivsjekk/SampleArchive$Role"), (2, u "REQUEST"), (0, u "Lcom/example/arkivsjekk/arkivsjekk/SampleArchive$Role;"), (2, u "ADDITION"), (0, .fieldref 1 11), (0, .nameAndType 12 6), (0, u "NOTE"), (2, u "REPLY"), (2, u "$VALUES"), (0, u "[Lcom/example/arkivsjekk/arkivsjekk/SampleArchive$Role;"), (6, .class_ 28), (1, u "java/lang/Enum"), (8, u "journalposttype"), (0, u "Ljava/lang/String;"), (0, .fieldref 1 40), (0, .nameAndType 41 38), (0, u "korrespondanseparttype"), (2, u "dokumenttype"), (2, u "heading"), (42, u "()Ljava/lang/String;"), (0, u "external"), (0, u "()Z"), (7, .class_ 101), (0, u "com/example/arkivsjekk/arkivsjekk/SampleArchive")] 2

def k6c0 : Code := { maxStack := 1, maxLocals := 1, code := prog_43_method_5_code, exceptionTable := #[], attributes := #[] }
def k6m0 : Method := { name := "korrespondanseparttype", desc := "()Ljava/lang/String;", sig := { parameters := [], returnType := some (.object "java/lang/String") }, accessFlags := 0, code := some k6c0 }
def k6c1 : Code := { maxStack := 2, maxLocals := 1, code := prog_43_method_8_code, exceptionTable := #[], attributes := #[] }
def k6m1 : Method := { name := "external", desc := "()Z", sig := { parameters := [], returnType := some .boolean }, accessFlags := 0, code := some k6c1 }
/-- com/example/arkivsjekk/arkivsjekk/SampleArchive$Role -/
def k6 : Class := { plain "com/example/arkivsjekk/arkivsjekk/SampleArchive$Role" (some 5) with
  accessFlags := 16432
  interfaces := #[]
  cf := some (fileOf pool6 1 #[.nestHost 100] #[{ accessFlags := 0, nameIndex := 41, descriptorIndex := 90, attributes := #[] }, { accessFlags := 0, nameIndex := 91, descriptorIndex := 92, attributes := #[] }] 16432 26 #[] #[{ accessFlags := 16409, nameIndex := 5, descriptorIndex := 6, attributes := #[] }, { accessFlags := 16409, nameIndex := 9, descriptorIndex := 6, attributes := #[] }, { accessFlags := 16409, nameIndex := 12, descriptorIndex := 6, attributes := #[] }, { accessFlags := 16409, nameIndex := 15, descriptorIndex := 6, attributes := #[] }, { accessFlags := 18, nameIndex := 37, descriptorIndex := 38, attributes := #[] }, { accessFlags := 18, nameIndex := 41, descriptorIndex := 38, attributes := #[] }, { accessFlags := 18, nameIndex := 44, descriptorIndex := 38, attributes := #[] }, { accessFlags := 18, nameIndex := 47, descriptorIndex := 38, attributes := #[] }, { accessFlags := 4122, nameIndex := 18, descriptorIndex := 19, attributes := #[] }])
  fields := #[{ name := "REQUEST", type := (.object "com/example/arkivsjekk/arkivsjekk/SampleArchive$Role"), accessFlags := 16409, slot := 0, constantValue := 0 }, { name := "ADDITION", type := (.object "com/example/arkivsjekk/arkivsjekk/SampleArchive$Role"), accessFlags := 16409, slot := 1, constantValue := 0 }, { name := "NOTE", type := (.object "com/example/arkivsjekk/arkivsjekk/SampleArchive$Role"), accessFlags := 16409, slot := 2, constantValue := 0 }, { name := "REPLY", type := (.object "com/example/arkivsjekk/arkivsjekk/SampleArchive$Role"), accessFlags := 16409, slot := 3, constantValue := 0 }, { name := "journalposttype", type := (.object "java/lang/String"), accessFlags := 18, slot := 3, constantValue := 0 }, { name := "korrespondanseparttype", type := (.object "java/lang/String"), accessFlags := 18, slot := 4, constantValue := 0 }, { name := "dokumenttype", type := (.object "java/lang/String"), accessFlags := 18, slot := 5, constantValue := 0 }, { name := "heading", type := (.object "java/lang/String"), accessFlags := 18, slot := 6, constantValue := 0 }, { name := "$VALUES", type := (.array (.object "com/example/arkivsjekk/arkivsjekk/SampleArchive$Role")), accessFlags := 4122, slot := 4, constantValue := 0 }]
  methods := #[k6m0, k6m1]
  instanceTypes := #[(.object "java/lang/String"), .int, .int, (.object "java/lang/String"), (.object "java/lang/String"), (.object "java/lang/String"), (.object "java/lang/String")]
  staticTypes := #[(.object "com/example/arkivsjekk/arkivsjekk/SampleArchive$Role"), (.object "com/example/arkivsjekk/arkivsjekk/SampleArchive$Role"), (.object "com/example/arkivsjekk/arkivsjekk/SampleArchive$Role"), (.object "com/example/arkivsjekk/arkivsjekk/SampleArchive$Role"), (.array (.object "com/example/arkivsjekk/arkivsjekk/SampleArchive$Role"))]
  resolved := Array.replicate 104 none
  statics := some 0 }

def pool7 : Array CpInfo := pool [(2, .class_ 4), (1, u "java/lang/CharSequence"), (42, .class_ 48), (0, u "java/lang/CharSequence$1CodePointIterator"), (10, .class_ 60), (0, u "java/lang/CharSequence$1CharIterator"), (5, .class_ 67), (0, u "java/lang/Object")] 63

/-- java/lang/CharSequence -/
def k7 : Class := { plain "java/lang/CharSequence" (some 0) with
  accessFlags := 1537
  interfaces := #[]
  cf := some (fileOf pool7 2 #[.nestMembers #[47, 59]] #[] 1537 66 #[] #[])
  fields := #[]
  methods := #[]
  instanceTypes := #[]
  staticTypes := #[]
  resolved := Array.replicate 131 none
  statics := none }

def pool8 : Array CpInfo := pool [(1, .class_ 2), (0, u "java/lang/constant/ConstantDesc"), (0, .class_ 4), (0, u "java/lang/Object")] 32

/-- java/lang/constant/ConstantDesc -/
def k8 : Class := { plain "java/lang/constant/ConstantDesc" (some 0) with
  accessFlags := 1537
  interfaces := #[]
  cf := some (fileOf pool8 1 #[] #[] 1537 3 #[] #[])
  fields := #[]
  methods := #[]
  instanceTypes := #[]
  staticTypes := #[]
  resolved := Array.replicate 37 none
  statics := none }

def pool9 : Array CpInfo := pool [(2, .class_ 4), (1, u "java/lang/Object"), (0, u "<init>"), (0, u "()V"), (2, .fieldref 10 11), (0, .class_ 12), (0, .nameAndType 13 14), (0, u "java/lang/String"), (0, u "value"), (0, u "[B"), (0, .fieldref 10 16), (0, .nameAndType 17 18), (0, u "coder"), (0, u "B"), (2, u "hash"), (0, u "I"), (2, u "hashIsZero"), (0, u "Z"), (11, .fieldref 10 39), (0, .nameAndType 40 26), (0, u "COMPACT_STRINGS"), (66, .class_ 109), (1, u "java/lang/StringLatin1"), (431, .methodref 107 542), (0, .nameAndType 543 544), (0, u "equals"), (0, u "([B[B)Z"), (28, u "(Ljava/lang/Object;)Z"), (1, .class_ 576), (0, u "java/lang/CharSequence"), (22, u "CASE_INSENSITIVE_ORDER"), (0, u "Ljava/util/Comparator;"), (500, u "serialPersistentFields"), (0, u "[Ljava/io/ObjectStreamField;"), (0, .class_ 1104), (0, u "java/lang/String$CaseInsensitiveComparator"), (1, .class_ 1107), (0, u "java/io/Serializable"), (0, .class_ 1109), (0, u "java/lang/Comparable"), (0, .class_ 1111), (0, u "java/lang/constant/Constable"), (0, .class_ 1113), (0, u "java/lang/constant/ConstantDesc"), (2, u "serialVersionUID"), (0, u "J"), (3, u "REPL"), (0, u "C"), (2, u "LATIN1"), (1, u "UTF16")] 323

def k9m0 : Method := { name := "<init>", desc := "()V", sig := { parameters := [], returnType := none }, accessFlags := 1, code := none }
def k9c1 : Code := { maxStack := 2, maxLocals := 3, code := jdk_42_method_66_code, exceptionTable := #[], attributes := #[] }
def k9m1 : Method := { name := "equals", desc := "(Ljava/lang/Object;)Z", sig := { parameters := [(.object "java/lang/Object")], returnType := some .boolean }, accessFlags := 1, code := some k9c1 }
/-- java/lang/String -/
def k9 : Class := { plain "java/lang/String" (some 0) with
  accessFlags := 49
  interfaces := #[4, 3, 7, 2, 8]
  cf := some (fileOf pool9 10 #[.nestMembers #[1103]] #[{ accessFlags := 1, nameIndex := 5, descriptorIndex := 6, attributes := #[] }, { accessFlags := 1, nameIndex := 543, descriptorIndex := 573, attributes := #[] }] 49 2 #[1106, 1108, 575, 1110, 1112] #[{ accessFlags := 18, nameIndex := 13, descriptorIndex := 14, attributes := #[] }, { accessFlags := 18, nameIndex := 17, descriptorIndex := 18, attributes := #[] }, { accessFlags := 2, nameIndex := 21, descriptorIndex := 22, attributes := #[] }, { accessFlags := 2, nameIndex := 25, descriptorIndex := 26, attributes := #[] }, { accessFlags := 26, nameIndex := 1116, descriptorIndex := 1117, attributes := #[] }, { accessFlags := 24, nameIndex := 40, descriptorIndex := 26, attributes := #[] }, { accessFlags := 26, nameIndex := 1101, descriptorIndex := 1102, attributes := #[] }, { accessFlags := 26, nameIndex := 1121, descriptorIndex := 1122, attributes := #[] }, { accessFlags := 25, nameIndex := 599, descriptorIndex := 600, attributes := #[] }, { accessFlags := 24, nameIndex := 1125, descriptorIndex := 18, attributes := #[] }, { accessFlags := 24, nameIndex := 1127, descriptorIndex := 18, attributes := #[] }])
  fields := #[{ name := "value", type := (.array .byte), accessFlags := 18, slot := 0, constantValue := 0 }, { name := "coder", type := .byte, accessFlags := 18, slot := 1, constantValue := 0 }, { name := "hash", type := .int, accessFlags := 2, slot := 2, constantValue := 0 }, { name := "hashIsZero", type := .boolean, accessFlags := 2, slot := 3, constantValue := 0 }, { name := "serialVersionUID", type := .long, accessFlags := 26, slot := 0, constantValue := 0 }, { name := "COMPACT_STRINGS", type := .boolean, accessFlags := 24, slot := 1, constantValue := 0 }, { name := "serialPersistentFields", type := (.array (.object "java/io/ObjectStreamField")), accessFlags := 26, slot := 2, constantValue := 0 }, { name := "REPL", type := .char, accessFlags := 26, slot := 3, constantValue := 0 }, { name := "CASE_INSENSITIVE_ORDER", type := (.object "java/util/Comparator"), accessFlags := 25, slot := 4, constantValue := 0 }, { name := "LATIN1", type := .byte, accessFlags := 24, slot := 5, constantValue := 0 }, { name := "UTF16", type := .byte, accessFlags := 24, slot := 6, constantValue := 0 }]
  methods := #[k9m0, k9m1]
  instanceTypes := #[(.array .byte), .byte, .int, .boolean]
  staticTypes := #[.long, .boolean, (.array (.object "java/io/ObjectStreamField")), .char, (.object "java/util/Comparator"), .byte, .byte]
  resolved := Array.replicate 1451 none
  statics := some 1 }

def pool10 : Array CpInfo := pool [(4, .class_ 6), (1, u "java/lang/Object"), (0, u "<init>"), (0, u "()V"), (5, .class_ 16), (1, u "java/lang/StringLatin1"), (104, u "$assertionsDisabled"), (0, u "Z"), (98, .class_ 223), (1, u "java/lang/StringLatin1$LinesSpliterator"), (57, u "equals"), (0, u "([B[B)Z"), (107, .class_ 391), (0, u "java/lang/StringLatin1$CharsSpliterator")] 3

def k10m0 : Method := { name := "<init>", desc := "()V", sig := { parameters := [], returnType := none }, accessFlags := 0, code := none }
def k10c1 : Code := { maxStack := 3, maxLocals := 3, code := jdk_43_method_13_code, exceptionTable := #[], attributes := #[] }
def k10m1 : Method := { name := "equals", desc := "([B[B)Z", sig := { parameters := [(.array .byte), (.array .byte)], returnType := some .boolean }, accessFlags := 9, code := some k10c1 }
/-- java/lang/StringLatin1 -/
def k10 : Class := { plain "java/lang/StringLatin1" (some 0) with
  accessFlags := 48
  interfaces := #[]
  cf := some (fileOf pool10 14 #[.nestMembers #[390, 221]] #[{ accessFlags := 0, nameIndex := 7, descriptorIndex := 8, attributes := #[] }, { accessFlags := 9, nameIndex := 281, descriptorIndex := 282, attributes := #[] }] 48 4 #[] #[{ accessFlags := 4120, nameIndex := 121, descriptorIndex := 122, attributes := #[] }])
  fields := #[{ name := "$assertionsDisabled", type := .boolean, accessFlags := 4120, slot := 0, constantValue := 0 }]
  methods := #[k10m0, k10m1]
  instanceTypes := #[]
  staticTypes := #[.boolean]
  resolved := Array.replicate 395 none
  statics := none }

def pool11 : Array CpInfo := pool [(2, .class_ 4), (1, u "java/lang/Object"), (0, u "<init>"), (0, u "()V"), (17, .class_ 26), (1, u "jdk/internal/util/Preconditions"), (28, .class_ 56), (0, u "jdk/internal/util/Preconditions$4"), (57, .class_ 115), (0, u "jdk/internal/util/Preconditions$1"), (7, u "SIOOBE_FORMATTER"), (0, u "Ljava/util/function/BiFunction;"), (0, .class_ 126), (0, u "jdk/internal/util/Preconditions$2"), (3, u "AIOOBE_FORMATTER"), (0, .class_ 132), (0, u "jdk/internal/util/Preconditions$3"), (3, u "IOOBE_FORMATTER")] 57

def k11m0 : Method := { name := "<init>", desc := "()V", sig := { parameters := [], returnType := none }, accessFlags := 1, code := none }
/-- jdk/internal/util/Preconditions -/
def k11 : Class := { plain "jdk/internal/util/Preconditions" (some 0) with
  accessFlags := 33
  interfaces := #[]
  cf := some (fileOf pool11 24 #[.nestMembers #[55, 131, 125, 114]] #[{ accessFlags := 1, nameIndex := 5, descriptorIndex := 6, attributes := #[] }] 33 2 #[] #[{ accessFlags := 25, nameIndex := 123, descriptorIndex := 124, attributes := #[] }, { accessFlags := 25, nameIndex := 130, descriptorIndex := 124, attributes := #[] }, { accessFlags := 25, nameIndex := 136, descriptorIndex := 124, attributes := #[] }])
  fields := #[{ name := "SIOOBE_FORMATTER", type := (.object "java/util/function/BiFunction"), accessFlags := 25, slot := 0, constantValue := 0 }, { name := "AIOOBE_FORMATTER", type := (.object "java/util/function/BiFunction"), accessFlags := 25, slot := 1, constantValue := 0 }, { name := "IOOBE_FORMATTER", type := (.object "java/util/function/BiFunction"), accessFlags := 25, slot := 2, constantValue := 0 }]
  methods := #[k11m0]
  instanceTypes := #[]
  staticTypes := #[(.object "java/util/function/BiFunction"), (.object "java/util/function/BiFunction"), (.object "java/util/function/BiFunction")]
  resolved := Array.replicate 194 none
  statics := some 2 }

def pool12 : Array CpInfo := pool [(9, u "<init>"), (6, .class_ 18), (1, u "java/lang/Object"), (0, u "()V"), (1, .class_ 23), (1, u "jdk/internal/util/ArraysSupport"), (0, u "LOG2_ARRAY_LONG_INDEX_SCALE"), (0, u "I"), (2, u "U"), (0, u "Ljdk/internal/misc/Unsafe;"), (8, u "BIG_ENDIAN"), (0, u "Z"), (8, u "LOG2_BYTE_BIT_SIZE"), (4, u "LOG2_ARRAY_INT_INDEX_SCALE"), (54, u "JLA"), (0, u "Ljdk/internal/access/JavaLangAccess;"), (11, u "LOG2_ARRAY_BOOLEAN_INDEX_SCALE"), (9, u "LOG2_ARRAY_BYTE_INDEX_SCALE"), (5, u "LOG2_ARRAY_CHAR_INDEX_SCALE"), (5, u "LOG2_ARRAY_SHORT_INDEX_SCALE"), (18, u "LOG2_ARRAY_FLOAT_INDEX_SCALE"), (24, u "LOG2_ARRAY_DOUBLE_INDEX_SCALE"), (89, u "T_BOOLEAN"), (2, u "T_CHAR"), (1, u "T_FLOAT"), (1, u "T_DOUBLE"), (1, u "T_BYTE"), (1, u "T_SHORT"), (1, u "T_INT"), (1, u "T_LONG"), (1, u "SOFT_MAX_ARRAY_LENGTH")] 83

def k12m0 : Method := { name := "<init>", desc := "()V", sig := { parameters := [], returnType := none }, accessFlags := 2, code := none }
/-- jdk/internal/util/ArraysSupport -/
def k12 : Class := { plain "jdk/internal/util/ArraysSupport" (some 0) with
  accessFlags := 33
  interfaces := #[]
  cf := some (fileOf pool12 21 #[] #[{ accessFlags := 2, nameIndex := 9, descriptorIndex := 19, attributes := #[] }] 33 16 #[] #[{ accessFlags := 24, nameIndex := 28, descriptorIndex := 29, attributes := #[] }, { accessFlags := 26, nameIndex := 38, descriptorIndex := 39, attributes := #[] }, { accessFlags := 25, nameIndex := 121, descriptorIndex := 25, attributes := #[] }, { accessFlags := 25, nameIndex := 131, descriptorIndex := 25, attributes := #[] }, { accessFlags := 25, nameIndex := 137, descriptorIndex := 25, attributes := #[] }, { accessFlags := 25, nameIndex := 143, descriptorIndex := 25, attributes := #[] }, { accessFlags := 25, nameIndex := 53, descriptorIndex := 25, attributes := #[] }, { accessFlags := 25, nameIndex := 24, descriptorIndex := 25, attributes := #[] }, { accessFlags := 25, nameIndex := 162, descriptorIndex := 25, attributes := #[] }, { accessFlags := 25, nameIndex := 187, descriptorIndex := 25, attributes := #[] }, { accessFlags := 26, nameIndex := 48, descriptorIndex := 25, attributes := #[] }, { accessFlags := 25, nameIndex := 277, descriptorIndex := 25, attributes := #[] }, { accessFlags := 25, nameIndex := 280, descriptorIndex := 25, attributes := #[] }, { accessFlags := 25, nameIndex := 282, descriptorIndex := 25, attributes := #[] }, { accessFlags := 25, nameIndex := 284, descriptorIndex := 25, attributes := #[] }, { accessFlags := 25, nameIndex := 286, descriptorIndex := 25, attributes := #[] }, { accessFlags := 25, nameIndex := 288, descriptorIndex := 25, attributes := #[] }, { accessFlags := 25, nameIndex := 290, descriptorIndex := 25, attributes := #[] }, { accessFlags := 25, nameIndex := 292, descriptorIndex := 25, attributes := #[] }, { accessFlags := 26, nameIndex := 108, descriptorIndex := 109, attributes := #[] }, { accessFlags := 25, nameIndex := 294, descriptorIndex := 25, attributes := #[] }])
  fields := #[{ name := "U", type := (.object "jdk/internal/misc/Unsafe"), accessFlags := 24, slot := 0, constantValue := 0 }, { name := "BIG_ENDIAN", type := .boolean, accessFlags := 26, slot := 1, constantValue := 0 }, { name := "LOG2_ARRAY_BOOLEAN_INDEX_SCALE", type := .int, accessFlags := 25, slot := 2, constantValue := 0 }, { name := "LOG2_ARRAY_BYTE_INDEX_SCALE", type := .int, accessFlags := 25, slot := 3, constantValue := 0 }, { name := "LOG2_ARRAY_CHAR_INDEX_SCALE", type := .int, accessFlags := 25, slot := 4, constantValue := 0 }, { name := "LOG2_ARRAY_SHORT_INDEX_SCALE", type := .int, accessFlags := 25, slot := 5, constantValue := 0 }, { name := "LOG2_ARRAY_INT_INDEX_SCALE", type := .int, accessFlags := 25, slot := 6, constantValue := 0 }, { name := "LOG2_ARRAY_LONG_INDEX_SCALE", type := .int, accessFlags := 25, slot := 7, constantValue := 0 }, { name := "LOG2_ARRAY_FLOAT_INDEX_SCALE", type := .int, accessFlags := 25, slot := 8, constantValue := 0 }, { name := "LOG2_ARRAY_DOUBLE_INDEX_SCALE", type := .int, accessFlags := 25, slot := 9, constantValue := 0 }, { name := "LOG2_BYTE_BIT_SIZE", type := .int, accessFlags := 26, slot := 10, constantValue := 0 }, { name := "T_BOOLEAN", type := .int, accessFlags := 25, slot := 11, constantValue := 0 }, { name := "T_CHAR", type := .int, accessFlags := 25, slot := 12, constantValue := 0 }, { name := "T_FLOAT", type := .int, accessFlags := 25, slot := 13, constantValue := 0 }, { name := "T_DOUBLE", type := .int, accessFlags := 25, slot := 14, constantValue := 0 }, { name := "T_BYTE", type := .int, accessFlags := 25, slot := 15, constantValue := 0 }, { name := "T_SHORT", type := .int, accessFlags := 25, slot := 16, constantValue := 0 }, { name := "T_INT", type := .int, accessFlags := 25, slot := 17, constantValue := 0 }, { name := "T_LONG", type := .int, accessFlags := 25, slot := 18, constantValue := 0 }, { name := "JLA", type := (.object "jdk/internal/access/JavaLangAccess"), accessFlags := 26, slot := 19, constantValue := 0 }, { name := "SOFT_MAX_ARRAY_LENGTH", type := .int, accessFlags := 25, slot := 20, constantValue := 0 }]
  methods := #[k12m0]
  instanceTypes := #[]
  staticTypes := #[(.object "jdk/internal/misc/Unsafe"), .boolean, .int, .int, .int, .int, .int, .int, .int, .int, .int, .int, .int, .int, .int, .int, .int, .int, .int, (.object "jdk/internal/access/JavaLangAccess"), .int]
  resolved := Array.replicate 378 none
  statics := none }

def pool13 : Array CpInfo := pool [(1, u "java/lang/Cloneable"), (0, .class_ 1), (0, u "java/lang/Object"), (0, .class_ 3)] 3

/-- java/lang/Cloneable -/
def k13 : Class := { plain "java/lang/Cloneable" (some 0) with
  accessFlags := 1537
  interfaces := #[]
  cf := some (fileOf pool13 2 #[] #[] 1537 4 #[] #[])
  fields := #[]
  methods := #[]
  instanceTypes := #[]
  staticTypes := #[]
  resolved := Array.replicate 8 none
  statics := none }

/-- the primitive byte -/
def k14 : Class := { plain "byte" none with kind := .primitive 'B', accessFlags := 0x411 }
/-- [B -/
def k15 : Class := { plain "[B" (some 0) with kind := .array 14 .byte, interfaces := #[13, 4], accessFlags := 1041 }

/-- the primitive int -/
def k16 : Class := { plain "int" none with kind := .primitive 'I', accessFlags := 0x411 }
/-- [I -/
def k17 : Class := { plain "[I" (some 0) with kind := .array 16 .int, interfaces := #[13, 4], accessFlags := 1041 }

def heap : Heap := #[{ cls := 6, slots := #[.ref 3, .ref 4, .ref 5, .ref 6, .null], vm := .statics 6 },
  { cls := 9, slots := #[.long 0, .int 1, .null, .int 0, .null, .int 0, .int 0], vm := .statics 9 },
  { cls := 11, slots := #[.null, .null, .null], vm := .statics 11 },
  { cls := 6, slots := #[.null, .int 0, .int 0, .null, .ref 7, .null, .null], vm := .none },
  { cls := 6, slots := #[.null, .int 1, .int 0, .null, .ref 7, .null, .null], vm := .none },
  { cls := 6, slots := #[.null, .int 2, .int 0, .null, .ref 8, .null, .null], vm := .none },
  { cls := 6, slots := #[.null, .int 3, .int 0, .null, .ref 9, .null, .null], vm := .none },
  { cls := 9, slots := #[.ref 10, .int 0, .int 0, .int 0], vm := .none },
  { cls := 9, slots := #[.ref 11, .int 0, .int 0, .int 0], vm := .none },
  { cls := 9, slots := #[.ref 12, .int 0, .int 0, .int 0], vm := .none },
  { cls := 15, slots := #[.int 65, .int 118, .int 115, .int 101, .int 110, .int 100, .int 101, .int 114], vm := .none },
  { cls := 15, slots := #[.int 73, .int 110, .int 116, .int 101, .int 114, .int 110, .int 32, .int 109, .int 111, .int 116, .int 116, .int 97, .int 107, .int 101, .int 114], vm := .none },
  { cls := 15, slots := #[.int 77, .int 111, .int 116, .int 116, .int 97, .int 107, .int 101, .int 114], vm := .none }]
def classes : Array Class := #[k0, k1, k2, k3, k4, k5, k6, k7, k8, k9, k10, k11, k12, k13, k14, k15, k16, k17]
def interned : List (Array UInt16 × Addr) := []
def slotsUsed : Nat := 86
def theMethod : MethodId := ⟨1, 3⟩
def args0 : Array Value := #[.int 1]
def aboutOver (below : List Frame) : State where
  vm := { classes := classes, interned := interned.toArray }
  heap := heap
  slotsUsed := slotsUsed
  threads := #[{ frames := .invoking theMethod args0 :: below }]
def below0 : List Frame := [.native { method := ⟨0, 0⟩, args := #[] }]
def about1 : State := aboutOver below0
def p0 : Program := .bare "" "" ""
def e0 : Env := launch0.env 0 0 0
theorem w_frames : about1.frames = Frame.invoking theMethod args0 :: below0 := rfl
set_option maxRecDepth 65536 in
theorem w_args : argsFit about1.vm theMethod args0 = true := by decide +kernel
set_option maxRecDepth 65536 in
theorem w_heap : heapFits about1 = true := by decide +kernel
set_option maxRecDepth 65536 in
theorem w_runnable : about1.curStatus? = some .runnable := by decide +kernel
set_option maxRecDepth 65536 in
theorem w_alone : about1.alone = true := by decide +kernel
set_option maxRecDepth 65536 in
theorem w_named : about1.methodNamed? x = some theMethod := by decide +kernel
set_option maxRecDepth 65536 in
theorem w_hears : about1.hears theMethod below0 = true := by decide +kernel
set_option maxRecDepth 65536 in
theorem w_ripe : about1.ripe theMethod args0 below0 = true := by decide +kernel
theorem w_running : about1.status = .running := rfl
set_option maxRecDepth 65536 in
theorem w_room : about1.hasRoom e0.platform room_1 = true :=
  launch0.hasRoom_least _ room_1 (by decide +kernel) (by decide +kernel) (by decide +kernel) (by decide +kernel) (by decide +kernel) (by decide +kernel)
theorem allAtoms_all (ts : List Jvm.Cond) (a : Array Jvm.Value) (st : Jvm.State) : (allAtoms ts).before a st = ts.all (fun c => c.before a st) := by
  induction ts with
  | nil => rfl
  | cons c t ih =>
    show (Jvm.Cond.and c (allAtoms t)).before a st = _
    rw [Jvm.Cond.before_and, ih, List.all_cons]
def words1 : List Jvm.Cond := Jvm.Cond.code x code maxLocals ret :: tables_1
/-- a 'code' word, met by the world's own term for the bytes: nothing is compared byte by byte -/
theorem code_word {y : MethodName} {bytes : ByteArray} {mx : Nat} {rt : Option FieldType} {a : Array Value} {s : State} {m : MethodId} {meth : Method} {c : Code} (h1 : s.methodNamed? y = some m) (h2 : s.vm.method? m = some meth) (h3 : meth.code = some c) (h4 : c.code = bytes)
    (h5 : (c.maxLocals == mx && c.exceptionTable.isEmpty && decide (c.maxStack ≤ mostOperands) && decide (meth.sig.returnType = rt) && !meth.locks && decide (parseMethodDescriptor y.desc = some meth.sig)) = true) : (Jvm.Cond.code y bytes mx rt).before a s = true := by
  simp only [Bool.and_eq_true, beq_iff_eq, Bool.not_eq_true', decide_eq_true_eq] at h5
  obtain ⟨⟨⟨⟨⟨g1, g2⟩, g3⟩, g4⟩, g5⟩, g6⟩ := h5
  simp [Cond.before, Cond.holds, Cond.value, h1, h2, h3, h4, g1, g2, g3, g4, g5, g6]
def isCode : Jvm.Cond → Bool
  | .code _ _ _ _ => true
  | _ => false
theorem all_split {L : List Jvm.Cond} {P : Jvm.Cond → Bool} (h1 : L.all (fun c => isCode c || P c) = true) (h2 : ∀ c ∈ L.filter isCode, P c = true) : L.all P = true := by
  refine List.all_eq_true.mpr fun c hc => ?_
  have h := List.all_eq_true.mp h1 c hc
  rcases Bool.eq_false_or_eq_true (isCode c) with hi | hi
  · exact h2 c (List.mem_filter.mpr ⟨hc, hi⟩)
  · simpa [hi] using h
set_option maxRecDepth 65536 in
theorem w_c0 : (Jvm.Cond.code x code maxLocals ret).before args0 about1 = true := code_word (m := ⟨1, 3⟩) (meth := k1m3) (c := k1c3) (by decide +kernel) rfl rfl rfl (by decide +kernel)
set_option maxRecDepth 65536 in
theorem w_c1 : (Jvm.Cond.code ({ cls := "com/example/arkivsjekk/arkivsjekk/RoleExternalPinLaw", name := "roleFor", desc := "(I)Lcom/example/arkivsjekk/arkivsjekk/SampleArchive$Role;" } : Jvm.MethodName) method_2_code (1 : Nat) (Option.some (Jvm.ClassFile.FieldType.object "com/example/arkivsjekk/arkivsjekk/SampleArchive$Role"))).before args0 about1 = true := code_word (m := ⟨1, 1⟩) (meth := k1m1) (c := k1c1) (by decide +kernel) rfl rfl rfl (by decide +kernel)
set_option maxRecDepth 65536 in
theorem w_c2 : (Jvm.Cond.code ({ cls := "com/example/arkivsjekk/arkivsjekk/SampleArchive$Role", name := "external", desc := "()Z" } : Jvm.MethodName) prog_43_method_8_code (1 : Nat) (Option.some Jvm.ClassFile.FieldType.boolean)).before args0 about1 = true := code_word (m := ⟨6, 1⟩) (meth := k6m1) (c := k6c1) (by decide +kernel) rfl rfl rfl (by decide +kernel)
set_option maxRecDepth 65536 in
theorem w_c3 : (Jvm.Cond.code ({ cls := "com/example/arkivsjekk/arkivsjekk/SampleArchive$Role", name := "korrespondanseparttype", desc := "()Ljava/lang/String;" } : Jvm.MethodName) prog_43_method_5_code (1 : Nat) (Option.some (Jvm.ClassFile.FieldType.object "java/lang/String"))).before args0 about1 = true := code_word (m := ⟨6, 0⟩) (meth := k6m0) (c := k6c0) (by decide +kernel) rfl rfl rfl (by decide +kernel)
set_option maxRecDepth 65536 in
theorem w_c4 : (Jvm.Cond.code ({ cls := "java/lang/String", name := "equals", desc := "(Ljava/lang/Object;)Z" } : Jvm.MethodName) jdk_42_method_66_code (3 : Nat) (Option.some Jvm.ClassFile.FieldType.boolean)).before args0 about1 = true := code_word (m := ⟨9, 1⟩) (meth := k9m1) (c := k9c1) (by decide +kernel) rfl rfl rfl (by decide +kernel)
set_option maxRecDepth 65536 in
theorem w_c5 : (Jvm.Cond.code ({ cls := "java/lang/StringLatin1", name := "equals", desc := "([B[B)Z" } : Jvm.MethodName) jdk_43_method_13_code (3 : Nat) (Option.some Jvm.ClassFile.FieldType.boolean)).before args0 about1 = true := code_word (m := ⟨10, 1⟩) (meth := k10m1) (c := k10c1) (by decide +kernel) rfl rfl rfl (by decide +kernel)
set_option maxRecDepth 65536 in
theorem w_c6 : (Jvm.Cond.code ({ cls := "com/example/arkivsjekk/arkivsjekk/RoleExternalPinLaw", name := "expected", desc := "(I)Z" } : Jvm.MethodName) method_3_code (1 : Nat) (Option.some Jvm.ClassFile.FieldType.boolean)).before args0 about1 = true := code_word (m := ⟨1, 2⟩) (meth := k1m2) (c := k1c2) (by decide +kernel) rfl rfl rfl (by decide +kernel)
def codes1 : List Jvm.Cond := [Jvm.Cond.code x code maxLocals ret, Jvm.Cond.code ({ cls := "com/example/arkivsjekk/arkivsjekk/RoleExternalPinLaw", name := "roleFor", desc := "(I)Lcom/example/arkivsjekk/arkivsjekk/SampleArchive$Role;" } : Jvm.MethodName) method_2_code (1 : Nat) (Option.some (Jvm.ClassFile.FieldType.object "com/example/arkivsjekk/arkivsjekk/SampleArchive$Role")), Jvm.Cond.code ({ cls := "com/example/arkivsjekk/arkivsjekk/SampleArchive$Role", name := "external", desc := "()Z" } : Jvm.MethodName) prog_43_method_8_code (1 : Nat) (Option.some Jvm.ClassFile.FieldType.boolean), Jvm.Cond.code ({ cls := "com/example/arkivsjekk/arkivsjekk/SampleArchive$Role", name := "korrespondanseparttype", desc := "()Ljava/lang/String;" } : Jvm.MethodName) prog_43_method_5_code (1 : Nat) (Option.some (Jvm.ClassFile.FieldType.object "java/lang/String")), Jvm.Cond.code ({ cls := "java/lang/String", name := "equals", desc := "(Ljava/lang/Object;)Z" } : Jvm.MethodName) jdk_42_method_66_code (3 : Nat) (Option.some Jvm.ClassFile.FieldType.boolean), Jvm.Cond.code ({ cls := "java/lang/StringLatin1", name := "equals", desc := "([B[B)Z" } : Jvm.MethodName) jdk_43_method_13_code (3 : Nat) (Option.some Jvm.ClassFile.FieldType.boolean), Jvm.Cond.code ({ cls := "com/example/arkivsjekk/arkivsjekk/RoleExternalPinLaw", name := "expected", desc := "(I)Z" } : Jvm.MethodName) method_3_code (1 : Nat) (Option.some Jvm.ClassFile.FieldType.boolean)]
set_option maxRecDepth 65536 in
theorem codes_eq : words1.filter isCode = codes1 := rfl
theorem w_codes : ∀ c ∈ words1.filter isCode, c.before args0 about1 = true := by
  rw [codes_eq]
  intro c hc
  simp only [codes1, List.mem_cons, List.not_mem_nil, or_false] at hc
  rcases hc with rfl | rfl | rfl | rfl | rfl | rfl | rfl
  · exact w_c0
  · exact w_c1
  · exact w_c2
  · exact w_c3
  · exact w_c4
  · exact w_c5
  · exact w_c6
set_option maxRecDepth 65536 in
theorem w_t1 : (words1.take 24).all (fun c => isCode c || c.before args0 about1) = true := by decide +kernel
set_option maxRecDepth 65536 in
theorem w_t2 : ((words1.drop 24).take 24).all (fun c => isCode c || c.before args0 about1) = true := by decide +kernel
set_option maxRecDepth 65536 in
theorem w_t3 : ((words1.drop 24).drop 24).all (fun c => isCode c || c.before args0 about1) = true := by decide +kernel
theorem w_tables : (allAtoms (Jvm.Cond.code x code maxLocals ret :: tables_1)).before args0 about1 = true := by
  rw [allAtoms_all]
  show words1.all (fun c => c.before args0 about1) = true
  refine all_split ?_ w_codes
  rw [← List.take_append_drop 24 words1, List.all_append, w_t1, ← List.take_append_drop 24 (words1.drop 24), List.all_append, w_t2, w_t3]
  rfl
set_option maxRecDepth 65536 in
theorem w_rest : rest_1_c.before args0 about1 = true := by decide +kernel
set_option maxRecDepth 65536 in
theorem w_case : (Jvm.Cond.and given_1 narrow_1).before args0 about1 = true := by decide +kernel
set_option maxRecDepth 65536 in
theorem w_consts : constsHeld consts_1 about1 := Jvm.Lit.constsHeldB_iff.mp (by decide +kernel)
theorem w_applies : (headSpec (Jvm.Cond.code x code maxLocals ret :: tables_1) room_1).applies x e0.platform about1 = true :=
  (Spec.applies_iff w_frames).mpr ⟨w_running, w_runnable, w_alone, w_named, w_hears, w_ripe, w_room, w_tables⟩
theorem atStart : AtStart classFile x code maxLocals ret World_1 tables_1 room_1 Calls_1 rest_1 Pre_1 launch0 p0 e0 about1 theMethod args0 below0 :=
  ⟨lists_1, trivial, launch0.admits_env _ _ _, launch0.least_env, fairChoices_fair.cas, fairChoices_fair.clock, w_frames, w_args, w_heap, w_applies, ⟨w_consts, trivial⟩, w_rest, w_case⟩
end start1
theorem witness_1 : WitnessClaimed_1 := ⟨start1.p0, start1.e0, start1.about1, start1.theMethod, start1.args0, start1.below0, start1.atStart⟩
end Jvm.Pilot.@@N@@
