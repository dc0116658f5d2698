import JvmDerived
import JvmDerived.Pilot.@@N@@Statement
import JvmDerived.Pilot.@@N@@Code
set_option linter.unusedVariables false
set_option linter.unusedSimpArgs false
namespace Jvm.RoadKit
open Sem ClassFile Op Lib Jvm.Stand Jvm.Free Jvm.LawKit
section New
variable {p : Program} {l : Launch} {e : Env} {R : Room} {s : State} {m : MethodId} {args : Array Value} {below : List Frame} {meth : Method} {c : Code} {T : State} {locs : List Loc} {cells slots : Nat}
theorem retI (X : Stand p l e R s m args below meth c T locs cells slots) (hx : p.tables.exec = Jvm.exec) {pc : Nat} {Ls : Array Slot} {z : Int32} {rest : List Value} (hret : meth.sig.returnType = some .int) (hd : decode c.code pc = .ok (.ireturn, 1)) {fs : List Frame}
    (hl : ∀ (f : JFrame) (acts : List Action), f.method = m → f.locked = none → f.entered = [] → (doReturn e (T.setTop f) acts (some (.int z))).1 = T.setFrames fs) : Steps p.tables e below (T.setTop (mkF m pc Ls (.int z :: rest))) (T.setFrames fs) :=
  retOut X hx hret rfl (Or.inl ⟨rfl, Or.inl rfl, z, rfl⟩) hd hl
theorem retJ (X : Stand p l e R s m args below meth c T locs cells slots) (hx : p.tables.exec = Jvm.exec) {pc : Nat} {Ls : Array Slot} {z : Int64} {rest : List Value} (hret : meth.sig.returnType = some .long) (hd : decode c.code pc = .ok (.lreturn, 1)) {fs : List Frame}
    (hl : ∀ (f : JFrame) (acts : List Action), f.method = m → f.locked = none → f.entered = [] → (doReturn e (T.setTop f) acts (some (.long z))).1 = T.setFrames fs) : Steps p.tables e below (T.setTop (mkF m pc Ls (.long z :: rest))) (T.setFrames fs) :=
  retOut X hx hret rfl (Or.inr (Or.inl ⟨rfl, rfl, z, rfl⟩)) hd hl
theorem retA (X : Stand p l e R s m args below meth c T locs cells slots) (hx : p.tables.exec = Jvm.exec) {pc : Nat} {Ls : Array Slot} {w : Value} {t : FieldType} {rest : List Value} (hret : meth.sig.returnType = some t) (hd : decode c.code pc = .ok (.areturn, 1)) {fs : List Frame}
    (hl : ∀ (f : JFrame) (acts : List Action), f.method = m → f.locked = none → f.entered = [] → (doReturn e (T.setTop f) acts (some w)).1 = T.setFrames fs) (ht : t.isReference = true) (hw : w.isRef = true) : Steps p.tables e below (T.setTop (mkF m pc Ls (w :: rest))) (T.setFrames fs) :=
  retOut X hx hret (by cases t <;> first | rfl | (cases ht; done)) (Or.inr (Or.inr (Or.inr (Or.inr ⟨rfl, ht, hw⟩)))) hd hl
/-- from the state S on, the body runs to its end and leaves what Q says -/
def Gz (p : Program) (e : Env) (below : List Frame) (s : State) (C N : Nat) (Q : Option Value → Heap → List Loc → Prop) (S : State) : Prop :=
  ∃ s₂ o, Steps p.tables e below S s₂ ∧ s₂.status = .running ∧ Ended s₂ below o ∧ ∃ v L, o = .returned v ∧ Q v s₂.heap L ∧ FrameEnd s o s₂ L C N
variable {C N : Nat} {Q : Option Value → Heap → List Loc → Prop} {S S' : State}
theorem Gz.st (k : ∀ t, Steps p.tables e below S' t → Steps p.tables e below S t) (h : Gz p e below s C N Q S') : Gz p e below s C N Q S := by
  obtain ⟨s₂, o, h1, h2⟩ := h
  exact ⟨s₂, o, k _ h1, h2⟩
theorem Gz.tr (k : Steps p.tables e below S S') (h : Gz p e below s C N Q S') : Gz p e below s C N Q S := by
  obtain ⟨s₂, o, h1, h2⟩ := h
  exact ⟨s₂, o, k.trans h1, h2⟩
variable {pc : Nat} {Ls : Array Slot} {st : List Value} {Z : State} {a0 : Array Value} {hh : Heap}
theorem Gz.iloadN (n : Nat) {k : Fin 4} {v : Int32} (X : Stand p l e R s m args below meth c T locs cells slots) (hx : p.tables.exec = Jvm.exec) (hd : decode c.code pc = .ok (.iload_n k, 1)) (hl : Ls[k.val]? = some (.val (.int v))) (q : pc + 1 = n) (h : Gz p e below s C N Q (T.setTop (mkF m n Ls (.int v :: st)))) : Gz p e below s C N Q (T.setTop (mkF m pc Ls st)) := by subst q; exact Gz.st (fun t k => XS.iloadN X.here hx rfl hd hl k) h
theorem Gz.iload (n : Nat) {k : Nat} {v : Int32} (X : Stand p l e R s m args below meth c T locs cells slots) (hx : p.tables.exec = Jvm.exec) (hd : decode c.code pc = .ok (.iload k, 2)) (hl : Ls[k]? = some (.val (.int v))) (q : pc + 2 = n) (h : Gz p e below s C N Q (T.setTop (mkF m n Ls (.int v :: st)))) : Gz p e below s C N Q (T.setTop (mkF m pc Ls st)) := by subst q; exact Gz.st (fun t k => XS.iload X.here hx rfl hd hl k) h
theorem Gz.istore (n : Nat) (l' : Array Slot) {k : Nat} {v : Int32} (X : Stand p l e R s m args below meth c T locs cells slots) (hx : p.tables.exec = Jvm.exec) (hd : decode c.code pc = .ok (.istore k, 2)) (hl : storeLocals Ls k (.int v) = some l') (q : pc + 2 = n) (h : Gz p e below s C N Q (T.setTop (mkF m n l' st))) : Gz p e below s C N Q (T.setTop (mkF m pc Ls (.int v :: st))) := by subst q; exact Gz.st (fun t k => XS.istore X.here hx rfl hd rfl hl k) h
theorem Gz.lloadN (n : Nat) {k : Fin 4} {v : Int64} (X : Stand p l e R s m args below meth c T locs cells slots) (hx : p.tables.exec = Jvm.exec) (hd : decode c.code pc = .ok (.lload_n k, 1)) (hl : Ls[k.val]? = some (.val (.long v))) (q : pc + 1 = n) (h : Gz p e below s C N Q (T.setTop (mkF m n Ls (.long v :: st)))) : Gz p e below s C N Q (T.setTop (mkF m pc Ls st)) := by subst q; exact Gz.st (fun t k => XS.lloadN X.here hx rfl hd hl k) h
theorem Gz.lload (n : Nat) {k : Nat} {v : Int64} (X : Stand p l e R s m args below meth c T locs cells slots) (hx : p.tables.exec = Jvm.exec) (hd : decode c.code pc = .ok (.lload k, 2)) (hl : Ls[k]? = some (.val (.long v))) (q : pc + 2 = n) (h : Gz p e below s C N Q (T.setTop (mkF m n Ls (.long v :: st)))) : Gz p e below s C N Q (T.setTop (mkF m pc Ls st)) := by subst q; exact Gz.st (fun t k => XS.lload X.here hx rfl hd hl k) h
theorem Gz.lstoreN (n : Nat) (l' : Array Slot) {k : Fin 4} {v : Int64} (X : Stand p l e R s m args below meth c T locs cells slots) (hx : p.tables.exec = Jvm.exec) (hd : decode c.code pc = .ok (.lstore_n k, 1)) (hl : storeLocals Ls k.val (.long v) = some l') (q : pc + 1 = n) (h : Gz p e below s C N Q (T.setTop (mkF m n l' st))) : Gz p e below s C N Q (T.setTop (mkF m pc Ls (.long v :: st))) := by subst q; exact Gz.st (fun t k => XS.lstoreN X.here hx rfl hd rfl hl k) h
theorem Gz.lstore (n : Nat) (l' : Array Slot) {k : Nat} {v : Int64} (X : Stand p l e R s m args below meth c T locs cells slots) (hx : p.tables.exec = Jvm.exec) (hd : decode c.code pc = .ok (.lstore k, 2)) (hl : storeLocals Ls k (.long v) = some l') (q : pc + 2 = n) (h : Gz p e below s C N Q (T.setTop (mkF m n l' st))) : Gz p e below s C N Q (T.setTop (mkF m pc Ls (.long v :: st))) := by subst q; exact Gz.st (fun t k => XS.lstore X.here hx rfl hd rfl hl k) h
theorem Gz.aloadN (n : Nat) {k : Fin 4} {v : Value} (X : Stand p l e R s m args below meth c T locs cells slots) (hx : p.tables.exec = Jvm.exec) (hd : decode c.code pc = .ok (.aload_n k, 1)) (hl : Ls[k.val]? = some (.val v)) (hv : v.isRef = true) (q : pc + 1 = n) (h : Gz p e below s C N Q (T.setTop (mkF m n Ls (v :: st)))) : Gz p e below s C N Q (T.setTop (mkF m pc Ls st)) := by subst q; exact Gz.st (fun t k => XS.aloadN X.here hx rfl hd hl hv k) h
theorem Gz.aload (n : Nat) {k : Nat} {v : Value} (X : Stand p l e R s m args below meth c T locs cells slots) (hx : p.tables.exec = Jvm.exec) (hd : decode c.code pc = .ok (.aload k, 2)) (hl : Ls[k]? = some (.val v)) (hv : v.isRef = true) (q : pc + 2 = n) (h : Gz p e below s C N Q (T.setTop (mkF m n Ls (v :: st)))) : Gz p e below s C N Q (T.setTop (mkF m pc Ls st)) := by subst q; exact Gz.st (fun t k => XS.aload X.here hx rfl hd hl hv k) h
theorem Gz.astore (n : Nat) (l' : Array Slot) {k : Nat} {v : Value} (X : Stand p l e R s m args below meth c T locs cells slots) (hx : p.tables.exec = Jvm.exec) (hd : decode c.code pc = .ok (.astore k, 2)) (hl : storeLocals Ls k v = some l') (hv : v.isRef = true) (q : pc + 2 = n) (h : Gz p e below s C N Q (T.setTop (mkF m n l' st))) : Gz p e below s C N Q (T.setTop (mkF m pc Ls (v :: st))) := by subst q; exact Gz.st (fun t k => XS.astore X.here hx rfl hd rfl hv hl k) h
theorem Gz.iconst (n : Nat) (v : Int32) (X : Stand p l e R s m args below meth c T locs cells slots) (hx : p.tables.exec = Jvm.exec) {i : Int} (hd : decode c.code pc = .ok (.iconst i, 1)) (hv : Int32.ofInt i = v) (q : pc + 1 = n) (h : Gz p e below s C N Q (T.setTop (mkF m n Ls (.int v :: st)))) : Gz p e below s C N Q (T.setTop (mkF m pc Ls st)) := by subst q hv; exact Gz.st (fun t k => XS.iconst X.here hx rfl hd k) h
theorem Gz.bipush (n : Nat) (v : Int32) (X : Stand p l e R s m args below meth c T locs cells slots) (hx : p.tables.exec = Jvm.exec) {i : Int} (hd : decode c.code pc = .ok (.bipush i, 2)) (hv : (Int8.ofInt i).toInt32 = v) (q : pc + 2 = n) (h : Gz p e below s C N Q (T.setTop (mkF m n Ls (.int v :: st)))) : Gz p e below s C N Q (T.setTop (mkF m pc Ls st)) := by subst q hv; exact Gz.st (fun t k => XS.bipush X.here hx rfl hd k) h
theorem Gz.lconst (n : Nat) (v : Int64) (X : Stand p l e R s m args below meth c T locs cells slots) (hx : p.tables.exec = Jvm.exec) {i : Fin 2} (hd : decode c.code pc = .ok (.lconst i, 1)) (hv : Int64.ofNat i = v) (q : pc + 1 = n) (h : Gz p e below s C N Q (T.setTop (mkF m n Ls (.long v :: st)))) : Gz p e below s C N Q (T.setTop (mkF m pc Ls st)) := by subst q hv; exact Gz.st (fun t k => XS.lconst X.here hx rfl hd k) h
theorem Gz.ladd (n : Nat) {x y : Int64} (X : Stand p l e R s m args below meth c T locs cells slots) (hx : p.tables.exec = Jvm.exec) (hd : decode c.code pc = .ok (.ladd, 1))  (q : pc + 1 = n) (h : Gz p e below s C N Q (T.setTop (mkF m n Ls (.long (x + y) :: st)))) : Gz p e below s C N Q (T.setTop (mkF m pc Ls (.long y :: .long x :: st))) := by subst q; exact Gz.st (fun t k => XS.ladd X.here hx rfl hd rfl k) h
theorem Gz.laddV (n : Nat) (z : Int64) (X : Stand p l e R s m args below meth c T locs cells slots) (hx : p.tables.exec = Jvm.exec) {x y : Int64} (hd : decode c.code pc = .ok (.ladd, 1)) (hz : x + y = z) (q : pc + 1 = n) (h : Gz p e below s C N Q (T.setTop (mkF m n Ls (.long z :: st)))) : Gz p e below s C N Q (T.setTop (mkF m pc Ls (.long y :: .long x :: st))) := by subst hz; exact Gz.ladd n X hx hd q h
theorem Gz.lmul (n : Nat) {x y : Int64} (X : Stand p l e R s m args below meth c T locs cells slots) (hx : p.tables.exec = Jvm.exec) (hd : decode c.code pc = .ok (.lmul, 1))  (q : pc + 1 = n) (h : Gz p e below s C N Q (T.setTop (mkF m n Ls (.long (x * y) :: st)))) : Gz p e below s C N Q (T.setTop (mkF m pc Ls (.long y :: .long x :: st))) := by subst q; exact Gz.st (fun t k => XS.lmul X.here hx rfl hd rfl k) h
theorem Gz.lmulV (n : Nat) (z : Int64) (X : Stand p l e R s m args below meth c T locs cells slots) (hx : p.tables.exec = Jvm.exec) {x y : Int64} (hd : decode c.code pc = .ok (.lmul, 1)) (hz : x * y = z) (q : pc + 1 = n) (h : Gz p e below s C N Q (T.setTop (mkF m n Ls (.long z :: st)))) : Gz p e below s C N Q (T.setTop (mkF m pc Ls (.long y :: .long x :: st))) := by subst hz; exact Gz.lmul n X hx hd q h
theorem Gz.iand (n : Nat) {x y : Int32} (X : Stand p l e R s m args below meth c T locs cells slots) (hx : p.tables.exec = Jvm.exec) (hd : decode c.code pc = .ok (.iand, 1))  (q : pc + 1 = n) (h : Gz p e below s C N Q (T.setTop (mkF m n Ls (.int (x &&& y) :: st)))) : Gz p e below s C N Q (T.setTop (mkF m pc Ls (.int y :: .int x :: st))) := by subst q; exact Gz.st (fun t k => XS.iand X.here hx rfl hd rfl k) h
theorem Gz.i2l (n : Nat) {x : Int32} (X : Stand p l e R s m args below meth c T locs cells slots) (hx : p.tables.exec = Jvm.exec) (hd : decode c.code pc = .ok (.i2l, 1))  (q : pc + 1 = n) (h : Gz p e below s C N Q (T.setTop (mkF m n Ls (.long (x.toInt64) :: st)))) : Gz p e below s C N Q (T.setTop (mkF m pc Ls (.int x :: st))) := by subst q; exact Gz.st (fun t k => XS.i2l X.here hx rfl hd rfl k) h
theorem Gz.lcmp (n : Nat) {x y : Int64} (X : Stand p l e R s m args below meth c T locs cells slots) (hx : p.tables.exec = Jvm.exec) (hd : decode c.code pc = .ok (.lcmp, 1))  (q : pc + 1 = n) (h : Gz p e below s C N Q (T.setTop (mkF m n Ls (.int (lcmpW x y) :: st)))) : Gz p e below s C N Q (T.setTop (mkF m pc Ls (.long y :: .long x :: st))) := by subst q; exact Gz.st (fun t k => XS.lcmp X.here hx rfl hd rfl k) h
theorem Gz.irem (n : Nat) {x y : Int32} (X : Stand p l e R s m args below meth c T locs cells slots) (hx : p.tables.exec = Jvm.exec) (hd : decode c.code pc = .ok (.irem, 1)) (hy : y ≠ 0) (q : pc + 1 = n) (h : Gz p e below s C N Q (T.setTop (mkF m n Ls (.int (x % y) :: st)))) : Gz p e below s C N Q (T.setTop (mkF m pc Ls (.int y :: .int x :: st))) := by subst q; exact Gz.st (fun t k => iremM X hx rfl hd rfl hy k) h
theorem Gz.iinc (n : Nat) (l' : Array Slot) (X : Stand p l e R s m args below meth c T locs cells slots) (hx : p.tables.exec = Jvm.exec) {k : Nat} {i : Int} {x : Int32} (hd : decode c.code pc = .ok (.iinc k i, 3)) (hl : Ls[k]? = some (.val (.int x))) (hl' : storeLocals Ls k (.int (x + Int32.ofInt i)) = some l') (q : pc + 3 = n) (h : Gz p e below s C N Q (T.setTop (mkF m n l' st))) : Gz p e below s C N Q (T.setTop (mkF m pc Ls st)) := by subst q; exact Gz.st (fun t k => XS.iinc X.here hx rfl hd hl hl' k) h
theorem Gz.goto (n : Nat) (X : Stand p l e R s m args below meth c T locs cells slots) (hx : p.tables.exec = Jvm.exec) {o : Int} (hd : decode c.code pc = .ok (.goto o, 3)) (ho : 0 ≤ (pc : Int) + o) (q : ((pc : Int) + o).toNat = n) (h : Gz p e below s C N Q (T.setTop (mkF m n Ls st))) : Gz p e below s C N Q (T.setTop (mkF m pc Ls st)) := Gz.st (fun t k => XS.goto X.here hx rfl (pc0 := pc) (pc' := n) rfl hd ho q k) h
theorem Gz.ifYes (n : Nat) (X : Stand p l e R s m args below meth c T locs cells slots) (hx : p.tables.exec = Jvm.exec) {cd : ClassFile.Cond} {x : Int32} {o : Int} (hd : decode c.code pc = .ok (.ifCond cd o, 3)) (hc : ifCond.holds cd x = true) (ho : 0 ≤ (pc : Int) + o) (q : ((pc : Int) + o).toNat = n) (h : Gz p e below s C N Q (T.setTop (mkF m n Ls st))) : Gz p e below s C N Q (T.setTop (mkF m pc Ls (.int x :: st))) := Gz.st (fun t k => XS.ifYes X.here hx rfl (pc0 := pc) (pc' := n) rfl hd rfl hc ho q k) h
theorem Gz.ifNo (n : Nat) (X : Stand p l e R s m args below meth c T locs cells slots) (hx : p.tables.exec = Jvm.exec) {cd : ClassFile.Cond} {x : Int32} {o : Int} (hd : decode c.code pc = .ok (.ifCond cd o, 3)) (hc : ifCond.holds cd x = false) (q : pc + 3 = n) (h : Gz p e below s C N Q (T.setTop (mkF m n Ls st))) : Gz p e below s C N Q (T.setTop (mkF m pc Ls (.int x :: st))) := by subst q; exact Gz.st (fun t k => XS.ifNo X.here hx rfl hd rfl hc k) h
theorem Gz.icmpYes (n : Nat) (X : Stand p l e R s m args below meth c T locs cells slots) (hx : p.tables.exec = Jvm.exec) {cd : ClassFile.Cond} {x y : Int32} {o : Int} (hd : decode c.code pc = .ok (.if_icmp cd o, 3)) (hc : if_icmp.holds cd x y = true) (ho : 0 ≤ (pc : Int) + o) (q : ((pc : Int) + o).toNat = n) (h : Gz p e below s C N Q (T.setTop (mkF m n Ls st))) : Gz p e below s C N Q (T.setTop (mkF m pc Ls (.int y :: .int x :: st))) := Gz.st (fun t k => XS.icmpYes X.here hx rfl (pc0 := pc) (pc' := n) rfl hd rfl hc ho q k) h
theorem Gz.icmpNo (n : Nat) (X : Stand p l e R s m args below meth c T locs cells slots) (hx : p.tables.exec = Jvm.exec) {cd : ClassFile.Cond} {x y : Int32} {o : Int} (hd : decode c.code pc = .ok (.if_icmp cd o, 3)) (hc : if_icmp.holds cd x y = false) (q : pc + 3 = n) (h : Gz p e below s C N Q (T.setTop (mkF m n Ls st))) : Gz p e below s C N Q (T.setTop (mkF m pc Ls (.int y :: .int x :: st))) := by subst q; exact Gz.st (fun t k => XS.icmpNo X.here hx rfl hd rfl hc k) h
theorem Gz.ldcI (n : Nat) (X : Stand p l e R s m args below meth c T locs cells slots) (hx : p.tables.exec = Jvm.exec) {own : String} {ix : Nat} {v : Int32} (hd : decode c.code pc = .ok (.ldc ix, 2)) (hown : s.vm.findClass own = some m.cls) (w : (Cond.constant own ix v).before args s = true) (q : pc + 2 = n) (h : Gz p e below s C N Q (T.setTop (mkF m n Ls (.int v :: st)))) : Gz p e below s C N Q (T.setTop (mkF m pc Ls st)) := by subst q; exact Gz.st (X.ldcInt hx hown w (g := mkF m pc Ls st) rfl hd) h
theorem Gz.stI (n : Nat) (X : Stand p l e R s m args below meth c T locs cells slots) (hx : p.tables.exec = Jvm.exec) (hZ : Z.Warmed39 s.vm) {a : Addr} {cl : Cell} {j : Int32} {x : Int32} (hd : decode c.code pc = .ok (.iastore, 1)) (eT : T.heap = hh) (A : Arr Z hh a cl .int) (hj : ¬ (j < 0 ∨ cl.slots.size ≤ j.toNatClampNeg)) (q : pc + 1 = n) (h : ∀ T' h', Stand p l e R s m args below meth c T' (locs ++ [⟨a, j.toNatClampNeg⟩]) (cells) (slots) → T'.heap = h' → Wr hh h' a j.toNatClampNeg (.int x) → Gz p e below s C N Q (T'.setTop (mkF m n Ls st))) : Gz p e below s C N Q (T.setTop (mkF m pc Ls (.int x :: .int j :: .ref a :: st))) := by
  subst q
  obtain ⟨T', h', X', e', W, st'⟩ := Jvm.RoadKit.stI X hx hZ eT A (j := j) hj (g := mkF m pc Ls (.int x :: .int j :: .ref a :: st)) rfl rfl hd
  exact Gz.st st' (h T' h' X' e' W)
theorem Gz.ldI (n : Nat) (X : Stand p l e R s m args below meth c T locs cells slots) (hx : p.tables.exec = Jvm.exec) (hZ : Z.Warmed39 s.vm) {a : Addr} {cl : Cell} {j : Int32} {v : Value} (hd : decode c.code pc = .ok (.iaload, 1)) (eT : T.heap = hh) (A : Arr Z hh a cl .int) (hj : ¬ (j < 0 ∨ cl.slots.size ≤ j.toNatClampNeg)) (hv : cl.slots[j.toNatClampNeg]? = some v) (q : pc + 1 = n) (h : Gz p e below s C N Q (T.setTop (mkF m n Ls (v :: st)))) : Gz p e below s C N Q (T.setTop (mkF m pc Ls (.int j :: .ref a :: st))) := by
  subst q
  exact Gz.st (X.iaload hx (j := j) (v := v) (by rw [eT]; exact A.1) (State.isArrayOf_alike hZ.alike A.2.1) A.2.2 hj hv (g := mkF m pc Ls (.int j :: .ref a :: st)) rfl rfl hd) h
theorem Gz.alen (n : Nat) (X : Stand p l e R s m args below meth c T locs cells slots) (hx : p.tables.exec = Jvm.exec) (hZ : Z.Warmed39 s.vm) {a : Addr} {cl : Cell} {z : Int32} {ty : FieldType} (hd : decode c.code pc = .ok (.arraylength, 1)) (eT : T.heap = hh) (A : Arr Z hh a cl ty) (hs : cl.slots.size = z.toNatClampNeg) (hz : ¬ z < 0) (q : pc + 1 = n) (h : Gz p e below s C N Q (T.setTop (mkF m n Ls (.int z :: st)))) : Gz p e below s C N Q (T.setTop (mkF m pc Ls (.ref a :: st))) := by
  subst q
  refine Gz.st (X.arraylength hx (by rw [eT]; exact A.1) (State.isArrayOf_alike hZ.alike A.2.1) (g := mkF m pc Ls (.ref a :: st)) rfl rfl hd) ?_
  rw [len_of hs hz]
  exact h
theorem Gz.enter {g g' : JFrame} (q : g = g') (h : Gz p e below s C N Q (T.setTop g')) : Gz p e below s C N Q (T.setTop g) := q ▸ h
theorem Gz.fin (X : Stand p l e R s m args below meth c T locs cells slots) {v : Option Value} (hv : meth.sig.returnType = none → v = none) (hlocks : meth.locks = false) (hc : cells ≤ C) (hn : slots ≤ N)
    (hst : ∀ fs, (∀ (f : JFrame) (acts : List Action), f.method = m → f.locked = none → f.entered = [] → (doReturn e (T.setTop f) acts v).1 = T.setFrames fs) → Steps p.tables e below S (T.setFrames fs)) (hq : Q v T.heap locs) : Gz p e below s C N Q S := by
  obtain ⟨fs, hr, hrun, hended, hW, hsame⟩ := X.leave hv hlocks
  exact ⟨_, _, hst fs hr, hrun, hended, _, _, rfl, hq, ⟨_, rfl⟩, hW, hsame.mono hc hn⟩
theorem retNV (X : Stand p l e R s m args below meth c T locs cells slots) (hx : p.tables.exec = Jvm.exec) {pc : Nat} {Ls : Array Slot} {z w : Int32} {t : FieldType} {rest : List Value} (hret : meth.sig.returnType = some t) (ht : t = .boolean ∨ t = .byte ∨ t = .char ∨ t = .short)
    (hd : decode c.code pc = .ok (.ireturn, 1)) {fs : List Frame} (hl : ∀ (f : JFrame) (acts : List Action), f.method = m → f.locked = none → f.entered = [] → (doReturn e (T.setTop f) acts (some (.int w))).1 = T.setFrames fs) (hw : nar t z = w) :
    Steps p.tables e below (T.setTop (mkF m pc Ls (.int z :: rest))) (T.setFrames fs) := by subst hw; exact retN X hx hret ht hd hl
theorem own_nb (x : Int32) : nar .byte (x.toInt8.toInt32) = x.toInt8.toInt32 := by show (x.toInt8.toInt32).toInt8.toInt32 = _; simp
theorem lt_irr (x : Int32) : ¬ x < x := Int32.lt_irrefl
theorem own_fldI {a0 : Array Value} {Z : State} {t : Term} {a : Addr} {C n d : String} {k : Int32} (ev : t.eval a0 Z none [] Z = some (.ref a)) (h : (Cond.eq (.field t C n d) (.int k)).value a0 Z none Z [] = some true) : Fld Z Z.heap a C n d (.int k) := by
  obtain ⟨x, y, e1, e2, k1, k2⟩ := cmp_v (Or.inl h)
  cases Option.some.inj (e2.symm.trans (Term.int_eval k))
  obtain ⟨z, rfl⟩ := k2
  have q := gotT (Cond.eq_ints e1 (Term.int_eval k)) h
  subst q
  rw [fld_at ev] at e1
  exact Fld.start e1
theorem own_len {a0 : Array Value} {Z : State} {t : Term} {a : Addr} {cl : Cell} {ty : FieldType} {z : Int32} (ev : t.eval a0 Z none [] Z = some (.ref a)) (A : Arr Z Z.heap a cl ty) (h : (Cond.eq (.length t) (.int z)).value a0 Z none Z [] = some true) : cl.slots.size < 2 ^ 31 ∧ cl.slots.size.toInt32 = z := by
  obtain ⟨x, y, e1, e2, k1, k2⟩ := cmp_v (Or.inl h)
  obtain ⟨b, cell, f1, f2, f3, f4⟩ := Jvm.Lib.length_spec e1
  cases Option.some.inj (ev.symm.trans f1)
  cases f2.symm.trans (Arr.fin (U := Z) (Vm.Alike.refl _) A)
  subst f4
  exact ⟨f3, gotT (Cond.eq_ints e1 (Term.int_eval z)) h⟩
theorem own_el {a0 : Array Value} {Z : State} {t : Term} {a : Addr} {cl : Cell} {ty : FieldType} {j v : Int32} (ev : t.eval a0 Z none [] Z = some (.ref a)) (A : Arr Z Z.heap a cl ty) (h : (Cond.eq (.elem t (.int j)) (.int v)).value a0 Z none Z [] = some true) : cl.slots[j.toNatClampNeg]? = some (.int v) := by
  obtain ⟨x, y, e1, e2, k1, k2⟩ := cmp_v (Or.inl h)
  cases Option.some.inj (e2.symm.trans (Term.int_eval v))
  obtain ⟨z, rfl⟩ := k2
  have q := gotT (Cond.eq_ints e1 (Term.int_eval v)) h
  subst q
  exact (elem_in e1 ev (Term.int_eval j) A.1).2
end New
end Jvm.RoadKit
namespace Jvm.Pilot.@@N@@
open Jvm Jvm.ClassFile Sem Op Lib Jvm.Free Jvm.Stand Jvm.LawKit Jvm.RoadKit Bundle Jvm.Pilot.@@N@@.Jvm.D
theorem ww {av : Array Value} {Z : State} (hw : ∀ d ∈ tables_1, d.before av Z = true) (i : Nat) {d : Jvm.Cond} (h : tables_1[i]? = some d) : d.before av Z = true := hw _ (List.mem_of_getElem? h)
theorem own_nat (z : Int32) (n : Nat) (hn : n ≤ 2147483648) (h0 : 0 ≤ z.toInt) (h1 : z.toInt < n) : ∃ k : Nat, k < n ∧ z = Int32.ofNat k := by
  refine ⟨z.toInt.toNat, by omega, ?_⟩
  apply Int32.toInt_inj.mp
  rw [Int32.toInt_ofNat_of_lt (by omega)]
  omega
theorem own_i2c (z : Int32) (h0 : 0 ≤ z.toInt) (h1 : z.toInt < 65536) : z.toUInt32.toUInt16.toUInt32.toInt32 = z := by
  apply Int32.toInt_inj.mp
  have := c_i2c z
  omega
theorem own_asym32 {x y : Int32} (h : y < x) : ¬ x < y := fun q => by rw [Int32.lt_iff_toInt_lt] at *; omega
theorem own_asym64 {x y : Int64} (h : y < x) : ¬ x < y := fun q => by rw [Int64.lt_iff_toInt_lt] at *; omega
theorem own_irr32 {x y : Int32} (h : x = y) : ¬ x < y := fun q => by rw [Int32.lt_iff_toInt_lt] at *; subst h; omega
theorem own_irr64 {x y : Int64} (h : x = y) : ¬ x < y := fun q => by rw [Int64.lt_iff_toInt_lt] at *; subst h; omega
theorem own_tri32 {x y : Int32} (h : ¬ y < x) (g : ¬ x = y) : x < y := by
  rw [← Int32.toInt_inj] at g; rw [Int32.lt_iff_toInt_lt] at *; omega
theorem own_tri64 {x y : Int64} (h : ¬ y < x) (g : ¬ x = y) : x < y := by
  rw [← Int64.toInt_inj] at g; rw [Int64.lt_iff_toInt_lt] at *; omega
theorem own_nlt32 {x y : Int32} (h : x < y) : ¬ x = y := fun q => own_irr32 q h
theorem own_nlt64 {x y : Int64} (h : x < y) : ¬ x = y := fun q => own_irr64 q h
theorem own_ngt32 {x y : Int32} (h : y < x) : ¬ x = y := fun q => own_irr32 q.symm h
theorem own_ngt64 {x y : Int64} (h : y < x) : ¬ x = y := fun q => own_irr64 q.symm h
theorem own_both32 {x y : Int32} (h : ¬ x < y) (g : ¬ y < x) : x = y := by
  rw [← Int32.toInt_inj]; rw [Int32.lt_iff_toInt_lt] at *; omega
theorem own_both64 {x y : Int64} (h : ¬ x < y) (g : ¬ y < x) : x = y := by
  rw [← Int64.toInt_inj]; rw [Int64.lt_iff_toInt_lt] at *; omega
theorem own_rem (z d : Int32) (hd : d ≠ 0) (h0 : 0 ≤ z.toInt) (n : Nat) (hn : d.toInt = n) (hn2 : n ≤ 2147483648) : ∃ k : Nat, k < n ∧ z % d = Int32.ofNat k := by
  have hr := c_irem z d n hn
  have hn0 : n ≠ 0 := fun q => hd (Int32.toInt_inj.mp (by rw [hn, q]; rfl))
  have h1 := hr.1 h0
  have h2 : 0 ≤ z.toInt % (n : Int) := Int.emod_nonneg _ (by omega)
  have h3 : z.toInt % (n : Int) < n := Int.emod_lt_of_pos _ (by omega)
  exact own_nat _ n hn2 (by omega) (by omega)
theorem own_ALt32 {e j k : Int32} (h : e < j) (q : j.toInt ≤ k.toInt) : e < k := by
  rw [Int32.lt_iff_toInt_lt] at *; omega
theorem own_AGf32 {e j k : Int32} (h : e < j) (q : j.toInt ≤ k.toInt + 1) : ¬ k < e := by
  rw [Int32.lt_iff_toInt_lt] at *; omega
theorem own_AEf32 {e j k : Int32} (h : e < j) (q : j.toInt ≤ k.toInt) : ¬ e = k := by
  intro z; subst z; rw [Int32.lt_iff_toInt_lt] at h; omega
theorem own_BLf32 {e j k : Int32} (h : ¬ e < j) (q : k.toInt ≤ j.toInt) : ¬ e < k := by
  rw [Int32.lt_iff_toInt_lt] at *; omega
theorem own_BGt32 {e j k : Int32} (h : ¬ e < j) (q : k.toInt < j.toInt) : k < e := by
  rw [Int32.lt_iff_toInt_lt] at *; omega
theorem own_BEf32 {e j k : Int32} (h : ¬ e < j) (q : k.toInt < j.toInt) : ¬ e = k := by
  intro z; subst z; rw [Int32.lt_iff_toInt_lt] at h; omega
theorem own_CLf32 {e j k : Int32} (h : j < e) (q : k.toInt ≤ j.toInt + 1) : ¬ e < k := by
  rw [Int32.lt_iff_toInt_lt] at *; omega
theorem own_CGt32 {e j k : Int32} (h : j < e) (q : k.toInt ≤ j.toInt) : k < e := by
  rw [Int32.lt_iff_toInt_lt] at *; omega
theorem own_CEf32 {e j k : Int32} (h : j < e) (q : k.toInt ≤ j.toInt) : ¬ e = k := by
  intro z; subst z; rw [Int32.lt_iff_toInt_lt] at h; omega
theorem own_DLt32 {e j k : Int32} (h : ¬ j < e) (q : j.toInt < k.toInt) : e < k := by
  rw [Int32.lt_iff_toInt_lt] at *; omega
theorem own_DGf32 {e j k : Int32} (h : ¬ j < e) (q : j.toInt ≤ k.toInt) : ¬ k < e := by
  rw [Int32.lt_iff_toInt_lt] at *; omega
theorem own_DEf32 {e j k : Int32} (h : ¬ j < e) (q : j.toInt < k.toInt) : ¬ e = k := by
  intro z; subst z; rw [Int32.lt_iff_toInt_lt] at h; omega
theorem own_eqEt32 {e j k : Int32} (h : e = j) (q : j = k) : e = k := by rw [h]; exact q
theorem own_eqEf32 {e j k : Int32} (h : e = j) (q : ¬ j = k) : ¬ e = k := by rw [h]; exact q
theorem own_eqLt32 {e j k : Int32} (h : e = j) (q : j < k) : e < k := by rw [h]; exact q
theorem own_eqLf32 {e j k : Int32} (h : e = j) (q : ¬ j < k) : ¬ e < k := by rw [h]; exact q
theorem own_eqGt32 {e j k : Int32} (h : e = j) (q : k < j) : k < e := by rw [h]; exact q
theorem own_eqGf32 {e j k : Int32} (h : e = j) (q : ¬ k < j) : ¬ k < e := by rw [h]; exact q
theorem own_ALt64 {e j k : Int64} (h : e < j) (q : j.toInt ≤ k.toInt) : e < k := by
  rw [Int64.lt_iff_toInt_lt] at *; omega
theorem own_AGf64 {e j k : Int64} (h : e < j) (q : j.toInt ≤ k.toInt + 1) : ¬ k < e := by
  rw [Int64.lt_iff_toInt_lt] at *; omega
theorem own_AEf64 {e j k : Int64} (h : e < j) (q : j.toInt ≤ k.toInt) : ¬ e = k := by
  intro z; subst z; rw [Int64.lt_iff_toInt_lt] at h; omega
theorem own_BLf64 {e j k : Int64} (h : ¬ e < j) (q : k.toInt ≤ j.toInt) : ¬ e < k := by
  rw [Int64.lt_iff_toInt_lt] at *; omega
theorem own_BGt64 {e j k : Int64} (h : ¬ e < j) (q : k.toInt < j.toInt) : k < e := by
  rw [Int64.lt_iff_toInt_lt] at *; omega
theorem own_BEf64 {e j k : Int64} (h : ¬ e < j) (q : k.toInt < j.toInt) : ¬ e = k := by
  intro z; subst z; rw [Int64.lt_iff_toInt_lt] at h; omega
theorem own_CLf64 {e j k : Int64} (h : j < e) (q : k.toInt ≤ j.toInt + 1) : ¬ e < k := by
  rw [Int64.lt_iff_toInt_lt] at *; omega
theorem own_CGt64 {e j k : Int64} (h : j < e) (q : k.toInt ≤ j.toInt) : k < e := by
  rw [Int64.lt_iff_toInt_lt] at *; omega
theorem own_CEf64 {e j k : Int64} (h : j < e) (q : k.toInt ≤ j.toInt) : ¬ e = k := by
  intro z; subst z; rw [Int64.lt_iff_toInt_lt] at h; omega
theorem own_DLt64 {e j k : Int64} (h : ¬ j < e) (q : j.toInt < k.toInt) : e < k := by
  rw [Int64.lt_iff_toInt_lt] at *; omega
theorem own_DGf64 {e j k : Int64} (h : ¬ j < e) (q : j.toInt ≤ k.toInt) : ¬ k < e := by
  rw [Int64.lt_iff_toInt_lt] at *; omega
theorem own_DEf64 {e j k : Int64} (h : ¬ j < e) (q : j.toInt < k.toInt) : ¬ e = k := by
  intro z; subst z; rw [Int64.lt_iff_toInt_lt] at h; omega
theorem own_eqEt64 {e j k : Int64} (h : e = j) (q : j = k) : e = k := by rw [h]; exact q
theorem own_eqEf64 {e j k : Int64} (h : e = j) (q : ¬ j = k) : ¬ e = k := by rw [h]; exact q
theorem own_eqLt64 {e j k : Int64} (h : e = j) (q : j < k) : e < k := by rw [h]; exact q
theorem own_eqLf64 {e j k : Int64} (h : e = j) (q : ¬ j < k) : ¬ e < k := by rw [h]; exact q
theorem own_eqGt64 {e j k : Int64} (h : e = j) (q : k < j) : k < e := by rw [h]; exact q
theorem own_eqGf64 {e j k : Int64} (h : e = j) (q : ¬ k < j) : ¬ k < e := by rw [h]; exact q
theorem d2_0 : decode jdk_29_method_65_code 0 = .ok (.iload_n 0, 1) := by decide +kernel
theorem d2_1 : decode jdk_29_method_65_code 1 = .ok (.iload_n 1, 1) := by decide +kernel
theorem d2_2 : decode jdk_29_method_65_code 2 = .ok (.if_icmp .lt 7, 3) := by decide +kernel
theorem d2_5 : decode jdk_29_method_65_code 5 = .ok (.iload_n 0, 1) := by decide +kernel
theorem d2_6 : decode jdk_29_method_65_code 6 = .ok (.goto 4, 3) := by decide +kernel
theorem d2_9 : decode jdk_29_method_65_code 9 = .ok (.iload_n 1, 1) := by decide +kernel
theorem d2_10 : decode jdk_29_method_65_code 10 = .ok (.ireturn, 1) := by decide +kernel
theorem ef_rm2 (m : MethodId) (p0 : Int32) (p1 : Int32) : entryFrame m #[(.int p0), (.int p1)] 2 = mkF m 0 #[.val (.int p0), .val (.int p1)] [] := by first | (simp [entryFrame, mkF, argsToLocals, Value.category]; done) | rfl
def f2 (p0 : Int32) (p1 : Int32) : Int32 := (if p0 < p1 then p1 else p0)
def Q_rm2 (Z : State) (p0 : Int32) (p1 : Int32) (h0 : Heap) (n0 : Nat) (v : Option Value) (h : Heap) (L : List Loc) : Prop := v = some (.int (f2 p0 p1)) ∧ Fr n0 L ∧ h = h0
set_option maxRecDepth 65536 in
set_option maxHeartbeats 40000000 in
theorem rm2 (l : Launch) (Z : State) (av0 : Array Value) (hw : ∀ d ∈ tables_1, d.before av0 Z = true) (ws : List Jvm.Cond) (p0 : Int32) (p1 : Int32) (h0 : Heap) (n0 : Nat) (Z0 : n0 ≤ h0.size)  :
    MetFree l (⟨"java/lang/Math", "max", "(II)I"⟩ : MethodName) (head1 (Jvm.Cond.code (⟨"java/lang/Math", "max", "(II)I"⟩ : MethodName) jdk_29_method_65_code 2 (some .int) :: ws) ({ frames := 0, cells := 0, slots := 0, locals := 0 } : Room)) (fun a U => a = #[(.int p0), (.int p1)] ∧ Z.Warmed39 U.vm ∧ U.heap = h0) (fun _ _ _ _ _ => True) (fun _ U o U' => ∃ v L, o = .returned v ∧ Q_rm2 Z p0 p1 h0 n0 v U'.heap L ∧ FrameEnd U o U' L ({ frames := 0, cells := 0, slots := 0, locals := 0 } : Room).cells ({ frames := 0, cells := 0, slots := 0, locals := 0 } : Room).slots) := by
  refine MetFree.of_bodySF (Jvm.Free.JP.mathPlain rfl (by decide +kernel)) hisR ?_
  intro p e s m args below meth c s₁ Bd hml0 hP hK
  obtain ⟨rfl, hZ, hh⟩ := hP
  have hx := Bd.exec
  have hby := Bd.bytes
  have hml : c.maxLocals = 2 := hml0
  have dd : ∀ {pc : Nat} {r : Except DecodeError (Instr × Nat)}, decode jdk_29_method_65_code pc = r → decode c.code pc = r := fun q => hb hby q
  have hown : s.vm.findClass "java/lang/Math" = some m.cls := findClass_of_methodNamed Bd.named
  have hnm := (name_of_methodNamed Bd.named Bd.method).1
  have X0 : Stand p l e ({ frames := 0, cells := 0, slots := 0, locals := 0 } : Room) s m #[(.int p0), (.int p1)] below meth c s₁ [] 0 0 := Stand.of_body Bd
  have e0 : s₁.heap = h0 := by rw [← hh, Bd.state]; rfl
  have N0 := Fr.nil n0
  have hret := Bd.returns
  have hlk := Bd.notSynchronized
  show Gz p e below s ({ frames := 0, cells := 0, slots := 0, locals := 0 } : Room).cells ({ frames := 0, cells := 0, slots := 0, locals := 0 } : Room).slots (Q_rm2 Z p0 p1 h0 n0) (s₁.setTop (entryFrame m #[(.int p0), (.int p1)] 2))
  refine Gz.enter (ef_rm2 m p0 p1) ?_
  refine Gz.iloadN 1 X0 hx (dd d2_0) rfl rfl ?_
  refine Gz.iloadN 2 X0 hx (dd d2_1) rfl rfl ?_
  by_cases hc1 : p0 < p1
  · refine Gz.icmpYes 9 X0 hx (dd d2_2) (tlt hc1).1 (by decide) (by decide) ?_
    refine Gz.iloadN 10 X0 hx (dd d2_9) rfl rfl ?_
    refine Gz.fin X0 (v := some (.int p1)) (fun h => by rw [hret] at h; cases h) hlk (by decide) (by decide) (fun fs hr => retI X0 hx hret (dd d2_10) hr) ?_
    rw [e0]
    exact ⟨(by unfold f2; rw [if_pos hc1]), N0, rfl⟩
  · refine Gz.icmpNo 5 X0 hx (dd d2_2) (flt hc1).1 rfl ?_
    refine Gz.iloadN 6 X0 hx (dd d2_5) rfl rfl ?_
    refine Gz.goto 10 X0 hx (dd d2_6) (by decide) (by decide) ?_
    refine Gz.fin X0 (v := some (.int p0)) (fun h => by rw [hret] at h; cases h) hlk (by decide) (by decide) (fun fs hr => retI X0 hx hret (dd d2_10) hr) ?_
    rw [e0]
    exact ⟨(by unfold f2; rw [if_neg hc1]), N0, rfl⟩
theorem pd_0 : parseMethodDescriptor "(II)I" = some ⟨[.int, .int], some .int⟩ := by decide +kernel
theorem d1_0 : decode method_2_code 0 = .ok (.iconst 1, 1) := by decide +kernel
theorem d1_1 : decode method_2_code 1 = .ok (.iload_n 0, 1) := by decide +kernel
theorem d1_2 : decode method_2_code 2 = .ok (.ldc 7, 2) := by decide +kernel
theorem d1_4 : decode method_2_code 4 = .ok (.iand, 1) := by decide +kernel
theorem d1_5 : decode method_2_code 5 = .ok (.invokestatic 8, 3) := by decide +kernel
theorem d1_8 : decode method_2_code 8 = .ok (.ireturn, 1) := by decide +kernel
theorem pn_0 : plainName "com/example/minsuite/minsuite/ValuePairsCountPinLaw" = true := by first | (simp [plainName, overriddenIn]; done) | decide +kernel
theorem ef_rm1 (m : MethodId) (p0 : Int32) : entryFrame m #[(.int p0)] 1 = mkF m 0 #[.val (.int p0)] [] := by first | (simp [entryFrame, mkF, argsToLocals, Value.category]; done) | rfl
def f1 (p0 : Int32) : Int32 := (f2 (1 : Int32) (p0 &&& (2147483647 : Int32)))
def Q_rm1 (Z : State) (p0 : Int32) (h0 : Heap) (n0 : Nat) (v : Option Value) (h : Heap) (L : List Loc) : Prop := v = some (.int (f1 p0)) ∧ Fr n0 L ∧ h = h0
set_option maxRecDepth 65536 in
set_option maxHeartbeats 40000000 in
theorem rm1 (l : Launch) (Z : State) (av0 : Array Value) (hw : ∀ d ∈ tables_1, d.before av0 Z = true) (ws : List Jvm.Cond) (p0 : Int32) (h0 : Heap) (n0 : Nat) (Z0 : n0 ≤ h0.size)  :
    MetFree l (⟨"com/example/minsuite/minsuite/ValuePairsCountPinLaw", "positive", "(I)I"⟩ : MethodName) (head1 (Jvm.Cond.code (⟨"com/example/minsuite/minsuite/ValuePairsCountPinLaw", "positive", "(I)I"⟩ : MethodName) method_2_code 1 (some .int) :: ws) ({ frames := 1, cells := 0, slots := 0, locals := 13 } : Room)) (fun a U => a = #[(.int p0)] ∧ Z.Warmed39 U.vm ∧ U.heap = h0) (fun _ _ _ _ _ => True) (fun _ U o U' => ∃ v L, o = .returned v ∧ Q_rm1 Z p0 h0 n0 v U'.heap L ∧ FrameEnd U o U' L ({ frames := 1, cells := 0, slots := 0, locals := 13 } : Room).cells ({ frames := 1, cells := 0, slots := 0, locals := 13 } : Room).slots) := by
  refine MetFree.of_bodySF (plainFor_of_name pn_0) hisR ?_
  intro p e s m args below meth c s₁ Bd hml0 hP hK
  obtain ⟨rfl, hZ, hh⟩ := hP
  have hx := Bd.exec
  have hby := Bd.bytes
  have hml : c.maxLocals = 1 := hml0
  have dd : ∀ {pc : Nat} {r : Except DecodeError (Instr × Nat)}, decode method_2_code pc = r → decode c.code pc = r := fun q => hb hby q
  have hown : s.vm.findClass "com/example/minsuite/minsuite/ValuePairsCountPinLaw" = some m.cls := findClass_of_methodNamed Bd.named
  have hnm := (name_of_methodNamed Bd.named Bd.method).1
  have X0 : Stand p l e ({ frames := 1, cells := 0, slots := 0, locals := 13 } : Room) s m #[(.int p0)] below meth c s₁ [] 0 0 := Stand.of_body Bd
  have e0 : s₁.heap = h0 := by rw [← hh, Bd.state]; rfl
  have N0 := Fr.nil n0
  have hret := Bd.returns
  have hlk := Bd.notSynchronized
  show Gz p e below s ({ frames := 1, cells := 0, slots := 0, locals := 13 } : Room).cells ({ frames := 1, cells := 0, slots := 0, locals := 13 } : Room).slots (Q_rm1 Z p0 h0 n0) (s₁.setTop (entryFrame m #[(.int p0)] 1))
  refine Gz.enter (ef_rm1 m p0) ?_
  refine Gz.iconst 1 (1 : Int32) X0 hx (dd d1_0) rfl rfl ?_
  refine Gz.iloadN 2 X0 hx (dd d1_1) rfl rfl ?_
  refine Gz.ldcI 4 X0 hx (dd d1_2) hown (mvT hZ (ww hw 0 rfl)) rfl ?_
  refine Gz.iand 5 X0 hx (dd d1_4) rfl ?_
  obtain ⟨_, _, ⟨T1, L1, k1, n1⟩, -, X1, ⟨Lc1, hQ1, l1, y1, z1⟩, st1⟩ := Jvm.LawKit.callS X0 hx (y := (⟨"java/lang/Math", "max", "(II)I"⟩ : MethodName)) hown (mvT hZ (ww hw 5 rfl)) (mvT hZ (ww hw 6 rfl)) (mvT hZ (ww hw 7 rfl)) (mvT hZ (ww hw 8 rfl)) (by decide) (backOf (W := 0) (rm2 l Z av0 hw [] (1 : Int32) (p0 &&& (2147483647 : Int32))  h0 n0 Z0 ) hZ (ww hw 8 rfl) (ww hw 7 rfl) (by decide) (by decide)) (g := (mkF m 5 #[.val (.int p0)] [(.int (p0 &&& (2147483647 : Int32))), (.int (1 : Int32))])) rfl (by rw [hml]; rfl) (argsL := [(.int (1 : Int32)), (.int (p0 &&& (2147483647 : Int32)))]) (rest := []) (lenOf pd_0 rfl) rfl (by show 2 * 0 + _ ≤ _; exact Nat.le_of_eq rfl) (dd d1_5) (fun _ _ => ⟨rfl, e0, (by decide : 0 + 0 ≤ _), (by decide : 0 + 0 ≤ _)⟩)
  dsimp only [Pt.U, Pt.locs, Pt.cells, Pt.slots, Q_rm2] at X1 l1 y1 z1 st1 hQ1
  subst l1 y1 z1
  obtain ⟨rfl, N1q, e1⟩ := hQ1
  have N1 := Fr.app N0 N1q
  refine Gz.st st1 ?_
  refine Gz.fin X1 (v := some (.int (f2 (1 : Int32) (p0 &&& (2147483647 : Int32))))) (fun h => by rw [hret] at h; cases h) hlk (by decide) (by decide) (fun fs hr => retI X1 hx hret (dd d1_8) hr) ?_
  rw [e1]
  exact ⟨rfl, N1, rfl⟩
theorem own_six (x : Int32) : let z := (x &&& (2147483647 : Int32)) % (6 : Int32); z = (0 : Int32) ∨ z = (1 : Int32) ∨ z = (2 : Int32) ∨ z = (3 : Int32) ∨ z = (4 : Int32) ∨ z = (5 : Int32) := by
  intro z
  have hm := c_mask x 2147483647 31 (by decide) (by decide)
  obtain ⟨k, hk, e⟩ := own_rem (x &&& (2147483647 : Int32)) 6 (by decide) (by rw [hm]; omega) 6 (by decide) (by decide)
  have e' : z = Int32.ofNat k := e
  rw [e']
  have : k = 0 ∨ k = 1 ∨ k = 2 ∨ k = 3 ∨ k = 4 ∨ k = 5 := by omega
  rcases this with rfl | rfl | rfl | rfl | rfl | rfl <;> decide
theorem d3_0 : decode prog_43_method_2_code 0 = .ok (.lconst 0, 1) := by decide +kernel
theorem d3_1 : decode prog_43_method_2_code 1 = .ok (.lstore_n 1, 1) := by decide +kernel
theorem d3_2 : decode prog_43_method_2_code 2 = .ok (.lconst 0, 1) := by decide +kernel
theorem d3_3 : decode prog_43_method_2_code 3 = .ok (.lstore_n 3, 1) := by decide +kernel
theorem d3_4 : decode prog_43_method_2_code 4 = .ok (.aload_n 0, 1) := by decide +kernel
theorem d3_5 : decode prog_43_method_2_code 5 = .ok (.astore 5, 2) := by decide +kernel
theorem d3_7 : decode prog_43_method_2_code 7 = .ok (.aload 5, 2) := by decide +kernel
theorem d3_9 : decode prog_43_method_2_code 9 = .ok (.arraylength, 1) := by decide +kernel
theorem d3_10 : decode prog_43_method_2_code 10 = .ok (.istore 6, 2) := by decide +kernel
theorem d3_12 : decode prog_43_method_2_code 12 = .ok (.iconst 0, 1) := by decide +kernel
theorem d3_13 : decode prog_43_method_2_code 13 = .ok (.istore 7, 2) := by decide +kernel
theorem d3_15 : decode prog_43_method_2_code 15 = .ok (.iload 7, 2) := by decide +kernel
theorem d3_17 : decode prog_43_method_2_code 17 = .ok (.iload 6, 2) := by decide +kernel
theorem d3_19 : decode prog_43_method_2_code 19 = .ok (.if_icmp .ge 30, 3) := by decide +kernel
theorem d3_49 : decode prog_43_method_2_code 49 = .ok (.lload_n 1, 1) := by decide +kernel
theorem d3_50 : decode prog_43_method_2_code 50 = .ok (.lreturn, 1) := by decide +kernel
theorem pn_1 : plainName "com/example/minsuite/minsuite/ValuePairs" = true := by first | (simp [plainName, overriddenIn]; done) | decide +kernel
theorem ef_rm3_0 (m : MethodId) (a0 : Addr) : entryFrame m #[(.ref a0)] 9 = mkF m 0 #[.val (.ref a0), .unset, .unset, .unset, .unset, .unset, .unset, .unset, .unset] [] := by first | (simp [entryFrame, mkF, argsToLocals, Value.category]; done) | rfl
def f3_0 (a0 : Addr) : Int64 := (0 : Int64)
def Q_rm3_0 (Z : State) (a0 : Addr) (k_a0 : ClassId) (h0 : Heap) (n0 : Nat) (v : Option Value) (h : Heap) (L : List Loc) : Prop := v = some (.long (f3_0 a0)) ∧ Fr n0 L ∧ h = h0
set_option maxRecDepth 65536 in
set_option maxHeartbeats 40000000 in
theorem rm3_0 (l : Launch) (Z : State) (av0 : Array Value) (hw : ∀ d ∈ tables_1, d.before av0 Z = true) (ws : List Jvm.Cond) (a0 : Addr) (k_a0 : ClassId) (h0 : Heap) (n0 : Nat) (Z0 : n0 ≤ h0.size) (V_a0 : Arv Z h0 a0 k_a0 .int (0 : Int32) [] (.int (0 : Int32))) :
    MetFree l (⟨"com/example/minsuite/minsuite/ValuePairs", "count", "([I)J"⟩ : MethodName) (head1 (Jvm.Cond.code (⟨"com/example/minsuite/minsuite/ValuePairs", "count", "([I)J"⟩ : MethodName) prog_43_method_2_code 9 (some .long) :: ws) ({ frames := 0, cells := 0, slots := 0, locals := 0 } : Room)) (fun a U => a = #[(.ref a0)] ∧ Z.Warmed39 U.vm ∧ U.heap = h0) (fun _ _ _ _ _ => True) (fun _ U o U' => ∃ v L, o = .returned v ∧ Q_rm3_0 Z a0 k_a0 h0 n0 v U'.heap L ∧ FrameEnd U o U' L ({ frames := 0, cells := 0, slots := 0, locals := 0 } : Room).cells ({ frames := 0, cells := 0, slots := 0, locals := 0 } : Room).slots) := by
  refine MetFree.of_bodySF (plainFor_of_name pn_1) hisR ?_
  intro p e s m args below meth c s₁ Bd hml0 hP hK
  obtain ⟨rfl, hZ, hh⟩ := hP
  have hx := Bd.exec
  have hby := Bd.bytes
  have hml : c.maxLocals = 9 := hml0
  have dd : ∀ {pc : Nat} {r : Except DecodeError (Instr × Nat)}, decode prog_43_method_2_code pc = r → decode c.code pc = r := fun q => hb hby q
  have hown : s.vm.findClass "com/example/minsuite/minsuite/ValuePairs" = some m.cls := findClass_of_methodNamed Bd.named
  have hnm := (name_of_methodNamed Bd.named Bd.method).1
  have X0 : Stand p l e ({ frames := 0, cells := 0, slots := 0, locals := 0 } : Room) s m #[(.ref a0)] below meth c s₁ [] 0 0 := Stand.of_body Bd
  have e0 : s₁.heap = h0 := by rw [← hh, Bd.state]; rfl
  have N0 := Fr.nil n0
  have hret := Bd.returns
  have hlk := Bd.notSynchronized
  show Gz p e below s ({ frames := 0, cells := 0, slots := 0, locals := 0 } : Room).cells ({ frames := 0, cells := 0, slots := 0, locals := 0 } : Room).slots (Q_rm3_0 Z a0 k_a0 h0 n0) (s₁.setTop (entryFrame m #[(.ref a0)] 9))
  refine Gz.enter (ef_rm3_0 m a0) ?_
  refine Gz.lconst 1 (0 : Int64) X0 hx (dd d3_0) rfl rfl ?_
  refine Gz.lstoreN 2 #[.val (.ref a0), .val (.long (0 : Int64)), .second, .unset, .unset, .unset, .unset, .unset, .unset] X0 hx (dd d3_1) rfl rfl ?_
  refine Gz.lconst 3 (0 : Int64) X0 hx (dd d3_2) rfl rfl ?_
  refine Gz.lstoreN 4 #[.val (.ref a0), .val (.long (0 : Int64)), .second, .val (.long (0 : Int64)), .second, .unset, .unset, .unset, .unset] X0 hx (dd d3_3) rfl rfl ?_
  refine Gz.aloadN 5 X0 hx (dd d3_4) rfl rfl rfl ?_
  refine Gz.astore 7 #[.val (.ref a0), .val (.long (0 : Int64)), .second, .val (.long (0 : Int64)), .second, .val (.ref a0), .unset, .unset, .unset] X0 hx (dd d3_5) rfl rfl rfl ?_
  refine Gz.aload 9 X0 hx (dd d3_7) rfl rfl rfl ?_
  obtain ⟨c1, A1, -, S1, N1, -, -⟩ := id V_a0
  refine Gz.alen 10 X0 hx hZ (dd d3_9) e0 A1 S1 N1 rfl ?_
  refine Gz.istore 12 #[.val (.ref a0), .val (.long (0 : Int64)), .second, .val (.long (0 : Int64)), .second, .val (.ref a0), .val (.int (0 : Int32)), .unset, .unset] X0 hx (dd d3_10) rfl rfl ?_
  refine Gz.iconst 13 (0 : Int32) X0 hx (dd d3_12) rfl rfl ?_
  refine Gz.istore 15 #[.val (.ref a0), .val (.long (0 : Int64)), .second, .val (.long (0 : Int64)), .second, .val (.ref a0), .val (.int (0 : Int32)), .val (.int (0 : Int32)), .unset] X0 hx (dd d3_13) rfl rfl ?_
  refine Gz.iload 17 X0 hx (dd d3_15) rfl rfl ?_
  refine Gz.iload 19 X0 hx (dd d3_17) rfl rfl ?_
  refine Gz.icmpYes 49 X0 hx (dd d3_19) (flt (by decide : ¬ ((0 : Int32) < (0 : Int32)))).2.1 (by decide) (by decide) ?_
  refine Gz.lloadN 50 X0 hx (dd d3_49) rfl rfl ?_
  refine Gz.fin X0 (v := some (.long (0 : Int64))) (fun h => by rw [hret] at h; cases h) hlk (by decide) (by decide) (fun fs hr => retJ X0 hx hret (dd d3_50) hr) ?_
  rw [e0]
  exact ⟨rfl, N0, rfl⟩
theorem d3_22 : decode prog_43_method_2_code 22 = .ok (.aload 5, 2) := by decide +kernel
theorem d3_24 : decode prog_43_method_2_code 24 = .ok (.iload 7, 2) := by decide +kernel
theorem d3_26 : decode prog_43_method_2_code 26 = .ok (.iaload, 1) := by decide +kernel
theorem d3_27 : decode prog_43_method_2_code 27 = .ok (.istore 8, 2) := by decide +kernel
theorem d3_29 : decode prog_43_method_2_code 29 = .ok (.lload_n 1, 1) := by decide +kernel
theorem d3_30 : decode prog_43_method_2_code 30 = .ok (.lload_n 3, 1) := by decide +kernel
theorem d3_31 : decode prog_43_method_2_code 31 = .ok (.iload 8, 2) := by decide +kernel
theorem d3_33 : decode prog_43_method_2_code 33 = .ok (.i2l, 1) := by decide +kernel
theorem d3_34 : decode prog_43_method_2_code 34 = .ok (.lmul, 1) := by decide +kernel
theorem d3_35 : decode prog_43_method_2_code 35 = .ok (.ladd, 1) := by decide +kernel
theorem d3_36 : decode prog_43_method_2_code 36 = .ok (.lstore_n 1, 1) := by decide +kernel
theorem d3_37 : decode prog_43_method_2_code 37 = .ok (.lload_n 3, 1) := by decide +kernel
theorem d3_38 : decode prog_43_method_2_code 38 = .ok (.iload 8, 2) := by decide +kernel
theorem d3_40 : decode prog_43_method_2_code 40 = .ok (.i2l, 1) := by decide +kernel
theorem d3_41 : decode prog_43_method_2_code 41 = .ok (.ladd, 1) := by decide +kernel
theorem d3_42 : decode prog_43_method_2_code 42 = .ok (.lstore_n 3, 1) := by decide +kernel
theorem d3_43 : decode prog_43_method_2_code 43 = .ok (.iinc 7 1, 3) := by decide +kernel
theorem d3_46 : decode prog_43_method_2_code 46 = .ok (.goto (-31), 3) := by decide +kernel
theorem ef_rm3_1 (m : MethodId) (a0 : Addr) : entryFrame m #[(.ref a0)] 9 = mkF m 0 #[.val (.ref a0), .unset, .unset, .unset, .unset, .unset, .unset, .unset, .unset] [] := by first | (simp [entryFrame, mkF, argsToLocals, Value.category]; done) | rfl
def f3_1 (a0 : Addr) (v0 : Int32) : Int64 := ((0 : Int64) + ((0 : Int64) * (v0.toInt64)))
def Q_rm3_1 (Z : State) (a0 : Addr) (k_a0 : ClassId) (v0 : Int32) (h0 : Heap) (n0 : Nat) (v : Option Value) (h : Heap) (L : List Loc) : Prop := v = some (.long (f3_1 a0 v0)) ∧ Fr n0 L ∧ h = h0
set_option maxRecDepth 65536 in
set_option maxHeartbeats 40000000 in
theorem rm3_1 (l : Launch) (Z : State) (av0 : Array Value) (hw : ∀ d ∈ tables_1, d.before av0 Z = true) (ws : List Jvm.Cond) (a0 : Addr) (k_a0 : ClassId) (v0 : Int32) (h0 : Heap) (n0 : Nat) (Z0 : n0 ≤ h0.size) (V_a0 : Arv Z h0 a0 k_a0 .int (1 : Int32) [(.int v0)] (.int (0 : Int32))) :
    MetFree l (⟨"com/example/minsuite/minsuite/ValuePairs", "count", "([I)J"⟩ : MethodName) (head1 (Jvm.Cond.code (⟨"com/example/minsuite/minsuite/ValuePairs", "count", "([I)J"⟩ : MethodName) prog_43_method_2_code 9 (some .long) :: ws) ({ frames := 0, cells := 0, slots := 0, locals := 0 } : Room)) (fun a U => a = #[(.ref a0)] ∧ Z.Warmed39 U.vm ∧ U.heap = h0) (fun _ _ _ _ _ => True) (fun _ U o U' => ∃ v L, o = .returned v ∧ Q_rm3_1 Z a0 k_a0 v0 h0 n0 v U'.heap L ∧ FrameEnd U o U' L ({ frames := 0, cells := 0, slots := 0, locals := 0 } : Room).cells ({ frames := 0, cells := 0, slots := 0, locals := 0 } : Room).slots) := by
  refine MetFree.of_bodySF (plainFor_of_name pn_1) hisR ?_
  intro p e s m args below meth c s₁ Bd hml0 hP hK
  obtain ⟨rfl, hZ, hh⟩ := hP
  have hx := Bd.exec
  have hby := Bd.bytes
  have hml : c.maxLocals = 9 := hml0
  have dd : ∀ {pc : Nat} {r : Except DecodeError (Instr × Nat)}, decode prog_43_method_2_code pc = r → decode c.code pc = r := fun q => hb hby q
  have hown : s.vm.findClass "com/example/minsuite/minsuite/ValuePairs" = some m.cls := findClass_of_methodNamed Bd.named
  have hnm := (name_of_methodNamed Bd.named Bd.method).1
  have X0 : Stand p l e ({ frames := 0, cells := 0, slots := 0, locals := 0 } : Room) s m #[(.ref a0)] below meth c s₁ [] 0 0 := Stand.of_body Bd
  have e0 : s₁.heap = h0 := by rw [← hh, Bd.state]; rfl
  have N0 := Fr.nil n0
  have hret := Bd.returns
  have hlk := Bd.notSynchronized
  show Gz p e below s ({ frames := 0, cells := 0, slots := 0, locals := 0 } : Room).cells ({ frames := 0, cells := 0, slots := 0, locals := 0 } : Room).slots (Q_rm3_1 Z a0 k_a0 v0 h0 n0) (s₁.setTop (entryFrame m #[(.ref a0)] 9))
  refine Gz.enter (ef_rm3_1 m a0) ?_
  refine Gz.lconst 1 (0 : Int64) X0 hx (dd d3_0) rfl rfl ?_
  refine Gz.lstoreN 2 #[.val (.ref a0), .val (.long (0 : Int64)), .second, .unset, .unset, .unset, .unset, .unset, .unset] X0 hx (dd d3_1) rfl rfl ?_
  refine Gz.lconst 3 (0 : Int64) X0 hx (dd d3_2) rfl rfl ?_
  refine Gz.lstoreN 4 #[.val (.ref a0), .val (.long (0 : Int64)), .second, .val (.long (0 : Int64)), .second, .unset, .unset, .unset, .unset] X0 hx (dd d3_3) rfl rfl ?_
  refine Gz.aloadN 5 X0 hx (dd d3_4) rfl rfl rfl ?_
  refine Gz.astore 7 #[.val (.ref a0), .val (.long (0 : Int64)), .second, .val (.long (0 : Int64)), .second, .val (.ref a0), .unset, .unset, .unset] X0 hx (dd d3_5) rfl rfl rfl ?_
  refine Gz.aload 9 X0 hx (dd d3_7) rfl rfl rfl ?_
  obtain ⟨c1, A1, -, S1, N1, -, -⟩ := id V_a0
  refine Gz.alen 10 X0 hx hZ (dd d3_9) e0 A1 S1 N1 rfl ?_
  refine Gz.istore 12 #[.val (.ref a0), .val (.long (0 : Int64)), .second, .val (.long (0 : Int64)), .second, .val (.ref a0), .val (.int (1 : Int32)), .unset, .unset] X0 hx (dd d3_10) rfl rfl ?_
  refine Gz.iconst 13 (0 : Int32) X0 hx (dd d3_12) rfl rfl ?_
  refine Gz.istore 15 #[.val (.ref a0), .val (.long (0 : Int64)), .second, .val (.long (0 : Int64)), .second, .val (.ref a0), .val (.int (1 : Int32)), .val (.int (0 : Int32)), .unset] X0 hx (dd d3_13) rfl rfl ?_
  refine Gz.iload 17 X0 hx (dd d3_15) rfl rfl ?_
  refine Gz.iload 19 X0 hx (dd d3_17) rfl rfl ?_
  refine Gz.icmpNo 22 X0 hx (dd d3_19) (tlt (by decide : (0 : Int32) < (1 : Int32))).2.1 rfl ?_
  refine Gz.aload 24 X0 hx (dd d3_22) rfl rfl rfl ?_
  refine Gz.iload 26 X0 hx (dd d3_24) rfl rfl ?_
  obtain ⟨c2, A2, q2, S2, N2, H2, G2⟩ := id V_a0
  have hin2 : ¬ ((0 : Int32) < 0 ∨ c2.slots.size ≤ ((0 : Int32)).toNatClampNeg) := inb_of S2 ⟨by decide, by decide⟩
  refine Gz.ldI 27 X0 hx hZ (dd d3_26) e0 A2 hin2 (Has.at H2 hin2 (rfl : _ = ((.int v0) : Value))) rfl ?_
  refine Gz.istore 29 #[.val (.ref a0), .val (.long (0 : Int64)), .second, .val (.long (0 : Int64)), .second, .val (.ref a0), .val (.int (1 : Int32)), .val (.int (0 : Int32)), .val (.int v0)] X0 hx (dd d3_27) rfl rfl ?_
  refine Gz.lloadN 30 X0 hx (dd d3_29) rfl rfl ?_
  refine Gz.lloadN 31 X0 hx (dd d3_30) rfl rfl ?_
  refine Gz.iload 33 X0 hx (dd d3_31) rfl rfl ?_
  refine Gz.i2l 34 X0 hx (dd d3_33) rfl ?_
  refine Gz.lmul 35 X0 hx (dd d3_34) rfl ?_
  refine Gz.ladd 36 X0 hx (dd d3_35) rfl ?_
  refine Gz.lstoreN 37 #[.val (.ref a0), .val (.long ((0 : Int64) + ((0 : Int64) * (v0.toInt64)))), .second, .val (.long (0 : Int64)), .second, .val (.ref a0), .val (.int (1 : Int32)), .val (.int (0 : Int32)), .val (.int v0)] X0 hx (dd d3_36) rfl rfl ?_
  refine Gz.lloadN 38 X0 hx (dd d3_37) rfl rfl ?_
  refine Gz.iload 40 X0 hx (dd d3_38) rfl rfl ?_
  refine Gz.i2l 41 X0 hx (dd d3_40) rfl ?_
  refine Gz.ladd 42 X0 hx (dd d3_41) rfl ?_
  refine Gz.lstoreN 43 #[.val (.ref a0), .val (.long ((0 : Int64) + ((0 : Int64) * (v0.toInt64)))), .second, .val (.long ((0 : Int64) + (v0.toInt64))), .second, .val (.ref a0), .val (.int (1 : Int32)), .val (.int (0 : Int32)), .val (.int v0)] X0 hx (dd d3_42) rfl rfl ?_
  refine Gz.iinc 46 #[.val (.ref a0), .val (.long ((0 : Int64) + ((0 : Int64) * (v0.toInt64)))), .second, .val (.long ((0 : Int64) + (v0.toInt64))), .second, .val (.ref a0), .val (.int (1 : Int32)), .val (.int (1 : Int32)), .val (.int v0)] X0 hx (dd d3_43) rfl rfl rfl ?_
  refine Gz.goto 15 X0 hx (dd d3_46) (by decide) (by decide) ?_
  refine Gz.iload 17 X0 hx (dd d3_15) rfl rfl ?_
  refine Gz.iload 19 X0 hx (dd d3_17) rfl rfl ?_
  refine Gz.icmpYes 49 X0 hx (dd d3_19) (flt (by decide : ¬ ((1 : Int32) < (1 : Int32)))).2.1 (by decide) (by decide) ?_
  refine Gz.lloadN 50 X0 hx (dd d3_49) rfl rfl ?_
  refine Gz.fin X0 (v := some (.long ((0 : Int64) + ((0 : Int64) * (v0.toInt64))))) (fun h => by rw [hret] at h; cases h) hlk (by decide) (by decide) (fun fs hr => retJ X0 hx hret (dd d3_50) hr) ?_
  rw [e0]
  exact ⟨rfl, N0, rfl⟩
theorem ef_rm3_2 (m : MethodId) (a0 : Addr) : entryFrame m #[(.ref a0)] 9 = mkF m 0 #[.val (.ref a0), .unset, .unset, .unset, .unset, .unset, .unset, .unset, .unset] [] := by first | (simp [entryFrame, mkF, argsToLocals, Value.category]; done) | rfl
def f3_2 (a0 : Addr) (v0 : Int32) (v1 : Int32) : Int64 := (((0 : Int64) + ((0 : Int64) * (v0.toInt64))) + (((0 : Int64) + (v0.toInt64)) * (v1.toInt64)))
def Q_rm3_2 (Z : State) (a0 : Addr) (k_a0 : ClassId) (v0 : Int32) (v1 : Int32) (h0 : Heap) (n0 : Nat) (v : Option Value) (h : Heap) (L : List Loc) : Prop := v = some (.long (f3_2 a0 v0 v1)) ∧ Fr n0 L ∧ h = h0
set_option maxRecDepth 65536 in
set_option maxHeartbeats 40000000 in
theorem rm3_2 (l : Launch) (Z : State) (av0 : Array Value) (hw : ∀ d ∈ tables_1, d.before av0 Z = true) (ws : List Jvm.Cond) (a0 : Addr) (k_a0 : ClassId) (v0 : Int32) (v1 : Int32) (h0 : Heap) (n0 : Nat) (Z0 : n0 ≤ h0.size) (V_a0 : Arv Z h0 a0 k_a0 .int (2 : Int32) [(.int v0), (.int v1)] (.int (0 : Int32))) :
    MetFree l (⟨"com/example/minsuite/minsuite/ValuePairs", "count", "([I)J"⟩ : MethodName) (head1 (Jvm.Cond.code (⟨"com/example/minsuite/minsuite/ValuePairs", "count", "([I)J"⟩ : MethodName) prog_43_method_2_code 9 (some .long) :: ws) ({ frames := 0, cells := 0, slots := 0, locals := 0 } : Room)) (fun a U => a = #[(.ref a0)] ∧ Z.Warmed39 U.vm ∧ U.heap = h0) (fun _ _ _ _ _ => True) (fun _ U o U' => ∃ v L, o = .returned v ∧ Q_rm3_2 Z a0 k_a0 v0 v1 h0 n0 v U'.heap L ∧ FrameEnd U o U' L ({ frames := 0, cells := 0, slots := 0, locals := 0 } : Room).cells ({ frames := 0, cells := 0, slots := 0, locals := 0 } : Room).slots) := by
  refine MetFree.of_bodySF (plainFor_of_name pn_1) hisR ?_
  intro p e s m args below meth c s₁ Bd hml0 hP hK
  obtain ⟨rfl, hZ, hh⟩ := hP
  have hx := Bd.exec
  have hby := Bd.bytes
  have hml : c.maxLocals = 9 := hml0
  have dd : ∀ {pc : Nat} {r : Except DecodeError (Instr × Nat)}, decode prog_43_method_2_code pc = r → decode c.code pc = r := fun q => hb hby q
  have hown : s.vm.findClass "com/example/minsuite/minsuite/ValuePairs" = some m.cls := findClass_of_methodNamed Bd.named
  have hnm := (name_of_methodNamed Bd.named Bd.method).1
  have X0 : Stand p l e ({ frames := 0, cells := 0, slots := 0, locals := 0 } : Room) s m #[(.ref a0)] below meth c s₁ [] 0 0 := Stand.of_body Bd
  have e0 : s₁.heap = h0 := by rw [← hh, Bd.state]; rfl
  have N0 := Fr.nil n0
  have hret := Bd.returns
  have hlk := Bd.notSynchronized
  show Gz p e below s ({ frames := 0, cells := 0, slots := 0, locals := 0 } : Room).cells ({ frames := 0, cells := 0, slots := 0, locals := 0 } : Room).slots (Q_rm3_2 Z a0 k_a0 v0 v1 h0 n0) (s₁.setTop (entryFrame m #[(.ref a0)] 9))
  refine Gz.enter (ef_rm3_2 m a0) ?_
  refine Gz.lconst 1 (0 : Int64) X0 hx (dd d3_0) rfl rfl ?_
  refine Gz.lstoreN 2 #[.val (.ref a0), .val (.long (0 : Int64)), .second, .unset, .unset, .unset, .unset, .unset, .unset] X0 hx (dd d3_1) rfl rfl ?_
  refine Gz.lconst 3 (0 : Int64) X0 hx (dd d3_2) rfl rfl ?_
  refine Gz.lstoreN 4 #[.val (.ref a0), .val (.long (0 : Int64)), .second, .val (.long (0 : Int64)), .second, .unset, .unset, .unset, .unset] X0 hx (dd d3_3) rfl rfl ?_
  refine Gz.aloadN 5 X0 hx (dd d3_4) rfl rfl rfl ?_
  refine Gz.astore 7 #[.val (.ref a0), .val (.long (0 : Int64)), .second, .val (.long (0 : Int64)), .second, .val (.ref a0), .unset, .unset, .unset] X0 hx (dd d3_5) rfl rfl rfl ?_
  refine Gz.aload 9 X0 hx (dd d3_7) rfl rfl rfl ?_
  obtain ⟨c1, A1, -, S1, N1, -, -⟩ := id V_a0
  refine Gz.alen 10 X0 hx hZ (dd d3_9) e0 A1 S1 N1 rfl ?_
  refine Gz.istore 12 #[.val (.ref a0), .val (.long (0 : Int64)), .second, .val (.long (0 : Int64)), .second, .val (.ref a0), .val (.int (2 : Int32)), .unset, .unset] X0 hx (dd d3_10) rfl rfl ?_
  refine Gz.iconst 13 (0 : Int32) X0 hx (dd d3_12) rfl rfl ?_
  refine Gz.istore 15 #[.val (.ref a0), .val (.long (0 : Int64)), .second, .val (.long (0 : Int64)), .second, .val (.ref a0), .val (.int (2 : Int32)), .val (.int (0 : Int32)), .unset] X0 hx (dd d3_13) rfl rfl ?_
  refine Gz.iload 17 X0 hx (dd d3_15) rfl rfl ?_
  refine Gz.iload 19 X0 hx (dd d3_17) rfl rfl ?_
  refine Gz.icmpNo 22 X0 hx (dd d3_19) (tlt (by decide : (0 : Int32) < (2 : Int32))).2.1 rfl ?_
  refine Gz.aload 24 X0 hx (dd d3_22) rfl rfl rfl ?_
  refine Gz.iload 26 X0 hx (dd d3_24) rfl rfl ?_
  obtain ⟨c2, A2, q2, S2, N2, H2, G2⟩ := id V_a0
  have hin2 : ¬ ((0 : Int32) < 0 ∨ c2.slots.size ≤ ((0 : Int32)).toNatClampNeg) := inb_of S2 ⟨by decide, by decide⟩
  refine Gz.ldI 27 X0 hx hZ (dd d3_26) e0 A2 hin2 (Has.at H2 hin2 (rfl : _ = ((.int v0) : Value))) rfl ?_
  refine Gz.istore 29 #[.val (.ref a0), .val (.long (0 : Int64)), .second, .val (.long (0 : Int64)), .second, .val (.ref a0), .val (.int (2 : Int32)), .val (.int (0 : Int32)), .val (.int v0)] X0 hx (dd d3_27) rfl rfl ?_
  refine Gz.lloadN 30 X0 hx (dd d3_29) rfl rfl ?_
  refine Gz.lloadN 31 X0 hx (dd d3_30) rfl rfl ?_
  refine Gz.iload 33 X0 hx (dd d3_31) rfl rfl ?_
  refine Gz.i2l 34 X0 hx (dd d3_33) rfl ?_
  refine Gz.lmul 35 X0 hx (dd d3_34) rfl ?_
  refine Gz.ladd 36 X0 hx (dd d3_35) rfl ?_
  refine Gz.lstoreN 37 #[.val (.ref a0), .val (.long ((0 : Int64) + ((0 : Int64) * (v0.toInt64)))), .second, .val (.long (0 : Int64)), .second, .val (.ref a0), .val (.int (2 : Int32)), .val (.int (0 : Int32)), .val (.int v0)] X0 hx (dd d3_36) rfl rfl ?_
  refine Gz.lloadN 38 X0 hx (dd d3_37) rfl rfl ?_
  refine Gz.iload 40 X0 hx (dd d3_38) rfl rfl ?_
  refine Gz.i2l 41 X0 hx (dd d3_40) rfl ?_
  refine Gz.ladd 42 X0 hx (dd d3_41) rfl ?_
  refine Gz.lstoreN 43 #[.val (.ref a0), .val (.long ((0 : Int64) + ((0 : Int64) * (v0.toInt64)))), .second, .val (.long ((0 : Int64) + (v0.toInt64))), .second, .val (.ref a0), .val (.int (2 : Int32)), .val (.int (0 : Int32)), .val (.int v0)] X0 hx (dd d3_42) rfl rfl ?_
  refine Gz.iinc 46 #[.val (.ref a0), .val (.long ((0 : Int64) + ((0 : Int64) * (v0.toInt64)))), .second, .val (.long ((0 : Int64) + (v0.toInt64))), .second, .val (.ref a0), .val (.int (2 : Int32)), .val (.int (1 : Int32)), .val (.int v0)] X0 hx (dd d3_43) rfl rfl rfl ?_
  refine Gz.goto 15 X0 hx (dd d3_46) (by decide) (by decide) ?_
  refine Gz.iload 17 X0 hx (dd d3_15) rfl rfl ?_
  refine Gz.iload 19 X0 hx (dd d3_17) rfl rfl ?_
  refine Gz.icmpNo 22 X0 hx (dd d3_19) (tlt (by decide : (1 : Int32) < (2 : Int32))).2.1 rfl ?_
  refine Gz.aload 24 X0 hx (dd d3_22) rfl rfl rfl ?_
  refine Gz.iload 26 X0 hx (dd d3_24) rfl rfl ?_
  obtain ⟨c3, A3, q3, S3, N3, H3, G3⟩ := id V_a0
  have hin3 : ¬ ((1 : Int32) < 0 ∨ c3.slots.size ≤ ((1 : Int32)).toNatClampNeg) := inb_of S3 ⟨by decide, by decide⟩
  refine Gz.ldI 27 X0 hx hZ (dd d3_26) e0 A3 hin3 (Has.at H3 hin3 (rfl : _ = ((.int v1) : Value))) rfl ?_
  refine Gz.istore 29 #[.val (.ref a0), .val (.long ((0 : Int64) + ((0 : Int64) * (v0.toInt64)))), .second, .val (.long ((0 : Int64) + (v0.toInt64))), .second, .val (.ref a0), .val (.int (2 : Int32)), .val (.int (1 : Int32)), .val (.int v1)] X0 hx (dd d3_27) rfl rfl ?_
  refine Gz.lloadN 30 X0 hx (dd d3_29) rfl rfl ?_
  refine Gz.lloadN 31 X0 hx (dd d3_30) rfl rfl ?_
  refine Gz.iload 33 X0 hx (dd d3_31) rfl rfl ?_
  refine Gz.i2l 34 X0 hx (dd d3_33) rfl ?_
  refine Gz.lmul 35 X0 hx (dd d3_34) rfl ?_
  refine Gz.ladd 36 X0 hx (dd d3_35) rfl ?_
  refine Gz.lstoreN 37 #[.val (.ref a0), .val (.long (((0 : Int64) + ((0 : Int64) * (v0.toInt64))) + (((0 : Int64) + (v0.toInt64)) * (v1.toInt64)))), .second, .val (.long ((0 : Int64) + (v0.toInt64))), .second, .val (.ref a0), .val (.int (2 : Int32)), .val (.int (1 : Int32)), .val (.int v1)] X0 hx (dd d3_36) rfl rfl ?_
  refine Gz.lloadN 38 X0 hx (dd d3_37) rfl rfl ?_
  refine Gz.iload 40 X0 hx (dd d3_38) rfl rfl ?_
  refine Gz.i2l 41 X0 hx (dd d3_40) rfl ?_
  refine Gz.ladd 42 X0 hx (dd d3_41) rfl ?_
  refine Gz.lstoreN 43 #[.val (.ref a0), .val (.long (((0 : Int64) + ((0 : Int64) * (v0.toInt64))) + (((0 : Int64) + (v0.toInt64)) * (v1.toInt64)))), .second, .val (.long (((0 : Int64) + (v0.toInt64)) + (v1.toInt64))), .second, .val (.ref a0), .val (.int (2 : Int32)), .val (.int (1 : Int32)), .val (.int v1)] X0 hx (dd d3_42) rfl rfl ?_
  refine Gz.iinc 46 #[.val (.ref a0), .val (.long (((0 : Int64) + ((0 : Int64) * (v0.toInt64))) + (((0 : Int64) + (v0.toInt64)) * (v1.toInt64)))), .second, .val (.long (((0 : Int64) + (v0.toInt64)) + (v1.toInt64))), .second, .val (.ref a0), .val (.int (2 : Int32)), .val (.int (2 : Int32)), .val (.int v1)] X0 hx (dd d3_43) rfl rfl rfl ?_
  refine Gz.goto 15 X0 hx (dd d3_46) (by decide) (by decide) ?_
  refine Gz.iload 17 X0 hx (dd d3_15) rfl rfl ?_
  refine Gz.iload 19 X0 hx (dd d3_17) rfl rfl ?_
  refine Gz.icmpYes 49 X0 hx (dd d3_19) (flt (by decide : ¬ ((2 : Int32) < (2 : Int32)))).2.1 (by decide) (by decide) ?_
  refine Gz.lloadN 50 X0 hx (dd d3_49) rfl rfl ?_
  refine Gz.fin X0 (v := some (.long (((0 : Int64) + ((0 : Int64) * (v0.toInt64))) + (((0 : Int64) + (v0.toInt64)) * (v1.toInt64))))) (fun h => by rw [hret] at h; cases h) hlk (by decide) (by decide) (fun fs hr => retJ X0 hx hret (dd d3_50) hr) ?_
  rw [e0]
  exact ⟨rfl, N0, rfl⟩
theorem ef_rm3_3 (m : MethodId) (a0 : Addr) : entryFrame m #[(.ref a0)] 9 = mkF m 0 #[.val (.ref a0), .unset, .unset, .unset, .unset, .unset, .unset, .unset, .unset] [] := by first | (simp [entryFrame, mkF, argsToLocals, Value.category]; done) | rfl
def f3_3 (a0 : Addr) (v0 : Int32) (v1 : Int32) (v2 : Int32) : Int64 := ((((0 : Int64) + ((0 : Int64) * (v0.toInt64))) + (((0 : Int64) + (v0.toInt64)) * (v1.toInt64))) + ((((0 : Int64) + (v0.toInt64)) + (v1.toInt64)) * (v2.toInt64)))
def Q_rm3_3 (Z : State) (a0 : Addr) (k_a0 : ClassId) (v0 : Int32) (v1 : Int32) (v2 : Int32) (h0 : Heap) (n0 : Nat) (v : Option Value) (h : Heap) (L : List Loc) : Prop := v = some (.long (f3_3 a0 v0 v1 v2)) ∧ Fr n0 L ∧ h = h0
set_option maxRecDepth 65536 in
set_option maxHeartbeats 40000000 in
theorem rm3_3 (l : Launch) (Z : State) (av0 : Array Value) (hw : ∀ d ∈ tables_1, d.before av0 Z = true) (ws : List Jvm.Cond) (a0 : Addr) (k_a0 : ClassId) (v0 : Int32) (v1 : Int32) (v2 : Int32) (h0 : Heap) (n0 : Nat) (Z0 : n0 ≤ h0.size) (V_a0 : Arv Z h0 a0 k_a0 .int (3 : Int32) [(.int v0), (.int v1), (.int v2)] (.int (0 : Int32))) :
    MetFree l (⟨"com/example/minsuite/minsuite/ValuePairs", "count", "([I)J"⟩ : MethodName) (head1 (Jvm.Cond.code (⟨"com/example/minsuite/minsuite/ValuePairs", "count", "([I)J"⟩ : MethodName) prog_43_method_2_code 9 (some .long) :: ws) ({ frames := 0, cells := 0, slots := 0, locals := 0 } : Room)) (fun a U => a = #[(.ref a0)] ∧ Z.Warmed39 U.vm ∧ U.heap = h0) (fun _ _ _ _ _ => True) (fun _ U o U' => ∃ v L, o = .returned v ∧ Q_rm3_3 Z a0 k_a0 v0 v1 v2 h0 n0 v U'.heap L ∧ FrameEnd U o U' L ({ frames := 0, cells := 0, slots := 0, locals := 0 } : Room).cells ({ frames := 0, cells := 0, slots := 0, locals := 0 } : Room).slots) := by
  refine MetFree.of_bodySF (plainFor_of_name pn_1) hisR ?_
  intro p e s m args below meth c s₁ Bd hml0 hP hK
  obtain ⟨rfl, hZ, hh⟩ := hP
  have hx := Bd.exec
  have hby := Bd.bytes
  have hml : c.maxLocals = 9 := hml0
  have dd : ∀ {pc : Nat} {r : Except DecodeError (Instr × Nat)}, decode prog_43_method_2_code pc = r → decode c.code pc = r := fun q => hb hby q
  have hown : s.vm.findClass "com/example/minsuite/minsuite/ValuePairs" = some m.cls := findClass_of_methodNamed Bd.named
  have hnm := (name_of_methodNamed Bd.named Bd.method).1
  have X0 : Stand p l e ({ frames := 0, cells := 0, slots := 0, locals := 0 } : Room) s m #[(.ref a0)] below meth c s₁ [] 0 0 := Stand.of_body Bd
  have e0 : s₁.heap = h0 := by rw [← hh, Bd.state]; rfl
  have N0 := Fr.nil n0
  have hret := Bd.returns
  have hlk := Bd.notSynchronized
  show Gz p e below s ({ frames := 0, cells := 0, slots := 0, locals := 0 } : Room).cells ({ frames := 0, cells := 0, slots := 0, locals := 0 } : Room).slots (Q_rm3_3 Z a0 k_a0 v0 v1 v2 h0 n0) (s₁.setTop (entryFrame m #[(.ref a0)] 9))
  refine Gz.enter (ef_rm3_3 m a0) ?_
  refine Gz.lconst 1 (0 : Int64) X0 hx (dd d3_0) rfl rfl ?_
  refine Gz.lstoreN 2 #[.val (.ref a0), .val (.long (0 : Int64)), .second, .unset, .unset, .unset, .unset, .unset, .unset] X0 hx (dd d3_1) rfl rfl ?_
  refine Gz.lconst 3 (0 : Int64) X0 hx (dd d3_2) rfl rfl ?_
  refine Gz.lstoreN 4 #[.val (.ref a0), .val (.long (0 : Int64)), .second, .val (.long (0 : Int64)), .second, .unset, .unset, .unset, .unset] X0 hx (dd d3_3) rfl rfl ?_
  refine Gz.aloadN 5 X0 hx (dd d3_4) rfl rfl rfl ?_
  refine Gz.astore 7 #[.val (.ref a0), .val (.long (0 : Int64)), .second, .val (.long (0 : Int64)), .second, .val (.ref a0), .unset, .unset, .unset] X0 hx (dd d3_5) rfl rfl rfl ?_
  refine Gz.aload 9 X0 hx (dd d3_7) rfl rfl rfl ?_
  obtain ⟨c1, A1, -, S1, N1, -, -⟩ := id V_a0
  refine Gz.alen 10 X0 hx hZ (dd d3_9) e0 A1 S1 N1 rfl ?_
  refine Gz.istore 12 #[.val (.ref a0), .val (.long (0 : Int64)), .second, .val (.long (0 : Int64)), .second, .val (.ref a0), .val (.int (3 : Int32)), .unset, .unset] X0 hx (dd d3_10) rfl rfl ?_
  refine Gz.iconst 13 (0 : Int32) X0 hx (dd d3_12) rfl rfl ?_
  refine Gz.istore 15 #[.val (.ref a0), .val (.long (0 : Int64)), .second, .val (.long (0 : Int64)), .second, .val (.ref a0), .val (.int (3 : Int32)), .val (.int (0 : Int32)), .unset] X0 hx (dd d3_13) rfl rfl ?_
  refine Gz.iload 17 X0 hx (dd d3_15) rfl rfl ?_
  refine Gz.iload 19 X0 hx (dd d3_17) rfl rfl ?_
  refine Gz.icmpNo 22 X0 hx (dd d3_19) (tlt (by decide : (0 : Int32) < (3 : Int32))).2.1 rfl ?_
  refine Gz.aload 24 X0 hx (dd d3_22) rfl rfl rfl ?_
  refine Gz.iload 26 X0 hx (dd d3_24) rfl rfl ?_
  obtain ⟨c2, A2, q2, S2, N2, H2, G2⟩ := id V_a0
  have hin2 : ¬ ((0 : Int32) < 0 ∨ c2.slots.size ≤ ((0 : Int32)).toNatClampNeg) := inb_of S2 ⟨by decide, by decide⟩
  refine Gz.ldI 27 X0 hx hZ (dd d3_26) e0 A2 hin2 (Has.at H2 hin2 (rfl : _ = ((.int v0) : Value))) rfl ?_
  refine Gz.istore 29 #[.val (.ref a0), .val (.long (0 : Int64)), .second, .val (.long (0 : Int64)), .second, .val (.ref a0), .val (.int (3 : Int32)), .val (.int (0 : Int32)), .val (.int v0)] X0 hx (dd d3_27) rfl rfl ?_
  refine Gz.lloadN 30 X0 hx (dd d3_29) rfl rfl ?_
  refine Gz.lloadN 31 X0 hx (dd d3_30) rfl rfl ?_
  refine Gz.iload 33 X0 hx (dd d3_31) rfl rfl ?_
  refine Gz.i2l 34 X0 hx (dd d3_33) rfl ?_
  refine Gz.lmul 35 X0 hx (dd d3_34) rfl ?_
  refine Gz.ladd 36 X0 hx (dd d3_35) rfl ?_
  refine Gz.lstoreN 37 #[.val (.ref a0), .val (.long ((0 : Int64) + ((0 : Int64) * (v0.toInt64)))), .second, .val (.long (0 : Int64)), .second, .val (.ref a0), .val (.int (3 : Int32)), .val (.int (0 : Int32)), .val (.int v0)] X0 hx (dd d3_36) rfl rfl ?_
  refine Gz.lloadN 38 X0 hx (dd d3_37) rfl rfl ?_
  refine Gz.iload 40 X0 hx (dd d3_38) rfl rfl ?_
  refine Gz.i2l 41 X0 hx (dd d3_40) rfl ?_
  refine Gz.ladd 42 X0 hx (dd d3_41) rfl ?_
  refine Gz.lstoreN 43 #[.val (.ref a0), .val (.long ((0 : Int64) + ((0 : Int64) * (v0.toInt64)))), .second, .val (.long ((0 : Int64) + (v0.toInt64))), .second, .val (.ref a0), .val (.int (3 : Int32)), .val (.int (0 : Int32)), .val (.int v0)] X0 hx (dd d3_42) rfl rfl ?_
  refine Gz.iinc 46 #[.val (.ref a0), .val (.long ((0 : Int64) + ((0 : Int64) * (v0.toInt64)))), .second, .val (.long ((0 : Int64) + (v0.toInt64))), .second, .val (.ref a0), .val (.int (3 : Int32)), .val (.int (1 : Int32)), .val (.int v0)] X0 hx (dd d3_43) rfl rfl rfl ?_
  refine Gz.goto 15 X0 hx (dd d3_46) (by decide) (by decide) ?_
  refine Gz.iload 17 X0 hx (dd d3_15) rfl rfl ?_
  refine Gz.iload 19 X0 hx (dd d3_17) rfl rfl ?_
  refine Gz.icmpNo 22 X0 hx (dd d3_19) (tlt (by decide : (1 : Int32) < (3 : Int32))).2.1 rfl ?_
  refine Gz.aload 24 X0 hx (dd d3_22) rfl rfl rfl ?_
  refine Gz.iload 26 X0 hx (dd d3_24) rfl rfl ?_
  obtain ⟨c3, A3, q3, S3, N3, H3, G3⟩ := id V_a0
  have hin3 : ¬ ((1 : Int32) < 0 ∨ c3.slots.size ≤ ((1 : Int32)).toNatClampNeg) := inb_of S3 ⟨by decide, by decide⟩
  refine Gz.ldI 27 X0 hx hZ (dd d3_26) e0 A3 hin3 (Has.at H3 hin3 (rfl : _ = ((.int v1) : Value))) rfl ?_
  refine Gz.istore 29 #[.val (.ref a0), .val (.long ((0 : Int64) + ((0 : Int64) * (v0.toInt64)))), .second, .val (.long ((0 : Int64) + (v0.toInt64))), .second, .val (.ref a0), .val (.int (3 : Int32)), .val (.int (1 : Int32)), .val (.int v1)] X0 hx (dd d3_27) rfl rfl ?_
  refine Gz.lloadN 30 X0 hx (dd d3_29) rfl rfl ?_
  refine Gz.lloadN 31 X0 hx (dd d3_30) rfl rfl ?_
  refine Gz.iload 33 X0 hx (dd d3_31) rfl rfl ?_
  refine Gz.i2l 34 X0 hx (dd d3_33) rfl ?_
  refine Gz.lmul 35 X0 hx (dd d3_34) rfl ?_
  refine Gz.ladd 36 X0 hx (dd d3_35) rfl ?_
  refine Gz.lstoreN 37 #[.val (.ref a0), .val (.long (((0 : Int64) + ((0 : Int64) * (v0.toInt64))) + (((0 : Int64) + (v0.toInt64)) * (v1.toInt64)))), .second, .val (.long ((0 : Int64) + (v0.toInt64))), .second, .val (.ref a0), .val (.int (3 : Int32)), .val (.int (1 : Int32)), .val (.int v1)] X0 hx (dd d3_36) rfl rfl ?_
  refine Gz.lloadN 38 X0 hx (dd d3_37) rfl rfl ?_
  refine Gz.iload 40 X0 hx (dd d3_38) rfl rfl ?_
  refine Gz.i2l 41 X0 hx (dd d3_40) rfl ?_
  refine Gz.ladd 42 X0 hx (dd d3_41) rfl ?_
  refine Gz.lstoreN 43 #[.val (.ref a0), .val (.long (((0 : Int64) + ((0 : Int64) * (v0.toInt64))) + (((0 : Int64) + (v0.toInt64)) * (v1.toInt64)))), .second, .val (.long (((0 : Int64) + (v0.toInt64)) + (v1.toInt64))), .second, .val (.ref a0), .val (.int (3 : Int32)), .val (.int (1 : Int32)), .val (.int v1)] X0 hx (dd d3_42) rfl rfl ?_
  refine Gz.iinc 46 #[.val (.ref a0), .val (.long (((0 : Int64) + ((0 : Int64) * (v0.toInt64))) + (((0 : Int64) + (v0.toInt64)) * (v1.toInt64)))), .second, .val (.long (((0 : Int64) + (v0.toInt64)) + (v1.toInt64))), .second, .val (.ref a0), .val (.int (3 : Int32)), .val (.int (2 : Int32)), .val (.int v1)] X0 hx (dd d3_43) rfl rfl rfl ?_
  refine Gz.goto 15 X0 hx (dd d3_46) (by decide) (by decide) ?_
  refine Gz.iload 17 X0 hx (dd d3_15) rfl rfl ?_
  refine Gz.iload 19 X0 hx (dd d3_17) rfl rfl ?_
  refine Gz.icmpNo 22 X0 hx (dd d3_19) (tlt (by decide : (2 : Int32) < (3 : Int32))).2.1 rfl ?_
  refine Gz.aload 24 X0 hx (dd d3_22) rfl rfl rfl ?_
  refine Gz.iload 26 X0 hx (dd d3_24) rfl rfl ?_
  obtain ⟨c4, A4, q4, S4, N4, H4, G4⟩ := id V_a0
  have hin4 : ¬ ((2 : Int32) < 0 ∨ c4.slots.size ≤ ((2 : Int32)).toNatClampNeg) := inb_of S4 ⟨by decide, by decide⟩
  refine Gz.ldI 27 X0 hx hZ (dd d3_26) e0 A4 hin4 (Has.at H4 hin4 (rfl : _ = ((.int v2) : Value))) rfl ?_
  refine Gz.istore 29 #[.val (.ref a0), .val (.long (((0 : Int64) + ((0 : Int64) * (v0.toInt64))) + (((0 : Int64) + (v0.toInt64)) * (v1.toInt64)))), .second, .val (.long (((0 : Int64) + (v0.toInt64)) + (v1.toInt64))), .second, .val (.ref a0), .val (.int (3 : Int32)), .val (.int (2 : Int32)), .val (.int v2)] X0 hx (dd d3_27) rfl rfl ?_
  refine Gz.lloadN 30 X0 hx (dd d3_29) rfl rfl ?_
  refine Gz.lloadN 31 X0 hx (dd d3_30) rfl rfl ?_
  refine Gz.iload 33 X0 hx (dd d3_31) rfl rfl ?_
  refine Gz.i2l 34 X0 hx (dd d3_33) rfl ?_
  refine Gz.lmul 35 X0 hx (dd d3_34) rfl ?_
  refine Gz.ladd 36 X0 hx (dd d3_35) rfl ?_
  refine Gz.lstoreN 37 #[.val (.ref a0), .val (.long ((((0 : Int64) + ((0 : Int64) * (v0.toInt64))) + (((0 : Int64) + (v0.toInt64)) * (v1.toInt64))) + ((((0 : Int64) + (v0.toInt64)) + (v1.toInt64)) * (v2.toInt64)))), .second, .val (.long (((0 : Int64) + (v0.toInt64)) + (v1.toInt64))), .second, .val (.ref a0), .val (.int (3 : Int32)), .val (.int (2 : Int32)), .val (.int v2)] X0 hx (dd d3_36) rfl rfl ?_
  refine Gz.lloadN 38 X0 hx (dd d3_37) rfl rfl ?_
  refine Gz.iload 40 X0 hx (dd d3_38) rfl rfl ?_
  refine Gz.i2l 41 X0 hx (dd d3_40) rfl ?_
  refine Gz.ladd 42 X0 hx (dd d3_41) rfl ?_
  refine Gz.lstoreN 43 #[.val (.ref a0), .val (.long ((((0 : Int64) + ((0 : Int64) * (v0.toInt64))) + (((0 : Int64) + (v0.toInt64)) * (v1.toInt64))) + ((((0 : Int64) + (v0.toInt64)) + (v1.toInt64)) * (v2.toInt64)))), .second, .val (.long ((((0 : Int64) + (v0.toInt64)) + (v1.toInt64)) + (v2.toInt64))), .second, .val (.ref a0), .val (.int (3 : Int32)), .val (.int (2 : Int32)), .val (.int v2)] X0 hx (dd d3_42) rfl rfl ?_
  refine Gz.iinc 46 #[.val (.ref a0), .val (.long ((((0 : Int64) + ((0 : Int64) * (v0.toInt64))) + (((0 : Int64) + (v0.toInt64)) * (v1.toInt64))) + ((((0 : Int64) + (v0.toInt64)) + (v1.toInt64)) * (v2.toInt64)))), .second, .val (.long ((((0 : Int64) + (v0.toInt64)) + (v1.toInt64)) + (v2.toInt64))), .second, .val (.ref a0), .val (.int (3 : Int32)), .val (.int (3 : Int32)), .val (.int v2)] X0 hx (dd d3_43) rfl rfl rfl ?_
  refine Gz.goto 15 X0 hx (dd d3_46) (by decide) (by decide) ?_
  refine Gz.iload 17 X0 hx (dd d3_15) rfl rfl ?_
  refine Gz.iload 19 X0 hx (dd d3_17) rfl rfl ?_
  refine Gz.icmpYes 49 X0 hx (dd d3_19) (flt (by decide : ¬ ((3 : Int32) < (3 : Int32)))).2.1 (by decide) (by decide) ?_
  refine Gz.lloadN 50 X0 hx (dd d3_49) rfl rfl ?_
  refine Gz.fin X0 (v := some (.long ((((0 : Int64) + ((0 : Int64) * (v0.toInt64))) + (((0 : Int64) + (v0.toInt64)) * (v1.toInt64))) + ((((0 : Int64) + (v0.toInt64)) + (v1.toInt64)) * (v2.toInt64))))) (fun h => by rw [hret] at h; cases h) hlk (by decide) (by decide) (fun fs hr => retJ X0 hx hret (dd d3_50) hr) ?_
  rw [e0]
  exact ⟨rfl, N0, rfl⟩
theorem ef_rm3_4 (m : MethodId) (a0 : Addr) : entryFrame m #[(.ref a0)] 9 = mkF m 0 #[.val (.ref a0), .unset, .unset, .unset, .unset, .unset, .unset, .unset, .unset] [] := by first | (simp [entryFrame, mkF, argsToLocals, Value.category]; done) | rfl
def f3_4 (a0 : Addr) (v0 : Int32) (v1 : Int32) (v2 : Int32) (v3 : Int32) : Int64 := (((((0 : Int64) + ((0 : Int64) * (v0.toInt64))) + (((0 : Int64) + (v0.toInt64)) * (v1.toInt64))) + ((((0 : Int64) + (v0.toInt64)) + (v1.toInt64)) * (v2.toInt64))) + (((((0 : Int64) + (v0.toInt64)) + (v1.toInt64)) + (v2.toInt64)) * (v3.toInt64)))
def Q_rm3_4 (Z : State) (a0 : Addr) (k_a0 : ClassId) (v0 : Int32) (v1 : Int32) (v2 : Int32) (v3 : Int32) (h0 : Heap) (n0 : Nat) (v : Option Value) (h : Heap) (L : List Loc) : Prop := v = some (.long (f3_4 a0 v0 v1 v2 v3)) ∧ Fr n0 L ∧ h = h0
set_option maxRecDepth 65536 in
set_option maxHeartbeats 40000000 in
theorem rm3_4 (l : Launch) (Z : State) (av0 : Array Value) (hw : ∀ d ∈ tables_1, d.before av0 Z = true) (ws : List Jvm.Cond) (a0 : Addr) (k_a0 : ClassId) (v0 : Int32) (v1 : Int32) (v2 : Int32) (v3 : Int32) (h0 : Heap) (n0 : Nat) (Z0 : n0 ≤ h0.size) (V_a0 : Arv Z h0 a0 k_a0 .int (4 : Int32) [(.int v0), (.int v1), (.int v2), (.int v3)] (.int (0 : Int32))) :
    MetFree l (⟨"com/example/minsuite/minsuite/ValuePairs", "count", "([I)J"⟩ : MethodName) (head1 (Jvm.Cond.code (⟨"com/example/minsuite/minsuite/ValuePairs", "count", "([I)J"⟩ : MethodName) prog_43_method_2_code 9 (some .long) :: ws) ({ frames := 0, cells := 0, slots := 0, locals := 0 } : Room)) (fun a U => a = #[(.ref a0)] ∧ Z.Warmed39 U.vm ∧ U.heap = h0) (fun _ _ _ _ _ => True) (fun _ U o U' => ∃ v L, o = .returned v ∧ Q_rm3_4 Z a0 k_a0 v0 v1 v2 v3 h0 n0 v U'.heap L ∧ FrameEnd U o U' L ({ frames := 0, cells := 0, slots := 0, locals := 0 } : Room).cells ({ frames := 0, cells := 0, slots := 0, locals := 0 } : Room).slots) := by
  refine MetFree.of_bodySF (plainFor_of_name pn_1) hisR ?_
  intro p e s m args below meth c s₁ Bd hml0 hP hK
  obtain ⟨rfl, hZ, hh⟩ := hP
  have hx := Bd.exec
  have hby := Bd.bytes
  have hml : c.maxLocals = 9 := hml0
  have dd : ∀ {pc : Nat} {r : Except DecodeError (Instr × Nat)}, decode prog_43_method_2_code pc = r → decode c.code pc = r := fun q => hb hby q
  have hown : s.vm.findClass "com/example/minsuite/minsuite/ValuePairs" = some m.cls := findClass_of_methodNamed Bd.named
  have hnm := (name_of_methodNamed Bd.named Bd.method).1
  have X0 : Stand p l e ({ frames := 0, cells := 0, slots := 0, locals := 0 } : Room) s m #[(.ref a0)] below meth c s₁ [] 0 0 := Stand.of_body Bd
  have e0 : s₁.heap = h0 := by rw [← hh, Bd.state]; rfl
  have N0 := Fr.nil n0
  have hret := Bd.returns
  have hlk := Bd.notSynchronized
  show Gz p e below s ({ frames := 0, cells := 0, slots := 0, locals := 0 } : Room).cells ({ frames := 0, cells := 0, slots := 0, locals := 0 } : Room).slots (Q_rm3_4 Z a0 k_a0 v0 v1 v2 v3 h0 n0) (s₁.setTop (entryFrame m #[(.ref a0)] 9))
  refine Gz.enter (ef_rm3_4 m a0) ?_
  refine Gz.lconst 1 (0 : Int64) X0 hx (dd d3_0) rfl rfl ?_
  refine Gz.lstoreN 2 #[.val (.ref a0), .val (.long (0 : Int64)), .second, .unset, .unset, .unset, .unset, .unset, .unset] X0 hx (dd d3_1) rfl rfl ?_
  refine Gz.lconst 3 (0 : Int64) X0 hx (dd d3_2) rfl rfl ?_
  refine Gz.lstoreN 4 #[.val (.ref a0), .val (.long (0 : Int64)), .second, .val (.long (0 : Int64)), .second, .unset, .unset, .unset, .unset] X0 hx (dd d3_3) rfl rfl ?_
  refine Gz.aloadN 5 X0 hx (dd d3_4) rfl rfl rfl ?_
  refine Gz.astore 7 #[.val (.ref a0), .val (.long (0 : Int64)), .second, .val (.long (0 : Int64)), .second, .val (.ref a0), .unset, .unset, .unset] X0 hx (dd d3_5) rfl rfl rfl ?_
  refine Gz.aload 9 X0 hx (dd d3_7) rfl rfl rfl ?_
  obtain ⟨c1, A1, -, S1, N1, -, -⟩ := id V_a0
  refine Gz.alen 10 X0 hx hZ (dd d3_9) e0 A1 S1 N1 rfl ?_
  refine Gz.istore 12 #[.val (.ref a0), .val (.long (0 : Int64)), .second, .val (.long (0 : Int64)), .second, .val (.ref a0), .val (.int (4 : Int32)), .unset, .unset] X0 hx (dd d3_10) rfl rfl ?_
  refine Gz.iconst 13 (0 : Int32) X0 hx (dd d3_12) rfl rfl ?_
  refine Gz.istore 15 #[.val (.ref a0), .val (.long (0 : Int64)), .second, .val (.long (0 : Int64)), .second, .val (.ref a0), .val (.int (4 : Int32)), .val (.int (0 : Int32)), .unset] X0 hx (dd d3_13) rfl rfl ?_
  refine Gz.iload 17 X0 hx (dd d3_15) rfl rfl ?_
  refine Gz.iload 19 X0 hx (dd d3_17) rfl rfl ?_
  refine Gz.icmpNo 22 X0 hx (dd d3_19) (tlt (by decide : (0 : Int32) < (4 : Int32))).2.1 rfl ?_
  refine Gz.aload 24 X0 hx (dd d3_22) rfl rfl rfl ?_
  refine Gz.iload 26 X0 hx (dd d3_24) rfl rfl ?_
  obtain ⟨c2, A2, q2, S2, N2, H2, G2⟩ := id V_a0
  have hin2 : ¬ ((0 : Int32) < 0 ∨ c2.slots.size ≤ ((0 : Int32)).toNatClampNeg) := inb_of S2 ⟨by decide, by decide⟩
  refine Gz.ldI 27 X0 hx hZ (dd d3_26) e0 A2 hin2 (Has.at H2 hin2 (rfl : _ = ((.int v0) : Value))) rfl ?_
  refine Gz.istore 29 #[.val (.ref a0), .val (.long (0 : Int64)), .second, .val (.long (0 : Int64)), .second, .val (.ref a0), .val (.int (4 : Int32)), .val (.int (0 : Int32)), .val (.int v0)] X0 hx (dd d3_27) rfl rfl ?_
  refine Gz.lloadN 30 X0 hx (dd d3_29) rfl rfl ?_
  refine Gz.lloadN 31 X0 hx (dd d3_30) rfl rfl ?_
  refine Gz.iload 33 X0 hx (dd d3_31) rfl rfl ?_
  refine Gz.i2l 34 X0 hx (dd d3_33) rfl ?_
  refine Gz.lmul 35 X0 hx (dd d3_34) rfl ?_
  refine Gz.ladd 36 X0 hx (dd d3_35) rfl ?_
  refine Gz.lstoreN 37 #[.val (.ref a0), .val (.long ((0 : Int64) + ((0 : Int64) * (v0.toInt64)))), .second, .val (.long (0 : Int64)), .second, .val (.ref a0), .val (.int (4 : Int32)), .val (.int (0 : Int32)), .val (.int v0)] X0 hx (dd d3_36) rfl rfl ?_
  refine Gz.lloadN 38 X0 hx (dd d3_37) rfl rfl ?_
  refine Gz.iload 40 X0 hx (dd d3_38) rfl rfl ?_
  refine Gz.i2l 41 X0 hx (dd d3_40) rfl ?_
  refine Gz.ladd 42 X0 hx (dd d3_41) rfl ?_
  refine Gz.lstoreN 43 #[.val (.ref a0), .val (.long ((0 : Int64) + ((0 : Int64) * (v0.toInt64)))), .second, .val (.long ((0 : Int64) + (v0.toInt64))), .second, .val (.ref a0), .val (.int (4 : Int32)), .val (.int (0 : Int32)), .val (.int v0)] X0 hx (dd d3_42) rfl rfl ?_
  refine Gz.iinc 46 #[.val (.ref a0), .val (.long ((0 : Int64) + ((0 : Int64) * (v0.toInt64)))), .second, .val (.long ((0 : Int64) + (v0.toInt64))), .second, .val (.ref a0), .val (.int (4 : Int32)), .val (.int (1 : Int32)), .val (.int v0)] X0 hx (dd d3_43) rfl rfl rfl ?_
  refine Gz.goto 15 X0 hx (dd d3_46) (by decide) (by decide) ?_
  refine Gz.iload 17 X0 hx (dd d3_15) rfl rfl ?_
  refine Gz.iload 19 X0 hx (dd d3_17) rfl rfl ?_
  refine Gz.icmpNo 22 X0 hx (dd d3_19) (tlt (by decide : (1 : Int32) < (4 : Int32))).2.1 rfl ?_
  refine Gz.aload 24 X0 hx (dd d3_22) rfl rfl rfl ?_
  refine Gz.iload 26 X0 hx (dd d3_24) rfl rfl ?_
  obtain ⟨c3, A3, q3, S3, N3, H3, G3⟩ := id V_a0
  have hin3 : ¬ ((1 : Int32) < 0 ∨ c3.slots.size ≤ ((1 : Int32)).toNatClampNeg) := inb_of S3 ⟨by decide, by decide⟩
  refine Gz.ldI 27 X0 hx hZ (dd d3_26) e0 A3 hin3 (Has.at H3 hin3 (rfl : _ = ((.int v1) : Value))) rfl ?_
  refine Gz.istore 29 #[.val (.ref a0), .val (.long ((0 : Int64) + ((0 : Int64) * (v0.toInt64)))), .second, .val (.long ((0 : Int64) + (v0.toInt64))), .second, .val (.ref a0), .val (.int (4 : Int32)), .val (.int (1 : Int32)), .val (.int v1)] X0 hx (dd d3_27) rfl rfl ?_
  refine Gz.lloadN 30 X0 hx (dd d3_29) rfl rfl ?_
  refine Gz.lloadN 31 X0 hx (dd d3_30) rfl rfl ?_
  refine Gz.iload 33 X0 hx (dd d3_31) rfl rfl ?_
  refine Gz.i2l 34 X0 hx (dd d3_33) rfl ?_
  refine Gz.lmul 35 X0 hx (dd d3_34) rfl ?_
  refine Gz.ladd 36 X0 hx (dd d3_35) rfl ?_
  refine Gz.lstoreN 37 #[.val (.ref a0), .val (.long (((0 : Int64) + ((0 : Int64) * (v0.toInt64))) + (((0 : Int64) + (v0.toInt64)) * (v1.toInt64)))), .second, .val (.long ((0 : Int64) + (v0.toInt64))), .second, .val (.ref a0), .val (.int (4 : Int32)), .val (.int (1 : Int32)), .val (.int v1)] X0 hx (dd d3_36) rfl rfl ?_
  refine Gz.lloadN 38 X0 hx (dd d3_37) rfl rfl ?_
  refine Gz.iload 40 X0 hx (dd d3_38) rfl rfl ?_
  refine Gz.i2l 41 X0 hx (dd d3_40) rfl ?_
  refine Gz.ladd 42 X0 hx (dd d3_41) rfl ?_
  refine Gz.lstoreN 43 #[.val (.ref a0), .val (.long (((0 : Int64) + ((0 : Int64) * (v0.toInt64))) + (((0 : Int64) + (v0.toInt64)) * (v1.toInt64)))), .second, .val (.long (((0 : Int64) + (v0.toInt64)) + (v1.toInt64))), .second, .val (.ref a0), .val (.int (4 : Int32)), .val (.int (1 : Int32)), .val (.int v1)] X0 hx (dd d3_42) rfl rfl ?_
  refine Gz.iinc 46 #[.val (.ref a0), .val (.long (((0 : Int64) + ((0 : Int64) * (v0.toInt64))) + (((0 : Int64) + (v0.toInt64)) * (v1.toInt64)))), .second, .val (.long (((0 : Int64) + (v0.toInt64)) + (v1.toInt64))), .second, .val (.ref a0), .val (.int (4 : Int32)), .val (.int (2 : Int32)), .val (.int v1)] X0 hx (dd d3_43) rfl rfl rfl ?_
  refine Gz.goto 15 X0 hx (dd d3_46) (by decide) (by decide) ?_
  refine Gz.iload 17 X0 hx (dd d3_15) rfl rfl ?_
  refine Gz.iload 19 X0 hx (dd d3_17) rfl rfl ?_
  refine Gz.icmpNo 22 X0 hx (dd d3_19) (tlt (by decide : (2 : Int32) < (4 : Int32))).2.1 rfl ?_
  refine Gz.aload 24 X0 hx (dd d3_22) rfl rfl rfl ?_
  refine Gz.iload 26 X0 hx (dd d3_24) rfl rfl ?_
  obtain ⟨c4, A4, q4, S4, N4, H4, G4⟩ := id V_a0
  have hin4 : ¬ ((2 : Int32) < 0 ∨ c4.slots.size ≤ ((2 : Int32)).toNatClampNeg) := inb_of S4 ⟨by decide, by decide⟩
  refine Gz.ldI 27 X0 hx hZ (dd d3_26) e0 A4 hin4 (Has.at H4 hin4 (rfl : _ = ((.int v2) : Value))) rfl ?_
  refine Gz.istore 29 #[.val (.ref a0), .val (.long (((0 : Int64) + ((0 : Int64) * (v0.toInt64))) + (((0 : Int64) + (v0.toInt64)) * (v1.toInt64)))), .second, .val (.long (((0 : Int64) + (v0.toInt64)) + (v1.toInt64))), .second, .val (.ref a0), .val (.int (4 : Int32)), .val (.int (2 : Int32)), .val (.int v2)] X0 hx (dd d3_27) rfl rfl ?_
  refine Gz.lloadN 30 X0 hx (dd d3_29) rfl rfl ?_
  refine Gz.lloadN 31 X0 hx (dd d3_30) rfl rfl ?_
  refine Gz.iload 33 X0 hx (dd d3_31) rfl rfl ?_
  refine Gz.i2l 34 X0 hx (dd d3_33) rfl ?_
  refine Gz.lmul 35 X0 hx (dd d3_34) rfl ?_
  refine Gz.ladd 36 X0 hx (dd d3_35) rfl ?_
  refine Gz.lstoreN 37 #[.val (.ref a0), .val (.long ((((0 : Int64) + ((0 : Int64) * (v0.toInt64))) + (((0 : Int64) + (v0.toInt64)) * (v1.toInt64))) + ((((0 : Int64) + (v0.toInt64)) + (v1.toInt64)) * (v2.toInt64)))), .second, .val (.long (((0 : Int64) + (v0.toInt64)) + (v1.toInt64))), .second, .val (.ref a0), .val (.int (4 : Int32)), .val (.int (2 : Int32)), .val (.int v2)] X0 hx (dd d3_36) rfl rfl ?_
  refine Gz.lloadN 38 X0 hx (dd d3_37) rfl rfl ?_
  refine Gz.iload 40 X0 hx (dd d3_38) rfl rfl ?_
  refine Gz.i2l 41 X0 hx (dd d3_40) rfl ?_
  refine Gz.ladd 42 X0 hx (dd d3_41) rfl ?_
  refine Gz.lstoreN 43 #[.val (.ref a0), .val (.long ((((0 : Int64) + ((0 : Int64) * (v0.toInt64))) + (((0 : Int64) + (v0.toInt64)) * (v1.toInt64))) + ((((0 : Int64) + (v0.toInt64)) + (v1.toInt64)) * (v2.toInt64)))), .second, .val (.long ((((0 : Int64) + (v0.toInt64)) + (v1.toInt64)) + (v2.toInt64))), .second, .val (.ref a0), .val (.int (4 : Int32)), .val (.int (2 : Int32)), .val (.int v2)] X0 hx (dd d3_42) rfl rfl ?_
  refine Gz.iinc 46 #[.val (.ref a0), .val (.long ((((0 : Int64) + ((0 : Int64) * (v0.toInt64))) + (((0 : Int64) + (v0.toInt64)) * (v1.toInt64))) + ((((0 : Int64) + (v0.toInt64)) + (v1.toInt64)) * (v2.toInt64)))), .second, .val (.long ((((0 : Int64) + (v0.toInt64)) + (v1.toInt64)) + (v2.toInt64))), .second, .val (.ref a0), .val (.int (4 : Int32)), .val (.int (3 : Int32)), .val (.int v2)] X0 hx (dd d3_43) rfl rfl rfl ?_
  refine Gz.goto 15 X0 hx (dd d3_46) (by decide) (by decide) ?_
  refine Gz.iload 17 X0 hx (dd d3_15) rfl rfl ?_
  refine Gz.iload 19 X0 hx (dd d3_17) rfl rfl ?_
  refine Gz.icmpNo 22 X0 hx (dd d3_19) (tlt (by decide : (3 : Int32) < (4 : Int32))).2.1 rfl ?_
  refine Gz.aload 24 X0 hx (dd d3_22) rfl rfl rfl ?_
  refine Gz.iload 26 X0 hx (dd d3_24) rfl rfl ?_
  obtain ⟨c5, A5, q5, S5, N5, H5, G5⟩ := id V_a0
  have hin5 : ¬ ((3 : Int32) < 0 ∨ c5.slots.size ≤ ((3 : Int32)).toNatClampNeg) := inb_of S5 ⟨by decide, by decide⟩
  refine Gz.ldI 27 X0 hx hZ (dd d3_26) e0 A5 hin5 (Has.at H5 hin5 (rfl : _ = ((.int v3) : Value))) rfl ?_
  refine Gz.istore 29 #[.val (.ref a0), .val (.long ((((0 : Int64) + ((0 : Int64) * (v0.toInt64))) + (((0 : Int64) + (v0.toInt64)) * (v1.toInt64))) + ((((0 : Int64) + (v0.toInt64)) + (v1.toInt64)) * (v2.toInt64)))), .second, .val (.long ((((0 : Int64) + (v0.toInt64)) + (v1.toInt64)) + (v2.toInt64))), .second, .val (.ref a0), .val (.int (4 : Int32)), .val (.int (3 : Int32)), .val (.int v3)] X0 hx (dd d3_27) rfl rfl ?_
  refine Gz.lloadN 30 X0 hx (dd d3_29) rfl rfl ?_
  refine Gz.lloadN 31 X0 hx (dd d3_30) rfl rfl ?_
  refine Gz.iload 33 X0 hx (dd d3_31) rfl rfl ?_
  refine Gz.i2l 34 X0 hx (dd d3_33) rfl ?_
  refine Gz.lmul 35 X0 hx (dd d3_34) rfl ?_
  refine Gz.ladd 36 X0 hx (dd d3_35) rfl ?_
  refine Gz.lstoreN 37 #[.val (.ref a0), .val (.long (((((0 : Int64) + ((0 : Int64) * (v0.toInt64))) + (((0 : Int64) + (v0.toInt64)) * (v1.toInt64))) + ((((0 : Int64) + (v0.toInt64)) + (v1.toInt64)) * (v2.toInt64))) + (((((0 : Int64) + (v0.toInt64)) + (v1.toInt64)) + (v2.toInt64)) * (v3.toInt64)))), .second, .val (.long ((((0 : Int64) + (v0.toInt64)) + (v1.toInt64)) + (v2.toInt64))), .second, .val (.ref a0), .val (.int (4 : Int32)), .val (.int (3 : Int32)), .val (.int v3)] X0 hx (dd d3_36) rfl rfl ?_
  refine Gz.lloadN 38 X0 hx (dd d3_37) rfl rfl ?_
  refine Gz.iload 40 X0 hx (dd d3_38) rfl rfl ?_
  refine Gz.i2l 41 X0 hx (dd d3_40) rfl ?_
  refine Gz.ladd 42 X0 hx (dd d3_41) rfl ?_
  refine Gz.lstoreN 43 #[.val (.ref a0), .val (.long (((((0 : Int64) + ((0 : Int64) * (v0.toInt64))) + (((0 : Int64) + (v0.toInt64)) * (v1.toInt64))) + ((((0 : Int64) + (v0.toInt64)) + (v1.toInt64)) * (v2.toInt64))) + (((((0 : Int64) + (v0.toInt64)) + (v1.toInt64)) + (v2.toInt64)) * (v3.toInt64)))), .second, .val (.long (((((0 : Int64) + (v0.toInt64)) + (v1.toInt64)) + (v2.toInt64)) + (v3.toInt64))), .second, .val (.ref a0), .val (.int (4 : Int32)), .val (.int (3 : Int32)), .val (.int v3)] X0 hx (dd d3_42) rfl rfl ?_
  refine Gz.iinc 46 #[.val (.ref a0), .val (.long (((((0 : Int64) + ((0 : Int64) * (v0.toInt64))) + (((0 : Int64) + (v0.toInt64)) * (v1.toInt64))) + ((((0 : Int64) + (v0.toInt64)) + (v1.toInt64)) * (v2.toInt64))) + (((((0 : Int64) + (v0.toInt64)) + (v1.toInt64)) + (v2.toInt64)) * (v3.toInt64)))), .second, .val (.long (((((0 : Int64) + (v0.toInt64)) + (v1.toInt64)) + (v2.toInt64)) + (v3.toInt64))), .second, .val (.ref a0), .val (.int (4 : Int32)), .val (.int (4 : Int32)), .val (.int v3)] X0 hx (dd d3_43) rfl rfl rfl ?_
  refine Gz.goto 15 X0 hx (dd d3_46) (by decide) (by decide) ?_
  refine Gz.iload 17 X0 hx (dd d3_15) rfl rfl ?_
  refine Gz.iload 19 X0 hx (dd d3_17) rfl rfl ?_
  refine Gz.icmpYes 49 X0 hx (dd d3_19) (flt (by decide : ¬ ((4 : Int32) < (4 : Int32)))).2.1 (by decide) (by decide) ?_
  refine Gz.lloadN 50 X0 hx (dd d3_49) rfl rfl ?_
  refine Gz.fin X0 (v := some (.long (((((0 : Int64) + ((0 : Int64) * (v0.toInt64))) + (((0 : Int64) + (v0.toInt64)) * (v1.toInt64))) + ((((0 : Int64) + (v0.toInt64)) + (v1.toInt64)) * (v2.toInt64))) + (((((0 : Int64) + (v0.toInt64)) + (v1.toInt64)) + (v2.toInt64)) * (v3.toInt64))))) (fun h => by rw [hret] at h; cases h) hlk (by decide) (by decide) (fun fs hr => retJ X0 hx hret (dd d3_50) hr) ?_
  rw [e0]
  exact ⟨rfl, N0, rfl⟩
theorem ef_rm3_5 (m : MethodId) (a0 : Addr) : entryFrame m #[(.ref a0)] 9 = mkF m 0 #[.val (.ref a0), .unset, .unset, .unset, .unset, .unset, .unset, .unset, .unset] [] := by first | (simp [entryFrame, mkF, argsToLocals, Value.category]; done) | rfl
def f3_5 (a0 : Addr) (v0 : Int32) (v1 : Int32) (v2 : Int32) (v3 : Int32) (v4 : Int32) : Int64 := ((((((0 : Int64) + ((0 : Int64) * (v0.toInt64))) + (((0 : Int64) + (v0.toInt64)) * (v1.toInt64))) + ((((0 : Int64) + (v0.toInt64)) + (v1.toInt64)) * (v2.toInt64))) + (((((0 : Int64) + (v0.toInt64)) + (v1.toInt64)) + (v2.toInt64)) * (v3.toInt64))) + ((((((0 : Int64) + (v0.toInt64)) + (v1.toInt64)) + (v2.toInt64)) + (v3.toInt64)) * (v4.toInt64)))
def Q_rm3_5 (Z : State) (a0 : Addr) (k_a0 : ClassId) (v0 : Int32) (v1 : Int32) (v2 : Int32) (v3 : Int32) (v4 : Int32) (h0 : Heap) (n0 : Nat) (v : Option Value) (h : Heap) (L : List Loc) : Prop := v = some (.long (f3_5 a0 v0 v1 v2 v3 v4)) ∧ Fr n0 L ∧ h = h0
set_option maxRecDepth 65536 in
set_option maxHeartbeats 40000000 in
theorem rm3_5 (l : Launch) (Z : State) (av0 : Array Value) (hw : ∀ d ∈ tables_1, d.before av0 Z = true) (ws : List Jvm.Cond) (a0 : Addr) (k_a0 : ClassId) (v0 : Int32) (v1 : Int32) (v2 : Int32) (v3 : Int32) (v4 : Int32) (h0 : Heap) (n0 : Nat) (Z0 : n0 ≤ h0.size) (V_a0 : Arv Z h0 a0 k_a0 .int (5 : Int32) [(.int v0), (.int v1), (.int v2), (.int v3), (.int v4)] (.int (0 : Int32))) :
    MetFree l (⟨"com/example/minsuite/minsuite/ValuePairs", "count", "([I)J"⟩ : MethodName) (head1 (Jvm.Cond.code (⟨"com/example/minsuite/minsuite/ValuePairs", "count", "([I)J"⟩ : MethodName) prog_43_method_2_code 9 (some .long) :: ws) ({ frames := 0, cells := 0, slots := 0, locals := 0 } : Room)) (fun a U => a = #[(.ref a0)] ∧ Z.Warmed39 U.vm ∧ U.heap = h0) (fun _ _ _ _ _ => True) (fun _ U o U' => ∃ v L, o = .returned v ∧ Q_rm3_5 Z a0 k_a0 v0 v1 v2 v3 v4 h0 n0 v U'.heap L ∧ FrameEnd U o U' L ({ frames := 0, cells := 0, slots := 0, locals := 0 } : Room).cells ({ frames := 0, cells := 0, slots := 0, locals := 0 } : Room).slots) := by
  refine MetFree.of_bodySF (plainFor_of_name pn_1) hisR ?_
  intro p e s m args below meth c s₁ Bd hml0 hP hK
  obtain ⟨rfl, hZ, hh⟩ := hP
  have hx := Bd.exec
  have hby := Bd.bytes
  have hml : c.maxLocals = 9 := hml0
  have dd : ∀ {pc : Nat} {r : Except DecodeError (Instr × Nat)}, decode prog_43_method_2_code pc = r → decode c.code pc = r := fun q => hb hby q
  have hown : s.vm.findClass "com/example/minsuite/minsuite/ValuePairs" = some m.cls := findClass_of_methodNamed Bd.named
  have hnm := (name_of_methodNamed Bd.named Bd.method).1
  have X0 : Stand p l e ({ frames := 0, cells := 0, slots := 0, locals := 0 } : Room) s m #[(.ref a0)] below meth c s₁ [] 0 0 := Stand.of_body Bd
  have e0 : s₁.heap = h0 := by rw [← hh, Bd.state]; rfl
  have N0 := Fr.nil n0
  have hret := Bd.returns
  have hlk := Bd.notSynchronized
  show Gz p e below s ({ frames := 0, cells := 0, slots := 0, locals := 0 } : Room).cells ({ frames := 0, cells := 0, slots := 0, locals := 0 } : Room).slots (Q_rm3_5 Z a0 k_a0 v0 v1 v2 v3 v4 h0 n0) (s₁.setTop (entryFrame m #[(.ref a0)] 9))
  refine Gz.enter (ef_rm3_5 m a0) ?_
  refine Gz.lconst 1 (0 : Int64) X0 hx (dd d3_0) rfl rfl ?_
  refine Gz.lstoreN 2 #[.val (.ref a0), .val (.long (0 : Int64)), .second, .unset, .unset, .unset, .unset, .unset, .unset] X0 hx (dd d3_1) rfl rfl ?_
  refine Gz.lconst 3 (0 : Int64) X0 hx (dd d3_2) rfl rfl ?_
  refine Gz.lstoreN 4 #[.val (.ref a0), .val (.long (0 : Int64)), .second, .val (.long (0 : Int64)), .second, .unset, .unset, .unset, .unset] X0 hx (dd d3_3) rfl rfl ?_
  refine Gz.aloadN 5 X0 hx (dd d3_4) rfl rfl rfl ?_
  refine Gz.astore 7 #[.val (.ref a0), .val (.long (0 : Int64)), .second, .val (.long (0 : Int64)), .second, .val (.ref a0), .unset, .unset, .unset] X0 hx (dd d3_5) rfl rfl rfl ?_
  refine Gz.aload 9 X0 hx (dd d3_7) rfl rfl rfl ?_
  obtain ⟨c1, A1, -, S1, N1, -, -⟩ := id V_a0
  refine Gz.alen 10 X0 hx hZ (dd d3_9) e0 A1 S1 N1 rfl ?_
  refine Gz.istore 12 #[.val (.ref a0), .val (.long (0 : Int64)), .second, .val (.long (0 : Int64)), .second, .val (.ref a0), .val (.int (5 : Int32)), .unset, .unset] X0 hx (dd d3_10) rfl rfl ?_
  refine Gz.iconst 13 (0 : Int32) X0 hx (dd d3_12) rfl rfl ?_
  refine Gz.istore 15 #[.val (.ref a0), .val (.long (0 : Int64)), .second, .val (.long (0 : Int64)), .second, .val (.ref a0), .val (.int (5 : Int32)), .val (.int (0 : Int32)), .unset] X0 hx (dd d3_13) rfl rfl ?_
  refine Gz.iload 17 X0 hx (dd d3_15) rfl rfl ?_
  refine Gz.iload 19 X0 hx (dd d3_17) rfl rfl ?_
  refine Gz.icmpNo 22 X0 hx (dd d3_19) (tlt (by decide : (0 : Int32) < (5 : Int32))).2.1 rfl ?_
  refine Gz.aload 24 X0 hx (dd d3_22) rfl rfl rfl ?_
  refine Gz.iload 26 X0 hx (dd d3_24) rfl rfl ?_
  obtain ⟨c2, A2, q2, S2, N2, H2, G2⟩ := id V_a0
  have hin2 : ¬ ((0 : Int32) < 0 ∨ c2.slots.size ≤ ((0 : Int32)).toNatClampNeg) := inb_of S2 ⟨by decide, by decide⟩
  refine Gz.ldI 27 X0 hx hZ (dd d3_26) e0 A2 hin2 (Has.at H2 hin2 (rfl : _ = ((.int v0) : Value))) rfl ?_
  refine Gz.istore 29 #[.val (.ref a0), .val (.long (0 : Int64)), .second, .val (.long (0 : Int64)), .second, .val (.ref a0), .val (.int (5 : Int32)), .val (.int (0 : Int32)), .val (.int v0)] X0 hx (dd d3_27) rfl rfl ?_
  refine Gz.lloadN 30 X0 hx (dd d3_29) rfl rfl ?_
  refine Gz.lloadN 31 X0 hx (dd d3_30) rfl rfl ?_
  refine Gz.iload 33 X0 hx (dd d3_31) rfl rfl ?_
  refine Gz.i2l 34 X0 hx (dd d3_33) rfl ?_
  refine Gz.lmul 35 X0 hx (dd d3_34) rfl ?_
  refine Gz.ladd 36 X0 hx (dd d3_35) rfl ?_
  refine Gz.lstoreN 37 #[.val (.ref a0), .val (.long ((0 : Int64) + ((0 : Int64) * (v0.toInt64)))), .second, .val (.long (0 : Int64)), .second, .val (.ref a0), .val (.int (5 : Int32)), .val (.int (0 : Int32)), .val (.int v0)] X0 hx (dd d3_36) rfl rfl ?_
  refine Gz.lloadN 38 X0 hx (dd d3_37) rfl rfl ?_
  refine Gz.iload 40 X0 hx (dd d3_38) rfl rfl ?_
  refine Gz.i2l 41 X0 hx (dd d3_40) rfl ?_
  refine Gz.ladd 42 X0 hx (dd d3_41) rfl ?_
  refine Gz.lstoreN 43 #[.val (.ref a0), .val (.long ((0 : Int64) + ((0 : Int64) * (v0.toInt64)))), .second, .val (.long ((0 : Int64) + (v0.toInt64))), .second, .val (.ref a0), .val (.int (5 : Int32)), .val (.int (0 : Int32)), .val (.int v0)] X0 hx (dd d3_42) rfl rfl ?_
  refine Gz.iinc 46 #[.val (.ref a0), .val (.long ((0 : Int64) + ((0 : Int64) * (v0.toInt64)))), .second, .val (.long ((0 : Int64) + (v0.toInt64))), .second, .val (.ref a0), .val (.int (5 : Int32)), .val (.int (1 : Int32)), .val (.int v0)] X0 hx (dd d3_43) rfl rfl rfl ?_
  refine Gz.goto 15 X0 hx (dd d3_46) (by decide) (by decide) ?_
  refine Gz.iload 17 X0 hx (dd d3_15) rfl rfl ?_
  refine Gz.iload 19 X0 hx (dd d3_17) rfl rfl ?_
  refine Gz.icmpNo 22 X0 hx (dd d3_19) (tlt (by decide : (1 : Int32) < (5 : Int32))).2.1 rfl ?_
  refine Gz.aload 24 X0 hx (dd d3_22) rfl rfl rfl ?_
  refine Gz.iload 26 X0 hx (dd d3_24) rfl rfl ?_
  obtain ⟨c3, A3, q3, S3, N3, H3, G3⟩ := id V_a0
  have hin3 : ¬ ((1 : Int32) < 0 ∨ c3.slots.size ≤ ((1 : Int32)).toNatClampNeg) := inb_of S3 ⟨by decide, by decide⟩
  refine Gz.ldI 27 X0 hx hZ (dd d3_26) e0 A3 hin3 (Has.at H3 hin3 (rfl : _ = ((.int v1) : Value))) rfl ?_
  refine Gz.istore 29 #[.val (.ref a0), .val (.long ((0 : Int64) + ((0 : Int64) * (v0.toInt64)))), .second, .val (.long ((0 : Int64) + (v0.toInt64))), .second, .val (.ref a0), .val (.int (5 : Int32)), .val (.int (1 : Int32)), .val (.int v1)] X0 hx (dd d3_27) rfl rfl ?_
  refine Gz.lloadN 30 X0 hx (dd d3_29) rfl rfl ?_
  refine Gz.lloadN 31 X0 hx (dd d3_30) rfl rfl ?_
  refine Gz.iload 33 X0 hx (dd d3_31) rfl rfl ?_
  refine Gz.i2l 34 X0 hx (dd d3_33) rfl ?_
  refine Gz.lmul 35 X0 hx (dd d3_34) rfl ?_
  refine Gz.ladd 36 X0 hx (dd d3_35) rfl ?_
  refine Gz.lstoreN 37 #[.val (.ref a0), .val (.long (((0 : Int64) + ((0 : Int64) * (v0.toInt64))) + (((0 : Int64) + (v0.toInt64)) * (v1.toInt64)))), .second, .val (.long ((0 : Int64) + (v0.toInt64))), .second, .val (.ref a0), .val (.int (5 : Int32)), .val (.int (1 : Int32)), .val (.int v1)] X0 hx (dd d3_36) rfl rfl ?_
  refine Gz.lloadN 38 X0 hx (dd d3_37) rfl rfl ?_
  refine Gz.iload 40 X0 hx (dd d3_38) rfl rfl ?_
  refine Gz.i2l 41 X0 hx (dd d3_40) rfl ?_
  refine Gz.ladd 42 X0 hx (dd d3_41) rfl ?_
  refine Gz.lstoreN 43 #[.val (.ref a0), .val (.long (((0 : Int64) + ((0 : Int64) * (v0.toInt64))) + (((0 : Int64) + (v0.toInt64)) * (v1.toInt64)))), .second, .val (.long (((0 : Int64) + (v0.toInt64)) + (v1.toInt64))), .second, .val (.ref a0), .val (.int (5 : Int32)), .val (.int (1 : Int32)), .val (.int v1)] X0 hx (dd d3_42) rfl rfl ?_
  refine Gz.iinc 46 #[.val (.ref a0), .val (.long (((0 : Int64) + ((0 : Int64) * (v0.toInt64))) + (((0 : Int64) + (v0.toInt64)) * (v1.toInt64)))), .second, .val (.long (((0 : Int64) + (v0.toInt64)) + (v1.toInt64))), .second, .val (.ref a0), .val (.int (5 : Int32)), .val (.int (2 : Int32)), .val (.int v1)] X0 hx (dd d3_43) rfl rfl rfl ?_
  refine Gz.goto 15 X0 hx (dd d3_46) (by decide) (by decide) ?_
  refine Gz.iload 17 X0 hx (dd d3_15) rfl rfl ?_
  refine Gz.iload 19 X0 hx (dd d3_17) rfl rfl ?_
  refine Gz.icmpNo 22 X0 hx (dd d3_19) (tlt (by decide : (2 : Int32) < (5 : Int32))).2.1 rfl ?_
  refine Gz.aload 24 X0 hx (dd d3_22) rfl rfl rfl ?_
  refine Gz.iload 26 X0 hx (dd d3_24) rfl rfl ?_
  obtain ⟨c4, A4, q4, S4, N4, H4, G4⟩ := id V_a0
  have hin4 : ¬ ((2 : Int32) < 0 ∨ c4.slots.size ≤ ((2 : Int32)).toNatClampNeg) := inb_of S4 ⟨by decide, by decide⟩
  refine Gz.ldI 27 X0 hx hZ (dd d3_26) e0 A4 hin4 (Has.at H4 hin4 (rfl : _ = ((.int v2) : Value))) rfl ?_
  refine Gz.istore 29 #[.val (.ref a0), .val (.long (((0 : Int64) + ((0 : Int64) * (v0.toInt64))) + (((0 : Int64) + (v0.toInt64)) * (v1.toInt64)))), .second, .val (.long (((0 : Int64) + (v0.toInt64)) + (v1.toInt64))), .second, .val (.ref a0), .val (.int (5 : Int32)), .val (.int (2 : Int32)), .val (.int v2)] X0 hx (dd d3_27) rfl rfl ?_
  refine Gz.lloadN 30 X0 hx (dd d3_29) rfl rfl ?_
  refine Gz.lloadN 31 X0 hx (dd d3_30) rfl rfl ?_
  refine Gz.iload 33 X0 hx (dd d3_31) rfl rfl ?_
  refine Gz.i2l 34 X0 hx (dd d3_33) rfl ?_
  refine Gz.lmul 35 X0 hx (dd d3_34) rfl ?_
  refine Gz.ladd 36 X0 hx (dd d3_35) rfl ?_
  refine Gz.lstoreN 37 #[.val (.ref a0), .val (.long ((((0 : Int64) + ((0 : Int64) * (v0.toInt64))) + (((0 : Int64) + (v0.toInt64)) * (v1.toInt64))) + ((((0 : Int64) + (v0.toInt64)) + (v1.toInt64)) * (v2.toInt64)))), .second, .val (.long (((0 : Int64) + (v0.toInt64)) + (v1.toInt64))), .second, .val (.ref a0), .val (.int (5 : Int32)), .val (.int (2 : Int32)), .val (.int v2)] X0 hx (dd d3_36) rfl rfl ?_
  refine Gz.lloadN 38 X0 hx (dd d3_37) rfl rfl ?_
  refine Gz.iload 40 X0 hx (dd d3_38) rfl rfl ?_
  refine Gz.i2l 41 X0 hx (dd d3_40) rfl ?_
  refine Gz.ladd 42 X0 hx (dd d3_41) rfl ?_
  refine Gz.lstoreN 43 #[.val (.ref a0), .val (.long ((((0 : Int64) + ((0 : Int64) * (v0.toInt64))) + (((0 : Int64) + (v0.toInt64)) * (v1.toInt64))) + ((((0 : Int64) + (v0.toInt64)) + (v1.toInt64)) * (v2.toInt64)))), .second, .val (.long ((((0 : Int64) + (v0.toInt64)) + (v1.toInt64)) + (v2.toInt64))), .second, .val (.ref a0), .val (.int (5 : Int32)), .val (.int (2 : Int32)), .val (.int v2)] X0 hx (dd d3_42) rfl rfl ?_
  refine Gz.iinc 46 #[.val (.ref a0), .val (.long ((((0 : Int64) + ((0 : Int64) * (v0.toInt64))) + (((0 : Int64) + (v0.toInt64)) * (v1.toInt64))) + ((((0 : Int64) + (v0.toInt64)) + (v1.toInt64)) * (v2.toInt64)))), .second, .val (.long ((((0 : Int64) + (v0.toInt64)) + (v1.toInt64)) + (v2.toInt64))), .second, .val (.ref a0), .val (.int (5 : Int32)), .val (.int (3 : Int32)), .val (.int v2)] X0 hx (dd d3_43) rfl rfl rfl ?_
  refine Gz.goto 15 X0 hx (dd d3_46) (by decide) (by decide) ?_
  refine Gz.iload 17 X0 hx (dd d3_15) rfl rfl ?_
  refine Gz.iload 19 X0 hx (dd d3_17) rfl rfl ?_
  refine Gz.icmpNo 22 X0 hx (dd d3_19) (tlt (by decide : (3 : Int32) < (5 : Int32))).2.1 rfl ?_
  refine Gz.aload 24 X0 hx (dd d3_22) rfl rfl rfl ?_
  refine Gz.iload 26 X0 hx (dd d3_24) rfl rfl ?_
  obtain ⟨c5, A5, q5, S5, N5, H5, G5⟩ := id V_a0
  have hin5 : ¬ ((3 : Int32) < 0 ∨ c5.slots.size ≤ ((3 : Int32)).toNatClampNeg) := inb_of S5 ⟨by decide, by decide⟩
  refine Gz.ldI 27 X0 hx hZ (dd d3_26) e0 A5 hin5 (Has.at H5 hin5 (rfl : _ = ((.int v3) : Value))) rfl ?_
  refine Gz.istore 29 #[.val (.ref a0), .val (.long ((((0 : Int64) + ((0 : Int64) * (v0.toInt64))) + (((0 : Int64) + (v0.toInt64)) * (v1.toInt64))) + ((((0 : Int64) + (v0.toInt64)) + (v1.toInt64)) * (v2.toInt64)))), .second, .val (.long ((((0 : Int64) + (v0.toInt64)) + (v1.toInt64)) + (v2.toInt64))), .second, .val (.ref a0), .val (.int (5 : Int32)), .val (.int (3 : Int32)), .val (.int v3)] X0 hx (dd d3_27) rfl rfl ?_
  refine Gz.lloadN 30 X0 hx (dd d3_29) rfl rfl ?_
  refine Gz.lloadN 31 X0 hx (dd d3_30) rfl rfl ?_
  refine Gz.iload 33 X0 hx (dd d3_31) rfl rfl ?_
  refine Gz.i2l 34 X0 hx (dd d3_33) rfl ?_
  refine Gz.lmul 35 X0 hx (dd d3_34) rfl ?_
  refine Gz.ladd 36 X0 hx (dd d3_35) rfl ?_
  refine Gz.lstoreN 37 #[.val (.ref a0), .val (.long (((((0 : Int64) + ((0 : Int64) * (v0.toInt64))) + (((0 : Int64) + (v0.toInt64)) * (v1.toInt64))) + ((((0 : Int64) + (v0.toInt64)) + (v1.toInt64)) * (v2.toInt64))) + (((((0 : Int64) + (v0.toInt64)) + (v1.toInt64)) + (v2.toInt64)) * (v3.toInt64)))), .second, .val (.long ((((0 : Int64) + (v0.toInt64)) + (v1.toInt64)) + (v2.toInt64))), .second, .val (.ref a0), .val (.int (5 : Int32)), .val (.int (3 : Int32)), .val (.int v3)] X0 hx (dd d3_36) rfl rfl ?_
  refine Gz.lloadN 38 X0 hx (dd d3_37) rfl rfl ?_
  refine Gz.iload 40 X0 hx (dd d3_38) rfl rfl ?_
  refine Gz.i2l 41 X0 hx (dd d3_40) rfl ?_
  refine Gz.ladd 42 X0 hx (dd d3_41) rfl ?_
  refine Gz.lstoreN 43 #[.val (.ref a0), .val (.long (((((0 : Int64) + ((0 : Int64) * (v0.toInt64))) + (((0 : Int64) + (v0.toInt64)) * (v1.toInt64))) + ((((0 : Int64) + (v0.toInt64)) + (v1.toInt64)) * (v2.toInt64))) + (((((0 : Int64) + (v0.toInt64)) + (v1.toInt64)) + (v2.toInt64)) * (v3.toInt64)))), .second, .val (.long (((((0 : Int64) + (v0.toInt64)) + (v1.toInt64)) + (v2.toInt64)) + (v3.toInt64))), .second, .val (.ref a0), .val (.int (5 : Int32)), .val (.int (3 : Int32)), .val (.int v3)] X0 hx (dd d3_42) rfl rfl ?_
  refine Gz.iinc 46 #[.val (.ref a0), .val (.long (((((0 : Int64) + ((0 : Int64) * (v0.toInt64))) + (((0 : Int64) + (v0.toInt64)) * (v1.toInt64))) + ((((0 : Int64) + (v0.toInt64)) + (v1.toInt64)) * (v2.toInt64))) + (((((0 : Int64) + (v0.toInt64)) + (v1.toInt64)) + (v2.toInt64)) * (v3.toInt64)))), .second, .val (.long (((((0 : Int64) + (v0.toInt64)) + (v1.toInt64)) + (v2.toInt64)) + (v3.toInt64))), .second, .val (.ref a0), .val (.int (5 : Int32)), .val (.int (4 : Int32)), .val (.int v3)] X0 hx (dd d3_43) rfl rfl rfl ?_
  refine Gz.goto 15 X0 hx (dd d3_46) (by decide) (by decide) ?_
  refine Gz.iload 17 X0 hx (dd d3_15) rfl rfl ?_
  refine Gz.iload 19 X0 hx (dd d3_17) rfl rfl ?_
  refine Gz.icmpNo 22 X0 hx (dd d3_19) (tlt (by decide : (4 : Int32) < (5 : Int32))).2.1 rfl ?_
  refine Gz.aload 24 X0 hx (dd d3_22) rfl rfl rfl ?_
  refine Gz.iload 26 X0 hx (dd d3_24) rfl rfl ?_
  obtain ⟨c6, A6, q6, S6, N6, H6, G6⟩ := id V_a0
  have hin6 : ¬ ((4 : Int32) < 0 ∨ c6.slots.size ≤ ((4 : Int32)).toNatClampNeg) := inb_of S6 ⟨by decide, by decide⟩
  refine Gz.ldI 27 X0 hx hZ (dd d3_26) e0 A6 hin6 (Has.at H6 hin6 (rfl : _ = ((.int v4) : Value))) rfl ?_
  refine Gz.istore 29 #[.val (.ref a0), .val (.long (((((0 : Int64) + ((0 : Int64) * (v0.toInt64))) + (((0 : Int64) + (v0.toInt64)) * (v1.toInt64))) + ((((0 : Int64) + (v0.toInt64)) + (v1.toInt64)) * (v2.toInt64))) + (((((0 : Int64) + (v0.toInt64)) + (v1.toInt64)) + (v2.toInt64)) * (v3.toInt64)))), .second, .val (.long (((((0 : Int64) + (v0.toInt64)) + (v1.toInt64)) + (v2.toInt64)) + (v3.toInt64))), .second, .val (.ref a0), .val (.int (5 : Int32)), .val (.int (4 : Int32)), .val (.int v4)] X0 hx (dd d3_27) rfl rfl ?_
  refine Gz.lloadN 30 X0 hx (dd d3_29) rfl rfl ?_
  refine Gz.lloadN 31 X0 hx (dd d3_30) rfl rfl ?_
  refine Gz.iload 33 X0 hx (dd d3_31) rfl rfl ?_
  refine Gz.i2l 34 X0 hx (dd d3_33) rfl ?_
  refine Gz.lmul 35 X0 hx (dd d3_34) rfl ?_
  refine Gz.ladd 36 X0 hx (dd d3_35) rfl ?_
  refine Gz.lstoreN 37 #[.val (.ref a0), .val (.long ((((((0 : Int64) + ((0 : Int64) * (v0.toInt64))) + (((0 : Int64) + (v0.toInt64)) * (v1.toInt64))) + ((((0 : Int64) + (v0.toInt64)) + (v1.toInt64)) * (v2.toInt64))) + (((((0 : Int64) + (v0.toInt64)) + (v1.toInt64)) + (v2.toInt64)) * (v3.toInt64))) + ((((((0 : Int64) + (v0.toInt64)) + (v1.toInt64)) + (v2.toInt64)) + (v3.toInt64)) * (v4.toInt64)))), .second, .val (.long (((((0 : Int64) + (v0.toInt64)) + (v1.toInt64)) + (v2.toInt64)) + (v3.toInt64))), .second, .val (.ref a0), .val (.int (5 : Int32)), .val (.int (4 : Int32)), .val (.int v4)] X0 hx (dd d3_36) rfl rfl ?_
  refine Gz.lloadN 38 X0 hx (dd d3_37) rfl rfl ?_
  refine Gz.iload 40 X0 hx (dd d3_38) rfl rfl ?_
  refine Gz.i2l 41 X0 hx (dd d3_40) rfl ?_
  refine Gz.ladd 42 X0 hx (dd d3_41) rfl ?_
  refine Gz.lstoreN 43 #[.val (.ref a0), .val (.long ((((((0 : Int64) + ((0 : Int64) * (v0.toInt64))) + (((0 : Int64) + (v0.toInt64)) * (v1.toInt64))) + ((((0 : Int64) + (v0.toInt64)) + (v1.toInt64)) * (v2.toInt64))) + (((((0 : Int64) + (v0.toInt64)) + (v1.toInt64)) + (v2.toInt64)) * (v3.toInt64))) + ((((((0 : Int64) + (v0.toInt64)) + (v1.toInt64)) + (v2.toInt64)) + (v3.toInt64)) * (v4.toInt64)))), .second, .val (.long ((((((0 : Int64) + (v0.toInt64)) + (v1.toInt64)) + (v2.toInt64)) + (v3.toInt64)) + (v4.toInt64))), .second, .val (.ref a0), .val (.int (5 : Int32)), .val (.int (4 : Int32)), .val (.int v4)] X0 hx (dd d3_42) rfl rfl ?_
  refine Gz.iinc 46 #[.val (.ref a0), .val (.long ((((((0 : Int64) + ((0 : Int64) * (v0.toInt64))) + (((0 : Int64) + (v0.toInt64)) * (v1.toInt64))) + ((((0 : Int64) + (v0.toInt64)) + (v1.toInt64)) * (v2.toInt64))) + (((((0 : Int64) + (v0.toInt64)) + (v1.toInt64)) + (v2.toInt64)) * (v3.toInt64))) + ((((((0 : Int64) + (v0.toInt64)) + (v1.toInt64)) + (v2.toInt64)) + (v3.toInt64)) * (v4.toInt64)))), .second, .val (.long ((((((0 : Int64) + (v0.toInt64)) + (v1.toInt64)) + (v2.toInt64)) + (v3.toInt64)) + (v4.toInt64))), .second, .val (.ref a0), .val (.int (5 : Int32)), .val (.int (5 : Int32)), .val (.int v4)] X0 hx (dd d3_43) rfl rfl rfl ?_
  refine Gz.goto 15 X0 hx (dd d3_46) (by decide) (by decide) ?_
  refine Gz.iload 17 X0 hx (dd d3_15) rfl rfl ?_
  refine Gz.iload 19 X0 hx (dd d3_17) rfl rfl ?_
  refine Gz.icmpYes 49 X0 hx (dd d3_19) (flt (by decide : ¬ ((5 : Int32) < (5 : Int32)))).2.1 (by decide) (by decide) ?_
  refine Gz.lloadN 50 X0 hx (dd d3_49) rfl rfl ?_
  refine Gz.fin X0 (v := some (.long ((((((0 : Int64) + ((0 : Int64) * (v0.toInt64))) + (((0 : Int64) + (v0.toInt64)) * (v1.toInt64))) + ((((0 : Int64) + (v0.toInt64)) + (v1.toInt64)) * (v2.toInt64))) + (((((0 : Int64) + (v0.toInt64)) + (v1.toInt64)) + (v2.toInt64)) * (v3.toInt64))) + ((((((0 : Int64) + (v0.toInt64)) + (v1.toInt64)) + (v2.toInt64)) + (v3.toInt64)) * (v4.toInt64))))) (fun h => by rw [hret] at h; cases h) hlk (by decide) (by decide) (fun fs hr => retJ X0 hx hret (dd d3_50) hr) ?_
  rw [e0]
  exact ⟨rfl, N0, rfl⟩
theorem pd_1 : parseMethodDescriptor "(I)I" = some ⟨[.int], some .int⟩ := by decide +kernel
theorem pd_2 : parseMethodDescriptor "([I)J" = some ⟨[(.array .int)], some .long⟩ := by decide +kernel
theorem ef_rm0 (m : MethodId) (p0 : Int32) (p1 : Int32) (p2 : Int32) (p3 : Int32) (p4 : Int32) (p5 : Int32) : entryFrame m #[(.int p0), (.int p1), (.int p2), (.int p3), (.int p4), (.int p5)] maxLocals = mkF m 0 #[.val (.int p0), .val (.int p1), .val (.int p2), .val (.int p3), .val (.int p4), .val (.int p5), .unset, .unset, .unset, .unset, .unset, .unset, .unset, .unset, .unset, .unset, .unset, .unset, .unset, .unset, .unset, .unset, .unset, .unset, .unset, .unset, .unset] [] := by first | (simp [entryFrame, mkF, argsToLocals, Value.category, maxLocals]; done) | rfl
def Q_law (n0 : Nat) (v : Option Value) (h : Heap) (L : List Loc) : Prop := v = some (.int 1) ∧ Fr n0 L
set_option maxRecDepth 65536 in
set_option maxHeartbeats 40000000 in
theorem rm0 (l : Launch) (Z : State) (av0 : Array Value) (hw : ∀ d ∈ tables_1, d.before av0 Z = true) (ws : List Jvm.Cond) (p0 : Int32) (p1 : Int32) (p2 : Int32) (p3 : Int32) (p4 : Int32) (p5 : Int32) (h0 : Heap) (n0 : Nat) (Z0 : n0 ≤ h0.size)  :
    MetFree l x (head1 (Jvm.Cond.code x code maxLocals ret :: ws) room_1) (fun a U => a = #[(.int p0), (.int p1), (.int p2), (.int p3), (.int p4), (.int p5)] ∧ Z.Warmed39 U.vm ∧ U.heap = h0) (fun _ _ _ _ _ => True) (fun _ U o U' => ∃ v L, o = .returned v ∧ Q_law n0 v U'.heap L ∧ FrameEnd U o U' L 16 128) := by
  refine MetFree.of_bodySF (plainFor_of_name pn_0) hisR ?_
  intro p e s m args below meth c s₁ Bd hml0 hP hK
  obtain ⟨rfl, hZ, hh⟩ := hP
  have hx := Bd.exec
  have hby := Bd.bytes
  have hml : c.maxLocals = 27 := hml0
  have dd : ∀ {pc : Nat} {r : Except DecodeError (Instr × Nat)}, decode code pc = r → decode c.code pc = r := fun q => hb hby q
  have hown : s.vm.findClass "com/example/minsuite/minsuite/ValuePairsCountPinLaw" = some m.cls := findClass_of_methodNamed Bd.named
  have hnm := (name_of_methodNamed Bd.named Bd.method).1
  have X0 : Stand p l e room_1 s m #[(.int p0), (.int p1), (.int p2), (.int p3), (.int p4), (.int p5)] below meth c s₁ [] 0 0 := Stand.of_body Bd
  have e0 : s₁.heap = h0 := by rw [← hh, Bd.state]; rfl
  have N0 := Fr.nil n0
  have hret := Bd.returns
  have hlk := Bd.notSynchronized
  show Gz p e below s 16 128 (Q_law n0) (s₁.setTop (entryFrame m #[(.int p0), (.int p1), (.int p2), (.int p3), (.int p4), (.int p5)] maxLocals))
  refine Gz.enter (ef_rm0 m p0 p1 p2 p3 p4 p5) ?_
  refine Gz.iloadN 1 X0 hx (dd at_0) rfl rfl ?_
  refine Gz.ldcI 3 X0 hx (dd at_1) hown (mvT hZ (ww hw 0 rfl)) rfl ?_
  refine Gz.iand 4 X0 hx (dd at_3) rfl ?_
  refine Gz.bipush 6 (6 : Int32) X0 hx (dd at_4) rfl rfl ?_
  refine Gz.irem 7 X0 hx (dd at_6) (by decide) rfl ?_
  show Gz p e below s _ _ _ (s₁.setTop (mkF m 7 #[.val (.int p0), .val (.int p1), .val (.int p2), .val (.int p3), .val (.int p4), .val (.int p5), .unset, .unset, .unset, .unset, .unset, .unset, .unset, .unset, .unset, .unset, .unset, .unset, .unset, .unset, .unset, .unset, .unset, .unset, .unset, .unset, .unset] [(.int ((p0 &&& (2147483647 : Int32)) % (6 : Int32)))]))
  rcases own_six p0 with hs1 | hs1 | hs1 | hs1 | hs1 | hs1
  · rw [hs1]
    refine Gz.istore 9 #[.val (.int p0), .val (.int p1), .val (.int p2), .val (.int p3), .val (.int p4), .val (.int p5), .val (.int (0 : Int32)), .unset, .unset, .unset, .unset, .unset, .unset, .unset, .unset, .unset, .unset, .unset, .unset, .unset, .unset, .unset, .unset, .unset, .unset, .unset, .unset] X0 hx (dd at_7) rfl rfl ?_
    refine Gz.iloadN 10 X0 hx (dd at_9) rfl rfl ?_
    obtain ⟨_, _, ⟨T2, L2, k2, n2⟩, -, X2, ⟨Lc2, hQ2, l2, y2, z2⟩, st2⟩ := Jvm.LawKit.callS X0 hx (y := (⟨"com/example/minsuite/minsuite/ValuePairsCountPinLaw", "positive", "(I)I"⟩ : MethodName)) hown (mvT hZ (ww hw 1 rfl)) (mvT hZ (ww hw 2 rfl)) (mvT hZ (ww hw 3 rfl)) (mvT hZ (ww hw 4 rfl)) (by decide) (backOf (W := 0) (rm1 l Z av0 hw [] p1  h0 n0 Z0 ) hZ (ww hw 4 rfl) (ww hw 3 rfl) (by decide) (by decide)) (g := (mkF m 10 #[.val (.int p0), .val (.int p1), .val (.int p2), .val (.int p3), .val (.int p4), .val (.int p5), .val (.int (0 : Int32)), .unset, .unset, .unset, .unset, .unset, .unset, .unset, .unset, .unset, .unset, .unset, .unset, .unset, .unset, .unset, .unset, .unset, .unset, .unset, .unset] [(.int p1)])) rfl (by rw [hml]; rfl) (argsL := [(.int p1)]) (rest := []) (lenOf pd_1 rfl) rfl (by show 2 * 0 + _ ≤ _; exact Nat.le_of_eq rfl) (dd at_10) (fun _ _ => ⟨rfl, e0, (by decide : 0 + 0 ≤ _), (by decide : 0 + 0 ≤ _)⟩)
    dsimp only [Pt.U, Pt.locs, Pt.cells, Pt.slots, Q_rm1] at X2 l2 y2 z2 st2 hQ2
    subst l2 y2 z2
    generalize (f1 p1) = r2 at hQ2
    obtain ⟨rfl, N2q, e2⟩ := hQ2
    have N2 := Fr.app N0 N2q
    refine Gz.st st2 ?_
    refine Gz.istore 15 #[.val (.int p0), .val (.int p1), .val (.int p2), .val (.int p3), .val (.int p4), .val (.int p5), .val (.int (0 : Int32)), .val (.int r2), .unset, .unset, .unset, .unset, .unset, .unset, .unset, .unset, .unset, .unset, .unset, .unset, .unset, .unset, .unset, .unset, .unset, .unset, .unset] X2 hx (dd at_13) rfl rfl ?_
    refine Gz.iloadN 16 X2 hx (dd at_15) rfl rfl ?_
    obtain ⟨_, _, ⟨T3, L3, k3, n3⟩, -, X3, ⟨Lc3, hQ3, l3, y3, z3⟩, st3⟩ := Jvm.LawKit.callS X2 hx (y := (⟨"com/example/minsuite/minsuite/ValuePairsCountPinLaw", "positive", "(I)I"⟩ : MethodName)) hown (mvT hZ (ww hw 1 rfl)) (mvT hZ (ww hw 2 rfl)) (mvT hZ (ww hw 3 rfl)) (mvT hZ (ww hw 4 rfl)) (by decide) (backOf (W := 0) (rm1 l Z av0 hw [] p2  h0 n0 Z0 ) hZ (ww hw 4 rfl) (ww hw 3 rfl) (by decide) (by decide)) (g := (mkF m 16 #[.val (.int p0), .val (.int p1), .val (.int p2), .val (.int p3), .val (.int p4), .val (.int p5), .val (.int (0 : Int32)), .val (.int r2), .unset, .unset, .unset, .unset, .unset, .unset, .unset, .unset, .unset, .unset, .unset, .unset, .unset, .unset, .unset, .unset, .unset, .unset, .unset] [(.int p2)])) rfl (by rw [hml]; rfl) (argsL := [(.int p2)]) (rest := []) (lenOf pd_1 rfl) rfl (by show 2 * 0 + _ ≤ _; exact Nat.le_of_eq rfl) (dd at_16) (fun _ _ => ⟨rfl, e2, (by decide : 0 + 0 ≤ _), (by decide : 0 + 0 ≤ _)⟩)
    dsimp only [Pt.U, Pt.locs, Pt.cells, Pt.slots, Q_rm1] at X3 l3 y3 z3 st3 hQ3
    subst l3 y3 z3
    generalize (f1 p2) = r3 at hQ3
    obtain ⟨rfl, N3q, e3⟩ := hQ3
    have N3 := Fr.app N2 N3q
    refine Gz.st st3 ?_
    refine Gz.istore 21 #[.val (.int p0), .val (.int p1), .val (.int p2), .val (.int p3), .val (.int p4), .val (.int p5), .val (.int (0 : Int32)), .val (.int r2), .val (.int r3), .unset, .unset, .unset, .unset, .unset, .unset, .unset, .unset, .unset, .unset, .unset, .unset, .unset, .unset, .unset, .unset, .unset, .unset] X3 hx (dd at_19) rfl rfl ?_
    refine Gz.iloadN 22 X3 hx (dd at_21) rfl rfl ?_
    obtain ⟨_, _, ⟨T4, L4, k4, n4⟩, -, X4, ⟨Lc4, hQ4, l4, y4, z4⟩, st4⟩ := Jvm.LawKit.callS X3 hx (y := (⟨"com/example/minsuite/minsuite/ValuePairsCountPinLaw", "positive", "(I)I"⟩ : MethodName)) hown (mvT hZ (ww hw 1 rfl)) (mvT hZ (ww hw 2 rfl)) (mvT hZ (ww hw 3 rfl)) (mvT hZ (ww hw 4 rfl)) (by decide) (backOf (W := 0) (rm1 l Z av0 hw [] p3  h0 n0 Z0 ) hZ (ww hw 4 rfl) (ww hw 3 rfl) (by decide) (by decide)) (g := (mkF m 22 #[.val (.int p0), .val (.int p1), .val (.int p2), .val (.int p3), .val (.int p4), .val (.int p5), .val (.int (0 : Int32)), .val (.int r2), .val (.int r3), .unset, .unset, .unset, .unset, .unset, .unset, .unset, .unset, .unset, .unset, .unset, .unset, .unset, .unset, .unset, .unset, .unset, .unset] [(.int p3)])) rfl (by rw [hml]; rfl) (argsL := [(.int p3)]) (rest := []) (lenOf pd_1 rfl) rfl (by show 2 * 0 + _ ≤ _; exact Nat.le_of_eq rfl) (dd at_22) (fun _ _ => ⟨rfl, e3, (by decide : 0 + 0 ≤ _), (by decide : 0 + 0 ≤ _)⟩)
    dsimp only [Pt.U, Pt.locs, Pt.cells, Pt.slots, Q_rm1] at X4 l4 y4 z4 st4 hQ4
    subst l4 y4 z4
    generalize (f1 p3) = r4 at hQ4
    obtain ⟨rfl, N4q, e4⟩ := hQ4
    have N4 := Fr.app N3 N4q
    refine Gz.st st4 ?_
    refine Gz.istore 27 #[.val (.int p0), .val (.int p1), .val (.int p2), .val (.int p3), .val (.int p4), .val (.int p5), .val (.int (0 : Int32)), .val (.int r2), .val (.int r3), .val (.int r4), .unset, .unset, .unset, .unset, .unset, .unset, .unset, .unset, .unset, .unset, .unset, .unset, .unset, .unset, .unset, .unset, .unset] X4 hx (dd at_25) rfl rfl ?_
    refine Gz.iload 29 X4 hx (dd at_27) rfl rfl ?_
    obtain ⟨_, _, ⟨T5, L5, k5, n5⟩, -, X5, ⟨Lc5, hQ5, l5, y5, z5⟩, st5⟩ := Jvm.LawKit.callS X4 hx (y := (⟨"com/example/minsuite/minsuite/ValuePairsCountPinLaw", "positive", "(I)I"⟩ : MethodName)) hown (mvT hZ (ww hw 1 rfl)) (mvT hZ (ww hw 2 rfl)) (mvT hZ (ww hw 3 rfl)) (mvT hZ (ww hw 4 rfl)) (by decide) (backOf (W := 0) (rm1 l Z av0 hw [] p4  h0 n0 Z0 ) hZ (ww hw 4 rfl) (ww hw 3 rfl) (by decide) (by decide)) (g := (mkF m 29 #[.val (.int p0), .val (.int p1), .val (.int p2), .val (.int p3), .val (.int p4), .val (.int p5), .val (.int (0 : Int32)), .val (.int r2), .val (.int r3), .val (.int r4), .unset, .unset, .unset, .unset, .unset, .unset, .unset, .unset, .unset, .unset, .unset, .unset, .unset, .unset, .unset, .unset, .unset] [(.int p4)])) rfl (by rw [hml]; rfl) (argsL := [(.int p4)]) (rest := []) (lenOf pd_1 rfl) rfl (by show 2 * 0 + _ ≤ _; exact Nat.le_of_eq rfl) (dd at_29) (fun _ _ => ⟨rfl, e4, (by decide : 0 + 0 ≤ _), (by decide : 0 + 0 ≤ _)⟩)
    dsimp only [Pt.U, Pt.locs, Pt.cells, Pt.slots, Q_rm1] at X5 l5 y5 z5 st5 hQ5
    subst l5 y5 z5
    generalize (f1 p4) = r5 at hQ5
    obtain ⟨rfl, N5q, e5⟩ := hQ5
    have N5 := Fr.app N4 N5q
    refine Gz.st st5 ?_
    refine Gz.istore 34 #[.val (.int p0), .val (.int p1), .val (.int p2), .val (.int p3), .val (.int p4), .val (.int p5), .val (.int (0 : Int32)), .val (.int r2), .val (.int r3), .val (.int r4), .val (.int r5), .unset, .unset, .unset, .unset, .unset, .unset, .unset, .unset, .unset, .unset, .unset, .unset, .unset, .unset, .unset, .unset] X5 hx (dd at_32) rfl rfl ?_
    refine Gz.iload 36 X5 hx (dd at_34) rfl rfl ?_
    obtain ⟨_, _, ⟨T6, L6, k6, n6⟩, -, X6, ⟨Lc6, hQ6, l6, y6, z6⟩, st6⟩ := Jvm.LawKit.callS X5 hx (y := (⟨"com/example/minsuite/minsuite/ValuePairsCountPinLaw", "positive", "(I)I"⟩ : MethodName)) hown (mvT hZ (ww hw 1 rfl)) (mvT hZ (ww hw 2 rfl)) (mvT hZ (ww hw 3 rfl)) (mvT hZ (ww hw 4 rfl)) (by decide) (backOf (W := 0) (rm1 l Z av0 hw [] p5  h0 n0 Z0 ) hZ (ww hw 4 rfl) (ww hw 3 rfl) (by decide) (by decide)) (g := (mkF m 36 #[.val (.int p0), .val (.int p1), .val (.int p2), .val (.int p3), .val (.int p4), .val (.int p5), .val (.int (0 : Int32)), .val (.int r2), .val (.int r3), .val (.int r4), .val (.int r5), .unset, .unset, .unset, .unset, .unset, .unset, .unset, .unset, .unset, .unset, .unset, .unset, .unset, .unset, .unset, .unset] [(.int p5)])) rfl (by rw [hml]; rfl) (argsL := [(.int p5)]) (rest := []) (lenOf pd_1 rfl) rfl (by show 2 * 0 + _ ≤ _; exact Nat.le_of_eq rfl) (dd at_36) (fun _ _ => ⟨rfl, e5, (by decide : 0 + 0 ≤ _), (by decide : 0 + 0 ≤ _)⟩)
    dsimp only [Pt.U, Pt.locs, Pt.cells, Pt.slots, Q_rm1] at X6 l6 y6 z6 st6 hQ6
    subst l6 y6 z6
    generalize (f1 p5) = r6 at hQ6
    obtain ⟨rfl, N6q, e6⟩ := hQ6
    have N6 := Fr.app N5 N6q
    refine Gz.st st6 ?_
    refine Gz.istore 41 #[.val (.int p0), .val (.int p1), .val (.int p2), .val (.int p3), .val (.int p4), .val (.int p5), .val (.int (0 : Int32)), .val (.int r2), .val (.int r3), .val (.int r4), .val (.int r5), .val (.int r6), .unset, .unset, .unset, .unset, .unset, .unset, .unset, .unset, .unset, .unset, .unset, .unset, .unset, .unset, .unset] X6 hx (dd at_39) rfl rfl ?_
    refine Gz.iload 43 X6 hx (dd at_41) rfl rfl ?_
    obtain ⟨T7, h7, k7, X7, e7, E7, A7, Q7, st7⟩ := newPE X6 hx hZ (ww hw 9 rfl) e6 (g := (mkF m 43 #[.val (.int p0), .val (.int p1), .val (.int p2), .val (.int p3), .val (.int p4), .val (.int p5), .val (.int (0 : Int32)), .val (.int r2), .val (.int r3), .val (.int r4), .val (.int r5), .val (.int r6), .unset, .unset, .unset, .unset, .unset, .unset, .unset, .unset, .unset, .unset, .unset, .unset, .unset, .unset, .unset] [(.int (0 : Int32))])) rfl (dd at_43) rfl (by decide) (cap := 0) (by decide) (by decide) (by decide) (by decide) (ad := "[I") rfl
    obtain ⟨b7, g7⟩ : ∃ z, z = h0.size := ⟨_, rfl⟩
    rw [← g7] at A7 Q7 st7
    have g_b7 : n0 ≤ b7 := Nat.le_trans Z0 (Nat.le_of_eq g7.symm)
    have SZ7 : n0 ≤ h7.size := Nat.le_trans Z0 E7.1
    have V7 : Arv Z h7 b7 k7 .int (0 : Int32) [] (.int (0 : Int32)) := (Arv.new A7 (by decide)).pad (pad_rep [] (.int (0 : Int32)) 0)
    refine Gz.st st7 ?_
    refine Gz.astore 47 #[.val (.int p0), .val (.int p1), .val (.int p2), .val (.int p3), .val (.int p4), .val (.int p5), .val (.int (0 : Int32)), .val (.int r2), .val (.int r3), .val (.int r4), .val (.int r5), .val (.int r6), .val (.ref b7), .unset, .unset, .unset, .unset, .unset, .unset, .unset, .unset, .unset, .unset, .unset, .unset, .unset, .unset] X7 hx (dd at_45) rfl rfl rfl ?_
    refine Gz.iload 49 X7 hx (dd at_47) rfl rfl ?_
    refine Gz.ifYes 58 X7 hx (dd at_49) ((if0 _ _).trans (flt (by decide : ¬ ((0 : Int32) < (0 : Int32)))).2.2.2) (by decide) (by decide) ?_
    refine Gz.iload 60 X7 hx (dd at_58) rfl rfl ?_
    refine Gz.iconst 61 (1 : Int32) X7 hx (dd at_60) rfl rfl ?_
    refine Gz.icmpYes 70 X7 hx (dd at_61) (flt (by decide : ¬ ((1 : Int32) < (0 : Int32)))).2.2.2 (by decide) (by decide) ?_
    refine Gz.iload 72 X7 hx (dd at_70) rfl rfl ?_
    refine Gz.iconst 73 (2 : Int32) X7 hx (dd at_72) rfl rfl ?_
    refine Gz.icmpYes 82 X7 hx (dd at_73) (flt (by decide : ¬ ((2 : Int32) < (0 : Int32)))).2.2.2 (by decide) (by decide) ?_
    refine Gz.iload 84 X7 hx (dd at_82) rfl rfl ?_
    refine Gz.iconst 85 (3 : Int32) X7 hx (dd at_84) rfl rfl ?_
    refine Gz.icmpYes 94 X7 hx (dd at_85) (flt (by decide : ¬ ((3 : Int32) < (0 : Int32)))).2.2.2 (by decide) (by decide) ?_
    refine Gz.iload 96 X7 hx (dd at_94) rfl rfl ?_
    refine Gz.iconst 97 (4 : Int32) X7 hx (dd at_96) rfl rfl ?_
    refine Gz.icmpYes 106 X7 hx (dd at_97) (flt (by decide : ¬ ((4 : Int32) < (0 : Int32)))).2.2.2 (by decide) (by decide) ?_
    refine Gz.iload 108 X7 hx (dd at_106) rfl rfl ?_
    refine Gz.ifYes 117 X7 hx (dd at_108) ((if0 _ _).trans (flt (by decide : ¬ ((0 : Int32) < (0 : Int32)))).2.2.2) (by decide) (by decide) ?_
    refine Gz.lconst 118 (0 : Int64) X7 hx (dd at_117) rfl rfl ?_
    refine Gz.lstore 120 #[.val (.int p0), .val (.int p1), .val (.int p2), .val (.int p3), .val (.int p4), .val (.int p5), .val (.int (0 : Int32)), .val (.int r2), .val (.int r3), .val (.int r4), .val (.int r5), .val (.int r6), .val (.ref b7), .val (.long (0 : Int64)), .second, .unset, .unset, .unset, .unset, .unset, .unset, .unset, .unset, .unset, .unset, .unset, .unset] X7 hx (dd at_118) rfl rfl ?_
    refine Gz.iload 122 X7 hx (dd at_120) rfl rfl ?_
    refine Gz.iconst 123 (1 : Int32) X7 hx (dd at_122) rfl rfl ?_
    refine Gz.icmpYes 132 X7 hx (dd at_123) (flt (by decide : ¬ ((1 : Int32) < (0 : Int32)))).2.2.2 (by decide) (by decide) ?_
    refine Gz.lconst 133 (0 : Int64) X7 hx (dd at_132) rfl rfl ?_
    refine Gz.lstore 135 #[.val (.int p0), .val (.int p1), .val (.int p2), .val (.int p3), .val (.int p4), .val (.int p5), .val (.int (0 : Int32)), .val (.int r2), .val (.int r3), .val (.int r4), .val (.int r5), .val (.int r6), .val (.ref b7), .val (.long (0 : Int64)), .second, .val (.long (0 : Int64)), .second, .unset, .unset, .unset, .unset, .unset, .unset, .unset, .unset, .unset, .unset] X7 hx (dd at_133) rfl rfl ?_
    refine Gz.iload 137 X7 hx (dd at_135) rfl rfl ?_
    refine Gz.iconst 138 (2 : Int32) X7 hx (dd at_137) rfl rfl ?_
    refine Gz.icmpYes 147 X7 hx (dd at_138) (flt (by decide : ¬ ((2 : Int32) < (0 : Int32)))).2.2.2 (by decide) (by decide) ?_
    refine Gz.lconst 148 (0 : Int64) X7 hx (dd at_147) rfl rfl ?_
    refine Gz.lstore 150 #[.val (.int p0), .val (.int p1), .val (.int p2), .val (.int p3), .val (.int p4), .val (.int p5), .val (.int (0 : Int32)), .val (.int r2), .val (.int r3), .val (.int r4), .val (.int r5), .val (.int r6), .val (.ref b7), .val (.long (0 : Int64)), .second, .val (.long (0 : Int64)), .second, .val (.long (0 : Int64)), .second, .unset, .unset, .unset, .unset, .unset, .unset, .unset, .unset] X7 hx (dd at_148) rfl rfl ?_
    refine Gz.iload 152 X7 hx (dd at_150) rfl rfl ?_
    refine Gz.iconst 153 (3 : Int32) X7 hx (dd at_152) rfl rfl ?_
    refine Gz.icmpYes 162 X7 hx (dd at_153) (flt (by decide : ¬ ((3 : Int32) < (0 : Int32)))).2.2.2 (by decide) (by decide) ?_
    refine Gz.lconst 163 (0 : Int64) X7 hx (dd at_162) rfl rfl ?_
    refine Gz.lstore 165 #[.val (.int p0), .val (.int p1), .val (.int p2), .val (.int p3), .val (.int p4), .val (.int p5), .val (.int (0 : Int32)), .val (.int r2), .val (.int r3), .val (.int r4), .val (.int r5), .val (.int r6), .val (.ref b7), .val (.long (0 : Int64)), .second, .val (.long (0 : Int64)), .second, .val (.long (0 : Int64)), .second, .val (.long (0 : Int64)), .second, .unset, .unset, .unset, .unset, .unset, .unset] X7 hx (dd at_163) rfl rfl ?_
    refine Gz.iload 167 X7 hx (dd at_165) rfl rfl ?_
    refine Gz.iconst 168 (4 : Int32) X7 hx (dd at_167) rfl rfl ?_
    refine Gz.icmpYes 177 X7 hx (dd at_168) (flt (by decide : ¬ ((4 : Int32) < (0 : Int32)))).2.2.2 (by decide) (by decide) ?_
    refine Gz.lconst 178 (0 : Int64) X7 hx (dd at_177) rfl rfl ?_
    refine Gz.lstore 180 #[.val (.int p0), .val (.int p1), .val (.int p2), .val (.int p3), .val (.int p4), .val (.int p5), .val (.int (0 : Int32)), .val (.int r2), .val (.int r3), .val (.int r4), .val (.int r5), .val (.int r6), .val (.ref b7), .val (.long (0 : Int64)), .second, .val (.long (0 : Int64)), .second, .val (.long (0 : Int64)), .second, .val (.long (0 : Int64)), .second, .val (.long (0 : Int64)), .second, .unset, .unset, .unset, .unset] X7 hx (dd at_178) rfl rfl ?_
    refine Gz.lload 182 X7 hx (dd at_180) rfl rfl ?_
    refine Gz.lload 184 X7 hx (dd at_182) rfl rfl ?_
    refine Gz.lmulV 185 (0 : Int64) X7 hx (dd at_184) rfl rfl ?_
    refine Gz.lload 187 X7 hx (dd at_185) rfl rfl ?_
    refine Gz.lload 189 X7 hx (dd at_187) rfl rfl ?_
    refine Gz.lmulV 190 (0 : Int64) X7 hx (dd at_189) rfl rfl ?_
    refine Gz.laddV 191 (0 : Int64) X7 hx (dd at_190) rfl rfl ?_
    refine Gz.lload 193 X7 hx (dd at_191) rfl rfl ?_
    refine Gz.lload 195 X7 hx (dd at_193) rfl rfl ?_
    refine Gz.lmulV 196 (0 : Int64) X7 hx (dd at_195) rfl rfl ?_
    refine Gz.laddV 197 (0 : Int64) X7 hx (dd at_196) rfl rfl ?_
    refine Gz.lload 199 X7 hx (dd at_197) rfl rfl ?_
    refine Gz.lload 201 X7 hx (dd at_199) rfl rfl ?_
    refine Gz.lmulV 202 (0 : Int64) X7 hx (dd at_201) rfl rfl ?_
    refine Gz.laddV 203 (0 : Int64) X7 hx (dd at_202) rfl rfl ?_
    refine Gz.lload 205 X7 hx (dd at_203) rfl rfl ?_
    refine Gz.lload 207 X7 hx (dd at_205) rfl rfl ?_
    refine Gz.lmulV 208 (0 : Int64) X7 hx (dd at_207) rfl rfl ?_
    refine Gz.laddV 209 (0 : Int64) X7 hx (dd at_208) rfl rfl ?_
    refine Gz.lload 211 X7 hx (dd at_209) rfl rfl ?_
    refine Gz.lload 213 X7 hx (dd at_211) rfl rfl ?_
    refine Gz.lmulV 214 (0 : Int64) X7 hx (dd at_213) rfl rfl ?_
    refine Gz.laddV 215 (0 : Int64) X7 hx (dd at_214) rfl rfl ?_
    refine Gz.lload 217 X7 hx (dd at_215) rfl rfl ?_
    refine Gz.lload 219 X7 hx (dd at_217) rfl rfl ?_
    refine Gz.lmulV 220 (0 : Int64) X7 hx (dd at_219) rfl rfl ?_
    refine Gz.laddV 221 (0 : Int64) X7 hx (dd at_220) rfl rfl ?_
    refine Gz.lload 223 X7 hx (dd at_221) rfl rfl ?_
    refine Gz.lload 225 X7 hx (dd at_223) rfl rfl ?_
    refine Gz.lmulV 226 (0 : Int64) X7 hx (dd at_225) rfl rfl ?_
    refine Gz.laddV 227 (0 : Int64) X7 hx (dd at_226) rfl rfl ?_
    refine Gz.lload 229 X7 hx (dd at_227) rfl rfl ?_
    refine Gz.lload 231 X7 hx (dd at_229) rfl rfl ?_
    refine Gz.lmulV 232 (0 : Int64) X7 hx (dd at_231) rfl rfl ?_
    refine Gz.laddV 233 (0 : Int64) X7 hx (dd at_232) rfl rfl ?_
    refine Gz.lload 235 X7 hx (dd at_233) rfl rfl ?_
    refine Gz.lload 237 X7 hx (dd at_235) rfl rfl ?_
    refine Gz.lmulV 238 (0 : Int64) X7 hx (dd at_237) rfl rfl ?_
    refine Gz.laddV 239 (0 : Int64) X7 hx (dd at_238) rfl rfl ?_
    refine Gz.lstore 241 #[.val (.int p0), .val (.int p1), .val (.int p2), .val (.int p3), .val (.int p4), .val (.int p5), .val (.int (0 : Int32)), .val (.int r2), .val (.int r3), .val (.int r4), .val (.int r5), .val (.int r6), .val (.ref b7), .val (.long (0 : Int64)), .second, .val (.long (0 : Int64)), .second, .val (.long (0 : Int64)), .second, .val (.long (0 : Int64)), .second, .val (.long (0 : Int64)), .second, .val (.long (0 : Int64)), .second, .unset, .unset] X7 hx (dd at_239) rfl rfl ?_
    refine Gz.aload 243 X7 hx (dd at_241) rfl rfl rfl ?_
    obtain ⟨_, _, ⟨T8, L8, k8, n8⟩, -, X8, ⟨Lc8, hQ8, l8, y8, z8⟩, st8⟩ := Jvm.LawKit.callS X7 hx (y := (⟨"com/example/minsuite/minsuite/ValuePairs", "count", "([I)J"⟩ : MethodName)) hown (mvT hZ (ww hw 10 rfl)) (mvT hZ (ww hw 11 rfl)) (mvT hZ (ww hw 12 rfl)) (mvT hZ (ww hw 13 rfl)) (by decide) (backOf (W := 0) (rm3_0 l Z av0 hw [] b7 k7 h7 n0 SZ7 V7) hZ (ww hw 13 rfl) (ww hw 12 rfl) (by decide) (by decide)) (g := (mkF m 243 #[.val (.int p0), .val (.int p1), .val (.int p2), .val (.int p3), .val (.int p4), .val (.int p5), .val (.int (0 : Int32)), .val (.int r2), .val (.int r3), .val (.int r4), .val (.int r5), .val (.int r6), .val (.ref b7), .val (.long (0 : Int64)), .second, .val (.long (0 : Int64)), .second, .val (.long (0 : Int64)), .second, .val (.long (0 : Int64)), .second, .val (.long (0 : Int64)), .second, .val (.long (0 : Int64)), .second, .unset, .unset] [(.ref b7)])) rfl (by rw [hml]; rfl) (argsL := [(.ref b7)]) (rest := []) (lenOf pd_2 rfl) rfl (by show 2 * 0 + _ ≤ _; exact Nat.le_of_eq rfl) (dd at_243) (fun _ _ => ⟨rfl, e7, (by decide : 1 + 0 ≤ _), (by decide : 0 + 0 ≤ _)⟩)
    dsimp only [Pt.U, Pt.locs, Pt.cells, Pt.slots, Q_rm3_0] at X8 l8 y8 z8 st8 hQ8
    subst l8 y8 z8
    obtain ⟨rfl, N8q, e8⟩ := hQ8
    have N8 := Fr.app N6 N8q
    refine Gz.st st8 ?_
    refine Gz.lstore 248 #[.val (.int p0), .val (.int p1), .val (.int p2), .val (.int p3), .val (.int p4), .val (.int p5), .val (.int (0 : Int32)), .val (.int r2), .val (.int r3), .val (.int r4), .val (.int r5), .val (.int r6), .val (.ref b7), .val (.long (0 : Int64)), .second, .val (.long (0 : Int64)), .second, .val (.long (0 : Int64)), .second, .val (.long (0 : Int64)), .second, .val (.long (0 : Int64)), .second, .val (.long (0 : Int64)), .second, .val (.long (f3_0 b7)), .second] X8 hx (dd at_246) rfl rfl ?_
    refine Gz.lload 250 X8 hx (dd at_248) rfl rfl ?_
    refine Gz.lload 252 X8 hx (dd at_250) rfl rfl ?_
    refine Gz.lcmp 253 X8 hx (dd at_252) rfl ?_
    refine Gz.ifNo 256 X8 hx (dd at_253) ((if0 _ _).trans (teq ((lw_eq _ _).mpr ((by unfold f3_0; simp only [Int64.zero_add, Int64.zero_mul, Int64.mul_zero, Int64.add_zero, Int64.add_mul]; try ac_rfl) : (f3_0 b7) = (0 : Int64)))).2) rfl ?_
    refine Gz.iconst 257 (1 : Int32) X8 hx (dd at_256) rfl rfl ?_
    refine Gz.goto 261 X8 hx (dd at_257) (by decide) (by decide) ?_
    refine Gz.fin X8 (v := some (.int (1 : Int32))) (fun h => by rw [hret] at h; cases h) hlk (by decide) (by decide) (fun fs hr => retN X8 hx (t := .boolean) hret (by simp) (dd at_261) hr) ?_
    exact ⟨rfl, N8⟩
  · rw [hs1]
    refine Gz.istore 9 #[.val (.int p0), .val (.int p1), .val (.int p2), .val (.int p3), .val (.int p4), .val (.int p5), .val (.int (1 : Int32)), .unset, .unset, .unset, .unset, .unset, .unset, .unset, .unset, .unset, .unset, .unset, .unset, .unset, .unset, .unset, .unset, .unset, .unset, .unset, .unset] X0 hx (dd at_7) rfl rfl ?_
    refine Gz.iloadN 10 X0 hx (dd at_9) rfl rfl ?_
    obtain ⟨_, _, ⟨T9, L9, k9, n9⟩, -, X9, ⟨Lc9, hQ9, l9, y9, z9⟩, st9⟩ := Jvm.LawKit.callS X0 hx (y := (⟨"com/example/minsuite/minsuite/ValuePairsCountPinLaw", "positive", "(I)I"⟩ : MethodName)) hown (mvT hZ (ww hw 1 rfl)) (mvT hZ (ww hw 2 rfl)) (mvT hZ (ww hw 3 rfl)) (mvT hZ (ww hw 4 rfl)) (by decide) (backOf (W := 0) (rm1 l Z av0 hw [] p1  h0 n0 Z0 ) hZ (ww hw 4 rfl) (ww hw 3 rfl) (by decide) (by decide)) (g := (mkF m 10 #[.val (.int p0), .val (.int p1), .val (.int p2), .val (.int p3), .val (.int p4), .val (.int p5), .val (.int (1 : Int32)), .unset, .unset, .unset, .unset, .unset, .unset, .unset, .unset, .unset, .unset, .unset, .unset, .unset, .unset, .unset, .unset, .unset, .unset, .unset, .unset] [(.int p1)])) rfl (by rw [hml]; rfl) (argsL := [(.int p1)]) (rest := []) (lenOf pd_1 rfl) rfl (by show 2 * 0 + _ ≤ _; exact Nat.le_of_eq rfl) (dd at_10) (fun _ _ => ⟨rfl, e0, (by decide : 0 + 0 ≤ _), (by decide : 0 + 0 ≤ _)⟩)
    dsimp only [Pt.U, Pt.locs, Pt.cells, Pt.slots, Q_rm1] at X9 l9 y9 z9 st9 hQ9
    subst l9 y9 z9
    generalize (f1 p1) = r9 at hQ9
    obtain ⟨rfl, N9q, e9⟩ := hQ9
    have N9 := Fr.app N0 N9q
    refine Gz.st st9 ?_
    refine Gz.istore 15 #[.val (.int p0), .val (.int p1), .val (.int p2), .val (.int p3), .val (.int p4), .val (.int p5), .val (.int (1 : Int32)), .val (.int r9), .unset, .unset, .unset, .unset, .unset, .unset, .unset, .unset, .unset, .unset, .unset, .unset, .unset, .unset, .unset, .unset, .unset, .unset, .unset] X9 hx (dd at_13) rfl rfl ?_
    refine Gz.iloadN 16 X9 hx (dd at_15) rfl rfl ?_
    obtain ⟨_, _, ⟨T10, L10, k10, n10⟩, -, X10, ⟨Lc10, hQ10, l10, y10, z10⟩, st10⟩ := Jvm.LawKit.callS X9 hx (y := (⟨"com/example/minsuite/minsuite/ValuePairsCountPinLaw", "positive", "(I)I"⟩ : MethodName)) hown (mvT hZ (ww hw 1 rfl)) (mvT hZ (ww hw 2 rfl)) (mvT hZ (ww hw 3 rfl)) (mvT hZ (ww hw 4 rfl)) (by decide) (backOf (W := 0) (rm1 l Z av0 hw [] p2  h0 n0 Z0 ) hZ (ww hw 4 rfl) (ww hw 3 rfl) (by decide) (by decide)) (g := (mkF m 16 #[.val (.int p0), .val (.int p1), .val (.int p2), .val (.int p3), .val (.int p4), .val (.int p5), .val (.int (1 : Int32)), .val (.int r9), .unset, .unset, .unset, .unset, .unset, .unset, .unset, .unset, .unset, .unset, .unset, .unset, .unset, .unset, .unset, .unset, .unset, .unset, .unset] [(.int p2)])) rfl (by rw [hml]; rfl) (argsL := [(.int p2)]) (rest := []) (lenOf pd_1 rfl) rfl (by show 2 * 0 + _ ≤ _; exact Nat.le_of_eq rfl) (dd at_16) (fun _ _ => ⟨rfl, e9, (by decide : 0 + 0 ≤ _), (by decide : 0 + 0 ≤ _)⟩)
    dsimp only [Pt.U, Pt.locs, Pt.cells, Pt.slots, Q_rm1] at X10 l10 y10 z10 st10 hQ10
    subst l10 y10 z10
    generalize (f1 p2) = r10 at hQ10
    obtain ⟨rfl, N10q, e10⟩ := hQ10
    have N10 := Fr.app N9 N10q
    refine Gz.st st10 ?_
    refine Gz.istore 21 #[.val (.int p0), .val (.int p1), .val (.int p2), .val (.int p3), .val (.int p4), .val (.int p5), .val (.int (1 : Int32)), .val (.int r9), .val (.int r10), .unset, .unset, .unset, .unset, .unset, .unset, .unset, .unset, .unset, .unset, .unset, .unset, .unset, .unset, .unset, .unset, .unset, .unset] X10 hx (dd at_19) rfl rfl ?_
    refine Gz.iloadN 22 X10 hx (dd at_21) rfl rfl ?_
    obtain ⟨_, _, ⟨T11, L11, k11, n11⟩, -, X11, ⟨Lc11, hQ11, l11, y11, z11⟩, st11⟩ := Jvm.LawKit.callS X10 hx (y := (⟨"com/example/minsuite/minsuite/ValuePairsCountPinLaw", "positive", "(I)I"⟩ : MethodName)) hown (mvT hZ (ww hw 1 rfl)) (mvT hZ (ww hw 2 rfl)) (mvT hZ (ww hw 3 rfl)) (mvT hZ (ww hw 4 rfl)) (by decide) (backOf (W := 0) (rm1 l Z av0 hw [] p3  h0 n0 Z0 ) hZ (ww hw 4 rfl) (ww hw 3 rfl) (by decide) (by decide)) (g := (mkF m 22 #[.val (.int p0), .val (.int p1), .val (.int p2), .val (.int p3), .val (.int p4), .val (.int p5), .val (.int (1 : Int32)), .val (.int r9), .val (.int r10), .unset, .unset, .unset, .unset, .unset, .unset, .unset, .unset, .unset, .unset, .unset, .unset, .unset, .unset, .unset, .unset, .unset, .unset] [(.int p3)])) rfl (by rw [hml]; rfl) (argsL := [(.int p3)]) (rest := []) (lenOf pd_1 rfl) rfl (by show 2 * 0 + _ ≤ _; exact Nat.le_of_eq rfl) (dd at_22) (fun _ _ => ⟨rfl, e10, (by decide : 0 + 0 ≤ _), (by decide : 0 + 0 ≤ _)⟩)
    dsimp only [Pt.U, Pt.locs, Pt.cells, Pt.slots, Q_rm1] at X11 l11 y11 z11 st11 hQ11
    subst l11 y11 z11
    generalize (f1 p3) = r11 at hQ11
    obtain ⟨rfl, N11q, e11⟩ := hQ11
    have N11 := Fr.app N10 N11q
    refine Gz.st st11 ?_
    refine Gz.istore 27 #[.val (.int p0), .val (.int p1), .val (.int p2), .val (.int p3), .val (.int p4), .val (.int p5), .val (.int (1 : Int32)), .val (.int r9), .val (.int r10), .val (.int r11), .unset, .unset, .unset, .unset, .unset, .unset, .unset, .unset, .unset, .unset, .unset, .unset, .unset, .unset, .unset, .unset, .unset] X11 hx (dd at_25) rfl rfl ?_
    refine Gz.iload 29 X11 hx (dd at_27) rfl rfl ?_
    obtain ⟨_, _, ⟨T12, L12, k12, n12⟩, -, X12, ⟨Lc12, hQ12, l12, y12, z12⟩, st12⟩ := Jvm.LawKit.callS X11 hx (y := (⟨"com/example/minsuite/minsuite/ValuePairsCountPinLaw", "positive", "(I)I"⟩ : MethodName)) hown (mvT hZ (ww hw 1 rfl)) (mvT hZ (ww hw 2 rfl)) (mvT hZ (ww hw 3 rfl)) (mvT hZ (ww hw 4 rfl)) (by decide) (backOf (W := 0) (rm1 l Z av0 hw [] p4  h0 n0 Z0 ) hZ (ww hw 4 rfl) (ww hw 3 rfl) (by decide) (by decide)) (g := (mkF m 29 #[.val (.int p0), .val (.int p1), .val (.int p2), .val (.int p3), .val (.int p4), .val (.int p5), .val (.int (1 : Int32)), .val (.int r9), .val (.int r10), .val (.int r11), .unset, .unset, .unset, .unset, .unset, .unset, .unset, .unset, .unset, .unset, .unset, .unset, .unset, .unset, .unset, .unset, .unset] [(.int p4)])) rfl (by rw [hml]; rfl) (argsL := [(.int p4)]) (rest := []) (lenOf pd_1 rfl) rfl (by show 2 * 0 + _ ≤ _; exact Nat.le_of_eq rfl) (dd at_29) (fun _ _ => ⟨rfl, e11, (by decide : 0 + 0 ≤ _), (by decide : 0 + 0 ≤ _)⟩)
    dsimp only [Pt.U, Pt.locs, Pt.cells, Pt.slots, Q_rm1] at X12 l12 y12 z12 st12 hQ12
    subst l12 y12 z12
    generalize (f1 p4) = r12 at hQ12
    obtain ⟨rfl, N12q, e12⟩ := hQ12
    have N12 := Fr.app N11 N12q
    refine Gz.st st12 ?_
    refine Gz.istore 34 #[.val (.int p0), .val (.int p1), .val (.int p2), .val (.int p3), .val (.int p4), .val (.int p5), .val (.int (1 : Int32)), .val (.int r9), .val (.int r10), .val (.int r11), .val (.int r12), .unset, .unset, .unset, .unset, .unset, .unset, .unset, .unset, .unset, .unset, .unset, .unset, .unset, .unset, .unset, .unset] X12 hx (dd at_32) rfl rfl ?_
    refine Gz.iload 36 X12 hx (dd at_34) rfl rfl ?_
    obtain ⟨_, _, ⟨T13, L13, k13, n13⟩, -, X13, ⟨Lc13, hQ13, l13, y13, z13⟩, st13⟩ := Jvm.LawKit.callS X12 hx (y := (⟨"com/example/minsuite/minsuite/ValuePairsCountPinLaw", "positive", "(I)I"⟩ : MethodName)) hown (mvT hZ (ww hw 1 rfl)) (mvT hZ (ww hw 2 rfl)) (mvT hZ (ww hw 3 rfl)) (mvT hZ (ww hw 4 rfl)) (by decide) (backOf (W := 0) (rm1 l Z av0 hw [] p5  h0 n0 Z0 ) hZ (ww hw 4 rfl) (ww hw 3 rfl) (by decide) (by decide)) (g := (mkF m 36 #[.val (.int p0), .val (.int p1), .val (.int p2), .val (.int p3), .val (.int p4), .val (.int p5), .val (.int (1 : Int32)), .val (.int r9), .val (.int r10), .val (.int r11), .val (.int r12), .unset, .unset, .unset, .unset, .unset, .unset, .unset, .unset, .unset, .unset, .unset, .unset, .unset, .unset, .unset, .unset] [(.int p5)])) rfl (by rw [hml]; rfl) (argsL := [(.int p5)]) (rest := []) (lenOf pd_1 rfl) rfl (by show 2 * 0 + _ ≤ _; exact Nat.le_of_eq rfl) (dd at_36) (fun _ _ => ⟨rfl, e12, (by decide : 0 + 0 ≤ _), (by decide : 0 + 0 ≤ _)⟩)
    dsimp only [Pt.U, Pt.locs, Pt.cells, Pt.slots, Q_rm1] at X13 l13 y13 z13 st13 hQ13
    subst l13 y13 z13
    generalize (f1 p5) = r13 at hQ13
    obtain ⟨rfl, N13q, e13⟩ := hQ13
    have N13 := Fr.app N12 N13q
    refine Gz.st st13 ?_
    refine Gz.istore 41 #[.val (.int p0), .val (.int p1), .val (.int p2), .val (.int p3), .val (.int p4), .val (.int p5), .val (.int (1 : Int32)), .val (.int r9), .val (.int r10), .val (.int r11), .val (.int r12), .val (.int r13), .unset, .unset, .unset, .unset, .unset, .unset, .unset, .unset, .unset, .unset, .unset, .unset, .unset, .unset, .unset] X13 hx (dd at_39) rfl rfl ?_
    refine Gz.iload 43 X13 hx (dd at_41) rfl rfl ?_
    obtain ⟨T14, h14, k14, X14, e14, E14, A14, Q14, st14⟩ := newPE X13 hx hZ (ww hw 9 rfl) e13 (g := (mkF m 43 #[.val (.int p0), .val (.int p1), .val (.int p2), .val (.int p3), .val (.int p4), .val (.int p5), .val (.int (1 : Int32)), .val (.int r9), .val (.int r10), .val (.int r11), .val (.int r12), .val (.int r13), .unset, .unset, .unset, .unset, .unset, .unset, .unset, .unset, .unset, .unset, .unset, .unset, .unset, .unset, .unset] [(.int (1 : Int32))])) rfl (dd at_43) rfl (by decide) (cap := 1) (by decide) (by decide) (by decide) (by decide) (ad := "[I") rfl
    obtain ⟨b14, g14⟩ : ∃ z, z = h0.size := ⟨_, rfl⟩
    rw [← g14] at A14 Q14 st14
    have g_b14 : n0 ≤ b14 := Nat.le_trans Z0 (Nat.le_of_eq g14.symm)
    have SZ14 : n0 ≤ h14.size := Nat.le_trans Z0 E14.1
    have V14 : Arv Z h14 b14 k14 .int (1 : Int32) [(.int (0 : Int32))] (.int (0 : Int32)) := (Arv.new A14 (by decide)).pad (pad_rep [] (.int (0 : Int32)) 1)
    refine Gz.st st14 ?_
    refine Gz.astore 47 #[.val (.int p0), .val (.int p1), .val (.int p2), .val (.int p3), .val (.int p4), .val (.int p5), .val (.int (1 : Int32)), .val (.int r9), .val (.int r10), .val (.int r11), .val (.int r12), .val (.int r13), .val (.ref b14), .unset, .unset, .unset, .unset, .unset, .unset, .unset, .unset, .unset, .unset, .unset, .unset, .unset, .unset] X14 hx (dd at_45) rfl rfl rfl ?_
    refine Gz.iload 49 X14 hx (dd at_47) rfl rfl ?_
    refine Gz.ifNo 52 X14 hx (dd at_49) ((if0 _ _).trans (tlt (by decide : (0 : Int32) < (1 : Int32))).2.2.2) rfl ?_
    refine Gz.aload 54 X14 hx (dd at_52) rfl rfl rfl ?_
    refine Gz.iconst 55 (0 : Int32) X14 hx (dd at_54) rfl rfl ?_
    refine Gz.iload 57 X14 hx (dd at_55) rfl rfl ?_
    obtain ⟨c15, A15, q15, S15, N15, H15, G15⟩ := id V14
    have hin15 : ¬ ((0 : Int32) < 0 ∨ c15.slots.size ≤ ((0 : Int32)).toNatClampNeg) := inb_of S15 ⟨by decide, by decide⟩
    refine Gz.stI 58 X14 hx hZ (dd at_57) e14 A15 hin15 rfl fun T16 h16 X16 e16 W16 => ?_
    have V16 := Arv.set A15 q15 S15 N15 H15 G15 rfl W16 0 rfl (Nat.le_of_ble_eq_true rfl)
    replace V16 : Arv Z h16 b14 k14 .int (1 : Int32) [(.int r9)] (.int (0 : Int32)) := V16
    have f16_Eb14 := Exa.wr W16 Q14
    have N16 := Fr.snoc X16 N13 g_b14
    have SZ16 : n0 ≤ h16.size := Nat.le_trans SZ14 (Keep.of_wr W16).1
    refine Gz.iload 60 X16 hx (dd at_58) rfl rfl ?_
    refine Gz.iconst 61 (1 : Int32) X16 hx (dd at_60) rfl rfl ?_
    refine Gz.icmpYes 70 X16 hx (dd at_61) (flt (by decide : ¬ ((1 : Int32) < (1 : Int32)))).2.2.2 (by decide) (by decide) ?_
    refine Gz.iload 72 X16 hx (dd at_70) rfl rfl ?_
    refine Gz.iconst 73 (2 : Int32) X16 hx (dd at_72) rfl rfl ?_
    refine Gz.icmpYes 82 X16 hx (dd at_73) (flt (by decide : ¬ ((2 : Int32) < (1 : Int32)))).2.2.2 (by decide) (by decide) ?_
    refine Gz.iload 84 X16 hx (dd at_82) rfl rfl ?_
    refine Gz.iconst 85 (3 : Int32) X16 hx (dd at_84) rfl rfl ?_
    refine Gz.icmpYes 94 X16 hx (dd at_85) (flt (by decide : ¬ ((3 : Int32) < (1 : Int32)))).2.2.2 (by decide) (by decide) ?_
    refine Gz.iload 96 X16 hx (dd at_94) rfl rfl ?_
    refine Gz.iconst 97 (4 : Int32) X16 hx (dd at_96) rfl rfl ?_
    refine Gz.icmpYes 106 X16 hx (dd at_97) (flt (by decide : ¬ ((4 : Int32) < (1 : Int32)))).2.2.2 (by decide) (by decide) ?_
    refine Gz.iload 108 X16 hx (dd at_106) rfl rfl ?_
    refine Gz.ifNo 111 X16 hx (dd at_108) ((if0 _ _).trans (tlt (by decide : (0 : Int32) < (1 : Int32))).2.2.2) rfl ?_
    refine Gz.iload 113 X16 hx (dd at_111) rfl rfl ?_
    refine Gz.i2l 114 X16 hx (dd at_113) rfl ?_
    refine Gz.goto 118 X16 hx (dd at_114) (by decide) (by decide) ?_
    refine Gz.lstore 120 #[.val (.int p0), .val (.int p1), .val (.int p2), .val (.int p3), .val (.int p4), .val (.int p5), .val (.int (1 : Int32)), .val (.int r9), .val (.int r10), .val (.int r11), .val (.int r12), .val (.int r13), .val (.ref b14), .val (.long (r9.toInt64)), .second, .unset, .unset, .unset, .unset, .unset, .unset, .unset, .unset, .unset, .unset, .unset, .unset] X16 hx (dd at_118) rfl rfl ?_
    refine Gz.iload 122 X16 hx (dd at_120) rfl rfl ?_
    refine Gz.iconst 123 (1 : Int32) X16 hx (dd at_122) rfl rfl ?_
    refine Gz.icmpYes 132 X16 hx (dd at_123) (flt (by decide : ¬ ((1 : Int32) < (1 : Int32)))).2.2.2 (by decide) (by decide) ?_
    refine Gz.lconst 133 (0 : Int64) X16 hx (dd at_132) rfl rfl ?_
    refine Gz.lstore 135 #[.val (.int p0), .val (.int p1), .val (.int p2), .val (.int p3), .val (.int p4), .val (.int p5), .val (.int (1 : Int32)), .val (.int r9), .val (.int r10), .val (.int r11), .val (.int r12), .val (.int r13), .val (.ref b14), .val (.long (r9.toInt64)), .second, .val (.long (0 : Int64)), .second, .unset, .unset, .unset, .unset, .unset, .unset, .unset, .unset, .unset, .unset] X16 hx (dd at_133) rfl rfl ?_
    refine Gz.iload 137 X16 hx (dd at_135) rfl rfl ?_
    refine Gz.iconst 138 (2 : Int32) X16 hx (dd at_137) rfl rfl ?_
    refine Gz.icmpYes 147 X16 hx (dd at_138) (flt (by decide : ¬ ((2 : Int32) < (1 : Int32)))).2.2.2 (by decide) (by decide) ?_
    refine Gz.lconst 148 (0 : Int64) X16 hx (dd at_147) rfl rfl ?_
    refine Gz.lstore 150 #[.val (.int p0), .val (.int p1), .val (.int p2), .val (.int p3), .val (.int p4), .val (.int p5), .val (.int (1 : Int32)), .val (.int r9), .val (.int r10), .val (.int r11), .val (.int r12), .val (.int r13), .val (.ref b14), .val (.long (r9.toInt64)), .second, .val (.long (0 : Int64)), .second, .val (.long (0 : Int64)), .second, .unset, .unset, .unset, .unset, .unset, .unset, .unset, .unset] X16 hx (dd at_148) rfl rfl ?_
    refine Gz.iload 152 X16 hx (dd at_150) rfl rfl ?_
    refine Gz.iconst 153 (3 : Int32) X16 hx (dd at_152) rfl rfl ?_
    refine Gz.icmpYes 162 X16 hx (dd at_153) (flt (by decide : ¬ ((3 : Int32) < (1 : Int32)))).2.2.2 (by decide) (by decide) ?_
    refine Gz.lconst 163 (0 : Int64) X16 hx (dd at_162) rfl rfl ?_
    refine Gz.lstore 165 #[.val (.int p0), .val (.int p1), .val (.int p2), .val (.int p3), .val (.int p4), .val (.int p5), .val (.int (1 : Int32)), .val (.int r9), .val (.int r10), .val (.int r11), .val (.int r12), .val (.int r13), .val (.ref b14), .val (.long (r9.toInt64)), .second, .val (.long (0 : Int64)), .second, .val (.long (0 : Int64)), .second, .val (.long (0 : Int64)), .second, .unset, .unset, .unset, .unset, .unset, .unset] X16 hx (dd at_163) rfl rfl ?_
    refine Gz.iload 167 X16 hx (dd at_165) rfl rfl ?_
    refine Gz.iconst 168 (4 : Int32) X16 hx (dd at_167) rfl rfl ?_
    refine Gz.icmpYes 177 X16 hx (dd at_168) (flt (by decide : ¬ ((4 : Int32) < (1 : Int32)))).2.2.2 (by decide) (by decide) ?_
    refine Gz.lconst 178 (0 : Int64) X16 hx (dd at_177) rfl rfl ?_
    refine Gz.lstore 180 #[.val (.int p0), .val (.int p1), .val (.int p2), .val (.int p3), .val (.int p4), .val (.int p5), .val (.int (1 : Int32)), .val (.int r9), .val (.int r10), .val (.int r11), .val (.int r12), .val (.int r13), .val (.ref b14), .val (.long (r9.toInt64)), .second, .val (.long (0 : Int64)), .second, .val (.long (0 : Int64)), .second, .val (.long (0 : Int64)), .second, .val (.long (0 : Int64)), .second, .unset, .unset, .unset, .unset] X16 hx (dd at_178) rfl rfl ?_
    refine Gz.lload 182 X16 hx (dd at_180) rfl rfl ?_
    refine Gz.lload 184 X16 hx (dd at_182) rfl rfl ?_
    refine Gz.lmul 185 X16 hx (dd at_184) rfl ?_
    refine Gz.lload 187 X16 hx (dd at_185) rfl rfl ?_
    refine Gz.lload 189 X16 hx (dd at_187) rfl rfl ?_
    refine Gz.lmul 190 X16 hx (dd at_189) rfl ?_
    refine Gz.ladd 191 X16 hx (dd at_190) rfl ?_
    refine Gz.lload 193 X16 hx (dd at_191) rfl rfl ?_
    refine Gz.lload 195 X16 hx (dd at_193) rfl rfl ?_
    refine Gz.lmul 196 X16 hx (dd at_195) rfl ?_
    refine Gz.ladd 197 X16 hx (dd at_196) rfl ?_
    refine Gz.lload 199 X16 hx (dd at_197) rfl rfl ?_
    refine Gz.lload 201 X16 hx (dd at_199) rfl rfl ?_
    refine Gz.lmul 202 X16 hx (dd at_201) rfl ?_
    refine Gz.ladd 203 X16 hx (dd at_202) rfl ?_
    refine Gz.lload 205 X16 hx (dd at_203) rfl rfl ?_
    refine Gz.lload 207 X16 hx (dd at_205) rfl rfl ?_
    refine Gz.lmulV 208 (0 : Int64) X16 hx (dd at_207) rfl rfl ?_
    refine Gz.ladd 209 X16 hx (dd at_208) rfl ?_
    refine Gz.lload 211 X16 hx (dd at_209) rfl rfl ?_
    refine Gz.lload 213 X16 hx (dd at_211) rfl rfl ?_
    refine Gz.lmulV 214 (0 : Int64) X16 hx (dd at_213) rfl rfl ?_
    refine Gz.ladd 215 X16 hx (dd at_214) rfl ?_
    refine Gz.lload 217 X16 hx (dd at_215) rfl rfl ?_
    refine Gz.lload 219 X16 hx (dd at_217) rfl rfl ?_
    refine Gz.lmulV 220 (0 : Int64) X16 hx (dd at_219) rfl rfl ?_
    refine Gz.ladd 221 X16 hx (dd at_220) rfl ?_
    refine Gz.lload 223 X16 hx (dd at_221) rfl rfl ?_
    refine Gz.lload 225 X16 hx (dd at_223) rfl rfl ?_
    refine Gz.lmulV 226 (0 : Int64) X16 hx (dd at_225) rfl rfl ?_
    refine Gz.ladd 227 X16 hx (dd at_226) rfl ?_
    refine Gz.lload 229 X16 hx (dd at_227) rfl rfl ?_
    refine Gz.lload 231 X16 hx (dd at_229) rfl rfl ?_
    refine Gz.lmulV 232 (0 : Int64) X16 hx (dd at_231) rfl rfl ?_
    refine Gz.ladd 233 X16 hx (dd at_232) rfl ?_
    refine Gz.lload 235 X16 hx (dd at_233) rfl rfl ?_
    refine Gz.lload 237 X16 hx (dd at_235) rfl rfl ?_
    refine Gz.lmulV 238 (0 : Int64) X16 hx (dd at_237) rfl rfl ?_
    refine Gz.ladd 239 X16 hx (dd at_238) rfl ?_
    refine Gz.lstore 241 #[.val (.int p0), .val (.int p1), .val (.int p2), .val (.int p3), .val (.int p4), .val (.int p5), .val (.int (1 : Int32)), .val (.int r9), .val (.int r10), .val (.int r11), .val (.int r12), .val (.int r13), .val (.ref b14), .val (.long (r9.toInt64)), .second, .val (.long (0 : Int64)), .second, .val (.long (0 : Int64)), .second, .val (.long (0 : Int64)), .second, .val (.long (0 : Int64)), .second, .val (.long (((((((((((r9.toInt64) * (0 : Int64)) + ((r9.toInt64) * (0 : Int64))) + ((r9.toInt64) * (0 : Int64))) + ((r9.toInt64) * (0 : Int64))) + (0 : Int64)) + (0 : Int64)) + (0 : Int64)) + (0 : Int64)) + (0 : Int64)) + (0 : Int64))), .second, .unset, .unset] X16 hx (dd at_239) rfl rfl ?_
    refine Gz.aload 243 X16 hx (dd at_241) rfl rfl rfl ?_
    obtain ⟨_, _, ⟨T17, L17, k17, n17⟩, -, X17, ⟨Lc17, hQ17, l17, y17, z17⟩, st17⟩ := Jvm.LawKit.callS X16 hx (y := (⟨"com/example/minsuite/minsuite/ValuePairs", "count", "([I)J"⟩ : MethodName)) hown (mvT hZ (ww hw 10 rfl)) (mvT hZ (ww hw 11 rfl)) (mvT hZ (ww hw 12 rfl)) (mvT hZ (ww hw 13 rfl)) (by decide) (backOf (W := 0) (rm3_1 l Z av0 hw [] b14 k14 r9 h16 n0 SZ16 V16) hZ (ww hw 13 rfl) (ww hw 12 rfl) (by decide) (by decide)) (g := (mkF m 243 #[.val (.int p0), .val (.int p1), .val (.int p2), .val (.int p3), .val (.int p4), .val (.int p5), .val (.int (1 : Int32)), .val (.int r9), .val (.int r10), .val (.int r11), .val (.int r12), .val (.int r13), .val (.ref b14), .val (.long (r9.toInt64)), .second, .val (.long (0 : Int64)), .second, .val (.long (0 : Int64)), .second, .val (.long (0 : Int64)), .second, .val (.long (0 : Int64)), .second, .val (.long (((((((((((r9.toInt64) * (0 : Int64)) + ((r9.toInt64) * (0 : Int64))) + ((r9.toInt64) * (0 : Int64))) + ((r9.toInt64) * (0 : Int64))) + (0 : Int64)) + (0 : Int64)) + (0 : Int64)) + (0 : Int64)) + (0 : Int64)) + (0 : Int64))), .second, .unset, .unset] [(.ref b14)])) rfl (by rw [hml]; rfl) (argsL := [(.ref b14)]) (rest := []) (lenOf pd_2 rfl) rfl (by show 2 * 0 + _ ≤ _; exact Nat.le_of_eq rfl) (dd at_243) (fun _ _ => ⟨rfl, e16, (by decide : 1 + 0 ≤ _), (by decide : 1 + 0 ≤ _)⟩)
    dsimp only [Pt.U, Pt.locs, Pt.cells, Pt.slots, Q_rm3_1] at X17 l17 y17 z17 st17 hQ17
    subst l17 y17 z17
    obtain ⟨rfl, N17q, e17⟩ := hQ17
    have N17 := Fr.app N16 N17q
    refine Gz.st st17 ?_
    refine Gz.lstore 248 #[.val (.int p0), .val (.int p1), .val (.int p2), .val (.int p3), .val (.int p4), .val (.int p5), .val (.int (1 : Int32)), .val (.int r9), .val (.int r10), .val (.int r11), .val (.int r12), .val (.int r13), .val (.ref b14), .val (.long (r9.toInt64)), .second, .val (.long (0 : Int64)), .second, .val (.long (0 : Int64)), .second, .val (.long (0 : Int64)), .second, .val (.long (0 : Int64)), .second, .val (.long (((((((((((r9.toInt64) * (0 : Int64)) + ((r9.toInt64) * (0 : Int64))) + ((r9.toInt64) * (0 : Int64))) + ((r9.toInt64) * (0 : Int64))) + (0 : Int64)) + (0 : Int64)) + (0 : Int64)) + (0 : Int64)) + (0 : Int64)) + (0 : Int64))), .second, .val (.long (f3_1 b14 r9)), .second] X17 hx (dd at_246) rfl rfl ?_
    refine Gz.lload 250 X17 hx (dd at_248) rfl rfl ?_
    refine Gz.lload 252 X17 hx (dd at_250) rfl rfl ?_
    refine Gz.lcmp 253 X17 hx (dd at_252) rfl ?_
    refine Gz.ifNo 256 X17 hx (dd at_253) ((if0 _ _).trans (teq ((lw_eq _ _).mpr ((by unfold f3_1; simp only [Int64.zero_add, Int64.zero_mul, Int64.mul_zero, Int64.add_zero, Int64.add_mul]; try ac_rfl) : (f3_1 b14 r9) = (((((((((((r9.toInt64) * (0 : Int64)) + ((r9.toInt64) * (0 : Int64))) + ((r9.toInt64) * (0 : Int64))) + ((r9.toInt64) * (0 : Int64))) + (0 : Int64)) + (0 : Int64)) + (0 : Int64)) + (0 : Int64)) + (0 : Int64)) + (0 : Int64))))).2) rfl ?_
    refine Gz.iconst 257 (1 : Int32) X17 hx (dd at_256) rfl rfl ?_
    refine Gz.goto 261 X17 hx (dd at_257) (by decide) (by decide) ?_
    refine Gz.fin X17 (v := some (.int (1 : Int32))) (fun h => by rw [hret] at h; cases h) hlk (by decide) (by decide) (fun fs hr => retN X17 hx (t := .boolean) hret (by simp) (dd at_261) hr) ?_
    exact ⟨rfl, N17⟩
  · rw [hs1]
    refine Gz.istore 9 #[.val (.int p0), .val (.int p1), .val (.int p2), .val (.int p3), .val (.int p4), .val (.int p5), .val (.int (2 : Int32)), .unset, .unset, .unset, .unset, .unset, .unset, .unset, .unset, .unset, .unset, .unset, .unset, .unset, .unset, .unset, .unset, .unset, .unset, .unset, .unset] X0 hx (dd at_7) rfl rfl ?_
    refine Gz.iloadN 10 X0 hx (dd at_9) rfl rfl ?_
    obtain ⟨_, _, ⟨T18, L18, k18, n18⟩, -, X18, ⟨Lc18, hQ18, l18, y18, z18⟩, st18⟩ := Jvm.LawKit.callS X0 hx (y := (⟨"com/example/minsuite/minsuite/ValuePairsCountPinLaw", "positive", "(I)I"⟩ : MethodName)) hown (mvT hZ (ww hw 1 rfl)) (mvT hZ (ww hw 2 rfl)) (mvT hZ (ww hw 3 rfl)) (mvT hZ (ww hw 4 rfl)) (by decide) (backOf (W := 0) (rm1 l Z av0 hw [] p1  h0 n0 Z0 ) hZ (ww hw 4 rfl) (ww hw 3 rfl) (by decide) (by decide)) (g := (mkF m 10 #[.val (.int p0), .val (.int p1), .val (.int p2), .val (.int p3), .val (.int p4), .val (.int p5), .val (.int (2 : Int32)), .unset, .unset, .unset, .unset, .unset, .unset, .unset, .unset, .unset, .unset, .unset, .unset, .unset, .unset, .unset, .unset, .unset, .unset, .unset, .unset] [(.int p1)])) rfl (by rw [hml]; rfl) (argsL := [(.int p1)]) (rest := []) (lenOf pd_1 rfl) rfl (by show 2 * 0 + _ ≤ _; exact Nat.le_of_eq rfl) (dd at_10) (fun _ _ => ⟨rfl, e0, (by decide : 0 + 0 ≤ _), (by decide : 0 + 0 ≤ _)⟩)
    dsimp only [Pt.U, Pt.locs, Pt.cells, Pt.slots, Q_rm1] at X18 l18 y18 z18 st18 hQ18
    subst l18 y18 z18
    generalize (f1 p1) = r18 at hQ18
    obtain ⟨rfl, N18q, e18⟩ := hQ18
    have N18 := Fr.app N0 N18q
    refine Gz.st st18 ?_
    refine Gz.istore 15 #[.val (.int p0), .val (.int p1), .val (.int p2), .val (.int p3), .val (.int p4), .val (.int p5), .val (.int (2 : Int32)), .val (.int r18), .unset, .unset, .unset, .unset, .unset, .unset, .unset, .unset, .unset, .unset, .unset, .unset, .unset, .unset, .unset, .unset, .unset, .unset, .unset] X18 hx (dd at_13) rfl rfl ?_
    refine Gz.iloadN 16 X18 hx (dd at_15) rfl rfl ?_
    obtain ⟨_, _, ⟨T19, L19, k19, n19⟩, -, X19, ⟨Lc19, hQ19, l19, y19, z19⟩, st19⟩ := Jvm.LawKit.callS X18 hx (y := (⟨"com/example/minsuite/minsuite/ValuePairsCountPinLaw", "positive", "(I)I"⟩ : MethodName)) hown (mvT hZ (ww hw 1 rfl)) (mvT hZ (ww hw 2 rfl)) (mvT hZ (ww hw 3 rfl)) (mvT hZ (ww hw 4 rfl)) (by decide) (backOf (W := 0) (rm1 l Z av0 hw [] p2  h0 n0 Z0 ) hZ (ww hw 4 rfl) (ww hw 3 rfl) (by decide) (by decide)) (g := (mkF m 16 #[.val (.int p0), .val (.int p1), .val (.int p2), .val (.int p3), .val (.int p4), .val (.int p5), .val (.int (2 : Int32)), .val (.int r18), .unset, .unset, .unset, .unset, .unset, .unset, .unset, .unset, .unset, .unset, .unset, .unset, .unset, .unset, .unset, .unset, .unset, .unset, .unset] [(.int p2)])) rfl (by rw [hml]; rfl) (argsL := [(.int p2)]) (rest := []) (lenOf pd_1 rfl) rfl (by show 2 * 0 + _ ≤ _; exact Nat.le_of_eq rfl) (dd at_16) (fun _ _ => ⟨rfl, e18, (by decide : 0 + 0 ≤ _), (by decide : 0 + 0 ≤ _)⟩)
    dsimp only [Pt.U, Pt.locs, Pt.cells, Pt.slots, Q_rm1] at X19 l19 y19 z19 st19 hQ19
    subst l19 y19 z19
    generalize (f1 p2) = r19 at hQ19
    obtain ⟨rfl, N19q, e19⟩ := hQ19
    have N19 := Fr.app N18 N19q
    refine Gz.st st19 ?_
    refine Gz.istore 21 #[.val (.int p0), .val (.int p1), .val (.int p2), .val (.int p3), .val (.int p4), .val (.int p5), .val (.int (2 : Int32)), .val (.int r18), .val (.int r19), .unset, .unset, .unset, .unset, .unset, .unset, .unset, .unset, .unset, .unset, .unset, .unset, .unset, .unset, .unset, .unset, .unset, .unset] X19 hx (dd at_19) rfl rfl ?_
    refine Gz.iloadN 22 X19 hx (dd at_21) rfl rfl ?_
    obtain ⟨_, _, ⟨T20, L20, k20, n20⟩, -, X20, ⟨Lc20, hQ20, l20, y20, z20⟩, st20⟩ := Jvm.LawKit.callS X19 hx (y := (⟨"com/example/minsuite/minsuite/ValuePairsCountPinLaw", "positive", "(I)I"⟩ : MethodName)) hown (mvT hZ (ww hw 1 rfl)) (mvT hZ (ww hw 2 rfl)) (mvT hZ (ww hw 3 rfl)) (mvT hZ (ww hw 4 rfl)) (by decide) (backOf (W := 0) (rm1 l Z av0 hw [] p3  h0 n0 Z0 ) hZ (ww hw 4 rfl) (ww hw 3 rfl) (by decide) (by decide)) (g := (mkF m 22 #[.val (.int p0), .val (.int p1), .val (.int p2), .val (.int p3), .val (.int p4), .val (.int p5), .val (.int (2 : Int32)), .val (.int r18), .val (.int r19), .unset, .unset, .unset, .unset, .unset, .unset, .unset, .unset, .unset, .unset, .unset, .unset, .unset, .unset, .unset, .unset, .unset, .unset] [(.int p3)])) rfl (by rw [hml]; rfl) (argsL := [(.int p3)]) (rest := []) (lenOf pd_1 rfl) rfl (by show 2 * 0 + _ ≤ _; exact Nat.le_of_eq rfl) (dd at_22) (fun _ _ => ⟨rfl, e19, (by decide : 0 + 0 ≤ _), (by decide : 0 + 0 ≤ _)⟩)
    dsimp only [Pt.U, Pt.locs, Pt.cells, Pt.slots, Q_rm1] at X20 l20 y20 z20 st20 hQ20
    subst l20 y20 z20
    generalize (f1 p3) = r20 at hQ20
    obtain ⟨rfl, N20q, e20⟩ := hQ20
    have N20 := Fr.app N19 N20q
    refine Gz.st st20 ?_
    refine Gz.istore 27 #[.val (.int p0), .val (.int p1), .val (.int p2), .val (.int p3), .val (.int p4), .val (.int p5), .val (.int (2 : Int32)), .val (.int r18), .val (.int r19), .val (.int r20), .unset, .unset, .unset, .unset, .unset, .unset, .unset, .unset, .unset, .unset, .unset, .unset, .unset, .unset, .unset, .unset, .unset] X20 hx (dd at_25) rfl rfl ?_
    refine Gz.iload 29 X20 hx (dd at_27) rfl rfl ?_
    obtain ⟨_, _, ⟨T21, L21, k21, n21⟩, -, X21, ⟨Lc21, hQ21, l21, y21, z21⟩, st21⟩ := Jvm.LawKit.callS X20 hx (y := (⟨"com/example/minsuite/minsuite/ValuePairsCountPinLaw", "positive", "(I)I"⟩ : MethodName)) hown (mvT hZ (ww hw 1 rfl)) (mvT hZ (ww hw 2 rfl)) (mvT hZ (ww hw 3 rfl)) (mvT hZ (ww hw 4 rfl)) (by decide) (backOf (W := 0) (rm1 l Z av0 hw [] p4  h0 n0 Z0 ) hZ (ww hw 4 rfl) (ww hw 3 rfl) (by decide) (by decide)) (g := (mkF m 29 #[.val (.int p0), .val (.int p1), .val (.int p2), .val (.int p3), .val (.int p4), .val (.int p5), .val (.int (2 : Int32)), .val (.int r18), .val (.int r19), .val (.int r20), .unset, .unset, .unset, .unset, .unset, .unset, .unset, .unset, .unset, .unset, .unset, .unset, .unset, .unset, .unset, .unset, .unset] [(.int p4)])) rfl (by rw [hml]; rfl) (argsL := [(.int p4)]) (rest := []) (lenOf pd_1 rfl) rfl (by show 2 * 0 + _ ≤ _; exact Nat.le_of_eq rfl) (dd at_29) (fun _ _ => ⟨rfl, e20, (by decide : 0 + 0 ≤ _), (by decide : 0 + 0 ≤ _)⟩)
    dsimp only [Pt.U, Pt.locs, Pt.cells, Pt.slots, Q_rm1] at X21 l21 y21 z21 st21 hQ21
    subst l21 y21 z21
    generalize (f1 p4) = r21 at hQ21
    obtain ⟨rfl, N21q, e21⟩ := hQ21
    have N21 := Fr.app N20 N21q
    refine Gz.st st21 ?_
    refine Gz.istore 34 #[.val (.int p0), .val (.int p1), .val (.int p2), .val (.int p3), .val (.int p4), .val (.int p5), .val (.int (2 : Int32)), .val (.int r18), .val (.int r19), .val (.int r20), .val (.int r21), .unset, .unset, .unset, .unset, .unset, .unset, .unset, .unset, .unset, .unset, .unset, .unset, .unset, .unset, .unset, .unset] X21 hx (dd at_32) rfl rfl ?_
    refine Gz.iload 36 X21 hx (dd at_34) rfl rfl ?_
    obtain ⟨_, _, ⟨T22, L22, k22, n22⟩, -, X22, ⟨Lc22, hQ22, l22, y22, z22⟩, st22⟩ := Jvm.LawKit.callS X21 hx (y := (⟨"com/example/minsuite/minsuite/ValuePairsCountPinLaw", "positive", "(I)I"⟩ : MethodName)) hown (mvT hZ (ww hw 1 rfl)) (mvT hZ (ww hw 2 rfl)) (mvT hZ (ww hw 3 rfl)) (mvT hZ (ww hw 4 rfl)) (by decide) (backOf (W := 0) (rm1 l Z av0 hw [] p5  h0 n0 Z0 ) hZ (ww hw 4 rfl) (ww hw 3 rfl) (by decide) (by decide)) (g := (mkF m 36 #[.val (.int p0), .val (.int p1), .val (.int p2), .val (.int p3), .val (.int p4), .val (.int p5), .val (.int (2 : Int32)), .val (.int r18), .val (.int r19), .val (.int r20), .val (.int r21), .unset, .unset, .unset, .unset, .unset, .unset, .unset, .unset, .unset, .unset, .unset, .unset, .unset, .unset, .unset, .unset] [(.int p5)])) rfl (by rw [hml]; rfl) (argsL := [(.int p5)]) (rest := []) (lenOf pd_1 rfl) rfl (by show 2 * 0 + _ ≤ _; exact Nat.le_of_eq rfl) (dd at_36) (fun _ _ => ⟨rfl, e21, (by decide : 0 + 0 ≤ _), (by decide : 0 + 0 ≤ _)⟩)
    dsimp only [Pt.U, Pt.locs, Pt.cells, Pt.slots, Q_rm1] at X22 l22 y22 z22 st22 hQ22
    subst l22 y22 z22
    generalize (f1 p5) = r22 at hQ22
    obtain ⟨rfl, N22q, e22⟩ := hQ22
    have N22 := Fr.app N21 N22q
    refine Gz.st st22 ?_
    refine Gz.istore 41 #[.val (.int p0), .val (.int p1), .val (.int p2), .val (.int p3), .val (.int p4), .val (.int p5), .val (.int (2 : Int32)), .val (.int r18), .val (.int r19), .val (.int r20), .val (.int r21), .val (.int r22), .unset, .unset, .unset, .unset, .unset, .unset, .unset, .unset, .unset, .unset, .unset, .unset, .unset, .unset, .unset] X22 hx (dd at_39) rfl rfl ?_
    refine Gz.iload 43 X22 hx (dd at_41) rfl rfl ?_
    obtain ⟨T23, h23, k23, X23, e23, E23, A23, Q23, st23⟩ := newPE X22 hx hZ (ww hw 9 rfl) e22 (g := (mkF m 43 #[.val (.int p0), .val (.int p1), .val (.int p2), .val (.int p3), .val (.int p4), .val (.int p5), .val (.int (2 : Int32)), .val (.int r18), .val (.int r19), .val (.int r20), .val (.int r21), .val (.int r22), .unset, .unset, .unset, .unset, .unset, .unset, .unset, .unset, .unset, .unset, .unset, .unset, .unset, .unset, .unset] [(.int (2 : Int32))])) rfl (dd at_43) rfl (by decide) (cap := 2) (by decide) (by decide) (by decide) (by decide) (ad := "[I") rfl
    obtain ⟨b23, g23⟩ : ∃ z, z = h0.size := ⟨_, rfl⟩
    rw [← g23] at A23 Q23 st23
    have g_b23 : n0 ≤ b23 := Nat.le_trans Z0 (Nat.le_of_eq g23.symm)
    have SZ23 : n0 ≤ h23.size := Nat.le_trans Z0 E23.1
    have V23 : Arv Z h23 b23 k23 .int (2 : Int32) [(.int (0 : Int32)), (.int (0 : Int32))] (.int (0 : Int32)) := (Arv.new A23 (by decide)).pad (pad_rep [] (.int (0 : Int32)) 2)
    refine Gz.st st23 ?_
    refine Gz.astore 47 #[.val (.int p0), .val (.int p1), .val (.int p2), .val (.int p3), .val (.int p4), .val (.int p5), .val (.int (2 : Int32)), .val (.int r18), .val (.int r19), .val (.int r20), .val (.int r21), .val (.int r22), .val (.ref b23), .unset, .unset, .unset, .unset, .unset, .unset, .unset, .unset, .unset, .unset, .unset, .unset, .unset, .unset] X23 hx (dd at_45) rfl rfl rfl ?_
    refine Gz.iload 49 X23 hx (dd at_47) rfl rfl ?_
    refine Gz.ifNo 52 X23 hx (dd at_49) ((if0 _ _).trans (tlt (by decide : (0 : Int32) < (2 : Int32))).2.2.2) rfl ?_
    refine Gz.aload 54 X23 hx (dd at_52) rfl rfl rfl ?_
    refine Gz.iconst 55 (0 : Int32) X23 hx (dd at_54) rfl rfl ?_
    refine Gz.iload 57 X23 hx (dd at_55) rfl rfl ?_
    obtain ⟨c24, A24, q24, S24, N24, H24, G24⟩ := id V23
    have hin24 : ¬ ((0 : Int32) < 0 ∨ c24.slots.size ≤ ((0 : Int32)).toNatClampNeg) := inb_of S24 ⟨by decide, by decide⟩
    refine Gz.stI 58 X23 hx hZ (dd at_57) e23 A24 hin24 rfl fun T25 h25 X25 e25 W25 => ?_
    have V25 := Arv.set A24 q24 S24 N24 H24 G24 rfl W25 0 rfl (Nat.le_of_ble_eq_true rfl)
    replace V25 : Arv Z h25 b23 k23 .int (2 : Int32) [(.int r18), (.int (0 : Int32))] (.int (0 : Int32)) := V25
    have f25_Eb23 := Exa.wr W25 Q23
    have N25 := Fr.snoc X25 N22 g_b23
    have SZ25 : n0 ≤ h25.size := Nat.le_trans SZ23 (Keep.of_wr W25).1
    refine Gz.iload 60 X25 hx (dd at_58) rfl rfl ?_
    refine Gz.iconst 61 (1 : Int32) X25 hx (dd at_60) rfl rfl ?_
    refine Gz.icmpNo 64 X25 hx (dd at_61) (tlt (by decide : (1 : Int32) < (2 : Int32))).2.2.2 rfl ?_
    refine Gz.aload 66 X25 hx (dd at_64) rfl rfl rfl ?_
    refine Gz.iconst 67 (1 : Int32) X25 hx (dd at_66) rfl rfl ?_
    refine Gz.iload 69 X25 hx (dd at_67) rfl rfl ?_
    obtain ⟨c26, A26, q26, S26, N26, H26, G26⟩ := id V25
    have hin26 : ¬ ((1 : Int32) < 0 ∨ c26.slots.size ≤ ((1 : Int32)).toNatClampNeg) := inb_of S26 ⟨by decide, by decide⟩
    refine Gz.stI 70 X25 hx hZ (dd at_69) e25 A26 hin26 rfl fun T27 h27 X27 e27 W27 => ?_
    have V27 := Arv.set A26 q26 S26 N26 H26 G26 rfl W27 1 rfl (Nat.le_of_ble_eq_true rfl)
    replace V27 : Arv Z h27 b23 k23 .int (2 : Int32) [(.int r18), (.int r19)] (.int (0 : Int32)) := V27
    have f27_Eb23 := Exa.wr W27 f25_Eb23
    have N27 := Fr.snoc X27 N25 g_b23
    have SZ27 : n0 ≤ h27.size := Nat.le_trans SZ25 (Keep.of_wr W27).1
    refine Gz.iload 72 X27 hx (dd at_70) rfl rfl ?_
    refine Gz.iconst 73 (2 : Int32) X27 hx (dd at_72) rfl rfl ?_
    refine Gz.icmpYes 82 X27 hx (dd at_73) (flt (by decide : ¬ ((2 : Int32) < (2 : Int32)))).2.2.2 (by decide) (by decide) ?_
    refine Gz.iload 84 X27 hx (dd at_82) rfl rfl ?_
    refine Gz.iconst 85 (3 : Int32) X27 hx (dd at_84) rfl rfl ?_
    refine Gz.icmpYes 94 X27 hx (dd at_85) (flt (by decide : ¬ ((3 : Int32) < (2 : Int32)))).2.2.2 (by decide) (by decide) ?_
    refine Gz.iload 96 X27 hx (dd at_94) rfl rfl ?_
    refine Gz.iconst 97 (4 : Int32) X27 hx (dd at_96) rfl rfl ?_
    refine Gz.icmpYes 106 X27 hx (dd at_97) (flt (by decide : ¬ ((4 : Int32) < (2 : Int32)))).2.2.2 (by decide) (by decide) ?_
    refine Gz.iload 108 X27 hx (dd at_106) rfl rfl ?_
    refine Gz.ifNo 111 X27 hx (dd at_108) ((if0 _ _).trans (tlt (by decide : (0 : Int32) < (2 : Int32))).2.2.2) rfl ?_
    refine Gz.iload 113 X27 hx (dd at_111) rfl rfl ?_
    refine Gz.i2l 114 X27 hx (dd at_113) rfl ?_
    refine Gz.goto 118 X27 hx (dd at_114) (by decide) (by decide) ?_
    refine Gz.lstore 120 #[.val (.int p0), .val (.int p1), .val (.int p2), .val (.int p3), .val (.int p4), .val (.int p5), .val (.int (2 : Int32)), .val (.int r18), .val (.int r19), .val (.int r20), .val (.int r21), .val (.int r22), .val (.ref b23), .val (.long (r18.toInt64)), .second, .unset, .unset, .unset, .unset, .unset, .unset, .unset, .unset, .unset, .unset, .unset, .unset] X27 hx (dd at_118) rfl rfl ?_
    refine Gz.iload 122 X27 hx (dd at_120) rfl rfl ?_
    refine Gz.iconst 123 (1 : Int32) X27 hx (dd at_122) rfl rfl ?_
    refine Gz.icmpNo 126 X27 hx (dd at_123) (tlt (by decide : (1 : Int32) < (2 : Int32))).2.2.2 rfl ?_
    refine Gz.iload 128 X27 hx (dd at_126) rfl rfl ?_
    refine Gz.i2l 129 X27 hx (dd at_128) rfl ?_
    refine Gz.goto 133 X27 hx (dd at_129) (by decide) (by decide) ?_
    refine Gz.lstore 135 #[.val (.int p0), .val (.int p1), .val (.int p2), .val (.int p3), .val (.int p4), .val (.int p5), .val (.int (2 : Int32)), .val (.int r18), .val (.int r19), .val (.int r20), .val (.int r21), .val (.int r22), .val (.ref b23), .val (.long (r18.toInt64)), .second, .val (.long (r19.toInt64)), .second, .unset, .unset, .unset, .unset, .unset, .unset, .unset, .unset, .unset, .unset] X27 hx (dd at_133) rfl rfl ?_
    refine Gz.iload 137 X27 hx (dd at_135) rfl rfl ?_
    refine Gz.iconst 138 (2 : Int32) X27 hx (dd at_137) rfl rfl ?_
    refine Gz.icmpYes 147 X27 hx (dd at_138) (flt (by decide : ¬ ((2 : Int32) < (2 : Int32)))).2.2.2 (by decide) (by decide) ?_
    refine Gz.lconst 148 (0 : Int64) X27 hx (dd at_147) rfl rfl ?_
    refine Gz.lstore 150 #[.val (.int p0), .val (.int p1), .val (.int p2), .val (.int p3), .val (.int p4), .val (.int p5), .val (.int (2 : Int32)), .val (.int r18), .val (.int r19), .val (.int r20), .val (.int r21), .val (.int r22), .val (.ref b23), .val (.long (r18.toInt64)), .second, .val (.long (r19.toInt64)), .second, .val (.long (0 : Int64)), .second, .unset, .unset, .unset, .unset, .unset, .unset, .unset, .unset] X27 hx (dd at_148) rfl rfl ?_
    refine Gz.iload 152 X27 hx (dd at_150) rfl rfl ?_
    refine Gz.iconst 153 (3 : Int32) X27 hx (dd at_152) rfl rfl ?_
    refine Gz.icmpYes 162 X27 hx (dd at_153) (flt (by decide : ¬ ((3 : Int32) < (2 : Int32)))).2.2.2 (by decide) (by decide) ?_
    refine Gz.lconst 163 (0 : Int64) X27 hx (dd at_162) rfl rfl ?_
    refine Gz.lstore 165 #[.val (.int p0), .val (.int p1), .val (.int p2), .val (.int p3), .val (.int p4), .val (.int p5), .val (.int (2 : Int32)), .val (.int r18), .val (.int r19), .val (.int r20), .val (.int r21), .val (.int r22), .val (.ref b23), .val (.long (r18.toInt64)), .second, .val (.long (r19.toInt64)), .second, .val (.long (0 : Int64)), .second, .val (.long (0 : Int64)), .second, .unset, .unset, .unset, .unset, .unset, .unset] X27 hx (dd at_163) rfl rfl ?_
    refine Gz.iload 167 X27 hx (dd at_165) rfl rfl ?_
    refine Gz.iconst 168 (4 : Int32) X27 hx (dd at_167) rfl rfl ?_
    refine Gz.icmpYes 177 X27 hx (dd at_168) (flt (by decide : ¬ ((4 : Int32) < (2 : Int32)))).2.2.2 (by decide) (by decide) ?_
    refine Gz.lconst 178 (0 : Int64) X27 hx (dd at_177) rfl rfl ?_
    refine Gz.lstore 180 #[.val (.int p0), .val (.int p1), .val (.int p2), .val (.int p3), .val (.int p4), .val (.int p5), .val (.int (2 : Int32)), .val (.int r18), .val (.int r19), .val (.int r20), .val (.int r21), .val (.int r22), .val (.ref b23), .val (.long (r18.toInt64)), .second, .val (.long (r19.toInt64)), .second, .val (.long (0 : Int64)), .second, .val (.long (0 : Int64)), .second, .val (.long (0 : Int64)), .second, .unset, .unset, .unset, .unset] X27 hx (dd at_178) rfl rfl ?_
    refine Gz.lload 182 X27 hx (dd at_180) rfl rfl ?_
    refine Gz.lload 184 X27 hx (dd at_182) rfl rfl ?_
    refine Gz.lmul 185 X27 hx (dd at_184) rfl ?_
    refine Gz.lload 187 X27 hx (dd at_185) rfl rfl ?_
    refine Gz.lload 189 X27 hx (dd at_187) rfl rfl ?_
    refine Gz.lmul 190 X27 hx (dd at_189) rfl ?_
    refine Gz.ladd 191 X27 hx (dd at_190) rfl ?_
    refine Gz.lload 193 X27 hx (dd at_191) rfl rfl ?_
    refine Gz.lload 195 X27 hx (dd at_193) rfl rfl ?_
    refine Gz.lmul 196 X27 hx (dd at_195) rfl ?_
    refine Gz.ladd 197 X27 hx (dd at_196) rfl ?_
    refine Gz.lload 199 X27 hx (dd at_197) rfl rfl ?_
    refine Gz.lload 201 X27 hx (dd at_199) rfl rfl ?_
    refine Gz.lmul 202 X27 hx (dd at_201) rfl ?_
    refine Gz.ladd 203 X27 hx (dd at_202) rfl ?_
    refine Gz.lload 205 X27 hx (dd at_203) rfl rfl ?_
    refine Gz.lload 207 X27 hx (dd at_205) rfl rfl ?_
    refine Gz.lmul 208 X27 hx (dd at_207) rfl ?_
    refine Gz.ladd 209 X27 hx (dd at_208) rfl ?_
    refine Gz.lload 211 X27 hx (dd at_209) rfl rfl ?_
    refine Gz.lload 213 X27 hx (dd at_211) rfl rfl ?_
    refine Gz.lmul 214 X27 hx (dd at_213) rfl ?_
    refine Gz.ladd 215 X27 hx (dd at_214) rfl ?_
    refine Gz.lload 217 X27 hx (dd at_215) rfl rfl ?_
    refine Gz.lload 219 X27 hx (dd at_217) rfl rfl ?_
    refine Gz.lmul 220 X27 hx (dd at_219) rfl ?_
    refine Gz.ladd 221 X27 hx (dd at_220) rfl ?_
    refine Gz.lload 223 X27 hx (dd at_221) rfl rfl ?_
    refine Gz.lload 225 X27 hx (dd at_223) rfl rfl ?_
    refine Gz.lmulV 226 (0 : Int64) X27 hx (dd at_225) rfl rfl ?_
    refine Gz.ladd 227 X27 hx (dd at_226) rfl ?_
    refine Gz.lload 229 X27 hx (dd at_227) rfl rfl ?_
    refine Gz.lload 231 X27 hx (dd at_229) rfl rfl ?_
    refine Gz.lmulV 232 (0 : Int64) X27 hx (dd at_231) rfl rfl ?_
    refine Gz.ladd 233 X27 hx (dd at_232) rfl ?_
    refine Gz.lload 235 X27 hx (dd at_233) rfl rfl ?_
    refine Gz.lload 237 X27 hx (dd at_235) rfl rfl ?_
    refine Gz.lmulV 238 (0 : Int64) X27 hx (dd at_237) rfl rfl ?_
    refine Gz.ladd 239 X27 hx (dd at_238) rfl ?_
    refine Gz.lstore 241 #[.val (.int p0), .val (.int p1), .val (.int p2), .val (.int p3), .val (.int p4), .val (.int p5), .val (.int (2 : Int32)), .val (.int r18), .val (.int r19), .val (.int r20), .val (.int r21), .val (.int r22), .val (.ref b23), .val (.long (r18.toInt64)), .second, .val (.long (r19.toInt64)), .second, .val (.long (0 : Int64)), .second, .val (.long (0 : Int64)), .second, .val (.long (0 : Int64)), .second, .val (.long (((((((((((r18.toInt64) * (r19.toInt64)) + ((r18.toInt64) * (0 : Int64))) + ((r18.toInt64) * (0 : Int64))) + ((r18.toInt64) * (0 : Int64))) + ((r19.toInt64) * (0 : Int64))) + ((r19.toInt64) * (0 : Int64))) + ((r19.toInt64) * (0 : Int64))) + (0 : Int64)) + (0 : Int64)) + (0 : Int64))), .second, .unset, .unset] X27 hx (dd at_239) rfl rfl ?_
    refine Gz.aload 243 X27 hx (dd at_241) rfl rfl rfl ?_
    obtain ⟨_, _, ⟨T28, L28, k28, n28⟩, -, X28, ⟨Lc28, hQ28, l28, y28, z28⟩, st28⟩ := Jvm.LawKit.callS X27 hx (y := (⟨"com/example/minsuite/minsuite/ValuePairs", "count", "([I)J"⟩ : MethodName)) hown (mvT hZ (ww hw 10 rfl)) (mvT hZ (ww hw 11 rfl)) (mvT hZ (ww hw 12 rfl)) (mvT hZ (ww hw 13 rfl)) (by decide) (backOf (W := 0) (rm3_2 l Z av0 hw [] b23 k23 r18 r19 h27 n0 SZ27 V27) hZ (ww hw 13 rfl) (ww hw 12 rfl) (by decide) (by decide)) (g := (mkF m 243 #[.val (.int p0), .val (.int p1), .val (.int p2), .val (.int p3), .val (.int p4), .val (.int p5), .val (.int (2 : Int32)), .val (.int r18), .val (.int r19), .val (.int r20), .val (.int r21), .val (.int r22), .val (.ref b23), .val (.long (r18.toInt64)), .second, .val (.long (r19.toInt64)), .second, .val (.long (0 : Int64)), .second, .val (.long (0 : Int64)), .second, .val (.long (0 : Int64)), .second, .val (.long (((((((((((r18.toInt64) * (r19.toInt64)) + ((r18.toInt64) * (0 : Int64))) + ((r18.toInt64) * (0 : Int64))) + ((r18.toInt64) * (0 : Int64))) + ((r19.toInt64) * (0 : Int64))) + ((r19.toInt64) * (0 : Int64))) + ((r19.toInt64) * (0 : Int64))) + (0 : Int64)) + (0 : Int64)) + (0 : Int64))), .second, .unset, .unset] [(.ref b23)])) rfl (by rw [hml]; rfl) (argsL := [(.ref b23)]) (rest := []) (lenOf pd_2 rfl) rfl (by show 2 * 0 + _ ≤ _; exact Nat.le_of_eq rfl) (dd at_243) (fun _ _ => ⟨rfl, e27, (by decide : 1 + 0 ≤ _), (by decide : 2 + 0 ≤ _)⟩)
    dsimp only [Pt.U, Pt.locs, Pt.cells, Pt.slots, Q_rm3_2] at X28 l28 y28 z28 st28 hQ28
    subst l28 y28 z28
    obtain ⟨rfl, N28q, e28⟩ := hQ28
    have N28 := Fr.app N27 N28q
    refine Gz.st st28 ?_
    refine Gz.lstore 248 #[.val (.int p0), .val (.int p1), .val (.int p2), .val (.int p3), .val (.int p4), .val (.int p5), .val (.int (2 : Int32)), .val (.int r18), .val (.int r19), .val (.int r20), .val (.int r21), .val (.int r22), .val (.ref b23), .val (.long (r18.toInt64)), .second, .val (.long (r19.toInt64)), .second, .val (.long (0 : Int64)), .second, .val (.long (0 : Int64)), .second, .val (.long (0 : Int64)), .second, .val (.long (((((((((((r18.toInt64) * (r19.toInt64)) + ((r18.toInt64) * (0 : Int64))) + ((r18.toInt64) * (0 : Int64))) + ((r18.toInt64) * (0 : Int64))) + ((r19.toInt64) * (0 : Int64))) + ((r19.toInt64) * (0 : Int64))) + ((r19.toInt64) * (0 : Int64))) + (0 : Int64)) + (0 : Int64)) + (0 : Int64))), .second, .val (.long (f3_2 b23 r18 r19)), .second] X28 hx (dd at_246) rfl rfl ?_
    refine Gz.lload 250 X28 hx (dd at_248) rfl rfl ?_
    refine Gz.lload 252 X28 hx (dd at_250) rfl rfl ?_
    refine Gz.lcmp 253 X28 hx (dd at_252) rfl ?_
    refine Gz.ifNo 256 X28 hx (dd at_253) ((if0 _ _).trans (teq ((lw_eq _ _).mpr ((by unfold f3_2; simp only [Int64.zero_add, Int64.zero_mul, Int64.mul_zero, Int64.add_zero, Int64.add_mul]; try ac_rfl) : (f3_2 b23 r18 r19) = (((((((((((r18.toInt64) * (r19.toInt64)) + ((r18.toInt64) * (0 : Int64))) + ((r18.toInt64) * (0 : Int64))) + ((r18.toInt64) * (0 : Int64))) + ((r19.toInt64) * (0 : Int64))) + ((r19.toInt64) * (0 : Int64))) + ((r19.toInt64) * (0 : Int64))) + (0 : Int64)) + (0 : Int64)) + (0 : Int64))))).2) rfl ?_
    refine Gz.iconst 257 (1 : Int32) X28 hx (dd at_256) rfl rfl ?_
    refine Gz.goto 261 X28 hx (dd at_257) (by decide) (by decide) ?_
    refine Gz.fin X28 (v := some (.int (1 : Int32))) (fun h => by rw [hret] at h; cases h) hlk (by decide) (by decide) (fun fs hr => retN X28 hx (t := .boolean) hret (by simp) (dd at_261) hr) ?_
    exact ⟨rfl, N28⟩
  · rw [hs1]
    refine Gz.istore 9 #[.val (.int p0), .val (.int p1), .val (.int p2), .val (.int p3), .val (.int p4), .val (.int p5), .val (.int (3 : Int32)), .unset, .unset, .unset, .unset, .unset, .unset, .unset, .unset, .unset, .unset, .unset, .unset, .unset, .unset, .unset, .unset, .unset, .unset, .unset, .unset] X0 hx (dd at_7) rfl rfl ?_
    refine Gz.iloadN 10 X0 hx (dd at_9) rfl rfl ?_
    obtain ⟨_, _, ⟨T29, L29, k29, n29⟩, -, X29, ⟨Lc29, hQ29, l29, y29, z29⟩, st29⟩ := Jvm.LawKit.callS X0 hx (y := (⟨"com/example/minsuite/minsuite/ValuePairsCountPinLaw", "positive", "(I)I"⟩ : MethodName)) hown (mvT hZ (ww hw 1 rfl)) (mvT hZ (ww hw 2 rfl)) (mvT hZ (ww hw 3 rfl)) (mvT hZ (ww hw 4 rfl)) (by decide) (backOf (W := 0) (rm1 l Z av0 hw [] p1  h0 n0 Z0 ) hZ (ww hw 4 rfl) (ww hw 3 rfl) (by decide) (by decide)) (g := (mkF m 10 #[.val (.int p0), .val (.int p1), .val (.int p2), .val (.int p3), .val (.int p4), .val (.int p5), .val (.int (3 : Int32)), .unset, .unset, .unset, .unset, .unset, .unset, .unset, .unset, .unset, .unset, .unset, .unset, .unset, .unset, .unset, .unset, .unset, .unset, .unset, .unset] [(.int p1)])) rfl (by rw [hml]; rfl) (argsL := [(.int p1)]) (rest := []) (lenOf pd_1 rfl) rfl (by show 2 * 0 + _ ≤ _; exact Nat.le_of_eq rfl) (dd at_10) (fun _ _ => ⟨rfl, e0, (by decide : 0 + 0 ≤ _), (by decide : 0 + 0 ≤ _)⟩)
    dsimp only [Pt.U, Pt.locs, Pt.cells, Pt.slots, Q_rm1] at X29 l29 y29 z29 st29 hQ29
    subst l29 y29 z29
    generalize (f1 p1) = r29 at hQ29
    obtain ⟨rfl, N29q, e29⟩ := hQ29
    have N29 := Fr.app N0 N29q
    refine Gz.st st29 ?_
    refine Gz.istore 15 #[.val (.int p0), .val (.int p1), .val (.int p2), .val (.int p3), .val (.int p4), .val (.int p5), .val (.int (3 : Int32)), .val (.int r29), .unset, .unset, .unset, .unset, .unset, .unset, .unset, .unset, .unset, .unset, .unset, .unset, .unset, .unset, .unset, .unset, .unset, .unset, .unset] X29 hx (dd at_13) rfl rfl ?_
    refine Gz.iloadN 16 X29 hx (dd at_15) rfl rfl ?_
    obtain ⟨_, _, ⟨T30, L30, k30, n30⟩, -, X30, ⟨Lc30, hQ30, l30, y30, z30⟩, st30⟩ := Jvm.LawKit.callS X29 hx (y := (⟨"com/example/minsuite/minsuite/ValuePairsCountPinLaw", "positive", "(I)I"⟩ : MethodName)) hown (mvT hZ (ww hw 1 rfl)) (mvT hZ (ww hw 2 rfl)) (mvT hZ (ww hw 3 rfl)) (mvT hZ (ww hw 4 rfl)) (by decide) (backOf (W := 0) (rm1 l Z av0 hw [] p2  h0 n0 Z0 ) hZ (ww hw 4 rfl) (ww hw 3 rfl) (by decide) (by decide)) (g := (mkF m 16 #[.val (.int p0), .val (.int p1), .val (.int p2), .val (.int p3), .val (.int p4), .val (.int p5), .val (.int (3 : Int32)), .val (.int r29), .unset, .unset, .unset, .unset, .unset, .unset, .unset, .unset, .unset, .unset, .unset, .unset, .unset, .unset, .unset, .unset, .unset, .unset, .unset] [(.int p2)])) rfl (by rw [hml]; rfl) (argsL := [(.int p2)]) (rest := []) (lenOf pd_1 rfl) rfl (by show 2 * 0 + _ ≤ _; exact Nat.le_of_eq rfl) (dd at_16) (fun _ _ => ⟨rfl, e29, (by decide : 0 + 0 ≤ _), (by decide : 0 + 0 ≤ _)⟩)
    dsimp only [Pt.U, Pt.locs, Pt.cells, Pt.slots, Q_rm1] at X30 l30 y30 z30 st30 hQ30
    subst l30 y30 z30
    generalize (f1 p2) = r30 at hQ30
    obtain ⟨rfl, N30q, e30⟩ := hQ30
    have N30 := Fr.app N29 N30q
    refine Gz.st st30 ?_
    refine Gz.istore 21 #[.val (.int p0), .val (.int p1), .val (.int p2), .val (.int p3), .val (.int p4), .val (.int p5), .val (.int (3 : Int32)), .val (.int r29), .val (.int r30), .unset, .unset, .unset, .unset, .unset, .unset, .unset, .unset, .unset, .unset, .unset, .unset, .unset, .unset, .unset, .unset, .unset, .unset] X30 hx (dd at_19) rfl rfl ?_
    refine Gz.iloadN 22 X30 hx (dd at_21) rfl rfl ?_
    obtain ⟨_, _, ⟨T31, L31, k31, n31⟩, -, X31, ⟨Lc31, hQ31, l31, y31, z31⟩, st31⟩ := Jvm.LawKit.callS X30 hx (y := (⟨"com/example/minsuite/minsuite/ValuePairsCountPinLaw", "positive", "(I)I"⟩ : MethodName)) hown (mvT hZ (ww hw 1 rfl)) (mvT hZ (ww hw 2 rfl)) (mvT hZ (ww hw 3 rfl)) (mvT hZ (ww hw 4 rfl)) (by decide) (backOf (W := 0) (rm1 l Z av0 hw [] p3  h0 n0 Z0 ) hZ (ww hw 4 rfl) (ww hw 3 rfl) (by decide) (by decide)) (g := (mkF m 22 #[.val (.int p0), .val (.int p1), .val (.int p2), .val (.int p3), .val (.int p4), .val (.int p5), .val (.int (3 : Int32)), .val (.int r29), .val (.int r30), .unset, .unset, .unset, .unset, .unset, .unset, .unset, .unset, .unset, .unset, .unset, .unset, .unset, .unset, .unset, .unset, .unset, .unset] [(.int p3)])) rfl (by rw [hml]; rfl) (argsL := [(.int p3)]) (rest := []) (lenOf pd_1 rfl) rfl (by show 2 * 0 + _ ≤ _; exact Nat.le_of_eq rfl) (dd at_22) (fun _ _ => ⟨rfl, e30, (by decide : 0 + 0 ≤ _), (by decide : 0 + 0 ≤ _)⟩)
    dsimp only [Pt.U, Pt.locs, Pt.cells, Pt.slots, Q_rm1] at X31 l31 y31 z31 st31 hQ31
    subst l31 y31 z31
    generalize (f1 p3) = r31 at hQ31
    obtain ⟨rfl, N31q, e31⟩ := hQ31
    have N31 := Fr.app N30 N31q
    refine Gz.st st31 ?_
    refine Gz.istore 27 #[.val (.int p0), .val (.int p1), .val (.int p2), .val (.int p3), .val (.int p4), .val (.int p5), .val (.int (3 : Int32)), .val (.int r29), .val (.int r30), .val (.int r31), .unset, .unset, .unset, .unset, .unset, .unset, .unset, .unset, .unset, .unset, .unset, .unset, .unset, .unset, .unset, .unset, .unset] X31 hx (dd at_25) rfl rfl ?_
    refine Gz.iload 29 X31 hx (dd at_27) rfl rfl ?_
    obtain ⟨_, _, ⟨T32, L32, k32, n32⟩, -, X32, ⟨Lc32, hQ32, l32, y32, z32⟩, st32⟩ := Jvm.LawKit.callS X31 hx (y := (⟨"com/example/minsuite/minsuite/ValuePairsCountPinLaw", "positive", "(I)I"⟩ : MethodName)) hown (mvT hZ (ww hw 1 rfl)) (mvT hZ (ww hw 2 rfl)) (mvT hZ (ww hw 3 rfl)) (mvT hZ (ww hw 4 rfl)) (by decide) (backOf (W := 0) (rm1 l Z av0 hw [] p4  h0 n0 Z0 ) hZ (ww hw 4 rfl) (ww hw 3 rfl) (by decide) (by decide)) (g := (mkF m 29 #[.val (.int p0), .val (.int p1), .val (.int p2), .val (.int p3), .val (.int p4), .val (.int p5), .val (.int (3 : Int32)), .val (.int r29), .val (.int r30), .val (.int r31), .unset, .unset, .unset, .unset, .unset, .unset, .unset, .unset, .unset, .unset, .unset, .unset, .unset, .unset, .unset, .unset, .unset] [(.int p4)])) rfl (by rw [hml]; rfl) (argsL := [(.int p4)]) (rest := []) (lenOf pd_1 rfl) rfl (by show 2 * 0 + _ ≤ _; exact Nat.le_of_eq rfl) (dd at_29) (fun _ _ => ⟨rfl, e31, (by decide : 0 + 0 ≤ _), (by decide : 0 + 0 ≤ _)⟩)
    dsimp only [Pt.U, Pt.locs, Pt.cells, Pt.slots, Q_rm1] at X32 l32 y32 z32 st32 hQ32
    subst l32 y32 z32
    generalize (f1 p4) = r32 at hQ32
    obtain ⟨rfl, N32q, e32⟩ := hQ32
    have N32 := Fr.app N31 N32q
    refine Gz.st st32 ?_
    refine Gz.istore 34 #[.val (.int p0), .val (.int p1), .val (.int p2), .val (.int p3), .val (.int p4), .val (.int p5), .val (.int (3 : Int32)), .val (.int r29), .val (.int r30), .val (.int r31), .val (.int r32), .unset, .unset, .unset, .unset, .unset, .unset, .unset, .unset, .unset, .unset, .unset, .unset, .unset, .unset, .unset, .unset] X32 hx (dd at_32) rfl rfl ?_
    refine Gz.iload 36 X32 hx (dd at_34) rfl rfl ?_
    obtain ⟨_, _, ⟨T33, L33, k33, n33⟩, -, X33, ⟨Lc33, hQ33, l33, y33, z33⟩, st33⟩ := Jvm.LawKit.callS X32 hx (y := (⟨"com/example/minsuite/minsuite/ValuePairsCountPinLaw", "positive", "(I)I"⟩ : MethodName)) hown (mvT hZ (ww hw 1 rfl)) (mvT hZ (ww hw 2 rfl)) (mvT hZ (ww hw 3 rfl)) (mvT hZ (ww hw 4 rfl)) (by decide) (backOf (W := 0) (rm1 l Z av0 hw [] p5  h0 n0 Z0 ) hZ (ww hw 4 rfl) (ww hw 3 rfl) (by decide) (by decide)) (g := (mkF m 36 #[.val (.int p0), .val (.int p1), .val (.int p2), .val (.int p3), .val (.int p4), .val (.int p5), .val (.int (3 : Int32)), .val (.int r29), .val (.int r30), .val (.int r31), .val (.int r32), .unset, .unset, .unset, .unset, .unset, .unset, .unset, .unset, .unset, .unset, .unset, .unset, .unset, .unset, .unset, .unset] [(.int p5)])) rfl (by rw [hml]; rfl) (argsL := [(.int p5)]) (rest := []) (lenOf pd_1 rfl) rfl (by show 2 * 0 + _ ≤ _; exact Nat.le_of_eq rfl) (dd at_36) (fun _ _ => ⟨rfl, e32, (by decide : 0 + 0 ≤ _), (by decide : 0 + 0 ≤ _)⟩)
    dsimp only [Pt.U, Pt.locs, Pt.cells, Pt.slots, Q_rm1] at X33 l33 y33 z33 st33 hQ33
    subst l33 y33 z33
    generalize (f1 p5) = r33 at hQ33
    obtain ⟨rfl, N33q, e33⟩ := hQ33
    have N33 := Fr.app N32 N33q
    refine Gz.st st33 ?_
    refine Gz.istore 41 #[.val (.int p0), .val (.int p1), .val (.int p2), .val (.int p3), .val (.int p4), .val (.int p5), .val (.int (3 : Int32)), .val (.int r29), .val (.int r30), .val (.int r31), .val (.int r32), .val (.int r33), .unset, .unset, .unset, .unset, .unset, .unset, .unset, .unset, .unset, .unset, .unset, .unset, .unset, .unset, .unset] X33 hx (dd at_39) rfl rfl ?_
    refine Gz.iload 43 X33 hx (dd at_41) rfl rfl ?_
    obtain ⟨T34, h34, k34, X34, e34, E34, A34, Q34, st34⟩ := newPE X33 hx hZ (ww hw 9 rfl) e33 (g := (mkF m 43 #[.val (.int p0), .val (.int p1), .val (.int p2), .val (.int p3), .val (.int p4), .val (.int p5), .val (.int (3 : Int32)), .val (.int r29), .val (.int r30), .val (.int r31), .val (.int r32), .val (.int r33), .unset, .unset, .unset, .unset, .unset, .unset, .unset, .unset, .unset, .unset, .unset, .unset, .unset, .unset, .unset] [(.int (3 : Int32))])) rfl (dd at_43) rfl (by decide) (cap := 3) (by decide) (by decide) (by decide) (by decide) (ad := "[I") rfl
    obtain ⟨b34, g34⟩ : ∃ z, z = h0.size := ⟨_, rfl⟩
    rw [← g34] at A34 Q34 st34
    have g_b34 : n0 ≤ b34 := Nat.le_trans Z0 (Nat.le_of_eq g34.symm)
    have SZ34 : n0 ≤ h34.size := Nat.le_trans Z0 E34.1
    have V34 : Arv Z h34 b34 k34 .int (3 : Int32) [(.int (0 : Int32)), (.int (0 : Int32)), (.int (0 : Int32))] (.int (0 : Int32)) := (Arv.new A34 (by decide)).pad (pad_rep [] (.int (0 : Int32)) 3)
    refine Gz.st st34 ?_
    refine Gz.astore 47 #[.val (.int p0), .val (.int p1), .val (.int p2), .val (.int p3), .val (.int p4), .val (.int p5), .val (.int (3 : Int32)), .val (.int r29), .val (.int r30), .val (.int r31), .val (.int r32), .val (.int r33), .val (.ref b34), .unset, .unset, .unset, .unset, .unset, .unset, .unset, .unset, .unset, .unset, .unset, .unset, .unset, .unset] X34 hx (dd at_45) rfl rfl rfl ?_
    refine Gz.iload 49 X34 hx (dd at_47) rfl rfl ?_
    refine Gz.ifNo 52 X34 hx (dd at_49) ((if0 _ _).trans (tlt (by decide : (0 : Int32) < (3 : Int32))).2.2.2) rfl ?_
    refine Gz.aload 54 X34 hx (dd at_52) rfl rfl rfl ?_
    refine Gz.iconst 55 (0 : Int32) X34 hx (dd at_54) rfl rfl ?_
    refine Gz.iload 57 X34 hx (dd at_55) rfl rfl ?_
    obtain ⟨c35, A35, q35, S35, N35, H35, G35⟩ := id V34
    have hin35 : ¬ ((0 : Int32) < 0 ∨ c35.slots.size ≤ ((0 : Int32)).toNatClampNeg) := inb_of S35 ⟨by decide, by decide⟩
    refine Gz.stI 58 X34 hx hZ (dd at_57) e34 A35 hin35 rfl fun T36 h36 X36 e36 W36 => ?_
    have V36 := Arv.set A35 q35 S35 N35 H35 G35 rfl W36 0 rfl (Nat.le_of_ble_eq_true rfl)
    replace V36 : Arv Z h36 b34 k34 .int (3 : Int32) [(.int r29), (.int (0 : Int32)), (.int (0 : Int32))] (.int (0 : Int32)) := V36
    have f36_Eb34 := Exa.wr W36 Q34
    have N36 := Fr.snoc X36 N33 g_b34
    have SZ36 : n0 ≤ h36.size := Nat.le_trans SZ34 (Keep.of_wr W36).1
    refine Gz.iload 60 X36 hx (dd at_58) rfl rfl ?_
    refine Gz.iconst 61 (1 : Int32) X36 hx (dd at_60) rfl rfl ?_
    refine Gz.icmpNo 64 X36 hx (dd at_61) (tlt (by decide : (1 : Int32) < (3 : Int32))).2.2.2 rfl ?_
    refine Gz.aload 66 X36 hx (dd at_64) rfl rfl rfl ?_
    refine Gz.iconst 67 (1 : Int32) X36 hx (dd at_66) rfl rfl ?_
    refine Gz.iload 69 X36 hx (dd at_67) rfl rfl ?_
    obtain ⟨c37, A37, q37, S37, N37, H37, G37⟩ := id V36
    have hin37 : ¬ ((1 : Int32) < 0 ∨ c37.slots.size ≤ ((1 : Int32)).toNatClampNeg) := inb_of S37 ⟨by decide, by decide⟩
    refine Gz.stI 70 X36 hx hZ (dd at_69) e36 A37 hin37 rfl fun T38 h38 X38 e38 W38 => ?_
    have V38 := Arv.set A37 q37 S37 N37 H37 G37 rfl W38 1 rfl (Nat.le_of_ble_eq_true rfl)
    replace V38 : Arv Z h38 b34 k34 .int (3 : Int32) [(.int r29), (.int r30), (.int (0 : Int32))] (.int (0 : Int32)) := V38
    have f38_Eb34 := Exa.wr W38 f36_Eb34
    have N38 := Fr.snoc X38 N36 g_b34
    have SZ38 : n0 ≤ h38.size := Nat.le_trans SZ36 (Keep.of_wr W38).1
    refine Gz.iload 72 X38 hx (dd at_70) rfl rfl ?_
    refine Gz.iconst 73 (2 : Int32) X38 hx (dd at_72) rfl rfl ?_
    refine Gz.icmpNo 76 X38 hx (dd at_73) (tlt (by decide : (2 : Int32) < (3 : Int32))).2.2.2 rfl ?_
    refine Gz.aload 78 X38 hx (dd at_76) rfl rfl rfl ?_
    refine Gz.iconst 79 (2 : Int32) X38 hx (dd at_78) rfl rfl ?_
    refine Gz.iload 81 X38 hx (dd at_79) rfl rfl ?_
    obtain ⟨c39, A39, q39, S39, N39, H39, G39⟩ := id V38
    have hin39 : ¬ ((2 : Int32) < 0 ∨ c39.slots.size ≤ ((2 : Int32)).toNatClampNeg) := inb_of S39 ⟨by decide, by decide⟩
    refine Gz.stI 82 X38 hx hZ (dd at_81) e38 A39 hin39 rfl fun T40 h40 X40 e40 W40 => ?_
    have V40 := Arv.set A39 q39 S39 N39 H39 G39 rfl W40 2 rfl (Nat.le_of_ble_eq_true rfl)
    replace V40 : Arv Z h40 b34 k34 .int (3 : Int32) [(.int r29), (.int r30), (.int r31)] (.int (0 : Int32)) := V40
    have f40_Eb34 := Exa.wr W40 f38_Eb34
    have N40 := Fr.snoc X40 N38 g_b34
    have SZ40 : n0 ≤ h40.size := Nat.le_trans SZ38 (Keep.of_wr W40).1
    refine Gz.iload 84 X40 hx (dd at_82) rfl rfl ?_
    refine Gz.iconst 85 (3 : Int32) X40 hx (dd at_84) rfl rfl ?_
    refine Gz.icmpYes 94 X40 hx (dd at_85) (flt (by decide : ¬ ((3 : Int32) < (3 : Int32)))).2.2.2 (by decide) (by decide) ?_
    refine Gz.iload 96 X40 hx (dd at_94) rfl rfl ?_
    refine Gz.iconst 97 (4 : Int32) X40 hx (dd at_96) rfl rfl ?_
    refine Gz.icmpYes 106 X40 hx (dd at_97) (flt (by decide : ¬ ((4 : Int32) < (3 : Int32)))).2.2.2 (by decide) (by decide) ?_
    refine Gz.iload 108 X40 hx (dd at_106) rfl rfl ?_
    refine Gz.ifNo 111 X40 hx (dd at_108) ((if0 _ _).trans (tlt (by decide : (0 : Int32) < (3 : Int32))).2.2.2) rfl ?_
    refine Gz.iload 113 X40 hx (dd at_111) rfl rfl ?_
    refine Gz.i2l 114 X40 hx (dd at_113) rfl ?_
    refine Gz.goto 118 X40 hx (dd at_114) (by decide) (by decide) ?_
    refine Gz.lstore 120 #[.val (.int p0), .val (.int p1), .val (.int p2), .val (.int p3), .val (.int p4), .val (.int p5), .val (.int (3 : Int32)), .val (.int r29), .val (.int r30), .val (.int r31), .val (.int r32), .val (.int r33), .val (.ref b34), .val (.long (r29.toInt64)), .second, .unset, .unset, .unset, .unset, .unset, .unset, .unset, .unset, .unset, .unset, .unset, .unset] X40 hx (dd at_118) rfl rfl ?_
    refine Gz.iload 122 X40 hx (dd at_120) rfl rfl ?_
    refine Gz.iconst 123 (1 : Int32) X40 hx (dd at_122) rfl rfl ?_
    refine Gz.icmpNo 126 X40 hx (dd at_123) (tlt (by decide : (1 : Int32) < (3 : Int32))).2.2.2 rfl ?_
    refine Gz.iload 128 X40 hx (dd at_126) rfl rfl ?_
    refine Gz.i2l 129 X40 hx (dd at_128) rfl ?_
    refine Gz.goto 133 X40 hx (dd at_129) (by decide) (by decide) ?_
    refine Gz.lstore 135 #[.val (.int p0), .val (.int p1), .val (.int p2), .val (.int p3), .val (.int p4), .val (.int p5), .val (.int (3 : Int32)), .val (.int r29), .val (.int r30), .val (.int r31), .val (.int r32), .val (.int r33), .val (.ref b34), .val (.long (r29.toInt64)), .second, .val (.long (r30.toInt64)), .second, .unset, .unset, .unset, .unset, .unset, .unset, .unset, .unset, .unset, .unset] X40 hx (dd at_133) rfl rfl ?_
    refine Gz.iload 137 X40 hx (dd at_135) rfl rfl ?_
    refine Gz.iconst 138 (2 : Int32) X40 hx (dd at_137) rfl rfl ?_
    refine Gz.icmpNo 141 X40 hx (dd at_138) (tlt (by decide : (2 : Int32) < (3 : Int32))).2.2.2 rfl ?_
    refine Gz.iload 143 X40 hx (dd at_141) rfl rfl ?_
    refine Gz.i2l 144 X40 hx (dd at_143) rfl ?_
    refine Gz.goto 148 X40 hx (dd at_144) (by decide) (by decide) ?_
    refine Gz.lstore 150 #[.val (.int p0), .val (.int p1), .val (.int p2), .val (.int p3), .val (.int p4), .val (.int p5), .val (.int (3 : Int32)), .val (.int r29), .val (.int r30), .val (.int r31), .val (.int r32), .val (.int r33), .val (.ref b34), .val (.long (r29.toInt64)), .second, .val (.long (r30.toInt64)), .second, .val (.long (r31.toInt64)), .second, .unset, .unset, .unset, .unset, .unset, .unset, .unset, .unset] X40 hx (dd at_148) rfl rfl ?_
    refine Gz.iload 152 X40 hx (dd at_150) rfl rfl ?_
    refine Gz.iconst 153 (3 : Int32) X40 hx (dd at_152) rfl rfl ?_
    refine Gz.icmpYes 162 X40 hx (dd at_153) (flt (by decide : ¬ ((3 : Int32) < (3 : Int32)))).2.2.2 (by decide) (by decide) ?_
    refine Gz.lconst 163 (0 : Int64) X40 hx (dd at_162) rfl rfl ?_
    refine Gz.lstore 165 #[.val (.int p0), .val (.int p1), .val (.int p2), .val (.int p3), .val (.int p4), .val (.int p5), .val (.int (3 : Int32)), .val (.int r29), .val (.int r30), .val (.int r31), .val (.int r32), .val (.int r33), .val (.ref b34), .val (.long (r29.toInt64)), .second, .val (.long (r30.toInt64)), .second, .val (.long (r31.toInt64)), .second, .val (.long (0 : Int64)), .second, .unset, .unset, .unset, .unset, .unset, .unset] X40 hx (dd at_163) rfl rfl ?_
    refine Gz.iload 167 X40 hx (dd at_165) rfl rfl ?_
    refine Gz.iconst 168 (4 : Int32) X40 hx (dd at_167) rfl rfl ?_
    refine Gz.icmpYes 177 X40 hx (dd at_168) (flt (by decide : ¬ ((4 : Int32) < (3 : Int32)))).2.2.2 (by decide) (by decide) ?_
    refine Gz.lconst 178 (0 : Int64) X40 hx (dd at_177) rfl rfl ?_
    refine Gz.lstore 180 #[.val (.int p0), .val (.int p1), .val (.int p2), .val (.int p3), .val (.int p4), .val (.int p5), .val (.int (3 : Int32)), .val (.int r29), .val (.int r30), .val (.int r31), .val (.int r32), .val (.int r33), .val (.ref b34), .val (.long (r29.toInt64)), .second, .val (.long (r30.toInt64)), .second, .val (.long (r31.toInt64)), .second, .val (.long (0 : Int64)), .second, .val (.long (0 : Int64)), .second, .unset, .unset, .unset, .unset] X40 hx (dd at_178) rfl rfl ?_
    refine Gz.lload 182 X40 hx (dd at_180) rfl rfl ?_
    refine Gz.lload 184 X40 hx (dd at_182) rfl rfl ?_
    refine Gz.lmul 185 X40 hx (dd at_184) rfl ?_
    refine Gz.lload 187 X40 hx (dd at_185) rfl rfl ?_
    refine Gz.lload 189 X40 hx (dd at_187) rfl rfl ?_
    refine Gz.lmul 190 X40 hx (dd at_189) rfl ?_
    refine Gz.ladd 191 X40 hx (dd at_190) rfl ?_
    refine Gz.lload 193 X40 hx (dd at_191) rfl rfl ?_
    refine Gz.lload 195 X40 hx (dd at_193) rfl rfl ?_
    refine Gz.lmul 196 X40 hx (dd at_195) rfl ?_
    refine Gz.ladd 197 X40 hx (dd at_196) rfl ?_
    refine Gz.lload 199 X40 hx (dd at_197) rfl rfl ?_
    refine Gz.lload 201 X40 hx (dd at_199) rfl rfl ?_
    refine Gz.lmul 202 X40 hx (dd at_201) rfl ?_
    refine Gz.ladd 203 X40 hx (dd at_202) rfl ?_
    refine Gz.lload 205 X40 hx (dd at_203) rfl rfl ?_
    refine Gz.lload 207 X40 hx (dd at_205) rfl rfl ?_
    refine Gz.lmul 208 X40 hx (dd at_207) rfl ?_
    refine Gz.ladd 209 X40 hx (dd at_208) rfl ?_
    refine Gz.lload 211 X40 hx (dd at_209) rfl rfl ?_
    refine Gz.lload 213 X40 hx (dd at_211) rfl rfl ?_
    refine Gz.lmul 214 X40 hx (dd at_213) rfl ?_
    refine Gz.ladd 215 X40 hx (dd at_214) rfl ?_
    refine Gz.lload 217 X40 hx (dd at_215) rfl rfl ?_
    refine Gz.lload 219 X40 hx (dd at_217) rfl rfl ?_
    refine Gz.lmul 220 X40 hx (dd at_219) rfl ?_
    refine Gz.ladd 221 X40 hx (dd at_220) rfl ?_
    refine Gz.lload 223 X40 hx (dd at_221) rfl rfl ?_
    refine Gz.lload 225 X40 hx (dd at_223) rfl rfl ?_
    refine Gz.lmul 226 X40 hx (dd at_225) rfl ?_
    refine Gz.ladd 227 X40 hx (dd at_226) rfl ?_
    refine Gz.lload 229 X40 hx (dd at_227) rfl rfl ?_
    refine Gz.lload 231 X40 hx (dd at_229) rfl rfl ?_
    refine Gz.lmul 232 X40 hx (dd at_231) rfl ?_
    refine Gz.ladd 233 X40 hx (dd at_232) rfl ?_
    refine Gz.lload 235 X40 hx (dd at_233) rfl rfl ?_
    refine Gz.lload 237 X40 hx (dd at_235) rfl rfl ?_
    refine Gz.lmulV 238 (0 : Int64) X40 hx (dd at_237) rfl rfl ?_
    refine Gz.ladd 239 X40 hx (dd at_238) rfl ?_
    refine Gz.lstore 241 #[.val (.int p0), .val (.int p1), .val (.int p2), .val (.int p3), .val (.int p4), .val (.int p5), .val (.int (3 : Int32)), .val (.int r29), .val (.int r30), .val (.int r31), .val (.int r32), .val (.int r33), .val (.ref b34), .val (.long (r29.toInt64)), .second, .val (.long (r30.toInt64)), .second, .val (.long (r31.toInt64)), .second, .val (.long (0 : Int64)), .second, .val (.long (0 : Int64)), .second, .val (.long (((((((((((r29.toInt64) * (r30.toInt64)) + ((r29.toInt64) * (r31.toInt64))) + ((r29.toInt64) * (0 : Int64))) + ((r29.toInt64) * (0 : Int64))) + ((r30.toInt64) * (r31.toInt64))) + ((r30.toInt64) * (0 : Int64))) + ((r30.toInt64) * (0 : Int64))) + ((r31.toInt64) * (0 : Int64))) + ((r31.toInt64) * (0 : Int64))) + (0 : Int64))), .second, .unset, .unset] X40 hx (dd at_239) rfl rfl ?_
    refine Gz.aload 243 X40 hx (dd at_241) rfl rfl rfl ?_
    obtain ⟨_, _, ⟨T41, L41, k41, n41⟩, -, X41, ⟨Lc41, hQ41, l41, y41, z41⟩, st41⟩ := Jvm.LawKit.callS X40 hx (y := (⟨"com/example/minsuite/minsuite/ValuePairs", "count", "([I)J"⟩ : MethodName)) hown (mvT hZ (ww hw 10 rfl)) (mvT hZ (ww hw 11 rfl)) (mvT hZ (ww hw 12 rfl)) (mvT hZ (ww hw 13 rfl)) (by decide) (backOf (W := 0) (rm3_3 l Z av0 hw [] b34 k34 r29 r30 r31 h40 n0 SZ40 V40) hZ (ww hw 13 rfl) (ww hw 12 rfl) (by decide) (by decide)) (g := (mkF m 243 #[.val (.int p0), .val (.int p1), .val (.int p2), .val (.int p3), .val (.int p4), .val (.int p5), .val (.int (3 : Int32)), .val (.int r29), .val (.int r30), .val (.int r31), .val (.int r32), .val (.int r33), .val (.ref b34), .val (.long (r29.toInt64)), .second, .val (.long (r30.toInt64)), .second, .val (.long (r31.toInt64)), .second, .val (.long (0 : Int64)), .second, .val (.long (0 : Int64)), .second, .val (.long (((((((((((r29.toInt64) * (r30.toInt64)) + ((r29.toInt64) * (r31.toInt64))) + ((r29.toInt64) * (0 : Int64))) + ((r29.toInt64) * (0 : Int64))) + ((r30.toInt64) * (r31.toInt64))) + ((r30.toInt64) * (0 : Int64))) + ((r30.toInt64) * (0 : Int64))) + ((r31.toInt64) * (0 : Int64))) + ((r31.toInt64) * (0 : Int64))) + (0 : Int64))), .second, .unset, .unset] [(.ref b34)])) rfl (by rw [hml]; rfl) (argsL := [(.ref b34)]) (rest := []) (lenOf pd_2 rfl) rfl (by show 2 * 0 + _ ≤ _; exact Nat.le_of_eq rfl) (dd at_243) (fun _ _ => ⟨rfl, e40, (by decide : 1 + 0 ≤ _), (by decide : 3 + 0 ≤ _)⟩)
    dsimp only [Pt.U, Pt.locs, Pt.cells, Pt.slots, Q_rm3_3] at X41 l41 y41 z41 st41 hQ41
    subst l41 y41 z41
    obtain ⟨rfl, N41q, e41⟩ := hQ41
    have N41 := Fr.app N40 N41q
    refine Gz.st st41 ?_
    refine Gz.lstore 248 #[.val (.int p0), .val (.int p1), .val (.int p2), .val (.int p3), .val (.int p4), .val (.int p5), .val (.int (3 : Int32)), .val (.int r29), .val (.int r30), .val (.int r31), .val (.int r32), .val (.int r33), .val (.ref b34), .val (.long (r29.toInt64)), .second, .val (.long (r30.toInt64)), .second, .val (.long (r31.toInt64)), .second, .val (.long (0 : Int64)), .second, .val (.long (0 : Int64)), .second, .val (.long (((((((((((r29.toInt64) * (r30.toInt64)) + ((r29.toInt64) * (r31.toInt64))) + ((r29.toInt64) * (0 : Int64))) + ((r29.toInt64) * (0 : Int64))) + ((r30.toInt64) * (r31.toInt64))) + ((r30.toInt64) * (0 : Int64))) + ((r30.toInt64) * (0 : Int64))) + ((r31.toInt64) * (0 : Int64))) + ((r31.toInt64) * (0 : Int64))) + (0 : Int64))), .second, .val (.long (f3_3 b34 r29 r30 r31)), .second] X41 hx (dd at_246) rfl rfl ?_
    refine Gz.lload 250 X41 hx (dd at_248) rfl rfl ?_
    refine Gz.lload 252 X41 hx (dd at_250) rfl rfl ?_
    refine Gz.lcmp 253 X41 hx (dd at_252) rfl ?_
    refine Gz.ifNo 256 X41 hx (dd at_253) ((if0 _ _).trans (teq ((lw_eq _ _).mpr ((by unfold f3_3; simp only [Int64.zero_add, Int64.zero_mul, Int64.mul_zero, Int64.add_zero, Int64.add_mul]; try ac_rfl) : (f3_3 b34 r29 r30 r31) = (((((((((((r29.toInt64) * (r30.toInt64)) + ((r29.toInt64) * (r31.toInt64))) + ((r29.toInt64) * (0 : Int64))) + ((r29.toInt64) * (0 : Int64))) + ((r30.toInt64) * (r31.toInt64))) + ((r30.toInt64) * (0 : Int64))) + ((r30.toInt64) * (0 : Int64))) + ((r31.toInt64) * (0 : Int64))) + ((r31.toInt64) * (0 : Int64))) + (0 : Int64))))).2) rfl ?_
    refine Gz.iconst 257 (1 : Int32) X41 hx (dd at_256) rfl rfl ?_
    refine Gz.goto 261 X41 hx (dd at_257) (by decide) (by decide) ?_
    refine Gz.fin X41 (v := some (.int (1 : Int32))) (fun h => by rw [hret] at h; cases h) hlk (by decide) (by decide) (fun fs hr => retN X41 hx (t := .boolean) hret (by simp) (dd at_261) hr) ?_
    exact ⟨rfl, N41⟩
  · rw [hs1]
    refine Gz.istore 9 #[.val (.int p0), .val (.int p1), .val (.int p2), .val (.int p3), .val (.int p4), .val (.int p5), .val (.int (4 : Int32)), .unset, .unset, .unset, .unset, .unset, .unset, .unset, .unset, .unset, .unset, .unset, .unset, .unset, .unset, .unset, .unset, .unset, .unset, .unset, .unset] X0 hx (dd at_7) rfl rfl ?_
    refine Gz.iloadN 10 X0 hx (dd at_9) rfl rfl ?_
    obtain ⟨_, _, ⟨T42, L42, k42, n42⟩, -, X42, ⟨Lc42, hQ42, l42, y42, z42⟩, st42⟩ := Jvm.LawKit.callS X0 hx (y := (⟨"com/example/minsuite/minsuite/ValuePairsCountPinLaw", "positive", "(I)I"⟩ : MethodName)) hown (mvT hZ (ww hw 1 rfl)) (mvT hZ (ww hw 2 rfl)) (mvT hZ (ww hw 3 rfl)) (mvT hZ (ww hw 4 rfl)) (by decide) (backOf (W := 0) (rm1 l Z av0 hw [] p1  h0 n0 Z0 ) hZ (ww hw 4 rfl) (ww hw 3 rfl) (by decide) (by decide)) (g := (mkF m 10 #[.val (.int p0), .val (.int p1), .val (.int p2), .val (.int p3), .val (.int p4), .val (.int p5), .val (.int (4 : Int32)), .unset, .unset, .unset, .unset, .unset, .unset, .unset, .unset, .unset, .unset, .unset, .unset, .unset, .unset, .unset, .unset, .unset, .unset, .unset, .unset] [(.int p1)])) rfl (by rw [hml]; rfl) (argsL := [(.int p1)]) (rest := []) (lenOf pd_1 rfl) rfl (by show 2 * 0 + _ ≤ _; exact Nat.le_of_eq rfl) (dd at_10) (fun _ _ => ⟨rfl, e0, (by decide : 0 + 0 ≤ _), (by decide : 0 + 0 ≤ _)⟩)
    dsimp only [Pt.U, Pt.locs, Pt.cells, Pt.slots, Q_rm1] at X42 l42 y42 z42 st42 hQ42
    subst l42 y42 z42
    generalize (f1 p1) = r42 at hQ42
    obtain ⟨rfl, N42q, e42⟩ := hQ42
    have N42 := Fr.app N0 N42q
    refine Gz.st st42 ?_
    refine Gz.istore 15 #[.val (.int p0), .val (.int p1), .val (.int p2), .val (.int p3), .val (.int p4), .val (.int p5), .val (.int (4 : Int32)), .val (.int r42), .unset, .unset, .unset, .unset, .unset, .unset, .unset, .unset, .unset, .unset, .unset, .unset, .unset, .unset, .unset, .unset, .unset, .unset, .unset] X42 hx (dd at_13) rfl rfl ?_
    refine Gz.iloadN 16 X42 hx (dd at_15) rfl rfl ?_
    obtain ⟨_, _, ⟨T43, L43, k43, n43⟩, -, X43, ⟨Lc43, hQ43, l43, y43, z43⟩, st43⟩ := Jvm.LawKit.callS X42 hx (y := (⟨"com/example/minsuite/minsuite/ValuePairsCountPinLaw", "positive", "(I)I"⟩ : MethodName)) hown (mvT hZ (ww hw 1 rfl)) (mvT hZ (ww hw 2 rfl)) (mvT hZ (ww hw 3 rfl)) (mvT hZ (ww hw 4 rfl)) (by decide) (backOf (W := 0) (rm1 l Z av0 hw [] p2  h0 n0 Z0 ) hZ (ww hw 4 rfl) (ww hw 3 rfl) (by decide) (by decide)) (g := (mkF m 16 #[.val (.int p0), .val (.int p1), .val (.int p2), .val (.int p3), .val (.int p4), .val (.int p5), .val (.int (4 : Int32)), .val (.int r42), .unset, .unset, .unset, .unset, .unset, .unset, .unset, .unset, .unset, .unset, .unset, .unset, .unset, .unset, .unset, .unset, .unset, .unset, .unset] [(.int p2)])) rfl (by rw [hml]; rfl) (argsL := [(.int p2)]) (rest := []) (lenOf pd_1 rfl) rfl (by show 2 * 0 + _ ≤ _; exact Nat.le_of_eq rfl) (dd at_16) (fun _ _ => ⟨rfl, e42, (by decide : 0 + 0 ≤ _), (by decide : 0 + 0 ≤ _)⟩)
    dsimp only [Pt.U, Pt.locs, Pt.cells, Pt.slots, Q_rm1] at X43 l43 y43 z43 st43 hQ43
    subst l43 y43 z43
    generalize (f1 p2) = r43 at hQ43
    obtain ⟨rfl, N43q, e43⟩ := hQ43
    have N43 := Fr.app N42 N43q
    refine Gz.st st43 ?_
    refine Gz.istore 21 #[.val (.int p0), .val (.int p1), .val (.int p2), .val (.int p3), .val (.int p4), .val (.int p5), .val (.int (4 : Int32)), .val (.int r42), .val (.int r43), .unset, .unset, .unset, .unset, .unset, .unset, .unset, .unset, .unset, .unset, .unset, .unset, .unset, .unset, .unset, .unset, .unset, .unset] X43 hx (dd at_19) rfl rfl ?_
    refine Gz.iloadN 22 X43 hx (dd at_21) rfl rfl ?_
    obtain ⟨_, _, ⟨T44, L44, k44, n44⟩, -, X44, ⟨Lc44, hQ44, l44, y44, z44⟩, st44⟩ := Jvm.LawKit.callS X43 hx (y := (⟨"com/example/minsuite/minsuite/ValuePairsCountPinLaw", "positive", "(I)I"⟩ : MethodName)) hown (mvT hZ (ww hw 1 rfl)) (mvT hZ (ww hw 2 rfl)) (mvT hZ (ww hw 3 rfl)) (mvT hZ (ww hw 4 rfl)) (by decide) (backOf (W := 0) (rm1 l Z av0 hw [] p3  h0 n0 Z0 ) hZ (ww hw 4 rfl) (ww hw 3 rfl) (by decide) (by decide)) (g := (mkF m 22 #[.val (.int p0), .val (.int p1), .val (.int p2), .val (.int p3), .val (.int p4), .val (.int p5), .val (.int (4 : Int32)), .val (.int r42), .val (.int r43), .unset, .unset, .unset, .unset, .unset, .unset, .unset, .unset, .unset, .unset, .unset, .unset, .unset, .unset, .unset, .unset, .unset, .unset] [(.int p3)])) rfl (by rw [hml]; rfl) (argsL := [(.int p3)]) (rest := []) (lenOf pd_1 rfl) rfl (by show 2 * 0 + _ ≤ _; exact Nat.le_of_eq rfl) (dd at_22) (fun _ _ => ⟨rfl, e43, (by decide : 0 + 0 ≤ _), (by decide : 0 + 0 ≤ _)⟩)
    dsimp only [Pt.U, Pt.locs, Pt.cells, Pt.slots, Q_rm1] at X44 l44 y44 z44 st44 hQ44
    subst l44 y44 z44
    generalize (f1 p3) = r44 at hQ44
    obtain ⟨rfl, N44q, e44⟩ := hQ44
    have N44 := Fr.app N43 N44q
    refine Gz.st st44 ?_
    refine Gz.istore 27 #[.val (.int p0), .val (.int p1), .val (.int p2), .val (.int p3), .val (.int p4), .val (.int p5), .val (.int (4 : Int32)), .val (.int r42), .val (.int r43), .val (.int r44), .unset, .unset, .unset, .unset, .unset, .unset, .unset, .unset, .unset, .unset, .unset, .unset, .unset, .unset, .unset, .unset, .unset] X44 hx (dd at_25) rfl rfl ?_
    refine Gz.iload 29 X44 hx (dd at_27) rfl rfl ?_
    obtain ⟨_, _, ⟨T45, L45, k45, n45⟩, -, X45, ⟨Lc45, hQ45, l45, y45, z45⟩, st45⟩ := Jvm.LawKit.callS X44 hx (y := (⟨"com/example/minsuite/minsuite/ValuePairsCountPinLaw", "positive", "(I)I"⟩ : MethodName)) hown (mvT hZ (ww hw 1 rfl)) (mvT hZ (ww hw 2 rfl)) (mvT hZ (ww hw 3 rfl)) (mvT hZ (ww hw 4 rfl)) (by decide) (backOf (W := 0) (rm1 l Z av0 hw [] p4  h0 n0 Z0 ) hZ (ww hw 4 rfl) (ww hw 3 rfl) (by decide) (by decide)) (g := (mkF m 29 #[.val (.int p0), .val (.int p1), .val (.int p2), .val (.int p3), .val (.int p4), .val (.int p5), .val (.int (4 : Int32)), .val (.int r42), .val (.int r43), .val (.int r44), .unset, .unset, .unset, .unset, .unset, .unset, .unset, .unset, .unset, .unset, .unset, .unset, .unset, .unset, .unset, .unset, .unset] [(.int p4)])) rfl (by rw [hml]; rfl) (argsL := [(.int p4)]) (rest := []) (lenOf pd_1 rfl) rfl (by show 2 * 0 + _ ≤ _; exact Nat.le_of_eq rfl) (dd at_29) (fun _ _ => ⟨rfl, e44, (by decide : 0 + 0 ≤ _), (by decide : 0 + 0 ≤ _)⟩)
    dsimp only [Pt.U, Pt.locs, Pt.cells, Pt.slots, Q_rm1] at X45 l45 y45 z45 st45 hQ45
    subst l45 y45 z45
    generalize (f1 p4) = r45 at hQ45
    obtain ⟨rfl, N45q, e45⟩ := hQ45
    have N45 := Fr.app N44 N45q
    refine Gz.st st45 ?_
    refine Gz.istore 34 #[.val (.int p0), .val (.int p1), .val (.int p2), .val (.int p3), .val (.int p4), .val (.int p5), .val (.int (4 : Int32)), .val (.int r42), .val (.int r43), .val (.int r44), .val (.int r45), .unset, .unset, .unset, .unset, .unset, .unset, .unset, .unset, .unset, .unset, .unset, .unset, .unset, .unset, .unset, .unset] X45 hx (dd at_32) rfl rfl ?_
    refine Gz.iload 36 X45 hx (dd at_34) rfl rfl ?_
    obtain ⟨_, _, ⟨T46, L46, k46, n46⟩, -, X46, ⟨Lc46, hQ46, l46, y46, z46⟩, st46⟩ := Jvm.LawKit.callS X45 hx (y := (⟨"com/example/minsuite/minsuite/ValuePairsCountPinLaw", "positive", "(I)I"⟩ : MethodName)) hown (mvT hZ (ww hw 1 rfl)) (mvT hZ (ww hw 2 rfl)) (mvT hZ (ww hw 3 rfl)) (mvT hZ (ww hw 4 rfl)) (by decide) (backOf (W := 0) (rm1 l Z av0 hw [] p5  h0 n0 Z0 ) hZ (ww hw 4 rfl) (ww hw 3 rfl) (by decide) (by decide)) (g := (mkF m 36 #[.val (.int p0), .val (.int p1), .val (.int p2), .val (.int p3), .val (.int p4), .val (.int p5), .val (.int (4 : Int32)), .val (.int r42), .val (.int r43), .val (.int r44), .val (.int r45), .unset, .unset, .unset, .unset, .unset, .unset, .unset, .unset, .unset, .unset, .unset, .unset, .unset, .unset, .unset, .unset] [(.int p5)])) rfl (by rw [hml]; rfl) (argsL := [(.int p5)]) (rest := []) (lenOf pd_1 rfl) rfl (by show 2 * 0 + _ ≤ _; exact Nat.le_of_eq rfl) (dd at_36) (fun _ _ => ⟨rfl, e45, (by decide : 0 + 0 ≤ _), (by decide : 0 + 0 ≤ _)⟩)
    dsimp only [Pt.U, Pt.locs, Pt.cells, Pt.slots, Q_rm1] at X46 l46 y46 z46 st46 hQ46
    subst l46 y46 z46
    generalize (f1 p5) = r46 at hQ46
    obtain ⟨rfl, N46q, e46⟩ := hQ46
    have N46 := Fr.app N45 N46q
    refine Gz.st st46 ?_
    refine Gz.istore 41 #[.val (.int p0), .val (.int p1), .val (.int p2), .val (.int p3), .val (.int p4), .val (.int p5), .val (.int (4 : Int32)), .val (.int r42), .val (.int r43), .val (.int r44), .val (.int r45), .val (.int r46), .unset, .unset, .unset, .unset, .unset, .unset, .unset, .unset, .unset, .unset, .unset, .unset, .unset, .unset, .unset] X46 hx (dd at_39) rfl rfl ?_
    refine Gz.iload 43 X46 hx (dd at_41) rfl rfl ?_
    obtain ⟨T47, h47, k47, X47, e47, E47, A47, Q47, st47⟩ := newPE X46 hx hZ (ww hw 9 rfl) e46 (g := (mkF m 43 #[.val (.int p0), .val (.int p1), .val (.int p2), .val (.int p3), .val (.int p4), .val (.int p5), .val (.int (4 : Int32)), .val (.int r42), .val (.int r43), .val (.int r44), .val (.int r45), .val (.int r46), .unset, .unset, .unset, .unset, .unset, .unset, .unset, .unset, .unset, .unset, .unset, .unset, .unset, .unset, .unset] [(.int (4 : Int32))])) rfl (dd at_43) rfl (by decide) (cap := 4) (by decide) (by decide) (by decide) (by decide) (ad := "[I") rfl
    obtain ⟨b47, g47⟩ : ∃ z, z = h0.size := ⟨_, rfl⟩
    rw [← g47] at A47 Q47 st47
    have g_b47 : n0 ≤ b47 := Nat.le_trans Z0 (Nat.le_of_eq g47.symm)
    have SZ47 : n0 ≤ h47.size := Nat.le_trans Z0 E47.1
    have V47 : Arv Z h47 b47 k47 .int (4 : Int32) [(.int (0 : Int32)), (.int (0 : Int32)), (.int (0 : Int32)), (.int (0 : Int32))] (.int (0 : Int32)) := (Arv.new A47 (by decide)).pad (pad_rep [] (.int (0 : Int32)) 4)
    refine Gz.st st47 ?_
    refine Gz.astore 47 #[.val (.int p0), .val (.int p1), .val (.int p2), .val (.int p3), .val (.int p4), .val (.int p5), .val (.int (4 : Int32)), .val (.int r42), .val (.int r43), .val (.int r44), .val (.int r45), .val (.int r46), .val (.ref b47), .unset, .unset, .unset, .unset, .unset, .unset, .unset, .unset, .unset, .unset, .unset, .unset, .unset, .unset] X47 hx (dd at_45) rfl rfl rfl ?_
    refine Gz.iload 49 X47 hx (dd at_47) rfl rfl ?_
    refine Gz.ifNo 52 X47 hx (dd at_49) ((if0 _ _).trans (tlt (by decide : (0 : Int32) < (4 : Int32))).2.2.2) rfl ?_
    refine Gz.aload 54 X47 hx (dd at_52) rfl rfl rfl ?_
    refine Gz.iconst 55 (0 : Int32) X47 hx (dd at_54) rfl rfl ?_
    refine Gz.iload 57 X47 hx (dd at_55) rfl rfl ?_
    obtain ⟨c48, A48, q48, S48, N48, H48, G48⟩ := id V47
    have hin48 : ¬ ((0 : Int32) < 0 ∨ c48.slots.size ≤ ((0 : Int32)).toNatClampNeg) := inb_of S48 ⟨by decide, by decide⟩
    refine Gz.stI 58 X47 hx hZ (dd at_57) e47 A48 hin48 rfl fun T49 h49 X49 e49 W49 => ?_
    have V49 := Arv.set A48 q48 S48 N48 H48 G48 rfl W49 0 rfl (Nat.le_of_ble_eq_true rfl)
    replace V49 : Arv Z h49 b47 k47 .int (4 : Int32) [(.int r42), (.int (0 : Int32)), (.int (0 : Int32)), (.int (0 : Int32))] (.int (0 : Int32)) := V49
    have f49_Eb47 := Exa.wr W49 Q47
    have N49 := Fr.snoc X49 N46 g_b47
    have SZ49 : n0 ≤ h49.size := Nat.le_trans SZ47 (Keep.of_wr W49).1
    refine Gz.iload 60 X49 hx (dd at_58) rfl rfl ?_
    refine Gz.iconst 61 (1 : Int32) X49 hx (dd at_60) rfl rfl ?_
    refine Gz.icmpNo 64 X49 hx (dd at_61) (tlt (by decide : (1 : Int32) < (4 : Int32))).2.2.2 rfl ?_
    refine Gz.aload 66 X49 hx (dd at_64) rfl rfl rfl ?_
    refine Gz.iconst 67 (1 : Int32) X49 hx (dd at_66) rfl rfl ?_
    refine Gz.iload 69 X49 hx (dd at_67) rfl rfl ?_
    obtain ⟨c50, A50, q50, S50, N50, H50, G50⟩ := id V49
    have hin50 : ¬ ((1 : Int32) < 0 ∨ c50.slots.size ≤ ((1 : Int32)).toNatClampNeg) := inb_of S50 ⟨by decide, by decide⟩
    refine Gz.stI 70 X49 hx hZ (dd at_69) e49 A50 hin50 rfl fun T51 h51 X51 e51 W51 => ?_
    have V51 := Arv.set A50 q50 S50 N50 H50 G50 rfl W51 1 rfl (Nat.le_of_ble_eq_true rfl)
    replace V51 : Arv Z h51 b47 k47 .int (4 : Int32) [(.int r42), (.int r43), (.int (0 : Int32)), (.int (0 : Int32))] (.int (0 : Int32)) := V51
    have f51_Eb47 := Exa.wr W51 f49_Eb47
    have N51 := Fr.snoc X51 N49 g_b47
    have SZ51 : n0 ≤ h51.size := Nat.le_trans SZ49 (Keep.of_wr W51).1
    refine Gz.iload 72 X51 hx (dd at_70) rfl rfl ?_
    refine Gz.iconst 73 (2 : Int32) X51 hx (dd at_72) rfl rfl ?_
    refine Gz.icmpNo 76 X51 hx (dd at_73) (tlt (by decide : (2 : Int32) < (4 : Int32))).2.2.2 rfl ?_
    refine Gz.aload 78 X51 hx (dd at_76) rfl rfl rfl ?_
    refine Gz.iconst 79 (2 : Int32) X51 hx (dd at_78) rfl rfl ?_
    refine Gz.iload 81 X51 hx (dd at_79) rfl rfl ?_
    obtain ⟨c52, A52, q52, S52, N52, H52, G52⟩ := id V51
    have hin52 : ¬ ((2 : Int32) < 0 ∨ c52.slots.size ≤ ((2 : Int32)).toNatClampNeg) := inb_of S52 ⟨by decide, by decide⟩
    refine Gz.stI 82 X51 hx hZ (dd at_81) e51 A52 hin52 rfl fun T53 h53 X53 e53 W53 => ?_
    have V53 := Arv.set A52 q52 S52 N52 H52 G52 rfl W53 2 rfl (Nat.le_of_ble_eq_true rfl)
    replace V53 : Arv Z h53 b47 k47 .int (4 : Int32) [(.int r42), (.int r43), (.int r44), (.int (0 : Int32))] (.int (0 : Int32)) := V53
    have f53_Eb47 := Exa.wr W53 f51_Eb47
    have N53 := Fr.snoc X53 N51 g_b47
    have SZ53 : n0 ≤ h53.size := Nat.le_trans SZ51 (Keep.of_wr W53).1
    refine Gz.iload 84 X53 hx (dd at_82) rfl rfl ?_
    refine Gz.iconst 85 (3 : Int32) X53 hx (dd at_84) rfl rfl ?_
    refine Gz.icmpNo 88 X53 hx (dd at_85) (tlt (by decide : (3 : Int32) < (4 : Int32))).2.2.2 rfl ?_
    refine Gz.aload 90 X53 hx (dd at_88) rfl rfl rfl ?_
    refine Gz.iconst 91 (3 : Int32) X53 hx (dd at_90) rfl rfl ?_
    refine Gz.iload 93 X53 hx (dd at_91) rfl rfl ?_
    obtain ⟨c54, A54, q54, S54, N54, H54, G54⟩ := id V53
    have hin54 : ¬ ((3 : Int32) < 0 ∨ c54.slots.size ≤ ((3 : Int32)).toNatClampNeg) := inb_of S54 ⟨by decide, by decide⟩
    refine Gz.stI 94 X53 hx hZ (dd at_93) e53 A54 hin54 rfl fun T55 h55 X55 e55 W55 => ?_
    have V55 := Arv.set A54 q54 S54 N54 H54 G54 rfl W55 3 rfl (Nat.le_of_ble_eq_true rfl)
    replace V55 : Arv Z h55 b47 k47 .int (4 : Int32) [(.int r42), (.int r43), (.int r44), (.int r45)] (.int (0 : Int32)) := V55
    have f55_Eb47 := Exa.wr W55 f53_Eb47
    have N55 := Fr.snoc X55 N53 g_b47
    have SZ55 : n0 ≤ h55.size := Nat.le_trans SZ53 (Keep.of_wr W55).1
    refine Gz.iload 96 X55 hx (dd at_94) rfl rfl ?_
    refine Gz.iconst 97 (4 : Int32) X55 hx (dd at_96) rfl rfl ?_
    refine Gz.icmpYes 106 X55 hx (dd at_97) (flt (by decide : ¬ ((4 : Int32) < (4 : Int32)))).2.2.2 (by decide) (by decide) ?_
    refine Gz.iload 108 X55 hx (dd at_106) rfl rfl ?_
    refine Gz.ifNo 111 X55 hx (dd at_108) ((if0 _ _).trans (tlt (by decide : (0 : Int32) < (4 : Int32))).2.2.2) rfl ?_
    refine Gz.iload 113 X55 hx (dd at_111) rfl rfl ?_
    refine Gz.i2l 114 X55 hx (dd at_113) rfl ?_
    refine Gz.goto 118 X55 hx (dd at_114) (by decide) (by decide) ?_
    refine Gz.lstore 120 #[.val (.int p0), .val (.int p1), .val (.int p2), .val (.int p3), .val (.int p4), .val (.int p5), .val (.int (4 : Int32)), .val (.int r42), .val (.int r43), .val (.int r44), .val (.int r45), .val (.int r46), .val (.ref b47), .val (.long (r42.toInt64)), .second, .unset, .unset, .unset, .unset, .unset, .unset, .unset, .unset, .unset, .unset, .unset, .unset] X55 hx (dd at_118) rfl rfl ?_
    refine Gz.iload 122 X55 hx (dd at_120) rfl rfl ?_
    refine Gz.iconst 123 (1 : Int32) X55 hx (dd at_122) rfl rfl ?_
    refine Gz.icmpNo 126 X55 hx (dd at_123) (tlt (by decide : (1 : Int32) < (4 : Int32))).2.2.2 rfl ?_
    refine Gz.iload 128 X55 hx (dd at_126) rfl rfl ?_
    refine Gz.i2l 129 X55 hx (dd at_128) rfl ?_
    refine Gz.goto 133 X55 hx (dd at_129) (by decide) (by decide) ?_
    refine Gz.lstore 135 #[.val (.int p0), .val (.int p1), .val (.int p2), .val (.int p3), .val (.int p4), .val (.int p5), .val (.int (4 : Int32)), .val (.int r42), .val (.int r43), .val (.int r44), .val (.int r45), .val (.int r46), .val (.ref b47), .val (.long (r42.toInt64)), .second, .val (.long (r43.toInt64)), .second, .unset, .unset, .unset, .unset, .unset, .unset, .unset, .unset, .unset, .unset] X55 hx (dd at_133) rfl rfl ?_
    refine Gz.iload 137 X55 hx (dd at_135) rfl rfl ?_
    refine Gz.iconst 138 (2 : Int32) X55 hx (dd at_137) rfl rfl ?_
    refine Gz.icmpNo 141 X55 hx (dd at_138) (tlt (by decide : (2 : Int32) < (4 : Int32))).2.2.2 rfl ?_
    refine Gz.iload 143 X55 hx (dd at_141) rfl rfl ?_
    refine Gz.i2l 144 X55 hx (dd at_143) rfl ?_
    refine Gz.goto 148 X55 hx (dd at_144) (by decide) (by decide) ?_
    refine Gz.lstore 150 #[.val (.int p0), .val (.int p1), .val (.int p2), .val (.int p3), .val (.int p4), .val (.int p5), .val (.int (4 : Int32)), .val (.int r42), .val (.int r43), .val (.int r44), .val (.int r45), .val (.int r46), .val (.ref b47), .val (.long (r42.toInt64)), .second, .val (.long (r43.toInt64)), .second, .val (.long (r44.toInt64)), .second, .unset, .unset, .unset, .unset, .unset, .unset, .unset, .unset] X55 hx (dd at_148) rfl rfl ?_
    refine Gz.iload 152 X55 hx (dd at_150) rfl rfl ?_
    refine Gz.iconst 153 (3 : Int32) X55 hx (dd at_152) rfl rfl ?_
    refine Gz.icmpNo 156 X55 hx (dd at_153) (tlt (by decide : (3 : Int32) < (4 : Int32))).2.2.2 rfl ?_
    refine Gz.iload 158 X55 hx (dd at_156) rfl rfl ?_
    refine Gz.i2l 159 X55 hx (dd at_158) rfl ?_
    refine Gz.goto 163 X55 hx (dd at_159) (by decide) (by decide) ?_
    refine Gz.lstore 165 #[.val (.int p0), .val (.int p1), .val (.int p2), .val (.int p3), .val (.int p4), .val (.int p5), .val (.int (4 : Int32)), .val (.int r42), .val (.int r43), .val (.int r44), .val (.int r45), .val (.int r46), .val (.ref b47), .val (.long (r42.toInt64)), .second, .val (.long (r43.toInt64)), .second, .val (.long (r44.toInt64)), .second, .val (.long (r45.toInt64)), .second, .unset, .unset, .unset, .unset, .unset, .unset] X55 hx (dd at_163) rfl rfl ?_
    refine Gz.iload 167 X55 hx (dd at_165) rfl rfl ?_
    refine Gz.iconst 168 (4 : Int32) X55 hx (dd at_167) rfl rfl ?_
    refine Gz.icmpYes 177 X55 hx (dd at_168) (flt (by decide : ¬ ((4 : Int32) < (4 : Int32)))).2.2.2 (by decide) (by decide) ?_
    refine Gz.lconst 178 (0 : Int64) X55 hx (dd at_177) rfl rfl ?_
    refine Gz.lstore 180 #[.val (.int p0), .val (.int p1), .val (.int p2), .val (.int p3), .val (.int p4), .val (.int p5), .val (.int (4 : Int32)), .val (.int r42), .val (.int r43), .val (.int r44), .val (.int r45), .val (.int r46), .val (.ref b47), .val (.long (r42.toInt64)), .second, .val (.long (r43.toInt64)), .second, .val (.long (r44.toInt64)), .second, .val (.long (r45.toInt64)), .second, .val (.long (0 : Int64)), .second, .unset, .unset, .unset, .unset] X55 hx (dd at_178) rfl rfl ?_
    refine Gz.lload 182 X55 hx (dd at_180) rfl rfl ?_
    refine Gz.lload 184 X55 hx (dd at_182) rfl rfl ?_
    refine Gz.lmul 185 X55 hx (dd at_184) rfl ?_
    refine Gz.lload 187 X55 hx (dd at_185) rfl rfl ?_
    refine Gz.lload 189 X55 hx (dd at_187) rfl rfl ?_
    refine Gz.lmul 190 X55 hx (dd at_189) rfl ?_
    refine Gz.ladd 191 X55 hx (dd at_190) rfl ?_
    refine Gz.lload 193 X55 hx (dd at_191) rfl rfl ?_
    refine Gz.lload 195 X55 hx (dd at_193) rfl rfl ?_
    refine Gz.lmul 196 X55 hx (dd at_195) rfl ?_
    refine Gz.ladd 197 X55 hx (dd at_196) rfl ?_
    refine Gz.lload 199 X55 hx (dd at_197) rfl rfl ?_
    refine Gz.lload 201 X55 hx (dd at_199) rfl rfl ?_
    refine Gz.lmul 202 X55 hx (dd at_201) rfl ?_
    refine Gz.ladd 203 X55 hx (dd at_202) rfl ?_
    refine Gz.lload 205 X55 hx (dd at_203) rfl rfl ?_
    refine Gz.lload 207 X55 hx (dd at_205) rfl rfl ?_
    refine Gz.lmul 208 X55 hx (dd at_207) rfl ?_
    refine Gz.ladd 209 X55 hx (dd at_208) rfl ?_
    refine Gz.lload 211 X55 hx (dd at_209) rfl rfl ?_
    refine Gz.lload 213 X55 hx (dd at_211) rfl rfl ?_
    refine Gz.lmul 214 X55 hx (dd at_213) rfl ?_
    refine Gz.ladd 215 X55 hx (dd at_214) rfl ?_
    refine Gz.lload 217 X55 hx (dd at_215) rfl rfl ?_
    refine Gz.lload 219 X55 hx (dd at_217) rfl rfl ?_
    refine Gz.lmul 220 X55 hx (dd at_219) rfl ?_
    refine Gz.ladd 221 X55 hx (dd at_220) rfl ?_
    refine Gz.lload 223 X55 hx (dd at_221) rfl rfl ?_
    refine Gz.lload 225 X55 hx (dd at_223) rfl rfl ?_
    refine Gz.lmul 226 X55 hx (dd at_225) rfl ?_
    refine Gz.ladd 227 X55 hx (dd at_226) rfl ?_
    refine Gz.lload 229 X55 hx (dd at_227) rfl rfl ?_
    refine Gz.lload 231 X55 hx (dd at_229) rfl rfl ?_
    refine Gz.lmul 232 X55 hx (dd at_231) rfl ?_
    refine Gz.ladd 233 X55 hx (dd at_232) rfl ?_
    refine Gz.lload 235 X55 hx (dd at_233) rfl rfl ?_
    refine Gz.lload 237 X55 hx (dd at_235) rfl rfl ?_
    refine Gz.lmul 238 X55 hx (dd at_237) rfl ?_
    refine Gz.ladd 239 X55 hx (dd at_238) rfl ?_
    refine Gz.lstore 241 #[.val (.int p0), .val (.int p1), .val (.int p2), .val (.int p3), .val (.int p4), .val (.int p5), .val (.int (4 : Int32)), .val (.int r42), .val (.int r43), .val (.int r44), .val (.int r45), .val (.int r46), .val (.ref b47), .val (.long (r42.toInt64)), .second, .val (.long (r43.toInt64)), .second, .val (.long (r44.toInt64)), .second, .val (.long (r45.toInt64)), .second, .val (.long (0 : Int64)), .second, .val (.long (((((((((((r42.toInt64) * (r43.toInt64)) + ((r42.toInt64) * (r44.toInt64))) + ((r42.toInt64) * (r45.toInt64))) + ((r42.toInt64) * (0 : Int64))) + ((r43.toInt64) * (r44.toInt64))) + ((r43.toInt64) * (r45.toInt64))) + ((r43.toInt64) * (0 : Int64))) + ((r44.toInt64) * (r45.toInt64))) + ((r44.toInt64) * (0 : Int64))) + ((r45.toInt64) * (0 : Int64)))), .second, .unset, .unset] X55 hx (dd at_239) rfl rfl ?_
    refine Gz.aload 243 X55 hx (dd at_241) rfl rfl rfl ?_
    obtain ⟨_, _, ⟨T56, L56, k56, n56⟩, -, X56, ⟨Lc56, hQ56, l56, y56, z56⟩, st56⟩ := Jvm.LawKit.callS X55 hx (y := (⟨"com/example/minsuite/minsuite/ValuePairs", "count", "([I)J"⟩ : MethodName)) hown (mvT hZ (ww hw 10 rfl)) (mvT hZ (ww hw 11 rfl)) (mvT hZ (ww hw 12 rfl)) (mvT hZ (ww hw 13 rfl)) (by decide) (backOf (W := 0) (rm3_4 l Z av0 hw [] b47 k47 r42 r43 r44 r45 h55 n0 SZ55 V55) hZ (ww hw 13 rfl) (ww hw 12 rfl) (by decide) (by decide)) (g := (mkF m 243 #[.val (.int p0), .val (.int p1), .val (.int p2), .val (.int p3), .val (.int p4), .val (.int p5), .val (.int (4 : Int32)), .val (.int r42), .val (.int r43), .val (.int r44), .val (.int r45), .val (.int r46), .val (.ref b47), .val (.long (r42.toInt64)), .second, .val (.long (r43.toInt64)), .second, .val (.long (r44.toInt64)), .second, .val (.long (r45.toInt64)), .second, .val (.long (0 : Int64)), .second, .val (.long (((((((((((r42.toInt64) * (r43.toInt64)) + ((r42.toInt64) * (r44.toInt64))) + ((r42.toInt64) * (r45.toInt64))) + ((r42.toInt64) * (0 : Int64))) + ((r43.toInt64) * (r44.toInt64))) + ((r43.toInt64) * (r45.toInt64))) + ((r43.toInt64) * (0 : Int64))) + ((r44.toInt64) * (r45.toInt64))) + ((r44.toInt64) * (0 : Int64))) + ((r45.toInt64) * (0 : Int64)))), .second, .unset, .unset] [(.ref b47)])) rfl (by rw [hml]; rfl) (argsL := [(.ref b47)]) (rest := []) (lenOf pd_2 rfl) rfl (by show 2 * 0 + _ ≤ _; exact Nat.le_of_eq rfl) (dd at_243) (fun _ _ => ⟨rfl, e55, (by decide : 1 + 0 ≤ _), (by decide : 4 + 0 ≤ _)⟩)
    dsimp only [Pt.U, Pt.locs, Pt.cells, Pt.slots, Q_rm3_4] at X56 l56 y56 z56 st56 hQ56
    subst l56 y56 z56
    obtain ⟨rfl, N56q, e56⟩ := hQ56
    have N56 := Fr.app N55 N56q
    refine Gz.st st56 ?_
    refine Gz.lstore 248 #[.val (.int p0), .val (.int p1), .val (.int p2), .val (.int p3), .val (.int p4), .val (.int p5), .val (.int (4 : Int32)), .val (.int r42), .val (.int r43), .val (.int r44), .val (.int r45), .val (.int r46), .val (.ref b47), .val (.long (r42.toInt64)), .second, .val (.long (r43.toInt64)), .second, .val (.long (r44.toInt64)), .second, .val (.long (r45.toInt64)), .second, .val (.long (0 : Int64)), .second, .val (.long (((((((((((r42.toInt64) * (r43.toInt64)) + ((r42.toInt64) * (r44.toInt64))) + ((r42.toInt64) * (r45.toInt64))) + ((r42.toInt64) * (0 : Int64))) + ((r43.toInt64) * (r44.toInt64))) + ((r43.toInt64) * (r45.toInt64))) + ((r43.toInt64) * (0 : Int64))) + ((r44.toInt64) * (r45.toInt64))) + ((r44.toInt64) * (0 : Int64))) + ((r45.toInt64) * (0 : Int64)))), .second, .val (.long (f3_4 b47 r42 r43 r44 r45)), .second] X56 hx (dd at_246) rfl rfl ?_
    refine Gz.lload 250 X56 hx (dd at_248) rfl rfl ?_
    refine Gz.lload 252 X56 hx (dd at_250) rfl rfl ?_
    refine Gz.lcmp 253 X56 hx (dd at_252) rfl ?_
    refine Gz.ifNo 256 X56 hx (dd at_253) ((if0 _ _).trans (teq ((lw_eq _ _).mpr ((by unfold f3_4; simp only [Int64.zero_add, Int64.zero_mul, Int64.mul_zero, Int64.add_zero, Int64.add_mul]; try ac_rfl) : (f3_4 b47 r42 r43 r44 r45) = (((((((((((r42.toInt64) * (r43.toInt64)) + ((r42.toInt64) * (r44.toInt64))) + ((r42.toInt64) * (r45.toInt64))) + ((r42.toInt64) * (0 : Int64))) + ((r43.toInt64) * (r44.toInt64))) + ((r43.toInt64) * (r45.toInt64))) + ((r43.toInt64) * (0 : Int64))) + ((r44.toInt64) * (r45.toInt64))) + ((r44.toInt64) * (0 : Int64))) + ((r45.toInt64) * (0 : Int64)))))).2) rfl ?_
    refine Gz.iconst 257 (1 : Int32) X56 hx (dd at_256) rfl rfl ?_
    refine Gz.goto 261 X56 hx (dd at_257) (by decide) (by decide) ?_
    refine Gz.fin X56 (v := some (.int (1 : Int32))) (fun h => by rw [hret] at h; cases h) hlk (by decide) (by decide) (fun fs hr => retN X56 hx (t := .boolean) hret (by simp) (dd at_261) hr) ?_
    exact ⟨rfl, N56⟩
  · rw [hs1]
    refine Gz.istore 9 #[.val (.int p0), .val (.int p1), .val (.int p2), .val (.int p3), .val (.int p4), .val (.int p5), .val (.int (5 : Int32)), .unset, .unset, .unset, .unset, .unset, .unset, .unset, .unset, .unset, .unset, .unset, .unset, .unset, .unset, .unset, .unset, .unset, .unset, .unset, .unset] X0 hx (dd at_7) rfl rfl ?_
    refine Gz.iloadN 10 X0 hx (dd at_9) rfl rfl ?_
    obtain ⟨_, _, ⟨T57, L57, k57, n57⟩, -, X57, ⟨Lc57, hQ57, l57, y57, z57⟩, st57⟩ := Jvm.LawKit.callS X0 hx (y := (⟨"com/example/minsuite/minsuite/ValuePairsCountPinLaw", "positive", "(I)I"⟩ : MethodName)) hown (mvT hZ (ww hw 1 rfl)) (mvT hZ (ww hw 2 rfl)) (mvT hZ (ww hw 3 rfl)) (mvT hZ (ww hw 4 rfl)) (by decide) (backOf (W := 0) (rm1 l Z av0 hw [] p1  h0 n0 Z0 ) hZ (ww hw 4 rfl) (ww hw 3 rfl) (by decide) (by decide)) (g := (mkF m 10 #[.val (.int p0), .val (.int p1), .val (.int p2), .val (.int p3), .val (.int p4), .val (.int p5), .val (.int (5 : Int32)), .unset, .unset, .unset, .unset, .unset, .unset, .unset, .unset, .unset, .unset, .unset, .unset, .unset, .unset, .unset, .unset, .unset, .unset, .unset, .unset] [(.int p1)])) rfl (by rw [hml]; rfl) (argsL := [(.int p1)]) (rest := []) (lenOf pd_1 rfl) rfl (by show 2 * 0 + _ ≤ _; exact Nat.le_of_eq rfl) (dd at_10) (fun _ _ => ⟨rfl, e0, (by decide : 0 + 0 ≤ _), (by decide : 0 + 0 ≤ _)⟩)
    dsimp only [Pt.U, Pt.locs, Pt.cells, Pt.slots, Q_rm1] at X57 l57 y57 z57 st57 hQ57
    subst l57 y57 z57
    generalize (f1 p1) = r57 at hQ57
    obtain ⟨rfl, N57q, e57⟩ := hQ57
    have N57 := Fr.app N0 N57q
    refine Gz.st st57 ?_
    refine Gz.istore 15 #[.val (.int p0), .val (.int p1), .val (.int p2), .val (.int p3), .val (.int p4), .val (.int p5), .val (.int (5 : Int32)), .val (.int r57), .unset, .unset, .unset, .unset, .unset, .unset, .unset, .unset, .unset, .unset, .unset, .unset, .unset, .unset, .unset, .unset, .unset, .unset, .unset] X57 hx (dd at_13) rfl rfl ?_
    refine Gz.iloadN 16 X57 hx (dd at_15) rfl rfl ?_
    obtain ⟨_, _, ⟨T58, L58, k58, n58⟩, -, X58, ⟨Lc58, hQ58, l58, y58, z58⟩, st58⟩ := Jvm.LawKit.callS X57 hx (y := (⟨"com/example/minsuite/minsuite/ValuePairsCountPinLaw", "positive", "(I)I"⟩ : MethodName)) hown (mvT hZ (ww hw 1 rfl)) (mvT hZ (ww hw 2 rfl)) (mvT hZ (ww hw 3 rfl)) (mvT hZ (ww hw 4 rfl)) (by decide) (backOf (W := 0) (rm1 l Z av0 hw [] p2  h0 n0 Z0 ) hZ (ww hw 4 rfl) (ww hw 3 rfl) (by decide) (by decide)) (g := (mkF m 16 #[.val (.int p0), .val (.int p1), .val (.int p2), .val (.int p3), .val (.int p4), .val (.int p5), .val (.int (5 : Int32)), .val (.int r57), .unset, .unset, .unset, .unset, .unset, .unset, .unset, .unset, .unset, .unset, .unset, .unset, .unset, .unset, .unset, .unset, .unset, .unset, .unset] [(.int p2)])) rfl (by rw [hml]; rfl) (argsL := [(.int p2)]) (rest := []) (lenOf pd_1 rfl) rfl (by show 2 * 0 + _ ≤ _; exact Nat.le_of_eq rfl) (dd at_16) (fun _ _ => ⟨rfl, e57, (by decide : 0 + 0 ≤ _), (by decide : 0 + 0 ≤ _)⟩)
    dsimp only [Pt.U, Pt.locs, Pt.cells, Pt.slots, Q_rm1] at X58 l58 y58 z58 st58 hQ58
    subst l58 y58 z58
    generalize (f1 p2) = r58 at hQ58
    obtain ⟨rfl, N58q, e58⟩ := hQ58
    have N58 := Fr.app N57 N58q
    refine Gz.st st58 ?_
    refine Gz.istore 21 #[.val (.int p0), .val (.int p1), .val (.int p2), .val (.int p3), .val (.int p4), .val (.int p5), .val (.int (5 : Int32)), .val (.int r57), .val (.int r58), .unset, .unset, .unset, .unset, .unset, .unset, .unset, .unset, .unset, .unset, .unset, .unset, .unset, .unset, .unset, .unset, .unset, .unset] X58 hx (dd at_19) rfl rfl ?_
    refine Gz.iloadN 22 X58 hx (dd at_21) rfl rfl ?_
    obtain ⟨_, _, ⟨T59, L59, k59, n59⟩, -, X59, ⟨Lc59, hQ59, l59, y59, z59⟩, st59⟩ := Jvm.LawKit.callS X58 hx (y := (⟨"com/example/minsuite/minsuite/ValuePairsCountPinLaw", "positive", "(I)I"⟩ : MethodName)) hown (mvT hZ (ww hw 1 rfl)) (mvT hZ (ww hw 2 rfl)) (mvT hZ (ww hw 3 rfl)) (mvT hZ (ww hw 4 rfl)) (by decide) (backOf (W := 0) (rm1 l Z av0 hw [] p3  h0 n0 Z0 ) hZ (ww hw 4 rfl) (ww hw 3 rfl) (by decide) (by decide)) (g := (mkF m 22 #[.val (.int p0), .val (.int p1), .val (.int p2), .val (.int p3), .val (.int p4), .val (.int p5), .val (.int (5 : Int32)), .val (.int r57), .val (.int r58), .unset, .unset, .unset, .unset, .unset, .unset, .unset, .unset, .unset, .unset, .unset, .unset, .unset, .unset, .unset, .unset, .unset, .unset] [(.int p3)])) rfl (by rw [hml]; rfl) (argsL := [(.int p3)]) (rest := []) (lenOf pd_1 rfl) rfl (by show 2 * 0 + _ ≤ _; exact Nat.le_of_eq rfl) (dd at_22) (fun _ _ => ⟨rfl, e58, (by decide : 0 + 0 ≤ _), (by decide : 0 + 0 ≤ _)⟩)
    dsimp only [Pt.U, Pt.locs, Pt.cells, Pt.slots, Q_rm1] at X59 l59 y59 z59 st59 hQ59
    subst l59 y59 z59
    generalize (f1 p3) = r59 at hQ59
    obtain ⟨rfl, N59q, e59⟩ := hQ59
    have N59 := Fr.app N58 N59q
    refine Gz.st st59 ?_
    refine Gz.istore 27 #[.val (.int p0), .val (.int p1), .val (.int p2), .val (.int p3), .val (.int p4), .val (.int p5), .val (.int (5 : Int32)), .val (.int r57), .val (.int r58), .val (.int r59), .unset, .unset, .unset, .unset, .unset, .unset, .unset, .unset, .unset, .unset, .unset, .unset, .unset, .unset, .unset, .unset, .unset] X59 hx (dd at_25) rfl rfl ?_
    refine Gz.iload 29 X59 hx (dd at_27) rfl rfl ?_
    obtain ⟨_, _, ⟨T60, L60, k60, n60⟩, -, X60, ⟨Lc60, hQ60, l60, y60, z60⟩, st60⟩ := Jvm.LawKit.callS X59 hx (y := (⟨"com/example/minsuite/minsuite/ValuePairsCountPinLaw", "positive", "(I)I"⟩ : MethodName)) hown (mvT hZ (ww hw 1 rfl)) (mvT hZ (ww hw 2 rfl)) (mvT hZ (ww hw 3 rfl)) (mvT hZ (ww hw 4 rfl)) (by decide) (backOf (W := 0) (rm1 l Z av0 hw [] p4  h0 n0 Z0 ) hZ (ww hw 4 rfl) (ww hw 3 rfl) (by decide) (by decide)) (g := (mkF m 29 #[.val (.int p0), .val (.int p1), .val (.int p2), .val (.int p3), .val (.int p4), .val (.int p5), .val (.int (5 : Int32)), .val (.int r57), .val (.int r58), .val (.int r59), .unset, .unset, .unset, .unset, .unset, .unset, .unset, .unset, .unset, .unset, .unset, .unset, .unset, .unset, .unset, .unset, .unset] [(.int p4)])) rfl (by rw [hml]; rfl) (argsL := [(.int p4)]) (rest := []) (lenOf pd_1 rfl) rfl (by show 2 * 0 + _ ≤ _; exact Nat.le_of_eq rfl) (dd at_29) (fun _ _ => ⟨rfl, e59, (by decide : 0 + 0 ≤ _), (by decide : 0 + 0 ≤ _)⟩)
    dsimp only [Pt.U, Pt.locs, Pt.cells, Pt.slots, Q_rm1] at X60 l60 y60 z60 st60 hQ60
    subst l60 y60 z60
    generalize (f1 p4) = r60 at hQ60
    obtain ⟨rfl, N60q, e60⟩ := hQ60
    have N60 := Fr.app N59 N60q
    refine Gz.st st60 ?_
    refine Gz.istore 34 #[.val (.int p0), .val (.int p1), .val (.int p2), .val (.int p3), .val (.int p4), .val (.int p5), .val (.int (5 : Int32)), .val (.int r57), .val (.int r58), .val (.int r59), .val (.int r60), .unset, .unset, .unset, .unset, .unset, .unset, .unset, .unset, .unset, .unset, .unset, .unset, .unset, .unset, .unset, .unset] X60 hx (dd at_32) rfl rfl ?_
    refine Gz.iload 36 X60 hx (dd at_34) rfl rfl ?_
    obtain ⟨_, _, ⟨T61, L61, k61, n61⟩, -, X61, ⟨Lc61, hQ61, l61, y61, z61⟩, st61⟩ := Jvm.LawKit.callS X60 hx (y := (⟨"com/example/minsuite/minsuite/ValuePairsCountPinLaw", "positive", "(I)I"⟩ : MethodName)) hown (mvT hZ (ww hw 1 rfl)) (mvT hZ (ww hw 2 rfl)) (mvT hZ (ww hw 3 rfl)) (mvT hZ (ww hw 4 rfl)) (by decide) (backOf (W := 0) (rm1 l Z av0 hw [] p5  h0 n0 Z0 ) hZ (ww hw 4 rfl) (ww hw 3 rfl) (by decide) (by decide)) (g := (mkF m 36 #[.val (.int p0), .val (.int p1), .val (.int p2), .val (.int p3), .val (.int p4), .val (.int p5), .val (.int (5 : Int32)), .val (.int r57), .val (.int r58), .val (.int r59), .val (.int r60), .unset, .unset, .unset, .unset, .unset, .unset, .unset, .unset, .unset, .unset, .unset, .unset, .unset, .unset, .unset, .unset] [(.int p5)])) rfl (by rw [hml]; rfl) (argsL := [(.int p5)]) (rest := []) (lenOf pd_1 rfl) rfl (by show 2 * 0 + _ ≤ _; exact Nat.le_of_eq rfl) (dd at_36) (fun _ _ => ⟨rfl, e60, (by decide : 0 + 0 ≤ _), (by decide : 0 + 0 ≤ _)⟩)
    dsimp only [Pt.U, Pt.locs, Pt.cells, Pt.slots, Q_rm1] at X61 l61 y61 z61 st61 hQ61
    subst l61 y61 z61
    generalize (f1 p5) = r61 at hQ61
    obtain ⟨rfl, N61q, e61⟩ := hQ61
    have N61 := Fr.app N60 N61q
    refine Gz.st st61 ?_
    refine Gz.istore 41 #[.val (.int p0), .val (.int p1), .val (.int p2), .val (.int p3), .val (.int p4), .val (.int p5), .val (.int (5 : Int32)), .val (.int r57), .val (.int r58), .val (.int r59), .val (.int r60), .val (.int r61), .unset, .unset, .unset, .unset, .unset, .unset, .unset, .unset, .unset, .unset, .unset, .unset, .unset, .unset, .unset] X61 hx (dd at_39) rfl rfl ?_
    refine Gz.iload 43 X61 hx (dd at_41) rfl rfl ?_
    obtain ⟨T62, h62, k62, X62, e62, E62, A62, Q62, st62⟩ := newPE X61 hx hZ (ww hw 9 rfl) e61 (g := (mkF m 43 #[.val (.int p0), .val (.int p1), .val (.int p2), .val (.int p3), .val (.int p4), .val (.int p5), .val (.int (5 : Int32)), .val (.int r57), .val (.int r58), .val (.int r59), .val (.int r60), .val (.int r61), .unset, .unset, .unset, .unset, .unset, .unset, .unset, .unset, .unset, .unset, .unset, .unset, .unset, .unset, .unset] [(.int (5 : Int32))])) rfl (dd at_43) rfl (by decide) (cap := 5) (by decide) (by decide) (by decide) (by decide) (ad := "[I") rfl
    obtain ⟨b62, g62⟩ : ∃ z, z = h0.size := ⟨_, rfl⟩
    rw [← g62] at A62 Q62 st62
    have g_b62 : n0 ≤ b62 := Nat.le_trans Z0 (Nat.le_of_eq g62.symm)
    have SZ62 : n0 ≤ h62.size := Nat.le_trans Z0 E62.1
    have V62 : Arv Z h62 b62 k62 .int (5 : Int32) [(.int (0 : Int32)), (.int (0 : Int32)), (.int (0 : Int32)), (.int (0 : Int32)), (.int (0 : Int32))] (.int (0 : Int32)) := (Arv.new A62 (by decide)).pad (pad_rep [] (.int (0 : Int32)) 5)
    refine Gz.st st62 ?_
    refine Gz.astore 47 #[.val (.int p0), .val (.int p1), .val (.int p2), .val (.int p3), .val (.int p4), .val (.int p5), .val (.int (5 : Int32)), .val (.int r57), .val (.int r58), .val (.int r59), .val (.int r60), .val (.int r61), .val (.ref b62), .unset, .unset, .unset, .unset, .unset, .unset, .unset, .unset, .unset, .unset, .unset, .unset, .unset, .unset] X62 hx (dd at_45) rfl rfl rfl ?_
    refine Gz.iload 49 X62 hx (dd at_47) rfl rfl ?_
    refine Gz.ifNo 52 X62 hx (dd at_49) ((if0 _ _).trans (tlt (by decide : (0 : Int32) < (5 : Int32))).2.2.2) rfl ?_
    refine Gz.aload 54 X62 hx (dd at_52) rfl rfl rfl ?_
    refine Gz.iconst 55 (0 : Int32) X62 hx (dd at_54) rfl rfl ?_
    refine Gz.iload 57 X62 hx (dd at_55) rfl rfl ?_
    obtain ⟨c63, A63, q63, S63, N63, H63, G63⟩ := id V62
    have hin63 : ¬ ((0 : Int32) < 0 ∨ c63.slots.size ≤ ((0 : Int32)).toNatClampNeg) := inb_of S63 ⟨by decide, by decide⟩
    refine Gz.stI 58 X62 hx hZ (dd at_57) e62 A63 hin63 rfl fun T64 h64 X64 e64 W64 => ?_
    have V64 := Arv.set A63 q63 S63 N63 H63 G63 rfl W64 0 rfl (Nat.le_of_ble_eq_true rfl)
    replace V64 : Arv Z h64 b62 k62 .int (5 : Int32) [(.int r57), (.int (0 : Int32)), (.int (0 : Int32)), (.int (0 : Int32)), (.int (0 : Int32))] (.int (0 : Int32)) := V64
    have f64_Eb62 := Exa.wr W64 Q62
    have N64 := Fr.snoc X64 N61 g_b62
    have SZ64 : n0 ≤ h64.size := Nat.le_trans SZ62 (Keep.of_wr W64).1
    refine Gz.iload 60 X64 hx (dd at_58) rfl rfl ?_
    refine Gz.iconst 61 (1 : Int32) X64 hx (dd at_60) rfl rfl ?_
    refine Gz.icmpNo 64 X64 hx (dd at_61) (tlt (by decide : (1 : Int32) < (5 : Int32))).2.2.2 rfl ?_
    refine Gz.aload 66 X64 hx (dd at_64) rfl rfl rfl ?_
    refine Gz.iconst 67 (1 : Int32) X64 hx (dd at_66) rfl rfl ?_
    refine Gz.iload 69 X64 hx (dd at_67) rfl rfl ?_
    obtain ⟨c65, A65, q65, S65, N65, H65, G65⟩ := id V64
    have hin65 : ¬ ((1 : Int32) < 0 ∨ c65.slots.size ≤ ((1 : Int32)).toNatClampNeg) := inb_of S65 ⟨by decide, by decide⟩
    refine Gz.stI 70 X64 hx hZ (dd at_69) e64 A65 hin65 rfl fun T66 h66 X66 e66 W66 => ?_
    have V66 := Arv.set A65 q65 S65 N65 H65 G65 rfl W66 1 rfl (Nat.le_of_ble_eq_true rfl)
    replace V66 : Arv Z h66 b62 k62 .int (5 : Int32) [(.int r57), (.int r58), (.int (0 : Int32)), (.int (0 : Int32)), (.int (0 : Int32))] (.int (0 : Int32)) := V66
    have f66_Eb62 := Exa.wr W66 f64_Eb62
    have N66 := Fr.snoc X66 N64 g_b62
    have SZ66 : n0 ≤ h66.size := Nat.le_trans SZ64 (Keep.of_wr W66).1
    refine Gz.iload 72 X66 hx (dd at_70) rfl rfl ?_
    refine Gz.iconst 73 (2 : Int32) X66 hx (dd at_72) rfl rfl ?_
    refine Gz.icmpNo 76 X66 hx (dd at_73) (tlt (by decide : (2 : Int32) < (5 : Int32))).2.2.2 rfl ?_
    refine Gz.aload 78 X66 hx (dd at_76) rfl rfl rfl ?_
    refine Gz.iconst 79 (2 : Int32) X66 hx (dd at_78) rfl rfl ?_
    refine Gz.iload 81 X66 hx (dd at_79) rfl rfl ?_
    obtain ⟨c67, A67, q67, S67, N67, H67, G67⟩ := id V66
    have hin67 : ¬ ((2 : Int32) < 0 ∨ c67.slots.size ≤ ((2 : Int32)).toNatClampNeg) := inb_of S67 ⟨by decide, by decide⟩
    refine Gz.stI 82 X66 hx hZ (dd at_81) e66 A67 hin67 rfl fun T68 h68 X68 e68 W68 => ?_
    have V68 := Arv.set A67 q67 S67 N67 H67 G67 rfl W68 2 rfl (Nat.le_of_ble_eq_true rfl)
    replace V68 : Arv Z h68 b62 k62 .int (5 : Int32) [(.int r57), (.int r58), (.int r59), (.int (0 : Int32)), (.int (0 : Int32))] (.int (0 : Int32)) := V68
    have f68_Eb62 := Exa.wr W68 f66_Eb62
    have N68 := Fr.snoc X68 N66 g_b62
    have SZ68 : n0 ≤ h68.size := Nat.le_trans SZ66 (Keep.of_wr W68).1
    refine Gz.iload 84 X68 hx (dd at_82) rfl rfl ?_
    refine Gz.iconst 85 (3 : Int32) X68 hx (dd at_84) rfl rfl ?_
    refine Gz.icmpNo 88 X68 hx (dd at_85) (tlt (by decide : (3 : Int32) < (5 : Int32))).2.2.2 rfl ?_
    refine Gz.aload 90 X68 hx (dd at_88) rfl rfl rfl ?_
    refine Gz.iconst 91 (3 : Int32) X68 hx (dd at_90) rfl rfl ?_
    refine Gz.iload 93 X68 hx (dd at_91) rfl rfl ?_
    obtain ⟨c69, A69, q69, S69, N69, H69, G69⟩ := id V68
    have hin69 : ¬ ((3 : Int32) < 0 ∨ c69.slots.size ≤ ((3 : Int32)).toNatClampNeg) := inb_of S69 ⟨by decide, by decide⟩
    refine Gz.stI 94 X68 hx hZ (dd at_93) e68 A69 hin69 rfl fun T70 h70 X70 e70 W70 => ?_
    have V70 := Arv.set A69 q69 S69 N69 H69 G69 rfl W70 3 rfl (Nat.le_of_ble_eq_true rfl)
    replace V70 : Arv Z h70 b62 k62 .int (5 : Int32) [(.int r57), (.int r58), (.int r59), (.int r60), (.int (0 : Int32))] (.int (0 : Int32)) := V70
    have f70_Eb62 := Exa.wr W70 f68_Eb62
    have N70 := Fr.snoc X70 N68 g_b62
    have SZ70 : n0 ≤ h70.size := Nat.le_trans SZ68 (Keep.of_wr W70).1
    refine Gz.iload 96 X70 hx (dd at_94) rfl rfl ?_
    refine Gz.iconst 97 (4 : Int32) X70 hx (dd at_96) rfl rfl ?_
    refine Gz.icmpNo 100 X70 hx (dd at_97) (tlt (by decide : (4 : Int32) < (5 : Int32))).2.2.2 rfl ?_
    refine Gz.aload 102 X70 hx (dd at_100) rfl rfl rfl ?_
    refine Gz.iconst 103 (4 : Int32) X70 hx (dd at_102) rfl rfl ?_
    refine Gz.iload 105 X70 hx (dd at_103) rfl rfl ?_
    obtain ⟨c71, A71, q71, S71, N71, H71, G71⟩ := id V70
    have hin71 : ¬ ((4 : Int32) < 0 ∨ c71.slots.size ≤ ((4 : Int32)).toNatClampNeg) := inb_of S71 ⟨by decide, by decide⟩
    refine Gz.stI 106 X70 hx hZ (dd at_105) e70 A71 hin71 rfl fun T72 h72 X72 e72 W72 => ?_
    have V72 := Arv.set A71 q71 S71 N71 H71 G71 rfl W72 4 rfl (Nat.le_of_ble_eq_true rfl)
    replace V72 : Arv Z h72 b62 k62 .int (5 : Int32) [(.int r57), (.int r58), (.int r59), (.int r60), (.int r61)] (.int (0 : Int32)) := V72
    have f72_Eb62 := Exa.wr W72 f70_Eb62
    have N72 := Fr.snoc X72 N70 g_b62
    have SZ72 : n0 ≤ h72.size := Nat.le_trans SZ70 (Keep.of_wr W72).1
    refine Gz.iload 108 X72 hx (dd at_106) rfl rfl ?_
    refine Gz.ifNo 111 X72 hx (dd at_108) ((if0 _ _).trans (tlt (by decide : (0 : Int32) < (5 : Int32))).2.2.2) rfl ?_
    refine Gz.iload 113 X72 hx (dd at_111) rfl rfl ?_
    refine Gz.i2l 114 X72 hx (dd at_113) rfl ?_
    refine Gz.goto 118 X72 hx (dd at_114) (by decide) (by decide) ?_
    refine Gz.lstore 120 #[.val (.int p0), .val (.int p1), .val (.int p2), .val (.int p3), .val (.int p4), .val (.int p5), .val (.int (5 : Int32)), .val (.int r57), .val (.int r58), .val (.int r59), .val (.int r60), .val (.int r61), .val (.ref b62), .val (.long (r57.toInt64)), .second, .unset, .unset, .unset, .unset, .unset, .unset, .unset, .unset, .unset, .unset, .unset, .unset] X72 hx (dd at_118) rfl rfl ?_
    refine Gz.iload 122 X72 hx (dd at_120) rfl rfl ?_
    refine Gz.iconst 123 (1 : Int32) X72 hx (dd at_122) rfl rfl ?_
    refine Gz.icmpNo 126 X72 hx (dd at_123) (tlt (by decide : (1 : Int32) < (5 : Int32))).2.2.2 rfl ?_
    refine Gz.iload 128 X72 hx (dd at_126) rfl rfl ?_
    refine Gz.i2l 129 X72 hx (dd at_128) rfl ?_
    refine Gz.goto 133 X72 hx (dd at_129) (by decide) (by decide) ?_
    refine Gz.lstore 135 #[.val (.int p0), .val (.int p1), .val (.int p2), .val (.int p3), .val (.int p4), .val (.int p5), .val (.int (5 : Int32)), .val (.int r57), .val (.int r58), .val (.int r59), .val (.int r60), .val (.int r61), .val (.ref b62), .val (.long (r57.toInt64)), .second, .val (.long (r58.toInt64)), .second, .unset, .unset, .unset, .unset, .unset, .unset, .unset, .unset, .unset, .unset] X72 hx (dd at_133) rfl rfl ?_
    refine Gz.iload 137 X72 hx (dd at_135) rfl rfl ?_
    refine Gz.iconst 138 (2 : Int32) X72 hx (dd at_137) rfl rfl ?_
    refine Gz.icmpNo 141 X72 hx (dd at_138) (tlt (by decide : (2 : Int32) < (5 : Int32))).2.2.2 rfl ?_
    refine Gz.iload 143 X72 hx (dd at_141) rfl rfl ?_
    refine Gz.i2l 144 X72 hx (dd at_143) rfl ?_
    refine Gz.goto 148 X72 hx (dd at_144) (by decide) (by decide) ?_
    refine Gz.lstore 150 #[.val (.int p0), .val (.int p1), .val (.int p2), .val (.int p3), .val (.int p4), .val (.int p5), .val (.int (5 : Int32)), .val (.int r57), .val (.int r58), .val (.int r59), .val (.int r60), .val (.int r61), .val (.ref b62), .val (.long (r57.toInt64)), .second, .val (.long (r58.toInt64)), .second, .val (.long (r59.toInt64)), .second, .unset, .unset, .unset, .unset, .unset, .unset, .unset, .unset] X72 hx (dd at_148) rfl rfl ?_
    refine Gz.iload 152 X72 hx (dd at_150) rfl rfl ?_
    refine Gz.iconst 153 (3 : Int32) X72 hx (dd at_152) rfl rfl ?_
    refine Gz.icmpNo 156 X72 hx (dd at_153) (tlt (by decide : (3 : Int32) < (5 : Int32))).2.2.2 rfl ?_
    refine Gz.iload 158 X72 hx (dd at_156) rfl rfl ?_
    refine Gz.i2l 159 X72 hx (dd at_158) rfl ?_
    refine Gz.goto 163 X72 hx (dd at_159) (by decide) (by decide) ?_
    refine Gz.lstore 165 #[.val (.int p0), .val (.int p1), .val (.int p2), .val (.int p3), .val (.int p4), .val (.int p5), .val (.int (5 : Int32)), .val (.int r57), .val (.int r58), .val (.int r59), .val (.int r60), .val (.int r61), .val (.ref b62), .val (.long (r57.toInt64)), .second, .val (.long (r58.toInt64)), .second, .val (.long (r59.toInt64)), .second, .val (.long (r60.toInt64)), .second, .unset, .unset, .unset, .unset, .unset, .unset] X72 hx (dd at_163) rfl rfl ?_
    refine Gz.iload 167 X72 hx (dd at_165) rfl rfl ?_
    refine Gz.iconst 168 (4 : Int32) X72 hx (dd at_167) rfl rfl ?_
    refine Gz.icmpNo 171 X72 hx (dd at_168) (tlt (by decide : (4 : Int32) < (5 : Int32))).2.2.2 rfl ?_
    refine Gz.iload 173 X72 hx (dd at_171) rfl rfl ?_
    refine Gz.i2l 174 X72 hx (dd at_173) rfl ?_
    refine Gz.goto 178 X72 hx (dd at_174) (by decide) (by decide) ?_
    refine Gz.lstore 180 #[.val (.int p0), .val (.int p1), .val (.int p2), .val (.int p3), .val (.int p4), .val (.int p5), .val (.int (5 : Int32)), .val (.int r57), .val (.int r58), .val (.int r59), .val (.int r60), .val (.int r61), .val (.ref b62), .val (.long (r57.toInt64)), .second, .val (.long (r58.toInt64)), .second, .val (.long (r59.toInt64)), .second, .val (.long (r60.toInt64)), .second, .val (.long (r61.toInt64)), .second, .unset, .unset, .unset, .unset] X72 hx (dd at_178) rfl rfl ?_
    refine Gz.lload 182 X72 hx (dd at_180) rfl rfl ?_
    refine Gz.lload 184 X72 hx (dd at_182) rfl rfl ?_
    refine Gz.lmul 185 X72 hx (dd at_184) rfl ?_
    refine Gz.lload 187 X72 hx (dd at_185) rfl rfl ?_
    refine Gz.lload 189 X72 hx (dd at_187) rfl rfl ?_
    refine Gz.lmul 190 X72 hx (dd at_189) rfl ?_
    refine Gz.ladd 191 X72 hx (dd at_190) rfl ?_
    refine Gz.lload 193 X72 hx (dd at_191) rfl rfl ?_
    refine Gz.lload 195 X72 hx (dd at_193) rfl rfl ?_
    refine Gz.lmul 196 X72 hx (dd at_195) rfl ?_
    refine Gz.ladd 197 X72 hx (dd at_196) rfl ?_
    refine Gz.lload 199 X72 hx (dd at_197) rfl rfl ?_
    refine Gz.lload 201 X72 hx (dd at_199) rfl rfl ?_
    refine Gz.lmul 202 X72 hx (dd at_201) rfl ?_
    refine Gz.ladd 203 X72 hx (dd at_202) rfl ?_
    refine Gz.lload 205 X72 hx (dd at_203) rfl rfl ?_
    refine Gz.lload 207 X72 hx (dd at_205) rfl rfl ?_
    refine Gz.lmul 208 X72 hx (dd at_207) rfl ?_
    refine Gz.ladd 209 X72 hx (dd at_208) rfl ?_
    refine Gz.lload 211 X72 hx (dd at_209) rfl rfl ?_
    refine Gz.lload 213 X72 hx (dd at_211) rfl rfl ?_
    refine Gz.lmul 214 X72 hx (dd at_213) rfl ?_
    refine Gz.ladd 215 X72 hx (dd at_214) rfl ?_
    refine Gz.lload 217 X72 hx (dd at_215) rfl rfl ?_
    refine Gz.lload 219 X72 hx (dd at_217) rfl rfl ?_
    refine Gz.lmul 220 X72 hx (dd at_219) rfl ?_
    refine Gz.ladd 221 X72 hx (dd at_220) rfl ?_
    refine Gz.lload 223 X72 hx (dd at_221) rfl rfl ?_
    refine Gz.lload 225 X72 hx (dd at_223) rfl rfl ?_
    refine Gz.lmul 226 X72 hx (dd at_225) rfl ?_
    refine Gz.ladd 227 X72 hx (dd at_226) rfl ?_
    refine Gz.lload 229 X72 hx (dd at_227) rfl rfl ?_
    refine Gz.lload 231 X72 hx (dd at_229) rfl rfl ?_
    refine Gz.lmul 232 X72 hx (dd at_231) rfl ?_
    refine Gz.ladd 233 X72 hx (dd at_232) rfl ?_
    refine Gz.lload 235 X72 hx (dd at_233) rfl rfl ?_
    refine Gz.lload 237 X72 hx (dd at_235) rfl rfl ?_
    refine Gz.lmul 238 X72 hx (dd at_237) rfl ?_
    refine Gz.ladd 239 X72 hx (dd at_238) rfl ?_
    refine Gz.lstore 241 #[.val (.int p0), .val (.int p1), .val (.int p2), .val (.int p3), .val (.int p4), .val (.int p5), .val (.int (5 : Int32)), .val (.int r57), .val (.int r58), .val (.int r59), .val (.int r60), .val (.int r61), .val (.ref b62), .val (.long (r57.toInt64)), .second, .val (.long (r58.toInt64)), .second, .val (.long (r59.toInt64)), .second, .val (.long (r60.toInt64)), .second, .val (.long (r61.toInt64)), .second, .val (.long (((((((((((r57.toInt64) * (r58.toInt64)) + ((r57.toInt64) * (r59.toInt64))) + ((r57.toInt64) * (r60.toInt64))) + ((r57.toInt64) * (r61.toInt64))) + ((r58.toInt64) * (r59.toInt64))) + ((r58.toInt64) * (r60.toInt64))) + ((r58.toInt64) * (r61.toInt64))) + ((r59.toInt64) * (r60.toInt64))) + ((r59.toInt64) * (r61.toInt64))) + ((r60.toInt64) * (r61.toInt64)))), .second, .unset, .unset] X72 hx (dd at_239) rfl rfl ?_
    refine Gz.aload 243 X72 hx (dd at_241) rfl rfl rfl ?_
    obtain ⟨_, _, ⟨T73, L73, k73, n73⟩, -, X73, ⟨Lc73, hQ73, l73, y73, z73⟩, st73⟩ := Jvm.LawKit.callS X72 hx (y := (⟨"com/example/minsuite/minsuite/ValuePairs", "count", "([I)J"⟩ : MethodName)) hown (mvT hZ (ww hw 10 rfl)) (mvT hZ (ww hw 11 rfl)) (mvT hZ (ww hw 12 rfl)) (mvT hZ (ww hw 13 rfl)) (by decide) (backOf (W := 0) (rm3_5 l Z av0 hw [] b62 k62 r57 r58 r59 r60 r61 h72 n0 SZ72 V72) hZ (ww hw 13 rfl) (ww hw 12 rfl) (by decide) (by decide)) (g := (mkF m 243 #[.val (.int p0), .val (.int p1), .val (.int p2), .val (.int p3), .val (.int p4), .val (.int p5), .val (.int (5 : Int32)), .val (.int r57), .val (.int r58), .val (.int r59), .val (.int r60), .val (.int r61), .val (.ref b62), .val (.long (r57.toInt64)), .second, .val (.long (r58.toInt64)), .second, .val (.long (r59.toInt64)), .second, .val (.long (r60.toInt64)), .second, .val (.long (r61.toInt64)), .second, .val (.long (((((((((((r57.toInt64) * (r58.toInt64)) + ((r57.toInt64) * (r59.toInt64))) + ((r57.toInt64) * (r60.toInt64))) + ((r57.toInt64) * (r61.toInt64))) + ((r58.toInt64) * (r59.toInt64))) + ((r58.toInt64) * (r60.toInt64))) + ((r58.toInt64) * (r61.toInt64))) + ((r59.toInt64) * (r60.toInt64))) + ((r59.toInt64) * (r61.toInt64))) + ((r60.toInt64) * (r61.toInt64)))), .second, .unset, .unset] [(.ref b62)])) rfl (by rw [hml]; rfl) (argsL := [(.ref b62)]) (rest := []) (lenOf pd_2 rfl) rfl (by show 2 * 0 + _ ≤ _; exact Nat.le_of_eq rfl) (dd at_243) (fun _ _ => ⟨rfl, e72, (by decide : 1 + 0 ≤ _), (by decide : 5 + 0 ≤ _)⟩)
    dsimp only [Pt.U, Pt.locs, Pt.cells, Pt.slots, Q_rm3_5] at X73 l73 y73 z73 st73 hQ73
    subst l73 y73 z73
    obtain ⟨rfl, N73q, e73⟩ := hQ73
    have N73 := Fr.app N72 N73q
    refine Gz.st st73 ?_
    refine Gz.lstore 248 #[.val (.int p0), .val (.int p1), .val (.int p2), .val (.int p3), .val (.int p4), .val (.int p5), .val (.int (5 : Int32)), .val (.int r57), .val (.int r58), .val (.int r59), .val (.int r60), .val (.int r61), .val (.ref b62), .val (.long (r57.toInt64)), .second, .val (.long (r58.toInt64)), .second, .val (.long (r59.toInt64)), .second, .val (.long (r60.toInt64)), .second, .val (.long (r61.toInt64)), .second, .val (.long (((((((((((r57.toInt64) * (r58.toInt64)) + ((r57.toInt64) * (r59.toInt64))) + ((r57.toInt64) * (r60.toInt64))) + ((r57.toInt64) * (r61.toInt64))) + ((r58.toInt64) * (r59.toInt64))) + ((r58.toInt64) * (r60.toInt64))) + ((r58.toInt64) * (r61.toInt64))) + ((r59.toInt64) * (r60.toInt64))) + ((r59.toInt64) * (r61.toInt64))) + ((r60.toInt64) * (r61.toInt64)))), .second, .val (.long (f3_5 b62 r57 r58 r59 r60 r61)), .second] X73 hx (dd at_246) rfl rfl ?_
    refine Gz.lload 250 X73 hx (dd at_248) rfl rfl ?_
    refine Gz.lload 252 X73 hx (dd at_250) rfl rfl ?_
    refine Gz.lcmp 253 X73 hx (dd at_252) rfl ?_
    refine Gz.ifNo 256 X73 hx (dd at_253) ((if0 _ _).trans (teq ((lw_eq _ _).mpr ((by unfold f3_5; simp only [Int64.zero_add, Int64.zero_mul, Int64.mul_zero, Int64.add_zero, Int64.add_mul]; try ac_rfl) : (f3_5 b62 r57 r58 r59 r60 r61) = (((((((((((r57.toInt64) * (r58.toInt64)) + ((r57.toInt64) * (r59.toInt64))) + ((r57.toInt64) * (r60.toInt64))) + ((r57.toInt64) * (r61.toInt64))) + ((r58.toInt64) * (r59.toInt64))) + ((r58.toInt64) * (r60.toInt64))) + ((r58.toInt64) * (r61.toInt64))) + ((r59.toInt64) * (r60.toInt64))) + ((r59.toInt64) * (r61.toInt64))) + ((r60.toInt64) * (r61.toInt64)))))).2) rfl ?_
    refine Gz.iconst 257 (1 : Int32) X73 hx (dd at_256) rfl rfl ?_
    refine Gz.goto 261 X73 hx (dd at_257) (by decide) (by decide) ?_
    refine Gz.fin X73 (v := some (.int (1 : Int32))) (fun h => by rw [hret] at h; cases h) hlk (by decide) (by decide) (fun fs hr => retN X73 hx (t := .boolean) hret (by simp) (dd at_261) hr) ?_
    exact ⟨rfl, N73⟩
set_option maxRecDepth 65536 in
set_option maxHeartbeats 40000000 in
theorem comes_1 {Post : Tables → Env → Array Value → State → Outcome → State → Prop} (hpost : ∀ tb e args s v u, (limb_1_1.after args s (.returned v) u = true ∧ limb_1_2.after args s (.returned v) u = true ∧ True) → FrameEnd s (.returned v) u (Jvm.fieldLocs frame_1_writes args s ++ Jvm.arrayLocs frame_1_arrays args s ++ Jvm.staticLocs frame_1_statics s) 16 128 → Post tb e args s (.returned v) u) :
    ArmFor flags0 classFile x code maxLocals ret World_1 tables_1 room_1 Calls_1 rest_1 Pre_1 Post := by
  intro l hfl _ _ p e ha hc hk s m args below hf hA hF happ hP
  obtain ⟨hcalls, hrest, hpre⟩ := hP
  obtain ⟨-, -, -, hnamed, -, -, -, hat⟩ := (Spec.applies_iff hf).mp happ
  obtain ⟨hg, hn⟩ := and_e (Cond.before_iff.mp (show (Jvm.Cond.and given_1 narrow_1).before args s = true from hpre))
  obtain ⟨hcnt, hg0⟩ := and_e hg
  obtain ⟨ha0, hg1⟩ := and_e hg0
  obtain ⟨ha1, hg2⟩ := and_e hg1
  obtain ⟨ha2, hg3⟩ := and_e hg2
  obtain ⟨ha3, hg4⟩ := and_e hg3
  obtain ⟨ha4, hg5⟩ := and_e hg4
  have ha5 := hg5
  obtain ⟨w0, w1, w2, w3, w4, w5, rfl⟩ : ∃ w0 w1 w2 w3 w4 w5 : Value, args = #[w0, w1, w2, w3, w4, w5] := by
    have hs : args.size = 6 := by simpa [Cond.value, given_1] using hcnt
    obtain ⟨L⟩ := args
    match L, hs with
    | [w0, w1, w2, w3, w4, w5], _ => exact ⟨w0, w1, w2, w3, w4, w5, rfl⟩
  have hw := fun d (hd : d ∈ tables_1) => atoms_spec (ws := Jvm.Cond.code x code maxLocals ret :: tables_1) hat d (List.mem_cons_of_mem _ hd)
  have hfit : Fit s := fun {y c} hc i hi => by
    obtain ⟨ha, rfl⟩ := Array.getElem?_eq_some_iff.mp hc
    have q := List.all_eq_true.mp ((Array.all_eq_true_iff_forall_mem.mp hF) _ (Array.getElem_mem ha)) i (List.mem_range.mpr hi)
    simpa [Array.getElem?_eq_getElem hi] using q
  obtain ⟨i0, ei0⟩ := is_v ha0
  obtain rfl : w0 = (.int i0) := Option.some.inj ei0
  obtain ⟨i1, ei1⟩ := is_v ha1
  obtain rfl : w1 = (.int i1) := Option.some.inj ei1
  obtain ⟨i2, ei2⟩ := is_v ha2
  obtain rfl : w2 = (.int i2) := Option.some.inj ei2
  obtain ⟨i3, ei3⟩ := is_v ha3
  obtain rfl : w3 = (.int i3) := Option.some.inj ei3
  obtain ⟨i4, ei4⟩ := is_v ha4
  obtain rfl : w4 = (.int i4) := Option.some.inj ei4
  obtain ⟨i5, ei5⟩ := is_v ha5
  obtain rfl : w5 = (.int i5) := Option.some.inj ei5
  obtain ⟨n, o, h1, h2, h3, _, L, rfl, ⟨rfl, N⟩, hq⟩ := rm0 l s _ hw tables_1 i0 i1 i2 i3 i4 i5  s.heap s.heap.size (Nat.le_refl _)  p e ha hc hk s m _ below hf ((Spec.applies_iff_loose hf).mp happ).1 ⟨rfl, State.Warmed39.refl s, rfl⟩ trivial
  refine ⟨n, _, h1, h2, h3, hpost _ _ _ _ _ _ ⟨Cond.after_iff.mpr rfl, Cond.after_iff.mpr (eq_i res_at (Term.int_eval (1)) rfl), trivial⟩ ⟨hq.1, hq.2.1, (hq.2.2.sift fun y hy => Or.inr (N y hy)).mono (by decide) (by decide)⟩⟩
theorem main_1_1 : Claimed_1_1 := comes_1 fun _ _ _ _ _ _ h hF => ⟨h.1, hF⟩
theorem main_1_2 : Claimed_1_2 := comes_1 fun _ _ _ _ _ _ h hF => ⟨h.2.1, hF⟩
end Jvm.Pilot.@@N@@
namespace Jvm.Pilot.@@N@@
open Jvm Jvm.ClassFile Sem Op Lib Jvm.Free Jvm.Stand Jvm.Pilot.@@N@@.Jvm.D
/-! MADE BY PROGRAM (witnessworld.py) out of the Statement's table words and the real class files: 10 classes; the members and pool entries that the words name. The judged class is class 1, her method 2. -/
namespace start1
open Jvm.ClassFile
def u (s : String) : CpInfo := .utf8 (stringToUtf16 s)
/-- a pool by its gaps: so many unusable entries, then the entry; so many at the end -/
def gap : Nat → List CpInfo → List CpInfo
  | 0, r => r
  | n + 1, r => .unusable :: gap n r
def poolList (es : List (Nat × CpInfo)) (last : Nat) : List CpInfo := es.foldr (fun e r => gap e.1 (e.2 :: r)) (gap last [])
def pool (es : List (Nat × CpInfo)) (last : Nat) : Array CpInfo := ⟨poolList es last⟩
def fileOf (pool : Array CpInfo) (this : Nat) (attrs : Array Attribute := #[]) (ms : Array MethodInfo := #[]) (fl : Nat := 33) (sup : Nat := 0) (ifs : Array Nat := #[]) (fds : Array FieldInfo := #[]) : ClassFile where
  minorVersion := 0
  majorVersion := 65
  constantPool := pool
  accessFlags := fl
  thisClass := this
  superClass := sup
  interfaces := ifs
  fields := fds
  methods := ms
  attributes := attrs
def plain (name : String) (sup : Option ClassId) : Class where
  name := name
  kind := .ordinary
  loader := none
  accessFlags := 33
  super := sup
  interfaces := #[]
  cf := none
  fields := #[]
  methods := #[]
  instanceTypes := #[]
  staticTypes := #[]
  resolved := #[]
  callSites := []
  init := .initialized
  statics := none
  mirror := none

def pool0 : Array CpInfo := pool [(5, u "<init>"), (0, u "()V"), (1, .class_ 10), (1, u "java/lang/Object")] 113

def k0m0 : Method := { name := "<init>", desc := "()V", sig := { parameters := [], returnType := none }, accessFlags := 1, code := none }
/-- java/lang/Object -/
def k0 : Class := { plain "java/lang/Object" none with
  accessFlags := 33
  interfaces := #[]
  cf := some (fileOf pool0 8 #[] #[{ accessFlags := 1, nameIndex := 5, descriptorIndex := 6, attributes := #[] }] 33 0 #[] #[])
  fields := #[]
  methods := #[k0m0]
  instanceTypes := #[]
  staticTypes := #[]
  resolved := Array.replicate 124 none
  statics := none }

def pool1 : Array CpInfo := pool [(2, .class_ 4), (1, u "java/lang/Object"), (0, u "<init>"), (0, u "()V"), (0, .integer 2147483647), (0, .methodref 9 10), (0, .class_ 11), (0, .nameAndType 12 13), (0, u "java/lang/Math"), (0, u "max"), (0, u "(II)I"), (0, .methodref 15 16), (0, .class_ 17), (0, .nameAndType 18 19), (0, u "com/example/minsuite/minsuite/ValuePairsCountPinLaw"), (0, u "positive"), (0, u "(I)I"), (0, .methodref 21 22), (0, .class_ 23), (0, .nameAndType 24 25), (0, u "com/example/minsuite/minsuite/ValuePairs"), (0, u "count"), (0, u "([I)J"), (2, u "law"), (0, u "(IIIIII)Z")] 5

def k1m0 : Method := { name := "<init>", desc := "()V", sig := { parameters := [], returnType := none }, accessFlags := 1, code := none }
def k1c1 : Code := { maxStack := 3, maxLocals := 1, code := method_2_code, exceptionTable := #[], attributes := #[] }
def k1m1 : Method := { name := "positive", desc := "(I)I", sig := { parameters := [.int], returnType := some .int }, accessFlags := 10, code := some k1c1 }
def k1c2 : Code := { maxStack := 6, maxLocals := 27, code := code, exceptionTable := #[], attributes := #[] }
def k1m2 : Method := { name := "law", desc := "(IIIIII)Z", sig := { parameters := [.int, .int, .int, .int, .int, .int], returnType := some .boolean }, accessFlags := 9, code := some k1c2 }
/-- com/example/minsuite/minsuite/ValuePairsCountPinLaw -/
def k1 : Class := { plain "com/example/minsuite/minsuite/ValuePairsCountPinLaw" (some 0) with
  accessFlags := 49
  interfaces := #[]
  cf := some (fileOf pool1 15 #[] #[{ accessFlags := 1, nameIndex := 5, descriptorIndex := 6, attributes := #[] }, { accessFlags := 10, nameIndex := 18, descriptorIndex := 19, attributes := #[] }, { accessFlags := 9, nameIndex := 28, descriptorIndex := 29, attributes := #[] }] 49 2 #[] #[])
  fields := #[]
  methods := #[k1m0, k1m1, k1m2]
  instanceTypes := #[]
  staticTypes := #[]
  resolved := Array.replicate 35 none
  statics := none }

def pool2 : Array CpInfo := pool [(1, .class_ 2), (0, u "java/lang/Math"), (1, .class_ 6), (1, u "java/lang/Object"), (0, u "<init>"), (0, u "()V"), (89, .class_ 100), (1, u "java/lang/Math$RandomNumberGeneratorHolder"), (71, u "negativeZeroFloatBits"), (0, u "J"), (2, u "negativeZeroDoubleBits"), (21, u "max"), (46, u "$assertionsDisabled"), (0, u "Z"), (88, u "(II)I"), (2, u "twoToTheDoubleScaleDown"), (0, u "D"), (4, u "twoToTheDoubleScaleUp"), (9, u "E"), (3, u "PI"), (2, u "TAU"), (2, u "DEGREES_TO_RADIANS"), (0, u "RADIANS_TO_DEGREES")] 94

def k2m0 : Method := { name := "<init>", desc := "()V", sig := { parameters := [], returnType := none }, accessFlags := 2, code := none }
def k2c1 : Code := { maxStack := 2, maxLocals := 2, code := jdk_29_method_65_code, exceptionTable := #[], attributes := #[] }
def k2m1 : Method := { name := "max", desc := "(II)I", sig := { parameters := [.int, .int], returnType := some .int }, accessFlags := 9, code := some k2c1 }
/-- java/lang/Math -/
def k2 : Class := { plain "java/lang/Math" (some 0) with
  accessFlags := 49
  interfaces := #[]
  cf := some (fileOf pool2 1 #[.nestMembers #[98]] #[{ accessFlags := 2, nameIndex := 7, descriptorIndex := 8, attributes := #[] }, { accessFlags := 9, nameIndex := 198, descriptorIndex := 335, attributes := #[] }] 49 4 #[] #[{ accessFlags := 25, nameIndex := 354, descriptorIndex := 339, attributes := #[] }, { accessFlags := 25, nameIndex := 358, descriptorIndex := 339, attributes := #[] }, { accessFlags := 25, nameIndex := 361, descriptorIndex := 339, attributes := #[] }, { accessFlags := 26, nameIndex := 364, descriptorIndex := 339, attributes := #[] }, { accessFlags := 26, nameIndex := 365, descriptorIndex := 339, attributes := #[] }, { accessFlags := 26, nameIndex := 172, descriptorIndex := 173, attributes := #[] }, { accessFlags := 26, nameIndex := 176, descriptorIndex := 173, attributes := #[] }, { accessFlags := 8, nameIndex := 344, descriptorIndex := 339, attributes := #[] }, { accessFlags := 8, nameIndex := 338, descriptorIndex := 339, attributes := #[] }, { accessFlags := 4120, nameIndex := 245, descriptorIndex := 246, attributes := #[] }])
  fields := #[{ name := "E", type := .double, accessFlags := 25, slot := 0, constantValue := 0 }, { name := "PI", type := .double, accessFlags := 25, slot := 1, constantValue := 0 }, { name := "TAU", type := .double, accessFlags := 25, slot := 2, constantValue := 0 }, { name := "DEGREES_TO_RADIANS", type := .double, accessFlags := 26, slot := 3, constantValue := 0 }, { name := "RADIANS_TO_DEGREES", type := .double, accessFlags := 26, slot := 4, constantValue := 0 }, { name := "negativeZeroFloatBits", type := .long, accessFlags := 26, slot := 5, constantValue := 0 }, { name := "negativeZeroDoubleBits", type := .long, accessFlags := 26, slot := 6, constantValue := 0 }, { name := "twoToTheDoubleScaleUp", type := .double, accessFlags := 8, slot := 7, constantValue := 0 }, { name := "twoToTheDoubleScaleDown", type := .double, accessFlags := 8, slot := 8, constantValue := 0 }, { name := "$assertionsDisabled", type := .boolean, accessFlags := 4120, slot := 9, constantValue := 0 }]
  methods := #[k2m0, k2m1]
  instanceTypes := #[]
  staticTypes := #[.double, .double, .double, .double, .double, .long, .long, .double, .double, .boolean]
  resolved := Array.replicate 460 none
  statics := none }

def pool3 : Array CpInfo := pool [(4, .class_ 6), (1, u "java/lang/Object"), (3, .class_ 12), (1, u "com/example/minsuite/minsuite/ValuePairs"), (0, u "count"), (0, u "([I)J"), (14, u "[I"), (4, u "valueCounts"), (1, u "[[I"), (2, u "start"), (2, u "firstOf"), (2, u "secondOf"), (2, u "startOf"), (2, u "I"), (33, u "MAX_COUNT"), (0, u "J")] 36

def k3c0 : Code := { maxStack := 6, maxLocals := 9, code := prog_43_method_2_code, exceptionTable := #[], attributes := #[] }
def k3m0 : Method := { name := "count", desc := "([I)J", sig := { parameters := [(.array .int)], returnType := some .long }, accessFlags := 8, code := some k3c0 }
/-- com/example/minsuite/minsuite/ValuePairs -/
def k3 : Class := { plain "com/example/minsuite/minsuite/ValuePairs" (some 0) with
  accessFlags := 48
  interfaces := #[]
  cf := some (fileOf pool3 10 #[] #[{ accessFlags := 8, nameIndex := 13, descriptorIndex := 14, attributes := #[] }] 48 4 #[] #[{ accessFlags := 24, nameIndex := 85, descriptorIndex := 86, attributes := #[] }, { accessFlags := 18, nameIndex := 34, descriptorIndex := 29, attributes := #[] }, { accessFlags := 18, nameIndex := 13, descriptorIndex := 51, attributes := #[] }, { accessFlags := 18, nameIndex := 39, descriptorIndex := 36, attributes := #[] }, { accessFlags := 18, nameIndex := 42, descriptorIndex := 29, attributes := #[] }, { accessFlags := 18, nameIndex := 45, descriptorIndex := 29, attributes := #[] }, { accessFlags := 18, nameIndex := 48, descriptorIndex := 29, attributes := #[] }])
  fields := #[{ name := "MAX_COUNT", type := .long, accessFlags := 24, slot := 0, constantValue := 0 }, { name := "valueCounts", type := (.array .int), accessFlags := 18, slot := 0, constantValue := 0 }, { name := "count", type := .int, accessFlags := 18, slot := 1, constantValue := 0 }, { name := "start", type := (.array (.array .int)), accessFlags := 18, slot := 2, constantValue := 0 }, { name := "firstOf", type := (.array .int), accessFlags := 18, slot := 3, constantValue := 0 }, { name := "secondOf", type := (.array .int), accessFlags := 18, slot := 4, constantValue := 0 }, { name := "startOf", type := (.array .int), accessFlags := 18, slot := 5, constantValue := 0 }]
  methods := #[k3m0]
  instanceTypes := #[(.array .int), .int, (.array (.array .int)), (.array .int), (.array .int), (.array .int)]
  staticTypes := #[.long]
  resolved := Array.replicate 123 none
  statics := none }

def pool4 : Array CpInfo := pool [(1, u "java/lang/Cloneable"), (0, .class_ 1), (0, u "java/lang/Object"), (0, .class_ 3)] 3

/-- java/lang/Cloneable -/
def k4 : Class := { plain "java/lang/Cloneable" (some 0) with
  accessFlags := 1537
  interfaces := #[]
  cf := some (fileOf pool4 2 #[] #[] 1537 4 #[] #[])
  fields := #[]
  methods := #[]
  instanceTypes := #[]
  staticTypes := #[]
  resolved := Array.replicate 8 none
  statics := none }

def pool5 : Array CpInfo := pool [(1, u "java/io/Serializable"), (0, .class_ 1), (0, u "java/lang/Object"), (0, .class_ 3)] 3

/-- java/io/Serializable -/
def k5 : Class := { plain "java/io/Serializable" (some 0) with
  accessFlags := 1537
  interfaces := #[]
  cf := some (fileOf pool5 2 #[] #[] 1537 4 #[] #[])
  fields := #[]
  methods := #[]
  instanceTypes := #[]
  staticTypes := #[]
  resolved := Array.replicate 8 none
  statics := none }

/-- the primitive byte -/
def k6 : Class := { plain "byte" none with kind := .primitive 'B', accessFlags := 0x411 }
/-- [B -/
def k7 : Class := { plain "[B" (some 0) with kind := .array 6 .byte, interfaces := #[4, 5], accessFlags := 1041 }

/-- the primitive int -/
def k8 : Class := { plain "int" none with kind := .primitive 'I', accessFlags := 0x411 }
/-- [I -/
def k9 : Class := { plain "[I" (some 0) with kind := .array 8 .int, interfaces := #[4, 5], accessFlags := 1041 }

def heap : Heap := #[]
def classes : Array Class := #[k0, k1, k2, k3, k4, k5, k6, k7, k8, k9]
def interned : List (Array UInt16 × Addr) := []
def slotsUsed : Nat := 0
def theMethod : MethodId := ⟨1, 2⟩
def args0 : Array Value := #[.int 1, .int 2, .int 3, .int 4, .int 5, .int 6]
def aboutOver (below : List Frame) : State where
  vm := { classes := classes, interned := interned.toArray }
  heap := heap
  slotsUsed := slotsUsed
  threads := #[{ frames := .invoking theMethod args0 :: below }]
def below0 : List Frame := [.native { method := ⟨0, 0⟩, args := #[] }]
def about1 : State := aboutOver below0
def p0 : Program := .bare "" "" ""
def e0 : Env := launch0.env 0 0 0
theorem w_frames : about1.frames = Frame.invoking theMethod args0 :: below0 := rfl
set_option maxRecDepth 65536 in
theorem w_args : argsFit about1.vm theMethod args0 = true := by decide +kernel
set_option maxRecDepth 65536 in
theorem w_heap : heapFits about1 = true := by decide +kernel
set_option maxRecDepth 65536 in
theorem w_runnable : about1.curStatus? = some .runnable := by decide +kernel
set_option maxRecDepth 65536 in
theorem w_alone : about1.alone = true := by decide +kernel
set_option maxRecDepth 65536 in
theorem w_named : about1.methodNamed? x = some theMethod := by decide +kernel
set_option maxRecDepth 65536 in
theorem w_hears : about1.hears theMethod below0 = true := by decide +kernel
set_option maxRecDepth 65536 in
theorem w_ripe : about1.ripe theMethod args0 below0 = true := by decide +kernel
theorem w_running : about1.status = .running := rfl
set_option maxRecDepth 65536 in
theorem w_room : about1.hasRoom e0.platform room_1 = true :=
  launch0.hasRoom_least _ room_1 (by decide +kernel) (by decide +kernel) (by decide +kernel) (by decide +kernel) (by decide +kernel) (by decide +kernel)
theorem allAtoms_all (ts : List Jvm.Cond) (a : Array Jvm.Value) (st : Jvm.State) : (allAtoms ts).before a st = ts.all (fun c => c.before a st) := by
  induction ts with
  | nil => rfl
  | cons c t ih =>
    show (Jvm.Cond.and c (allAtoms t)).before a st = _
    rw [Jvm.Cond.before_and, ih, List.all_cons]
def words1 : List Jvm.Cond := Jvm.Cond.code x code maxLocals ret :: tables_1
/-- a 'code' word, met by the world's own term for the bytes: nothing is compared byte by byte -/
theorem code_word {y : MethodName} {bytes : ByteArray} {mx : Nat} {rt : Option FieldType} {a : Array Value} {s : State} {m : MethodId} {meth : Method} {c : Code} (h1 : s.methodNamed? y = some m) (h2 : s.vm.method? m = some meth) (h3 : meth.code = some c) (h4 : c.code = bytes)
    (h5 : (c.maxLocals == mx && c.exceptionTable.isEmpty && decide (c.maxStack ≤ mostOperands) && decide (meth.sig.returnType = rt) && !meth.locks && decide (parseMethodDescriptor y.desc = some meth.sig)) = true) : (Jvm.Cond.code y bytes mx rt).before a s = true := by
  simp only [Bool.and_eq_true, beq_iff_eq, Bool.not_eq_true', decide_eq_true_eq] at h5
  obtain ⟨⟨⟨⟨⟨g1, g2⟩, g3⟩, g4⟩, g5⟩, g6⟩ := h5
  simp [Cond.before, Cond.holds, Cond.value, h1, h2, h3, h4, g1, g2, g3, g4, g5, g6]
def isCode : Jvm.Cond → Bool
  | .code _ _ _ _ => true
  | _ => false
theorem all_split {L : List Jvm.Cond} {P : Jvm.Cond → Bool} (h1 : L.all (fun c => isCode c || P c) = true) (h2 : ∀ c ∈ L.filter isCode, P c = true) : L.all P = true := by
  refine List.all_eq_true.mpr fun c hc => ?_
  have h := List.all_eq_true.mp h1 c hc
  rcases Bool.eq_false_or_eq_true (isCode c) with hi | hi
  · exact h2 c (List.mem_filter.mpr ⟨hc, hi⟩)
  · simpa [hi] using h
set_option maxRecDepth 65536 in
theorem w_c0 : (Jvm.Cond.code x code maxLocals ret).before args0 about1 = true := code_word (m := ⟨1, 2⟩) (meth := k1m2) (c := k1c2) (by decide +kernel) rfl rfl rfl (by decide +kernel)
set_option maxRecDepth 65536 in
theorem w_c1 : (Jvm.Cond.code ({ cls := "com/example/minsuite/minsuite/ValuePairsCountPinLaw", name := "positive", desc := "(I)I" } : Jvm.MethodName) method_2_code (1 : Nat) (Option.some Jvm.ClassFile.FieldType.int)).before args0 about1 = true := code_word (m := ⟨1, 1⟩) (meth := k1m1) (c := k1c1) (by decide +kernel) rfl rfl rfl (by decide +kernel)
set_option maxRecDepth 65536 in
theorem w_c2 : (Jvm.Cond.code ({ cls := "java/lang/Math", name := "max", desc := "(II)I" } : Jvm.MethodName) jdk_29_method_65_code (2 : Nat) (Option.some Jvm.ClassFile.FieldType.int)).before args0 about1 = true := code_word (m := ⟨2, 1⟩) (meth := k2m1) (c := k2c1) (by decide +kernel) rfl rfl rfl (by decide +kernel)
set_option maxRecDepth 65536 in
theorem w_c3 : (Jvm.Cond.code ({ cls := "com/example/minsuite/minsuite/ValuePairs", name := "count", desc := "([I)J" } : Jvm.MethodName) prog_43_method_2_code (9 : Nat) (Option.some Jvm.ClassFile.FieldType.long)).before args0 about1 = true := code_word (m := ⟨3, 0⟩) (meth := k3m0) (c := k3c0) (by decide +kernel) rfl rfl rfl (by decide +kernel)
def codes1 : List Jvm.Cond := [Jvm.Cond.code x code maxLocals ret, Jvm.Cond.code ({ cls := "com/example/minsuite/minsuite/ValuePairsCountPinLaw", name := "positive", desc := "(I)I" } : Jvm.MethodName) method_2_code (1 : Nat) (Option.some Jvm.ClassFile.FieldType.int), Jvm.Cond.code ({ cls := "java/lang/Math", name := "max", desc := "(II)I" } : Jvm.MethodName) jdk_29_method_65_code (2 : Nat) (Option.some Jvm.ClassFile.FieldType.int), Jvm.Cond.code ({ cls := "com/example/minsuite/minsuite/ValuePairs", name := "count", desc := "([I)J" } : Jvm.MethodName) prog_43_method_2_code (9 : Nat) (Option.some Jvm.ClassFile.FieldType.long)]
set_option maxRecDepth 65536 in
theorem codes_eq : words1.filter isCode = codes1 := rfl
theorem w_codes : ∀ c ∈ words1.filter isCode, c.before args0 about1 = true := by
  rw [codes_eq]
  intro c hc
  simp only [codes1, List.mem_cons, List.not_mem_nil, or_false] at hc
  rcases hc with rfl | rfl | rfl | rfl
  · exact w_c0
  · exact w_c1
  · exact w_c2
  · exact w_c3
set_option maxRecDepth 65536 in
theorem w_t1 : words1.all (fun c => isCode c || c.before args0 about1) = true := by decide +kernel
theorem w_tables : (allAtoms (Jvm.Cond.code x code maxLocals ret :: tables_1)).before args0 about1 = true := by
  rw [allAtoms_all]
  show words1.all (fun c => c.before args0 about1) = true
  refine all_split ?_ w_codes
  rw [w_t1]
set_option maxRecDepth 65536 in
theorem w_case : (Jvm.Cond.and given_1 narrow_1).before args0 about1 = true := by decide +kernel
theorem w_applies : (headSpec (Jvm.Cond.code x code maxLocals ret :: tables_1) room_1).applies x e0.platform about1 = true :=
  (Spec.applies_iff w_frames).mpr ⟨w_running, w_runnable, w_alone, w_named, w_hears, w_ripe, w_room, w_tables⟩
theorem atStart : AtStart classFile x code maxLocals ret World_1 tables_1 room_1 Calls_1 rest_1 Pre_1 launch0 p0 e0 about1 theMethod args0 below0 :=
  ⟨lists_1, trivial, launch0.admits_env _ _ _, launch0.least_env, fairChoices_fair.cas, fairChoices_fair.clock, w_frames, w_args, w_heap, w_applies, trivial, trivial, w_case⟩
end start1
theorem witness_1 : WitnessClaimed_1 := ⟨start1.p0, start1.e0, start1.about1, start1.theMethod, start1.args0, start1.below0, start1.atStart⟩
end Jvm.Pilot.@@N@@
