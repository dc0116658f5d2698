import JvmDerived
import JvmDerived.Pilot.@@N@@Statement
import JvmDerived.Pilot.@@N@@Code
set_option linter.unusedVariables false
set_option linter.unusedSimpArgs false
namespace Jvm.RoadKit
open Sem ClassFile Op Lib Jvm.Stand Jvm.Free Jvm.LawKit
section New
variable {p : Program} {l : Launch} {e : Env} {R : Room} {s : State} {m : MethodId} {args : Array Value} {below : List Frame} {meth : Method} {c : Code} {T : State} {locs : List Loc} {cells slots : Nat}
theorem retI (X : Stand p l e R s m args below meth c T locs cells slots) (hx : p.tables.exec = Jvm.exec) {pc : Nat} {Ls : Array Slot} {z : Int32} {rest : List Value} (hret : meth.sig.returnType = some .int) (hd : decode c.code pc = .ok (.ireturn, 1)) {fs : List Frame}
    (hl : ∀ (f : JFrame) (acts : List Action), f.method = m → f.locked = none → f.entered = [] → (doReturn e (T.setTop f) acts (some (.int z))).1 = T.setFrames fs) : Steps p.tables e below (T.setTop (mkF m pc Ls (.int z :: rest))) (T.setFrames fs) :=
  retOut X hx hret rfl (Or.inl ⟨rfl, Or.inl rfl, z, rfl⟩) hd hl
theorem retJ (X : Stand p l e R s m args below meth c T locs cells slots) (hx : p.tables.exec = Jvm.exec) {pc : Nat} {Ls : Array Slot} {z : Int64} {rest : List Value} (hret : meth.sig.returnType = some .long) (hd : decode c.code pc = .ok (.lreturn, 1)) {fs : List Frame}
    (hl : ∀ (f : JFrame) (acts : List Action), f.method = m → f.locked = none → f.entered = [] → (doReturn e (T.setTop f) acts (some (.long z))).1 = T.setFrames fs) : Steps p.tables e below (T.setTop (mkF m pc Ls (.long z :: rest))) (T.setFrames fs) :=
  retOut X hx hret rfl (Or.inr (Or.inl ⟨rfl, rfl, z, rfl⟩)) hd hl
theorem retA (X : Stand p l e R s m args below meth c T locs cells slots) (hx : p.tables.exec = Jvm.exec) {pc : Nat} {Ls : Array Slot} {w : Value} {t : FieldType} {rest : List Value} (hret : meth.sig.returnType = some t) (hd : decode c.code pc = .ok (.areturn, 1)) {fs : List Frame}
    (hl : ∀ (f : JFrame) (acts : List Action), f.method = m → f.locked = none → f.entered = [] → (doReturn e (T.setTop f) acts (some w)).1 = T.setFrames fs) (ht : t.isReference = true) (hw : w.isRef = true) : Steps p.tables e below (T.setTop (mkF m pc Ls (w :: rest))) (T.setFrames fs) :=
  retOut X hx hret (by cases t <;> first | rfl | (cases ht; done)) (Or.inr (Or.inr (Or.inr (Or.inr ⟨rfl, ht, hw⟩)))) hd hl
/-- from the state S on, the body runs to its end and leaves what Q says -/
def Gz (p : Program) (e : Env) (below : List Frame) (s : State) (C N : Nat) (Q : Option Value → Heap → List Loc → Prop) (S : State) : Prop :=
  ∃ s₂ o, Steps p.tables e below S s₂ ∧ s₂.status = .running ∧ Ended s₂ below o ∧ ∃ v L, o = .returned v ∧ Q v s₂.heap L ∧ FrameEnd s o s₂ L C N
variable {C N : Nat} {Q : Option Value → Heap → List Loc → Prop} {S S' : State}
theorem Gz.st (k : ∀ t, Steps p.tables e below S' t → Steps p.tables e below S t) (h : Gz p e below s C N Q S') : Gz p e below s C N Q S := by
  obtain ⟨s₂, o, h1, h2⟩ := h
  exact ⟨s₂, o, k _ h1, h2⟩
theorem Gz.tr (k : Steps p.tables e below S S') (h : Gz p e below s C N Q S') : Gz p e below s C N Q S := by
  obtain ⟨s₂, o, h1, h2⟩ := h
  exact ⟨s₂, o, k.trans h1, h2⟩
variable {pc : Nat} {Ls : Array Slot} {st : List Value} {Z : State} {a0 : Array Value} {hh : Heap}
theorem Gz.iloadN (n : Nat) {k : Fin 4} {v : Int32} (X : Stand p l e R s m args below meth c T locs cells slots) (hx : p.tables.exec = Jvm.exec) (hd : decode c.code pc = .ok (.iload_n k, 1)) (hl : Ls[k.val]? = some (.val (.int v))) (q : pc + 1 = n) (h : Gz p e below s C N Q (T.setTop (mkF m n Ls (.int v :: st)))) : Gz p e below s C N Q (T.setTop (mkF m pc Ls st)) := by subst q; exact Gz.st (fun t k => XS.iloadN X.here hx rfl hd hl k) h
theorem Gz.iload (n : Nat) {k : Nat} {v : Int32} (X : Stand p l e R s m args below meth c T locs cells slots) (hx : p.tables.exec = Jvm.exec) (hd : decode c.code pc = .ok (.iload k, 2)) (hl : Ls[k]? = some (.val (.int v))) (q : pc + 2 = n) (h : Gz p e below s C N Q (T.setTop (mkF m n Ls (.int v :: st)))) : Gz p e below s C N Q (T.setTop (mkF m pc Ls st)) := by subst q; exact Gz.st (fun t k => XS.iload X.here hx rfl hd hl k) h
theorem Gz.istore (n : Nat) (l' : Array Slot) {k : Nat} {v : Int32} (X : Stand p l e R s m args below meth c T locs cells slots) (hx : p.tables.exec = Jvm.exec) (hd : decode c.code pc = .ok (.istore k, 2)) (hl : storeLocals Ls k (.int v) = some l') (q : pc + 2 = n) (h : Gz p e below s C N Q (T.setTop (mkF m n l' st))) : Gz p e below s C N Q (T.setTop (mkF m pc Ls (.int v :: st))) := by subst q; exact Gz.st (fun t k => XS.istore X.here hx rfl hd rfl hl k) h
theorem Gz.aloadN (n : Nat) {k : Fin 4} {v : Value} (X : Stand p l e R s m args below meth c T locs cells slots) (hx : p.tables.exec = Jvm.exec) (hd : decode c.code pc = .ok (.aload_n k, 1)) (hl : Ls[k.val]? = some (.val v)) (hv : v.isRef = true) (q : pc + 1 = n) (h : Gz p e below s C N Q (T.setTop (mkF m n Ls (v :: st)))) : Gz p e below s C N Q (T.setTop (mkF m pc Ls st)) := by subst q; exact Gz.st (fun t k => XS.aloadN X.here hx rfl hd hl hv k) h
theorem Gz.aload (n : Nat) {k : Nat} {v : Value} (X : Stand p l e R s m args below meth c T locs cells slots) (hx : p.tables.exec = Jvm.exec) (hd : decode c.code pc = .ok (.aload k, 2)) (hl : Ls[k]? = some (.val v)) (hv : v.isRef = true) (q : pc + 2 = n) (h : Gz p e below s C N Q (T.setTop (mkF m n Ls (v :: st)))) : Gz p e below s C N Q (T.setTop (mkF m pc Ls st)) := by subst q; exact Gz.st (fun t k => XS.aload X.here hx rfl hd hl hv k) h
theorem Gz.astore (n : Nat) (l' : Array Slot) {k : Nat} {v : Value} (X : Stand p l e R s m args below meth c T locs cells slots) (hx : p.tables.exec = Jvm.exec) (hd : decode c.code pc = .ok (.astore k, 2)) (hl : storeLocals Ls k v = some l') (hv : v.isRef = true) (q : pc + 2 = n) (h : Gz p e below s C N Q (T.setTop (mkF m n l' st))) : Gz p e below s C N Q (T.setTop (mkF m pc Ls (v :: st))) := by subst q; exact Gz.st (fun t k => XS.astore X.here hx rfl hd rfl hv hl k) h
theorem Gz.iconst (n : Nat) (v : Int32) (X : Stand p l e R s m args below meth c T locs cells slots) (hx : p.tables.exec = Jvm.exec) {i : Int} (hd : decode c.code pc = .ok (.iconst i, 1)) (hv : Int32.ofInt i = v) (q : pc + 1 = n) (h : Gz p e below s C N Q (T.setTop (mkF m n Ls (.int v :: st)))) : Gz p e below s C N Q (T.setTop (mkF m pc Ls st)) := by subst q hv; exact Gz.st (fun t k => XS.iconst X.here hx rfl hd k) h
theorem Gz.bipush (n : Nat) (v : Int32) (X : Stand p l e R s m args below meth c T locs cells slots) (hx : p.tables.exec = Jvm.exec) {i : Int} (hd : decode c.code pc = .ok (.bipush i, 2)) (hv : (Int8.ofInt i).toInt32 = v) (q : pc + 2 = n) (h : Gz p e below s C N Q (T.setTop (mkF m n Ls (.int v :: st)))) : Gz p e below s C N Q (T.setTop (mkF m pc Ls st)) := by subst q hv; exact Gz.st (fun t k => XS.bipush X.here hx rfl hd k) h
theorem Gz.imul (n : Nat) {x y : Int32} (X : Stand p l e R s m args below meth c T locs cells slots) (hx : p.tables.exec = Jvm.exec) (hd : decode c.code pc = .ok (.imul, 1))  (q : pc + 1 = n) (h : Gz p e below s C N Q (T.setTop (mkF m n Ls (.int (x * y) :: st)))) : Gz p e below s C N Q (T.setTop (mkF m pc Ls (.int y :: .int x :: st))) := by subst q; exact Gz.st (fun t k => XS.imul X.here hx rfl hd rfl k) h
theorem Gz.iand (n : Nat) {x y : Int32} (X : Stand p l e R s m args below meth c T locs cells slots) (hx : p.tables.exec = Jvm.exec) (hd : decode c.code pc = .ok (.iand, 1))  (q : pc + 1 = n) (h : Gz p e below s C N Q (T.setTop (mkF m n Ls (.int (x &&& y) :: st)))) : Gz p e below s C N Q (T.setTop (mkF m pc Ls (.int y :: .int x :: st))) := by subst q; exact Gz.st (fun t k => XS.iand X.here hx rfl hd rfl k) h
theorem Gz.ishr (n : Nat) {x : Int32} {y : Int32} (X : Stand p l e R s m args below meth c T locs cells slots) (hx : p.tables.exec = Jvm.exec) (hd : decode c.code pc = .ok (.ishr, 1))  (q : pc + 1 = n) (h : Gz p e below s C N Q (T.setTop (mkF m n Ls (.int (x >>> (y &&& 31)) :: st)))) : Gz p e below s C N Q (T.setTop (mkF m pc Ls (.int y :: .int x :: st))) := by subst q; exact Gz.st (fun t k => XS.ishr X.here hx rfl hd rfl k) h
theorem Gz.i2b (n : Nat) {x : Int32} (X : Stand p l e R s m args below meth c T locs cells slots) (hx : p.tables.exec = Jvm.exec) (hd : decode c.code pc = .ok (.i2b, 1))  (q : pc + 1 = n) (h : Gz p e below s C N Q (T.setTop (mkF m n Ls (.int (x.toInt8.toInt32) :: st)))) : Gz p e below s C N Q (T.setTop (mkF m pc Ls (.int x :: st))) := by subst q; exact Gz.st (fun t k => XS.i2b X.here hx rfl hd rfl k) h
theorem Gz.irem (n : Nat) {x y : Int32} (X : Stand p l e R s m args below meth c T locs cells slots) (hx : p.tables.exec = Jvm.exec) (hd : decode c.code pc = .ok (.irem, 1)) (hy : y ≠ 0) (q : pc + 1 = n) (h : Gz p e below s C N Q (T.setTop (mkF m n Ls (.int (x % y) :: st)))) : Gz p e below s C N Q (T.setTop (mkF m pc Ls (.int y :: .int x :: st))) := by subst q; exact Gz.st (fun t k => iremM X hx rfl hd rfl hy k) h
theorem Gz.iinc (n : Nat) (l' : Array Slot) (X : Stand p l e R s m args below meth c T locs cells slots) (hx : p.tables.exec = Jvm.exec) {k : Nat} {i : Int} {x : Int32} (hd : decode c.code pc = .ok (.iinc k i, 3)) (hl : Ls[k]? = some (.val (.int x))) (hl' : storeLocals Ls k (.int (x + Int32.ofInt i)) = some l') (q : pc + 3 = n) (h : Gz p e below s C N Q (T.setTop (mkF m n l' st))) : Gz p e below s C N Q (T.setTop (mkF m pc Ls st)) := by subst q; exact Gz.st (fun t k => XS.iinc X.here hx rfl hd hl hl' k) h
theorem Gz.goto (n : Nat) (X : Stand p l e R s m args below meth c T locs cells slots) (hx : p.tables.exec = Jvm.exec) {o : Int} (hd : decode c.code pc = .ok (.goto o, 3)) (ho : 0 ≤ (pc : Int) + o) (q : ((pc : Int) + o).toNat = n) (h : Gz p e below s C N Q (T.setTop (mkF m n Ls st))) : Gz p e below s C N Q (T.setTop (mkF m pc Ls st)) := Gz.st (fun t k => XS.goto X.here hx rfl (pc0 := pc) (pc' := n) rfl hd ho q k) h
theorem Gz.ifYes (n : Nat) (X : Stand p l e R s m args below meth c T locs cells slots) (hx : p.tables.exec = Jvm.exec) {cd : ClassFile.Cond} {x : Int32} {o : Int} (hd : decode c.code pc = .ok (.ifCond cd o, 3)) (hc : ifCond.holds cd x = true) (ho : 0 ≤ (pc : Int) + o) (q : ((pc : Int) + o).toNat = n) (h : Gz p e below s C N Q (T.setTop (mkF m n Ls st))) : Gz p e below s C N Q (T.setTop (mkF m pc Ls (.int x :: st))) := Gz.st (fun t k => XS.ifYes X.here hx rfl (pc0 := pc) (pc' := n) rfl hd rfl hc ho q k) h
theorem Gz.ifNo (n : Nat) (X : Stand p l e R s m args below meth c T locs cells slots) (hx : p.tables.exec = Jvm.exec) {cd : ClassFile.Cond} {x : Int32} {o : Int} (hd : decode c.code pc = .ok (.ifCond cd o, 3)) (hc : ifCond.holds cd x = false) (q : pc + 3 = n) (h : Gz p e below s C N Q (T.setTop (mkF m n Ls st))) : Gz p e below s C N Q (T.setTop (mkF m pc Ls (.int x :: st))) := by subst q; exact Gz.st (fun t k => XS.ifNo X.here hx rfl hd rfl hc k) h
theorem Gz.icmpYes (n : Nat) (X : Stand p l e R s m args below meth c T locs cells slots) (hx : p.tables.exec = Jvm.exec) {cd : ClassFile.Cond} {x y : Int32} {o : Int} (hd : decode c.code pc = .ok (.if_icmp cd o, 3)) (hc : if_icmp.holds cd x y = true) (ho : 0 ≤ (pc : Int) + o) (q : ((pc : Int) + o).toNat = n) (h : Gz p e below s C N Q (T.setTop (mkF m n Ls st))) : Gz p e below s C N Q (T.setTop (mkF m pc Ls (.int y :: .int x :: st))) := Gz.st (fun t k => XS.icmpYes X.here hx rfl (pc0 := pc) (pc' := n) rfl hd rfl hc ho q k) h
theorem Gz.icmpNo (n : Nat) (X : Stand p l e R s m args below meth c T locs cells slots) (hx : p.tables.exec = Jvm.exec) {cd : ClassFile.Cond} {x y : Int32} {o : Int} (hd : decode c.code pc = .ok (.if_icmp cd o, 3)) (hc : if_icmp.holds cd x y = false) (q : pc + 3 = n) (h : Gz p e below s C N Q (T.setTop (mkF m n Ls st))) : Gz p e below s C N Q (T.setTop (mkF m pc Ls (.int y :: .int x :: st))) := by subst q; exact Gz.st (fun t k => XS.icmpNo X.here hx rfl hd rfl hc k) h
theorem Gz.acmp (n : Nat) (same : Bool) (X : Stand p l e R s m args below meth c T locs cells slots) (hx : p.tables.exec = Jvm.exec) {cd : ACond} {x y : Value} {o : Int} (hd : decode c.code pc = .ok (.if_acmp cd o, 3)) (h1 : x.isRef = true) (h2 : y.isRef = true) (hq : decide (x = y) = same) (ho : 0 ≤ (pc : Int) + o) (q : n = if acV cd same = true then ((pc : Int) + o).toNat else pc + 3) (h : Gz p e below s C N Q (T.setTop (mkF m n Ls st))) : Gz p e below s C N Q (T.setTop (mkF m pc Ls (y :: x :: st))) := Gz.st (fun t k => Jvm.RoadKit.acmp X hx rfl h1 h2 (pc0 := pc) (pc' := n) rfl hd rfl hq ho q k) h
theorem Gz.ldcI (n : Nat) (X : Stand p l e R s m args below meth c T locs cells slots) (hx : p.tables.exec = Jvm.exec) {own : String} {ix : Nat} {v : Int32} (hd : decode c.code pc = .ok (.ldc ix, 2)) (hown : s.vm.findClass own = some m.cls) (w : (Cond.constant own ix v).before args s = true) (q : pc + 2 = n) (h : Gz p e below s C N Q (T.setTop (mkF m n Ls (.int v :: st)))) : Gz p e below s C N Q (T.setTop (mkF m pc Ls st)) := by subst q; exact Gz.st (X.ldcInt hx hown w (g := mkF m pc Ls st) rfl hd) h
theorem Gz.getS (n : Nat) (X : Stand p l e R s m args below meth c T locs cells slots) (hx : p.tables.exec = Jvm.exec) (hZ : Z.Warmed39 s.vm) {own : String} (hown : s.vm.findClass own = some m.cls) {R0 O nm d host : String} {ix : Nat} (hd : decode c.code pc = .ok (.getstatic ix, 3)) (w : (Cond.fieldLink own ix R0 nm d).before a0 Z = true ∨ (Cond.fieldLinkNest own ix R0 nm d host).before a0 Z = true) (via : Via Z R0 O nm d) (eT : T.heap = hh) {v : Value} (F : Sta Z hh O nm d v) (q : pc + 3 = n) (h : ∀ T', Stand p l e R s m args below meth c T' (locs) (cells) (slots) → T'.heap = hh → Gz p e below s C N Q (T'.setTop (mkF m n Ls (v :: st)))) : Gz p e below s C N Q (T.setTop (mkF m pc Ls st)) := by
  subst q
  obtain ⟨T', X', e', st'⟩ := getS2 X hx hZ hown w via eT F (g := mkF m pc Ls st) rfl hd
  exact Gz.st st' (h T' X' e')
theorem Gz.stB (n : Nat) (X : Stand p l e R s m args below meth c T locs cells slots) (hx : p.tables.exec = Jvm.exec) (hZ : Z.Warmed39 s.vm) {a : Addr} {cl : Cell} {j : Int32} {x : Int32} (hd : decode c.code pc = .ok (.bastore, 1)) (eT : T.heap = hh) (A : Arr Z hh a cl .byte) (hj : ¬ (j < 0 ∨ cl.slots.size ≤ j.toNatClampNeg)) (q : pc + 1 = n) (h : ∀ T' h', Stand p l e R s m args below meth c T' (locs ++ [⟨a, j.toNatClampNeg⟩]) (cells) (slots) → T'.heap = h' → Wr hh h' a j.toNatClampNeg (.int (nar .byte x)) → Gz p e below s C N Q (T'.setTop (mkF m n Ls st))) : Gz p e below s C N Q (T.setTop (mkF m pc Ls (.int x :: .int j :: .ref a :: st))) := by
  subst q
  obtain ⟨T', h', X', e', W, st'⟩ := Jvm.RoadKit.stB X hx hZ eT A (j := j) hj (g := mkF m pc Ls (.int x :: .int j :: .ref a :: st)) rfl rfl hd
  exact Gz.st st' (h T' h' X' e' W)
theorem Gz.ldB (n : Nat) (X : Stand p l e R s m args below meth c T locs cells slots) (hx : p.tables.exec = Jvm.exec) (hZ : Z.Warmed39 s.vm) {a : Addr} {cl : Cell} {j : Int32} {v : Value} (hd : decode c.code pc = .ok (.baload, 1)) (eT : T.heap = hh) (A : Arr Z hh a cl .byte) (hj : ¬ (j < 0 ∨ cl.slots.size ≤ j.toNatClampNeg)) (hv : cl.slots[j.toNatClampNeg]? = some v) (q : pc + 1 = n) (h : Gz p e below s C N Q (T.setTop (mkF m n Ls (v :: st)))) : Gz p e below s C N Q (T.setTop (mkF m pc Ls (.int j :: .ref a :: st))) := by
  subst q
  exact Gz.st (X.baloadBytes hx (j := j) (v := v) (by rw [eT]; exact A.1) (State.isArrayOf_alike hZ.alike A.2.1) A.2.2 hj hv (g := mkF m pc Ls (.int j :: .ref a :: st)) rfl rfl hd) h
theorem Gz.enter {g g' : JFrame} (q : g = g') (h : Gz p e below s C N Q (T.setTop g')) : Gz p e below s C N Q (T.setTop g) := q ▸ h
theorem Gz.fin (X : Stand p l e R s m args below meth c T locs cells slots) {v : Option Value} (hv : meth.sig.returnType = none → v = none) (hlocks : meth.locks = false) (hc : cells ≤ C) (hn : slots ≤ N)
    (hst : ∀ fs, (∀ (f : JFrame) (acts : List Action), f.method = m → f.locked = none → f.entered = [] → (doReturn e (T.setTop f) acts v).1 = T.setFrames fs) → Steps p.tables e below S (T.setFrames fs)) (hq : Q v T.heap locs) : Gz p e below s C N Q S := by
  obtain ⟨fs, hr, hrun, hended, hW, hsame⟩ := X.leave hv hlocks
  exact ⟨_, _, hst fs hr, hrun, hended, _, _, rfl, hq, ⟨_, rfl⟩, hW, hsame.mono hc hn⟩
theorem retNV (X : Stand p l e R s m args below meth c T locs cells slots) (hx : p.tables.exec = Jvm.exec) {pc : Nat} {Ls : Array Slot} {z w : Int32} {t : FieldType} {rest : List Value} (hret : meth.sig.returnType = some t) (ht : t = .boolean ∨ t = .byte ∨ t = .char ∨ t = .short)
    (hd : decode c.code pc = .ok (.ireturn, 1)) {fs : List Frame} (hl : ∀ (f : JFrame) (acts : List Action), f.method = m → f.locked = none → f.entered = [] → (doReturn e (T.setTop f) acts (some (.int w))).1 = T.setFrames fs) (hw : nar t z = w) :
    Steps p.tables e below (T.setTop (mkF m pc Ls (.int z :: rest))) (T.setFrames fs) := by subst hw; exact retN X hx hret ht hd hl
theorem own_nb (x : Int32) : nar .byte (x.toInt8.toInt32) = x.toInt8.toInt32 := by show (x.toInt8.toInt32).toInt8.toInt32 = _; simp
theorem lt_irr (x : Int32) : ¬ x < x := Int32.lt_irrefl
theorem own_fldI {a0 : Array Value} {Z : State} {t : Term} {a : Addr} {C n d : String} {k : Int32} (ev : t.eval a0 Z none [] Z = some (.ref a)) (h : (Cond.eq (.field t C n d) (.int k)).value a0 Z none Z [] = some true) : Fld Z Z.heap a C n d (.int k) := by
  obtain ⟨x, y, e1, e2, k1, k2⟩ := cmp_v (Or.inl h)
  cases Option.some.inj (e2.symm.trans (Term.int_eval k))
  obtain ⟨z, rfl⟩ := k2
  have q := gotT (Cond.eq_ints e1 (Term.int_eval k)) h
  subst q
  rw [fld_at ev] at e1
  exact Fld.start e1
theorem own_len {a0 : Array Value} {Z : State} {t : Term} {a : Addr} {cl : Cell} {ty : FieldType} {z : Int32} (ev : t.eval a0 Z none [] Z = some (.ref a)) (A : Arr Z Z.heap a cl ty) (h : (Cond.eq (.length t) (.int z)).value a0 Z none Z [] = some true) : cl.slots.size < 2 ^ 31 ∧ cl.slots.size.toInt32 = z := by
  obtain ⟨x, y, e1, e2, k1, k2⟩ := cmp_v (Or.inl h)
  obtain ⟨b, cell, f1, f2, f3, f4⟩ := Jvm.Lib.length_spec e1
  cases Option.some.inj (ev.symm.trans f1)
  cases f2.symm.trans (Arr.fin (U := Z) (Vm.Alike.refl _) A)
  subst f4
  exact ⟨f3, gotT (Cond.eq_ints e1 (Term.int_eval z)) h⟩
theorem own_el {a0 : Array Value} {Z : State} {t : Term} {a : Addr} {cl : Cell} {ty : FieldType} {j v : Int32} (ev : t.eval a0 Z none [] Z = some (.ref a)) (A : Arr Z Z.heap a cl ty) (h : (Cond.eq (.elem t (.int j)) (.int v)).value a0 Z none Z [] = some true) : cl.slots[j.toNatClampNeg]? = some (.int v) := by
  obtain ⟨x, y, e1, e2, k1, k2⟩ := cmp_v (Or.inl h)
  cases Option.some.inj (e2.symm.trans (Term.int_eval v))
  obtain ⟨z, rfl⟩ := k2
  have q := gotT (Cond.eq_ints e1 (Term.int_eval v)) h
  subst q
  exact (elem_in e1 ev (Term.int_eval j) A.1).2
end New
end Jvm.RoadKit
namespace Jvm.Pilot.@@N@@
open Jvm Jvm.ClassFile Sem Op Lib Jvm.Free Jvm.Stand Jvm.LawKit Jvm.RoadKit Bundle Jvm.Pilot.@@N@@.Jvm.D
theorem ww {av : Array Value} {Z : State} (hw : ∀ d ∈ tables_1, d.before av Z = true) (i : Nat) {d : Jvm.Cond} (h : tables_1[i]? = some d) : d.before av Z = true := hw _ (List.mem_of_getElem? h)
theorem own_nat (z : Int32) (n : Nat) (hn : n ≤ 2147483648) (h0 : 0 ≤ z.toInt) (h1 : z.toInt < n) : ∃ k : Nat, k < n ∧ z = Int32.ofNat k := by
  refine ⟨z.toInt.toNat, by omega, ?_⟩
  apply Int32.toInt_inj.mp
  rw [Int32.toInt_ofNat_of_lt (by omega)]
  omega
theorem own_i2c (z : Int32) (h0 : 0 ≤ z.toInt) (h1 : z.toInt < 65536) : z.toUInt32.toUInt16.toUInt32.toInt32 = z := by
  apply Int32.toInt_inj.mp
  have := c_i2c z
  omega
theorem own_asym32 {x y : Int32} (h : y < x) : ¬ x < y := fun q => by rw [Int32.lt_iff_toInt_lt] at *; omega
theorem own_asym64 {x y : Int64} (h : y < x) : ¬ x < y := fun q => by rw [Int64.lt_iff_toInt_lt] at *; omega
theorem own_irr32 {x y : Int32} (h : x = y) : ¬ x < y := fun q => by rw [Int32.lt_iff_toInt_lt] at *; subst h; omega
theorem own_irr64 {x y : Int64} (h : x = y) : ¬ x < y := fun q => by rw [Int64.lt_iff_toInt_lt] at *; subst h; omega
theorem own_tri32 {x y : Int32} (h : ¬ y < x) (g : ¬ x = y) : x < y := by
  rw [← Int32.toInt_inj] at g; rw [Int32.lt_iff_toInt_lt] at *; omega
theorem own_tri64 {x y : Int64} (h : ¬ y < x) (g : ¬ x = y) : x < y := by
  rw [← Int64.toInt_inj] at g; rw [Int64.lt_iff_toInt_lt] at *; omega
theorem own_nlt32 {x y : Int32} (h : x < y) : ¬ x = y := fun q => own_irr32 q h
theorem own_nlt64 {x y : Int64} (h : x < y) : ¬ x = y := fun q => own_irr64 q h
theorem own_ngt32 {x y : Int32} (h : y < x) : ¬ x = y := fun q => own_irr32 q.symm h
theorem own_ngt64 {x y : Int64} (h : y < x) : ¬ x = y := fun q => own_irr64 q.symm h
theorem own_both32 {x y : Int32} (h : ¬ x < y) (g : ¬ y < x) : x = y := by
  rw [← Int32.toInt_inj]; rw [Int32.lt_iff_toInt_lt] at *; omega
theorem own_both64 {x y : Int64} (h : ¬ x < y) (g : ¬ y < x) : x = y := by
  rw [← Int64.toInt_inj]; rw [Int64.lt_iff_toInt_lt] at *; omega
theorem own_rem (z d : Int32) (hd : d ≠ 0) (h0 : 0 ≤ z.toInt) (n : Nat) (hn : d.toInt = n) (hn2 : n ≤ 2147483648) : ∃ k : Nat, k < n ∧ z % d = Int32.ofNat k := by
  have hr := c_irem z d n hn
  have hn0 : n ≠ 0 := fun q => hd (Int32.toInt_inj.mp (by rw [hn, q]; rfl))
  have h1 := hr.1 h0
  have h2 : 0 ≤ z.toInt % (n : Int) := Int.emod_nonneg _ (by omega)
  have h3 : z.toInt % (n : Int) < n := Int.emod_lt_of_pos _ (by omega)
  exact own_nat _ n hn2 (by omega) (by omega)
theorem own_ALt32 {e j k : Int32} (h : e < j) (q : j.toInt ≤ k.toInt) : e < k := by
  rw [Int32.lt_iff_toInt_lt] at *; omega
theorem own_AGf32 {e j k : Int32} (h : e < j) (q : j.toInt ≤ k.toInt + 1) : ¬ k < e := by
  rw [Int32.lt_iff_toInt_lt] at *; omega
theorem own_AEf32 {e j k : Int32} (h : e < j) (q : j.toInt ≤ k.toInt) : ¬ e = k := by
  intro z; subst z; rw [Int32.lt_iff_toInt_lt] at h; omega
theorem own_BLf32 {e j k : Int32} (h : ¬ e < j) (q : k.toInt ≤ j.toInt) : ¬ e < k := by
  rw [Int32.lt_iff_toInt_lt] at *; omega
theorem own_BGt32 {e j k : Int32} (h : ¬ e < j) (q : k.toInt < j.toInt) : k < e := by
  rw [Int32.lt_iff_toInt_lt] at *; omega
theorem own_BEf32 {e j k : Int32} (h : ¬ e < j) (q : k.toInt < j.toInt) : ¬ e = k := by
  intro z; subst z; rw [Int32.lt_iff_toInt_lt] at h; omega
theorem own_CLf32 {e j k : Int32} (h : j < e) (q : k.toInt ≤ j.toInt + 1) : ¬ e < k := by
  rw [Int32.lt_iff_toInt_lt] at *; omega
theorem own_CGt32 {e j k : Int32} (h : j < e) (q : k.toInt ≤ j.toInt) : k < e := by
  rw [Int32.lt_iff_toInt_lt] at *; omega
theorem own_CEf32 {e j k : Int32} (h : j < e) (q : k.toInt ≤ j.toInt) : ¬ e = k := by
  intro z; subst z; rw [Int32.lt_iff_toInt_lt] at h; omega
theorem own_DLt32 {e j k : Int32} (h : ¬ j < e) (q : j.toInt < k.toInt) : e < k := by
  rw [Int32.lt_iff_toInt_lt] at *; omega
theorem own_DGf32 {e j k : Int32} (h : ¬ j < e) (q : j.toInt ≤ k.toInt) : ¬ k < e := by
  rw [Int32.lt_iff_toInt_lt] at *; omega
theorem own_DEf32 {e j k : Int32} (h : ¬ j < e) (q : j.toInt < k.toInt) : ¬ e = k := by
  intro z; subst z; rw [Int32.lt_iff_toInt_lt] at h; omega
theorem own_eqEt32 {e j k : Int32} (h : e = j) (q : j = k) : e = k := by rw [h]; exact q
theorem own_eqEf32 {e j k : Int32} (h : e = j) (q : ¬ j = k) : ¬ e = k := by rw [h]; exact q
theorem own_eqLt32 {e j k : Int32} (h : e = j) (q : j < k) : e < k := by rw [h]; exact q
theorem own_eqLf32 {e j k : Int32} (h : e = j) (q : ¬ j < k) : ¬ e < k := by rw [h]; exact q
theorem own_eqGt32 {e j k : Int32} (h : e = j) (q : k < j) : k < e := by rw [h]; exact q
theorem own_eqGf32 {e j k : Int32} (h : e = j) (q : ¬ k < j) : ¬ k < e := by rw [h]; exact q
theorem own_ALt64 {e j k : Int64} (h : e < j) (q : j.toInt ≤ k.toInt) : e < k := by
  rw [Int64.lt_iff_toInt_lt] at *; omega
theorem own_AGf64 {e j k : Int64} (h : e < j) (q : j.toInt ≤ k.toInt + 1) : ¬ k < e := by
  rw [Int64.lt_iff_toInt_lt] at *; omega
theorem own_AEf64 {e j k : Int64} (h : e < j) (q : j.toInt ≤ k.toInt) : ¬ e = k := by
  intro z; subst z; rw [Int64.lt_iff_toInt_lt] at h; omega
theorem own_BLf64 {e j k : Int64} (h : ¬ e < j) (q : k.toInt ≤ j.toInt) : ¬ e < k := by
  rw [Int64.lt_iff_toInt_lt] at *; omega
theorem own_BGt64 {e j k : Int64} (h : ¬ e < j) (q : k.toInt < j.toInt) : k < e := by
  rw [Int64.lt_iff_toInt_lt] at *; omega
theorem own_BEf64 {e j k : Int64} (h : ¬ e < j) (q : k.toInt < j.toInt) : ¬ e = k := by
  intro z; subst z; rw [Int64.lt_iff_toInt_lt] at h; omega
theorem own_CLf64 {e j k : Int64} (h : j < e) (q : k.toInt ≤ j.toInt + 1) : ¬ e < k := by
  rw [Int64.lt_iff_toInt_lt] at *; omega
theorem own_CGt64 {e j k : Int64} (h : j < e) (q : k.toInt ≤ j.toInt) : k < e := by
  rw [Int64.lt_iff_toInt_lt] at *; omega
theorem own_CEf64 {e j k : Int64} (h : j < e) (q : k.toInt ≤ j.toInt) : ¬ e = k := by
  intro z; subst z; rw [Int64.lt_iff_toInt_lt] at h; omega
theorem own_DLt64 {e j k : Int64} (h : ¬ j < e) (q : j.toInt < k.toInt) : e < k := by
  rw [Int64.lt_iff_toInt_lt] at *; omega
theorem own_DGf64 {e j k : Int64} (h : ¬ j < e) (q : j.toInt ≤ k.toInt) : ¬ k < e := by
  rw [Int64.lt_iff_toInt_lt] at *; omega
theorem own_DEf64 {e j k : Int64} (h : ¬ j < e) (q : j.toInt < k.toInt) : ¬ e = k := by
  intro z; subst z; rw [Int64.lt_iff_toInt_lt] at h; omega
theorem own_eqEt64 {e j k : Int64} (h : e = j) (q : j = k) : e = k := by rw [h]; exact q
theorem own_eqEf64 {e j k : Int64} (h : e = j) (q : ¬ j = k) : ¬ e = k := by rw [h]; exact q
theorem own_eqLt64 {e j k : Int64} (h : e = j) (q : j < k) : e < k := by rw [h]; exact q
theorem own_eqLf64 {e j k : Int64} (h : e = j) (q : ¬ j < k) : ¬ e < k := by rw [h]; exact q
theorem own_eqGt64 {e j k : Int64} (h : e = j) (q : k < j) : k < e := by rw [h]; exact q
theorem own_eqGf64 {e j k : Int64} (h : e = j) (q : ¬ k < j) : ¬ k < e := by rw [h]; exact q
theorem d1_0 : decode method_2_code 0 = .ok (.iload_n 0, 1) := by decide +kernel
theorem d1_1 : decode method_2_code 1 = .ok (.iload_n 2, 1) := by decide +kernel
theorem d1_2 : decode method_2_code 2 = .ok (.ishr, 1) := by decide +kernel
theorem d1_3 : decode method_2_code 3 = .ok (.iconst 1, 1) := by decide +kernel
theorem d1_4 : decode method_2_code 4 = .ok (.iand, 1) := by decide +kernel
theorem d1_5 : decode method_2_code 5 = .ok (.ifCond .eq 6, 3) := by decide +kernel
theorem d1_8 : decode method_2_code 8 = .ok (.bipush 58, 2) := by decide +kernel
theorem d1_10 : decode method_2_code 10 = .ok (.ireturn, 1) := by decide +kernel
theorem d1_11 : decode method_2_code 11 = .ok (.iload_n 1, 1) := by decide +kernel
theorem d1_12 : decode method_2_code 12 = .ok (.bipush 8, 2) := by decide +kernel
theorem d1_14 : decode method_2_code 14 = .ok (.iload_n 2, 1) := by decide +kernel
theorem d1_15 : decode method_2_code 15 = .ok (.imul, 1) := by decide +kernel
theorem d1_16 : decode method_2_code 16 = .ok (.ishr, 1) := by decide +kernel
theorem d1_17 : decode method_2_code 17 = .ok (.i2b, 1) := by decide +kernel
theorem d1_18 : decode method_2_code 18 = .ok (.ireturn, 1) := by decide +kernel
theorem pn_0 : plainName "com/example/fold3/fold3/graph/ColonTitlesKeepsPinLaw" = true := by first | (simp [plainName, overriddenIn]; done) | decide +kernel
theorem ef_rm1 (m : MethodId) (p0 : Int32) (p1 : Int32) (p2 : Int32) : entryFrame m #[(.int p0), (.int p1), (.int p2)] 3 = mkF m 0 #[.val (.int p0), .val (.int p1), .val (.int p2)] [] := by first | (simp [entryFrame, mkF, argsToLocals, Value.category]; done) | rfl
def f1 (p0 : Int32) (p1 : Int32) (p2 : Int32) : Int32 := (if ((p0 >>> (p2 &&& 31)) &&& (1 : Int32)) = (0 : Int32) then ((p1 >>> (((8 : Int32) * p2) &&& 31)).toInt8.toInt32) else (58 : Int32))
def Q_rm1 (Z : State) (p0 : Int32) (p1 : Int32) (p2 : Int32) (h0 : Heap) (n0 : Nat) (v : Option Value) (h : Heap) (L : List Loc) : Prop := v = some (.int (f1 p0 p1 p2)) ∧ Fr n0 L ∧ h = h0
set_option maxRecDepth 65536 in
set_option maxHeartbeats 40000000 in
theorem rm1 (l : Launch) (Z : State) (av0 : Array Value) (hw : ∀ d ∈ tables_1, d.before av0 Z = true) (ws : List Jvm.Cond) (p0 : Int32) (p1 : Int32) (p2 : Int32) (h0 : Heap) (n0 : Nat) (Z0 : n0 ≤ h0.size)  :
    MetFree l (⟨"com/example/fold3/fold3/graph/ColonTitlesKeepsPinLaw", "pick", "(III)B"⟩ : MethodName) (head1 (Jvm.Cond.code (⟨"com/example/fold3/fold3/graph/ColonTitlesKeepsPinLaw", "pick", "(III)B"⟩ : MethodName) method_2_code 3 (some .byte) :: ws) ({ frames := 0, cells := 0, slots := 0, locals := 0 } : Room)) (fun a U => a = #[(.int p0), (.int p1), (.int p2)] ∧ Z.Warmed39 U.vm ∧ U.heap = h0) (fun _ _ _ _ _ => True) (fun _ U o U' => ∃ v L, o = .returned v ∧ Q_rm1 Z p0 p1 p2 h0 n0 v U'.heap L ∧ FrameEnd U o U' L ({ frames := 0, cells := 0, slots := 0, locals := 0 } : Room).cells ({ frames := 0, cells := 0, slots := 0, locals := 0 } : Room).slots) := by
  refine MetFree.of_bodySF (plainFor_of_name pn_0) hisR ?_
  intro p e s m args below meth c s₁ Bd hml0 hP hK
  obtain ⟨rfl, hZ, hh⟩ := hP
  have hx := Bd.exec
  have hby := Bd.bytes
  have hml : c.maxLocals = 3 := hml0
  have dd : ∀ {pc : Nat} {r : Except DecodeError (Instr × Nat)}, decode method_2_code pc = r → decode c.code pc = r := fun q => hb hby q
  have hown : s.vm.findClass "com/example/fold3/fold3/graph/ColonTitlesKeepsPinLaw" = some m.cls := findClass_of_methodNamed Bd.named
  have hnm := (name_of_methodNamed Bd.named Bd.method).1
  have X0 : Stand p l e ({ frames := 0, cells := 0, slots := 0, locals := 0 } : Room) s m #[(.int p0), (.int p1), (.int p2)] below meth c s₁ [] 0 0 := Stand.of_body Bd
  have e0 : s₁.heap = h0 := by rw [← hh, Bd.state]; rfl
  have N0 := Fr.nil n0
  have hret := Bd.returns
  have hlk := Bd.notSynchronized
  show Gz p e below s ({ frames := 0, cells := 0, slots := 0, locals := 0 } : Room).cells ({ frames := 0, cells := 0, slots := 0, locals := 0 } : Room).slots (Q_rm1 Z p0 p1 p2 h0 n0) (s₁.setTop (entryFrame m #[(.int p0), (.int p1), (.int p2)] 3))
  refine Gz.enter (ef_rm1 m p0 p1 p2) ?_
  refine Gz.iloadN 1 X0 hx (dd d1_0) rfl rfl ?_
  refine Gz.iloadN 2 X0 hx (dd d1_1) rfl rfl ?_
  refine Gz.ishr 3 X0 hx (dd d1_2) rfl ?_
  refine Gz.iconst 4 (1 : Int32) X0 hx (dd d1_3) rfl rfl ?_
  refine Gz.iand 5 X0 hx (dd d1_4) rfl ?_
  by_cases hc1 : ((p0 >>> (p2 &&& 31)) &&& (1 : Int32)) = (0 : Int32)
  · refine Gz.ifYes 11 X0 hx (dd d1_5) ((if0 _ _).trans (teq hc1).1) (by decide) (by decide) ?_
    refine Gz.iloadN 12 X0 hx (dd d1_11) rfl rfl ?_
    refine Gz.bipush 14 (8 : Int32) X0 hx (dd d1_12) rfl rfl ?_
    refine Gz.iloadN 15 X0 hx (dd d1_14) rfl rfl ?_
    refine Gz.imul 16 X0 hx (dd d1_15) rfl ?_
    refine Gz.ishr 17 X0 hx (dd d1_16) rfl ?_
    refine Gz.i2b 18 X0 hx (dd d1_17) rfl ?_
    refine Gz.fin X0 (v := some (.int ((p1 >>> (((8 : Int32) * p2) &&& 31)).toInt8.toInt32))) (fun h => by rw [hret] at h; cases h) hlk (by decide) (by decide) (fun fs hr => retNV X0 hx (t := .byte) hret (by simp) (dd d1_18) hr (own_nb _)) ?_
    rw [e0]
    exact ⟨(by unfold f1; rw [if_pos hc1]), N0, rfl⟩
  · refine Gz.ifNo 8 X0 hx (dd d1_5) ((if0 _ _).trans (feq hc1).1) rfl ?_
    refine Gz.bipush 10 (58 : Int32) X0 hx (dd d1_8) rfl rfl ?_
    refine Gz.fin X0 (v := some (.int (58 : Int32))) (fun h => by rw [hret] at h; cases h) hlk (by decide) (by decide) (fun fs hr => retN X0 hx (t := .byte) hret (by simp) (dd d1_10) hr) ?_
    rw [e0]
    exact ⟨(by unfold f1; rw [if_neg hc1]), N0, rfl⟩
theorem d2_0 : decode method_3_code 0 = .ok (.iload_n 2, 1) := by decide +kernel
theorem d2_1 : decode method_3_code 1 = .ok (.iload_n 1, 1) := by decide +kernel
theorem d2_2 : decode method_3_code 2 = .ok (.if_icmp .gt 20, 3) := by decide +kernel
theorem d2_5 : decode method_3_code 5 = .ok (.iload_n 1, 1) := by decide +kernel
theorem d2_6 : decode method_3_code 6 = .ok (.iload_n 3, 1) := by decide +kernel
theorem d2_7 : decode method_3_code 7 = .ok (.if_icmp .ge 15, 3) := by decide +kernel
theorem d2_10 : decode method_3_code 10 = .ok (.aload_n 0, 1) := by decide +kernel
theorem d2_11 : decode method_3_code 11 = .ok (.iload_n 1, 1) := by decide +kernel
theorem d2_12 : decode method_3_code 12 = .ok (.baload, 1) := by decide +kernel
theorem d2_13 : decode method_3_code 13 = .ok (.bipush 58, 2) := by decide +kernel
theorem d2_15 : decode method_3_code 15 = .ok (.if_icmp .ne 7, 3) := by decide +kernel
theorem d2_18 : decode method_3_code 18 = .ok (.iconst 1, 1) := by decide +kernel
theorem d2_19 : decode method_3_code 19 = .ok (.goto 4, 3) := by decide +kernel
theorem d2_22 : decode method_3_code 22 = .ok (.iconst 0, 1) := by decide +kernel
theorem d2_23 : decode method_3_code 23 = .ok (.ireturn, 1) := by decide +kernel
theorem ef_rm2 (m : MethodId) (a0 : Addr) (p1 : Int32) (p2 : Int32) (p3 : Int32) : entryFrame m #[(.ref a0), (.int p1), (.int p2), (.int p3)] 4 = mkF m 0 #[.val (.ref a0), .val (.int p1), .val (.int p2), .val (.int p3)] [] := by first | (simp [entryFrame, mkF, argsToLocals, Value.category]; done) | rfl
def f2 (a0 : Addr) (p1 : Int32) (p2 : Int32) (p3 : Int32) (w : Int32) : Int32 := (if p1 < p2 then (0 : Int32) else (if p1 < p3 then (if w = (58 : Int32) then (1 : Int32) else (0 : Int32)) else (0 : Int32)))
def Q_rm2 (Z : State) (a0 : Addr) (p1 : Int32) (p2 : Int32) (p3 : Int32) (cl_a0 : Cell) (w : Int32) (h0 : Heap) (n0 : Nat) (v : Option Value) (h : Heap) (L : List Loc) : Prop := v = some (.int (f2 a0 p1 p2 p3 w)) ∧ Fr n0 L ∧ h = h0
set_option maxRecDepth 65536 in
set_option maxHeartbeats 40000000 in
theorem rm2 (l : Launch) (Z : State) (av0 : Array Value) (hw : ∀ d ∈ tables_1, d.before av0 Z = true) (ws : List Jvm.Cond) (a0 : Addr) (p1 : Int32) (p2 : Int32) (p3 : Int32) (cl_a0 : Cell) (w : Int32) (h0 : Heap) (n0 : Nat) (Z0 : n0 ≤ h0.size) (Ar_a0 : Arr Z h0 a0 cl_a0 .byte) (hin_a0_1 : ¬ (p1 < 0 ∨ cl_a0.slots.size ≤ (p1).toNatClampNeg)) (hat_a0_1 : cl_a0.slots[(p1).toNatClampNeg]? = some (.int w)) :
    MetFree l (⟨"com/example/fold3/fold3/graph/ColonTitlesKeepsPinLaw", "hit", "([BIII)Z"⟩ : MethodName) (head1 (Jvm.Cond.code (⟨"com/example/fold3/fold3/graph/ColonTitlesKeepsPinLaw", "hit", "([BIII)Z"⟩ : MethodName) method_3_code 4 (some .boolean) :: ws) ({ frames := 0, cells := 0, slots := 0, locals := 0 } : Room)) (fun a U => a = #[(.ref a0), (.int p1), (.int p2), (.int p3)] ∧ Z.Warmed39 U.vm ∧ U.heap = h0) (fun _ _ _ _ _ => True) (fun _ U o U' => ∃ v L, o = .returned v ∧ Q_rm2 Z a0 p1 p2 p3 cl_a0 w h0 n0 v U'.heap L ∧ FrameEnd U o U' L ({ frames := 0, cells := 0, slots := 0, locals := 0 } : Room).cells ({ frames := 0, cells := 0, slots := 0, locals := 0 } : Room).slots) := by
  refine MetFree.of_bodySF (plainFor_of_name pn_0) hisR ?_
  intro p e s m args below meth c s₁ Bd hml0 hP hK
  obtain ⟨rfl, hZ, hh⟩ := hP
  have hx := Bd.exec
  have hby := Bd.bytes
  have hml : c.maxLocals = 4 := hml0
  have dd : ∀ {pc : Nat} {r : Except DecodeError (Instr × Nat)}, decode method_3_code pc = r → decode c.code pc = r := fun q => hb hby q
  have hown : s.vm.findClass "com/example/fold3/fold3/graph/ColonTitlesKeepsPinLaw" = some m.cls := findClass_of_methodNamed Bd.named
  have hnm := (name_of_methodNamed Bd.named Bd.method).1
  have X0 : Stand p l e ({ frames := 0, cells := 0, slots := 0, locals := 0 } : Room) s m #[(.ref a0), (.int p1), (.int p2), (.int p3)] below meth c s₁ [] 0 0 := Stand.of_body Bd
  have e0 : s₁.heap = h0 := by rw [← hh, Bd.state]; rfl
  have N0 := Fr.nil n0
  have hret := Bd.returns
  have hlk := Bd.notSynchronized
  show Gz p e below s ({ frames := 0, cells := 0, slots := 0, locals := 0 } : Room).cells ({ frames := 0, cells := 0, slots := 0, locals := 0 } : Room).slots (Q_rm2 Z a0 p1 p2 p3 cl_a0 w h0 n0) (s₁.setTop (entryFrame m #[(.ref a0), (.int p1), (.int p2), (.int p3)] 4))
  refine Gz.enter (ef_rm2 m a0 p1 p2 p3) ?_
  refine Gz.iloadN 1 X0 hx (dd d2_0) rfl rfl ?_
  refine Gz.iloadN 2 X0 hx (dd d2_1) rfl rfl ?_
  by_cases hc1 : p1 < p2
  · refine Gz.icmpYes 22 X0 hx (dd d2_2) (tlt hc1).2.2.1 (by decide) (by decide) ?_
    refine Gz.iconst 23 (0 : Int32) X0 hx (dd d2_22) rfl rfl ?_
    refine Gz.fin X0 (v := some (.int (0 : Int32))) (fun h => by rw [hret] at h; cases h) hlk (by decide) (by decide) (fun fs hr => retN X0 hx (t := .boolean) hret (by simp) (dd d2_23) hr) ?_
    rw [e0]
    exact ⟨(by unfold f2; rw [if_pos hc1]), N0, rfl⟩
  · refine Gz.icmpNo 5 X0 hx (dd d2_2) (flt hc1).2.2.1 rfl ?_
    refine Gz.iloadN 6 X0 hx (dd d2_5) rfl rfl ?_
    refine Gz.iloadN 7 X0 hx (dd d2_6) rfl rfl ?_
    by_cases hc2 : p1 < p3
    · refine Gz.icmpNo 10 X0 hx (dd d2_7) (tlt hc2).2.1 rfl ?_
      refine Gz.aloadN 11 X0 hx (dd d2_10) rfl rfl rfl ?_
      refine Gz.iloadN 12 X0 hx (dd d2_11) rfl rfl ?_
      refine Gz.ldB 13 X0 hx hZ (dd d2_12) e0 Ar_a0 hin_a0_1 hat_a0_1 rfl ?_
      refine Gz.bipush 15 (58 : Int32) X0 hx (dd d2_13) rfl rfl ?_
      by_cases hc3 : w = (58 : Int32)
      · refine Gz.icmpNo 18 X0 hx (dd d2_15) (teq hc3).2 rfl ?_
        refine Gz.iconst 19 (1 : Int32) X0 hx (dd d2_18) rfl rfl ?_
        refine Gz.goto 23 X0 hx (dd d2_19) (by decide) (by decide) ?_
        refine Gz.fin X0 (v := some (.int (1 : Int32))) (fun h => by rw [hret] at h; cases h) hlk (by decide) (by decide) (fun fs hr => retN X0 hx (t := .boolean) hret (by simp) (dd d2_23) hr) ?_
        rw [e0]
        exact ⟨(by unfold f2; rw [if_neg hc1, if_pos hc2, if_pos hc3]), N0, rfl⟩
      · refine Gz.icmpYes 22 X0 hx (dd d2_15) (feq hc3).2 (by decide) (by decide) ?_
        refine Gz.iconst 23 (0 : Int32) X0 hx (dd d2_22) rfl rfl ?_
        refine Gz.fin X0 (v := some (.int (0 : Int32))) (fun h => by rw [hret] at h; cases h) hlk (by decide) (by decide) (fun fs hr => retN X0 hx (t := .boolean) hret (by simp) (dd d2_23) hr) ?_
        rw [e0]
        exact ⟨(by unfold f2; rw [if_neg hc1, if_pos hc2, if_neg hc3]), N0, rfl⟩
    · refine Gz.icmpYes 22 X0 hx (dd d2_7) (flt hc2).2.1 (by decide) (by decide) ?_
      refine Gz.iconst 23 (0 : Int32) X0 hx (dd d2_22) rfl rfl ?_
      refine Gz.fin X0 (v := some (.int (0 : Int32))) (fun h => by rw [hret] at h; cases h) hlk (by decide) (by decide) (fun fs hr => retN X0 hx (t := .boolean) hret (by simp) (dd d2_23) hr) ?_
      rw [e0]
      exact ⟨(by unfold f2; rw [if_neg hc1, if_neg hc2]), N0, rfl⟩
theorem d3_0 : decode prog_7_method_4_code 0 = .ok (.iconst 1, 1) := by decide +kernel
theorem d3_1 : decode prog_7_method_4_code 1 = .ok (.istore 4, 2) := by decide +kernel
theorem d3_3 : decode prog_7_method_4_code 3 = .ok (.iload_n 2, 1) := by decide +kernel
theorem d3_4 : decode prog_7_method_4_code 4 = .ok (.istore 5, 2) := by decide +kernel
theorem d3_6 : decode prog_7_method_4_code 6 = .ok (.iload 4, 2) := by decide +kernel
theorem d3_8 : decode prog_7_method_4_code 8 = .ok (.ifCond .eq 38, 3) := by decide +kernel
theorem d3_11 : decode prog_7_method_4_code 11 = .ok (.aload_n 0, 1) := by decide +kernel
theorem d3_12 : decode prog_7_method_4_code 12 = .ok (.getstatic 7, 3) := by decide +kernel
theorem d3_15 : decode prog_7_method_4_code 15 = .ok (.if_acmp .ne 31, 3) := by decide +kernel
theorem d3_18 : decode prog_7_method_4_code 18 = .ok (.iload 5, 2) := by decide +kernel
theorem d3_20 : decode prog_7_method_4_code 20 = .ok (.iload_n 3, 1) := by decide +kernel
theorem d3_21 : decode prog_7_method_4_code 21 = .ok (.if_icmp .ge 25, 3) := by decide +kernel
theorem d3_24 : decode prog_7_method_4_code 24 = .ok (.aload_n 1, 1) := by decide +kernel
theorem d3_25 : decode prog_7_method_4_code 25 = .ok (.iload 5, 2) := by decide +kernel
theorem d3_27 : decode prog_7_method_4_code 27 = .ok (.baload, 1) := by decide +kernel
theorem d3_28 : decode prog_7_method_4_code 28 = .ok (.bipush 58, 2) := by decide +kernel
theorem d3_30 : decode prog_7_method_4_code 30 = .ok (.if_icmp .eq 7, 3) := by decide +kernel
theorem d3_33 : decode prog_7_method_4_code 33 = .ok (.iconst 1, 1) := by decide +kernel
theorem d3_34 : decode prog_7_method_4_code 34 = .ok (.goto 4, 3) := by decide +kernel
theorem d3_37 : decode prog_7_method_4_code 37 = .ok (.iconst 0, 1) := by decide +kernel
theorem d3_38 : decode prog_7_method_4_code 38 = .ok (.istore 4, 2) := by decide +kernel
theorem d3_40 : decode prog_7_method_4_code 40 = .ok (.iinc 5 1, 3) := by decide +kernel
theorem d3_43 : decode prog_7_method_4_code 43 = .ok (.goto (-37), 3) := by decide +kernel
theorem d3_46 : decode prog_7_method_4_code 46 = .ok (.iload 4, 2) := by decide +kernel
theorem d3_48 : decode prog_7_method_4_code 48 = .ok (.ireturn, 1) := by decide +kernel
theorem pn_1 : plainName "com/example/fold3/fold3/graph/ColonTitles" = true := by first | (simp [plainName, overriddenIn]; done) | decide +kernel
theorem ef_rm3 (m : MethodId) (a0 : Addr) (a1 : Addr) (p2 : Int32) (p3 : Int32) : entryFrame m #[(.ref a0), (.ref a1), (.int p2), (.int p3)] 6 = mkF m 0 #[.val (.ref a0), .val (.ref a1), .val (.int p2), .val (.int p3), .unset, .unset] [] := by first | (simp [entryFrame, mkF, argsToLocals, Value.category]; done) | rfl
def f3 (a0 : Addr) (a1 : Addr) (p2 : Int32) (p3 : Int32) (v0 : Int32) (v1 : Int32) (v2 : Int32) (v3 : Int32) (s_DROP : Addr) : Int32 := (if a0 = s_DROP then (if p2 = (0 : Int32) then (if p3 = (0 : Int32) then (1 : Int32) else (if p3 = (1 : Int32) then (if v0 = (58 : Int32) then (0 : Int32) else (1 : Int32)) else (if p3 = (2 : Int32) then (if v0 = (58 : Int32) then (0 : Int32) else (if v1 = (58 : Int32) then (0 : Int32) else (1 : Int32))) else (if p3 = (3 : Int32) then (if v0 = (58 : Int32) then (0 : Int32) else (if v1 = (58 : Int32) then (0 : Int32) else (if v2 = (58 : Int32) then (0 : Int32) else (1 : Int32)))) else (if v0 = (58 : Int32) then (0 : Int32) else (if v1 = (58 : Int32) then (0 : Int32) else (if v2 = (58 : Int32) then (0 : Int32) else (if v3 = (58 : Int32) then (0 : Int32) else (1 : Int32))))))))) else (if p2 = (1 : Int32) then (if p3 = (0 : Int32) then (1 : Int32) else (if p3 = (1 : Int32) then (1 : Int32) else (if p3 = (2 : Int32) then (if v1 = (58 : Int32) then (0 : Int32) else (1 : Int32)) else (if p3 = (3 : Int32) then (if v1 = (58 : Int32) then (0 : Int32) else (if v2 = (58 : Int32) then (0 : Int32) else (1 : Int32))) else (if v1 = (58 : Int32) then (0 : Int32) else (if v2 = (58 : Int32) then (0 : Int32) else (if v3 = (58 : Int32) then (0 : Int32) else (1 : Int32)))))))) else (if p2 = (2 : Int32) then (if p3 = (0 : Int32) then (1 : Int32) else (if p3 = (1 : Int32) then (1 : Int32) else (if p3 = (2 : Int32) then (1 : Int32) else (if p3 = (3 : Int32) then (if v2 = (58 : Int32) then (0 : Int32) else (1 : Int32)) else (if v2 = (58 : Int32) then (0 : Int32) else (if v3 = (58 : Int32) then (0 : Int32) else (1 : Int32))))))) else (if p2 = (3 : Int32) then (if p3 = (0 : Int32) then (1 : Int32) else (if p3 = (1 : Int32) then (1 : Int32) else (if p3 = (2 : Int32) then (1 : Int32) else (if p3 = (3 : Int32) then (1 : Int32) else (if v3 = (58 : Int32) then (0 : Int32) else (1 : Int32)))))) else (if p3 = (0 : Int32) then (1 : Int32) else (if p3 = (1 : Int32) then (1 : Int32) else (if p3 = (2 : Int32) then (1 : Int32) else (if p3 = (3 : Int32) then (1 : Int32) else (1 : Int32))))))))) else (1 : Int32))
def Q_rm3 (Z : State) (a0 : Addr) (a1 : Addr) (p2 : Int32) (p3 : Int32) (k_a1 : ClassId) (v0 : Int32) (v1 : Int32) (v2 : Int32) (v3 : Int32) (s_DROP : Addr) (h0 : Heap) (n0 : Nat) (v : Option Value) (h : Heap) (L : List Loc) : Prop := v = some (.int (f3 a0 a1 p2 p3 v0 v1 v2 v3 s_DROP)) ∧ Fr n0 L ∧ h = h0
set_option maxRecDepth 65536 in
set_option maxHeartbeats 40000000 in
theorem rm3 (l : Launch) (Z : State) (av0 : Array Value) (hw : ∀ d ∈ tables_1, d.before av0 Z = true) (ws : List Jvm.Cond) (a0 : Addr) (a1 : Addr) (p2 : Int32) (p3 : Int32) (k_a1 : ClassId) (v0 : Int32) (v1 : Int32) (v2 : Int32) (v3 : Int32) (s_DROP : Addr) (h0 : Heap) (n0 : Nat) (Z0 : n0 ≤ h0.size) (V_a1 : Arv Z h0 a1 k_a1 .byte (4 : Int32) [(.int v0), (.int v1), (.int v2), (.int v3)] (.int (0 : Int32))) (S_s_DROP : Sta Z h0 "com/example/fold3/fold3/graph/ColonTitles" "DROP" "Lcom/example/fold3/fold3/graph/ColonTitles;" (.ref s_DROP)) (hp2 : p2 = (0 : Int32) ∨ p2 = (1 : Int32) ∨ p2 = (2 : Int32) ∨ p2 = (3 : Int32) ∨ p2 = (4 : Int32)) (hp3 : p3 = (0 : Int32) ∨ p3 = (1 : Int32) ∨ p3 = (2 : Int32) ∨ p3 = (3 : Int32) ∨ p3 = (4 : Int32)) :
    MetFree l (⟨"com/example/fold3/fold3/graph/ColonTitles", "keeps", "([BII)Z"⟩ : MethodName) (head1 (Jvm.Cond.code (⟨"com/example/fold3/fold3/graph/ColonTitles", "keeps", "([BII)Z"⟩ : MethodName) prog_7_method_4_code 6 (some .boolean) :: ws) ({ frames := 0, cells := 0, slots := 0, locals := 0 } : Room)) (fun a U => a = #[(.ref a0), (.ref a1), (.int p2), (.int p3)] ∧ Z.Warmed39 U.vm ∧ U.heap = h0) (fun _ _ _ _ _ => True) (fun _ U o U' => ∃ v L, o = .returned v ∧ Q_rm3 Z a0 a1 p2 p3 k_a1 v0 v1 v2 v3 s_DROP h0 n0 v U'.heap L ∧ FrameEnd U o U' L ({ frames := 0, cells := 0, slots := 0, locals := 0 } : Room).cells ({ frames := 0, cells := 0, slots := 0, locals := 0 } : Room).slots) := by
  refine MetFree.of_bodySF (plainFor_of_name pn_1) hisR ?_
  intro p e s m args below meth c s₁ Bd hml0 hP hK
  obtain ⟨rfl, hZ, hh⟩ := hP
  have hx := Bd.exec
  have hby := Bd.bytes
  have hml : c.maxLocals = 6 := hml0
  have dd : ∀ {pc : Nat} {r : Except DecodeError (Instr × Nat)}, decode prog_7_method_4_code pc = r → decode c.code pc = r := fun q => hb hby q
  have hown : s.vm.findClass "com/example/fold3/fold3/graph/ColonTitles" = some m.cls := findClass_of_methodNamed Bd.named
  have hnm := (name_of_methodNamed Bd.named Bd.method).1
  have X0 : Stand p l e ({ frames := 0, cells := 0, slots := 0, locals := 0 } : Room) s m #[(.ref a0), (.ref a1), (.int p2), (.int p3)] below meth c s₁ [] 0 0 := Stand.of_body Bd
  have e0 : s₁.heap = h0 := by rw [← hh, Bd.state]; rfl
  have N0 := Fr.nil n0
  have hret := Bd.returns
  have hlk := Bd.notSynchronized
  show Gz p e below s ({ frames := 0, cells := 0, slots := 0, locals := 0 } : Room).cells ({ frames := 0, cells := 0, slots := 0, locals := 0 } : Room).slots (Q_rm3 Z a0 a1 p2 p3 k_a1 v0 v1 v2 v3 s_DROP h0 n0) (s₁.setTop (entryFrame m #[(.ref a0), (.ref a1), (.int p2), (.int p3)] 6))
  refine Gz.enter (ef_rm3 m a0 a1 p2 p3) ?_
  refine Gz.iconst 1 (1 : Int32) X0 hx (dd d3_0) rfl rfl ?_
  refine Gz.istore 3 #[.val (.ref a0), .val (.ref a1), .val (.int p2), .val (.int p3), .val (.int (1 : Int32)), .unset] X0 hx (dd d3_1) rfl rfl ?_
  refine Gz.iloadN 4 X0 hx (dd d3_3) rfl rfl ?_
  refine Gz.istore 6 #[.val (.ref a0), .val (.ref a1), .val (.int p2), .val (.int p3), .val (.int (1 : Int32)), .val (.int p2)] X0 hx (dd d3_4) rfl rfl ?_
  refine Gz.iload 8 X0 hx (dd d3_6) rfl rfl ?_
  refine Gz.ifNo 11 X0 hx (dd d3_8) ((if0 _ _).trans (feq (by decide : ¬ ((1 : Int32) = (0 : Int32)))).1) rfl ?_
  refine Gz.aloadN 12 X0 hx (dd d3_11) rfl rfl rfl ?_
  refine Gz.getS 15 X0 hx hZ hown (dd d3_12) (host := "") (Or.inl (ww hw 17 rfl)) Via.refl e0 S_s_DROP rfl fun T1 X1 e1 => ?_
  by_cases hc2 : a0 = s_DROP
  · refine Gz.acmp 18 true X1 hx (dd d3_15) rfl rfl (decide_eq_true (congrArg Value.ref hc2)) (by decide) (by decide) ?_
    show Gz p e below s _ _ _ (T1.setTop (mkF m 18 #[.val (.ref a0), .val (.ref a1), .val (.int p2), .val (.int p3), .val (.int (1 : Int32)), .val (.int p2)] []))
    rcases hp2 with rfl | rfl | rfl | rfl | rfl
    · refine Gz.iload 20 X1 hx (dd d3_18) rfl rfl ?_
      show Gz p e below s _ _ _ (T1.setTop (mkF m 20 #[.val (.ref a0), .val (.ref a1), .val (.int (0 : Int32)), .val (.int p3), .val (.int (1 : Int32)), .val (.int (0 : Int32))] [(.int (0 : Int32))]))
      rcases hp3 with rfl | rfl | rfl | rfl | rfl
      · refine Gz.iloadN 21 X1 hx (dd d3_20) rfl rfl ?_
        refine Gz.icmpYes 46 X1 hx (dd d3_21) (flt (by decide : ¬ ((0 : Int32) < (0 : Int32)))).2.1 (by decide) (by decide) ?_
        refine Gz.iload 48 X1 hx (dd d3_46) rfl rfl ?_
        refine Gz.fin X1 (v := some (.int (1 : Int32))) (fun h => by rw [hret] at h; cases h) hlk (by decide) (by decide) (fun fs hr => retN X1 hx (t := .boolean) hret (by simp) (dd d3_48) hr) ?_
        rw [e1]
        exact ⟨(by unfold f3; rw [if_pos hc2, if_pos (rfl : (0 : Int32) = (0 : Int32)), if_pos (rfl : (0 : Int32) = (0 : Int32))]), N0, rfl⟩
      · refine Gz.iloadN 21 X1 hx (dd d3_20) rfl rfl ?_
        refine Gz.icmpNo 24 X1 hx (dd d3_21) (tlt (by decide : (0 : Int32) < (1 : Int32))).2.1 rfl ?_
        refine Gz.aloadN 25 X1 hx (dd d3_24) rfl rfl rfl ?_
        refine Gz.iload 27 X1 hx (dd d3_25) rfl rfl ?_
        obtain ⟨c3, A3, q3, S3, N3, H3, G3⟩ := id V_a1
        have hin3 : ¬ ((0 : Int32) < 0 ∨ c3.slots.size ≤ ((0 : Int32)).toNatClampNeg) := inb_of S3 ⟨by decide, by decide⟩
        refine Gz.ldB 28 X1 hx hZ (dd d3_27) e1 A3 hin3 (Has.at H3 hin3 (rfl : _ = ((.int v0) : Value))) rfl ?_
        refine Gz.bipush 30 (58 : Int32) X1 hx (dd d3_28) rfl rfl ?_
        by_cases hc4 : v0 = (58 : Int32)
        · refine Gz.icmpYes 37 X1 hx (dd d3_30) (teq hc4).1 (by decide) (by decide) ?_
          refine Gz.iconst 38 (0 : Int32) X1 hx (dd d3_37) rfl rfl ?_
          refine Gz.istore 40 #[.val (.ref a0), .val (.ref a1), .val (.int (0 : Int32)), .val (.int (1 : Int32)), .val (.int (0 : Int32)), .val (.int (0 : Int32))] X1 hx (dd d3_38) rfl rfl ?_
          refine Gz.iinc 43 #[.val (.ref a0), .val (.ref a1), .val (.int (0 : Int32)), .val (.int (1 : Int32)), .val (.int (0 : Int32)), .val (.int (1 : Int32))] X1 hx (dd d3_40) rfl rfl rfl ?_
          refine Gz.goto 6 X1 hx (dd d3_43) (by decide) (by decide) ?_
          refine Gz.iload 8 X1 hx (dd d3_6) rfl rfl ?_
          refine Gz.ifYes 46 X1 hx (dd d3_8) ((if0 _ _).trans (teq (by decide : (0 : Int32) = (0 : Int32))).1) (by decide) (by decide) ?_
          refine Gz.iload 48 X1 hx (dd d3_46) rfl rfl ?_
          refine Gz.fin X1 (v := some (.int (0 : Int32))) (fun h => by rw [hret] at h; cases h) hlk (by decide) (by decide) (fun fs hr => retN X1 hx (t := .boolean) hret (by simp) (dd d3_48) hr) ?_
          rw [e1]
          exact ⟨(by unfold f3; rw [if_pos hc2, if_pos (rfl : (0 : Int32) = (0 : Int32)), if_neg (by decide : ¬ ((1 : Int32) = (0 : Int32))), if_pos (rfl : (1 : Int32) = (1 : Int32)), if_pos hc4]), N0, rfl⟩
        · refine Gz.icmpNo 33 X1 hx (dd d3_30) (feq hc4).1 rfl ?_
          refine Gz.iconst 34 (1 : Int32) X1 hx (dd d3_33) rfl rfl ?_
          refine Gz.goto 38 X1 hx (dd d3_34) (by decide) (by decide) ?_
          refine Gz.istore 40 #[.val (.ref a0), .val (.ref a1), .val (.int (0 : Int32)), .val (.int (1 : Int32)), .val (.int (1 : Int32)), .val (.int (0 : Int32))] X1 hx (dd d3_38) rfl rfl ?_
          refine Gz.iinc 43 #[.val (.ref a0), .val (.ref a1), .val (.int (0 : Int32)), .val (.int (1 : Int32)), .val (.int (1 : Int32)), .val (.int (1 : Int32))] X1 hx (dd d3_40) rfl rfl rfl ?_
          refine Gz.goto 6 X1 hx (dd d3_43) (by decide) (by decide) ?_
          refine Gz.iload 8 X1 hx (dd d3_6) rfl rfl ?_
          refine Gz.ifNo 11 X1 hx (dd d3_8) ((if0 _ _).trans (feq (by decide : ¬ ((1 : Int32) = (0 : Int32)))).1) rfl ?_
          refine Gz.aloadN 12 X1 hx (dd d3_11) rfl rfl rfl ?_
          refine Gz.getS 15 X1 hx hZ hown (dd d3_12) (host := "") (Or.inl (ww hw 17 rfl)) Via.refl e1 S_s_DROP rfl fun T5 X5 e5 => ?_
          refine Gz.acmp 18 true X5 hx (dd d3_15) rfl rfl (decide_eq_true (congrArg Value.ref hc2)) (by decide) (by decide) ?_
          refine Gz.iload 20 X5 hx (dd d3_18) rfl rfl ?_
          refine Gz.iloadN 21 X5 hx (dd d3_20) rfl rfl ?_
          refine Gz.icmpYes 46 X5 hx (dd d3_21) (flt (by decide : ¬ ((1 : Int32) < (1 : Int32)))).2.1 (by decide) (by decide) ?_
          refine Gz.iload 48 X5 hx (dd d3_46) rfl rfl ?_
          refine Gz.fin X5 (v := some (.int (1 : Int32))) (fun h => by rw [hret] at h; cases h) hlk (by decide) (by decide) (fun fs hr => retN X5 hx (t := .boolean) hret (by simp) (dd d3_48) hr) ?_
          rw [e5]
          exact ⟨(by unfold f3; rw [if_pos hc2, if_pos (rfl : (0 : Int32) = (0 : Int32)), if_neg (by decide : ¬ ((1 : Int32) = (0 : Int32))), if_pos (rfl : (1 : Int32) = (1 : Int32)), if_neg hc4]), N0, rfl⟩
      · refine Gz.iloadN 21 X1 hx (dd d3_20) rfl rfl ?_
        refine Gz.icmpNo 24 X1 hx (dd d3_21) (tlt (by decide : (0 : Int32) < (2 : Int32))).2.1 rfl ?_
        refine Gz.aloadN 25 X1 hx (dd d3_24) rfl rfl rfl ?_
        refine Gz.iload 27 X1 hx (dd d3_25) rfl rfl ?_
        obtain ⟨c6, A6, q6, S6, N6, H6, G6⟩ := id V_a1
        have hin6 : ¬ ((0 : Int32) < 0 ∨ c6.slots.size ≤ ((0 : Int32)).toNatClampNeg) := inb_of S6 ⟨by decide, by decide⟩
        refine Gz.ldB 28 X1 hx hZ (dd d3_27) e1 A6 hin6 (Has.at H6 hin6 (rfl : _ = ((.int v0) : Value))) rfl ?_
        refine Gz.bipush 30 (58 : Int32) X1 hx (dd d3_28) rfl rfl ?_
        by_cases hc7 : v0 = (58 : Int32)
        · refine Gz.icmpYes 37 X1 hx (dd d3_30) (teq hc7).1 (by decide) (by decide) ?_
          refine Gz.iconst 38 (0 : Int32) X1 hx (dd d3_37) rfl rfl ?_
          refine Gz.istore 40 #[.val (.ref a0), .val (.ref a1), .val (.int (0 : Int32)), .val (.int (2 : Int32)), .val (.int (0 : Int32)), .val (.int (0 : Int32))] X1 hx (dd d3_38) rfl rfl ?_
          refine Gz.iinc 43 #[.val (.ref a0), .val (.ref a1), .val (.int (0 : Int32)), .val (.int (2 : Int32)), .val (.int (0 : Int32)), .val (.int (1 : Int32))] X1 hx (dd d3_40) rfl rfl rfl ?_
          refine Gz.goto 6 X1 hx (dd d3_43) (by decide) (by decide) ?_
          refine Gz.iload 8 X1 hx (dd d3_6) rfl rfl ?_
          refine Gz.ifYes 46 X1 hx (dd d3_8) ((if0 _ _).trans (teq (by decide : (0 : Int32) = (0 : Int32))).1) (by decide) (by decide) ?_
          refine Gz.iload 48 X1 hx (dd d3_46) rfl rfl ?_
          refine Gz.fin X1 (v := some (.int (0 : Int32))) (fun h => by rw [hret] at h; cases h) hlk (by decide) (by decide) (fun fs hr => retN X1 hx (t := .boolean) hret (by simp) (dd d3_48) hr) ?_
          rw [e1]
          exact ⟨(by unfold f3; rw [if_pos hc2, if_pos (rfl : (0 : Int32) = (0 : Int32)), if_neg (by decide : ¬ ((2 : Int32) = (0 : Int32))), if_neg (by decide : ¬ ((2 : Int32) = (1 : Int32))), if_pos (rfl : (2 : Int32) = (2 : Int32)), if_pos hc7]), N0, rfl⟩
        · refine Gz.icmpNo 33 X1 hx (dd d3_30) (feq hc7).1 rfl ?_
          refine Gz.iconst 34 (1 : Int32) X1 hx (dd d3_33) rfl rfl ?_
          refine Gz.goto 38 X1 hx (dd d3_34) (by decide) (by decide) ?_
          refine Gz.istore 40 #[.val (.ref a0), .val (.ref a1), .val (.int (0 : Int32)), .val (.int (2 : Int32)), .val (.int (1 : Int32)), .val (.int (0 : Int32))] X1 hx (dd d3_38) rfl rfl ?_
          refine Gz.iinc 43 #[.val (.ref a0), .val (.ref a1), .val (.int (0 : Int32)), .val (.int (2 : Int32)), .val (.int (1 : Int32)), .val (.int (1 : Int32))] X1 hx (dd d3_40) rfl rfl rfl ?_
          refine Gz.goto 6 X1 hx (dd d3_43) (by decide) (by decide) ?_
          refine Gz.iload 8 X1 hx (dd d3_6) rfl rfl ?_
          refine Gz.ifNo 11 X1 hx (dd d3_8) ((if0 _ _).trans (feq (by decide : ¬ ((1 : Int32) = (0 : Int32)))).1) rfl ?_
          refine Gz.aloadN 12 X1 hx (dd d3_11) rfl rfl rfl ?_
          refine Gz.getS 15 X1 hx hZ hown (dd d3_12) (host := "") (Or.inl (ww hw 17 rfl)) Via.refl e1 S_s_DROP rfl fun T8 X8 e8 => ?_
          refine Gz.acmp 18 true X8 hx (dd d3_15) rfl rfl (decide_eq_true (congrArg Value.ref hc2)) (by decide) (by decide) ?_
          refine Gz.iload 20 X8 hx (dd d3_18) rfl rfl ?_
          refine Gz.iloadN 21 X8 hx (dd d3_20) rfl rfl ?_
          refine Gz.icmpNo 24 X8 hx (dd d3_21) (tlt (by decide : (1 : Int32) < (2 : Int32))).2.1 rfl ?_
          refine Gz.aloadN 25 X8 hx (dd d3_24) rfl rfl rfl ?_
          refine Gz.iload 27 X8 hx (dd d3_25) rfl rfl ?_
          obtain ⟨c9, A9, q9, S9, N9, H9, G9⟩ := id V_a1
          have hin9 : ¬ ((1 : Int32) < 0 ∨ c9.slots.size ≤ ((1 : Int32)).toNatClampNeg) := inb_of S9 ⟨by decide, by decide⟩
          refine Gz.ldB 28 X8 hx hZ (dd d3_27) e8 A9 hin9 (Has.at H9 hin9 (rfl : _ = ((.int v1) : Value))) rfl ?_
          refine Gz.bipush 30 (58 : Int32) X8 hx (dd d3_28) rfl rfl ?_
          by_cases hc10 : v1 = (58 : Int32)
          · refine Gz.icmpYes 37 X8 hx (dd d3_30) (teq hc10).1 (by decide) (by decide) ?_
            refine Gz.iconst 38 (0 : Int32) X8 hx (dd d3_37) rfl rfl ?_
            refine Gz.istore 40 #[.val (.ref a0), .val (.ref a1), .val (.int (0 : Int32)), .val (.int (2 : Int32)), .val (.int (0 : Int32)), .val (.int (1 : Int32))] X8 hx (dd d3_38) rfl rfl ?_
            refine Gz.iinc 43 #[.val (.ref a0), .val (.ref a1), .val (.int (0 : Int32)), .val (.int (2 : Int32)), .val (.int (0 : Int32)), .val (.int (2 : Int32))] X8 hx (dd d3_40) rfl rfl rfl ?_
            refine Gz.goto 6 X8 hx (dd d3_43) (by decide) (by decide) ?_
            refine Gz.iload 8 X8 hx (dd d3_6) rfl rfl ?_
            refine Gz.ifYes 46 X8 hx (dd d3_8) ((if0 _ _).trans (teq (by decide : (0 : Int32) = (0 : Int32))).1) (by decide) (by decide) ?_
            refine Gz.iload 48 X8 hx (dd d3_46) rfl rfl ?_
            refine Gz.fin X8 (v := some (.int (0 : Int32))) (fun h => by rw [hret] at h; cases h) hlk (by decide) (by decide) (fun fs hr => retN X8 hx (t := .boolean) hret (by simp) (dd d3_48) hr) ?_
            rw [e8]
            exact ⟨(by unfold f3; rw [if_pos hc2, if_pos (rfl : (0 : Int32) = (0 : Int32)), if_neg (by decide : ¬ ((2 : Int32) = (0 : Int32))), if_neg (by decide : ¬ ((2 : Int32) = (1 : Int32))), if_pos (rfl : (2 : Int32) = (2 : Int32)), if_neg hc7, if_pos hc10]), N0, rfl⟩
          · refine Gz.icmpNo 33 X8 hx (dd d3_30) (feq hc10).1 rfl ?_
            refine Gz.iconst 34 (1 : Int32) X8 hx (dd d3_33) rfl rfl ?_
            refine Gz.goto 38 X8 hx (dd d3_34) (by decide) (by decide) ?_
            refine Gz.istore 40 #[.val (.ref a0), .val (.ref a1), .val (.int (0 : Int32)), .val (.int (2 : Int32)), .val (.int (1 : Int32)), .val (.int (1 : Int32))] X8 hx (dd d3_38) rfl rfl ?_
            refine Gz.iinc 43 #[.val (.ref a0), .val (.ref a1), .val (.int (0 : Int32)), .val (.int (2 : Int32)), .val (.int (1 : Int32)), .val (.int (2 : Int32))] X8 hx (dd d3_40) rfl rfl rfl ?_
            refine Gz.goto 6 X8 hx (dd d3_43) (by decide) (by decide) ?_
            refine Gz.iload 8 X8 hx (dd d3_6) rfl rfl ?_
            refine Gz.ifNo 11 X8 hx (dd d3_8) ((if0 _ _).trans (feq (by decide : ¬ ((1 : Int32) = (0 : Int32)))).1) rfl ?_
            refine Gz.aloadN 12 X8 hx (dd d3_11) rfl rfl rfl ?_
            refine Gz.getS 15 X8 hx hZ hown (dd d3_12) (host := "") (Or.inl (ww hw 17 rfl)) Via.refl e8 S_s_DROP rfl fun T11 X11 e11 => ?_
            refine Gz.acmp 18 true X11 hx (dd d3_15) rfl rfl (decide_eq_true (congrArg Value.ref hc2)) (by decide) (by decide) ?_
            refine Gz.iload 20 X11 hx (dd d3_18) rfl rfl ?_
            refine Gz.iloadN 21 X11 hx (dd d3_20) rfl rfl ?_
            refine Gz.icmpYes 46 X11 hx (dd d3_21) (flt (by decide : ¬ ((2 : Int32) < (2 : Int32)))).2.1 (by decide) (by decide) ?_
            refine Gz.iload 48 X11 hx (dd d3_46) rfl rfl ?_
            refine Gz.fin X11 (v := some (.int (1 : Int32))) (fun h => by rw [hret] at h; cases h) hlk (by decide) (by decide) (fun fs hr => retN X11 hx (t := .boolean) hret (by simp) (dd d3_48) hr) ?_
            rw [e11]
            exact ⟨(by unfold f3; rw [if_pos hc2, if_pos (rfl : (0 : Int32) = (0 : Int32)), if_neg (by decide : ¬ ((2 : Int32) = (0 : Int32))), if_neg (by decide : ¬ ((2 : Int32) = (1 : Int32))), if_pos (rfl : (2 : Int32) = (2 : Int32)), if_neg hc7, if_neg hc10]), N0, rfl⟩
      · refine Gz.iloadN 21 X1 hx (dd d3_20) rfl rfl ?_
        refine Gz.icmpNo 24 X1 hx (dd d3_21) (tlt (by decide : (0 : Int32) < (3 : Int32))).2.1 rfl ?_
        refine Gz.aloadN 25 X1 hx (dd d3_24) rfl rfl rfl ?_
        refine Gz.iload 27 X1 hx (dd d3_25) rfl rfl ?_
        obtain ⟨c12, A12, q12, S12, N12, H12, G12⟩ := id V_a1
        have hin12 : ¬ ((0 : Int32) < 0 ∨ c12.slots.size ≤ ((0 : Int32)).toNatClampNeg) := inb_of S12 ⟨by decide, by decide⟩
        refine Gz.ldB 28 X1 hx hZ (dd d3_27) e1 A12 hin12 (Has.at H12 hin12 (rfl : _ = ((.int v0) : Value))) rfl ?_
        refine Gz.bipush 30 (58 : Int32) X1 hx (dd d3_28) rfl rfl ?_
        by_cases hc13 : v0 = (58 : Int32)
        · refine Gz.icmpYes 37 X1 hx (dd d3_30) (teq hc13).1 (by decide) (by decide) ?_
          refine Gz.iconst 38 (0 : Int32) X1 hx (dd d3_37) rfl rfl ?_
          refine Gz.istore 40 #[.val (.ref a0), .val (.ref a1), .val (.int (0 : Int32)), .val (.int (3 : Int32)), .val (.int (0 : Int32)), .val (.int (0 : Int32))] X1 hx (dd d3_38) rfl rfl ?_
          refine Gz.iinc 43 #[.val (.ref a0), .val (.ref a1), .val (.int (0 : Int32)), .val (.int (3 : Int32)), .val (.int (0 : Int32)), .val (.int (1 : Int32))] X1 hx (dd d3_40) rfl rfl rfl ?_
          refine Gz.goto 6 X1 hx (dd d3_43) (by decide) (by decide) ?_
          refine Gz.iload 8 X1 hx (dd d3_6) rfl rfl ?_
          refine Gz.ifYes 46 X1 hx (dd d3_8) ((if0 _ _).trans (teq (by decide : (0 : Int32) = (0 : Int32))).1) (by decide) (by decide) ?_
          refine Gz.iload 48 X1 hx (dd d3_46) rfl rfl ?_
          refine Gz.fin X1 (v := some (.int (0 : Int32))) (fun h => by rw [hret] at h; cases h) hlk (by decide) (by decide) (fun fs hr => retN X1 hx (t := .boolean) hret (by simp) (dd d3_48) hr) ?_
          rw [e1]
          exact ⟨(by unfold f3; rw [if_pos hc2, if_pos (rfl : (0 : Int32) = (0 : Int32)), if_neg (by decide : ¬ ((3 : Int32) = (0 : Int32))), if_neg (by decide : ¬ ((3 : Int32) = (1 : Int32))), if_neg (by decide : ¬ ((3 : Int32) = (2 : Int32))), if_pos (rfl : (3 : Int32) = (3 : Int32)), if_pos hc13]), N0, rfl⟩
        · refine Gz.icmpNo 33 X1 hx (dd d3_30) (feq hc13).1 rfl ?_
          refine Gz.iconst 34 (1 : Int32) X1 hx (dd d3_33) rfl rfl ?_
          refine Gz.goto 38 X1 hx (dd d3_34) (by decide) (by decide) ?_
          refine Gz.istore 40 #[.val (.ref a0), .val (.ref a1), .val (.int (0 : Int32)), .val (.int (3 : Int32)), .val (.int (1 : Int32)), .val (.int (0 : Int32))] X1 hx (dd d3_38) rfl rfl ?_
          refine Gz.iinc 43 #[.val (.ref a0), .val (.ref a1), .val (.int (0 : Int32)), .val (.int (3 : Int32)), .val (.int (1 : Int32)), .val (.int (1 : Int32))] X1 hx (dd d3_40) rfl rfl rfl ?_
          refine Gz.goto 6 X1 hx (dd d3_43) (by decide) (by decide) ?_
          refine Gz.iload 8 X1 hx (dd d3_6) rfl rfl ?_
          refine Gz.ifNo 11 X1 hx (dd d3_8) ((if0 _ _).trans (feq (by decide : ¬ ((1 : Int32) = (0 : Int32)))).1) rfl ?_
          refine Gz.aloadN 12 X1 hx (dd d3_11) rfl rfl rfl ?_
          refine Gz.getS 15 X1 hx hZ hown (dd d3_12) (host := "") (Or.inl (ww hw 17 rfl)) Via.refl e1 S_s_DROP rfl fun T14 X14 e14 => ?_
          refine Gz.acmp 18 true X14 hx (dd d3_15) rfl rfl (decide_eq_true (congrArg Value.ref hc2)) (by decide) (by decide) ?_
          refine Gz.iload 20 X14 hx (dd d3_18) rfl rfl ?_
          refine Gz.iloadN 21 X14 hx (dd d3_20) rfl rfl ?_
          refine Gz.icmpNo 24 X14 hx (dd d3_21) (tlt (by decide : (1 : Int32) < (3 : Int32))).2.1 rfl ?_
          refine Gz.aloadN 25 X14 hx (dd d3_24) rfl rfl rfl ?_
          refine Gz.iload 27 X14 hx (dd d3_25) rfl rfl ?_
          obtain ⟨c15, A15, q15, S15, N15, H15, G15⟩ := id V_a1
          have hin15 : ¬ ((1 : Int32) < 0 ∨ c15.slots.size ≤ ((1 : Int32)).toNatClampNeg) := inb_of S15 ⟨by decide, by decide⟩
          refine Gz.ldB 28 X14 hx hZ (dd d3_27) e14 A15 hin15 (Has.at H15 hin15 (rfl : _ = ((.int v1) : Value))) rfl ?_
          refine Gz.bipush 30 (58 : Int32) X14 hx (dd d3_28) rfl rfl ?_
          by_cases hc16 : v1 = (58 : Int32)
          · refine Gz.icmpYes 37 X14 hx (dd d3_30) (teq hc16).1 (by decide) (by decide) ?_
            refine Gz.iconst 38 (0 : Int32) X14 hx (dd d3_37) rfl rfl ?_
            refine Gz.istore 40 #[.val (.ref a0), .val (.ref a1), .val (.int (0 : Int32)), .val (.int (3 : Int32)), .val (.int (0 : Int32)), .val (.int (1 : Int32))] X14 hx (dd d3_38) rfl rfl ?_
            refine Gz.iinc 43 #[.val (.ref a0), .val (.ref a1), .val (.int (0 : Int32)), .val (.int (3 : Int32)), .val (.int (0 : Int32)), .val (.int (2 : Int32))] X14 hx (dd d3_40) rfl rfl rfl ?_
            refine Gz.goto 6 X14 hx (dd d3_43) (by decide) (by decide) ?_
            refine Gz.iload 8 X14 hx (dd d3_6) rfl rfl ?_
            refine Gz.ifYes 46 X14 hx (dd d3_8) ((if0 _ _).trans (teq (by decide : (0 : Int32) = (0 : Int32))).1) (by decide) (by decide) ?_
            refine Gz.iload 48 X14 hx (dd d3_46) rfl rfl ?_
            refine Gz.fin X14 (v := some (.int (0 : Int32))) (fun h => by rw [hret] at h; cases h) hlk (by decide) (by decide) (fun fs hr => retN X14 hx (t := .boolean) hret (by simp) (dd d3_48) hr) ?_
            rw [e14]
            exact ⟨(by unfold f3; rw [if_pos hc2, if_pos (rfl : (0 : Int32) = (0 : Int32)), if_neg (by decide : ¬ ((3 : Int32) = (0 : Int32))), if_neg (by decide : ¬ ((3 : Int32) = (1 : Int32))), if_neg (by decide : ¬ ((3 : Int32) = (2 : Int32))), if_pos (rfl : (3 : Int32) = (3 : Int32)), if_neg hc13, if_pos hc16]), N0, rfl⟩
          · refine Gz.icmpNo 33 X14 hx (dd d3_30) (feq hc16).1 rfl ?_
            refine Gz.iconst 34 (1 : Int32) X14 hx (dd d3_33) rfl rfl ?_
            refine Gz.goto 38 X14 hx (dd d3_34) (by decide) (by decide) ?_
            refine Gz.istore 40 #[.val (.ref a0), .val (.ref a1), .val (.int (0 : Int32)), .val (.int (3 : Int32)), .val (.int (1 : Int32)), .val (.int (1 : Int32))] X14 hx (dd d3_38) rfl rfl ?_
            refine Gz.iinc 43 #[.val (.ref a0), .val (.ref a1), .val (.int (0 : Int32)), .val (.int (3 : Int32)), .val (.int (1 : Int32)), .val (.int (2 : Int32))] X14 hx (dd d3_40) rfl rfl rfl ?_
            refine Gz.goto 6 X14 hx (dd d3_43) (by decide) (by decide) ?_
            refine Gz.iload 8 X14 hx (dd d3_6) rfl rfl ?_
            refine Gz.ifNo 11 X14 hx (dd d3_8) ((if0 _ _).trans (feq (by decide : ¬ ((1 : Int32) = (0 : Int32)))).1) rfl ?_
            refine Gz.aloadN 12 X14 hx (dd d3_11) rfl rfl rfl ?_
            refine Gz.getS 15 X14 hx hZ hown (dd d3_12) (host := "") (Or.inl (ww hw 17 rfl)) Via.refl e14 S_s_DROP rfl fun T17 X17 e17 => ?_
            refine Gz.acmp 18 true X17 hx (dd d3_15) rfl rfl (decide_eq_true (congrArg Value.ref hc2)) (by decide) (by decide) ?_
            refine Gz.iload 20 X17 hx (dd d3_18) rfl rfl ?_
            refine Gz.iloadN 21 X17 hx (dd d3_20) rfl rfl ?_
            refine Gz.icmpNo 24 X17 hx (dd d3_21) (tlt (by decide : (2 : Int32) < (3 : Int32))).2.1 rfl ?_
            refine Gz.aloadN 25 X17 hx (dd d3_24) rfl rfl rfl ?_
            refine Gz.iload 27 X17 hx (dd d3_25) rfl rfl ?_
            obtain ⟨c18, A18, q18, S18, N18, H18, G18⟩ := id V_a1
            have hin18 : ¬ ((2 : Int32) < 0 ∨ c18.slots.size ≤ ((2 : Int32)).toNatClampNeg) := inb_of S18 ⟨by decide, by decide⟩
            refine Gz.ldB 28 X17 hx hZ (dd d3_27) e17 A18 hin18 (Has.at H18 hin18 (rfl : _ = ((.int v2) : Value))) rfl ?_
            refine Gz.bipush 30 (58 : Int32) X17 hx (dd d3_28) rfl rfl ?_
            by_cases hc19 : v2 = (58 : Int32)
            · refine Gz.icmpYes 37 X17 hx (dd d3_30) (teq hc19).1 (by decide) (by decide) ?_
              refine Gz.iconst 38 (0 : Int32) X17 hx (dd d3_37) rfl rfl ?_
              refine Gz.istore 40 #[.val (.ref a0), .val (.ref a1), .val (.int (0 : Int32)), .val (.int (3 : Int32)), .val (.int (0 : Int32)), .val (.int (2 : Int32))] X17 hx (dd d3_38) rfl rfl ?_
              refine Gz.iinc 43 #[.val (.ref a0), .val (.ref a1), .val (.int (0 : Int32)), .val (.int (3 : Int32)), .val (.int (0 : Int32)), .val (.int (3 : Int32))] X17 hx (dd d3_40) rfl rfl rfl ?_
              refine Gz.goto 6 X17 hx (dd d3_43) (by decide) (by decide) ?_
              refine Gz.iload 8 X17 hx (dd d3_6) rfl rfl ?_
              refine Gz.ifYes 46 X17 hx (dd d3_8) ((if0 _ _).trans (teq (by decide : (0 : Int32) = (0 : Int32))).1) (by decide) (by decide) ?_
              refine Gz.iload 48 X17 hx (dd d3_46) rfl rfl ?_
              refine Gz.fin X17 (v := some (.int (0 : Int32))) (fun h => by rw [hret] at h; cases h) hlk (by decide) (by decide) (fun fs hr => retN X17 hx (t := .boolean) hret (by simp) (dd d3_48) hr) ?_
              rw [e17]
              exact ⟨(by unfold f3; rw [if_pos hc2, if_pos (rfl : (0 : Int32) = (0 : Int32)), if_neg (by decide : ¬ ((3 : Int32) = (0 : Int32))), if_neg (by decide : ¬ ((3 : Int32) = (1 : Int32))), if_neg (by decide : ¬ ((3 : Int32) = (2 : Int32))), if_pos (rfl : (3 : Int32) = (3 : Int32)), if_neg hc13, if_neg hc16, if_pos hc19]), N0, rfl⟩
            · refine Gz.icmpNo 33 X17 hx (dd d3_30) (feq hc19).1 rfl ?_
              refine Gz.iconst 34 (1 : Int32) X17 hx (dd d3_33) rfl rfl ?_
              refine Gz.goto 38 X17 hx (dd d3_34) (by decide) (by decide) ?_
              refine Gz.istore 40 #[.val (.ref a0), .val (.ref a1), .val (.int (0 : Int32)), .val (.int (3 : Int32)), .val (.int (1 : Int32)), .val (.int (2 : Int32))] X17 hx (dd d3_38) rfl rfl ?_
              refine Gz.iinc 43 #[.val (.ref a0), .val (.ref a1), .val (.int (0 : Int32)), .val (.int (3 : Int32)), .val (.int (1 : Int32)), .val (.int (3 : Int32))] X17 hx (dd d3_40) rfl rfl rfl ?_
              refine Gz.goto 6 X17 hx (dd d3_43) (by decide) (by decide) ?_
              refine Gz.iload 8 X17 hx (dd d3_6) rfl rfl ?_
              refine Gz.ifNo 11 X17 hx (dd d3_8) ((if0 _ _).trans (feq (by decide : ¬ ((1 : Int32) = (0 : Int32)))).1) rfl ?_
              refine Gz.aloadN 12 X17 hx (dd d3_11) rfl rfl rfl ?_
              refine Gz.getS 15 X17 hx hZ hown (dd d3_12) (host := "") (Or.inl (ww hw 17 rfl)) Via.refl e17 S_s_DROP rfl fun T20 X20 e20 => ?_
              refine Gz.acmp 18 true X20 hx (dd d3_15) rfl rfl (decide_eq_true (congrArg Value.ref hc2)) (by decide) (by decide) ?_
              refine Gz.iload 20 X20 hx (dd d3_18) rfl rfl ?_
              refine Gz.iloadN 21 X20 hx (dd d3_20) rfl rfl ?_
              refine Gz.icmpYes 46 X20 hx (dd d3_21) (flt (by decide : ¬ ((3 : Int32) < (3 : Int32)))).2.1 (by decide) (by decide) ?_
              refine Gz.iload 48 X20 hx (dd d3_46) rfl rfl ?_
              refine Gz.fin X20 (v := some (.int (1 : Int32))) (fun h => by rw [hret] at h; cases h) hlk (by decide) (by decide) (fun fs hr => retN X20 hx (t := .boolean) hret (by simp) (dd d3_48) hr) ?_
              rw [e20]
              exact ⟨(by unfold f3; rw [if_pos hc2, if_pos (rfl : (0 : Int32) = (0 : Int32)), if_neg (by decide : ¬ ((3 : Int32) = (0 : Int32))), if_neg (by decide : ¬ ((3 : Int32) = (1 : Int32))), if_neg (by decide : ¬ ((3 : Int32) = (2 : Int32))), if_pos (rfl : (3 : Int32) = (3 : Int32)), if_neg hc13, if_neg hc16, if_neg hc19]), N0, rfl⟩
      · refine Gz.iloadN 21 X1 hx (dd d3_20) rfl rfl ?_
        refine Gz.icmpNo 24 X1 hx (dd d3_21) (tlt (by decide : (0 : Int32) < (4 : Int32))).2.1 rfl ?_
        refine Gz.aloadN 25 X1 hx (dd d3_24) rfl rfl rfl ?_
        refine Gz.iload 27 X1 hx (dd d3_25) rfl rfl ?_
        obtain ⟨c21, A21, q21, S21, N21, H21, G21⟩ := id V_a1
        have hin21 : ¬ ((0 : Int32) < 0 ∨ c21.slots.size ≤ ((0 : Int32)).toNatClampNeg) := inb_of S21 ⟨by decide, by decide⟩
        refine Gz.ldB 28 X1 hx hZ (dd d3_27) e1 A21 hin21 (Has.at H21 hin21 (rfl : _ = ((.int v0) : Value))) rfl ?_
        refine Gz.bipush 30 (58 : Int32) X1 hx (dd d3_28) rfl rfl ?_
        by_cases hc22 : v0 = (58 : Int32)
        · refine Gz.icmpYes 37 X1 hx (dd d3_30) (teq hc22).1 (by decide) (by decide) ?_
          refine Gz.iconst 38 (0 : Int32) X1 hx (dd d3_37) rfl rfl ?_
          refine Gz.istore 40 #[.val (.ref a0), .val (.ref a1), .val (.int (0 : Int32)), .val (.int (4 : Int32)), .val (.int (0 : Int32)), .val (.int (0 : Int32))] X1 hx (dd d3_38) rfl rfl ?_
          refine Gz.iinc 43 #[.val (.ref a0), .val (.ref a1), .val (.int (0 : Int32)), .val (.int (4 : Int32)), .val (.int (0 : Int32)), .val (.int (1 : Int32))] X1 hx (dd d3_40) rfl rfl rfl ?_
          refine Gz.goto 6 X1 hx (dd d3_43) (by decide) (by decide) ?_
          refine Gz.iload 8 X1 hx (dd d3_6) rfl rfl ?_
          refine Gz.ifYes 46 X1 hx (dd d3_8) ((if0 _ _).trans (teq (by decide : (0 : Int32) = (0 : Int32))).1) (by decide) (by decide) ?_
          refine Gz.iload 48 X1 hx (dd d3_46) rfl rfl ?_
          refine Gz.fin X1 (v := some (.int (0 : Int32))) (fun h => by rw [hret] at h; cases h) hlk (by decide) (by decide) (fun fs hr => retN X1 hx (t := .boolean) hret (by simp) (dd d3_48) hr) ?_
          rw [e1]
          exact ⟨(by unfold f3; rw [if_pos hc2, if_pos (rfl : (0 : Int32) = (0 : Int32)), if_neg (by decide : ¬ ((4 : Int32) = (0 : Int32))), if_neg (by decide : ¬ ((4 : Int32) = (1 : Int32))), if_neg (by decide : ¬ ((4 : Int32) = (2 : Int32))), if_neg (by decide : ¬ ((4 : Int32) = (3 : Int32))), if_pos hc22]), N0, rfl⟩
        · refine Gz.icmpNo 33 X1 hx (dd d3_30) (feq hc22).1 rfl ?_
          refine Gz.iconst 34 (1 : Int32) X1 hx (dd d3_33) rfl rfl ?_
          refine Gz.goto 38 X1 hx (dd d3_34) (by decide) (by decide) ?_
          refine Gz.istore 40 #[.val (.ref a0), .val (.ref a1), .val (.int (0 : Int32)), .val (.int (4 : Int32)), .val (.int (1 : Int32)), .val (.int (0 : Int32))] X1 hx (dd d3_38) rfl rfl ?_
          refine Gz.iinc 43 #[.val (.ref a0), .val (.ref a1), .val (.int (0 : Int32)), .val (.int (4 : Int32)), .val (.int (1 : Int32)), .val (.int (1 : Int32))] X1 hx (dd d3_40) rfl rfl rfl ?_
          refine Gz.goto 6 X1 hx (dd d3_43) (by decide) (by decide) ?_
          refine Gz.iload 8 X1 hx (dd d3_6) rfl rfl ?_
          refine Gz.ifNo 11 X1 hx (dd d3_8) ((if0 _ _).trans (feq (by decide : ¬ ((1 : Int32) = (0 : Int32)))).1) rfl ?_
          refine Gz.aloadN 12 X1 hx (dd d3_11) rfl rfl rfl ?_
          refine Gz.getS 15 X1 hx hZ hown (dd d3_12) (host := "") (Or.inl (ww hw 17 rfl)) Via.refl e1 S_s_DROP rfl fun T23 X23 e23 => ?_
          refine Gz.acmp 18 true X23 hx (dd d3_15) rfl rfl (decide_eq_true (congrArg Value.ref hc2)) (by decide) (by decide) ?_
          refine Gz.iload 20 X23 hx (dd d3_18) rfl rfl ?_
          refine Gz.iloadN 21 X23 hx (dd d3_20) rfl rfl ?_
          refine Gz.icmpNo 24 X23 hx (dd d3_21) (tlt (by decide : (1 : Int32) < (4 : Int32))).2.1 rfl ?_
          refine Gz.aloadN 25 X23 hx (dd d3_24) rfl rfl rfl ?_
          refine Gz.iload 27 X23 hx (dd d3_25) rfl rfl ?_
          obtain ⟨c24, A24, q24, S24, N24, H24, G24⟩ := id V_a1
          have hin24 : ¬ ((1 : Int32) < 0 ∨ c24.slots.size ≤ ((1 : Int32)).toNatClampNeg) := inb_of S24 ⟨by decide, by decide⟩
          refine Gz.ldB 28 X23 hx hZ (dd d3_27) e23 A24 hin24 (Has.at H24 hin24 (rfl : _ = ((.int v1) : Value))) rfl ?_
          refine Gz.bipush 30 (58 : Int32) X23 hx (dd d3_28) rfl rfl ?_
          by_cases hc25 : v1 = (58 : Int32)
          · refine Gz.icmpYes 37 X23 hx (dd d3_30) (teq hc25).1 (by decide) (by decide) ?_
            refine Gz.iconst 38 (0 : Int32) X23 hx (dd d3_37) rfl rfl ?_
            refine Gz.istore 40 #[.val (.ref a0), .val (.ref a1), .val (.int (0 : Int32)), .val (.int (4 : Int32)), .val (.int (0 : Int32)), .val (.int (1 : Int32))] X23 hx (dd d3_38) rfl rfl ?_
            refine Gz.iinc 43 #[.val (.ref a0), .val (.ref a1), .val (.int (0 : Int32)), .val (.int (4 : Int32)), .val (.int (0 : Int32)), .val (.int (2 : Int32))] X23 hx (dd d3_40) rfl rfl rfl ?_
            refine Gz.goto 6 X23 hx (dd d3_43) (by decide) (by decide) ?_
            refine Gz.iload 8 X23 hx (dd d3_6) rfl rfl ?_
            refine Gz.ifYes 46 X23 hx (dd d3_8) ((if0 _ _).trans (teq (by decide : (0 : Int32) = (0 : Int32))).1) (by decide) (by decide) ?_
            refine Gz.iload 48 X23 hx (dd d3_46) rfl rfl ?_
            refine Gz.fin X23 (v := some (.int (0 : Int32))) (fun h => by rw [hret] at h; cases h) hlk (by decide) (by decide) (fun fs hr => retN X23 hx (t := .boolean) hret (by simp) (dd d3_48) hr) ?_
            rw [e23]
            exact ⟨(by unfold f3; rw [if_pos hc2, if_pos (rfl : (0 : Int32) = (0 : Int32)), if_neg (by decide : ¬ ((4 : Int32) = (0 : Int32))), if_neg (by decide : ¬ ((4 : Int32) = (1 : Int32))), if_neg (by decide : ¬ ((4 : Int32) = (2 : Int32))), if_neg (by decide : ¬ ((4 : Int32) = (3 : Int32))), if_neg hc22, if_pos hc25]), N0, rfl⟩
          · refine Gz.icmpNo 33 X23 hx (dd d3_30) (feq hc25).1 rfl ?_
            refine Gz.iconst 34 (1 : Int32) X23 hx (dd d3_33) rfl rfl ?_
            refine Gz.goto 38 X23 hx (dd d3_34) (by decide) (by decide) ?_
            refine Gz.istore 40 #[.val (.ref a0), .val (.ref a1), .val (.int (0 : Int32)), .val (.int (4 : Int32)), .val (.int (1 : Int32)), .val (.int (1 : Int32))] X23 hx (dd d3_38) rfl rfl ?_
            refine Gz.iinc 43 #[.val (.ref a0), .val (.ref a1), .val (.int (0 : Int32)), .val (.int (4 : Int32)), .val (.int (1 : Int32)), .val (.int (2 : Int32))] X23 hx (dd d3_40) rfl rfl rfl ?_
            refine Gz.goto 6 X23 hx (dd d3_43) (by decide) (by decide) ?_
            refine Gz.iload 8 X23 hx (dd d3_6) rfl rfl ?_
            refine Gz.ifNo 11 X23 hx (dd d3_8) ((if0 _ _).trans (feq (by decide : ¬ ((1 : Int32) = (0 : Int32)))).1) rfl ?_
            refine Gz.aloadN 12 X23 hx (dd d3_11) rfl rfl rfl ?_
            refine Gz.getS 15 X23 hx hZ hown (dd d3_12) (host := "") (Or.inl (ww hw 17 rfl)) Via.refl e23 S_s_DROP rfl fun T26 X26 e26 => ?_
            refine Gz.acmp 18 true X26 hx (dd d3_15) rfl rfl (decide_eq_true (congrArg Value.ref hc2)) (by decide) (by decide) ?_
            refine Gz.iload 20 X26 hx (dd d3_18) rfl rfl ?_
            refine Gz.iloadN 21 X26 hx (dd d3_20) rfl rfl ?_
            refine Gz.icmpNo 24 X26 hx (dd d3_21) (tlt (by decide : (2 : Int32) < (4 : Int32))).2.1 rfl ?_
            refine Gz.aloadN 25 X26 hx (dd d3_24) rfl rfl rfl ?_
            refine Gz.iload 27 X26 hx (dd d3_25) rfl rfl ?_
            obtain ⟨c27, A27, q27, S27, N27, H27, G27⟩ := id V_a1
            have hin27 : ¬ ((2 : Int32) < 0 ∨ c27.slots.size ≤ ((2 : Int32)).toNatClampNeg) := inb_of S27 ⟨by decide, by decide⟩
            refine Gz.ldB 28 X26 hx hZ (dd d3_27) e26 A27 hin27 (Has.at H27 hin27 (rfl : _ = ((.int v2) : Value))) rfl ?_
            refine Gz.bipush 30 (58 : Int32) X26 hx (dd d3_28) rfl rfl ?_
            by_cases hc28 : v2 = (58 : Int32)
            · refine Gz.icmpYes 37 X26 hx (dd d3_30) (teq hc28).1 (by decide) (by decide) ?_
              refine Gz.iconst 38 (0 : Int32) X26 hx (dd d3_37) rfl rfl ?_
              refine Gz.istore 40 #[.val (.ref a0), .val (.ref a1), .val (.int (0 : Int32)), .val (.int (4 : Int32)), .val (.int (0 : Int32)), .val (.int (2 : Int32))] X26 hx (dd d3_38) rfl rfl ?_
              refine Gz.iinc 43 #[.val (.ref a0), .val (.ref a1), .val (.int (0 : Int32)), .val (.int (4 : Int32)), .val (.int (0 : Int32)), .val (.int (3 : Int32))] X26 hx (dd d3_40) rfl rfl rfl ?_
              refine Gz.goto 6 X26 hx (dd d3_43) (by decide) (by decide) ?_
              refine Gz.iload 8 X26 hx (dd d3_6) rfl rfl ?_
              refine Gz.ifYes 46 X26 hx (dd d3_8) ((if0 _ _).trans (teq (by decide : (0 : Int32) = (0 : Int32))).1) (by decide) (by decide) ?_
              refine Gz.iload 48 X26 hx (dd d3_46) rfl rfl ?_
              refine Gz.fin X26 (v := some (.int (0 : Int32))) (fun h => by rw [hret] at h; cases h) hlk (by decide) (by decide) (fun fs hr => retN X26 hx (t := .boolean) hret (by simp) (dd d3_48) hr) ?_
              rw [e26]
              exact ⟨(by unfold f3; rw [if_pos hc2, if_pos (rfl : (0 : Int32) = (0 : Int32)), if_neg (by decide : ¬ ((4 : Int32) = (0 : Int32))), if_neg (by decide : ¬ ((4 : Int32) = (1 : Int32))), if_neg (by decide : ¬ ((4 : Int32) = (2 : Int32))), if_neg (by decide : ¬ ((4 : Int32) = (3 : Int32))), if_neg hc22, if_neg hc25, if_pos hc28]), N0, rfl⟩
            · refine Gz.icmpNo 33 X26 hx (dd d3_30) (feq hc28).1 rfl ?_
              refine Gz.iconst 34 (1 : Int32) X26 hx (dd d3_33) rfl rfl ?_
              refine Gz.goto 38 X26 hx (dd d3_34) (by decide) (by decide) ?_
              refine Gz.istore 40 #[.val (.ref a0), .val (.ref a1), .val (.int (0 : Int32)), .val (.int (4 : Int32)), .val (.int (1 : Int32)), .val (.int (2 : Int32))] X26 hx (dd d3_38) rfl rfl ?_
              refine Gz.iinc 43 #[.val (.ref a0), .val (.ref a1), .val (.int (0 : Int32)), .val (.int (4 : Int32)), .val (.int (1 : Int32)), .val (.int (3 : Int32))] X26 hx (dd d3_40) rfl rfl rfl ?_
              refine Gz.goto 6 X26 hx (dd d3_43) (by decide) (by decide) ?_
              refine Gz.iload 8 X26 hx (dd d3_6) rfl rfl ?_
              refine Gz.ifNo 11 X26 hx (dd d3_8) ((if0 _ _).trans (feq (by decide : ¬ ((1 : Int32) = (0 : Int32)))).1) rfl ?_
              refine Gz.aloadN 12 X26 hx (dd d3_11) rfl rfl rfl ?_
              refine Gz.getS 15 X26 hx hZ hown (dd d3_12) (host := "") (Or.inl (ww hw 17 rfl)) Via.refl e26 S_s_DROP rfl fun T29 X29 e29 => ?_
              refine Gz.acmp 18 true X29 hx (dd d3_15) rfl rfl (decide_eq_true (congrArg Value.ref hc2)) (by decide) (by decide) ?_
              refine Gz.iload 20 X29 hx (dd d3_18) rfl rfl ?_
              refine Gz.iloadN 21 X29 hx (dd d3_20) rfl rfl ?_
              refine Gz.icmpNo 24 X29 hx (dd d3_21) (tlt (by decide : (3 : Int32) < (4 : Int32))).2.1 rfl ?_
              refine Gz.aloadN 25 X29 hx (dd d3_24) rfl rfl rfl ?_
              refine Gz.iload 27 X29 hx (dd d3_25) rfl rfl ?_
              obtain ⟨c30, A30, q30, S30, N30, H30, G30⟩ := id V_a1
              have hin30 : ¬ ((3 : Int32) < 0 ∨ c30.slots.size ≤ ((3 : Int32)).toNatClampNeg) := inb_of S30 ⟨by decide, by decide⟩
              refine Gz.ldB 28 X29 hx hZ (dd d3_27) e29 A30 hin30 (Has.at H30 hin30 (rfl : _ = ((.int v3) : Value))) rfl ?_
              refine Gz.bipush 30 (58 : Int32) X29 hx (dd d3_28) rfl rfl ?_
              by_cases hc31 : v3 = (58 : Int32)
              · refine Gz.icmpYes 37 X29 hx (dd d3_30) (teq hc31).1 (by decide) (by decide) ?_
                refine Gz.iconst 38 (0 : Int32) X29 hx (dd d3_37) rfl rfl ?_
                refine Gz.istore 40 #[.val (.ref a0), .val (.ref a1), .val (.int (0 : Int32)), .val (.int (4 : Int32)), .val (.int (0 : Int32)), .val (.int (3 : Int32))] X29 hx (dd d3_38) rfl rfl ?_
                refine Gz.iinc 43 #[.val (.ref a0), .val (.ref a1), .val (.int (0 : Int32)), .val (.int (4 : Int32)), .val (.int (0 : Int32)), .val (.int (4 : Int32))] X29 hx (dd d3_40) rfl rfl rfl ?_
                refine Gz.goto 6 X29 hx (dd d3_43) (by decide) (by decide) ?_
                refine Gz.iload 8 X29 hx (dd d3_6) rfl rfl ?_
                refine Gz.ifYes 46 X29 hx (dd d3_8) ((if0 _ _).trans (teq (by decide : (0 : Int32) = (0 : Int32))).1) (by decide) (by decide) ?_
                refine Gz.iload 48 X29 hx (dd d3_46) rfl rfl ?_
                refine Gz.fin X29 (v := some (.int (0 : Int32))) (fun h => by rw [hret] at h; cases h) hlk (by decide) (by decide) (fun fs hr => retN X29 hx (t := .boolean) hret (by simp) (dd d3_48) hr) ?_
                rw [e29]
                exact ⟨(by unfold f3; rw [if_pos hc2, if_pos (rfl : (0 : Int32) = (0 : Int32)), if_neg (by decide : ¬ ((4 : Int32) = (0 : Int32))), if_neg (by decide : ¬ ((4 : Int32) = (1 : Int32))), if_neg (by decide : ¬ ((4 : Int32) = (2 : Int32))), if_neg (by decide : ¬ ((4 : Int32) = (3 : Int32))), if_neg hc22, if_neg hc25, if_neg hc28, if_pos hc31]), N0, rfl⟩
              · refine Gz.icmpNo 33 X29 hx (dd d3_30) (feq hc31).1 rfl ?_
                refine Gz.iconst 34 (1 : Int32) X29 hx (dd d3_33) rfl rfl ?_
                refine Gz.goto 38 X29 hx (dd d3_34) (by decide) (by decide) ?_
                refine Gz.istore 40 #[.val (.ref a0), .val (.ref a1), .val (.int (0 : Int32)), .val (.int (4 : Int32)), .val (.int (1 : Int32)), .val (.int (3 : Int32))] X29 hx (dd d3_38) rfl rfl ?_
                refine Gz.iinc 43 #[.val (.ref a0), .val (.ref a1), .val (.int (0 : Int32)), .val (.int (4 : Int32)), .val (.int (1 : Int32)), .val (.int (4 : Int32))] X29 hx (dd d3_40) rfl rfl rfl ?_
                refine Gz.goto 6 X29 hx (dd d3_43) (by decide) (by decide) ?_
                refine Gz.iload 8 X29 hx (dd d3_6) rfl rfl ?_
                refine Gz.ifNo 11 X29 hx (dd d3_8) ((if0 _ _).trans (feq (by decide : ¬ ((1 : Int32) = (0 : Int32)))).1) rfl ?_
                refine Gz.aloadN 12 X29 hx (dd d3_11) rfl rfl rfl ?_
                refine Gz.getS 15 X29 hx hZ hown (dd d3_12) (host := "") (Or.inl (ww hw 17 rfl)) Via.refl e29 S_s_DROP rfl fun T32 X32 e32 => ?_
                refine Gz.acmp 18 true X32 hx (dd d3_15) rfl rfl (decide_eq_true (congrArg Value.ref hc2)) (by decide) (by decide) ?_
                refine Gz.iload 20 X32 hx (dd d3_18) rfl rfl ?_
                refine Gz.iloadN 21 X32 hx (dd d3_20) rfl rfl ?_
                refine Gz.icmpYes 46 X32 hx (dd d3_21) (flt (by decide : ¬ ((4 : Int32) < (4 : Int32)))).2.1 (by decide) (by decide) ?_
                refine Gz.iload 48 X32 hx (dd d3_46) rfl rfl ?_
                refine Gz.fin X32 (v := some (.int (1 : Int32))) (fun h => by rw [hret] at h; cases h) hlk (by decide) (by decide) (fun fs hr => retN X32 hx (t := .boolean) hret (by simp) (dd d3_48) hr) ?_
                rw [e32]
                exact ⟨(by unfold f3; rw [if_pos hc2, if_pos (rfl : (0 : Int32) = (0 : Int32)), if_neg (by decide : ¬ ((4 : Int32) = (0 : Int32))), if_neg (by decide : ¬ ((4 : Int32) = (1 : Int32))), if_neg (by decide : ¬ ((4 : Int32) = (2 : Int32))), if_neg (by decide : ¬ ((4 : Int32) = (3 : Int32))), if_neg hc22, if_neg hc25, if_neg hc28, if_neg hc31]), N0, rfl⟩
    · refine Gz.iload 20 X1 hx (dd d3_18) rfl rfl ?_
      show Gz p e below s _ _ _ (T1.setTop (mkF m 20 #[.val (.ref a0), .val (.ref a1), .val (.int (1 : Int32)), .val (.int p3), .val (.int (1 : Int32)), .val (.int (1 : Int32))] [(.int (1 : Int32))]))
      rcases hp3 with rfl | rfl | rfl | rfl | rfl
      · refine Gz.iloadN 21 X1 hx (dd d3_20) rfl rfl ?_
        refine Gz.icmpYes 46 X1 hx (dd d3_21) (flt (by decide : ¬ ((1 : Int32) < (0 : Int32)))).2.1 (by decide) (by decide) ?_
        refine Gz.iload 48 X1 hx (dd d3_46) rfl rfl ?_
        refine Gz.fin X1 (v := some (.int (1 : Int32))) (fun h => by rw [hret] at h; cases h) hlk (by decide) (by decide) (fun fs hr => retN X1 hx (t := .boolean) hret (by simp) (dd d3_48) hr) ?_
        rw [e1]
        exact ⟨(by unfold f3; rw [if_pos hc2, if_neg (by decide : ¬ ((1 : Int32) = (0 : Int32))), if_pos (rfl : (1 : Int32) = (1 : Int32)), if_pos (rfl : (0 : Int32) = (0 : Int32))]), N0, rfl⟩
      · refine Gz.iloadN 21 X1 hx (dd d3_20) rfl rfl ?_
        refine Gz.icmpYes 46 X1 hx (dd d3_21) (flt (by decide : ¬ ((1 : Int32) < (1 : Int32)))).2.1 (by decide) (by decide) ?_
        refine Gz.iload 48 X1 hx (dd d3_46) rfl rfl ?_
        refine Gz.fin X1 (v := some (.int (1 : Int32))) (fun h => by rw [hret] at h; cases h) hlk (by decide) (by decide) (fun fs hr => retN X1 hx (t := .boolean) hret (by simp) (dd d3_48) hr) ?_
        rw [e1]
        exact ⟨(by unfold f3; rw [if_pos hc2, if_neg (by decide : ¬ ((1 : Int32) = (0 : Int32))), if_pos (rfl : (1 : Int32) = (1 : Int32)), if_neg (by decide : ¬ ((1 : Int32) = (0 : Int32))), if_pos (rfl : (1 : Int32) = (1 : Int32))]), N0, rfl⟩
      · refine Gz.iloadN 21 X1 hx (dd d3_20) rfl rfl ?_
        refine Gz.icmpNo 24 X1 hx (dd d3_21) (tlt (by decide : (1 : Int32) < (2 : Int32))).2.1 rfl ?_
        refine Gz.aloadN 25 X1 hx (dd d3_24) rfl rfl rfl ?_
        refine Gz.iload 27 X1 hx (dd d3_25) rfl rfl ?_
        obtain ⟨c33, A33, q33, S33, N33, H33, G33⟩ := id V_a1
        have hin33 : ¬ ((1 : Int32) < 0 ∨ c33.slots.size ≤ ((1 : Int32)).toNatClampNeg) := inb_of S33 ⟨by decide, by decide⟩
        refine Gz.ldB 28 X1 hx hZ (dd d3_27) e1 A33 hin33 (Has.at H33 hin33 (rfl : _ = ((.int v1) : Value))) rfl ?_
        refine Gz.bipush 30 (58 : Int32) X1 hx (dd d3_28) rfl rfl ?_
        by_cases hc34 : v1 = (58 : Int32)
        · refine Gz.icmpYes 37 X1 hx (dd d3_30) (teq hc34).1 (by decide) (by decide) ?_
          refine Gz.iconst 38 (0 : Int32) X1 hx (dd d3_37) rfl rfl ?_
          refine Gz.istore 40 #[.val (.ref a0), .val (.ref a1), .val (.int (1 : Int32)), .val (.int (2 : Int32)), .val (.int (0 : Int32)), .val (.int (1 : Int32))] X1 hx (dd d3_38) rfl rfl ?_
          refine Gz.iinc 43 #[.val (.ref a0), .val (.ref a1), .val (.int (1 : Int32)), .val (.int (2 : Int32)), .val (.int (0 : Int32)), .val (.int (2 : Int32))] X1 hx (dd d3_40) rfl rfl rfl ?_
          refine Gz.goto 6 X1 hx (dd d3_43) (by decide) (by decide) ?_
          refine Gz.iload 8 X1 hx (dd d3_6) rfl rfl ?_
          refine Gz.ifYes 46 X1 hx (dd d3_8) ((if0 _ _).trans (teq (by decide : (0 : Int32) = (0 : Int32))).1) (by decide) (by decide) ?_
          refine Gz.iload 48 X1 hx (dd d3_46) rfl rfl ?_
          refine Gz.fin X1 (v := some (.int (0 : Int32))) (fun h => by rw [hret] at h; cases h) hlk (by decide) (by decide) (fun fs hr => retN X1 hx (t := .boolean) hret (by simp) (dd d3_48) hr) ?_
          rw [e1]
          exact ⟨(by unfold f3; rw [if_pos hc2, if_neg (by decide : ¬ ((1 : Int32) = (0 : Int32))), if_pos (rfl : (1 : Int32) = (1 : Int32)), if_neg (by decide : ¬ ((2 : Int32) = (0 : Int32))), if_neg (by decide : ¬ ((2 : Int32) = (1 : Int32))), if_pos (rfl : (2 : Int32) = (2 : Int32)), if_pos hc34]), N0, rfl⟩
        · refine Gz.icmpNo 33 X1 hx (dd d3_30) (feq hc34).1 rfl ?_
          refine Gz.iconst 34 (1 : Int32) X1 hx (dd d3_33) rfl rfl ?_
          refine Gz.goto 38 X1 hx (dd d3_34) (by decide) (by decide) ?_
          refine Gz.istore 40 #[.val (.ref a0), .val (.ref a1), .val (.int (1 : Int32)), .val (.int (2 : Int32)), .val (.int (1 : Int32)), .val (.int (1 : Int32))] X1 hx (dd d3_38) rfl rfl ?_
          refine Gz.iinc 43 #[.val (.ref a0), .val (.ref a1), .val (.int (1 : Int32)), .val (.int (2 : Int32)), .val (.int (1 : Int32)), .val (.int (2 : Int32))] X1 hx (dd d3_40) rfl rfl rfl ?_
          refine Gz.goto 6 X1 hx (dd d3_43) (by decide) (by decide) ?_
          refine Gz.iload 8 X1 hx (dd d3_6) rfl rfl ?_
          refine Gz.ifNo 11 X1 hx (dd d3_8) ((if0 _ _).trans (feq (by decide : ¬ ((1 : Int32) = (0 : Int32)))).1) rfl ?_
          refine Gz.aloadN 12 X1 hx (dd d3_11) rfl rfl rfl ?_
          refine Gz.getS 15 X1 hx hZ hown (dd d3_12) (host := "") (Or.inl (ww hw 17 rfl)) Via.refl e1 S_s_DROP rfl fun T35 X35 e35 => ?_
          refine Gz.acmp 18 true X35 hx (dd d3_15) rfl rfl (decide_eq_true (congrArg Value.ref hc2)) (by decide) (by decide) ?_
          refine Gz.iload 20 X35 hx (dd d3_18) rfl rfl ?_
          refine Gz.iloadN 21 X35 hx (dd d3_20) rfl rfl ?_
          refine Gz.icmpYes 46 X35 hx (dd d3_21) (flt (by decide : ¬ ((2 : Int32) < (2 : Int32)))).2.1 (by decide) (by decide) ?_
          refine Gz.iload 48 X35 hx (dd d3_46) rfl rfl ?_
          refine Gz.fin X35 (v := some (.int (1 : Int32))) (fun h => by rw [hret] at h; cases h) hlk (by decide) (by decide) (fun fs hr => retN X35 hx (t := .boolean) hret (by simp) (dd d3_48) hr) ?_
          rw [e35]
          exact ⟨(by unfold f3; rw [if_pos hc2, if_neg (by decide : ¬ ((1 : Int32) = (0 : Int32))), if_pos (rfl : (1 : Int32) = (1 : Int32)), if_neg (by decide : ¬ ((2 : Int32) = (0 : Int32))), if_neg (by decide : ¬ ((2 : Int32) = (1 : Int32))), if_pos (rfl : (2 : Int32) = (2 : Int32)), if_neg hc34]), N0, rfl⟩
      · refine Gz.iloadN 21 X1 hx (dd d3_20) rfl rfl ?_
        refine Gz.icmpNo 24 X1 hx (dd d3_21) (tlt (by decide : (1 : Int32) < (3 : Int32))).2.1 rfl ?_
        refine Gz.aloadN 25 X1 hx (dd d3_24) rfl rfl rfl ?_
        refine Gz.iload 27 X1 hx (dd d3_25) rfl rfl ?_
        obtain ⟨c36, A36, q36, S36, N36, H36, G36⟩ := id V_a1
        have hin36 : ¬ ((1 : Int32) < 0 ∨ c36.slots.size ≤ ((1 : Int32)).toNatClampNeg) := inb_of S36 ⟨by decide, by decide⟩
        refine Gz.ldB 28 X1 hx hZ (dd d3_27) e1 A36 hin36 (Has.at H36 hin36 (rfl : _ = ((.int v1) : Value))) rfl ?_
        refine Gz.bipush 30 (58 : Int32) X1 hx (dd d3_28) rfl rfl ?_
        by_cases hc37 : v1 = (58 : Int32)
        · refine Gz.icmpYes 37 X1 hx (dd d3_30) (teq hc37).1 (by decide) (by decide) ?_
          refine Gz.iconst 38 (0 : Int32) X1 hx (dd d3_37) rfl rfl ?_
          refine Gz.istore 40 #[.val (.ref a0), .val (.ref a1), .val (.int (1 : Int32)), .val (.int (3 : Int32)), .val (.int (0 : Int32)), .val (.int (1 : Int32))] X1 hx (dd d3_38) rfl rfl ?_
          refine Gz.iinc 43 #[.val (.ref a0), .val (.ref a1), .val (.int (1 : Int32)), .val (.int (3 : Int32)), .val (.int (0 : Int32)), .val (.int (2 : Int32))] X1 hx (dd d3_40) rfl rfl rfl ?_
          refine Gz.goto 6 X1 hx (dd d3_43) (by decide) (by decide) ?_
          refine Gz.iload 8 X1 hx (dd d3_6) rfl rfl ?_
          refine Gz.ifYes 46 X1 hx (dd d3_8) ((if0 _ _).trans (teq (by decide : (0 : Int32) = (0 : Int32))).1) (by decide) (by decide) ?_
          refine Gz.iload 48 X1 hx (dd d3_46) rfl rfl ?_
          refine Gz.fin X1 (v := some (.int (0 : Int32))) (fun h => by rw [hret] at h; cases h) hlk (by decide) (by decide) (fun fs hr => retN X1 hx (t := .boolean) hret (by simp) (dd d3_48) hr) ?_
          rw [e1]
          exact ⟨(by unfold f3; rw [if_pos hc2, if_neg (by decide : ¬ ((1 : Int32) = (0 : Int32))), if_pos (rfl : (1 : Int32) = (1 : Int32)), if_neg (by decide : ¬ ((3 : Int32) = (0 : Int32))), if_neg (by decide : ¬ ((3 : Int32) = (1 : Int32))), if_neg (by decide : ¬ ((3 : Int32) = (2 : Int32))), if_pos (rfl : (3 : Int32) = (3 : Int32)), if_pos hc37]), N0, rfl⟩
        · refine Gz.icmpNo 33 X1 hx (dd d3_30) (feq hc37).1 rfl ?_
          refine Gz.iconst 34 (1 : Int32) X1 hx (dd d3_33) rfl rfl ?_
          refine Gz.goto 38 X1 hx (dd d3_34) (by decide) (by decide) ?_
          refine Gz.istore 40 #[.val (.ref a0), .val (.ref a1), .val (.int (1 : Int32)), .val (.int (3 : Int32)), .val (.int (1 : Int32)), .val (.int (1 : Int32))] X1 hx (dd d3_38) rfl rfl ?_
          refine Gz.iinc 43 #[.val (.ref a0), .val (.ref a1), .val (.int (1 : Int32)), .val (.int (3 : Int32)), .val (.int (1 : Int32)), .val (.int (2 : Int32))] X1 hx (dd d3_40) rfl rfl rfl ?_
          refine Gz.goto 6 X1 hx (dd d3_43) (by decide) (by decide) ?_
          refine Gz.iload 8 X1 hx (dd d3_6) rfl rfl ?_
          refine Gz.ifNo 11 X1 hx (dd d3_8) ((if0 _ _).trans (feq (by decide : ¬ ((1 : Int32) = (0 : Int32)))).1) rfl ?_
          refine Gz.aloadN 12 X1 hx (dd d3_11) rfl rfl rfl ?_
          refine Gz.getS 15 X1 hx hZ hown (dd d3_12) (host := "") (Or.inl (ww hw 17 rfl)) Via.refl e1 S_s_DROP rfl fun T38 X38 e38 => ?_
          refine Gz.acmp 18 true X38 hx (dd d3_15) rfl rfl (decide_eq_true (congrArg Value.ref hc2)) (by decide) (by decide) ?_
          refine Gz.iload 20 X38 hx (dd d3_18) rfl rfl ?_
          refine Gz.iloadN 21 X38 hx (dd d3_20) rfl rfl ?_
          refine Gz.icmpNo 24 X38 hx (dd d3_21) (tlt (by decide : (2 : Int32) < (3 : Int32))).2.1 rfl ?_
          refine Gz.aloadN 25 X38 hx (dd d3_24) rfl rfl rfl ?_
          refine Gz.iload 27 X38 hx (dd d3_25) rfl rfl ?_
          obtain ⟨c39, A39, q39, S39, N39, H39, G39⟩ := id V_a1
          have hin39 : ¬ ((2 : Int32) < 0 ∨ c39.slots.size ≤ ((2 : Int32)).toNatClampNeg) := inb_of S39 ⟨by decide, by decide⟩
          refine Gz.ldB 28 X38 hx hZ (dd d3_27) e38 A39 hin39 (Has.at H39 hin39 (rfl : _ = ((.int v2) : Value))) rfl ?_
          refine Gz.bipush 30 (58 : Int32) X38 hx (dd d3_28) rfl rfl ?_
          by_cases hc40 : v2 = (58 : Int32)
          · refine Gz.icmpYes 37 X38 hx (dd d3_30) (teq hc40).1 (by decide) (by decide) ?_
            refine Gz.iconst 38 (0 : Int32) X38 hx (dd d3_37) rfl rfl ?_
            refine Gz.istore 40 #[.val (.ref a0), .val (.ref a1), .val (.int (1 : Int32)), .val (.int (3 : Int32)), .val (.int (0 : Int32)), .val (.int (2 : Int32))] X38 hx (dd d3_38) rfl rfl ?_
            refine Gz.iinc 43 #[.val (.ref a0), .val (.ref a1), .val (.int (1 : Int32)), .val (.int (3 : Int32)), .val (.int (0 : Int32)), .val (.int (3 : Int32))] X38 hx (dd d3_40) rfl rfl rfl ?_
            refine Gz.goto 6 X38 hx (dd d3_43) (by decide) (by decide) ?_
            refine Gz.iload 8 X38 hx (dd d3_6) rfl rfl ?_
            refine Gz.ifYes 46 X38 hx (dd d3_8) ((if0 _ _).trans (teq (by decide : (0 : Int32) = (0 : Int32))).1) (by decide) (by decide) ?_
            refine Gz.iload 48 X38 hx (dd d3_46) rfl rfl ?_
            refine Gz.fin X38 (v := some (.int (0 : Int32))) (fun h => by rw [hret] at h; cases h) hlk (by decide) (by decide) (fun fs hr => retN X38 hx (t := .boolean) hret (by simp) (dd d3_48) hr) ?_
            rw [e38]
            exact ⟨(by unfold f3; rw [if_pos hc2, if_neg (by decide : ¬ ((1 : Int32) = (0 : Int32))), if_pos (rfl : (1 : Int32) = (1 : Int32)), if_neg (by decide : ¬ ((3 : Int32) = (0 : Int32))), if_neg (by decide : ¬ ((3 : Int32) = (1 : Int32))), if_neg (by decide : ¬ ((3 : Int32) = (2 : Int32))), if_pos (rfl : (3 : Int32) = (3 : Int32)), if_neg hc37, if_pos hc40]), N0, rfl⟩
          · refine Gz.icmpNo 33 X38 hx (dd d3_30) (feq hc40).1 rfl ?_
            refine Gz.iconst 34 (1 : Int32) X38 hx (dd d3_33) rfl rfl ?_
            refine Gz.goto 38 X38 hx (dd d3_34) (by decide) (by decide) ?_
            refine Gz.istore 40 #[.val (.ref a0), .val (.ref a1), .val (.int (1 : Int32)), .val (.int (3 : Int32)), .val (.int (1 : Int32)), .val (.int (2 : Int32))] X38 hx (dd d3_38) rfl rfl ?_
            refine Gz.iinc 43 #[.val (.ref a0), .val (.ref a1), .val (.int (1 : Int32)), .val (.int (3 : Int32)), .val (.int (1 : Int32)), .val (.int (3 : Int32))] X38 hx (dd d3_40) rfl rfl rfl ?_
            refine Gz.goto 6 X38 hx (dd d3_43) (by decide) (by decide) ?_
            refine Gz.iload 8 X38 hx (dd d3_6) rfl rfl ?_
            refine Gz.ifNo 11 X38 hx (dd d3_8) ((if0 _ _).trans (feq (by decide : ¬ ((1 : Int32) = (0 : Int32)))).1) rfl ?_
            refine Gz.aloadN 12 X38 hx (dd d3_11) rfl rfl rfl ?_
            refine Gz.getS 15 X38 hx hZ hown (dd d3_12) (host := "") (Or.inl (ww hw 17 rfl)) Via.refl e38 S_s_DROP rfl fun T41 X41 e41 => ?_
            refine Gz.acmp 18 true X41 hx (dd d3_15) rfl rfl (decide_eq_true (congrArg Value.ref hc2)) (by decide) (by decide) ?_
            refine Gz.iload 20 X41 hx (dd d3_18) rfl rfl ?_
            refine Gz.iloadN 21 X41 hx (dd d3_20) rfl rfl ?_
            refine Gz.icmpYes 46 X41 hx (dd d3_21) (flt (by decide : ¬ ((3 : Int32) < (3 : Int32)))).2.1 (by decide) (by decide) ?_
            refine Gz.iload 48 X41 hx (dd d3_46) rfl rfl ?_
            refine Gz.fin X41 (v := some (.int (1 : Int32))) (fun h => by rw [hret] at h; cases h) hlk (by decide) (by decide) (fun fs hr => retN X41 hx (t := .boolean) hret (by simp) (dd d3_48) hr) ?_
            rw [e41]
            exact ⟨(by unfold f3; rw [if_pos hc2, if_neg (by decide : ¬ ((1 : Int32) = (0 : Int32))), if_pos (rfl : (1 : Int32) = (1 : Int32)), if_neg (by decide : ¬ ((3 : Int32) = (0 : Int32))), if_neg (by decide : ¬ ((3 : Int32) = (1 : Int32))), if_neg (by decide : ¬ ((3 : Int32) = (2 : Int32))), if_pos (rfl : (3 : Int32) = (3 : Int32)), if_neg hc37, if_neg hc40]), N0, rfl⟩
      · refine Gz.iloadN 21 X1 hx (dd d3_20) rfl rfl ?_
        refine Gz.icmpNo 24 X1 hx (dd d3_21) (tlt (by decide : (1 : Int32) < (4 : Int32))).2.1 rfl ?_
        refine Gz.aloadN 25 X1 hx (dd d3_24) rfl rfl rfl ?_
        refine Gz.iload 27 X1 hx (dd d3_25) rfl rfl ?_
        obtain ⟨c42, A42, q42, S42, N42, H42, G42⟩ := id V_a1
        have hin42 : ¬ ((1 : Int32) < 0 ∨ c42.slots.size ≤ ((1 : Int32)).toNatClampNeg) := inb_of S42 ⟨by decide, by decide⟩
        refine Gz.ldB 28 X1 hx hZ (dd d3_27) e1 A42 hin42 (Has.at H42 hin42 (rfl : _ = ((.int v1) : Value))) rfl ?_
        refine Gz.bipush 30 (58 : Int32) X1 hx (dd d3_28) rfl rfl ?_
        by_cases hc43 : v1 = (58 : Int32)
        · refine Gz.icmpYes 37 X1 hx (dd d3_30) (teq hc43).1 (by decide) (by decide) ?_
          refine Gz.iconst 38 (0 : Int32) X1 hx (dd d3_37) rfl rfl ?_
          refine Gz.istore 40 #[.val (.ref a0), .val (.ref a1), .val (.int (1 : Int32)), .val (.int (4 : Int32)), .val (.int (0 : Int32)), .val (.int (1 : Int32))] X1 hx (dd d3_38) rfl rfl ?_
          refine Gz.iinc 43 #[.val (.ref a0), .val (.ref a1), .val (.int (1 : Int32)), .val (.int (4 : Int32)), .val (.int (0 : Int32)), .val (.int (2 : Int32))] X1 hx (dd d3_40) rfl rfl rfl ?_
          refine Gz.goto 6 X1 hx (dd d3_43) (by decide) (by decide) ?_
          refine Gz.iload 8 X1 hx (dd d3_6) rfl rfl ?_
          refine Gz.ifYes 46 X1 hx (dd d3_8) ((if0 _ _).trans (teq (by decide : (0 : Int32) = (0 : Int32))).1) (by decide) (by decide) ?_
          refine Gz.iload 48 X1 hx (dd d3_46) rfl rfl ?_
          refine Gz.fin X1 (v := some (.int (0 : Int32))) (fun h => by rw [hret] at h; cases h) hlk (by decide) (by decide) (fun fs hr => retN X1 hx (t := .boolean) hret (by simp) (dd d3_48) hr) ?_
          rw [e1]
          exact ⟨(by unfold f3; rw [if_pos hc2, if_neg (by decide : ¬ ((1 : Int32) = (0 : Int32))), if_pos (rfl : (1 : Int32) = (1 : Int32)), if_neg (by decide : ¬ ((4 : Int32) = (0 : Int32))), if_neg (by decide : ¬ ((4 : Int32) = (1 : Int32))), if_neg (by decide : ¬ ((4 : Int32) = (2 : Int32))), if_neg (by decide : ¬ ((4 : Int32) = (3 : Int32))), if_pos hc43]), N0, rfl⟩
        · refine Gz.icmpNo 33 X1 hx (dd d3_30) (feq hc43).1 rfl ?_
          refine Gz.iconst 34 (1 : Int32) X1 hx (dd d3_33) rfl rfl ?_
          refine Gz.goto 38 X1 hx (dd d3_34) (by decide) (by decide) ?_
          refine Gz.istore 40 #[.val (.ref a0), .val (.ref a1), .val (.int (1 : Int32)), .val (.int (4 : Int32)), .val (.int (1 : Int32)), .val (.int (1 : Int32))] X1 hx (dd d3_38) rfl rfl ?_
          refine Gz.iinc 43 #[.val (.ref a0), .val (.ref a1), .val (.int (1 : Int32)), .val (.int (4 : Int32)), .val (.int (1 : Int32)), .val (.int (2 : Int32))] X1 hx (dd d3_40) rfl rfl rfl ?_
          refine Gz.goto 6 X1 hx (dd d3_43) (by decide) (by decide) ?_
          refine Gz.iload 8 X1 hx (dd d3_6) rfl rfl ?_
          refine Gz.ifNo 11 X1 hx (dd d3_8) ((if0 _ _).trans (feq (by decide : ¬ ((1 : Int32) = (0 : Int32)))).1) rfl ?_
          refine Gz.aloadN 12 X1 hx (dd d3_11) rfl rfl rfl ?_
          refine Gz.getS 15 X1 hx hZ hown (dd d3_12) (host := "") (Or.inl (ww hw 17 rfl)) Via.refl e1 S_s_DROP rfl fun T44 X44 e44 => ?_
          refine Gz.acmp 18 true X44 hx (dd d3_15) rfl rfl (decide_eq_true (congrArg Value.ref hc2)) (by decide) (by decide) ?_
          refine Gz.iload 20 X44 hx (dd d3_18) rfl rfl ?_
          refine Gz.iloadN 21 X44 hx (dd d3_20) rfl rfl ?_
          refine Gz.icmpNo 24 X44 hx (dd d3_21) (tlt (by decide : (2 : Int32) < (4 : Int32))).2.1 rfl ?_
          refine Gz.aloadN 25 X44 hx (dd d3_24) rfl rfl rfl ?_
          refine Gz.iload 27 X44 hx (dd d3_25) rfl rfl ?_
          obtain ⟨c45, A45, q45, S45, N45, H45, G45⟩ := id V_a1
          have hin45 : ¬ ((2 : Int32) < 0 ∨ c45.slots.size ≤ ((2 : Int32)).toNatClampNeg) := inb_of S45 ⟨by decide, by decide⟩
          refine Gz.ldB 28 X44 hx hZ (dd d3_27) e44 A45 hin45 (Has.at H45 hin45 (rfl : _ = ((.int v2) : Value))) rfl ?_
          refine Gz.bipush 30 (58 : Int32) X44 hx (dd d3_28) rfl rfl ?_
          by_cases hc46 : v2 = (58 : Int32)
          · refine Gz.icmpYes 37 X44 hx (dd d3_30) (teq hc46).1 (by decide) (by decide) ?_
            refine Gz.iconst 38 (0 : Int32) X44 hx (dd d3_37) rfl rfl ?_
            refine Gz.istore 40 #[.val (.ref a0), .val (.ref a1), .val (.int (1 : Int32)), .val (.int (4 : Int32)), .val (.int (0 : Int32)), .val (.int (2 : Int32))] X44 hx (dd d3_38) rfl rfl ?_
            refine Gz.iinc 43 #[.val (.ref a0), .val (.ref a1), .val (.int (1 : Int32)), .val (.int (4 : Int32)), .val (.int (0 : Int32)), .val (.int (3 : Int32))] X44 hx (dd d3_40) rfl rfl rfl ?_
            refine Gz.goto 6 X44 hx (dd d3_43) (by decide) (by decide) ?_
            refine Gz.iload 8 X44 hx (dd d3_6) rfl rfl ?_
            refine Gz.ifYes 46 X44 hx (dd d3_8) ((if0 _ _).trans (teq (by decide : (0 : Int32) = (0 : Int32))).1) (by decide) (by decide) ?_
            refine Gz.iload 48 X44 hx (dd d3_46) rfl rfl ?_
            refine Gz.fin X44 (v := some (.int (0 : Int32))) (fun h => by rw [hret] at h; cases h) hlk (by decide) (by decide) (fun fs hr => retN X44 hx (t := .boolean) hret (by simp) (dd d3_48) hr) ?_
            rw [e44]
            exact ⟨(by unfold f3; rw [if_pos hc2, if_neg (by decide : ¬ ((1 : Int32) = (0 : Int32))), if_pos (rfl : (1 : Int32) = (1 : Int32)), if_neg (by decide : ¬ ((4 : Int32) = (0 : Int32))), if_neg (by decide : ¬ ((4 : Int32) = (1 : Int32))), if_neg (by decide : ¬ ((4 : Int32) = (2 : Int32))), if_neg (by decide : ¬ ((4 : Int32) = (3 : Int32))), if_neg hc43, if_pos hc46]), N0, rfl⟩
          · refine Gz.icmpNo 33 X44 hx (dd d3_30) (feq hc46).1 rfl ?_
            refine Gz.iconst 34 (1 : Int32) X44 hx (dd d3_33) rfl rfl ?_
            refine Gz.goto 38 X44 hx (dd d3_34) (by decide) (by decide) ?_
            refine Gz.istore 40 #[.val (.ref a0), .val (.ref a1), .val (.int (1 : Int32)), .val (.int (4 : Int32)), .val (.int (1 : Int32)), .val (.int (2 : Int32))] X44 hx (dd d3_38) rfl rfl ?_
            refine Gz.iinc 43 #[.val (.ref a0), .val (.ref a1), .val (.int (1 : Int32)), .val (.int (4 : Int32)), .val (.int (1 : Int32)), .val (.int (3 : Int32))] X44 hx (dd d3_40) rfl rfl rfl ?_
            refine Gz.goto 6 X44 hx (dd d3_43) (by decide) (by decide) ?_
            refine Gz.iload 8 X44 hx (dd d3_6) rfl rfl ?_
            refine Gz.ifNo 11 X44 hx (dd d3_8) ((if0 _ _).trans (feq (by decide : ¬ ((1 : Int32) = (0 : Int32)))).1) rfl ?_
            refine Gz.aloadN 12 X44 hx (dd d3_11) rfl rfl rfl ?_
            refine Gz.getS 15 X44 hx hZ hown (dd d3_12) (host := "") (Or.inl (ww hw 17 rfl)) Via.refl e44 S_s_DROP rfl fun T47 X47 e47 => ?_
            refine Gz.acmp 18 true X47 hx (dd d3_15) rfl rfl (decide_eq_true (congrArg Value.ref hc2)) (by decide) (by decide) ?_
            refine Gz.iload 20 X47 hx (dd d3_18) rfl rfl ?_
            refine Gz.iloadN 21 X47 hx (dd d3_20) rfl rfl ?_
            refine Gz.icmpNo 24 X47 hx (dd d3_21) (tlt (by decide : (3 : Int32) < (4 : Int32))).2.1 rfl ?_
            refine Gz.aloadN 25 X47 hx (dd d3_24) rfl rfl rfl ?_
            refine Gz.iload 27 X47 hx (dd d3_25) rfl rfl ?_
            obtain ⟨c48, A48, q48, S48, N48, H48, G48⟩ := id V_a1
            have hin48 : ¬ ((3 : Int32) < 0 ∨ c48.slots.size ≤ ((3 : Int32)).toNatClampNeg) := inb_of S48 ⟨by decide, by decide⟩
            refine Gz.ldB 28 X47 hx hZ (dd d3_27) e47 A48 hin48 (Has.at H48 hin48 (rfl : _ = ((.int v3) : Value))) rfl ?_
            refine Gz.bipush 30 (58 : Int32) X47 hx (dd d3_28) rfl rfl ?_
            by_cases hc49 : v3 = (58 : Int32)
            · refine Gz.icmpYes 37 X47 hx (dd d3_30) (teq hc49).1 (by decide) (by decide) ?_
              refine Gz.iconst 38 (0 : Int32) X47 hx (dd d3_37) rfl rfl ?_
              refine Gz.istore 40 #[.val (.ref a0), .val (.ref a1), .val (.int (1 : Int32)), .val (.int (4 : Int32)), .val (.int (0 : Int32)), .val (.int (3 : Int32))] X47 hx (dd d3_38) rfl rfl ?_
              refine Gz.iinc 43 #[.val (.ref a0), .val (.ref a1), .val (.int (1 : Int32)), .val (.int (4 : Int32)), .val (.int (0 : Int32)), .val (.int (4 : Int32))] X47 hx (dd d3_40) rfl rfl rfl ?_
              refine Gz.goto 6 X47 hx (dd d3_43) (by decide) (by decide) ?_
              refine Gz.iload 8 X47 hx (dd d3_6) rfl rfl ?_
              refine Gz.ifYes 46 X47 hx (dd d3_8) ((if0 _ _).trans (teq (by decide : (0 : Int32) = (0 : Int32))).1) (by decide) (by decide) ?_
              refine Gz.iload 48 X47 hx (dd d3_46) rfl rfl ?_
              refine Gz.fin X47 (v := some (.int (0 : Int32))) (fun h => by rw [hret] at h; cases h) hlk (by decide) (by decide) (fun fs hr => retN X47 hx (t := .boolean) hret (by simp) (dd d3_48) hr) ?_
              rw [e47]
              exact ⟨(by unfold f3; rw [if_pos hc2, if_neg (by decide : ¬ ((1 : Int32) = (0 : Int32))), if_pos (rfl : (1 : Int32) = (1 : Int32)), if_neg (by decide : ¬ ((4 : Int32) = (0 : Int32))), if_neg (by decide : ¬ ((4 : Int32) = (1 : Int32))), if_neg (by decide : ¬ ((4 : Int32) = (2 : Int32))), if_neg (by decide : ¬ ((4 : Int32) = (3 : Int32))), if_neg hc43, if_neg hc46, if_pos hc49]), N0, rfl⟩
            · refine Gz.icmpNo 33 X47 hx (dd d3_30) (feq hc49).1 rfl ?_
              refine Gz.iconst 34 (1 : Int32) X47 hx (dd d3_33) rfl rfl ?_
              refine Gz.goto 38 X47 hx (dd d3_34) (by decide) (by decide) ?_
              refine Gz.istore 40 #[.val (.ref a0), .val (.ref a1), .val (.int (1 : Int32)), .val (.int (4 : Int32)), .val (.int (1 : Int32)), .val (.int (3 : Int32))] X47 hx (dd d3_38) rfl rfl ?_
              refine Gz.iinc 43 #[.val (.ref a0), .val (.ref a1), .val (.int (1 : Int32)), .val (.int (4 : Int32)), .val (.int (1 : Int32)), .val (.int (4 : Int32))] X47 hx (dd d3_40) rfl rfl rfl ?_
              refine Gz.goto 6 X47 hx (dd d3_43) (by decide) (by decide) ?_
              refine Gz.iload 8 X47 hx (dd d3_6) rfl rfl ?_
              refine Gz.ifNo 11 X47 hx (dd d3_8) ((if0 _ _).trans (feq (by decide : ¬ ((1 : Int32) = (0 : Int32)))).1) rfl ?_
              refine Gz.aloadN 12 X47 hx (dd d3_11) rfl rfl rfl ?_
              refine Gz.getS 15 X47 hx hZ hown (dd d3_12) (host := "") (Or.inl (ww hw 17 rfl)) Via.refl e47 S_s_DROP rfl fun T50 X50 e50 => ?_
              refine Gz.acmp 18 true X50 hx (dd d3_15) rfl rfl (decide_eq_true (congrArg Value.ref hc2)) (by decide) (by decide) ?_
              refine Gz.iload 20 X50 hx (dd d3_18) rfl rfl ?_
              refine Gz.iloadN 21 X50 hx (dd d3_20) rfl rfl ?_
              refine Gz.icmpYes 46 X50 hx (dd d3_21) (flt (by decide : ¬ ((4 : Int32) < (4 : Int32)))).2.1 (by decide) (by decide) ?_
              refine Gz.iload 48 X50 hx (dd d3_46) rfl rfl ?_
              refine Gz.fin X50 (v := some (.int (1 : Int32))) (fun h => by rw [hret] at h; cases h) hlk (by decide) (by decide) (fun fs hr => retN X50 hx (t := .boolean) hret (by simp) (dd d3_48) hr) ?_
              rw [e50]
              exact ⟨(by unfold f3; rw [if_pos hc2, if_neg (by decide : ¬ ((1 : Int32) = (0 : Int32))), if_pos (rfl : (1 : Int32) = (1 : Int32)), if_neg (by decide : ¬ ((4 : Int32) = (0 : Int32))), if_neg (by decide : ¬ ((4 : Int32) = (1 : Int32))), if_neg (by decide : ¬ ((4 : Int32) = (2 : Int32))), if_neg (by decide : ¬ ((4 : Int32) = (3 : Int32))), if_neg hc43, if_neg hc46, if_neg hc49]), N0, rfl⟩
    · refine Gz.iload 20 X1 hx (dd d3_18) rfl rfl ?_
      show Gz p e below s _ _ _ (T1.setTop (mkF m 20 #[.val (.ref a0), .val (.ref a1), .val (.int (2 : Int32)), .val (.int p3), .val (.int (1 : Int32)), .val (.int (2 : Int32))] [(.int (2 : Int32))]))
      rcases hp3 with rfl | rfl | rfl | rfl | rfl
      · refine Gz.iloadN 21 X1 hx (dd d3_20) rfl rfl ?_
        refine Gz.icmpYes 46 X1 hx (dd d3_21) (flt (by decide : ¬ ((2 : Int32) < (0 : Int32)))).2.1 (by decide) (by decide) ?_
        refine Gz.iload 48 X1 hx (dd d3_46) rfl rfl ?_
        refine Gz.fin X1 (v := some (.int (1 : Int32))) (fun h => by rw [hret] at h; cases h) hlk (by decide) (by decide) (fun fs hr => retN X1 hx (t := .boolean) hret (by simp) (dd d3_48) hr) ?_
        rw [e1]
        exact ⟨(by unfold f3; rw [if_pos hc2, if_neg (by decide : ¬ ((2 : Int32) = (0 : Int32))), if_neg (by decide : ¬ ((2 : Int32) = (1 : Int32))), if_pos (rfl : (2 : Int32) = (2 : Int32)), if_pos (rfl : (0 : Int32) = (0 : Int32))]), N0, rfl⟩
      · refine Gz.iloadN 21 X1 hx (dd d3_20) rfl rfl ?_
        refine Gz.icmpYes 46 X1 hx (dd d3_21) (flt (by decide : ¬ ((2 : Int32) < (1 : Int32)))).2.1 (by decide) (by decide) ?_
        refine Gz.iload 48 X1 hx (dd d3_46) rfl rfl ?_
        refine Gz.fin X1 (v := some (.int (1 : Int32))) (fun h => by rw [hret] at h; cases h) hlk (by decide) (by decide) (fun fs hr => retN X1 hx (t := .boolean) hret (by simp) (dd d3_48) hr) ?_
        rw [e1]
        exact ⟨(by unfold f3; rw [if_pos hc2, if_neg (by decide : ¬ ((2 : Int32) = (0 : Int32))), if_neg (by decide : ¬ ((2 : Int32) = (1 : Int32))), if_pos (rfl : (2 : Int32) = (2 : Int32)), if_neg (by decide : ¬ ((1 : Int32) = (0 : Int32))), if_pos (rfl : (1 : Int32) = (1 : Int32))]), N0, rfl⟩
      · refine Gz.iloadN 21 X1 hx (dd d3_20) rfl rfl ?_
        refine Gz.icmpYes 46 X1 hx (dd d3_21) (flt (by decide : ¬ ((2 : Int32) < (2 : Int32)))).2.1 (by decide) (by decide) ?_
        refine Gz.iload 48 X1 hx (dd d3_46) rfl rfl ?_
        refine Gz.fin X1 (v := some (.int (1 : Int32))) (fun h => by rw [hret] at h; cases h) hlk (by decide) (by decide) (fun fs hr => retN X1 hx (t := .boolean) hret (by simp) (dd d3_48) hr) ?_
        rw [e1]
        exact ⟨(by unfold f3; rw [if_pos hc2, if_neg (by decide : ¬ ((2 : Int32) = (0 : Int32))), if_neg (by decide : ¬ ((2 : Int32) = (1 : Int32))), if_pos (rfl : (2 : Int32) = (2 : Int32)), if_neg (by decide : ¬ ((2 : Int32) = (0 : Int32))), if_neg (by decide : ¬ ((2 : Int32) = (1 : Int32))), if_pos (rfl : (2 : Int32) = (2 : Int32))]), N0, rfl⟩
      · refine Gz.iloadN 21 X1 hx (dd d3_20) rfl rfl ?_
        refine Gz.icmpNo 24 X1 hx (dd d3_21) (tlt (by decide : (2 : Int32) < (3 : Int32))).2.1 rfl ?_
        refine Gz.aloadN 25 X1 hx (dd d3_24) rfl rfl rfl ?_
        refine Gz.iload 27 X1 hx (dd d3_25) rfl rfl ?_
        obtain ⟨c51, A51, q51, S51, N51, H51, G51⟩ := id V_a1
        have hin51 : ¬ ((2 : Int32) < 0 ∨ c51.slots.size ≤ ((2 : Int32)).toNatClampNeg) := inb_of S51 ⟨by decide, by decide⟩
        refine Gz.ldB 28 X1 hx hZ (dd d3_27) e1 A51 hin51 (Has.at H51 hin51 (rfl : _ = ((.int v2) : Value))) rfl ?_
        refine Gz.bipush 30 (58 : Int32) X1 hx (dd d3_28) rfl rfl ?_
        by_cases hc52 : v2 = (58 : Int32)
        · refine Gz.icmpYes 37 X1 hx (dd d3_30) (teq hc52).1 (by decide) (by decide) ?_
          refine Gz.iconst 38 (0 : Int32) X1 hx (dd d3_37) rfl rfl ?_
          refine Gz.istore 40 #[.val (.ref a0), .val (.ref a1), .val (.int (2 : Int32)), .val (.int (3 : Int32)), .val (.int (0 : Int32)), .val (.int (2 : Int32))] X1 hx (dd d3_38) rfl rfl ?_
          refine Gz.iinc 43 #[.val (.ref a0), .val (.ref a1), .val (.int (2 : Int32)), .val (.int (3 : Int32)), .val (.int (0 : Int32)), .val (.int (3 : Int32))] X1 hx (dd d3_40) rfl rfl rfl ?_
          refine Gz.goto 6 X1 hx (dd d3_43) (by decide) (by decide) ?_
          refine Gz.iload 8 X1 hx (dd d3_6) rfl rfl ?_
          refine Gz.ifYes 46 X1 hx (dd d3_8) ((if0 _ _).trans (teq (by decide : (0 : Int32) = (0 : Int32))).1) (by decide) (by decide) ?_
          refine Gz.iload 48 X1 hx (dd d3_46) rfl rfl ?_
          refine Gz.fin X1 (v := some (.int (0 : Int32))) (fun h => by rw [hret] at h; cases h) hlk (by decide) (by decide) (fun fs hr => retN X1 hx (t := .boolean) hret (by simp) (dd d3_48) hr) ?_
          rw [e1]
          exact ⟨(by unfold f3; rw [if_pos hc2, if_neg (by decide : ¬ ((2 : Int32) = (0 : Int32))), if_neg (by decide : ¬ ((2 : Int32) = (1 : Int32))), if_pos (rfl : (2 : Int32) = (2 : Int32)), if_neg (by decide : ¬ ((3 : Int32) = (0 : Int32))), if_neg (by decide : ¬ ((3 : Int32) = (1 : Int32))), if_neg (by decide : ¬ ((3 : Int32) = (2 : Int32))), if_pos (rfl : (3 : Int32) = (3 : Int32)), if_pos hc52]), N0, rfl⟩
        · refine Gz.icmpNo 33 X1 hx (dd d3_30) (feq hc52).1 rfl ?_
          refine Gz.iconst 34 (1 : Int32) X1 hx (dd d3_33) rfl rfl ?_
          refine Gz.goto 38 X1 hx (dd d3_34) (by decide) (by decide) ?_
          refine Gz.istore 40 #[.val (.ref a0), .val (.ref a1), .val (.int (2 : Int32)), .val (.int (3 : Int32)), .val (.int (1 : Int32)), .val (.int (2 : Int32))] X1 hx (dd d3_38) rfl rfl ?_
          refine Gz.iinc 43 #[.val (.ref a0), .val (.ref a1), .val (.int (2 : Int32)), .val (.int (3 : Int32)), .val (.int (1 : Int32)), .val (.int (3 : Int32))] X1 hx (dd d3_40) rfl rfl rfl ?_
          refine Gz.goto 6 X1 hx (dd d3_43) (by decide) (by decide) ?_
          refine Gz.iload 8 X1 hx (dd d3_6) rfl rfl ?_
          refine Gz.ifNo 11 X1 hx (dd d3_8) ((if0 _ _).trans (feq (by decide : ¬ ((1 : Int32) = (0 : Int32)))).1) rfl ?_
          refine Gz.aloadN 12 X1 hx (dd d3_11) rfl rfl rfl ?_
          refine Gz.getS 15 X1 hx hZ hown (dd d3_12) (host := "") (Or.inl (ww hw 17 rfl)) Via.refl e1 S_s_DROP rfl fun T53 X53 e53 => ?_
          refine Gz.acmp 18 true X53 hx (dd d3_15) rfl rfl (decide_eq_true (congrArg Value.ref hc2)) (by decide) (by decide) ?_
          refine Gz.iload 20 X53 hx (dd d3_18) rfl rfl ?_
          refine Gz.iloadN 21 X53 hx (dd d3_20) rfl rfl ?_
          refine Gz.icmpYes 46 X53 hx (dd d3_21) (flt (by decide : ¬ ((3 : Int32) < (3 : Int32)))).2.1 (by decide) (by decide) ?_
          refine Gz.iload 48 X53 hx (dd d3_46) rfl rfl ?_
          refine Gz.fin X53 (v := some (.int (1 : Int32))) (fun h => by rw [hret] at h; cases h) hlk (by decide) (by decide) (fun fs hr => retN X53 hx (t := .boolean) hret (by simp) (dd d3_48) hr) ?_
          rw [e53]
          exact ⟨(by unfold f3; rw [if_pos hc2, if_neg (by decide : ¬ ((2 : Int32) = (0 : Int32))), if_neg (by decide : ¬ ((2 : Int32) = (1 : Int32))), if_pos (rfl : (2 : Int32) = (2 : Int32)), if_neg (by decide : ¬ ((3 : Int32) = (0 : Int32))), if_neg (by decide : ¬ ((3 : Int32) = (1 : Int32))), if_neg (by decide : ¬ ((3 : Int32) = (2 : Int32))), if_pos (rfl : (3 : Int32) = (3 : Int32)), if_neg hc52]), N0, rfl⟩
      · refine Gz.iloadN 21 X1 hx (dd d3_20) rfl rfl ?_
        refine Gz.icmpNo 24 X1 hx (dd d3_21) (tlt (by decide : (2 : Int32) < (4 : Int32))).2.1 rfl ?_
        refine Gz.aloadN 25 X1 hx (dd d3_24) rfl rfl rfl ?_
        refine Gz.iload 27 X1 hx (dd d3_25) rfl rfl ?_
        obtain ⟨c54, A54, q54, S54, N54, H54, G54⟩ := id V_a1
        have hin54 : ¬ ((2 : Int32) < 0 ∨ c54.slots.size ≤ ((2 : Int32)).toNatClampNeg) := inb_of S54 ⟨by decide, by decide⟩
        refine Gz.ldB 28 X1 hx hZ (dd d3_27) e1 A54 hin54 (Has.at H54 hin54 (rfl : _ = ((.int v2) : Value))) rfl ?_
        refine Gz.bipush 30 (58 : Int32) X1 hx (dd d3_28) rfl rfl ?_
        by_cases hc55 : v2 = (58 : Int32)
        · refine Gz.icmpYes 37 X1 hx (dd d3_30) (teq hc55).1 (by decide) (by decide) ?_
          refine Gz.iconst 38 (0 : Int32) X1 hx (dd d3_37) rfl rfl ?_
          refine Gz.istore 40 #[.val (.ref a0), .val (.ref a1), .val (.int (2 : Int32)), .val (.int (4 : Int32)), .val (.int (0 : Int32)), .val (.int (2 : Int32))] X1 hx (dd d3_38) rfl rfl ?_
          refine Gz.iinc 43 #[.val (.ref a0), .val (.ref a1), .val (.int (2 : Int32)), .val (.int (4 : Int32)), .val (.int (0 : Int32)), .val (.int (3 : Int32))] X1 hx (dd d3_40) rfl rfl rfl ?_
          refine Gz.goto 6 X1 hx (dd d3_43) (by decide) (by decide) ?_
          refine Gz.iload 8 X1 hx (dd d3_6) rfl rfl ?_
          refine Gz.ifYes 46 X1 hx (dd d3_8) ((if0 _ _).trans (teq (by decide : (0 : Int32) = (0 : Int32))).1) (by decide) (by decide) ?_
          refine Gz.iload 48 X1 hx (dd d3_46) rfl rfl ?_
          refine Gz.fin X1 (v := some (.int (0 : Int32))) (fun h => by rw [hret] at h; cases h) hlk (by decide) (by decide) (fun fs hr => retN X1 hx (t := .boolean) hret (by simp) (dd d3_48) hr) ?_
          rw [e1]
          exact ⟨(by unfold f3; rw [if_pos hc2, if_neg (by decide : ¬ ((2 : Int32) = (0 : Int32))), if_neg (by decide : ¬ ((2 : Int32) = (1 : Int32))), if_pos (rfl : (2 : Int32) = (2 : Int32)), if_neg (by decide : ¬ ((4 : Int32) = (0 : Int32))), if_neg (by decide : ¬ ((4 : Int32) = (1 : Int32))), if_neg (by decide : ¬ ((4 : Int32) = (2 : Int32))), if_neg (by decide : ¬ ((4 : Int32) = (3 : Int32))), if_pos hc55]), N0, rfl⟩
        · refine Gz.icmpNo 33 X1 hx (dd d3_30) (feq hc55).1 rfl ?_
          refine Gz.iconst 34 (1 : Int32) X1 hx (dd d3_33) rfl rfl ?_
          refine Gz.goto 38 X1 hx (dd d3_34) (by decide) (by decide) ?_
          refine Gz.istore 40 #[.val (.ref a0), .val (.ref a1), .val (.int (2 : Int32)), .val (.int (4 : Int32)), .val (.int (1 : Int32)), .val (.int (2 : Int32))] X1 hx (dd d3_38) rfl rfl ?_
          refine Gz.iinc 43 #[.val (.ref a0), .val (.ref a1), .val (.int (2 : Int32)), .val (.int (4 : Int32)), .val (.int (1 : Int32)), .val (.int (3 : Int32))] X1 hx (dd d3_40) rfl rfl rfl ?_
          refine Gz.goto 6 X1 hx (dd d3_43) (by decide) (by decide) ?_
          refine Gz.iload 8 X1 hx (dd d3_6) rfl rfl ?_
          refine Gz.ifNo 11 X1 hx (dd d3_8) ((if0 _ _).trans (feq (by decide : ¬ ((1 : Int32) = (0 : Int32)))).1) rfl ?_
          refine Gz.aloadN 12 X1 hx (dd d3_11) rfl rfl rfl ?_
          refine Gz.getS 15 X1 hx hZ hown (dd d3_12) (host := "") (Or.inl (ww hw 17 rfl)) Via.refl e1 S_s_DROP rfl fun T56 X56 e56 => ?_
          refine Gz.acmp 18 true X56 hx (dd d3_15) rfl rfl (decide_eq_true (congrArg Value.ref hc2)) (by decide) (by decide) ?_
          refine Gz.iload 20 X56 hx (dd d3_18) rfl rfl ?_
          refine Gz.iloadN 21 X56 hx (dd d3_20) rfl rfl ?_
          refine Gz.icmpNo 24 X56 hx (dd d3_21) (tlt (by decide : (3 : Int32) < (4 : Int32))).2.1 rfl ?_
          refine Gz.aloadN 25 X56 hx (dd d3_24) rfl rfl rfl ?_
          refine Gz.iload 27 X56 hx (dd d3_25) rfl rfl ?_
          obtain ⟨c57, A57, q57, S57, N57, H57, G57⟩ := id V_a1
          have hin57 : ¬ ((3 : Int32) < 0 ∨ c57.slots.size ≤ ((3 : Int32)).toNatClampNeg) := inb_of S57 ⟨by decide, by decide⟩
          refine Gz.ldB 28 X56 hx hZ (dd d3_27) e56 A57 hin57 (Has.at H57 hin57 (rfl : _ = ((.int v3) : Value))) rfl ?_
          refine Gz.bipush 30 (58 : Int32) X56 hx (dd d3_28) rfl rfl ?_
          by_cases hc58 : v3 = (58 : Int32)
          · refine Gz.icmpYes 37 X56 hx (dd d3_30) (teq hc58).1 (by decide) (by decide) ?_
            refine Gz.iconst 38 (0 : Int32) X56 hx (dd d3_37) rfl rfl ?_
            refine Gz.istore 40 #[.val (.ref a0), .val (.ref a1), .val (.int (2 : Int32)), .val (.int (4 : Int32)), .val (.int (0 : Int32)), .val (.int (3 : Int32))] X56 hx (dd d3_38) rfl rfl ?_
            refine Gz.iinc 43 #[.val (.ref a0), .val (.ref a1), .val (.int (2 : Int32)), .val (.int (4 : Int32)), .val (.int (0 : Int32)), .val (.int (4 : Int32))] X56 hx (dd d3_40) rfl rfl rfl ?_
            refine Gz.goto 6 X56 hx (dd d3_43) (by decide) (by decide) ?_
            refine Gz.iload 8 X56 hx (dd d3_6) rfl rfl ?_
            refine Gz.ifYes 46 X56 hx (dd d3_8) ((if0 _ _).trans (teq (by decide : (0 : Int32) = (0 : Int32))).1) (by decide) (by decide) ?_
            refine Gz.iload 48 X56 hx (dd d3_46) rfl rfl ?_
            refine Gz.fin X56 (v := some (.int (0 : Int32))) (fun h => by rw [hret] at h; cases h) hlk (by decide) (by decide) (fun fs hr => retN X56 hx (t := .boolean) hret (by simp) (dd d3_48) hr) ?_
            rw [e56]
            exact ⟨(by unfold f3; rw [if_pos hc2, if_neg (by decide : ¬ ((2 : Int32) = (0 : Int32))), if_neg (by decide : ¬ ((2 : Int32) = (1 : Int32))), if_pos (rfl : (2 : Int32) = (2 : Int32)), if_neg (by decide : ¬ ((4 : Int32) = (0 : Int32))), if_neg (by decide : ¬ ((4 : Int32) = (1 : Int32))), if_neg (by decide : ¬ ((4 : Int32) = (2 : Int32))), if_neg (by decide : ¬ ((4 : Int32) = (3 : Int32))), if_neg hc55, if_pos hc58]), N0, rfl⟩
          · refine Gz.icmpNo 33 X56 hx (dd d3_30) (feq hc58).1 rfl ?_
            refine Gz.iconst 34 (1 : Int32) X56 hx (dd d3_33) rfl rfl ?_
            refine Gz.goto 38 X56 hx (dd d3_34) (by decide) (by decide) ?_
            refine Gz.istore 40 #[.val (.ref a0), .val (.ref a1), .val (.int (2 : Int32)), .val (.int (4 : Int32)), .val (.int (1 : Int32)), .val (.int (3 : Int32))] X56 hx (dd d3_38) rfl rfl ?_
            refine Gz.iinc 43 #[.val (.ref a0), .val (.ref a1), .val (.int (2 : Int32)), .val (.int (4 : Int32)), .val (.int (1 : Int32)), .val (.int (4 : Int32))] X56 hx (dd d3_40) rfl rfl rfl ?_
            refine Gz.goto 6 X56 hx (dd d3_43) (by decide) (by decide) ?_
            refine Gz.iload 8 X56 hx (dd d3_6) rfl rfl ?_
            refine Gz.ifNo 11 X56 hx (dd d3_8) ((if0 _ _).trans (feq (by decide : ¬ ((1 : Int32) = (0 : Int32)))).1) rfl ?_
            refine Gz.aloadN 12 X56 hx (dd d3_11) rfl rfl rfl ?_
            refine Gz.getS 15 X56 hx hZ hown (dd d3_12) (host := "") (Or.inl (ww hw 17 rfl)) Via.refl e56 S_s_DROP rfl fun T59 X59 e59 => ?_
            refine Gz.acmp 18 true X59 hx (dd d3_15) rfl rfl (decide_eq_true (congrArg Value.ref hc2)) (by decide) (by decide) ?_
            refine Gz.iload 20 X59 hx (dd d3_18) rfl rfl ?_
            refine Gz.iloadN 21 X59 hx (dd d3_20) rfl rfl ?_
            refine Gz.icmpYes 46 X59 hx (dd d3_21) (flt (by decide : ¬ ((4 : Int32) < (4 : Int32)))).2.1 (by decide) (by decide) ?_
            refine Gz.iload 48 X59 hx (dd d3_46) rfl rfl ?_
            refine Gz.fin X59 (v := some (.int (1 : Int32))) (fun h => by rw [hret] at h; cases h) hlk (by decide) (by decide) (fun fs hr => retN X59 hx (t := .boolean) hret (by simp) (dd d3_48) hr) ?_
            rw [e59]
            exact ⟨(by unfold f3; rw [if_pos hc2, if_neg (by decide : ¬ ((2 : Int32) = (0 : Int32))), if_neg (by decide : ¬ ((2 : Int32) = (1 : Int32))), if_pos (rfl : (2 : Int32) = (2 : Int32)), if_neg (by decide : ¬ ((4 : Int32) = (0 : Int32))), if_neg (by decide : ¬ ((4 : Int32) = (1 : Int32))), if_neg (by decide : ¬ ((4 : Int32) = (2 : Int32))), if_neg (by decide : ¬ ((4 : Int32) = (3 : Int32))), if_neg hc55, if_neg hc58]), N0, rfl⟩
    · refine Gz.iload 20 X1 hx (dd d3_18) rfl rfl ?_
      show Gz p e below s _ _ _ (T1.setTop (mkF m 20 #[.val (.ref a0), .val (.ref a1), .val (.int (3 : Int32)), .val (.int p3), .val (.int (1 : Int32)), .val (.int (3 : Int32))] [(.int (3 : Int32))]))
      rcases hp3 with rfl | rfl | rfl | rfl | rfl
      · refine Gz.iloadN 21 X1 hx (dd d3_20) rfl rfl ?_
        refine Gz.icmpYes 46 X1 hx (dd d3_21) (flt (by decide : ¬ ((3 : Int32) < (0 : Int32)))).2.1 (by decide) (by decide) ?_
        refine Gz.iload 48 X1 hx (dd d3_46) rfl rfl ?_
        refine Gz.fin X1 (v := some (.int (1 : Int32))) (fun h => by rw [hret] at h; cases h) hlk (by decide) (by decide) (fun fs hr => retN X1 hx (t := .boolean) hret (by simp) (dd d3_48) hr) ?_
        rw [e1]
        exact ⟨(by unfold f3; rw [if_pos hc2, if_neg (by decide : ¬ ((3 : Int32) = (0 : Int32))), if_neg (by decide : ¬ ((3 : Int32) = (1 : Int32))), if_neg (by decide : ¬ ((3 : Int32) = (2 : Int32))), if_pos (rfl : (3 : Int32) = (3 : Int32)), if_pos (rfl : (0 : Int32) = (0 : Int32))]), N0, rfl⟩
      · refine Gz.iloadN 21 X1 hx (dd d3_20) rfl rfl ?_
        refine Gz.icmpYes 46 X1 hx (dd d3_21) (flt (by decide : ¬ ((3 : Int32) < (1 : Int32)))).2.1 (by decide) (by decide) ?_
        refine Gz.iload 48 X1 hx (dd d3_46) rfl rfl ?_
        refine Gz.fin X1 (v := some (.int (1 : Int32))) (fun h => by rw [hret] at h; cases h) hlk (by decide) (by decide) (fun fs hr => retN X1 hx (t := .boolean) hret (by simp) (dd d3_48) hr) ?_
        rw [e1]
        exact ⟨(by unfold f3; rw [if_pos hc2, if_neg (by decide : ¬ ((3 : Int32) = (0 : Int32))), if_neg (by decide : ¬ ((3 : Int32) = (1 : Int32))), if_neg (by decide : ¬ ((3 : Int32) = (2 : Int32))), if_pos (rfl : (3 : Int32) = (3 : Int32)), if_neg (by decide : ¬ ((1 : Int32) = (0 : Int32))), if_pos (rfl : (1 : Int32) = (1 : Int32))]), N0, rfl⟩
      · refine Gz.iloadN 21 X1 hx (dd d3_20) rfl rfl ?_
        refine Gz.icmpYes 46 X1 hx (dd d3_21) (flt (by decide : ¬ ((3 : Int32) < (2 : Int32)))).2.1 (by decide) (by decide) ?_
        refine Gz.iload 48 X1 hx (dd d3_46) rfl rfl ?_
        refine Gz.fin X1 (v := some (.int (1 : Int32))) (fun h => by rw [hret] at h; cases h) hlk (by decide) (by decide) (fun fs hr => retN X1 hx (t := .boolean) hret (by simp) (dd d3_48) hr) ?_
        rw [e1]
        exact ⟨(by unfold f3; rw [if_pos hc2, if_neg (by decide : ¬ ((3 : Int32) = (0 : Int32))), if_neg (by decide : ¬ ((3 : Int32) = (1 : Int32))), if_neg (by decide : ¬ ((3 : Int32) = (2 : Int32))), if_pos (rfl : (3 : Int32) = (3 : Int32)), if_neg (by decide : ¬ ((2 : Int32) = (0 : Int32))), if_neg (by decide : ¬ ((2 : Int32) = (1 : Int32))), if_pos (rfl : (2 : Int32) = (2 : Int32))]), N0, rfl⟩
      · refine Gz.iloadN 21 X1 hx (dd d3_20) rfl rfl ?_
        refine Gz.icmpYes 46 X1 hx (dd d3_21) (flt (by decide : ¬ ((3 : Int32) < (3 : Int32)))).2.1 (by decide) (by decide) ?_
        refine Gz.iload 48 X1 hx (dd d3_46) rfl rfl ?_
        refine Gz.fin X1 (v := some (.int (1 : Int32))) (fun h => by rw [hret] at h; cases h) hlk (by decide) (by decide) (fun fs hr => retN X1 hx (t := .boolean) hret (by simp) (dd d3_48) hr) ?_
        rw [e1]
        exact ⟨(by unfold f3; rw [if_pos hc2, if_neg (by decide : ¬ ((3 : Int32) = (0 : Int32))), if_neg (by decide : ¬ ((3 : Int32) = (1 : Int32))), if_neg (by decide : ¬ ((3 : Int32) = (2 : Int32))), if_pos (rfl : (3 : Int32) = (3 : Int32)), if_neg (by decide : ¬ ((3 : Int32) = (0 : Int32))), if_neg (by decide : ¬ ((3 : Int32) = (1 : Int32))), if_neg (by decide : ¬ ((3 : Int32) = (2 : Int32))), if_pos (rfl : (3 : Int32) = (3 : Int32))]), N0, rfl⟩
      · refine Gz.iloadN 21 X1 hx (dd d3_20) rfl rfl ?_
        refine Gz.icmpNo 24 X1 hx (dd d3_21) (tlt (by decide : (3 : Int32) < (4 : Int32))).2.1 rfl ?_
        refine Gz.aloadN 25 X1 hx (dd d3_24) rfl rfl rfl ?_
        refine Gz.iload 27 X1 hx (dd d3_25) rfl rfl ?_
        obtain ⟨c60, A60, q60, S60, N60, H60, G60⟩ := id V_a1
        have hin60 : ¬ ((3 : Int32) < 0 ∨ c60.slots.size ≤ ((3 : Int32)).toNatClampNeg) := inb_of S60 ⟨by decide, by decide⟩
        refine Gz.ldB 28 X1 hx hZ (dd d3_27) e1 A60 hin60 (Has.at H60 hin60 (rfl : _ = ((.int v3) : Value))) rfl ?_
        refine Gz.bipush 30 (58 : Int32) X1 hx (dd d3_28) rfl rfl ?_
        by_cases hc61 : v3 = (58 : Int32)
        · refine Gz.icmpYes 37 X1 hx (dd d3_30) (teq hc61).1 (by decide) (by decide) ?_
          refine Gz.iconst 38 (0 : Int32) X1 hx (dd d3_37) rfl rfl ?_
          refine Gz.istore 40 #[.val (.ref a0), .val (.ref a1), .val (.int (3 : Int32)), .val (.int (4 : Int32)), .val (.int (0 : Int32)), .val (.int (3 : Int32))] X1 hx (dd d3_38) rfl rfl ?_
          refine Gz.iinc 43 #[.val (.ref a0), .val (.ref a1), .val (.int (3 : Int32)), .val (.int (4 : Int32)), .val (.int (0 : Int32)), .val (.int (4 : Int32))] X1 hx (dd d3_40) rfl rfl rfl ?_
          refine Gz.goto 6 X1 hx (dd d3_43) (by decide) (by decide) ?_
          refine Gz.iload 8 X1 hx (dd d3_6) rfl rfl ?_
          refine Gz.ifYes 46 X1 hx (dd d3_8) ((if0 _ _).trans (teq (by decide : (0 : Int32) = (0 : Int32))).1) (by decide) (by decide) ?_
          refine Gz.iload 48 X1 hx (dd d3_46) rfl rfl ?_
          refine Gz.fin X1 (v := some (.int (0 : Int32))) (fun h => by rw [hret] at h; cases h) hlk (by decide) (by decide) (fun fs hr => retN X1 hx (t := .boolean) hret (by simp) (dd d3_48) hr) ?_
          rw [e1]
          exact ⟨(by unfold f3; rw [if_pos hc2, if_neg (by decide : ¬ ((3 : Int32) = (0 : Int32))), if_neg (by decide : ¬ ((3 : Int32) = (1 : Int32))), if_neg (by decide : ¬ ((3 : Int32) = (2 : Int32))), if_pos (rfl : (3 : Int32) = (3 : Int32)), if_neg (by decide : ¬ ((4 : Int32) = (0 : Int32))), if_neg (by decide : ¬ ((4 : Int32) = (1 : Int32))), if_neg (by decide : ¬ ((4 : Int32) = (2 : Int32))), if_neg (by decide : ¬ ((4 : Int32) = (3 : Int32))), if_pos hc61]), N0, rfl⟩
        · refine Gz.icmpNo 33 X1 hx (dd d3_30) (feq hc61).1 rfl ?_
          refine Gz.iconst 34 (1 : Int32) X1 hx (dd d3_33) rfl rfl ?_
          refine Gz.goto 38 X1 hx (dd d3_34) (by decide) (by decide) ?_
          refine Gz.istore 40 #[.val (.ref a0), .val (.ref a1), .val (.int (3 : Int32)), .val (.int (4 : Int32)), .val (.int (1 : Int32)), .val (.int (3 : Int32))] X1 hx (dd d3_38) rfl rfl ?_
          refine Gz.iinc 43 #[.val (.ref a0), .val (.ref a1), .val (.int (3 : Int32)), .val (.int (4 : Int32)), .val (.int (1 : Int32)), .val (.int (4 : Int32))] X1 hx (dd d3_40) rfl rfl rfl ?_
          refine Gz.goto 6 X1 hx (dd d3_43) (by decide) (by decide) ?_
          refine Gz.iload 8 X1 hx (dd d3_6) rfl rfl ?_
          refine Gz.ifNo 11 X1 hx (dd d3_8) ((if0 _ _).trans (feq (by decide : ¬ ((1 : Int32) = (0 : Int32)))).1) rfl ?_
          refine Gz.aloadN 12 X1 hx (dd d3_11) rfl rfl rfl ?_
          refine Gz.getS 15 X1 hx hZ hown (dd d3_12) (host := "") (Or.inl (ww hw 17 rfl)) Via.refl e1 S_s_DROP rfl fun T62 X62 e62 => ?_
          refine Gz.acmp 18 true X62 hx (dd d3_15) rfl rfl (decide_eq_true (congrArg Value.ref hc2)) (by decide) (by decide) ?_
          refine Gz.iload 20 X62 hx (dd d3_18) rfl rfl ?_
          refine Gz.iloadN 21 X62 hx (dd d3_20) rfl rfl ?_
          refine Gz.icmpYes 46 X62 hx (dd d3_21) (flt (by decide : ¬ ((4 : Int32) < (4 : Int32)))).2.1 (by decide) (by decide) ?_
          refine Gz.iload 48 X62 hx (dd d3_46) rfl rfl ?_
          refine Gz.fin X62 (v := some (.int (1 : Int32))) (fun h => by rw [hret] at h; cases h) hlk (by decide) (by decide) (fun fs hr => retN X62 hx (t := .boolean) hret (by simp) (dd d3_48) hr) ?_
          rw [e62]
          exact ⟨(by unfold f3; rw [if_pos hc2, if_neg (by decide : ¬ ((3 : Int32) = (0 : Int32))), if_neg (by decide : ¬ ((3 : Int32) = (1 : Int32))), if_neg (by decide : ¬ ((3 : Int32) = (2 : Int32))), if_pos (rfl : (3 : Int32) = (3 : Int32)), if_neg (by decide : ¬ ((4 : Int32) = (0 : Int32))), if_neg (by decide : ¬ ((4 : Int32) = (1 : Int32))), if_neg (by decide : ¬ ((4 : Int32) = (2 : Int32))), if_neg (by decide : ¬ ((4 : Int32) = (3 : Int32))), if_neg hc61]), N0, rfl⟩
    · refine Gz.iload 20 X1 hx (dd d3_18) rfl rfl ?_
      show Gz p e below s _ _ _ (T1.setTop (mkF m 20 #[.val (.ref a0), .val (.ref a1), .val (.int (4 : Int32)), .val (.int p3), .val (.int (1 : Int32)), .val (.int (4 : Int32))] [(.int (4 : Int32))]))
      rcases hp3 with rfl | rfl | rfl | rfl | rfl
      · refine Gz.iloadN 21 X1 hx (dd d3_20) rfl rfl ?_
        refine Gz.icmpYes 46 X1 hx (dd d3_21) (flt (by decide : ¬ ((4 : Int32) < (0 : Int32)))).2.1 (by decide) (by decide) ?_
        refine Gz.iload 48 X1 hx (dd d3_46) rfl rfl ?_
        refine Gz.fin X1 (v := some (.int (1 : Int32))) (fun h => by rw [hret] at h; cases h) hlk (by decide) (by decide) (fun fs hr => retN X1 hx (t := .boolean) hret (by simp) (dd d3_48) hr) ?_
        rw [e1]
        exact ⟨(by unfold f3; rw [if_pos hc2, if_neg (by decide : ¬ ((4 : Int32) = (0 : Int32))), if_neg (by decide : ¬ ((4 : Int32) = (1 : Int32))), if_neg (by decide : ¬ ((4 : Int32) = (2 : Int32))), if_neg (by decide : ¬ ((4 : Int32) = (3 : Int32))), if_pos (rfl : (0 : Int32) = (0 : Int32))]), N0, rfl⟩
      · refine Gz.iloadN 21 X1 hx (dd d3_20) rfl rfl ?_
        refine Gz.icmpYes 46 X1 hx (dd d3_21) (flt (by decide : ¬ ((4 : Int32) < (1 : Int32)))).2.1 (by decide) (by decide) ?_
        refine Gz.iload 48 X1 hx (dd d3_46) rfl rfl ?_
        refine Gz.fin X1 (v := some (.int (1 : Int32))) (fun h => by rw [hret] at h; cases h) hlk (by decide) (by decide) (fun fs hr => retN X1 hx (t := .boolean) hret (by simp) (dd d3_48) hr) ?_
        rw [e1]
        exact ⟨(by unfold f3; rw [if_pos hc2, if_neg (by decide : ¬ ((4 : Int32) = (0 : Int32))), if_neg (by decide : ¬ ((4 : Int32) = (1 : Int32))), if_neg (by decide : ¬ ((4 : Int32) = (2 : Int32))), if_neg (by decide : ¬ ((4 : Int32) = (3 : Int32))), if_neg (by decide : ¬ ((1 : Int32) = (0 : Int32))), if_pos (rfl : (1 : Int32) = (1 : Int32))]), N0, rfl⟩
      · refine Gz.iloadN 21 X1 hx (dd d3_20) rfl rfl ?_
        refine Gz.icmpYes 46 X1 hx (dd d3_21) (flt (by decide : ¬ ((4 : Int32) < (2 : Int32)))).2.1 (by decide) (by decide) ?_
        refine Gz.iload 48 X1 hx (dd d3_46) rfl rfl ?_
        refine Gz.fin X1 (v := some (.int (1 : Int32))) (fun h => by rw [hret] at h; cases h) hlk (by decide) (by decide) (fun fs hr => retN X1 hx (t := .boolean) hret (by simp) (dd d3_48) hr) ?_
        rw [e1]
        exact ⟨(by unfold f3; rw [if_pos hc2, if_neg (by decide : ¬ ((4 : Int32) = (0 : Int32))), if_neg (by decide : ¬ ((4 : Int32) = (1 : Int32))), if_neg (by decide : ¬ ((4 : Int32) = (2 : Int32))), if_neg (by decide : ¬ ((4 : Int32) = (3 : Int32))), if_neg (by decide : ¬ ((2 : Int32) = (0 : Int32))), if_neg (by decide : ¬ ((2 : Int32) = (1 : Int32))), if_pos (rfl : (2 : Int32) = (2 : Int32))]), N0, rfl⟩
      · refine Gz.iloadN 21 X1 hx (dd d3_20) rfl rfl ?_
        refine Gz.icmpYes 46 X1 hx (dd d3_21) (flt (by decide : ¬ ((4 : Int32) < (3 : Int32)))).2.1 (by decide) (by decide) ?_
        refine Gz.iload 48 X1 hx (dd d3_46) rfl rfl ?_
        refine Gz.fin X1 (v := some (.int (1 : Int32))) (fun h => by rw [hret] at h; cases h) hlk (by decide) (by decide) (fun fs hr => retN X1 hx (t := .boolean) hret (by simp) (dd d3_48) hr) ?_
        rw [e1]
        exact ⟨(by unfold f3; rw [if_pos hc2, if_neg (by decide : ¬ ((4 : Int32) = (0 : Int32))), if_neg (by decide : ¬ ((4 : Int32) = (1 : Int32))), if_neg (by decide : ¬ ((4 : Int32) = (2 : Int32))), if_neg (by decide : ¬ ((4 : Int32) = (3 : Int32))), if_neg (by decide : ¬ ((3 : Int32) = (0 : Int32))), if_neg (by decide : ¬ ((3 : Int32) = (1 : Int32))), if_neg (by decide : ¬ ((3 : Int32) = (2 : Int32))), if_pos (rfl : (3 : Int32) = (3 : Int32))]), N0, rfl⟩
      · refine Gz.iloadN 21 X1 hx (dd d3_20) rfl rfl ?_
        refine Gz.icmpYes 46 X1 hx (dd d3_21) (flt (by decide : ¬ ((4 : Int32) < (4 : Int32)))).2.1 (by decide) (by decide) ?_
        refine Gz.iload 48 X1 hx (dd d3_46) rfl rfl ?_
        refine Gz.fin X1 (v := some (.int (1 : Int32))) (fun h => by rw [hret] at h; cases h) hlk (by decide) (by decide) (fun fs hr => retN X1 hx (t := .boolean) hret (by simp) (dd d3_48) hr) ?_
        rw [e1]
        exact ⟨(by unfold f3; rw [if_pos hc2, if_neg (by decide : ¬ ((4 : Int32) = (0 : Int32))), if_neg (by decide : ¬ ((4 : Int32) = (1 : Int32))), if_neg (by decide : ¬ ((4 : Int32) = (2 : Int32))), if_neg (by decide : ¬ ((4 : Int32) = (3 : Int32))), if_neg (by decide : ¬ ((4 : Int32) = (0 : Int32))), if_neg (by decide : ¬ ((4 : Int32) = (1 : Int32))), if_neg (by decide : ¬ ((4 : Int32) = (2 : Int32))), if_neg (by decide : ¬ ((4 : Int32) = (3 : Int32)))]), N0, rfl⟩
  · refine Gz.acmp 46 false X1 hx (dd d3_15) rfl rfl (decide_eq_false fun q => hc2 (Value.ref.inj q)) (by decide) (by decide) ?_
    refine Gz.iload 48 X1 hx (dd d3_46) rfl rfl ?_
    refine Gz.fin X1 (v := some (.int (1 : Int32))) (fun h => by rw [hret] at h; cases h) hlk (by decide) (by decide) (fun fs hr => retN X1 hx (t := .boolean) hret (by simp) (dd d3_48) hr) ?_
    rw [e1]
    exact ⟨(by unfold f3; rw [if_neg hc2]), N0, rfl⟩
theorem own_five (x : Int32) : let z := (x &&& (2147483647 : Int32)) % (5 : Int32); z = (0 : Int32) ∨ z = (1 : Int32) ∨ z = (2 : Int32) ∨ z = (3 : Int32) ∨ z = (4 : Int32) := by
  intro z
  have hm := c_mask x 2147483647 31 (by decide) (by decide)
  obtain ⟨k, hk, e⟩ := own_rem (x &&& (2147483647 : Int32)) 5 (by decide) (by rw [hm]; omega) 5 (by decide) (by decide)
  have e' : z = Int32.ofNat k := e
  rw [e']
  have : k = 0 ∨ k = 1 ∨ k = 2 ∨ k = 3 ∨ k = 4 := by omega
  rcases this with rfl | rfl | rfl | rfl | rfl <;> decide
theorem own_drop (a b : Addr) (fr to v0 v1 v2 v3 : Int32) (h : fr = (0 : Int32) ∨ fr = (1 : Int32) ∨ fr = (2 : Int32) ∨ fr = (3 : Int32) ∨ fr = (4 : Int32)) (g : to = (0 : Int32) ∨ to = (1 : Int32) ∨ to = (2 : Int32) ∨ to = (3 : Int32) ∨ to = (4 : Int32)) :
    f3 a b fr to v0 v1 v2 v3 a = (if f2 b 0 fr to v0 = 0 then (if f2 b 1 fr to v1 = 0 then (if f2 b 2 fr to v2 = 0 then (if f2 b 3 fr to v3 = 0 then 1 else 0) else 0) else 0) else 0) := by
  unfold f3 f2
  rw [if_pos rfl]
  by_cases q0 : v0 = (58 : Int32) <;> by_cases q1 : v1 = (58 : Int32) <;> by_cases q2 : v2 = (58 : Int32) <;> by_cases q3 : v3 = (58 : Int32) <;>
    simp only [q0, q1, q2, q3, if_true, if_false] <;> rcases h with rfl | rfl | rfl | rfl | rfl <;> rcases g with rfl | rfl | rfl | rfl | rfl <;> decide
theorem pd_0 : parseMethodDescriptor "(III)B" = some ⟨[.int, .int, .int], some .byte⟩ := by decide +kernel
theorem pd_1 : parseMethodDescriptor "([BIII)Z" = some ⟨[(.array .byte), .int, .int, .int], some .boolean⟩ := by decide +kernel
theorem pd_2 : parseMethodDescriptor "([BII)Z" = some ⟨[(.array .byte), .int, .int], some .boolean⟩ := by decide +kernel
theorem ef_rm0 (m : MethodId) (p0 : Int32) (p1 : Int32) (p2 : Int32) (p3 : Int32) (p4 : Int32) : entryFrame m #[(.int p0), (.int p1), (.int p2), (.int p3), (.int p4)] maxLocals = mkF m 0 #[.val (.int p0), .val (.int p1), .val (.int p2), .val (.int p3), .val (.int p4), .unset, .unset, .unset, .unset, .unset, .unset, .unset] [] := by first | (simp [entryFrame, mkF, argsToLocals, Value.category, maxLocals]; done) | rfl
def Q_law (n0 : Nat) (v : Option Value) (h : Heap) (L : List Loc) : Prop := v = some (.int 1) ∧ Fr n0 L
set_option maxRecDepth 65536 in
set_option maxHeartbeats 40000000 in
theorem rm0 (l : Launch) (Z : State) (av0 : Array Value) (hw : ∀ d ∈ tables_1, d.before av0 Z = true) (ws : List Jvm.Cond) (p0 : Int32) (p1 : Int32) (p2 : Int32) (p3 : Int32) (p4 : Int32) (st_KEEP : Addr) (st_DROP : Addr) (h0 : Heap) (n0 : Nat) (Z0 : n0 ≤ h0.size) (S_st_KEEP : Sta Z h0 "com/example/fold3/fold3/graph/ColonTitles" "KEEP" "Lcom/example/fold3/fold3/graph/ColonTitles;" (.ref st_KEEP)) (S_st_DROP : Sta Z h0 "com/example/fold3/fold3/graph/ColonTitles" "DROP" "Lcom/example/fold3/fold3/graph/ColonTitles;" (.ref st_DROP)) (E_st_KEEP : Exa Z h0 st_KEEP "com/example/fold3/fold3/graph/ColonTitles") (E_st_DROP : Exa Z h0 st_DROP "com/example/fold3/fold3/graph/ColonTitles") (ne_st_KEEP_st_DROP : st_KEEP ≠ st_DROP) :
    MetFree l x (head1 (Jvm.Cond.code x code maxLocals ret :: ws) room_1) (fun a U => a = #[(.int p0), (.int p1), (.int p2), (.int p3), (.int p4)] ∧ Z.Warmed39 U.vm ∧ U.heap = h0) (fun _ _ _ _ _ => True) (fun _ U o U' => ∃ v L, o = .returned v ∧ Q_law n0 v U'.heap L ∧ FrameEnd U o U' L 16 128) := by
  refine MetFree.of_bodySF (plainFor_of_name pn_0) hisR ?_
  intro p e s m args below meth c s₁ Bd hml0 hP hK
  obtain ⟨rfl, hZ, hh⟩ := hP
  have hx := Bd.exec
  have hby := Bd.bytes
  have hml : c.maxLocals = 12 := hml0
  have dd : ∀ {pc : Nat} {r : Except DecodeError (Instr × Nat)}, decode code pc = r → decode c.code pc = r := fun q => hb hby q
  have hown : s.vm.findClass "com/example/fold3/fold3/graph/ColonTitlesKeepsPinLaw" = some m.cls := findClass_of_methodNamed Bd.named
  have hnm := (name_of_methodNamed Bd.named Bd.method).1
  have X0 : Stand p l e room_1 s m #[(.int p0), (.int p1), (.int p2), (.int p3), (.int p4)] below meth c s₁ [] 0 0 := Stand.of_body Bd
  have e0 : s₁.heap = h0 := by rw [← hh, Bd.state]; rfl
  have N0 := Fr.nil n0
  have hret := Bd.returns
  have hlk := Bd.notSynchronized
  show Gz p e below s 16 128 (Q_law n0) (s₁.setTop (entryFrame m #[(.int p0), (.int p1), (.int p2), (.int p3), (.int p4)] maxLocals))
  refine Gz.enter (ef_rm0 m p0 p1 p2 p3 p4) ?_
  refine Gz.iload 2 X0 hx (dd at_0) rfl rfl ?_
  refine Gz.iconst 3 (1 : Int32) X0 hx (dd at_2) rfl rfl ?_
  refine Gz.iand 4 X0 hx (dd at_3) rfl ?_
  by_cases hc1 : (p4 &&& (1 : Int32)) = (0 : Int32)
  · refine Gz.ifYes 13 X0 hx (dd at_4) ((if0 _ _).trans (teq hc1).1) (by decide) (by decide) ?_
    refine Gz.getS 16 X0 hx hZ hown (dd at_13) (host := "") (Or.inl (ww hw 0 rfl)) Via.refl e0 S_st_KEEP rfl fun T2 X2 e2 => ?_
    refine Gz.astore 18 #[.val (.int p0), .val (.int p1), .val (.int p2), .val (.int p3), .val (.int p4), .val (.ref st_KEEP), .unset, .unset, .unset, .unset, .unset, .unset] X2 hx (dd at_16) rfl rfl rfl ?_
    refine Gz.iloadN 19 X2 hx (dd at_18) rfl rfl ?_
    refine Gz.ldcI 21 X2 hx (dd at_19) hown (mvT hZ (ww hw 3 rfl)) rfl ?_
    refine Gz.iand 22 X2 hx (dd at_21) rfl ?_
    refine Gz.iconst 23 (5 : Int32) X2 hx (dd at_22) rfl rfl ?_
    refine Gz.irem 24 X2 hx (dd at_23) (by decide) rfl ?_
    show Gz p e below s _ _ _ (T2.setTop (mkF m 24 #[.val (.int p0), .val (.int p1), .val (.int p2), .val (.int p3), .val (.int p4), .val (.ref st_KEEP), .unset, .unset, .unset, .unset, .unset, .unset] [(.int ((p2 &&& (2147483647 : Int32)) % (5 : Int32)))]))
    obtain ⟨fr, q_fr, h_fr⟩ : ∃ z, ((p2 &&& (2147483647 : Int32)) % (5 : Int32)) = z ∧ (z = (0 : Int32) ∨ z = (1 : Int32) ∨ z = (2 : Int32) ∨ z = (3 : Int32) ∨ z = (4 : Int32)) := ⟨_, rfl, own_five _⟩
    rw [q_fr]
    show Gz p e below s _ _ _ (T2.setTop (mkF m 24 #[.val (.int p0), .val (.int p1), .val (.int p2), .val (.int p3), .val (.int p4), .val (.ref st_KEEP), .unset, .unset, .unset, .unset, .unset, .unset] [(.int fr)]))
    refine Gz.istore 26 #[.val (.int p0), .val (.int p1), .val (.int p2), .val (.int p3), .val (.int p4), .val (.ref st_KEEP), .val (.int fr), .unset, .unset, .unset, .unset, .unset] X2 hx (dd at_24) rfl rfl ?_
    refine Gz.iloadN 27 X2 hx (dd at_26) rfl rfl ?_
    refine Gz.ldcI 29 X2 hx (dd at_27) hown (mvT hZ (ww hw 3 rfl)) rfl ?_
    refine Gz.iand 30 X2 hx (dd at_29) rfl ?_
    refine Gz.iconst 31 (5 : Int32) X2 hx (dd at_30) rfl rfl ?_
    refine Gz.irem 32 X2 hx (dd at_31) (by decide) rfl ?_
    show Gz p e below s _ _ _ (T2.setTop (mkF m 32 #[.val (.int p0), .val (.int p1), .val (.int p2), .val (.int p3), .val (.int p4), .val (.ref st_KEEP), .val (.int fr), .unset, .unset, .unset, .unset, .unset] [(.int ((p3 &&& (2147483647 : Int32)) % (5 : Int32)))]))
    obtain ⟨to, q_to, h_to⟩ : ∃ z, ((p3 &&& (2147483647 : Int32)) % (5 : Int32)) = z ∧ (z = (0 : Int32) ∨ z = (1 : Int32) ∨ z = (2 : Int32) ∨ z = (3 : Int32) ∨ z = (4 : Int32)) := ⟨_, rfl, own_five _⟩
    rw [q_to]
    show Gz p e below s _ _ _ (T2.setTop (mkF m 32 #[.val (.int p0), .val (.int p1), .val (.int p2), .val (.int p3), .val (.int p4), .val (.ref st_KEEP), .val (.int fr), .unset, .unset, .unset, .unset, .unset] [(.int to)]))
    refine Gz.istore 34 #[.val (.int p0), .val (.int p1), .val (.int p2), .val (.int p3), .val (.int p4), .val (.ref st_KEEP), .val (.int fr), .val (.int to), .unset, .unset, .unset, .unset] X2 hx (dd at_32) rfl rfl ?_
    refine Gz.iconst 35 (4 : Int32) X2 hx (dd at_34) rfl rfl ?_
    obtain ⟨T3, h3, k3, X3, e3, E3, A3, Q3, st3⟩ := newPE X2 hx hZ (ww hw 4 rfl) e2 (g := (mkF m 35 #[.val (.int p0), .val (.int p1), .val (.int p2), .val (.int p3), .val (.int p4), .val (.ref st_KEEP), .val (.int fr), .val (.int to), .unset, .unset, .unset, .unset] [(.int (4 : Int32))])) rfl (dd at_35) rfl (by decide) (cap := 4) (by decide) (by decide) (by decide) (by decide) (ad := "[B") rfl
    obtain ⟨b3, g3⟩ : ∃ z, z = h0.size := ⟨_, rfl⟩
    rw [← g3] at A3 Q3 st3
    have ne_st_KEEP_b3 : st_KEEP ≠ b3 := Nat.ne_of_lt (Nat.lt_of_lt_of_le (E_st_KEEP).lt (Nat.le_of_eq g3.symm))
    have ne_st_DROP_b3 : st_DROP ≠ b3 := Nat.ne_of_lt (Nat.lt_of_lt_of_le (E_st_DROP).lt (Nat.le_of_eq g3.symm))
    have g_b3 : n0 ≤ b3 := Nat.le_trans Z0 (Nat.le_of_eq g3.symm)
    have SZ3 : n0 ≤ h3.size := Nat.le_trans Z0 E3.1
    have f3_S_st_KEEP := Sta.ext E3 S_st_KEEP
    have f3_S_st_DROP := Sta.ext E3 S_st_DROP
    have f3_E_st_KEEP := Exa.ext E3 E_st_KEEP
    have f3_E_st_DROP := Exa.ext E3 E_st_DROP
    have V3 : Arv Z h3 b3 k3 .byte (4 : Int32) [(.int (0 : Int32)), (.int (0 : Int32)), (.int (0 : Int32)), (.int (0 : Int32))] (.int (0 : Int32)) := (Arv.new A3 (by decide)).pad (pad_rep [] (.int (0 : Int32)) 4)
    refine Gz.st st3 ?_
    refine Gz.astore 39 #[.val (.int p0), .val (.int p1), .val (.int p2), .val (.int p3), .val (.int p4), .val (.ref st_KEEP), .val (.int fr), .val (.int to), .val (.ref b3), .unset, .unset, .unset] X3 hx (dd at_37) rfl rfl rfl ?_
    refine Gz.aload 41 X3 hx (dd at_39) rfl rfl rfl ?_
    refine Gz.iconst 42 (0 : Int32) X3 hx (dd at_41) rfl rfl ?_
    refine Gz.iloadN 43 X3 hx (dd at_42) rfl rfl ?_
    refine Gz.iloadN 44 X3 hx (dd at_43) rfl rfl ?_
    refine Gz.iconst 45 (0 : Int32) X3 hx (dd at_44) rfl rfl ?_
    obtain ⟨_, _, ⟨T4, L4, k4, n4⟩, -, X4, ⟨Lc4, hQ4, l4, y4, z4⟩, st4⟩ := Jvm.LawKit.callS X3 hx (y := (⟨"com/example/fold3/fold3/graph/ColonTitlesKeepsPinLaw", "pick", "(III)B"⟩ : MethodName)) hown (mvT hZ (ww hw 5 rfl)) (mvT hZ (ww hw 6 rfl)) (mvT hZ (ww hw 7 rfl)) (mvT hZ (ww hw 8 rfl)) (by decide) (backOf (W := 2) (rm1 l Z av0 hw [] p1 p0 (0 : Int32)  h3 n0 SZ3 ) hZ (ww hw 8 rfl) (ww hw 7 rfl) (by decide) (by decide)) (g := (mkF m 45 #[.val (.int p0), .val (.int p1), .val (.int p2), .val (.int p3), .val (.int p4), .val (.ref st_KEEP), .val (.int fr), .val (.int to), .val (.ref b3), .unset, .unset, .unset] [(.int (0 : Int32)), (.int p0), (.int p1), (.int (0 : Int32)), (.ref b3)])) rfl (by rw [hml]; rfl) (argsL := [(.int p1), (.int p0), (.int (0 : Int32))]) (rest := [(.int (0 : Int32)), (.ref b3)]) (lenOf pd_0 rfl) rfl (by show 2 * 0 + _ ≤ _; exact Nat.le_of_eq rfl) (dd at_45) (fun _ _ => ⟨rfl, e3, (by decide : 1 + 0 ≤ _), (by decide : 4 + 0 ≤ _)⟩)
    dsimp only [Pt.U, Pt.locs, Pt.cells, Pt.slots, Q_rm1] at X4 l4 y4 z4 st4 hQ4
    subst l4 y4 z4
    generalize (f1 p1 p0 (0 : Int32)) = r4 at hQ4
    obtain ⟨rfl, N4q, e4⟩ := hQ4
    have N4 := Fr.app N0 N4q
    refine Gz.st st4 ?_
    obtain ⟨c5, A5, q5, S5, N5, H5, G5⟩ := id V3
    have hin5 : ¬ ((0 : Int32) < 0 ∨ c5.slots.size ≤ ((0 : Int32)).toNatClampNeg) := inb_of S5 ⟨by decide, by decide⟩
    refine Gz.stB 49 X4 hx hZ (dd at_48) e4 A5 hin5 rfl fun T6 h6 X6 e6 W6 => ?_
    have V6 := Arv.set A5 q5 S5 N5 H5 G5 (fits_nar_byte _) W6 0 rfl (Nat.le_of_ble_eq_true rfl)
    replace V6 : Arv Z h6 b3 k3 .byte (4 : Int32) [(.int (r4.toInt8.toInt32)), (.int (0 : Int32)), (.int (0 : Int32)), (.int (0 : Int32))] (.int (0 : Int32)) := V6
    have f6_S_st_KEEP := Sta.wr W6 f3_S_st_KEEP
    have f6_S_st_DROP := Sta.wr W6 f3_S_st_DROP
    have f6_E_st_KEEP := Exa.wr W6 f3_E_st_KEEP
    have f6_E_st_DROP := Exa.wr W6 f3_E_st_DROP
    have f6_Eb3 := Exa.wr W6 Q3
    have N6 := Fr.snoc X6 N4 g_b3
    have SZ6 : n0 ≤ h6.size := Nat.le_trans SZ3 (Keep.of_wr W6).1
    refine Gz.aload 51 X6 hx (dd at_49) rfl rfl rfl ?_
    refine Gz.iconst 52 (1 : Int32) X6 hx (dd at_51) rfl rfl ?_
    refine Gz.iloadN 53 X6 hx (dd at_52) rfl rfl ?_
    refine Gz.iloadN 54 X6 hx (dd at_53) rfl rfl ?_
    refine Gz.iconst 55 (1 : Int32) X6 hx (dd at_54) rfl rfl ?_
    obtain ⟨_, _, ⟨T7, L7, k7, n7⟩, -, X7, ⟨Lc7, hQ7, l7, y7, z7⟩, st7⟩ := Jvm.LawKit.callS X6 hx (y := (⟨"com/example/fold3/fold3/graph/ColonTitlesKeepsPinLaw", "pick", "(III)B"⟩ : MethodName)) hown (mvT hZ (ww hw 5 rfl)) (mvT hZ (ww hw 6 rfl)) (mvT hZ (ww hw 7 rfl)) (mvT hZ (ww hw 8 rfl)) (by decide) (backOf (W := 2) (rm1 l Z av0 hw [] p1 p0 (1 : Int32)  h6 n0 SZ6 ) hZ (ww hw 8 rfl) (ww hw 7 rfl) (by decide) (by decide)) (g := (mkF m 55 #[.val (.int p0), .val (.int p1), .val (.int p2), .val (.int p3), .val (.int p4), .val (.ref st_KEEP), .val (.int fr), .val (.int to), .val (.ref b3), .unset, .unset, .unset] [(.int (1 : Int32)), (.int p0), (.int p1), (.int (1 : Int32)), (.ref b3)])) rfl (by rw [hml]; rfl) (argsL := [(.int p1), (.int p0), (.int (1 : Int32))]) (rest := [(.int (1 : Int32)), (.ref b3)]) (lenOf pd_0 rfl) rfl (by show 2 * 0 + _ ≤ _; exact Nat.le_of_eq rfl) (dd at_55) (fun _ _ => ⟨rfl, e6, (by decide : 1 + 0 ≤ _), (by decide : 4 + 0 ≤ _)⟩)
    dsimp only [Pt.U, Pt.locs, Pt.cells, Pt.slots, Q_rm1] at X7 l7 y7 z7 st7 hQ7
    subst l7 y7 z7
    generalize (f1 p1 p0 (1 : Int32)) = r7 at hQ7
    obtain ⟨rfl, N7q, e7⟩ := hQ7
    have N7 := Fr.app N6 N7q
    refine Gz.st st7 ?_
    obtain ⟨c8, A8, q8, S8, N8, H8, G8⟩ := id V6
    have hin8 : ¬ ((1 : Int32) < 0 ∨ c8.slots.size ≤ ((1 : Int32)).toNatClampNeg) := inb_of S8 ⟨by decide, by decide⟩
    refine Gz.stB 59 X7 hx hZ (dd at_58) e7 A8 hin8 rfl fun T9 h9 X9 e9 W9 => ?_
    have V9 := Arv.set A8 q8 S8 N8 H8 G8 (fits_nar_byte _) W9 1 rfl (Nat.le_of_ble_eq_true rfl)
    replace V9 : Arv Z h9 b3 k3 .byte (4 : Int32) [(.int (r4.toInt8.toInt32)), (.int (r7.toInt8.toInt32)), (.int (0 : Int32)), (.int (0 : Int32))] (.int (0 : Int32)) := V9
    have f9_S_st_KEEP := Sta.wr W9 f6_S_st_KEEP
    have f9_S_st_DROP := Sta.wr W9 f6_S_st_DROP
    have f9_E_st_KEEP := Exa.wr W9 f6_E_st_KEEP
    have f9_E_st_DROP := Exa.wr W9 f6_E_st_DROP
    have f9_Eb3 := Exa.wr W9 f6_Eb3
    have N9 := Fr.snoc X9 N7 g_b3
    have SZ9 : n0 ≤ h9.size := Nat.le_trans SZ6 (Keep.of_wr W9).1
    refine Gz.aload 61 X9 hx (dd at_59) rfl rfl rfl ?_
    refine Gz.iconst 62 (2 : Int32) X9 hx (dd at_61) rfl rfl ?_
    refine Gz.iloadN 63 X9 hx (dd at_62) rfl rfl ?_
    refine Gz.iloadN 64 X9 hx (dd at_63) rfl rfl ?_
    refine Gz.iconst 65 (2 : Int32) X9 hx (dd at_64) rfl rfl ?_
    obtain ⟨_, _, ⟨T10, L10, k10, n10⟩, -, X10, ⟨Lc10, hQ10, l10, y10, z10⟩, st10⟩ := Jvm.LawKit.callS X9 hx (y := (⟨"com/example/fold3/fold3/graph/ColonTitlesKeepsPinLaw", "pick", "(III)B"⟩ : MethodName)) hown (mvT hZ (ww hw 5 rfl)) (mvT hZ (ww hw 6 rfl)) (mvT hZ (ww hw 7 rfl)) (mvT hZ (ww hw 8 rfl)) (by decide) (backOf (W := 2) (rm1 l Z av0 hw [] p1 p0 (2 : Int32)  h9 n0 SZ9 ) hZ (ww hw 8 rfl) (ww hw 7 rfl) (by decide) (by decide)) (g := (mkF m 65 #[.val (.int p0), .val (.int p1), .val (.int p2), .val (.int p3), .val (.int p4), .val (.ref st_KEEP), .val (.int fr), .val (.int to), .val (.ref b3), .unset, .unset, .unset] [(.int (2 : Int32)), (.int p0), (.int p1), (.int (2 : Int32)), (.ref b3)])) rfl (by rw [hml]; rfl) (argsL := [(.int p1), (.int p0), (.int (2 : Int32))]) (rest := [(.int (2 : Int32)), (.ref b3)]) (lenOf pd_0 rfl) rfl (by show 2 * 0 + _ ≤ _; exact Nat.le_of_eq rfl) (dd at_65) (fun _ _ => ⟨rfl, e9, (by decide : 1 + 0 ≤ _), (by decide : 4 + 0 ≤ _)⟩)
    dsimp only [Pt.U, Pt.locs, Pt.cells, Pt.slots, Q_rm1] at X10 l10 y10 z10 st10 hQ10
    subst l10 y10 z10
    generalize (f1 p1 p0 (2 : Int32)) = r10 at hQ10
    obtain ⟨rfl, N10q, e10⟩ := hQ10
    have N10 := Fr.app N9 N10q
    refine Gz.st st10 ?_
    obtain ⟨c11, A11, q11, S11, N11, H11, G11⟩ := id V9
    have hin11 : ¬ ((2 : Int32) < 0 ∨ c11.slots.size ≤ ((2 : Int32)).toNatClampNeg) := inb_of S11 ⟨by decide, by decide⟩
    refine Gz.stB 69 X10 hx hZ (dd at_68) e10 A11 hin11 rfl fun T12 h12 X12 e12 W12 => ?_
    have V12 := Arv.set A11 q11 S11 N11 H11 G11 (fits_nar_byte _) W12 2 rfl (Nat.le_of_ble_eq_true rfl)
    replace V12 : Arv Z h12 b3 k3 .byte (4 : Int32) [(.int (r4.toInt8.toInt32)), (.int (r7.toInt8.toInt32)), (.int (r10.toInt8.toInt32)), (.int (0 : Int32))] (.int (0 : Int32)) := V12
    have f12_S_st_KEEP := Sta.wr W12 f9_S_st_KEEP
    have f12_S_st_DROP := Sta.wr W12 f9_S_st_DROP
    have f12_E_st_KEEP := Exa.wr W12 f9_E_st_KEEP
    have f12_E_st_DROP := Exa.wr W12 f9_E_st_DROP
    have f12_Eb3 := Exa.wr W12 f9_Eb3
    have N12 := Fr.snoc X12 N10 g_b3
    have SZ12 : n0 ≤ h12.size := Nat.le_trans SZ9 (Keep.of_wr W12).1
    refine Gz.aload 71 X12 hx (dd at_69) rfl rfl rfl ?_
    refine Gz.iconst 72 (3 : Int32) X12 hx (dd at_71) rfl rfl ?_
    refine Gz.iloadN 73 X12 hx (dd at_72) rfl rfl ?_
    refine Gz.iloadN 74 X12 hx (dd at_73) rfl rfl ?_
    refine Gz.iconst 75 (3 : Int32) X12 hx (dd at_74) rfl rfl ?_
    obtain ⟨_, _, ⟨T13, L13, k13, n13⟩, -, X13, ⟨Lc13, hQ13, l13, y13, z13⟩, st13⟩ := Jvm.LawKit.callS X12 hx (y := (⟨"com/example/fold3/fold3/graph/ColonTitlesKeepsPinLaw", "pick", "(III)B"⟩ : MethodName)) hown (mvT hZ (ww hw 5 rfl)) (mvT hZ (ww hw 6 rfl)) (mvT hZ (ww hw 7 rfl)) (mvT hZ (ww hw 8 rfl)) (by decide) (backOf (W := 2) (rm1 l Z av0 hw [] p1 p0 (3 : Int32)  h12 n0 SZ12 ) hZ (ww hw 8 rfl) (ww hw 7 rfl) (by decide) (by decide)) (g := (mkF m 75 #[.val (.int p0), .val (.int p1), .val (.int p2), .val (.int p3), .val (.int p4), .val (.ref st_KEEP), .val (.int fr), .val (.int to), .val (.ref b3), .unset, .unset, .unset] [(.int (3 : Int32)), (.int p0), (.int p1), (.int (3 : Int32)), (.ref b3)])) rfl (by rw [hml]; rfl) (argsL := [(.int p1), (.int p0), (.int (3 : Int32))]) (rest := [(.int (3 : Int32)), (.ref b3)]) (lenOf pd_0 rfl) rfl (by show 2 * 0 + _ ≤ _; exact Nat.le_of_eq rfl) (dd at_75) (fun _ _ => ⟨rfl, e12, (by decide : 1 + 0 ≤ _), (by decide : 4 + 0 ≤ _)⟩)
    dsimp only [Pt.U, Pt.locs, Pt.cells, Pt.slots, Q_rm1] at X13 l13 y13 z13 st13 hQ13
    subst l13 y13 z13
    generalize (f1 p1 p0 (3 : Int32)) = r13 at hQ13
    obtain ⟨rfl, N13q, e13⟩ := hQ13
    have N13 := Fr.app N12 N13q
    refine Gz.st st13 ?_
    obtain ⟨c14, A14, q14, S14, N14, H14, G14⟩ := id V12
    have hin14 : ¬ ((3 : Int32) < 0 ∨ c14.slots.size ≤ ((3 : Int32)).toNatClampNeg) := inb_of S14 ⟨by decide, by decide⟩
    refine Gz.stB 79 X13 hx hZ (dd at_78) e13 A14 hin14 rfl fun T15 h15 X15 e15 W15 => ?_
    have V15 := Arv.set A14 q14 S14 N14 H14 G14 (fits_nar_byte _) W15 3 rfl (Nat.le_of_ble_eq_true rfl)
    replace V15 : Arv Z h15 b3 k3 .byte (4 : Int32) [(.int (r4.toInt8.toInt32)), (.int (r7.toInt8.toInt32)), (.int (r10.toInt8.toInt32)), (.int (r13.toInt8.toInt32))] (.int (0 : Int32)) := V15
    have f15_S_st_KEEP := Sta.wr W15 f12_S_st_KEEP
    have f15_S_st_DROP := Sta.wr W15 f12_S_st_DROP
    have f15_E_st_KEEP := Exa.wr W15 f12_E_st_KEEP
    have f15_E_st_DROP := Exa.wr W15 f12_E_st_DROP
    have f15_Eb3 := Exa.wr W15 f12_Eb3
    have N15 := Fr.snoc X15 N13 g_b3
    have SZ15 : n0 ≤ h15.size := Nat.le_trans SZ12 (Keep.of_wr W15).1
    refine Gz.aload 81 X15 hx (dd at_79) rfl rfl rfl ?_
    refine Gz.iconst 82 (0 : Int32) X15 hx (dd at_81) rfl rfl ?_
    refine Gz.iload 84 X15 hx (dd at_82) rfl rfl ?_
    refine Gz.iload 86 X15 hx (dd at_84) rfl rfl ?_
    obtain ⟨c16, A16, q16, S16, N16, H16, G16⟩ := id V15
    have hin17 : ¬ ((0 : Int32) < 0 ∨ c16.slots.size ≤ ((0 : Int32)).toNatClampNeg) := inb_of S16 ⟨by decide, by decide⟩
    have hat17 : c16.slots[((0 : Int32)).toNatClampNeg]? = some (.int (r4.toInt8.toInt32)) := Has.at H16 hin17 rfl
    obtain ⟨_, _, ⟨T18, L18, k18, n18⟩, -, X18, ⟨Lc18, hQ18, l18, y18, z18⟩, st18⟩ := Jvm.LawKit.callS X15 hx (y := (⟨"com/example/fold3/fold3/graph/ColonTitlesKeepsPinLaw", "hit", "([BIII)Z"⟩ : MethodName)) hown (mvT hZ (ww hw 9 rfl)) (mvT hZ (ww hw 10 rfl)) (mvT hZ (ww hw 7 rfl)) (mvT hZ (ww hw 11 rfl)) (by decide) (backOf (W := 0) (rm2 l Z av0 hw [] b3 (0 : Int32) fr to c16 (r4.toInt8.toInt32) h15 n0 SZ15 A16 hin17 hat17) hZ (ww hw 11 rfl) (ww hw 7 rfl) (by decide) (by decide)) (g := (mkF m 86 #[.val (.int p0), .val (.int p1), .val (.int p2), .val (.int p3), .val (.int p4), .val (.ref st_KEEP), .val (.int fr), .val (.int to), .val (.ref b3), .unset, .unset, .unset] [(.int to), (.int fr), (.int (0 : Int32)), (.ref b3)])) rfl (by rw [hml]; rfl) (argsL := [(.ref b3), (.int (0 : Int32)), (.int fr), (.int to)]) (rest := []) (lenOf pd_1 rfl) rfl (by show 2 * 0 + _ ≤ _; exact Nat.le_of_eq rfl) (dd at_86) (fun _ _ => ⟨rfl, e15, (by decide : 1 + 0 ≤ _), (by decide : 4 + 0 ≤ _)⟩)
    dsimp only [Pt.U, Pt.locs, Pt.cells, Pt.slots, Q_rm2] at X18 l18 y18 z18 st18 hQ18
    subst l18 y18 z18
    obtain ⟨rfl, N18q, e18⟩ := hQ18
    have N18 := Fr.app N15 N18q
    refine Gz.st st18 ?_
    by_cases hc19 : (f2 b3 (0 : Int32) fr to (r4.toInt8.toInt32)) = (0 : Int32)
    · refine Gz.ifNo 92 X18 hx (dd at_89) ((if0 _ _).trans (teq hc19).2) rfl ?_
      refine Gz.aload 94 X18 hx (dd at_92) rfl rfl rfl ?_
      refine Gz.iconst 95 (1 : Int32) X18 hx (dd at_94) rfl rfl ?_
      refine Gz.iload 97 X18 hx (dd at_95) rfl rfl ?_
      refine Gz.iload 99 X18 hx (dd at_97) rfl rfl ?_
      have hin20 : ¬ ((1 : Int32) < 0 ∨ c16.slots.size ≤ ((1 : Int32)).toNatClampNeg) := inb_of S16 ⟨by decide, by decide⟩
      have hat20 : c16.slots[((1 : Int32)).toNatClampNeg]? = some (.int (r7.toInt8.toInt32)) := Has.at H16 hin20 rfl
      obtain ⟨_, _, ⟨T21, L21, k21, n21⟩, -, X21, ⟨Lc21, hQ21, l21, y21, z21⟩, st21⟩ := Jvm.LawKit.callS X18 hx (y := (⟨"com/example/fold3/fold3/graph/ColonTitlesKeepsPinLaw", "hit", "([BIII)Z"⟩ : MethodName)) hown (mvT hZ (ww hw 9 rfl)) (mvT hZ (ww hw 10 rfl)) (mvT hZ (ww hw 7 rfl)) (mvT hZ (ww hw 11 rfl)) (by decide) (backOf (W := 0) (rm2 l Z av0 hw [] b3 (1 : Int32) fr to c16 (r7.toInt8.toInt32) h15 n0 SZ15 A16 hin20 hat20) hZ (ww hw 11 rfl) (ww hw 7 rfl) (by decide) (by decide)) (g := (mkF m 99 #[.val (.int p0), .val (.int p1), .val (.int p2), .val (.int p3), .val (.int p4), .val (.ref st_KEEP), .val (.int fr), .val (.int to), .val (.ref b3), .unset, .unset, .unset] [(.int to), (.int fr), (.int (1 : Int32)), (.ref b3)])) rfl (by rw [hml]; rfl) (argsL := [(.ref b3), (.int (1 : Int32)), (.int fr), (.int to)]) (rest := []) (lenOf pd_1 rfl) rfl (by show 2 * 0 + _ ≤ _; exact Nat.le_of_eq rfl) (dd at_99) (fun _ _ => ⟨rfl, e18, (by decide : 1 + 0 ≤ _), (by decide : 4 + 0 ≤ _)⟩)
      dsimp only [Pt.U, Pt.locs, Pt.cells, Pt.slots, Q_rm2] at X21 l21 y21 z21 st21 hQ21
      subst l21 y21 z21
      obtain ⟨rfl, N21q, e21⟩ := hQ21
      have N21 := Fr.app N18 N21q
      refine Gz.st st21 ?_
      by_cases hc22 : (f2 b3 (1 : Int32) fr to (r7.toInt8.toInt32)) = (0 : Int32)
      · refine Gz.ifNo 105 X21 hx (dd at_102) ((if0 _ _).trans (teq hc22).2) rfl ?_
        refine Gz.aload 107 X21 hx (dd at_105) rfl rfl rfl ?_
        refine Gz.iconst 108 (2 : Int32) X21 hx (dd at_107) rfl rfl ?_
        refine Gz.iload 110 X21 hx (dd at_108) rfl rfl ?_
        refine Gz.iload 112 X21 hx (dd at_110) rfl rfl ?_
        have hin23 : ¬ ((2 : Int32) < 0 ∨ c16.slots.size ≤ ((2 : Int32)).toNatClampNeg) := inb_of S16 ⟨by decide, by decide⟩
        have hat23 : c16.slots[((2 : Int32)).toNatClampNeg]? = some (.int (r10.toInt8.toInt32)) := Has.at H16 hin23 rfl
        obtain ⟨_, _, ⟨T24, L24, k24, n24⟩, -, X24, ⟨Lc24, hQ24, l24, y24, z24⟩, st24⟩ := Jvm.LawKit.callS X21 hx (y := (⟨"com/example/fold3/fold3/graph/ColonTitlesKeepsPinLaw", "hit", "([BIII)Z"⟩ : MethodName)) hown (mvT hZ (ww hw 9 rfl)) (mvT hZ (ww hw 10 rfl)) (mvT hZ (ww hw 7 rfl)) (mvT hZ (ww hw 11 rfl)) (by decide) (backOf (W := 0) (rm2 l Z av0 hw [] b3 (2 : Int32) fr to c16 (r10.toInt8.toInt32) h15 n0 SZ15 A16 hin23 hat23) hZ (ww hw 11 rfl) (ww hw 7 rfl) (by decide) (by decide)) (g := (mkF m 112 #[.val (.int p0), .val (.int p1), .val (.int p2), .val (.int p3), .val (.int p4), .val (.ref st_KEEP), .val (.int fr), .val (.int to), .val (.ref b3), .unset, .unset, .unset] [(.int to), (.int fr), (.int (2 : Int32)), (.ref b3)])) rfl (by rw [hml]; rfl) (argsL := [(.ref b3), (.int (2 : Int32)), (.int fr), (.int to)]) (rest := []) (lenOf pd_1 rfl) rfl (by show 2 * 0 + _ ≤ _; exact Nat.le_of_eq rfl) (dd at_112) (fun _ _ => ⟨rfl, e21, (by decide : 1 + 0 ≤ _), (by decide : 4 + 0 ≤ _)⟩)
        dsimp only [Pt.U, Pt.locs, Pt.cells, Pt.slots, Q_rm2] at X24 l24 y24 z24 st24 hQ24
        subst l24 y24 z24
        obtain ⟨rfl, N24q, e24⟩ := hQ24
        have N24 := Fr.app N21 N24q
        refine Gz.st st24 ?_
        by_cases hc25 : (f2 b3 (2 : Int32) fr to (r10.toInt8.toInt32)) = (0 : Int32)
        · refine Gz.ifNo 118 X24 hx (dd at_115) ((if0 _ _).trans (teq hc25).2) rfl ?_
          refine Gz.aload 120 X24 hx (dd at_118) rfl rfl rfl ?_
          refine Gz.iconst 121 (3 : Int32) X24 hx (dd at_120) rfl rfl ?_
          refine Gz.iload 123 X24 hx (dd at_121) rfl rfl ?_
          refine Gz.iload 125 X24 hx (dd at_123) rfl rfl ?_
          have hin26 : ¬ ((3 : Int32) < 0 ∨ c16.slots.size ≤ ((3 : Int32)).toNatClampNeg) := inb_of S16 ⟨by decide, by decide⟩
          have hat26 : c16.slots[((3 : Int32)).toNatClampNeg]? = some (.int (r13.toInt8.toInt32)) := Has.at H16 hin26 rfl
          obtain ⟨_, _, ⟨T27, L27, k27, n27⟩, -, X27, ⟨Lc27, hQ27, l27, y27, z27⟩, st27⟩ := Jvm.LawKit.callS X24 hx (y := (⟨"com/example/fold3/fold3/graph/ColonTitlesKeepsPinLaw", "hit", "([BIII)Z"⟩ : MethodName)) hown (mvT hZ (ww hw 9 rfl)) (mvT hZ (ww hw 10 rfl)) (mvT hZ (ww hw 7 rfl)) (mvT hZ (ww hw 11 rfl)) (by decide) (backOf (W := 0) (rm2 l Z av0 hw [] b3 (3 : Int32) fr to c16 (r13.toInt8.toInt32) h15 n0 SZ15 A16 hin26 hat26) hZ (ww hw 11 rfl) (ww hw 7 rfl) (by decide) (by decide)) (g := (mkF m 125 #[.val (.int p0), .val (.int p1), .val (.int p2), .val (.int p3), .val (.int p4), .val (.ref st_KEEP), .val (.int fr), .val (.int to), .val (.ref b3), .unset, .unset, .unset] [(.int to), (.int fr), (.int (3 : Int32)), (.ref b3)])) rfl (by rw [hml]; rfl) (argsL := [(.ref b3), (.int (3 : Int32)), (.int fr), (.int to)]) (rest := []) (lenOf pd_1 rfl) rfl (by show 2 * 0 + _ ≤ _; exact Nat.le_of_eq rfl) (dd at_125) (fun _ _ => ⟨rfl, e24, (by decide : 1 + 0 ≤ _), (by decide : 4 + 0 ≤ _)⟩)
          dsimp only [Pt.U, Pt.locs, Pt.cells, Pt.slots, Q_rm2] at X27 l27 y27 z27 st27 hQ27
          subst l27 y27 z27
          obtain ⟨rfl, N27q, e27⟩ := hQ27
          have N27 := Fr.app N24 N27q
          refine Gz.st st27 ?_
          by_cases hc28 : (f2 b3 (3 : Int32) fr to (r13.toInt8.toInt32)) = (0 : Int32)
          · refine Gz.ifYes 135 X27 hx (dd at_128) ((if0 _ _).trans (teq hc28).1) (by decide) (by decide) ?_
            refine Gz.iconst 136 (0 : Int32) X27 hx (dd at_135) rfl rfl ?_
            refine Gz.istore 138 #[.val (.int p0), .val (.int p1), .val (.int p2), .val (.int p3), .val (.int p4), .val (.ref st_KEEP), .val (.int fr), .val (.int to), .val (.ref b3), .val (.int (0 : Int32)), .unset, .unset] X27 hx (dd at_136) rfl rfl ?_
            refine Gz.aload 140 X27 hx (dd at_138) rfl rfl rfl ?_
            refine Gz.getS 143 X27 hx hZ hown (dd at_140) (host := "") (Or.inl (ww hw 0 rfl)) Via.refl e27 f15_S_st_KEEP rfl fun T29 X29 e29 => ?_
            refine Gz.acmp 146 true X29 hx (dd at_143) rfl rfl (decide_eq_true rfl) (by decide) (by decide) ?_
            refine Gz.iconst 147 (1 : Int32) X29 hx (dd at_146) rfl rfl ?_
            refine Gz.istore 149 #[.val (.int p0), .val (.int p1), .val (.int p2), .val (.int p3), .val (.int p4), .val (.ref st_KEEP), .val (.int fr), .val (.int to), .val (.ref b3), .val (.int (0 : Int32)), .val (.int (1 : Int32)), .unset] X29 hx (dd at_147) rfl rfl ?_
            refine Gz.goto 164 X29 hx (dd at_149) (by decide) (by decide) ?_
            refine Gz.aload 166 X29 hx (dd at_164) rfl rfl rfl ?_
            refine Gz.aload 168 X29 hx (dd at_166) rfl rfl rfl ?_
            refine Gz.iload 170 X29 hx (dd at_168) rfl rfl ?_
            refine Gz.iload 172 X29 hx (dd at_170) rfl rfl ?_
            obtain ⟨cq30, kq30, q30a, q30b, q30c⟩ := isOf hZ e29 f15_E_st_KEEP
            obtain ⟨_, _, ⟨T30, L30, k30, n30⟩, -, X30, ⟨Lc30, hQ30, l30, y30, z30⟩, st30⟩ := X29.virtualBack hx (y := (⟨"com/example/fold3/fold3/graph/ColonTitles", "keeps", "([BII)Z"⟩ : MethodName)) (z := (⟨"com/example/fold3/fold3/graph/ColonTitles", "keeps", "([BII)Z"⟩ : MethodName)) hown (mvT hZ (ww hw 12 rfl)) (mvT hZ (ww hw 13 rfl)) (notFace_of_selects (args := #[]) (mvT hZ (ww hw 15 rfl))) (mvT hZ (ww hw 15 rfl)) (mvT hZ (ww hw 14 rfl)) (by decide) (backOf (W := 0) (rm3 l Z av0 hw [] st_KEEP b3 fr to k3 (r4.toInt8.toInt32) (r7.toInt8.toInt32) (r10.toInt8.toInt32) (r13.toInt8.toInt32) st_DROP h15 n0 SZ15 V15 f15_S_st_DROP h_fr h_to) hZ (ww hw 16 rfl) (ww hw 1 rfl) (by decide) (by decide)) q30a q30c (g := (mkF m 172 #[.val (.int p0), .val (.int p1), .val (.int p2), .val (.int p3), .val (.int p4), .val (.ref st_KEEP), .val (.int fr), .val (.int to), .val (.ref b3), .val (.int (0 : Int32)), .val (.int (1 : Int32)), .unset] [(.int to), (.int fr), (.ref b3), (.ref st_KEEP)])) rfl (by rw [hml]; rfl) (Steps.refl _) (argsL := [(.ref b3), (.int fr), (.int to)]) (rest := []) (lenOf pd_2 rfl) rfl (by show 2 * 0 + _ ≤ _; exact Nat.le_of_eq rfl) (dd at_172) (fun _ _ => ⟨rfl, e29, (by decide : 1 + 0 ≤ _), (by decide : 4 + 0 ≤ _)⟩)
            dsimp only [Pt.U, Pt.locs, Pt.cells, Pt.slots, Q_rm3] at X30 l30 y30 z30 st30 hQ30
            subst l30 y30 z30
            rw [show (f3 st_KEEP b3 fr to (r4.toInt8.toInt32) (r7.toInt8.toInt32) (r10.toInt8.toInt32) (r13.toInt8.toInt32) st_DROP) = (1 : Int32) from (by unfold f3; rw [if_neg ne_st_KEEP_st_DROP]; try decide)] at hQ30
            obtain ⟨rfl, N30q, e30⟩ := hQ30
            have N30 := Fr.app N27 N30q
            refine Gz.tr st30 ?_
            refine Gz.istore 177 #[.val (.int p0), .val (.int p1), .val (.int p2), .val (.int p3), .val (.int p4), .val (.ref st_KEEP), .val (.int fr), .val (.int to), .val (.ref b3), .val (.int (0 : Int32)), .val (.int (1 : Int32)), .val (.int (1 : Int32))] X30 hx (dd at_175) rfl rfl ?_
            refine Gz.iload 179 X30 hx (dd at_177) rfl rfl ?_
            refine Gz.iload 181 X30 hx (dd at_179) rfl rfl ?_
            refine Gz.icmpNo 184 X30 hx (dd at_181) (teq (by decide : (1 : Int32) = (1 : Int32))).2 rfl ?_
            refine Gz.iconst 185 (1 : Int32) X30 hx (dd at_184) rfl rfl ?_
            refine Gz.goto 189 X30 hx (dd at_185) (by decide) (by decide) ?_
            refine Gz.fin X30 (v := some (.int (1 : Int32))) (fun h => by rw [hret] at h; cases h) hlk (by decide) (by decide) (fun fs hr => retN X30 hx (t := .boolean) hret (by simp) (dd at_189) hr) ?_
            exact ⟨rfl, N30⟩
          · refine Gz.ifNo 131 X27 hx (dd at_128) ((if0 _ _).trans (feq hc28).1) rfl ?_
            refine Gz.iconst 132 (1 : Int32) X27 hx (dd at_131) rfl rfl ?_
            refine Gz.goto 136 X27 hx (dd at_132) (by decide) (by decide) ?_
            refine Gz.istore 138 #[.val (.int p0), .val (.int p1), .val (.int p2), .val (.int p3), .val (.int p4), .val (.ref st_KEEP), .val (.int fr), .val (.int to), .val (.ref b3), .val (.int (1 : Int32)), .unset, .unset] X27 hx (dd at_136) rfl rfl ?_
            refine Gz.aload 140 X27 hx (dd at_138) rfl rfl rfl ?_
            refine Gz.getS 143 X27 hx hZ hown (dd at_140) (host := "") (Or.inl (ww hw 0 rfl)) Via.refl e27 f15_S_st_KEEP rfl fun T31 X31 e31 => ?_
            refine Gz.acmp 146 true X31 hx (dd at_143) rfl rfl (decide_eq_true rfl) (by decide) (by decide) ?_
            refine Gz.iconst 147 (1 : Int32) X31 hx (dd at_146) rfl rfl ?_
            refine Gz.istore 149 #[.val (.int p0), .val (.int p1), .val (.int p2), .val (.int p3), .val (.int p4), .val (.ref st_KEEP), .val (.int fr), .val (.int to), .val (.ref b3), .val (.int (1 : Int32)), .val (.int (1 : Int32)), .unset] X31 hx (dd at_147) rfl rfl ?_
            refine Gz.goto 164 X31 hx (dd at_149) (by decide) (by decide) ?_
            refine Gz.aload 166 X31 hx (dd at_164) rfl rfl rfl ?_
            refine Gz.aload 168 X31 hx (dd at_166) rfl rfl rfl ?_
            refine Gz.iload 170 X31 hx (dd at_168) rfl rfl ?_
            refine Gz.iload 172 X31 hx (dd at_170) rfl rfl ?_
            obtain ⟨cq32, kq32, q32a, q32b, q32c⟩ := isOf hZ e31 f15_E_st_KEEP
            obtain ⟨_, _, ⟨T32, L32, k32, n32⟩, -, X32, ⟨Lc32, hQ32, l32, y32, z32⟩, st32⟩ := X31.virtualBack hx (y := (⟨"com/example/fold3/fold3/graph/ColonTitles", "keeps", "([BII)Z"⟩ : MethodName)) (z := (⟨"com/example/fold3/fold3/graph/ColonTitles", "keeps", "([BII)Z"⟩ : MethodName)) hown (mvT hZ (ww hw 12 rfl)) (mvT hZ (ww hw 13 rfl)) (notFace_of_selects (args := #[]) (mvT hZ (ww hw 15 rfl))) (mvT hZ (ww hw 15 rfl)) (mvT hZ (ww hw 14 rfl)) (by decide) (backOf (W := 0) (rm3 l Z av0 hw [] st_KEEP b3 fr to k3 (r4.toInt8.toInt32) (r7.toInt8.toInt32) (r10.toInt8.toInt32) (r13.toInt8.toInt32) st_DROP h15 n0 SZ15 V15 f15_S_st_DROP h_fr h_to) hZ (ww hw 16 rfl) (ww hw 1 rfl) (by decide) (by decide)) q32a q32c (g := (mkF m 172 #[.val (.int p0), .val (.int p1), .val (.int p2), .val (.int p3), .val (.int p4), .val (.ref st_KEEP), .val (.int fr), .val (.int to), .val (.ref b3), .val (.int (1 : Int32)), .val (.int (1 : Int32)), .unset] [(.int to), (.int fr), (.ref b3), (.ref st_KEEP)])) rfl (by rw [hml]; rfl) (Steps.refl _) (argsL := [(.ref b3), (.int fr), (.int to)]) (rest := []) (lenOf pd_2 rfl) rfl (by show 2 * 0 + _ ≤ _; exact Nat.le_of_eq rfl) (dd at_172) (fun _ _ => ⟨rfl, e31, (by decide : 1 + 0 ≤ _), (by decide : 4 + 0 ≤ _)⟩)
            dsimp only [Pt.U, Pt.locs, Pt.cells, Pt.slots, Q_rm3] at X32 l32 y32 z32 st32 hQ32
            subst l32 y32 z32
            rw [show (f3 st_KEEP b3 fr to (r4.toInt8.toInt32) (r7.toInt8.toInt32) (r10.toInt8.toInt32) (r13.toInt8.toInt32) st_DROP) = (1 : Int32) from (by unfold f3; rw [if_neg ne_st_KEEP_st_DROP]; try decide)] at hQ32
            obtain ⟨rfl, N32q, e32⟩ := hQ32
            have N32 := Fr.app N27 N32q
            refine Gz.tr st32 ?_
            refine Gz.istore 177 #[.val (.int p0), .val (.int p1), .val (.int p2), .val (.int p3), .val (.int p4), .val (.ref st_KEEP), .val (.int fr), .val (.int to), .val (.ref b3), .val (.int (1 : Int32)), .val (.int (1 : Int32)), .val (.int (1 : Int32))] X32 hx (dd at_175) rfl rfl ?_
            refine Gz.iload 179 X32 hx (dd at_177) rfl rfl ?_
            refine Gz.iload 181 X32 hx (dd at_179) rfl rfl ?_
            refine Gz.icmpNo 184 X32 hx (dd at_181) (teq (by decide : (1 : Int32) = (1 : Int32))).2 rfl ?_
            refine Gz.iconst 185 (1 : Int32) X32 hx (dd at_184) rfl rfl ?_
            refine Gz.goto 189 X32 hx (dd at_185) (by decide) (by decide) ?_
            refine Gz.fin X32 (v := some (.int (1 : Int32))) (fun h => by rw [hret] at h; cases h) hlk (by decide) (by decide) (fun fs hr => retN X32 hx (t := .boolean) hret (by simp) (dd at_189) hr) ?_
            exact ⟨rfl, N32⟩
        · refine Gz.ifYes 131 X24 hx (dd at_115) ((if0 _ _).trans (feq hc25).2) (by decide) (by decide) ?_
          refine Gz.iconst 132 (1 : Int32) X24 hx (dd at_131) rfl rfl ?_
          refine Gz.goto 136 X24 hx (dd at_132) (by decide) (by decide) ?_
          refine Gz.istore 138 #[.val (.int p0), .val (.int p1), .val (.int p2), .val (.int p3), .val (.int p4), .val (.ref st_KEEP), .val (.int fr), .val (.int to), .val (.ref b3), .val (.int (1 : Int32)), .unset, .unset] X24 hx (dd at_136) rfl rfl ?_
          refine Gz.aload 140 X24 hx (dd at_138) rfl rfl rfl ?_
          refine Gz.getS 143 X24 hx hZ hown (dd at_140) (host := "") (Or.inl (ww hw 0 rfl)) Via.refl e24 f15_S_st_KEEP rfl fun T33 X33 e33 => ?_
          refine Gz.acmp 146 true X33 hx (dd at_143) rfl rfl (decide_eq_true rfl) (by decide) (by decide) ?_
          refine Gz.iconst 147 (1 : Int32) X33 hx (dd at_146) rfl rfl ?_
          refine Gz.istore 149 #[.val (.int p0), .val (.int p1), .val (.int p2), .val (.int p3), .val (.int p4), .val (.ref st_KEEP), .val (.int fr), .val (.int to), .val (.ref b3), .val (.int (1 : Int32)), .val (.int (1 : Int32)), .unset] X33 hx (dd at_147) rfl rfl ?_
          refine Gz.goto 164 X33 hx (dd at_149) (by decide) (by decide) ?_
          refine Gz.aload 166 X33 hx (dd at_164) rfl rfl rfl ?_
          refine Gz.aload 168 X33 hx (dd at_166) rfl rfl rfl ?_
          refine Gz.iload 170 X33 hx (dd at_168) rfl rfl ?_
          refine Gz.iload 172 X33 hx (dd at_170) rfl rfl ?_
          obtain ⟨cq34, kq34, q34a, q34b, q34c⟩ := isOf hZ e33 f15_E_st_KEEP
          obtain ⟨_, _, ⟨T34, L34, k34, n34⟩, -, X34, ⟨Lc34, hQ34, l34, y34, z34⟩, st34⟩ := X33.virtualBack hx (y := (⟨"com/example/fold3/fold3/graph/ColonTitles", "keeps", "([BII)Z"⟩ : MethodName)) (z := (⟨"com/example/fold3/fold3/graph/ColonTitles", "keeps", "([BII)Z"⟩ : MethodName)) hown (mvT hZ (ww hw 12 rfl)) (mvT hZ (ww hw 13 rfl)) (notFace_of_selects (args := #[]) (mvT hZ (ww hw 15 rfl))) (mvT hZ (ww hw 15 rfl)) (mvT hZ (ww hw 14 rfl)) (by decide) (backOf (W := 0) (rm3 l Z av0 hw [] st_KEEP b3 fr to k3 (r4.toInt8.toInt32) (r7.toInt8.toInt32) (r10.toInt8.toInt32) (r13.toInt8.toInt32) st_DROP h15 n0 SZ15 V15 f15_S_st_DROP h_fr h_to) hZ (ww hw 16 rfl) (ww hw 1 rfl) (by decide) (by decide)) q34a q34c (g := (mkF m 172 #[.val (.int p0), .val (.int p1), .val (.int p2), .val (.int p3), .val (.int p4), .val (.ref st_KEEP), .val (.int fr), .val (.int to), .val (.ref b3), .val (.int (1 : Int32)), .val (.int (1 : Int32)), .unset] [(.int to), (.int fr), (.ref b3), (.ref st_KEEP)])) rfl (by rw [hml]; rfl) (Steps.refl _) (argsL := [(.ref b3), (.int fr), (.int to)]) (rest := []) (lenOf pd_2 rfl) rfl (by show 2 * 0 + _ ≤ _; exact Nat.le_of_eq rfl) (dd at_172) (fun _ _ => ⟨rfl, e33, (by decide : 1 + 0 ≤ _), (by decide : 4 + 0 ≤ _)⟩)
          dsimp only [Pt.U, Pt.locs, Pt.cells, Pt.slots, Q_rm3] at X34 l34 y34 z34 st34 hQ34
          subst l34 y34 z34
          rw [show (f3 st_KEEP b3 fr to (r4.toInt8.toInt32) (r7.toInt8.toInt32) (r10.toInt8.toInt32) (r13.toInt8.toInt32) st_DROP) = (1 : Int32) from (by unfold f3; rw [if_neg ne_st_KEEP_st_DROP]; try decide)] at hQ34
          obtain ⟨rfl, N34q, e34⟩ := hQ34
          have N34 := Fr.app N24 N34q
          refine Gz.tr st34 ?_
          refine Gz.istore 177 #[.val (.int p0), .val (.int p1), .val (.int p2), .val (.int p3), .val (.int p4), .val (.ref st_KEEP), .val (.int fr), .val (.int to), .val (.ref b3), .val (.int (1 : Int32)), .val (.int (1 : Int32)), .val (.int (1 : Int32))] X34 hx (dd at_175) rfl rfl ?_
          refine Gz.iload 179 X34 hx (dd at_177) rfl rfl ?_
          refine Gz.iload 181 X34 hx (dd at_179) rfl rfl ?_
          refine Gz.icmpNo 184 X34 hx (dd at_181) (teq (by decide : (1 : Int32) = (1 : Int32))).2 rfl ?_
          refine Gz.iconst 185 (1 : Int32) X34 hx (dd at_184) rfl rfl ?_
          refine Gz.goto 189 X34 hx (dd at_185) (by decide) (by decide) ?_
          refine Gz.fin X34 (v := some (.int (1 : Int32))) (fun h => by rw [hret] at h; cases h) hlk (by decide) (by decide) (fun fs hr => retN X34 hx (t := .boolean) hret (by simp) (dd at_189) hr) ?_
          exact ⟨rfl, N34⟩
      · refine Gz.ifYes 131 X21 hx (dd at_102) ((if0 _ _).trans (feq hc22).2) (by decide) (by decide) ?_
        refine Gz.iconst 132 (1 : Int32) X21 hx (dd at_131) rfl rfl ?_
        refine Gz.goto 136 X21 hx (dd at_132) (by decide) (by decide) ?_
        refine Gz.istore 138 #[.val (.int p0), .val (.int p1), .val (.int p2), .val (.int p3), .val (.int p4), .val (.ref st_KEEP), .val (.int fr), .val (.int to), .val (.ref b3), .val (.int (1 : Int32)), .unset, .unset] X21 hx (dd at_136) rfl rfl ?_
        refine Gz.aload 140 X21 hx (dd at_138) rfl rfl rfl ?_
        refine Gz.getS 143 X21 hx hZ hown (dd at_140) (host := "") (Or.inl (ww hw 0 rfl)) Via.refl e21 f15_S_st_KEEP rfl fun T35 X35 e35 => ?_
        refine Gz.acmp 146 true X35 hx (dd at_143) rfl rfl (decide_eq_true rfl) (by decide) (by decide) ?_
        refine Gz.iconst 147 (1 : Int32) X35 hx (dd at_146) rfl rfl ?_
        refine Gz.istore 149 #[.val (.int p0), .val (.int p1), .val (.int p2), .val (.int p3), .val (.int p4), .val (.ref st_KEEP), .val (.int fr), .val (.int to), .val (.ref b3), .val (.int (1 : Int32)), .val (.int (1 : Int32)), .unset] X35 hx (dd at_147) rfl rfl ?_
        refine Gz.goto 164 X35 hx (dd at_149) (by decide) (by decide) ?_
        refine Gz.aload 166 X35 hx (dd at_164) rfl rfl rfl ?_
        refine Gz.aload 168 X35 hx (dd at_166) rfl rfl rfl ?_
        refine Gz.iload 170 X35 hx (dd at_168) rfl rfl ?_
        refine Gz.iload 172 X35 hx (dd at_170) rfl rfl ?_
        obtain ⟨cq36, kq36, q36a, q36b, q36c⟩ := isOf hZ e35 f15_E_st_KEEP
        obtain ⟨_, _, ⟨T36, L36, k36, n36⟩, -, X36, ⟨Lc36, hQ36, l36, y36, z36⟩, st36⟩ := X35.virtualBack hx (y := (⟨"com/example/fold3/fold3/graph/ColonTitles", "keeps", "([BII)Z"⟩ : MethodName)) (z := (⟨"com/example/fold3/fold3/graph/ColonTitles", "keeps", "([BII)Z"⟩ : MethodName)) hown (mvT hZ (ww hw 12 rfl)) (mvT hZ (ww hw 13 rfl)) (notFace_of_selects (args := #[]) (mvT hZ (ww hw 15 rfl))) (mvT hZ (ww hw 15 rfl)) (mvT hZ (ww hw 14 rfl)) (by decide) (backOf (W := 0) (rm3 l Z av0 hw [] st_KEEP b3 fr to k3 (r4.toInt8.toInt32) (r7.toInt8.toInt32) (r10.toInt8.toInt32) (r13.toInt8.toInt32) st_DROP h15 n0 SZ15 V15 f15_S_st_DROP h_fr h_to) hZ (ww hw 16 rfl) (ww hw 1 rfl) (by decide) (by decide)) q36a q36c (g := (mkF m 172 #[.val (.int p0), .val (.int p1), .val (.int p2), .val (.int p3), .val (.int p4), .val (.ref st_KEEP), .val (.int fr), .val (.int to), .val (.ref b3), .val (.int (1 : Int32)), .val (.int (1 : Int32)), .unset] [(.int to), (.int fr), (.ref b3), (.ref st_KEEP)])) rfl (by rw [hml]; rfl) (Steps.refl _) (argsL := [(.ref b3), (.int fr), (.int to)]) (rest := []) (lenOf pd_2 rfl) rfl (by show 2 * 0 + _ ≤ _; exact Nat.le_of_eq rfl) (dd at_172) (fun _ _ => ⟨rfl, e35, (by decide : 1 + 0 ≤ _), (by decide : 4 + 0 ≤ _)⟩)
        dsimp only [Pt.U, Pt.locs, Pt.cells, Pt.slots, Q_rm3] at X36 l36 y36 z36 st36 hQ36
        subst l36 y36 z36
        rw [show (f3 st_KEEP b3 fr to (r4.toInt8.toInt32) (r7.toInt8.toInt32) (r10.toInt8.toInt32) (r13.toInt8.toInt32) st_DROP) = (1 : Int32) from (by unfold f3; rw [if_neg ne_st_KEEP_st_DROP]; try decide)] at hQ36
        obtain ⟨rfl, N36q, e36⟩ := hQ36
        have N36 := Fr.app N21 N36q
        refine Gz.tr st36 ?_
        refine Gz.istore 177 #[.val (.int p0), .val (.int p1), .val (.int p2), .val (.int p3), .val (.int p4), .val (.ref st_KEEP), .val (.int fr), .val (.int to), .val (.ref b3), .val (.int (1 : Int32)), .val (.int (1 : Int32)), .val (.int (1 : Int32))] X36 hx (dd at_175) rfl rfl ?_
        refine Gz.iload 179 X36 hx (dd at_177) rfl rfl ?_
        refine Gz.iload 181 X36 hx (dd at_179) rfl rfl ?_
        refine Gz.icmpNo 184 X36 hx (dd at_181) (teq (by decide : (1 : Int32) = (1 : Int32))).2 rfl ?_
        refine Gz.iconst 185 (1 : Int32) X36 hx (dd at_184) rfl rfl ?_
        refine Gz.goto 189 X36 hx (dd at_185) (by decide) (by decide) ?_
        refine Gz.fin X36 (v := some (.int (1 : Int32))) (fun h => by rw [hret] at h; cases h) hlk (by decide) (by decide) (fun fs hr => retN X36 hx (t := .boolean) hret (by simp) (dd at_189) hr) ?_
        exact ⟨rfl, N36⟩
    · refine Gz.ifYes 131 X18 hx (dd at_89) ((if0 _ _).trans (feq hc19).2) (by decide) (by decide) ?_
      refine Gz.iconst 132 (1 : Int32) X18 hx (dd at_131) rfl rfl ?_
      refine Gz.goto 136 X18 hx (dd at_132) (by decide) (by decide) ?_
      refine Gz.istore 138 #[.val (.int p0), .val (.int p1), .val (.int p2), .val (.int p3), .val (.int p4), .val (.ref st_KEEP), .val (.int fr), .val (.int to), .val (.ref b3), .val (.int (1 : Int32)), .unset, .unset] X18 hx (dd at_136) rfl rfl ?_
      refine Gz.aload 140 X18 hx (dd at_138) rfl rfl rfl ?_
      refine Gz.getS 143 X18 hx hZ hown (dd at_140) (host := "") (Or.inl (ww hw 0 rfl)) Via.refl e18 f15_S_st_KEEP rfl fun T37 X37 e37 => ?_
      refine Gz.acmp 146 true X37 hx (dd at_143) rfl rfl (decide_eq_true rfl) (by decide) (by decide) ?_
      refine Gz.iconst 147 (1 : Int32) X37 hx (dd at_146) rfl rfl ?_
      refine Gz.istore 149 #[.val (.int p0), .val (.int p1), .val (.int p2), .val (.int p3), .val (.int p4), .val (.ref st_KEEP), .val (.int fr), .val (.int to), .val (.ref b3), .val (.int (1 : Int32)), .val (.int (1 : Int32)), .unset] X37 hx (dd at_147) rfl rfl ?_
      refine Gz.goto 164 X37 hx (dd at_149) (by decide) (by decide) ?_
      refine Gz.aload 166 X37 hx (dd at_164) rfl rfl rfl ?_
      refine Gz.aload 168 X37 hx (dd at_166) rfl rfl rfl ?_
      refine Gz.iload 170 X37 hx (dd at_168) rfl rfl ?_
      refine Gz.iload 172 X37 hx (dd at_170) rfl rfl ?_
      obtain ⟨cq38, kq38, q38a, q38b, q38c⟩ := isOf hZ e37 f15_E_st_KEEP
      obtain ⟨_, _, ⟨T38, L38, k38, n38⟩, -, X38, ⟨Lc38, hQ38, l38, y38, z38⟩, st38⟩ := X37.virtualBack hx (y := (⟨"com/example/fold3/fold3/graph/ColonTitles", "keeps", "([BII)Z"⟩ : MethodName)) (z := (⟨"com/example/fold3/fold3/graph/ColonTitles", "keeps", "([BII)Z"⟩ : MethodName)) hown (mvT hZ (ww hw 12 rfl)) (mvT hZ (ww hw 13 rfl)) (notFace_of_selects (args := #[]) (mvT hZ (ww hw 15 rfl))) (mvT hZ (ww hw 15 rfl)) (mvT hZ (ww hw 14 rfl)) (by decide) (backOf (W := 0) (rm3 l Z av0 hw [] st_KEEP b3 fr to k3 (r4.toInt8.toInt32) (r7.toInt8.toInt32) (r10.toInt8.toInt32) (r13.toInt8.toInt32) st_DROP h15 n0 SZ15 V15 f15_S_st_DROP h_fr h_to) hZ (ww hw 16 rfl) (ww hw 1 rfl) (by decide) (by decide)) q38a q38c (g := (mkF m 172 #[.val (.int p0), .val (.int p1), .val (.int p2), .val (.int p3), .val (.int p4), .val (.ref st_KEEP), .val (.int fr), .val (.int to), .val (.ref b3), .val (.int (1 : Int32)), .val (.int (1 : Int32)), .unset] [(.int to), (.int fr), (.ref b3), (.ref st_KEEP)])) rfl (by rw [hml]; rfl) (Steps.refl _) (argsL := [(.ref b3), (.int fr), (.int to)]) (rest := []) (lenOf pd_2 rfl) rfl (by show 2 * 0 + _ ≤ _; exact Nat.le_of_eq rfl) (dd at_172) (fun _ _ => ⟨rfl, e37, (by decide : 1 + 0 ≤ _), (by decide : 4 + 0 ≤ _)⟩)
      dsimp only [Pt.U, Pt.locs, Pt.cells, Pt.slots, Q_rm3] at X38 l38 y38 z38 st38 hQ38
      subst l38 y38 z38
      rw [show (f3 st_KEEP b3 fr to (r4.toInt8.toInt32) (r7.toInt8.toInt32) (r10.toInt8.toInt32) (r13.toInt8.toInt32) st_DROP) = (1 : Int32) from (by unfold f3; rw [if_neg ne_st_KEEP_st_DROP]; try decide)] at hQ38
      obtain ⟨rfl, N38q, e38⟩ := hQ38
      have N38 := Fr.app N18 N38q
      refine Gz.tr st38 ?_
      refine Gz.istore 177 #[.val (.int p0), .val (.int p1), .val (.int p2), .val (.int p3), .val (.int p4), .val (.ref st_KEEP), .val (.int fr), .val (.int to), .val (.ref b3), .val (.int (1 : Int32)), .val (.int (1 : Int32)), .val (.int (1 : Int32))] X38 hx (dd at_175) rfl rfl ?_
      refine Gz.iload 179 X38 hx (dd at_177) rfl rfl ?_
      refine Gz.iload 181 X38 hx (dd at_179) rfl rfl ?_
      refine Gz.icmpNo 184 X38 hx (dd at_181) (teq (by decide : (1 : Int32) = (1 : Int32))).2 rfl ?_
      refine Gz.iconst 185 (1 : Int32) X38 hx (dd at_184) rfl rfl ?_
      refine Gz.goto 189 X38 hx (dd at_185) (by decide) (by decide) ?_
      refine Gz.fin X38 (v := some (.int (1 : Int32))) (fun h => by rw [hret] at h; cases h) hlk (by decide) (by decide) (fun fs hr => retN X38 hx (t := .boolean) hret (by simp) (dd at_189) hr) ?_
      exact ⟨rfl, N38⟩
  · refine Gz.ifNo 7 X0 hx (dd at_4) ((if0 _ _).trans (feq hc1).1) rfl ?_
    refine Gz.getS 10 X0 hx hZ hown (dd at_7) (host := "") (Or.inl (ww hw 19 rfl)) Via.refl e0 S_st_DROP rfl fun T39 X39 e39 => ?_
    refine Gz.goto 16 X39 hx (dd at_10) (by decide) (by decide) ?_
    refine Gz.astore 18 #[.val (.int p0), .val (.int p1), .val (.int p2), .val (.int p3), .val (.int p4), .val (.ref st_DROP), .unset, .unset, .unset, .unset, .unset, .unset] X39 hx (dd at_16) rfl rfl rfl ?_
    refine Gz.iloadN 19 X39 hx (dd at_18) rfl rfl ?_
    refine Gz.ldcI 21 X39 hx (dd at_19) hown (mvT hZ (ww hw 3 rfl)) rfl ?_
    refine Gz.iand 22 X39 hx (dd at_21) rfl ?_
    refine Gz.iconst 23 (5 : Int32) X39 hx (dd at_22) rfl rfl ?_
    refine Gz.irem 24 X39 hx (dd at_23) (by decide) rfl ?_
    show Gz p e below s _ _ _ (T39.setTop (mkF m 24 #[.val (.int p0), .val (.int p1), .val (.int p2), .val (.int p3), .val (.int p4), .val (.ref st_DROP), .unset, .unset, .unset, .unset, .unset, .unset] [(.int ((p2 &&& (2147483647 : Int32)) % (5 : Int32)))]))
    obtain ⟨fr, q_fr, h_fr⟩ : ∃ z, ((p2 &&& (2147483647 : Int32)) % (5 : Int32)) = z ∧ (z = (0 : Int32) ∨ z = (1 : Int32) ∨ z = (2 : Int32) ∨ z = (3 : Int32) ∨ z = (4 : Int32)) := ⟨_, rfl, own_five _⟩
    rw [q_fr]
    show Gz p e below s _ _ _ (T39.setTop (mkF m 24 #[.val (.int p0), .val (.int p1), .val (.int p2), .val (.int p3), .val (.int p4), .val (.ref st_DROP), .unset, .unset, .unset, .unset, .unset, .unset] [(.int fr)]))
    refine Gz.istore 26 #[.val (.int p0), .val (.int p1), .val (.int p2), .val (.int p3), .val (.int p4), .val (.ref st_DROP), .val (.int fr), .unset, .unset, .unset, .unset, .unset] X39 hx (dd at_24) rfl rfl ?_
    refine Gz.iloadN 27 X39 hx (dd at_26) rfl rfl ?_
    refine Gz.ldcI 29 X39 hx (dd at_27) hown (mvT hZ (ww hw 3 rfl)) rfl ?_
    refine Gz.iand 30 X39 hx (dd at_29) rfl ?_
    refine Gz.iconst 31 (5 : Int32) X39 hx (dd at_30) rfl rfl ?_
    refine Gz.irem 32 X39 hx (dd at_31) (by decide) rfl ?_
    show Gz p e below s _ _ _ (T39.setTop (mkF m 32 #[.val (.int p0), .val (.int p1), .val (.int p2), .val (.int p3), .val (.int p4), .val (.ref st_DROP), .val (.int fr), .unset, .unset, .unset, .unset, .unset] [(.int ((p3 &&& (2147483647 : Int32)) % (5 : Int32)))]))
    obtain ⟨to, q_to, h_to⟩ : ∃ z, ((p3 &&& (2147483647 : Int32)) % (5 : Int32)) = z ∧ (z = (0 : Int32) ∨ z = (1 : Int32) ∨ z = (2 : Int32) ∨ z = (3 : Int32) ∨ z = (4 : Int32)) := ⟨_, rfl, own_five _⟩
    rw [q_to]
    show Gz p e below s _ _ _ (T39.setTop (mkF m 32 #[.val (.int p0), .val (.int p1), .val (.int p2), .val (.int p3), .val (.int p4), .val (.ref st_DROP), .val (.int fr), .unset, .unset, .unset, .unset, .unset] [(.int to)]))
    refine Gz.istore 34 #[.val (.int p0), .val (.int p1), .val (.int p2), .val (.int p3), .val (.int p4), .val (.ref st_DROP), .val (.int fr), .val (.int to), .unset, .unset, .unset, .unset] X39 hx (dd at_32) rfl rfl ?_
    refine Gz.iconst 35 (4 : Int32) X39 hx (dd at_34) rfl rfl ?_
    obtain ⟨T40, h40, k40, X40, e40, E40, A40, Q40, st40⟩ := newPE X39 hx hZ (ww hw 4 rfl) e39 (g := (mkF m 35 #[.val (.int p0), .val (.int p1), .val (.int p2), .val (.int p3), .val (.int p4), .val (.ref st_DROP), .val (.int fr), .val (.int to), .unset, .unset, .unset, .unset] [(.int (4 : Int32))])) rfl (dd at_35) rfl (by decide) (cap := 4) (by decide) (by decide) (by decide) (by decide) (ad := "[B") rfl
    obtain ⟨b40, g40⟩ : ∃ z, z = h0.size := ⟨_, rfl⟩
    rw [← g40] at A40 Q40 st40
    have ne_st_KEEP_b40 : st_KEEP ≠ b40 := Nat.ne_of_lt (Nat.lt_of_lt_of_le (E_st_KEEP).lt (Nat.le_of_eq g40.symm))
    have ne_st_DROP_b40 : st_DROP ≠ b40 := Nat.ne_of_lt (Nat.lt_of_lt_of_le (E_st_DROP).lt (Nat.le_of_eq g40.symm))
    have g_b40 : n0 ≤ b40 := Nat.le_trans Z0 (Nat.le_of_eq g40.symm)
    have SZ40 : n0 ≤ h40.size := Nat.le_trans Z0 E40.1
    have f40_S_st_KEEP := Sta.ext E40 S_st_KEEP
    have f40_S_st_DROP := Sta.ext E40 S_st_DROP
    have f40_E_st_KEEP := Exa.ext E40 E_st_KEEP
    have f40_E_st_DROP := Exa.ext E40 E_st_DROP
    have V40 : Arv Z h40 b40 k40 .byte (4 : Int32) [(.int (0 : Int32)), (.int (0 : Int32)), (.int (0 : Int32)), (.int (0 : Int32))] (.int (0 : Int32)) := (Arv.new A40 (by decide)).pad (pad_rep [] (.int (0 : Int32)) 4)
    refine Gz.st st40 ?_
    refine Gz.astore 39 #[.val (.int p0), .val (.int p1), .val (.int p2), .val (.int p3), .val (.int p4), .val (.ref st_DROP), .val (.int fr), .val (.int to), .val (.ref b40), .unset, .unset, .unset] X40 hx (dd at_37) rfl rfl rfl ?_
    refine Gz.aload 41 X40 hx (dd at_39) rfl rfl rfl ?_
    refine Gz.iconst 42 (0 : Int32) X40 hx (dd at_41) rfl rfl ?_
    refine Gz.iloadN 43 X40 hx (dd at_42) rfl rfl ?_
    refine Gz.iloadN 44 X40 hx (dd at_43) rfl rfl ?_
    refine Gz.iconst 45 (0 : Int32) X40 hx (dd at_44) rfl rfl ?_
    obtain ⟨_, _, ⟨T41, L41, k41, n41⟩, -, X41, ⟨Lc41, hQ41, l41, y41, z41⟩, st41⟩ := Jvm.LawKit.callS X40 hx (y := (⟨"com/example/fold3/fold3/graph/ColonTitlesKeepsPinLaw", "pick", "(III)B"⟩ : MethodName)) hown (mvT hZ (ww hw 5 rfl)) (mvT hZ (ww hw 6 rfl)) (mvT hZ (ww hw 7 rfl)) (mvT hZ (ww hw 8 rfl)) (by decide) (backOf (W := 2) (rm1 l Z av0 hw [] p1 p0 (0 : Int32)  h40 n0 SZ40 ) hZ (ww hw 8 rfl) (ww hw 7 rfl) (by decide) (by decide)) (g := (mkF m 45 #[.val (.int p0), .val (.int p1), .val (.int p2), .val (.int p3), .val (.int p4), .val (.ref st_DROP), .val (.int fr), .val (.int to), .val (.ref b40), .unset, .unset, .unset] [(.int (0 : Int32)), (.int p0), (.int p1), (.int (0 : Int32)), (.ref b40)])) rfl (by rw [hml]; rfl) (argsL := [(.int p1), (.int p0), (.int (0 : Int32))]) (rest := [(.int (0 : Int32)), (.ref b40)]) (lenOf pd_0 rfl) rfl (by show 2 * 0 + _ ≤ _; exact Nat.le_of_eq rfl) (dd at_45) (fun _ _ => ⟨rfl, e40, (by decide : 1 + 0 ≤ _), (by decide : 4 + 0 ≤ _)⟩)
    dsimp only [Pt.U, Pt.locs, Pt.cells, Pt.slots, Q_rm1] at X41 l41 y41 z41 st41 hQ41
    subst l41 y41 z41
    generalize (f1 p1 p0 (0 : Int32)) = r41 at hQ41
    obtain ⟨rfl, N41q, e41⟩ := hQ41
    have N41 := Fr.app N0 N41q
    refine Gz.st st41 ?_
    obtain ⟨c42, A42, q42, S42, N42, H42, G42⟩ := id V40
    have hin42 : ¬ ((0 : Int32) < 0 ∨ c42.slots.size ≤ ((0 : Int32)).toNatClampNeg) := inb_of S42 ⟨by decide, by decide⟩
    refine Gz.stB 49 X41 hx hZ (dd at_48) e41 A42 hin42 rfl fun T43 h43 X43 e43 W43 => ?_
    have V43 := Arv.set A42 q42 S42 N42 H42 G42 (fits_nar_byte _) W43 0 rfl (Nat.le_of_ble_eq_true rfl)
    replace V43 : Arv Z h43 b40 k40 .byte (4 : Int32) [(.int (r41.toInt8.toInt32)), (.int (0 : Int32)), (.int (0 : Int32)), (.int (0 : Int32))] (.int (0 : Int32)) := V43
    have f43_S_st_KEEP := Sta.wr W43 f40_S_st_KEEP
    have f43_S_st_DROP := Sta.wr W43 f40_S_st_DROP
    have f43_E_st_KEEP := Exa.wr W43 f40_E_st_KEEP
    have f43_E_st_DROP := Exa.wr W43 f40_E_st_DROP
    have f43_Eb40 := Exa.wr W43 Q40
    have N43 := Fr.snoc X43 N41 g_b40
    have SZ43 : n0 ≤ h43.size := Nat.le_trans SZ40 (Keep.of_wr W43).1
    refine Gz.aload 51 X43 hx (dd at_49) rfl rfl rfl ?_
    refine Gz.iconst 52 (1 : Int32) X43 hx (dd at_51) rfl rfl ?_
    refine Gz.iloadN 53 X43 hx (dd at_52) rfl rfl ?_
    refine Gz.iloadN 54 X43 hx (dd at_53) rfl rfl ?_
    refine Gz.iconst 55 (1 : Int32) X43 hx (dd at_54) rfl rfl ?_
    obtain ⟨_, _, ⟨T44, L44, k44, n44⟩, -, X44, ⟨Lc44, hQ44, l44, y44, z44⟩, st44⟩ := Jvm.LawKit.callS X43 hx (y := (⟨"com/example/fold3/fold3/graph/ColonTitlesKeepsPinLaw", "pick", "(III)B"⟩ : MethodName)) hown (mvT hZ (ww hw 5 rfl)) (mvT hZ (ww hw 6 rfl)) (mvT hZ (ww hw 7 rfl)) (mvT hZ (ww hw 8 rfl)) (by decide) (backOf (W := 2) (rm1 l Z av0 hw [] p1 p0 (1 : Int32)  h43 n0 SZ43 ) hZ (ww hw 8 rfl) (ww hw 7 rfl) (by decide) (by decide)) (g := (mkF m 55 #[.val (.int p0), .val (.int p1), .val (.int p2), .val (.int p3), .val (.int p4), .val (.ref st_DROP), .val (.int fr), .val (.int to), .val (.ref b40), .unset, .unset, .unset] [(.int (1 : Int32)), (.int p0), (.int p1), (.int (1 : Int32)), (.ref b40)])) rfl (by rw [hml]; rfl) (argsL := [(.int p1), (.int p0), (.int (1 : Int32))]) (rest := [(.int (1 : Int32)), (.ref b40)]) (lenOf pd_0 rfl) rfl (by show 2 * 0 + _ ≤ _; exact Nat.le_of_eq rfl) (dd at_55) (fun _ _ => ⟨rfl, e43, (by decide : 1 + 0 ≤ _), (by decide : 4 + 0 ≤ _)⟩)
    dsimp only [Pt.U, Pt.locs, Pt.cells, Pt.slots, Q_rm1] at X44 l44 y44 z44 st44 hQ44
    subst l44 y44 z44
    generalize (f1 p1 p0 (1 : Int32)) = r44 at hQ44
    obtain ⟨rfl, N44q, e44⟩ := hQ44
    have N44 := Fr.app N43 N44q
    refine Gz.st st44 ?_
    obtain ⟨c45, A45, q45, S45, N45, H45, G45⟩ := id V43
    have hin45 : ¬ ((1 : Int32) < 0 ∨ c45.slots.size ≤ ((1 : Int32)).toNatClampNeg) := inb_of S45 ⟨by decide, by decide⟩
    refine Gz.stB 59 X44 hx hZ (dd at_58) e44 A45 hin45 rfl fun T46 h46 X46 e46 W46 => ?_
    have V46 := Arv.set A45 q45 S45 N45 H45 G45 (fits_nar_byte _) W46 1 rfl (Nat.le_of_ble_eq_true rfl)
    replace V46 : Arv Z h46 b40 k40 .byte (4 : Int32) [(.int (r41.toInt8.toInt32)), (.int (r44.toInt8.toInt32)), (.int (0 : Int32)), (.int (0 : Int32))] (.int (0 : Int32)) := V46
    have f46_S_st_KEEP := Sta.wr W46 f43_S_st_KEEP
    have f46_S_st_DROP := Sta.wr W46 f43_S_st_DROP
    have f46_E_st_KEEP := Exa.wr W46 f43_E_st_KEEP
    have f46_E_st_DROP := Exa.wr W46 f43_E_st_DROP
    have f46_Eb40 := Exa.wr W46 f43_Eb40
    have N46 := Fr.snoc X46 N44 g_b40
    have SZ46 : n0 ≤ h46.size := Nat.le_trans SZ43 (Keep.of_wr W46).1
    refine Gz.aload 61 X46 hx (dd at_59) rfl rfl rfl ?_
    refine Gz.iconst 62 (2 : Int32) X46 hx (dd at_61) rfl rfl ?_
    refine Gz.iloadN 63 X46 hx (dd at_62) rfl rfl ?_
    refine Gz.iloadN 64 X46 hx (dd at_63) rfl rfl ?_
    refine Gz.iconst 65 (2 : Int32) X46 hx (dd at_64) rfl rfl ?_
    obtain ⟨_, _, ⟨T47, L47, k47, n47⟩, -, X47, ⟨Lc47, hQ47, l47, y47, z47⟩, st47⟩ := Jvm.LawKit.callS X46 hx (y := (⟨"com/example/fold3/fold3/graph/ColonTitlesKeepsPinLaw", "pick", "(III)B"⟩ : MethodName)) hown (mvT hZ (ww hw 5 rfl)) (mvT hZ (ww hw 6 rfl)) (mvT hZ (ww hw 7 rfl)) (mvT hZ (ww hw 8 rfl)) (by decide) (backOf (W := 2) (rm1 l Z av0 hw [] p1 p0 (2 : Int32)  h46 n0 SZ46 ) hZ (ww hw 8 rfl) (ww hw 7 rfl) (by decide) (by decide)) (g := (mkF m 65 #[.val (.int p0), .val (.int p1), .val (.int p2), .val (.int p3), .val (.int p4), .val (.ref st_DROP), .val (.int fr), .val (.int to), .val (.ref b40), .unset, .unset, .unset] [(.int (2 : Int32)), (.int p0), (.int p1), (.int (2 : Int32)), (.ref b40)])) rfl (by rw [hml]; rfl) (argsL := [(.int p1), (.int p0), (.int (2 : Int32))]) (rest := [(.int (2 : Int32)), (.ref b40)]) (lenOf pd_0 rfl) rfl (by show 2 * 0 + _ ≤ _; exact Nat.le_of_eq rfl) (dd at_65) (fun _ _ => ⟨rfl, e46, (by decide : 1 + 0 ≤ _), (by decide : 4 + 0 ≤ _)⟩)
    dsimp only [Pt.U, Pt.locs, Pt.cells, Pt.slots, Q_rm1] at X47 l47 y47 z47 st47 hQ47
    subst l47 y47 z47
    generalize (f1 p1 p0 (2 : Int32)) = r47 at hQ47
    obtain ⟨rfl, N47q, e47⟩ := hQ47
    have N47 := Fr.app N46 N47q
    refine Gz.st st47 ?_
    obtain ⟨c48, A48, q48, S48, N48, H48, G48⟩ := id V46
    have hin48 : ¬ ((2 : Int32) < 0 ∨ c48.slots.size ≤ ((2 : Int32)).toNatClampNeg) := inb_of S48 ⟨by decide, by decide⟩
    refine Gz.stB 69 X47 hx hZ (dd at_68) e47 A48 hin48 rfl fun T49 h49 X49 e49 W49 => ?_
    have V49 := Arv.set A48 q48 S48 N48 H48 G48 (fits_nar_byte _) W49 2 rfl (Nat.le_of_ble_eq_true rfl)
    replace V49 : Arv Z h49 b40 k40 .byte (4 : Int32) [(.int (r41.toInt8.toInt32)), (.int (r44.toInt8.toInt32)), (.int (r47.toInt8.toInt32)), (.int (0 : Int32))] (.int (0 : Int32)) := V49
    have f49_S_st_KEEP := Sta.wr W49 f46_S_st_KEEP
    have f49_S_st_DROP := Sta.wr W49 f46_S_st_DROP
    have f49_E_st_KEEP := Exa.wr W49 f46_E_st_KEEP
    have f49_E_st_DROP := Exa.wr W49 f46_E_st_DROP
    have f49_Eb40 := Exa.wr W49 f46_Eb40
    have N49 := Fr.snoc X49 N47 g_b40
    have SZ49 : n0 ≤ h49.size := Nat.le_trans SZ46 (Keep.of_wr W49).1
    refine Gz.aload 71 X49 hx (dd at_69) rfl rfl rfl ?_
    refine Gz.iconst 72 (3 : Int32) X49 hx (dd at_71) rfl rfl ?_
    refine Gz.iloadN 73 X49 hx (dd at_72) rfl rfl ?_
    refine Gz.iloadN 74 X49 hx (dd at_73) rfl rfl ?_
    refine Gz.iconst 75 (3 : Int32) X49 hx (dd at_74) rfl rfl ?_
    obtain ⟨_, _, ⟨T50, L50, k50, n50⟩, -, X50, ⟨Lc50, hQ50, l50, y50, z50⟩, st50⟩ := Jvm.LawKit.callS X49 hx (y := (⟨"com/example/fold3/fold3/graph/ColonTitlesKeepsPinLaw", "pick", "(III)B"⟩ : MethodName)) hown (mvT hZ (ww hw 5 rfl)) (mvT hZ (ww hw 6 rfl)) (mvT hZ (ww hw 7 rfl)) (mvT hZ (ww hw 8 rfl)) (by decide) (backOf (W := 2) (rm1 l Z av0 hw [] p1 p0 (3 : Int32)  h49 n0 SZ49 ) hZ (ww hw 8 rfl) (ww hw 7 rfl) (by decide) (by decide)) (g := (mkF m 75 #[.val (.int p0), .val (.int p1), .val (.int p2), .val (.int p3), .val (.int p4), .val (.ref st_DROP), .val (.int fr), .val (.int to), .val (.ref b40), .unset, .unset, .unset] [(.int (3 : Int32)), (.int p0), (.int p1), (.int (3 : Int32)), (.ref b40)])) rfl (by rw [hml]; rfl) (argsL := [(.int p1), (.int p0), (.int (3 : Int32))]) (rest := [(.int (3 : Int32)), (.ref b40)]) (lenOf pd_0 rfl) rfl (by show 2 * 0 + _ ≤ _; exact Nat.le_of_eq rfl) (dd at_75) (fun _ _ => ⟨rfl, e49, (by decide : 1 + 0 ≤ _), (by decide : 4 + 0 ≤ _)⟩)
    dsimp only [Pt.U, Pt.locs, Pt.cells, Pt.slots, Q_rm1] at X50 l50 y50 z50 st50 hQ50
    subst l50 y50 z50
    generalize (f1 p1 p0 (3 : Int32)) = r50 at hQ50
    obtain ⟨rfl, N50q, e50⟩ := hQ50
    have N50 := Fr.app N49 N50q
    refine Gz.st st50 ?_
    obtain ⟨c51, A51, q51, S51, N51, H51, G51⟩ := id V49
    have hin51 : ¬ ((3 : Int32) < 0 ∨ c51.slots.size ≤ ((3 : Int32)).toNatClampNeg) := inb_of S51 ⟨by decide, by decide⟩
    refine Gz.stB 79 X50 hx hZ (dd at_78) e50 A51 hin51 rfl fun T52 h52 X52 e52 W52 => ?_
    have V52 := Arv.set A51 q51 S51 N51 H51 G51 (fits_nar_byte _) W52 3 rfl (Nat.le_of_ble_eq_true rfl)
    replace V52 : Arv Z h52 b40 k40 .byte (4 : Int32) [(.int (r41.toInt8.toInt32)), (.int (r44.toInt8.toInt32)), (.int (r47.toInt8.toInt32)), (.int (r50.toInt8.toInt32))] (.int (0 : Int32)) := V52
    have f52_S_st_KEEP := Sta.wr W52 f49_S_st_KEEP
    have f52_S_st_DROP := Sta.wr W52 f49_S_st_DROP
    have f52_E_st_KEEP := Exa.wr W52 f49_E_st_KEEP
    have f52_E_st_DROP := Exa.wr W52 f49_E_st_DROP
    have f52_Eb40 := Exa.wr W52 f49_Eb40
    have N52 := Fr.snoc X52 N50 g_b40
    have SZ52 : n0 ≤ h52.size := Nat.le_trans SZ49 (Keep.of_wr W52).1
    refine Gz.aload 81 X52 hx (dd at_79) rfl rfl rfl ?_
    refine Gz.iconst 82 (0 : Int32) X52 hx (dd at_81) rfl rfl ?_
    refine Gz.iload 84 X52 hx (dd at_82) rfl rfl ?_
    refine Gz.iload 86 X52 hx (dd at_84) rfl rfl ?_
    obtain ⟨c53, A53, q53, S53, N53, H53, G53⟩ := id V52
    have hin54 : ¬ ((0 : Int32) < 0 ∨ c53.slots.size ≤ ((0 : Int32)).toNatClampNeg) := inb_of S53 ⟨by decide, by decide⟩
    have hat54 : c53.slots[((0 : Int32)).toNatClampNeg]? = some (.int (r41.toInt8.toInt32)) := Has.at H53 hin54 rfl
    obtain ⟨_, _, ⟨T55, L55, k55, n55⟩, -, X55, ⟨Lc55, hQ55, l55, y55, z55⟩, st55⟩ := Jvm.LawKit.callS X52 hx (y := (⟨"com/example/fold3/fold3/graph/ColonTitlesKeepsPinLaw", "hit", "([BIII)Z"⟩ : MethodName)) hown (mvT hZ (ww hw 9 rfl)) (mvT hZ (ww hw 10 rfl)) (mvT hZ (ww hw 7 rfl)) (mvT hZ (ww hw 11 rfl)) (by decide) (backOf (W := 0) (rm2 l Z av0 hw [] b40 (0 : Int32) fr to c53 (r41.toInt8.toInt32) h52 n0 SZ52 A53 hin54 hat54) hZ (ww hw 11 rfl) (ww hw 7 rfl) (by decide) (by decide)) (g := (mkF m 86 #[.val (.int p0), .val (.int p1), .val (.int p2), .val (.int p3), .val (.int p4), .val (.ref st_DROP), .val (.int fr), .val (.int to), .val (.ref b40), .unset, .unset, .unset] [(.int to), (.int fr), (.int (0 : Int32)), (.ref b40)])) rfl (by rw [hml]; rfl) (argsL := [(.ref b40), (.int (0 : Int32)), (.int fr), (.int to)]) (rest := []) (lenOf pd_1 rfl) rfl (by show 2 * 0 + _ ≤ _; exact Nat.le_of_eq rfl) (dd at_86) (fun _ _ => ⟨rfl, e52, (by decide : 1 + 0 ≤ _), (by decide : 4 + 0 ≤ _)⟩)
    dsimp only [Pt.U, Pt.locs, Pt.cells, Pt.slots, Q_rm2] at X55 l55 y55 z55 st55 hQ55
    subst l55 y55 z55
    obtain ⟨rfl, N55q, e55⟩ := hQ55
    have N55 := Fr.app N52 N55q
    refine Gz.st st55 ?_
    by_cases hc56 : (f2 b40 (0 : Int32) fr to (r41.toInt8.toInt32)) = (0 : Int32)
    · refine Gz.ifNo 92 X55 hx (dd at_89) ((if0 _ _).trans (teq hc56).2) rfl ?_
      refine Gz.aload 94 X55 hx (dd at_92) rfl rfl rfl ?_
      refine Gz.iconst 95 (1 : Int32) X55 hx (dd at_94) rfl rfl ?_
      refine Gz.iload 97 X55 hx (dd at_95) rfl rfl ?_
      refine Gz.iload 99 X55 hx (dd at_97) rfl rfl ?_
      have hin57 : ¬ ((1 : Int32) < 0 ∨ c53.slots.size ≤ ((1 : Int32)).toNatClampNeg) := inb_of S53 ⟨by decide, by decide⟩
      have hat57 : c53.slots[((1 : Int32)).toNatClampNeg]? = some (.int (r44.toInt8.toInt32)) := Has.at H53 hin57 rfl
      obtain ⟨_, _, ⟨T58, L58, k58, n58⟩, -, X58, ⟨Lc58, hQ58, l58, y58, z58⟩, st58⟩ := Jvm.LawKit.callS X55 hx (y := (⟨"com/example/fold3/fold3/graph/ColonTitlesKeepsPinLaw", "hit", "([BIII)Z"⟩ : MethodName)) hown (mvT hZ (ww hw 9 rfl)) (mvT hZ (ww hw 10 rfl)) (mvT hZ (ww hw 7 rfl)) (mvT hZ (ww hw 11 rfl)) (by decide) (backOf (W := 0) (rm2 l Z av0 hw [] b40 (1 : Int32) fr to c53 (r44.toInt8.toInt32) h52 n0 SZ52 A53 hin57 hat57) hZ (ww hw 11 rfl) (ww hw 7 rfl) (by decide) (by decide)) (g := (mkF m 99 #[.val (.int p0), .val (.int p1), .val (.int p2), .val (.int p3), .val (.int p4), .val (.ref st_DROP), .val (.int fr), .val (.int to), .val (.ref b40), .unset, .unset, .unset] [(.int to), (.int fr), (.int (1 : Int32)), (.ref b40)])) rfl (by rw [hml]; rfl) (argsL := [(.ref b40), (.int (1 : Int32)), (.int fr), (.int to)]) (rest := []) (lenOf pd_1 rfl) rfl (by show 2 * 0 + _ ≤ _; exact Nat.le_of_eq rfl) (dd at_99) (fun _ _ => ⟨rfl, e55, (by decide : 1 + 0 ≤ _), (by decide : 4 + 0 ≤ _)⟩)
      dsimp only [Pt.U, Pt.locs, Pt.cells, Pt.slots, Q_rm2] at X58 l58 y58 z58 st58 hQ58
      subst l58 y58 z58
      obtain ⟨rfl, N58q, e58⟩ := hQ58
      have N58 := Fr.app N55 N58q
      refine Gz.st st58 ?_
      by_cases hc59 : (f2 b40 (1 : Int32) fr to (r44.toInt8.toInt32)) = (0 : Int32)
      · refine Gz.ifNo 105 X58 hx (dd at_102) ((if0 _ _).trans (teq hc59).2) rfl ?_
        refine Gz.aload 107 X58 hx (dd at_105) rfl rfl rfl ?_
        refine Gz.iconst 108 (2 : Int32) X58 hx (dd at_107) rfl rfl ?_
        refine Gz.iload 110 X58 hx (dd at_108) rfl rfl ?_
        refine Gz.iload 112 X58 hx (dd at_110) rfl rfl ?_
        have hin60 : ¬ ((2 : Int32) < 0 ∨ c53.slots.size ≤ ((2 : Int32)).toNatClampNeg) := inb_of S53 ⟨by decide, by decide⟩
        have hat60 : c53.slots[((2 : Int32)).toNatClampNeg]? = some (.int (r47.toInt8.toInt32)) := Has.at H53 hin60 rfl
        obtain ⟨_, _, ⟨T61, L61, k61, n61⟩, -, X61, ⟨Lc61, hQ61, l61, y61, z61⟩, st61⟩ := Jvm.LawKit.callS X58 hx (y := (⟨"com/example/fold3/fold3/graph/ColonTitlesKeepsPinLaw", "hit", "([BIII)Z"⟩ : MethodName)) hown (mvT hZ (ww hw 9 rfl)) (mvT hZ (ww hw 10 rfl)) (mvT hZ (ww hw 7 rfl)) (mvT hZ (ww hw 11 rfl)) (by decide) (backOf (W := 0) (rm2 l Z av0 hw [] b40 (2 : Int32) fr to c53 (r47.toInt8.toInt32) h52 n0 SZ52 A53 hin60 hat60) hZ (ww hw 11 rfl) (ww hw 7 rfl) (by decide) (by decide)) (g := (mkF m 112 #[.val (.int p0), .val (.int p1), .val (.int p2), .val (.int p3), .val (.int p4), .val (.ref st_DROP), .val (.int fr), .val (.int to), .val (.ref b40), .unset, .unset, .unset] [(.int to), (.int fr), (.int (2 : Int32)), (.ref b40)])) rfl (by rw [hml]; rfl) (argsL := [(.ref b40), (.int (2 : Int32)), (.int fr), (.int to)]) (rest := []) (lenOf pd_1 rfl) rfl (by show 2 * 0 + _ ≤ _; exact Nat.le_of_eq rfl) (dd at_112) (fun _ _ => ⟨rfl, e58, (by decide : 1 + 0 ≤ _), (by decide : 4 + 0 ≤ _)⟩)
        dsimp only [Pt.U, Pt.locs, Pt.cells, Pt.slots, Q_rm2] at X61 l61 y61 z61 st61 hQ61
        subst l61 y61 z61
        obtain ⟨rfl, N61q, e61⟩ := hQ61
        have N61 := Fr.app N58 N61q
        refine Gz.st st61 ?_
        by_cases hc62 : (f2 b40 (2 : Int32) fr to (r47.toInt8.toInt32)) = (0 : Int32)
        · refine Gz.ifNo 118 X61 hx (dd at_115) ((if0 _ _).trans (teq hc62).2) rfl ?_
          refine Gz.aload 120 X61 hx (dd at_118) rfl rfl rfl ?_
          refine Gz.iconst 121 (3 : Int32) X61 hx (dd at_120) rfl rfl ?_
          refine Gz.iload 123 X61 hx (dd at_121) rfl rfl ?_
          refine Gz.iload 125 X61 hx (dd at_123) rfl rfl ?_
          have hin63 : ¬ ((3 : Int32) < 0 ∨ c53.slots.size ≤ ((3 : Int32)).toNatClampNeg) := inb_of S53 ⟨by decide, by decide⟩
          have hat63 : c53.slots[((3 : Int32)).toNatClampNeg]? = some (.int (r50.toInt8.toInt32)) := Has.at H53 hin63 rfl
          obtain ⟨_, _, ⟨T64, L64, k64, n64⟩, -, X64, ⟨Lc64, hQ64, l64, y64, z64⟩, st64⟩ := Jvm.LawKit.callS X61 hx (y := (⟨"com/example/fold3/fold3/graph/ColonTitlesKeepsPinLaw", "hit", "([BIII)Z"⟩ : MethodName)) hown (mvT hZ (ww hw 9 rfl)) (mvT hZ (ww hw 10 rfl)) (mvT hZ (ww hw 7 rfl)) (mvT hZ (ww hw 11 rfl)) (by decide) (backOf (W := 0) (rm2 l Z av0 hw [] b40 (3 : Int32) fr to c53 (r50.toInt8.toInt32) h52 n0 SZ52 A53 hin63 hat63) hZ (ww hw 11 rfl) (ww hw 7 rfl) (by decide) (by decide)) (g := (mkF m 125 #[.val (.int p0), .val (.int p1), .val (.int p2), .val (.int p3), .val (.int p4), .val (.ref st_DROP), .val (.int fr), .val (.int to), .val (.ref b40), .unset, .unset, .unset] [(.int to), (.int fr), (.int (3 : Int32)), (.ref b40)])) rfl (by rw [hml]; rfl) (argsL := [(.ref b40), (.int (3 : Int32)), (.int fr), (.int to)]) (rest := []) (lenOf pd_1 rfl) rfl (by show 2 * 0 + _ ≤ _; exact Nat.le_of_eq rfl) (dd at_125) (fun _ _ => ⟨rfl, e61, (by decide : 1 + 0 ≤ _), (by decide : 4 + 0 ≤ _)⟩)
          dsimp only [Pt.U, Pt.locs, Pt.cells, Pt.slots, Q_rm2] at X64 l64 y64 z64 st64 hQ64
          subst l64 y64 z64
          obtain ⟨rfl, N64q, e64⟩ := hQ64
          have N64 := Fr.app N61 N64q
          refine Gz.st st64 ?_
          by_cases hc65 : (f2 b40 (3 : Int32) fr to (r50.toInt8.toInt32)) = (0 : Int32)
          · refine Gz.ifYes 135 X64 hx (dd at_128) ((if0 _ _).trans (teq hc65).1) (by decide) (by decide) ?_
            refine Gz.iconst 136 (0 : Int32) X64 hx (dd at_135) rfl rfl ?_
            refine Gz.istore 138 #[.val (.int p0), .val (.int p1), .val (.int p2), .val (.int p3), .val (.int p4), .val (.ref st_DROP), .val (.int fr), .val (.int to), .val (.ref b40), .val (.int (0 : Int32)), .unset, .unset] X64 hx (dd at_136) rfl rfl ?_
            refine Gz.aload 140 X64 hx (dd at_138) rfl rfl rfl ?_
            refine Gz.getS 143 X64 hx hZ hown (dd at_140) (host := "") (Or.inl (ww hw 0 rfl)) Via.refl e64 f52_S_st_KEEP rfl fun T66 X66 e66 => ?_
            refine Gz.acmp 152 false X66 hx (dd at_143) rfl rfl (decide_eq_false fun q => (Ne.symm ne_st_KEEP_st_DROP) (Value.ref.inj q)) (by decide) (by decide) ?_
            refine Gz.iload 154 X66 hx (dd at_152) rfl rfl ?_
            refine Gz.ifNo 157 X66 hx (dd at_154) ((if0 _ _).trans (teq (by decide : (0 : Int32) = (0 : Int32))).2) rfl ?_
            refine Gz.iconst 158 (1 : Int32) X66 hx (dd at_157) rfl rfl ?_
            refine Gz.goto 162 X66 hx (dd at_158) (by decide) (by decide) ?_
            refine Gz.istore 164 #[.val (.int p0), .val (.int p1), .val (.int p2), .val (.int p3), .val (.int p4), .val (.ref st_DROP), .val (.int fr), .val (.int to), .val (.ref b40), .val (.int (0 : Int32)), .val (.int (1 : Int32)), .unset] X66 hx (dd at_162) rfl rfl ?_
            refine Gz.aload 166 X66 hx (dd at_164) rfl rfl rfl ?_
            refine Gz.aload 168 X66 hx (dd at_166) rfl rfl rfl ?_
            refine Gz.iload 170 X66 hx (dd at_168) rfl rfl ?_
            refine Gz.iload 172 X66 hx (dd at_170) rfl rfl ?_
            obtain ⟨cq67, kq67, q67a, q67b, q67c⟩ := isOf hZ e66 f52_E_st_DROP
            obtain ⟨_, _, ⟨T67, L67, k67, n67⟩, -, X67, ⟨Lc67, hQ67, l67, y67, z67⟩, st67⟩ := X66.virtualBack hx (y := (⟨"com/example/fold3/fold3/graph/ColonTitles", "keeps", "([BII)Z"⟩ : MethodName)) (z := (⟨"com/example/fold3/fold3/graph/ColonTitles", "keeps", "([BII)Z"⟩ : MethodName)) hown (mvT hZ (ww hw 12 rfl)) (mvT hZ (ww hw 13 rfl)) (notFace_of_selects (args := #[]) (mvT hZ (ww hw 15 rfl))) (mvT hZ (ww hw 15 rfl)) (mvT hZ (ww hw 14 rfl)) (by decide) (backOf (W := 0) (rm3 l Z av0 hw [] st_DROP b40 fr to k40 (r41.toInt8.toInt32) (r44.toInt8.toInt32) (r47.toInt8.toInt32) (r50.toInt8.toInt32) st_DROP h52 n0 SZ52 V52 f52_S_st_DROP h_fr h_to) hZ (ww hw 16 rfl) (ww hw 1 rfl) (by decide) (by decide)) q67a q67c (g := (mkF m 172 #[.val (.int p0), .val (.int p1), .val (.int p2), .val (.int p3), .val (.int p4), .val (.ref st_DROP), .val (.int fr), .val (.int to), .val (.ref b40), .val (.int (0 : Int32)), .val (.int (1 : Int32)), .unset] [(.int to), (.int fr), (.ref b40), (.ref st_DROP)])) rfl (by rw [hml]; rfl) (Steps.refl _) (argsL := [(.ref b40), (.int fr), (.int to)]) (rest := []) (lenOf pd_2 rfl) rfl (by show 2 * 0 + _ ≤ _; exact Nat.le_of_eq rfl) (dd at_172) (fun _ _ => ⟨rfl, e66, (by decide : 1 + 0 ≤ _), (by decide : 4 + 0 ≤ _)⟩)
            dsimp only [Pt.U, Pt.locs, Pt.cells, Pt.slots, Q_rm3] at X67 l67 y67 z67 st67 hQ67
            subst l67 y67 z67
            obtain ⟨rfl, N67q, e67⟩ := hQ67
            have N67 := Fr.app N64 N67q
            refine Gz.tr st67 ?_
            refine Gz.istore 177 #[.val (.int p0), .val (.int p1), .val (.int p2), .val (.int p3), .val (.int p4), .val (.ref st_DROP), .val (.int fr), .val (.int to), .val (.ref b40), .val (.int (0 : Int32)), .val (.int (1 : Int32)), .val (.int (f3 st_DROP b40 fr to (r41.toInt8.toInt32) (r44.toInt8.toInt32) (r47.toInt8.toInt32) (r50.toInt8.toInt32) st_DROP))] X67 hx (dd at_175) rfl rfl ?_
            refine Gz.iload 179 X67 hx (dd at_177) rfl rfl ?_
            refine Gz.iload 181 X67 hx (dd at_179) rfl rfl ?_
            refine Gz.icmpNo 184 X67 hx (dd at_181) (teq ((by rw [own_drop _ _ _ _ _ _ _ _ h_fr h_to]; rw [if_pos hc56, if_pos hc59, if_pos hc62, if_pos hc65]) : (f3 st_DROP b40 fr to (r41.toInt8.toInt32) (r44.toInt8.toInt32) (r47.toInt8.toInt32) (r50.toInt8.toInt32) st_DROP) = (1 : Int32))).2 rfl ?_
            refine Gz.iconst 185 (1 : Int32) X67 hx (dd at_184) rfl rfl ?_
            refine Gz.goto 189 X67 hx (dd at_185) (by decide) (by decide) ?_
            refine Gz.fin X67 (v := some (.int (1 : Int32))) (fun h => by rw [hret] at h; cases h) hlk (by decide) (by decide) (fun fs hr => retN X67 hx (t := .boolean) hret (by simp) (dd at_189) hr) ?_
            exact ⟨rfl, N67⟩
          · refine Gz.ifNo 131 X64 hx (dd at_128) ((if0 _ _).trans (feq hc65).1) rfl ?_
            refine Gz.iconst 132 (1 : Int32) X64 hx (dd at_131) rfl rfl ?_
            refine Gz.goto 136 X64 hx (dd at_132) (by decide) (by decide) ?_
            refine Gz.istore 138 #[.val (.int p0), .val (.int p1), .val (.int p2), .val (.int p3), .val (.int p4), .val (.ref st_DROP), .val (.int fr), .val (.int to), .val (.ref b40), .val (.int (1 : Int32)), .unset, .unset] X64 hx (dd at_136) rfl rfl ?_
            refine Gz.aload 140 X64 hx (dd at_138) rfl rfl rfl ?_
            refine Gz.getS 143 X64 hx hZ hown (dd at_140) (host := "") (Or.inl (ww hw 0 rfl)) Via.refl e64 f52_S_st_KEEP rfl fun T68 X68 e68 => ?_
            refine Gz.acmp 152 false X68 hx (dd at_143) rfl rfl (decide_eq_false fun q => (Ne.symm ne_st_KEEP_st_DROP) (Value.ref.inj q)) (by decide) (by decide) ?_
            refine Gz.iload 154 X68 hx (dd at_152) rfl rfl ?_
            refine Gz.ifYes 161 X68 hx (dd at_154) ((if0 _ _).trans (feq (by decide : ¬ ((1 : Int32) = (0 : Int32)))).2) (by decide) (by decide) ?_
            refine Gz.iconst 162 (0 : Int32) X68 hx (dd at_161) rfl rfl ?_
            refine Gz.istore 164 #[.val (.int p0), .val (.int p1), .val (.int p2), .val (.int p3), .val (.int p4), .val (.ref st_DROP), .val (.int fr), .val (.int to), .val (.ref b40), .val (.int (1 : Int32)), .val (.int (0 : Int32)), .unset] X68 hx (dd at_162) rfl rfl ?_
            refine Gz.aload 166 X68 hx (dd at_164) rfl rfl rfl ?_
            refine Gz.aload 168 X68 hx (dd at_166) rfl rfl rfl ?_
            refine Gz.iload 170 X68 hx (dd at_168) rfl rfl ?_
            refine Gz.iload 172 X68 hx (dd at_170) rfl rfl ?_
            obtain ⟨cq69, kq69, q69a, q69b, q69c⟩ := isOf hZ e68 f52_E_st_DROP
            obtain ⟨_, _, ⟨T69, L69, k69, n69⟩, -, X69, ⟨Lc69, hQ69, l69, y69, z69⟩, st69⟩ := X68.virtualBack hx (y := (⟨"com/example/fold3/fold3/graph/ColonTitles", "keeps", "([BII)Z"⟩ : MethodName)) (z := (⟨"com/example/fold3/fold3/graph/ColonTitles", "keeps", "([BII)Z"⟩ : MethodName)) hown (mvT hZ (ww hw 12 rfl)) (mvT hZ (ww hw 13 rfl)) (notFace_of_selects (args := #[]) (mvT hZ (ww hw 15 rfl))) (mvT hZ (ww hw 15 rfl)) (mvT hZ (ww hw 14 rfl)) (by decide) (backOf (W := 0) (rm3 l Z av0 hw [] st_DROP b40 fr to k40 (r41.toInt8.toInt32) (r44.toInt8.toInt32) (r47.toInt8.toInt32) (r50.toInt8.toInt32) st_DROP h52 n0 SZ52 V52 f52_S_st_DROP h_fr h_to) hZ (ww hw 16 rfl) (ww hw 1 rfl) (by decide) (by decide)) q69a q69c (g := (mkF m 172 #[.val (.int p0), .val (.int p1), .val (.int p2), .val (.int p3), .val (.int p4), .val (.ref st_DROP), .val (.int fr), .val (.int to), .val (.ref b40), .val (.int (1 : Int32)), .val (.int (0 : Int32)), .unset] [(.int to), (.int fr), (.ref b40), (.ref st_DROP)])) rfl (by rw [hml]; rfl) (Steps.refl _) (argsL := [(.ref b40), (.int fr), (.int to)]) (rest := []) (lenOf pd_2 rfl) rfl (by show 2 * 0 + _ ≤ _; exact Nat.le_of_eq rfl) (dd at_172) (fun _ _ => ⟨rfl, e68, (by decide : 1 + 0 ≤ _), (by decide : 4 + 0 ≤ _)⟩)
            dsimp only [Pt.U, Pt.locs, Pt.cells, Pt.slots, Q_rm3] at X69 l69 y69 z69 st69 hQ69
            subst l69 y69 z69
            obtain ⟨rfl, N69q, e69⟩ := hQ69
            have N69 := Fr.app N64 N69q
            refine Gz.tr st69 ?_
            refine Gz.istore 177 #[.val (.int p0), .val (.int p1), .val (.int p2), .val (.int p3), .val (.int p4), .val (.ref st_DROP), .val (.int fr), .val (.int to), .val (.ref b40), .val (.int (1 : Int32)), .val (.int (0 : Int32)), .val (.int (f3 st_DROP b40 fr to (r41.toInt8.toInt32) (r44.toInt8.toInt32) (r47.toInt8.toInt32) (r50.toInt8.toInt32) st_DROP))] X69 hx (dd at_175) rfl rfl ?_
            refine Gz.iload 179 X69 hx (dd at_177) rfl rfl ?_
            refine Gz.iload 181 X69 hx (dd at_179) rfl rfl ?_
            refine Gz.icmpNo 184 X69 hx (dd at_181) (teq ((by rw [own_drop _ _ _ _ _ _ _ _ h_fr h_to]; rw [if_pos hc56, if_pos hc59, if_pos hc62, if_neg hc65]) : (f3 st_DROP b40 fr to (r41.toInt8.toInt32) (r44.toInt8.toInt32) (r47.toInt8.toInt32) (r50.toInt8.toInt32) st_DROP) = (0 : Int32))).2 rfl ?_
            refine Gz.iconst 185 (1 : Int32) X69 hx (dd at_184) rfl rfl ?_
            refine Gz.goto 189 X69 hx (dd at_185) (by decide) (by decide) ?_
            refine Gz.fin X69 (v := some (.int (1 : Int32))) (fun h => by rw [hret] at h; cases h) hlk (by decide) (by decide) (fun fs hr => retN X69 hx (t := .boolean) hret (by simp) (dd at_189) hr) ?_
            exact ⟨rfl, N69⟩
        · refine Gz.ifYes 131 X61 hx (dd at_115) ((if0 _ _).trans (feq hc62).2) (by decide) (by decide) ?_
          refine Gz.iconst 132 (1 : Int32) X61 hx (dd at_131) rfl rfl ?_
          refine Gz.goto 136 X61 hx (dd at_132) (by decide) (by decide) ?_
          refine Gz.istore 138 #[.val (.int p0), .val (.int p1), .val (.int p2), .val (.int p3), .val (.int p4), .val (.ref st_DROP), .val (.int fr), .val (.int to), .val (.ref b40), .val (.int (1 : Int32)), .unset, .unset] X61 hx (dd at_136) rfl rfl ?_
          refine Gz.aload 140 X61 hx (dd at_138) rfl rfl rfl ?_
          refine Gz.getS 143 X61 hx hZ hown (dd at_140) (host := "") (Or.inl (ww hw 0 rfl)) Via.refl e61 f52_S_st_KEEP rfl fun T70 X70 e70 => ?_
          refine Gz.acmp 152 false X70 hx (dd at_143) rfl rfl (decide_eq_false fun q => (Ne.symm ne_st_KEEP_st_DROP) (Value.ref.inj q)) (by decide) (by decide) ?_
          refine Gz.iload 154 X70 hx (dd at_152) rfl rfl ?_
          refine Gz.ifYes 161 X70 hx (dd at_154) ((if0 _ _).trans (feq (by decide : ¬ ((1 : Int32) = (0 : Int32)))).2) (by decide) (by decide) ?_
          refine Gz.iconst 162 (0 : Int32) X70 hx (dd at_161) rfl rfl ?_
          refine Gz.istore 164 #[.val (.int p0), .val (.int p1), .val (.int p2), .val (.int p3), .val (.int p4), .val (.ref st_DROP), .val (.int fr), .val (.int to), .val (.ref b40), .val (.int (1 : Int32)), .val (.int (0 : Int32)), .unset] X70 hx (dd at_162) rfl rfl ?_
          refine Gz.aload 166 X70 hx (dd at_164) rfl rfl rfl ?_
          refine Gz.aload 168 X70 hx (dd at_166) rfl rfl rfl ?_
          refine Gz.iload 170 X70 hx (dd at_168) rfl rfl ?_
          refine Gz.iload 172 X70 hx (dd at_170) rfl rfl ?_
          obtain ⟨cq71, kq71, q71a, q71b, q71c⟩ := isOf hZ e70 f52_E_st_DROP
          obtain ⟨_, _, ⟨T71, L71, k71, n71⟩, -, X71, ⟨Lc71, hQ71, l71, y71, z71⟩, st71⟩ := X70.virtualBack hx (y := (⟨"com/example/fold3/fold3/graph/ColonTitles", "keeps", "([BII)Z"⟩ : MethodName)) (z := (⟨"com/example/fold3/fold3/graph/ColonTitles", "keeps", "([BII)Z"⟩ : MethodName)) hown (mvT hZ (ww hw 12 rfl)) (mvT hZ (ww hw 13 rfl)) (notFace_of_selects (args := #[]) (mvT hZ (ww hw 15 rfl))) (mvT hZ (ww hw 15 rfl)) (mvT hZ (ww hw 14 rfl)) (by decide) (backOf (W := 0) (rm3 l Z av0 hw [] st_DROP b40 fr to k40 (r41.toInt8.toInt32) (r44.toInt8.toInt32) (r47.toInt8.toInt32) (r50.toInt8.toInt32) st_DROP h52 n0 SZ52 V52 f52_S_st_DROP h_fr h_to) hZ (ww hw 16 rfl) (ww hw 1 rfl) (by decide) (by decide)) q71a q71c (g := (mkF m 172 #[.val (.int p0), .val (.int p1), .val (.int p2), .val (.int p3), .val (.int p4), .val (.ref st_DROP), .val (.int fr), .val (.int to), .val (.ref b40), .val (.int (1 : Int32)), .val (.int (0 : Int32)), .unset] [(.int to), (.int fr), (.ref b40), (.ref st_DROP)])) rfl (by rw [hml]; rfl) (Steps.refl _) (argsL := [(.ref b40), (.int fr), (.int to)]) (rest := []) (lenOf pd_2 rfl) rfl (by show 2 * 0 + _ ≤ _; exact Nat.le_of_eq rfl) (dd at_172) (fun _ _ => ⟨rfl, e70, (by decide : 1 + 0 ≤ _), (by decide : 4 + 0 ≤ _)⟩)
          dsimp only [Pt.U, Pt.locs, Pt.cells, Pt.slots, Q_rm3] at X71 l71 y71 z71 st71 hQ71
          subst l71 y71 z71
          obtain ⟨rfl, N71q, e71⟩ := hQ71
          have N71 := Fr.app N61 N71q
          refine Gz.tr st71 ?_
          refine Gz.istore 177 #[.val (.int p0), .val (.int p1), .val (.int p2), .val (.int p3), .val (.int p4), .val (.ref st_DROP), .val (.int fr), .val (.int to), .val (.ref b40), .val (.int (1 : Int32)), .val (.int (0 : Int32)), .val (.int (f3 st_DROP b40 fr to (r41.toInt8.toInt32) (r44.toInt8.toInt32) (r47.toInt8.toInt32) (r50.toInt8.toInt32) st_DROP))] X71 hx (dd at_175) rfl rfl ?_
          refine Gz.iload 179 X71 hx (dd at_177) rfl rfl ?_
          refine Gz.iload 181 X71 hx (dd at_179) rfl rfl ?_
          refine Gz.icmpNo 184 X71 hx (dd at_181) (teq ((by rw [own_drop _ _ _ _ _ _ _ _ h_fr h_to]; rw [if_pos hc56, if_pos hc59, if_neg hc62]) : (f3 st_DROP b40 fr to (r41.toInt8.toInt32) (r44.toInt8.toInt32) (r47.toInt8.toInt32) (r50.toInt8.toInt32) st_DROP) = (0 : Int32))).2 rfl ?_
          refine Gz.iconst 185 (1 : Int32) X71 hx (dd at_184) rfl rfl ?_
          refine Gz.goto 189 X71 hx (dd at_185) (by decide) (by decide) ?_
          refine Gz.fin X71 (v := some (.int (1 : Int32))) (fun h => by rw [hret] at h; cases h) hlk (by decide) (by decide) (fun fs hr => retN X71 hx (t := .boolean) hret (by simp) (dd at_189) hr) ?_
          exact ⟨rfl, N71⟩
      · refine Gz.ifYes 131 X58 hx (dd at_102) ((if0 _ _).trans (feq hc59).2) (by decide) (by decide) ?_
        refine Gz.iconst 132 (1 : Int32) X58 hx (dd at_131) rfl rfl ?_
        refine Gz.goto 136 X58 hx (dd at_132) (by decide) (by decide) ?_
        refine Gz.istore 138 #[.val (.int p0), .val (.int p1), .val (.int p2), .val (.int p3), .val (.int p4), .val (.ref st_DROP), .val (.int fr), .val (.int to), .val (.ref b40), .val (.int (1 : Int32)), .unset, .unset] X58 hx (dd at_136) rfl rfl ?_
        refine Gz.aload 140 X58 hx (dd at_138) rfl rfl rfl ?_
        refine Gz.getS 143 X58 hx hZ hown (dd at_140) (host := "") (Or.inl (ww hw 0 rfl)) Via.refl e58 f52_S_st_KEEP rfl fun T72 X72 e72 => ?_
        refine Gz.acmp 152 false X72 hx (dd at_143) rfl rfl (decide_eq_false fun q => (Ne.symm ne_st_KEEP_st_DROP) (Value.ref.inj q)) (by decide) (by decide) ?_
        refine Gz.iload 154 X72 hx (dd at_152) rfl rfl ?_
        refine Gz.ifYes 161 X72 hx (dd at_154) ((if0 _ _).trans (feq (by decide : ¬ ((1 : Int32) = (0 : Int32)))).2) (by decide) (by decide) ?_
        refine Gz.iconst 162 (0 : Int32) X72 hx (dd at_161) rfl rfl ?_
        refine Gz.istore 164 #[.val (.int p0), .val (.int p1), .val (.int p2), .val (.int p3), .val (.int p4), .val (.ref st_DROP), .val (.int fr), .val (.int to), .val (.ref b40), .val (.int (1 : Int32)), .val (.int (0 : Int32)), .unset] X72 hx (dd at_162) rfl rfl ?_
        refine Gz.aload 166 X72 hx (dd at_164) rfl rfl rfl ?_
        refine Gz.aload 168 X72 hx (dd at_166) rfl rfl rfl ?_
        refine Gz.iload 170 X72 hx (dd at_168) rfl rfl ?_
        refine Gz.iload 172 X72 hx (dd at_170) rfl rfl ?_
        obtain ⟨cq73, kq73, q73a, q73b, q73c⟩ := isOf hZ e72 f52_E_st_DROP
        obtain ⟨_, _, ⟨T73, L73, k73, n73⟩, -, X73, ⟨Lc73, hQ73, l73, y73, z73⟩, st73⟩ := X72.virtualBack hx (y := (⟨"com/example/fold3/fold3/graph/ColonTitles", "keeps", "([BII)Z"⟩ : MethodName)) (z := (⟨"com/example/fold3/fold3/graph/ColonTitles", "keeps", "([BII)Z"⟩ : MethodName)) hown (mvT hZ (ww hw 12 rfl)) (mvT hZ (ww hw 13 rfl)) (notFace_of_selects (args := #[]) (mvT hZ (ww hw 15 rfl))) (mvT hZ (ww hw 15 rfl)) (mvT hZ (ww hw 14 rfl)) (by decide) (backOf (W := 0) (rm3 l Z av0 hw [] st_DROP b40 fr to k40 (r41.toInt8.toInt32) (r44.toInt8.toInt32) (r47.toInt8.toInt32) (r50.toInt8.toInt32) st_DROP h52 n0 SZ52 V52 f52_S_st_DROP h_fr h_to) hZ (ww hw 16 rfl) (ww hw 1 rfl) (by decide) (by decide)) q73a q73c (g := (mkF m 172 #[.val (.int p0), .val (.int p1), .val (.int p2), .val (.int p3), .val (.int p4), .val (.ref st_DROP), .val (.int fr), .val (.int to), .val (.ref b40), .val (.int (1 : Int32)), .val (.int (0 : Int32)), .unset] [(.int to), (.int fr), (.ref b40), (.ref st_DROP)])) rfl (by rw [hml]; rfl) (Steps.refl _) (argsL := [(.ref b40), (.int fr), (.int to)]) (rest := []) (lenOf pd_2 rfl) rfl (by show 2 * 0 + _ ≤ _; exact Nat.le_of_eq rfl) (dd at_172) (fun _ _ => ⟨rfl, e72, (by decide : 1 + 0 ≤ _), (by decide : 4 + 0 ≤ _)⟩)
        dsimp only [Pt.U, Pt.locs, Pt.cells, Pt.slots, Q_rm3] at X73 l73 y73 z73 st73 hQ73
        subst l73 y73 z73
        obtain ⟨rfl, N73q, e73⟩ := hQ73
        have N73 := Fr.app N58 N73q
        refine Gz.tr st73 ?_
        refine Gz.istore 177 #[.val (.int p0), .val (.int p1), .val (.int p2), .val (.int p3), .val (.int p4), .val (.ref st_DROP), .val (.int fr), .val (.int to), .val (.ref b40), .val (.int (1 : Int32)), .val (.int (0 : Int32)), .val (.int (f3 st_DROP b40 fr to (r41.toInt8.toInt32) (r44.toInt8.toInt32) (r47.toInt8.toInt32) (r50.toInt8.toInt32) st_DROP))] X73 hx (dd at_175) rfl rfl ?_
        refine Gz.iload 179 X73 hx (dd at_177) rfl rfl ?_
        refine Gz.iload 181 X73 hx (dd at_179) rfl rfl ?_
        refine Gz.icmpNo 184 X73 hx (dd at_181) (teq ((by rw [own_drop _ _ _ _ _ _ _ _ h_fr h_to]; rw [if_pos hc56, if_neg hc59]) : (f3 st_DROP b40 fr to (r41.toInt8.toInt32) (r44.toInt8.toInt32) (r47.toInt8.toInt32) (r50.toInt8.toInt32) st_DROP) = (0 : Int32))).2 rfl ?_
        refine Gz.iconst 185 (1 : Int32) X73 hx (dd at_184) rfl rfl ?_
        refine Gz.goto 189 X73 hx (dd at_185) (by decide) (by decide) ?_
        refine Gz.fin X73 (v := some (.int (1 : Int32))) (fun h => by rw [hret] at h; cases h) hlk (by decide) (by decide) (fun fs hr => retN X73 hx (t := .boolean) hret (by simp) (dd at_189) hr) ?_
        exact ⟨rfl, N73⟩
    · refine Gz.ifYes 131 X55 hx (dd at_89) ((if0 _ _).trans (feq hc56).2) (by decide) (by decide) ?_
      refine Gz.iconst 132 (1 : Int32) X55 hx (dd at_131) rfl rfl ?_
      refine Gz.goto 136 X55 hx (dd at_132) (by decide) (by decide) ?_
      refine Gz.istore 138 #[.val (.int p0), .val (.int p1), .val (.int p2), .val (.int p3), .val (.int p4), .val (.ref st_DROP), .val (.int fr), .val (.int to), .val (.ref b40), .val (.int (1 : Int32)), .unset, .unset] X55 hx (dd at_136) rfl rfl ?_
      refine Gz.aload 140 X55 hx (dd at_138) rfl rfl rfl ?_
      refine Gz.getS 143 X55 hx hZ hown (dd at_140) (host := "") (Or.inl (ww hw 0 rfl)) Via.refl e55 f52_S_st_KEEP rfl fun T74 X74 e74 => ?_
      refine Gz.acmp 152 false X74 hx (dd at_143) rfl rfl (decide_eq_false fun q => (Ne.symm ne_st_KEEP_st_DROP) (Value.ref.inj q)) (by decide) (by decide) ?_
      refine Gz.iload 154 X74 hx (dd at_152) rfl rfl ?_
      refine Gz.ifYes 161 X74 hx (dd at_154) ((if0 _ _).trans (feq (by decide : ¬ ((1 : Int32) = (0 : Int32)))).2) (by decide) (by decide) ?_
      refine Gz.iconst 162 (0 : Int32) X74 hx (dd at_161) rfl rfl ?_
      refine Gz.istore 164 #[.val (.int p0), .val (.int p1), .val (.int p2), .val (.int p3), .val (.int p4), .val (.ref st_DROP), .val (.int fr), .val (.int to), .val (.ref b40), .val (.int (1 : Int32)), .val (.int (0 : Int32)), .unset] X74 hx (dd at_162) rfl rfl ?_
      refine Gz.aload 166 X74 hx (dd at_164) rfl rfl rfl ?_
      refine Gz.aload 168 X74 hx (dd at_166) rfl rfl rfl ?_
      refine Gz.iload 170 X74 hx (dd at_168) rfl rfl ?_
      refine Gz.iload 172 X74 hx (dd at_170) rfl rfl ?_
      obtain ⟨cq75, kq75, q75a, q75b, q75c⟩ := isOf hZ e74 f52_E_st_DROP
      obtain ⟨_, _, ⟨T75, L75, k75, n75⟩, -, X75, ⟨Lc75, hQ75, l75, y75, z75⟩, st75⟩ := X74.virtualBack hx (y := (⟨"com/example/fold3/fold3/graph/ColonTitles", "keeps", "([BII)Z"⟩ : MethodName)) (z := (⟨"com/example/fold3/fold3/graph/ColonTitles", "keeps", "([BII)Z"⟩ : MethodName)) hown (mvT hZ (ww hw 12 rfl)) (mvT hZ (ww hw 13 rfl)) (notFace_of_selects (args := #[]) (mvT hZ (ww hw 15 rfl))) (mvT hZ (ww hw 15 rfl)) (mvT hZ (ww hw 14 rfl)) (by decide) (backOf (W := 0) (rm3 l Z av0 hw [] st_DROP b40 fr to k40 (r41.toInt8.toInt32) (r44.toInt8.toInt32) (r47.toInt8.toInt32) (r50.toInt8.toInt32) st_DROP h52 n0 SZ52 V52 f52_S_st_DROP h_fr h_to) hZ (ww hw 16 rfl) (ww hw 1 rfl) (by decide) (by decide)) q75a q75c (g := (mkF m 172 #[.val (.int p0), .val (.int p1), .val (.int p2), .val (.int p3), .val (.int p4), .val (.ref st_DROP), .val (.int fr), .val (.int to), .val (.ref b40), .val (.int (1 : Int32)), .val (.int (0 : Int32)), .unset] [(.int to), (.int fr), (.ref b40), (.ref st_DROP)])) rfl (by rw [hml]; rfl) (Steps.refl _) (argsL := [(.ref b40), (.int fr), (.int to)]) (rest := []) (lenOf pd_2 rfl) rfl (by show 2 * 0 + _ ≤ _; exact Nat.le_of_eq rfl) (dd at_172) (fun _ _ => ⟨rfl, e74, (by decide : 1 + 0 ≤ _), (by decide : 4 + 0 ≤ _)⟩)
      dsimp only [Pt.U, Pt.locs, Pt.cells, Pt.slots, Q_rm3] at X75 l75 y75 z75 st75 hQ75
      subst l75 y75 z75
      obtain ⟨rfl, N75q, e75⟩ := hQ75
      have N75 := Fr.app N55 N75q
      refine Gz.tr st75 ?_
      refine Gz.istore 177 #[.val (.int p0), .val (.int p1), .val (.int p2), .val (.int p3), .val (.int p4), .val (.ref st_DROP), .val (.int fr), .val (.int to), .val (.ref b40), .val (.int (1 : Int32)), .val (.int (0 : Int32)), .val (.int (f3 st_DROP b40 fr to (r41.toInt8.toInt32) (r44.toInt8.toInt32) (r47.toInt8.toInt32) (r50.toInt8.toInt32) st_DROP))] X75 hx (dd at_175) rfl rfl ?_
      refine Gz.iload 179 X75 hx (dd at_177) rfl rfl ?_
      refine Gz.iload 181 X75 hx (dd at_179) rfl rfl ?_
      refine Gz.icmpNo 184 X75 hx (dd at_181) (teq ((by rw [own_drop _ _ _ _ _ _ _ _ h_fr h_to]; rw [if_neg hc56]) : (f3 st_DROP b40 fr to (r41.toInt8.toInt32) (r44.toInt8.toInt32) (r47.toInt8.toInt32) (r50.toInt8.toInt32) st_DROP) = (0 : Int32))).2 rfl ?_
      refine Gz.iconst 185 (1 : Int32) X75 hx (dd at_184) rfl rfl ?_
      refine Gz.goto 189 X75 hx (dd at_185) (by decide) (by decide) ?_
      refine Gz.fin X75 (v := some (.int (1 : Int32))) (fun h => by rw [hret] at h; cases h) hlk (by decide) (by decide) (fun fs hr => retN X75 hx (t := .boolean) hret (by simp) (dd at_189) hr) ?_
      exact ⟨rfl, N75⟩
set_option maxRecDepth 65536 in
set_option maxHeartbeats 40000000 in
theorem comes_1 {Post : Tables → Env → Array Value → State → Outcome → State → Prop} (hpost : ∀ tb e args s v u, (limb_1_1.after args s (.returned v) u = true ∧ limb_1_2.after args s (.returned v) u = true ∧ True) → FrameEnd s (.returned v) u (Jvm.fieldLocs frame_1_writes args s ++ Jvm.arrayLocs frame_1_arrays args s ++ Jvm.staticLocs frame_1_statics s) 16 128 → Post tb e args s (.returned v) u) :
    ArmFor flags0 classFile x code maxLocals ret World_1 tables_1 room_1 Calls_1 rest_1 Pre_1 Post := by
  intro l hfl _ _ p e ha hc hk s m args below hf hA hF happ hP
  obtain ⟨hcalls, hrest, hpre⟩ := hP
  obtain ⟨-, -, -, hnamed, -, -, -, hat⟩ := (Spec.applies_iff hf).mp happ
  obtain ⟨hg, hn⟩ := and_e (Cond.before_iff.mp (show (Jvm.Cond.and given_1 narrow_1).before args s = true from hpre))
  obtain ⟨hcnt, hg0⟩ := and_e hg
  obtain ⟨ha0, hg1⟩ := and_e hg0
  obtain ⟨ha1, hg2⟩ := and_e hg1
  obtain ⟨ha2, hg3⟩ := and_e hg2
  obtain ⟨ha3, hg4⟩ := and_e hg3
  have ha4 := hg4
  obtain ⟨w0, w1, w2, w3, w4, rfl⟩ : ∃ w0 w1 w2 w3 w4 : Value, args = #[w0, w1, w2, w3, w4] := by
    have hs : args.size = 5 := by simpa [Cond.value, given_1] using hcnt
    obtain ⟨L⟩ := args
    match L, hs with
    | [w0, w1, w2, w3, w4], _ => exact ⟨w0, w1, w2, w3, w4, rfl⟩
  have hw := fun d (hd : d ∈ tables_1) => atoms_spec (ws := Jvm.Cond.code x code maxLocals ret :: tables_1) hat d (List.mem_cons_of_mem _ hd)
  have hfit : Fit s := fun {y c} hc i hi => by
    obtain ⟨ha, rfl⟩ := Array.getElem?_eq_some_iff.mp hc
    have q := List.all_eq_true.mp ((Array.all_eq_true_iff_forall_mem.mp hF) _ (Array.getElem_mem ha)) i (List.mem_range.mpr hi)
    simpa [Array.getElem?_eq_getElem hi] using q
  obtain ⟨i0, ei0⟩ := is_v ha0
  obtain rfl : w0 = (.int i0) := Option.some.inj ei0
  obtain ⟨i1, ei1⟩ := is_v ha1
  obtain rfl : w1 = (.int i1) := Option.some.inj ei1
  obtain ⟨i2, ei2⟩ := is_v ha2
  obtain rfl : w2 = (.int i2) := Option.some.inj ei2
  obtain ⟨i3, ei3⟩ := is_v ha3
  obtain rfl : w3 = (.int i3) := Option.some.inj ei3
  obtain ⟨i4, ei4⟩ := is_v ha4
  obtain rfl : w4 = (.int i4) := Option.some.inj ei4
  obtain ⟨nn0, nr0⟩ := and_e hn
  obtain ⟨nn1, nr1⟩ := and_e nr0
  obtain ⟨nn2, nr2⟩ := and_e nr1
  have nn3 := nr2
  obtain ⟨st_KEEP, ev_KEEP⟩ := exa_v nn0
  have S_KEEP : Sta s s.heap "com/example/fold3/fold3/graph/ColonTitles" "KEEP" "Lcom/example/fold3/fold3/graph/ColonTitles;" (.ref st_KEEP) := Sta.start ev_KEEP (Or.inr ⟨(ww hw 1 rfl), (ww hw 2 rfl)⟩)
  have E_KEEP : Exa s s.heap st_KEEP "com/example/fold3/fold3/graph/ColonTitles" := Exa.start ev_KEEP nn0
  obtain ⟨st_DROP, ev_DROP⟩ := exa_v nn1
  have S_DROP : Sta s s.heap "com/example/fold3/fold3/graph/ColonTitles" "DROP" "Lcom/example/fold3/fold3/graph/ColonTitles;" (.ref st_DROP) := Sta.start ev_DROP (Or.inr ⟨(ww hw 1 rfl), (ww hw 18 rfl)⟩)
  have E_DROP : Exa s s.heap st_DROP "com/example/fold3/fold3/graph/ColonTitles" := Exa.start ev_DROP nn1
  have F_ordinal_KEEP := own_fldI ev_KEEP nn2
  have F_ordinal_DROP := own_fldI ev_DROP nn3
  have ne_KEEP_DROP : st_KEEP ≠ st_DROP := Fld.ne F_ordinal_KEEP F_ordinal_DROP (by decide)
  obtain ⟨n, o, h1, h2, h3, _, L, rfl, ⟨rfl, N⟩, hq⟩ := rm0 l s _ hw tables_1 i0 i1 i2 i3 i4 st_KEEP st_DROP s.heap s.heap.size (Nat.le_refl _) S_KEEP S_DROP E_KEEP E_DROP ne_KEEP_DROP p e ha hc hk s m _ below hf ((Spec.applies_iff_loose hf).mp happ).1 ⟨rfl, State.Warmed39.refl s, rfl⟩ trivial
  refine ⟨n, _, h1, h2, h3, hpost _ _ _ _ _ _ ⟨Cond.after_iff.mpr rfl, Cond.after_iff.mpr (eq_i res_at (Term.int_eval (1)) rfl), trivial⟩ ⟨hq.1, hq.2.1, (hq.2.2.sift fun y hy => Or.inr (N y hy)).mono (by decide) (by decide)⟩⟩
theorem main_1_1 : Claimed_1_1 := comes_1 fun _ _ _ _ _ _ h hF => ⟨h.1, hF⟩
theorem main_1_2 : Claimed_1_2 := comes_1 fun _ _ _ _ _ _ h hF => ⟨h.2.1, hF⟩
end Jvm.Pilot.@@N@@
namespace Jvm.Pilot.@@N@@
open Jvm Jvm.ClassFile Sem Op Lib Jvm.Free Jvm.Stand Jvm.Pilot.@@N@@.Jvm.D
/-! MADE BY PROGRAM (witnessworld.py) out of the Statement's table words and the real class files: 12 classes; the members and pool entries that the words name. The judged class is class 1, her method 3. -/
namespace start1
open Jvm.ClassFile
def u (s : String) : CpInfo := .utf8 (stringToUtf16 s)
/-- a pool by its gaps: so many unusable entries, then the entry; so many at the end -/
def gap : Nat → List CpInfo → List CpInfo
  | 0, r => r
  | n + 1, r => .unusable :: gap n r
def poolList (es : List (Nat × CpInfo)) (last : Nat) : List CpInfo := es.foldr (fun e r => gap e.1 (e.2 :: r)) (gap last [])
def pool (es : List (Nat × CpInfo)) (last : Nat) : Array CpInfo := ⟨poolList es last⟩
def fileOf (pool : Array CpInfo) (this : Nat) (attrs : Array Attribute := #[]) (ms : Array MethodInfo := #[]) (fl : Nat := 33) (sup : Nat := 0) (ifs : Array Nat := #[]) (fds : Array FieldInfo := #[]) : ClassFile where
  minorVersion := 0
  majorVersion := 65
  constantPool := pool
  accessFlags := fl
  thisClass := this
  superClass := sup
  interfaces := ifs
  fields := fds
  methods := ms
  attributes := attrs
def plain (name : String) (sup : Option ClassId) : Class where
  name := name
  kind := .ordinary
  loader := none
  accessFlags := 33
  super := sup
  interfaces := #[]
  cf := none
  fields := #[]
  methods := #[]
  instanceTypes := #[]
  staticTypes := #[]
  resolved := #[]
  callSites := []
  init := .initialized
  statics := none
  mirror := none

def pool0 : Array CpInfo := pool [(5, u "<init>"), (0, u "()V"), (1, .class_ 10), (1, u "java/lang/Object")] 113

def k0m0 : Method := { name := "<init>", desc := "()V", sig := { parameters := [], returnType := none }, accessFlags := 1, code := none }
/-- java/lang/Object -/
def k0 : Class := { plain "java/lang/Object" none with
  accessFlags := 33
  interfaces := #[]
  cf := some (fileOf pool0 8 #[] #[{ accessFlags := 1, nameIndex := 5, descriptorIndex := 6, attributes := #[] }] 33 0 #[] #[])
  fields := #[]
  methods := #[k0m0]
  instanceTypes := #[]
  staticTypes := #[]
  resolved := Array.replicate 124 none
  statics := none }

def pool1 : Array CpInfo := pool [(2, .class_ 4), (1, u "java/lang/Object"), (0, u "<init>"), (0, u "()V"), (0, .fieldref 8 9), (0, .class_ 10), (0, .nameAndType 11 12), (0, u "com/example/fold3/fold3/graph/ColonTitles"), (0, u "DROP"), (0, u "Lcom/example/fold3/fold3/graph/ColonTitles;"), (0, .fieldref 8 14), (0, .nameAndType 15 12), (0, u "KEEP"), (0, .integer 2147483647), (0, .methodref 18 19), (0, .class_ 20), (0, .nameAndType 21 22), (0, u "com/example/fold3/fold3/graph/ColonTitlesKeepsPinLaw"), (0, u "pick"), (0, u "(III)B"), (0, .methodref 18 24), (0, .nameAndType 25 26), (0, u "hit"), (0, u "([BIII)Z"), (0, .methodref 8 28), (0, .nameAndType 29 30), (0, u "keeps"), (0, u "([BII)Z"), (3, u "law"), (0, u "(IIIII)Z")] 4

def k1m0 : Method := { name := "<init>", desc := "()V", sig := { parameters := [], returnType := none }, accessFlags := 2, code := none }
def k1c1 : Code := { maxStack := 3, maxLocals := 3, code := method_2_code, exceptionTable := #[], attributes := #[] }
def k1m1 : Method := { name := "pick", desc := "(III)B", sig := { parameters := [.int, .int, .int], returnType := some .byte }, accessFlags := 10, code := some k1c1 }
def k1c2 : Code := { maxStack := 2, maxLocals := 4, code := method_3_code, exceptionTable := #[], attributes := #[] }
def k1m2 : Method := { name := "hit", desc := "([BIII)Z", sig := { parameters := [(.array .byte), .int, .int, .int], returnType := some .boolean }, accessFlags := 10, code := some k1c2 }
def k1c3 : Code := { maxStack := 5, maxLocals := 12, code := code, exceptionTable := #[], attributes := #[] }
def k1m3 : Method := { name := "law", desc := "(IIIII)Z", sig := { parameters := [.int, .int, .int, .int, .int], returnType := some .boolean }, accessFlags := 9, code := some k1c3 }
/-- com/example/fold3/fold3/graph/ColonTitlesKeepsPinLaw -/
def k1 : Class := { plain "com/example/fold3/fold3/graph/ColonTitlesKeepsPinLaw" (some 0) with
  accessFlags := 49
  interfaces := #[]
  cf := some (fileOf pool1 18 #[] #[{ accessFlags := 2, nameIndex := 5, descriptorIndex := 6, attributes := #[] }, { accessFlags := 10, nameIndex := 21, descriptorIndex := 22, attributes := #[] }, { accessFlags := 10, nameIndex := 25, descriptorIndex := 26, attributes := #[] }, { accessFlags := 9, nameIndex := 34, descriptorIndex := 35, attributes := #[] }] 49 2 #[] #[])
  fields := #[]
  methods := #[k1m0, k1m1, k1m2, k1m3]
  instanceTypes := #[]
  staticTypes := #[]
  resolved := Array.replicate 40 none
  statics := none }

def pool2 : Array CpInfo := pool [(1, .class_ 2), (0, u "java/lang/constant/Constable"), (0, .class_ 4), (0, u "java/lang/Object")] 6

/-- java/lang/constant/Constable -/
def k2 : Class := { plain "java/lang/constant/Constable" (some 0) with
  accessFlags := 1537
  interfaces := #[]
  cf := some (fileOf pool2 1 #[] #[] 1537 3 #[] #[])
  fields := #[]
  methods := #[]
  instanceTypes := #[]
  staticTypes := #[]
  resolved := Array.replicate 11 none
  statics := none }

def pool3 : Array CpInfo := pool [(1, .class_ 2), (0, u "java/lang/Comparable"), (0, .class_ 4), (0, u "java/lang/Object")] 7

/-- java/lang/Comparable -/
def k3 : Class := { plain "java/lang/Comparable" (some 0) with
  accessFlags := 1537
  interfaces := #[]
  cf := some (fileOf pool3 1 #[] #[] 1537 3 #[] #[])
  fields := #[]
  methods := #[]
  instanceTypes := #[]
  staticTypes := #[]
  resolved := Array.replicate 12 none
  statics := none }

def pool4 : Array CpInfo := pool [(1, .class_ 2), (0, u "java/io/Serializable"), (0, .class_ 4), (0, u "java/lang/Object")] 2

/-- java/io/Serializable -/
def k4 : Class := { plain "java/io/Serializable" (some 0) with
  accessFlags := 1537
  interfaces := #[]
  cf := some (fileOf pool4 1 #[] #[] 1537 3 #[] #[])
  fields := #[]
  methods := #[]
  instanceTypes := #[]
  staticTypes := #[]
  resolved := Array.replicate 7 none
  statics := none }

def pool5 : Array CpInfo := pool [(2, .class_ 4), (1, u "java/lang/Enum"), (0, u "name"), (0, u "Ljava/lang/String;"), (2, u "ordinal"), (0, u "I"), (1, .class_ 14), (1, u "java/lang/Object"), (4, u "hash"), (86, .class_ 108), (1, u "java/lang/Enum$EnumDesc"), (2, .class_ 112), (0, u "java/lang/constant/Constable"), (0, .class_ 114), (0, u "java/lang/Comparable"), (0, .class_ 116), (0, u "java/io/Serializable")] 87

/-- java/lang/Enum -/
def k5 : Class := { plain "java/lang/Enum" (some 0) with
  accessFlags := 1057
  interfaces := #[2, 3, 4]
  cf := some (fileOf pool5 2 #[.nestMembers #[106]] #[] 1057 12 #[111, 113, 115] #[{ accessFlags := 18, nameIndex := 5, descriptorIndex := 6, attributes := #[] }, { accessFlags := 18, nameIndex := 9, descriptorIndex := 10, attributes := #[] }, { accessFlags := 2, nameIndex := 19, descriptorIndex := 10, attributes := #[] }])
  fields := #[{ name := "name", type := (.object "java/lang/String"), accessFlags := 18, slot := 0, constantValue := 0 }, { name := "ordinal", type := .int, accessFlags := 18, slot := 1, constantValue := 0 }, { name := "hash", type := .int, accessFlags := 2, slot := 2, constantValue := 0 }]
  methods := #[]
  instanceTypes := #[(.object "java/lang/String"), .int, .int]
  staticTypes := #[]
  resolved := Array.replicate 204 none
  statics := none }

def pool6 : Array CpInfo := pool [(1, .class_ 2), (0, u "com/example/fold3/fold3/graph/ColonTitles"), (2, u "KEEP"), (0, u "Lcom/example/fold3/fold3/graph/ColonTitles;"), (0, .fieldref 1 8), (0, .nameAndType 9 6), (0, u "DROP"), (2, u "$VALUES"), (0, u "[Lcom/example/fold3/fold3/graph/ColonTitles;"), (6, .class_ 22), (1, u "java/lang/Enum"), (29, u "keeps"), (0, u "([BII)Z")] 27

def k6c0 : Code := { maxStack := 2, maxLocals := 6, code := prog_7_method_4_code, exceptionTable := #[], attributes := #[] }
def k6m0 : Method := { name := "keeps", desc := "([BII)Z", sig := { parameters := [(.array .byte), .int, .int], returnType := some .boolean }, accessFlags := 0, code := some k6c0 }
/-- com/example/fold3/fold3/graph/ColonTitles -/
def k6 : Class := { plain "com/example/fold3/fold3/graph/ColonTitles" (some 5) with
  accessFlags := 16433
  interfaces := #[]
  cf := some (fileOf pool6 1 #[] #[{ accessFlags := 0, nameIndex := 52, descriptorIndex := 53, attributes := #[] }] 16433 20 #[] #[{ accessFlags := 16409, nameIndex := 5, descriptorIndex := 6, attributes := #[] }, { accessFlags := 16409, nameIndex := 9, descriptorIndex := 6, attributes := #[] }, { accessFlags := 4122, nameIndex := 12, descriptorIndex := 13, attributes := #[] }])
  fields := #[{ name := "KEEP", type := (.object "com/example/fold3/fold3/graph/ColonTitles"), accessFlags := 16409, slot := 0, constantValue := 0 }, { name := "DROP", type := (.object "com/example/fold3/fold3/graph/ColonTitles"), accessFlags := 16409, slot := 1, constantValue := 0 }, { name := "$VALUES", type := (.array (.object "com/example/fold3/fold3/graph/ColonTitles")), accessFlags := 4122, slot := 2, constantValue := 0 }]
  methods := #[k6m0]
  instanceTypes := #[(.object "java/lang/String"), .int, .int]
  staticTypes := #[(.object "com/example/fold3/fold3/graph/ColonTitles"), (.object "com/example/fold3/fold3/graph/ColonTitles"), (.array (.object "com/example/fold3/fold3/graph/ColonTitles"))]
  resolved := Array.replicate 81 none
  statics := some 0 }

def pool7 : Array CpInfo := pool [(1, u "java/lang/Cloneable"), (0, .class_ 1), (0, u "java/lang/Object"), (0, .class_ 3)] 3

/-- java/lang/Cloneable -/
def k7 : Class := { plain "java/lang/Cloneable" (some 0) with
  accessFlags := 1537
  interfaces := #[]
  cf := some (fileOf pool7 2 #[] #[] 1537 4 #[] #[])
  fields := #[]
  methods := #[]
  instanceTypes := #[]
  staticTypes := #[]
  resolved := Array.replicate 8 none
  statics := none }

/-- the primitive byte -/
def k8 : Class := { plain "byte" none with kind := .primitive 'B', accessFlags := 0x411 }
/-- [B -/
def k9 : Class := { plain "[B" (some 0) with kind := .array 8 .byte, interfaces := #[7, 4], accessFlags := 1041 }

/-- the primitive int -/
def k10 : Class := { plain "int" none with kind := .primitive 'I', accessFlags := 0x411 }
/-- [I -/
def k11 : Class := { plain "[I" (some 0) with kind := .array 10 .int, interfaces := #[7, 4], accessFlags := 1041 }

def heap : Heap := #[{ cls := 6, slots := #[.ref 1, .ref 2, .null], vm := .statics 6 },
  { cls := 6, slots := #[.null, .int 0, .int 0], vm := .none },
  { cls := 6, slots := #[.null, .int 1, .int 0], vm := .none }]
def classes : Array Class := #[k0, k1, k2, k3, k4, k5, k6, k7, k8, k9, k10, k11]
def interned : List (Array UInt16 × Addr) := []
def slotsUsed : Nat := 9
def theMethod : MethodId := ⟨1, 3⟩
def args0 : Array Value := #[.int 1, .int 2, .int 3, .int 4, .int 5]
def aboutOver (below : List Frame) : State where
  vm := { classes := classes, interned := interned.toArray }
  heap := heap
  slotsUsed := slotsUsed
  threads := #[{ frames := .invoking theMethod args0 :: below }]
def below0 : List Frame := [.native { method := ⟨0, 0⟩, args := #[] }]
def about1 : State := aboutOver below0
def p0 : Program := .bare "" "" ""
def e0 : Env := launch0.env 0 0 0
theorem w_frames : about1.frames = Frame.invoking theMethod args0 :: below0 := rfl
set_option maxRecDepth 65536 in
theorem w_args : argsFit about1.vm theMethod args0 = true := by decide +kernel
set_option maxRecDepth 65536 in
theorem w_heap : heapFits about1 = true := by decide +kernel
set_option maxRecDepth 65536 in
theorem w_runnable : about1.curStatus? = some .runnable := by decide +kernel
set_option maxRecDepth 65536 in
theorem w_alone : about1.alone = true := by decide +kernel
set_option maxRecDepth 65536 in
theorem w_named : about1.methodNamed? x = some theMethod := by decide +kernel
set_option maxRecDepth 65536 in
theorem w_hears : about1.hears theMethod below0 = true := by decide +kernel
set_option maxRecDepth 65536 in
theorem w_ripe : about1.ripe theMethod args0 below0 = true := by decide +kernel
theorem w_running : about1.status = .running := rfl
set_option maxRecDepth 65536 in
theorem w_room : about1.hasRoom e0.platform room_1 = true :=
  launch0.hasRoom_least _ room_1 (by decide +kernel) (by decide +kernel) (by decide +kernel) (by decide +kernel) (by decide +kernel) (by decide +kernel)
theorem allAtoms_all (ts : List Jvm.Cond) (a : Array Jvm.Value) (st : Jvm.State) : (allAtoms ts).before a st = ts.all (fun c => c.before a st) := by
  induction ts with
  | nil => rfl
  | cons c t ih =>
    show (Jvm.Cond.and c (allAtoms t)).before a st = _
    rw [Jvm.Cond.before_and, ih, List.all_cons]
def words1 : List Jvm.Cond := Jvm.Cond.code x code maxLocals ret :: tables_1
/-- a 'code' word, met by the world's own term for the bytes: nothing is compared byte by byte -/
theorem code_word {y : MethodName} {bytes : ByteArray} {mx : Nat} {rt : Option FieldType} {a : Array Value} {s : State} {m : MethodId} {meth : Method} {c : Code} (h1 : s.methodNamed? y = some m) (h2 : s.vm.method? m = some meth) (h3 : meth.code = some c) (h4 : c.code = bytes)
    (h5 : (c.maxLocals == mx && c.exceptionTable.isEmpty && decide (c.maxStack ≤ mostOperands) && decide (meth.sig.returnType = rt) && !meth.locks && decide (parseMethodDescriptor y.desc = some meth.sig)) = true) : (Jvm.Cond.code y bytes mx rt).before a s = true := by
  simp only [Bool.and_eq_true, beq_iff_eq, Bool.not_eq_true', decide_eq_true_eq] at h5
  obtain ⟨⟨⟨⟨⟨g1, g2⟩, g3⟩, g4⟩, g5⟩, g6⟩ := h5
  simp [Cond.before, Cond.holds, Cond.value, h1, h2, h3, h4, g1, g2, g3, g4, g5, g6]
def isCode : Jvm.Cond → Bool
  | .code _ _ _ _ => true
  | _ => false
theorem all_split {L : List Jvm.Cond} {P : Jvm.Cond → Bool} (h1 : L.all (fun c => isCode c || P c) = true) (h2 : ∀ c ∈ L.filter isCode, P c = true) : L.all P = true := by
  refine List.all_eq_true.mpr fun c hc => ?_
  have h := List.all_eq_true.mp h1 c hc
  rcases Bool.eq_false_or_eq_true (isCode c) with hi | hi
  · exact h2 c (List.mem_filter.mpr ⟨hc, hi⟩)
  · simpa [hi] using h
set_option maxRecDepth 65536 in
theorem w_c0 : (Jvm.Cond.code x code maxLocals ret).before args0 about1 = true := code_word (m := ⟨1, 3⟩) (meth := k1m3) (c := k1c3) (by decide +kernel) rfl rfl rfl (by decide +kernel)
set_option maxRecDepth 65536 in
theorem w_c1 : (Jvm.Cond.code ({ cls := "com/example/fold3/fold3/graph/ColonTitlesKeepsPinLaw", name := "pick", desc := "(III)B" } : Jvm.MethodName) method_2_code (3 : Nat) (Option.some Jvm.ClassFile.FieldType.byte)).before args0 about1 = true := code_word (m := ⟨1, 1⟩) (meth := k1m1) (c := k1c1) (by decide +kernel) rfl rfl rfl (by decide +kernel)
set_option maxRecDepth 65536 in
theorem w_c2 : (Jvm.Cond.code ({ cls := "com/example/fold3/fold3/graph/ColonTitlesKeepsPinLaw", name := "hit", desc := "([BIII)Z" } : Jvm.MethodName) method_3_code (4 : Nat) (Option.some Jvm.ClassFile.FieldType.boolean)).before args0 about1 = true := code_word (m := ⟨1, 2⟩) (meth := k1m2) (c := k1c2) (by decide +kernel) rfl rfl rfl (by decide +kernel)
set_option maxRecDepth 65536 in
theorem w_c3 : (Jvm.Cond.code ({ cls := "com/example/fold3/fold3/graph/ColonTitles", name := "keeps", desc := "([BII)Z" } : Jvm.MethodName) prog_7_method_4_code (6 : Nat) (Option.some Jvm.ClassFile.FieldType.boolean)).before args0 about1 = true := code_word (m := ⟨6, 0⟩) (meth := k6m0) (c := k6c0) (by decide +kernel) rfl rfl rfl (by decide +kernel)
def codes1 : List Jvm.Cond := [Jvm.Cond.code x code maxLocals ret, Jvm.Cond.code ({ cls := "com/example/fold3/fold3/graph/ColonTitlesKeepsPinLaw", name := "pick", desc := "(III)B" } : Jvm.MethodName) method_2_code (3 : Nat) (Option.some Jvm.ClassFile.FieldType.byte), Jvm.Cond.code ({ cls := "com/example/fold3/fold3/graph/ColonTitlesKeepsPinLaw", name := "hit", desc := "([BIII)Z" } : Jvm.MethodName) method_3_code (4 : Nat) (Option.some Jvm.ClassFile.FieldType.boolean), Jvm.Cond.code ({ cls := "com/example/fold3/fold3/graph/ColonTitles", name := "keeps", desc := "([BII)Z" } : Jvm.MethodName) prog_7_method_4_code (6 : Nat) (Option.some Jvm.ClassFile.FieldType.boolean)]
set_option maxRecDepth 65536 in
theorem codes_eq : words1.filter isCode = codes1 := rfl
theorem w_codes : ∀ c ∈ words1.filter isCode, c.before args0 about1 = true := by
  rw [codes_eq]
  intro c hc
  simp only [codes1, List.mem_cons, List.not_mem_nil, or_false] at hc
  rcases hc with rfl | rfl | rfl | rfl
  · exact w_c0
  · exact w_c1
  · exact w_c2
  · exact w_c3
set_option maxRecDepth 65536 in
theorem w_t1 : words1.all (fun c => isCode c || c.before args0 about1) = true := by decide +kernel
theorem w_tables : (allAtoms (Jvm.Cond.code x code maxLocals ret :: tables_1)).before args0 about1 = true := by
  rw [allAtoms_all]
  show words1.all (fun c => c.before args0 about1) = true
  refine all_split ?_ w_codes
  rw [w_t1]
set_option maxRecDepth 65536 in
theorem w_case : (Jvm.Cond.and given_1 narrow_1).before args0 about1 = true := by decide +kernel
theorem w_applies : (headSpec (Jvm.Cond.code x code maxLocals ret :: tables_1) room_1).applies x e0.platform about1 = true :=
  (Spec.applies_iff w_frames).mpr ⟨w_running, w_runnable, w_alone, w_named, w_hears, w_ripe, w_room, w_tables⟩
theorem atStart : AtStart classFile x code maxLocals ret World_1 tables_1 room_1 Calls_1 rest_1 Pre_1 launch0 p0 e0 about1 theMethod args0 below0 :=
  ⟨lists_1, trivial, launch0.admits_env _ _ _, launch0.least_env, fairChoices_fair.cas, fairChoices_fair.clock, w_frames, w_args, w_heap, w_applies, trivial, trivial, w_case⟩
end start1
theorem witness_1 : WitnessClaimed_1 := ⟨start1.p0, start1.e0, start1.about1, start1.theMethod, start1.args0, start1.below0, start1.atStart⟩
end Jvm.Pilot.@@N@@
