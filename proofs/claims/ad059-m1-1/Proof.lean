import JvmDerived
import JvmDerived.Pilot.@@N@@Statement
import JvmDerived.Pilot.@@N@@Code
set_option linter.unusedVariables false
set_option linter.unusedSimpArgs false
namespace Jvm.RoadKit
open Sem ClassFile Op Lib Jvm.Stand Jvm.Free Jvm.LawKit
section New
variable {p : Program} {l : Launch} {e : Env} {R : Room} {s : State} {m : MethodId} {args : Array Value} {below : List Frame} {meth : Method} {c : Code} {T : State} {locs : List Loc} {cells slots : Nat}
theorem retI (X : Stand p l e R s m args below meth c T locs cells slots) (hx : p.tables.exec = Jvm.exec) {pc : Nat} {Ls : Array Slot} {z : Int32} {rest : List Value} (hret : meth.sig.returnType = some .int) (hd : decode c.code pc = .ok (.ireturn, 1)) {fs : List Frame}
    (hl : ∀ (f : JFrame) (acts : List Action), f.method = m → f.locked = none → f.entered = [] → (doReturn e (T.setTop f) acts (some (.int z))).1 = T.setFrames fs) : Steps p.tables e below (T.setTop (mkF m pc Ls (.int z :: rest))) (T.setFrames fs) :=
  retOut X hx hret rfl (Or.inl ⟨rfl, Or.inl rfl, z, rfl⟩) hd hl
theorem retJ (X : Stand p l e R s m args below meth c T locs cells slots) (hx : p.tables.exec = Jvm.exec) {pc : Nat} {Ls : Array Slot} {z : Int64} {rest : List Value} (hret : meth.sig.returnType = some .long) (hd : decode c.code pc = .ok (.lreturn, 1)) {fs : List Frame}
    (hl : ∀ (f : JFrame) (acts : List Action), f.method = m → f.locked = none → f.entered = [] → (doReturn e (T.setTop f) acts (some (.long z))).1 = T.setFrames fs) : Steps p.tables e below (T.setTop (mkF m pc Ls (.long z :: rest))) (T.setFrames fs) :=
  retOut X hx hret rfl (Or.inr (Or.inl ⟨rfl, rfl, z, rfl⟩)) hd hl
theorem retA (X : Stand p l e R s m args below meth c T locs cells slots) (hx : p.tables.exec = Jvm.exec) {pc : Nat} {Ls : Array Slot} {w : Value} {t : FieldType} {rest : List Value} (hret : meth.sig.returnType = some t) (hd : decode c.code pc = .ok (.areturn, 1)) {fs : List Frame}
    (hl : ∀ (f : JFrame) (acts : List Action), f.method = m → f.locked = none → f.entered = [] → (doReturn e (T.setTop f) acts (some w)).1 = T.setFrames fs) (ht : t.isReference = true) (hw : w.isRef = true) : Steps p.tables e below (T.setTop (mkF m pc Ls (w :: rest))) (T.setFrames fs) :=
  retOut X hx hret (by cases t <;> first | rfl | (cases ht; done)) (Or.inr (Or.inr (Or.inr (Or.inr ⟨rfl, ht, hw⟩)))) hd hl
/-- from the state S on, the body runs to its end and leaves what Q says -/
def Gz (p : Program) (e : Env) (below : List Frame) (s : State) (C N : Nat) (Q : Option Value → Heap → List Loc → Prop) (S : State) : Prop :=
  ∃ s₂ o, Steps p.tables e below S s₂ ∧ s₂.status = .running ∧ Ended s₂ below o ∧ ∃ v L, o = .returned v ∧ Q v s₂.heap L ∧ FrameEnd s o s₂ L C N
variable {C N : Nat} {Q : Option Value → Heap → List Loc → Prop} {S S' : State}
theorem Gz.st (k : ∀ t, Steps p.tables e below S' t → Steps p.tables e below S t) (h : Gz p e below s C N Q S') : Gz p e below s C N Q S := by
  obtain ⟨s₂, o, h1, h2⟩ := h
  exact ⟨s₂, o, k _ h1, h2⟩
theorem Gz.tr (k : Steps p.tables e below S S') (h : Gz p e below s C N Q S') : Gz p e below s C N Q S := by
  obtain ⟨s₂, o, h1, h2⟩ := h
  exact ⟨s₂, o, k.trans h1, h2⟩
variable {pc : Nat} {Ls : Array Slot} {st : List Value} {Z : State} {a0 : Array Value} {hh : Heap}
theorem Gz.iloadN (n : Nat) {k : Fin 4} {v : Int32} (X : Stand p l e R s m args below meth c T locs cells slots) (hx : p.tables.exec = Jvm.exec) (hd : decode c.code pc = .ok (.iload_n k, 1)) (hl : Ls[k.val]? = some (.val (.int v))) (q : pc + 1 = n) (h : Gz p e below s C N Q (T.setTop (mkF m n Ls (.int v :: st)))) : Gz p e below s C N Q (T.setTop (mkF m pc Ls st)) := by subst q; exact Gz.st (fun t k => XS.iloadN X.here hx rfl hd hl k) h
theorem Gz.iload (n : Nat) {k : Nat} {v : Int32} (X : Stand p l e R s m args below meth c T locs cells slots) (hx : p.tables.exec = Jvm.exec) (hd : decode c.code pc = .ok (.iload k, 2)) (hl : Ls[k]? = some (.val (.int v))) (q : pc + 2 = n) (h : Gz p e below s C N Q (T.setTop (mkF m n Ls (.int v :: st)))) : Gz p e below s C N Q (T.setTop (mkF m pc Ls st)) := by subst q; exact Gz.st (fun t k => XS.iload X.here hx rfl hd hl k) h
theorem Gz.istoreN (n : Nat) (l' : Array Slot) {k : Fin 4} {v : Int32} (X : Stand p l e R s m args below meth c T locs cells slots) (hx : p.tables.exec = Jvm.exec) (hd : decode c.code pc = .ok (.istore_n k, 1)) (hl : storeLocals Ls k.val (.int v) = some l') (q : pc + 1 = n) (h : Gz p e below s C N Q (T.setTop (mkF m n l' st))) : Gz p e below s C N Q (T.setTop (mkF m pc Ls (.int v :: st))) := by subst q; exact Gz.st (fun t k => XS.istoreN X.here hx rfl hd rfl hl k) h
theorem Gz.istore (n : Nat) (l' : Array Slot) {k : Nat} {v : Int32} (X : Stand p l e R s m args below meth c T locs cells slots) (hx : p.tables.exec = Jvm.exec) (hd : decode c.code pc = .ok (.istore k, 2)) (hl : storeLocals Ls k (.int v) = some l') (q : pc + 2 = n) (h : Gz p e below s C N Q (T.setTop (mkF m n l' st))) : Gz p e below s C N Q (T.setTop (mkF m pc Ls (.int v :: st))) := by subst q; exact Gz.st (fun t k => XS.istore X.here hx rfl hd rfl hl k) h
theorem Gz.lloadN (n : Nat) {k : Fin 4} {v : Int64} (X : Stand p l e R s m args below meth c T locs cells slots) (hx : p.tables.exec = Jvm.exec) (hd : decode c.code pc = .ok (.lload_n k, 1)) (hl : Ls[k.val]? = some (.val (.long v))) (q : pc + 1 = n) (h : Gz p e below s C N Q (T.setTop (mkF m n Ls (.long v :: st)))) : Gz p e below s C N Q (T.setTop (mkF m pc Ls st)) := by subst q; exact Gz.st (fun t k => XS.lloadN X.here hx rfl hd hl k) h
theorem Gz.lload (n : Nat) {k : Nat} {v : Int64} (X : Stand p l e R s m args below meth c T locs cells slots) (hx : p.tables.exec = Jvm.exec) (hd : decode c.code pc = .ok (.lload k, 2)) (hl : Ls[k]? = some (.val (.long v))) (q : pc + 2 = n) (h : Gz p e below s C N Q (T.setTop (mkF m n Ls (.long v :: st)))) : Gz p e below s C N Q (T.setTop (mkF m pc Ls st)) := by subst q; exact Gz.st (fun t k => XS.lload X.here hx rfl hd hl k) h
theorem Gz.lstore (n : Nat) (l' : Array Slot) {k : Nat} {v : Int64} (X : Stand p l e R s m args below meth c T locs cells slots) (hx : p.tables.exec = Jvm.exec) (hd : decode c.code pc = .ok (.lstore k, 2)) (hl : storeLocals Ls k (.long v) = some l') (q : pc + 2 = n) (h : Gz p e below s C N Q (T.setTop (mkF m n l' st))) : Gz p e below s C N Q (T.setTop (mkF m pc Ls (.long v :: st))) := by subst q; exact Gz.st (fun t k => XS.lstore X.here hx rfl hd rfl hl k) h
theorem Gz.aloadN (n : Nat) {k : Fin 4} {v : Value} (X : Stand p l e R s m args below meth c T locs cells slots) (hx : p.tables.exec = Jvm.exec) (hd : decode c.code pc = .ok (.aload_n k, 1)) (hl : Ls[k.val]? = some (.val v)) (hv : v.isRef = true) (q : pc + 1 = n) (h : Gz p e below s C N Q (T.setTop (mkF m n Ls (v :: st)))) : Gz p e below s C N Q (T.setTop (mkF m pc Ls st)) := by subst q; exact Gz.st (fun t k => XS.aloadN X.here hx rfl hd hl hv k) h
theorem Gz.aload (n : Nat) {k : Nat} {v : Value} (X : Stand p l e R s m args below meth c T locs cells slots) (hx : p.tables.exec = Jvm.exec) (hd : decode c.code pc = .ok (.aload k, 2)) (hl : Ls[k]? = some (.val v)) (hv : v.isRef = true) (q : pc + 2 = n) (h : Gz p e below s C N Q (T.setTop (mkF m n Ls (v :: st)))) : Gz p e below s C N Q (T.setTop (mkF m pc Ls st)) := by subst q; exact Gz.st (fun t k => XS.aload X.here hx rfl hd hl hv k) h
theorem Gz.astore (n : Nat) (l' : Array Slot) {k : Nat} {v : Value} (X : Stand p l e R s m args below meth c T locs cells slots) (hx : p.tables.exec = Jvm.exec) (hd : decode c.code pc = .ok (.astore k, 2)) (hl : storeLocals Ls k v = some l') (hv : v.isRef = true) (q : pc + 2 = n) (h : Gz p e below s C N Q (T.setTop (mkF m n l' st))) : Gz p e below s C N Q (T.setTop (mkF m pc Ls (v :: st))) := by subst q; exact Gz.st (fun t k => XS.astore X.here hx rfl hd rfl hv hl k) h
theorem Gz.iconst (n : Nat) (v : Int32) (X : Stand p l e R s m args below meth c T locs cells slots) (hx : p.tables.exec = Jvm.exec) {i : Int} (hd : decode c.code pc = .ok (.iconst i, 1)) (hv : Int32.ofInt i = v) (q : pc + 1 = n) (h : Gz p e below s C N Q (T.setTop (mkF m n Ls (.int v :: st)))) : Gz p e below s C N Q (T.setTop (mkF m pc Ls st)) := by subst q hv; exact Gz.st (fun t k => XS.iconst X.here hx rfl hd k) h
theorem Gz.ladd (n : Nat) {x y : Int64} (X : Stand p l e R s m args below meth c T locs cells slots) (hx : p.tables.exec = Jvm.exec) (hd : decode c.code pc = .ok (.ladd, 1))  (q : pc + 1 = n) (h : Gz p e below s C N Q (T.setTop (mkF m n Ls (.long (x + y) :: st)))) : Gz p e below s C N Q (T.setTop (mkF m pc Ls (.long y :: .long x :: st))) := by subst q; exact Gz.st (fun t k => XS.ladd X.here hx rfl hd rfl k) h
theorem Gz.lcmp (n : Nat) {x y : Int64} (X : Stand p l e R s m args below meth c T locs cells slots) (hx : p.tables.exec = Jvm.exec) (hd : decode c.code pc = .ok (.lcmp, 1))  (q : pc + 1 = n) (h : Gz p e below s C N Q (T.setTop (mkF m n Ls (.int (lcmpW x y) :: st)))) : Gz p e below s C N Q (T.setTop (mkF m pc Ls (.long y :: .long x :: st))) := by subst q; exact Gz.st (fun t k => XS.lcmp X.here hx rfl hd rfl k) h
theorem Gz.dup (n : Nat) {x : Value} (X : Stand p l e R s m args below meth c T locs cells slots) (hx : p.tables.exec = Jvm.exec) (hd : decode c.code pc = .ok (.dup, 1)) (hc : x.category = 1) (q : pc + 1 = n) (h : Gz p e below s C N Q (T.setTop (mkF m n Ls (x :: x :: st)))) : Gz p e below s C N Q (T.setTop (mkF m pc Ls (x :: st))) := by subst q; exact Gz.st (fun t k => XS.dup X.here hx rfl hd rfl hc k) h
theorem Gz.goto (n : Nat) (X : Stand p l e R s m args below meth c T locs cells slots) (hx : p.tables.exec = Jvm.exec) {o : Int} (hd : decode c.code pc = .ok (.goto o, 3)) (ho : 0 ≤ (pc : Int) + o) (q : ((pc : Int) + o).toNat = n) (h : Gz p e below s C N Q (T.setTop (mkF m n Ls st))) : Gz p e below s C N Q (T.setTop (mkF m pc Ls st)) := Gz.st (fun t k => XS.goto X.here hx rfl (pc0 := pc) (pc' := n) rfl hd ho q k) h
theorem Gz.ifYes (n : Nat) (X : Stand p l e R s m args below meth c T locs cells slots) (hx : p.tables.exec = Jvm.exec) {cd : ClassFile.Cond} {x : Int32} {o : Int} (hd : decode c.code pc = .ok (.ifCond cd o, 3)) (hc : ifCond.holds cd x = true) (ho : 0 ≤ (pc : Int) + o) (q : ((pc : Int) + o).toNat = n) (h : Gz p e below s C N Q (T.setTop (mkF m n Ls st))) : Gz p e below s C N Q (T.setTop (mkF m pc Ls (.int x :: st))) := Gz.st (fun t k => XS.ifYes X.here hx rfl (pc0 := pc) (pc' := n) rfl hd rfl hc ho q k) h
theorem Gz.ifNo (n : Nat) (X : Stand p l e R s m args below meth c T locs cells slots) (hx : p.tables.exec = Jvm.exec) {cd : ClassFile.Cond} {x : Int32} {o : Int} (hd : decode c.code pc = .ok (.ifCond cd o, 3)) (hc : ifCond.holds cd x = false) (q : pc + 3 = n) (h : Gz p e below s C N Q (T.setTop (mkF m n Ls st))) : Gz p e below s C N Q (T.setTop (mkF m pc Ls (.int x :: st))) := by subst q; exact Gz.st (fun t k => XS.ifNo X.here hx rfl hd rfl hc k) h
theorem Gz.icmpYes (n : Nat) (X : Stand p l e R s m args below meth c T locs cells slots) (hx : p.tables.exec = Jvm.exec) {cd : ClassFile.Cond} {x y : Int32} {o : Int} (hd : decode c.code pc = .ok (.if_icmp cd o, 3)) (hc : if_icmp.holds cd x y = true) (ho : 0 ≤ (pc : Int) + o) (q : ((pc : Int) + o).toNat = n) (h : Gz p e below s C N Q (T.setTop (mkF m n Ls st))) : Gz p e below s C N Q (T.setTop (mkF m pc Ls (.int y :: .int x :: st))) := Gz.st (fun t k => XS.icmpYes X.here hx rfl (pc0 := pc) (pc' := n) rfl hd rfl hc ho q k) h
theorem Gz.icmpNo (n : Nat) (X : Stand p l e R s m args below meth c T locs cells slots) (hx : p.tables.exec = Jvm.exec) {cd : ClassFile.Cond} {x y : Int32} {o : Int} (hd : decode c.code pc = .ok (.if_icmp cd o, 3)) (hc : if_icmp.holds cd x y = false) (q : pc + 3 = n) (h : Gz p e below s C N Q (T.setTop (mkF m n Ls st))) : Gz p e below s C N Q (T.setTop (mkF m pc Ls (.int y :: .int x :: st))) := by subst q; exact Gz.st (fun t k => XS.icmpNo X.here hx rfl hd rfl hc k) h
theorem Gz.getF (n : Nat) (X : Stand p l e R s m args below meth c T locs cells slots) (hx : p.tables.exec = Jvm.exec) (hZ : Z.Warmed39 s.vm) {own : String} (hown : s.vm.findClass own = some m.cls) {R0 O nm d host : String} {ix : Nat} (hd : decode c.code pc = .ok (.getfield ix, 3)) (w : (Cond.fieldLink own ix R0 nm d).before a0 Z = true ∨ (Cond.fieldLinkNest own ix R0 nm d host).before a0 Z = true) (via : Via Z R0 O nm d) (eT : T.heap = hh) {a : Addr} {v : Value} (F : Fld Z hh a O nm d v) (q : pc + 3 = n) (h : ∀ T', Stand p l e R s m args below meth c T' (locs) (cells) (slots) → T'.heap = hh → Gz p e below s C N Q (T'.setTop (mkF m n Ls (v :: st)))) : Gz p e below s C N Q (T.setTop (mkF m pc Ls (.ref a :: st))) := by
  subst q
  obtain ⟨T', X', e', st'⟩ := Jvm.RoadKit.getF X hx hZ hown w via eT F (g := mkF m pc Ls (.ref a :: st)) rfl rfl hd
  exact Gz.st st' (h T' X' e')
theorem Gz.putF (n : Nat) (X : Stand p l e R s m args below meth c T locs cells slots) (hx : p.tables.exec = Jvm.exec) (hZ : Z.Warmed39 s.vm) {own : String} (hown : s.vm.findClass own = some m.cls) {R0 O nm d host K : String} {ix kk : Nat} (ty : FieldType) (hd : decode c.code pc = .ok (.putfield ix, 3)) (w : (Cond.fieldLink own ix R0 nm d).before a0 Z = true ∨ (Cond.fieldLinkNest own ix R0 nm d host).before a0 Z = true) (via : Via Z R0 O nm d) (eT : T.heap = hh) {a : Addr} {v old : Value} (F : Fld Z hh a O nm d old) (E : Exa Z hh a K) (L : (Cond.lays K O nm d).before a0 Z = true ∨ ((Cond.laysFinal K O nm d).before a0 Z = true ∧ own = O ∧ meth.name = "<init>")) (wi : (Cond.instantiable K kk).before a0 Z = true) (hty : parseFieldDescriptor d = some ty) (hn : narrow ty v = v) (hf : fits ty v = true) (q : pc + 3 = n) (h : ∀ T' h', Stand p l e R s m args below meth c T' (locs ++ [⟨a, slotOf Z O nm d⟩]) (cells) (slots) → T'.heap = h' → Wr hh h' a (slotOf Z O nm d) v → Gz p e below s C N Q (T'.setTop (mkF m n Ls st))) : Gz p e below s C N Q (T.setTop (mkF m pc Ls (v :: .ref a :: st))) := by
  subst q
  obtain ⟨T', h', X', e', W, st'⟩ := Jvm.RoadKit.putF X hx hZ hown w via eT F E L wi hty hn hf (g := mkF m pc Ls (v :: .ref a :: st)) rfl rfl hd
  exact Gz.st st' (h T' h' X' e' W)
theorem Gz.enter {g g' : JFrame} (q : g = g') (h : Gz p e below s C N Q (T.setTop g')) : Gz p e below s C N Q (T.setTop g) := q ▸ h
theorem Gz.fin (X : Stand p l e R s m args below meth c T locs cells slots) {v : Option Value} (hv : meth.sig.returnType = none → v = none) (hlocks : meth.locks = false) (hc : cells ≤ C) (hn : slots ≤ N)
    (hst : ∀ fs, (∀ (f : JFrame) (acts : List Action), f.method = m → f.locked = none → f.entered = [] → (doReturn e (T.setTop f) acts v).1 = T.setFrames fs) → Steps p.tables e below S (T.setFrames fs)) (hq : Q v T.heap locs) : Gz p e below s C N Q S := by
  obtain ⟨fs, hr, hrun, hended, hW, hsame⟩ := X.leave hv hlocks
  exact ⟨_, _, hst fs hr, hrun, hended, _, _, rfl, hq, ⟨_, rfl⟩, hW, hsame.mono hc hn⟩
theorem retNV (X : Stand p l e R s m args below meth c T locs cells slots) (hx : p.tables.exec = Jvm.exec) {pc : Nat} {Ls : Array Slot} {z w : Int32} {t : FieldType} {rest : List Value} (hret : meth.sig.returnType = some t) (ht : t = .boolean ∨ t = .byte ∨ t = .char ∨ t = .short)
    (hd : decode c.code pc = .ok (.ireturn, 1)) {fs : List Frame} (hl : ∀ (f : JFrame) (acts : List Action), f.method = m → f.locked = none → f.entered = [] → (doReturn e (T.setTop f) acts (some (.int w))).1 = T.setFrames fs) (hw : nar t z = w) :
    Steps p.tables e below (T.setTop (mkF m pc Ls (.int z :: rest))) (T.setFrames fs) := by subst hw; exact retN X hx hret ht hd hl
theorem own_nb (x : Int32) : nar .byte (x.toInt8.toInt32) = x.toInt8.toInt32 := by show (x.toInt8.toInt32).toInt8.toInt32 = _; simp
theorem lt_irr (x : Int32) : ¬ x < x := Int32.lt_irrefl
theorem own_fldI {a0 : Array Value} {Z : State} {t : Term} {a : Addr} {C n d : String} {k : Int32} (ev : t.eval a0 Z none [] Z = some (.ref a)) (h : (Cond.eq (.field t C n d) (.int k)).value a0 Z none Z [] = some true) : Fld Z Z.heap a C n d (.int k) := by
  obtain ⟨x, y, e1, e2, k1, k2⟩ := cmp_v (Or.inl h)
  cases Option.some.inj (e2.symm.trans (Term.int_eval k))
  obtain ⟨z, rfl⟩ := k2
  have q := gotT (Cond.eq_ints e1 (Term.int_eval k)) h
  subst q
  rw [fld_at ev] at e1
  exact Fld.start e1
theorem own_len {a0 : Array Value} {Z : State} {t : Term} {a : Addr} {cl : Cell} {ty : FieldType} {z : Int32} (ev : t.eval a0 Z none [] Z = some (.ref a)) (A : Arr Z Z.heap a cl ty) (h : (Cond.eq (.length t) (.int z)).value a0 Z none Z [] = some true) : cl.slots.size < 2 ^ 31 ∧ cl.slots.size.toInt32 = z := by
  obtain ⟨x, y, e1, e2, k1, k2⟩ := cmp_v (Or.inl h)
  obtain ⟨b, cell, f1, f2, f3, f4⟩ := Jvm.Lib.length_spec e1
  cases Option.some.inj (ev.symm.trans f1)
  cases f2.symm.trans (Arr.fin (U := Z) (Vm.Alike.refl _) A)
  subst f4
  exact ⟨f3, gotT (Cond.eq_ints e1 (Term.int_eval z)) h⟩
theorem own_el {a0 : Array Value} {Z : State} {t : Term} {a : Addr} {cl : Cell} {ty : FieldType} {j v : Int32} (ev : t.eval a0 Z none [] Z = some (.ref a)) (A : Arr Z Z.heap a cl ty) (h : (Cond.eq (.elem t (.int j)) (.int v)).value a0 Z none Z [] = some true) : cl.slots[j.toNatClampNeg]? = some (.int v) := by
  obtain ⟨x, y, e1, e2, k1, k2⟩ := cmp_v (Or.inl h)
  cases Option.some.inj (e2.symm.trans (Term.int_eval v))
  obtain ⟨z, rfl⟩ := k2
  have q := gotT (Cond.eq_ints e1 (Term.int_eval v)) h
  subst q
  exact (elem_in e1 ev (Term.int_eval j) A.1).2
end New
end Jvm.RoadKit
namespace Jvm.Pilot.@@N@@
open Jvm Jvm.ClassFile Sem Op Lib Jvm.Free Jvm.Stand Jvm.LawKit Jvm.RoadKit Bundle Jvm.Pilot.@@N@@.Jvm.D
theorem ww {av : Array Value} {Z : State} (hw : ∀ d ∈ tables_1, d.before av Z = true) (i : Nat) {d : Jvm.Cond} (h : tables_1[i]? = some d) : d.before av Z = true := hw _ (List.mem_of_getElem? h)
theorem own_nat (z : Int32) (n : Nat) (hn : n ≤ 2147483648) (h0 : 0 ≤ z.toInt) (h1 : z.toInt < n) : ∃ k : Nat, k < n ∧ z = Int32.ofNat k := by
  refine ⟨z.toInt.toNat, by omega, ?_⟩
  apply Int32.toInt_inj.mp
  rw [Int32.toInt_ofNat_of_lt (by omega)]
  omega
theorem own_i2c (z : Int32) (h0 : 0 ≤ z.toInt) (h1 : z.toInt < 65536) : z.toUInt32.toUInt16.toUInt32.toInt32 = z := by
  apply Int32.toInt_inj.mp
  have := c_i2c z
  omega
theorem own_asym32 {x y : Int32} (h : y < x) : ¬ x < y := fun q => by rw [Int32.lt_iff_toInt_lt] at *; omega
theorem own_asym64 {x y : Int64} (h : y < x) : ¬ x < y := fun q => by rw [Int64.lt_iff_toInt_lt] at *; omega
theorem own_irr32 {x y : Int32} (h : x = y) : ¬ x < y := fun q => by rw [Int32.lt_iff_toInt_lt] at *; subst h; omega
theorem own_irr64 {x y : Int64} (h : x = y) : ¬ x < y := fun q => by rw [Int64.lt_iff_toInt_lt] at *; subst h; omega
theorem own_tri32 {x y : Int32} (h : ¬ y < x) (g : ¬ x = y) : x < y := by
  rw [← Int32.toInt_inj] at g; rw [Int32.lt_iff_toInt_lt] at *; omega
theorem own_tri64 {x y : Int64} (h : ¬ y < x) (g : ¬ x = y) : x < y := by
  rw [← Int64.toInt_inj] at g; rw [Int64.lt_iff_toInt_lt] at *; omega
theorem own_nlt32 {x y : Int32} (h : x < y) : ¬ x = y := fun q => own_irr32 q h
theorem own_nlt64 {x y : Int64} (h : x < y) : ¬ x = y := fun q => own_irr64 q h
theorem own_ngt32 {x y : Int32} (h : y < x) : ¬ x = y := fun q => own_irr32 q.symm h
theorem own_ngt64 {x y : Int64} (h : y < x) : ¬ x = y := fun q => own_irr64 q.symm h
theorem own_both32 {x y : Int32} (h : ¬ x < y) (g : ¬ y < x) : x = y := by
  rw [← Int32.toInt_inj]; rw [Int32.lt_iff_toInt_lt] at *; omega
theorem own_both64 {x y : Int64} (h : ¬ x < y) (g : ¬ y < x) : x = y := by
  rw [← Int64.toInt_inj]; rw [Int64.lt_iff_toInt_lt] at *; omega
theorem own_rem (z d : Int32) (hd : d ≠ 0) (h0 : 0 ≤ z.toInt) (n : Nat) (hn : d.toInt = n) (hn2 : n ≤ 2147483648) : ∃ k : Nat, k < n ∧ z % d = Int32.ofNat k := by
  have hr := c_irem z d n hn
  have hn0 : n ≠ 0 := fun q => hd (Int32.toInt_inj.mp (by rw [hn, q]; rfl))
  have h1 := hr.1 h0
  have h2 : 0 ≤ z.toInt % (n : Int) := Int.emod_nonneg _ (by omega)
  have h3 : z.toInt % (n : Int) < n := Int.emod_lt_of_pos _ (by omega)
  exact own_nat _ n hn2 (by omega) (by omega)
theorem own_ALt32 {e j k : Int32} (h : e < j) (q : j.toInt ≤ k.toInt) : e < k := by
  rw [Int32.lt_iff_toInt_lt] at *; omega
theorem own_AGf32 {e j k : Int32} (h : e < j) (q : j.toInt ≤ k.toInt + 1) : ¬ k < e := by
  rw [Int32.lt_iff_toInt_lt] at *; omega
theorem own_AEf32 {e j k : Int32} (h : e < j) (q : j.toInt ≤ k.toInt) : ¬ e = k := by
  intro z; subst z; rw [Int32.lt_iff_toInt_lt] at h; omega
theorem own_BLf32 {e j k : Int32} (h : ¬ e < j) (q : k.toInt ≤ j.toInt) : ¬ e < k := by
  rw [Int32.lt_iff_toInt_lt] at *; omega
theorem own_BGt32 {e j k : Int32} (h : ¬ e < j) (q : k.toInt < j.toInt) : k < e := by
  rw [Int32.lt_iff_toInt_lt] at *; omega
theorem own_BEf32 {e j k : Int32} (h : ¬ e < j) (q : k.toInt < j.toInt) : ¬ e = k := by
  intro z; subst z; rw [Int32.lt_iff_toInt_lt] at h; omega
theorem own_CLf32 {e j k : Int32} (h : j < e) (q : k.toInt ≤ j.toInt + 1) : ¬ e < k := by
  rw [Int32.lt_iff_toInt_lt] at *; omega
theorem own_CGt32 {e j k : Int32} (h : j < e) (q : k.toInt ≤ j.toInt) : k < e := by
  rw [Int32.lt_iff_toInt_lt] at *; omega
theorem own_CEf32 {e j k : Int32} (h : j < e) (q : k.toInt ≤ j.toInt) : ¬ e = k := by
  intro z; subst z; rw [Int32.lt_iff_toInt_lt] at h; omega
theorem own_DLt32 {e j k : Int32} (h : ¬ j < e) (q : j.toInt < k.toInt) : e < k := by
  rw [Int32.lt_iff_toInt_lt] at *; omega
theorem own_DGf32 {e j k : Int32} (h : ¬ j < e) (q : j.toInt ≤ k.toInt) : ¬ k < e := by
  rw [Int32.lt_iff_toInt_lt] at *; omega
theorem own_DEf32 {e j k : Int32} (h : ¬ j < e) (q : j.toInt < k.toInt) : ¬ e = k := by
  intro z; subst z; rw [Int32.lt_iff_toInt_lt] at h; omega
theorem own_eqEt32 {e j k : Int32} (h : e = j) (q : j = k) : e = k := by rw [h]; exact q
theorem own_eqEf32 {e j k : Int32} (h : e = j) (q : ¬ j = k) : ¬ e = k := by rw [h]; exact q
theorem own_eqLt32 {e j k : Int32} (h : e = j) (q : j < k) : e < k := by rw [h]; exact q
theorem own_eqLf32 {e j k : Int32} (h : e = j) (q : ¬ j < k) : ¬ e < k := by rw [h]; exact q
theorem own_eqGt32 {e j k : Int32} (h : e = j) (q : k < j) : k < e := by rw [h]; exact q
theorem own_eqGf32 {e j k : Int32} (h : e = j) (q : ¬ k < j) : ¬ k < e := by rw [h]; exact q
theorem own_ALt64 {e j k : Int64} (h : e < j) (q : j.toInt ≤ k.toInt) : e < k := by
  rw [Int64.lt_iff_toInt_lt] at *; omega
theorem own_AGf64 {e j k : Int64} (h : e < j) (q : j.toInt ≤ k.toInt + 1) : ¬ k < e := by
  rw [Int64.lt_iff_toInt_lt] at *; omega
theorem own_AEf64 {e j k : Int64} (h : e < j) (q : j.toInt ≤ k.toInt) : ¬ e = k := by
  intro z; subst z; rw [Int64.lt_iff_toInt_lt] at h; omega
theorem own_BLf64 {e j k : Int64} (h : ¬ e < j) (q : k.toInt ≤ j.toInt) : ¬ e < k := by
  rw [Int64.lt_iff_toInt_lt] at *; omega
theorem own_BGt64 {e j k : Int64} (h : ¬ e < j) (q : k.toInt < j.toInt) : k < e := by
  rw [Int64.lt_iff_toInt_lt] at *; omega
theorem own_BEf64 {e j k : Int64} (h : ¬ e < j) (q : k.toInt < j.toInt) : ¬ e = k := by
  intro z; subst z; rw [Int64.lt_iff_toInt_lt] at h; omega
theorem own_CLf64 {e j k : Int64} (h : j < e) (q : k.toInt ≤ j.toInt + 1) : ¬ e < k := by
  rw [Int64.lt_iff_toInt_lt] at *; omega
theorem own_CGt64 {e j k : Int64} (h : j < e) (q : k.toInt ≤ j.toInt) : k < e := by
  rw [Int64.lt_iff_toInt_lt] at *; omega
theorem own_CEf64 {e j k : Int64} (h : j < e) (q : k.toInt ≤ j.toInt) : ¬ e = k := by
  intro z; subst z; rw [Int64.lt_iff_toInt_lt] at h; omega
theorem own_DLt64 {e j k : Int64} (h : ¬ j < e) (q : j.toInt < k.toInt) : e < k := by
  rw [Int64.lt_iff_toInt_lt] at *; omega
theorem own_DGf64 {e j k : Int64} (h : ¬ j < e) (q : j.toInt ≤ k.toInt) : ¬ k < e := by
  rw [Int64.lt_iff_toInt_lt] at *; omega
theorem own_DEf64 {e j k : Int64} (h : ¬ j < e) (q : j.toInt < k.toInt) : ¬ e = k := by
  intro z; subst z; rw [Int64.lt_iff_toInt_lt] at h; omega
theorem own_eqEt64 {e j k : Int64} (h : e = j) (q : j = k) : e = k := by rw [h]; exact q
theorem own_eqEf64 {e j k : Int64} (h : e = j) (q : ¬ j = k) : ¬ e = k := by rw [h]; exact q
theorem own_eqLt64 {e j k : Int64} (h : e = j) (q : j < k) : e < k := by rw [h]; exact q
theorem own_eqLf64 {e j k : Int64} (h : e = j) (q : ¬ j < k) : ¬ e < k := by rw [h]; exact q
theorem own_eqGt64 {e j k : Int64} (h : e = j) (q : k < j) : k < e := by rw [h]; exact q
theorem own_eqGf64 {e j k : Int64} (h : e = j) (q : ¬ k < j) : ¬ k < e := by rw [h]; exact q
theorem d1_0 : decode prog_9_method_1_code 0 = .ok (.aload_n 0, 1) := by decide +kernel
theorem d1_1 : decode prog_9_method_1_code 1 = .ok (.invokespecial 1, 3) := by decide +kernel
theorem d1_4 : decode prog_9_method_1_code 4 = .ok (.aload_n 0, 1) := by decide +kernel
theorem d1_5 : decode prog_9_method_1_code 5 = .ok (.iload_n 1, 1) := by decide +kernel
theorem d1_6 : decode prog_9_method_1_code 6 = .ok (.putfield 7, 3) := by decide +kernel
theorem d1_9 : decode prog_9_method_1_code 9 = .ok (.aload_n 0, 1) := by decide +kernel
theorem d1_10 : decode prog_9_method_1_code 10 = .ok (.lload_n 2, 1) := by decide +kernel
theorem d1_11 : decode prog_9_method_1_code 11 = .ok (.putfield 13, 3) := by decide +kernel
theorem d1_14 : decode prog_9_method_1_code 14 = .ok (.aload_n 0, 1) := by decide +kernel
theorem d1_15 : decode prog_9_method_1_code 15 = .ok (.lload 4, 2) := by decide +kernel
theorem d1_17 : decode prog_9_method_1_code 17 = .ok (.putfield 17, 3) := by decide +kernel
theorem d1_20 : decode prog_9_method_1_code 20 = .ok (.return_, 1) := by decide +kernel
theorem pn_0 : plainName "com/example/thingvellir/thingvellir/quorum/Vote" = true := by first | (simp [plainName, overriddenIn]; done) | decide +kernel
theorem ef_rm1 (m : MethodId) (a0 : Addr) (p1 : Int32) (q2 : Int64) (q3 : Int64) : entryFrame m #[(.ref a0), (.int p1), (.long q2), (.long q3)] 6 = mkF m 0 #[.val (.ref a0), .val (.int p1), .val (.long q2), .second, .val (.long q3), .second] [] := by first | (simp [entryFrame, mkF, argsToLocals, Value.category]; done) | rfl
def Q_rm1 (Z : State) (a0 : Addr) (p1 : Int32) (q2 : Int64) (q3 : Int64) (u_leader : Int32) (u_zxid : Int64) (u_epoch : Int64) (h0 : Heap) (n0 : Nat) (v : Option Value) (h : Heap) (L : List Loc) : Prop := v = none ∧ Fr n0 L ∧ Keep h0 h [a0] ∧ Exa Z h a0 "com/example/thingvellir/thingvellir/quorum/Vote" ∧ Fld Z h a0 "com/example/thingvellir/thingvellir/quorum/Vote" "leader" "I" (.int p1) ∧ Fld Z h a0 "com/example/thingvellir/thingvellir/quorum/Vote" "zxid" "J" (.long q2) ∧ Fld Z h a0 "com/example/thingvellir/thingvellir/quorum/Vote" "epoch" "J" (.long q3)
set_option maxRecDepth 65536 in
set_option maxHeartbeats 40000000 in
theorem rm1 (l : Launch) (Z : State) (av0 : Array Value) (hw : ∀ d ∈ tables_1, d.before av0 Z = true) (ws : List Jvm.Cond) (a0 : Addr) (p1 : Int32) (q2 : Int64) (q3 : Int64) (u_leader : Int32) (u_zxid : Int64) (u_epoch : Int64) (h0 : Heap) (n0 : Nat) (Z0 : n0 ≤ h0.size) (E_a0 : Exa Z h0 a0 "com/example/thingvellir/thingvellir/quorum/Vote") (F_leader_a0 : Fld Z h0 a0 "com/example/thingvellir/thingvellir/quorum/Vote" "leader" "I" (.int u_leader)) (F_zxid_a0 : Fld Z h0 a0 "com/example/thingvellir/thingvellir/quorum/Vote" "zxid" "J" (.long u_zxid)) (F_epoch_a0 : Fld Z h0 a0 "com/example/thingvellir/thingvellir/quorum/Vote" "epoch" "J" (.long u_epoch)) (g_a0 : n0 ≤ a0) :
    MetFree l (⟨"com/example/thingvellir/thingvellir/quorum/Vote", "<init>", "(IJJ)V"⟩ : MethodName) (head1 (Jvm.Cond.code (⟨"com/example/thingvellir/thingvellir/quorum/Vote", "<init>", "(IJJ)V"⟩ : MethodName) prog_9_method_1_code 6 none :: ws) ({ frames := 1, cells := 0, slots := 0, locals := 12 } : Room)) (fun a U => a = #[(.ref a0), (.int p1), (.long q2), (.long q3)] ∧ Z.Warmed39 U.vm ∧ U.heap = h0) (fun _ _ _ _ _ => True) (fun _ U o U' => ∃ v L, o = .returned v ∧ Q_rm1 Z a0 p1 q2 q3 u_leader u_zxid u_epoch h0 n0 v U'.heap L ∧ FrameEnd U o U' L ({ frames := 1, cells := 0, slots := 0, locals := 12 } : Room).cells ({ frames := 1, cells := 0, slots := 0, locals := 12 } : Room).slots) := by
  refine MetFree.of_bodySF (plainFor_of_name pn_0) hisR ?_
  intro p e s m args below meth c s₁ Bd hml0 hP hK
  obtain ⟨rfl, hZ, hh⟩ := hP
  have hx := Bd.exec
  have hby := Bd.bytes
  have hml : c.maxLocals = 6 := hml0
  have dd : ∀ {pc : Nat} {r : Except DecodeError (Instr × Nat)}, decode prog_9_method_1_code pc = r → decode c.code pc = r := fun q => hb hby q
  have hown : s.vm.findClass "com/example/thingvellir/thingvellir/quorum/Vote" = some m.cls := findClass_of_methodNamed Bd.named
  have hnm := (name_of_methodNamed Bd.named Bd.method).1
  have X0 : Stand p l e ({ frames := 1, cells := 0, slots := 0, locals := 12 } : Room) s m #[(.ref a0), (.int p1), (.long q2), (.long q3)] below meth c s₁ [] 0 0 := Stand.of_body Bd
  have e0 : s₁.heap = h0 := by rw [← hh, Bd.state]; rfl
  have N0 := Fr.nil n0
  have hret := Bd.returns
  have hlk := Bd.notSynchronized
  show Gz p e below s ({ frames := 1, cells := 0, slots := 0, locals := 12 } : Room).cells ({ frames := 1, cells := 0, slots := 0, locals := 12 } : Room).slots (Q_rm1 Z a0 p1 q2 q3 u_leader u_zxid u_epoch h0 n0) (s₁.setTop (entryFrame m #[(.ref a0), (.int p1), (.long q2), (.long q3)] 6))
  refine Gz.enter (ef_rm1 m a0 p1 q2 q3) ?_
  refine Gz.aloadN 1 X0 hx (dd d1_0) rfl rfl rfl ?_
  obtain ⟨T1, X1, e1, st1⟩ := initO X0 hx hZ hown (ww hw 6 rfl) (ww hw 7 rfl) (ww hw 8 rfl) e0 (g := (mkF m 1 #[.val (.ref a0), .val (.int p1), .val (.long q2), .second, .val (.long q3), .second] [(.ref a0)])) rfl (by rw [hml]; rfl) rfl (dd d1_1) (by decide) (W := 0) (by show 2 * 0 + _ ≤ _; exact Nat.le_of_eq rfl) (by decide)
  refine Gz.st st1 ?_
  refine Gz.aloadN 5 X1 hx (dd d1_4) rfl rfl rfl ?_
  refine Gz.iloadN 6 X1 hx (dd d1_5) rfl rfl ?_
  refine Gz.putF 9 X1 hx hZ hown .int (dd d1_6) (host := "") (Or.inl (ww hw 9 rfl)) Via.refl e1 F_leader_a0 E_a0 (Or.inr ⟨(ww hw 10 rfl), rfl, hnm⟩) (ww hw 1 rfl) (by decide) rfl rfl rfl fun T2 h2 X2 e2 W2 => ?_
  have f2_E_a0 := Exa.wr W2 E_a0
  have f2_F_zxid_a0 := Fld.other W2 F_zxid_a0 (Or.inr (slot_ne (Or.inr (ww hw 12 rfl)) (Or.inr (ww hw 10 rfl)) (by decide) (t := .long) (t' := .int) (by decide) (by decide)))
  have f2_F_epoch_a0 := Fld.other W2 F_epoch_a0 (Or.inr (slot_ne (Or.inr (ww hw 14 rfl)) (Or.inr (ww hw 10 rfl)) (by decide) (t := .long) (t' := .int) (by decide) (by decide)))
  have f2_F_leader_a0 := Fld.same W2 F_leader_a0
  have N2 := Fr.snoc X2 N0 g_a0
  have K2 := Keep.wr (Keep.refl h0 [a0]) W2 (Or.inl (List.mem_of_getElem? (i := 0) rfl))
  refine Gz.aloadN 10 X2 hx (dd d1_9) rfl rfl rfl ?_
  refine Gz.lloadN 11 X2 hx (dd d1_10) rfl rfl ?_
  refine Gz.putF 14 X2 hx hZ hown .long (dd d1_11) (host := "") (Or.inl (ww hw 11 rfl)) Via.refl e2 f2_F_zxid_a0 f2_E_a0 (Or.inr ⟨(ww hw 12 rfl), rfl, hnm⟩) (ww hw 1 rfl) (by decide) rfl rfl rfl fun T3 h3 X3 e3 W3 => ?_
  have f3_E_a0 := Exa.wr W3 f2_E_a0
  have f3_F_leader_a0 := Fld.other W3 f2_F_leader_a0 (Or.inr (slot_ne (Or.inr (ww hw 10 rfl)) (Or.inr (ww hw 12 rfl)) (by decide) (t := .int) (t' := .long) (by decide) (by decide)))
  have f3_F_epoch_a0 := Fld.other W3 f2_F_epoch_a0 (Or.inr (slot_ne (Or.inr (ww hw 14 rfl)) (Or.inr (ww hw 12 rfl)) (by decide) (t := .long) (t' := .long) (by decide) (by decide)))
  have f3_F_zxid_a0 := Fld.same W3 f2_F_zxid_a0
  have N3 := Fr.snoc X3 N2 g_a0
  have K3 := Keep.wr K2 W3 (Or.inl (List.mem_of_getElem? (i := 0) rfl))
  refine Gz.aloadN 15 X3 hx (dd d1_14) rfl rfl rfl ?_
  refine Gz.lload 17 X3 hx (dd d1_15) rfl rfl ?_
  refine Gz.putF 20 X3 hx hZ hown .long (dd d1_17) (host := "") (Or.inl (ww hw 13 rfl)) Via.refl e3 f3_F_epoch_a0 f3_E_a0 (Or.inr ⟨(ww hw 14 rfl), rfl, hnm⟩) (ww hw 1 rfl) (by decide) rfl rfl rfl fun T4 h4 X4 e4 W4 => ?_
  have f4_E_a0 := Exa.wr W4 f3_E_a0
  have f4_F_leader_a0 := Fld.other W4 f3_F_leader_a0 (Or.inr (slot_ne (Or.inr (ww hw 10 rfl)) (Or.inr (ww hw 14 rfl)) (by decide) (t := .int) (t' := .long) (by decide) (by decide)))
  have f4_F_zxid_a0 := Fld.other W4 f3_F_zxid_a0 (Or.inr (slot_ne (Or.inr (ww hw 12 rfl)) (Or.inr (ww hw 14 rfl)) (by decide) (t := .long) (t' := .long) (by decide) (by decide)))
  have f4_F_epoch_a0 := Fld.same W4 f3_F_epoch_a0
  have N4 := Fr.snoc X4 N3 g_a0
  have K4 := Keep.wr K3 W4 (Or.inl (List.mem_of_getElem? (i := 0) rfl))
  refine Gz.fin X4 (v := none) (fun _ => rfl) hlk (by decide) (by decide) (fun fs hr => X4.returnOut hx hret (dd d1_20) hr) ?_
  rw [e4]
  exact ⟨rfl, N4, K4, f4_E_a0, f4_F_leader_a0, f4_F_zxid_a0, f4_F_epoch_a0⟩
theorem d3_0 : decode prog_9_method_5_code 0 = .ok (.aload_n 0, 1) := by decide +kernel
theorem d3_1 : decode prog_9_method_5_code 1 = .ok (.getfield 17, 3) := by decide +kernel
theorem d3_4 : decode prog_9_method_5_code 4 = .ok (.aload_n 1, 1) := by decide +kernel
theorem d3_5 : decode prog_9_method_5_code 5 = .ok (.getfield 17, 3) := by decide +kernel
theorem d3_8 : decode prog_9_method_5_code 8 = .ok (.lcmp, 1) := by decide +kernel
theorem d3_9 : decode prog_9_method_5_code 9 = .ok (.ifCond .eq 24, 3) := by decide +kernel
theorem d3_12 : decode prog_9_method_5_code 12 = .ok (.aload_n 0, 1) := by decide +kernel
theorem d3_13 : decode prog_9_method_5_code 13 = .ok (.getfield 17, 3) := by decide +kernel
theorem d3_16 : decode prog_9_method_5_code 16 = .ok (.aload_n 1, 1) := by decide +kernel
theorem d3_17 : decode prog_9_method_5_code 17 = .ok (.getfield 17, 3) := by decide +kernel
theorem d3_20 : decode prog_9_method_5_code 20 = .ok (.lcmp, 1) := by decide +kernel
theorem d3_21 : decode prog_9_method_5_code 21 = .ok (.ifCond .le 7, 3) := by decide +kernel
theorem d3_24 : decode prog_9_method_5_code 24 = .ok (.iconst 1, 1) := by decide +kernel
theorem d3_25 : decode prog_9_method_5_code 25 = .ok (.goto 4, 3) := by decide +kernel
theorem d3_28 : decode prog_9_method_5_code 28 = .ok (.iconst 0, 1) := by decide +kernel
theorem d3_29 : decode prog_9_method_5_code 29 = .ok (.istore_n 2, 1) := by decide +kernel
theorem d3_30 : decode prog_9_method_5_code 30 = .ok (.goto 53, 3) := by decide +kernel
theorem d3_33 : decode prog_9_method_5_code 33 = .ok (.aload_n 0, 1) := by decide +kernel
theorem d3_34 : decode prog_9_method_5_code 34 = .ok (.getfield 13, 3) := by decide +kernel
theorem d3_37 : decode prog_9_method_5_code 37 = .ok (.aload_n 1, 1) := by decide +kernel
theorem d3_38 : decode prog_9_method_5_code 38 = .ok (.getfield 13, 3) := by decide +kernel
theorem d3_41 : decode prog_9_method_5_code 41 = .ok (.lcmp, 1) := by decide +kernel
theorem d3_42 : decode prog_9_method_5_code 42 = .ok (.ifCond .eq 24, 3) := by decide +kernel
theorem d3_45 : decode prog_9_method_5_code 45 = .ok (.aload_n 0, 1) := by decide +kernel
theorem d3_46 : decode prog_9_method_5_code 46 = .ok (.getfield 13, 3) := by decide +kernel
theorem d3_49 : decode prog_9_method_5_code 49 = .ok (.aload_n 1, 1) := by decide +kernel
theorem d3_50 : decode prog_9_method_5_code 50 = .ok (.getfield 13, 3) := by decide +kernel
theorem d3_53 : decode prog_9_method_5_code 53 = .ok (.lcmp, 1) := by decide +kernel
theorem d3_54 : decode prog_9_method_5_code 54 = .ok (.ifCond .le 7, 3) := by decide +kernel
theorem d3_57 : decode prog_9_method_5_code 57 = .ok (.iconst 1, 1) := by decide +kernel
theorem d3_58 : decode prog_9_method_5_code 58 = .ok (.goto 4, 3) := by decide +kernel
theorem d3_61 : decode prog_9_method_5_code 61 = .ok (.iconst 0, 1) := by decide +kernel
theorem d3_62 : decode prog_9_method_5_code 62 = .ok (.istore_n 2, 1) := by decide +kernel
theorem d3_63 : decode prog_9_method_5_code 63 = .ok (.goto 20, 3) := by decide +kernel
theorem d3_66 : decode prog_9_method_5_code 66 = .ok (.aload_n 0, 1) := by decide +kernel
theorem d3_67 : decode prog_9_method_5_code 67 = .ok (.getfield 7, 3) := by decide +kernel
theorem d3_70 : decode prog_9_method_5_code 70 = .ok (.aload_n 1, 1) := by decide +kernel
theorem d3_71 : decode prog_9_method_5_code 71 = .ok (.getfield 7, 3) := by decide +kernel
theorem d3_74 : decode prog_9_method_5_code 74 = .ok (.if_icmp .le 7, 3) := by decide +kernel
theorem d3_77 : decode prog_9_method_5_code 77 = .ok (.iconst 1, 1) := by decide +kernel
theorem d3_78 : decode prog_9_method_5_code 78 = .ok (.goto 4, 3) := by decide +kernel
theorem d3_81 : decode prog_9_method_5_code 81 = .ok (.iconst 0, 1) := by decide +kernel
theorem d3_82 : decode prog_9_method_5_code 82 = .ok (.istore_n 2, 1) := by decide +kernel
theorem d3_83 : decode prog_9_method_5_code 83 = .ok (.iload_n 2, 1) := by decide +kernel
theorem d3_84 : decode prog_9_method_5_code 84 = .ok (.ireturn, 1) := by decide +kernel
theorem ef_rm3 (m : MethodId) (a0 : Addr) (a1 : Addr) : entryFrame m #[(.ref a0), (.ref a1)] 3 = mkF m 0 #[.val (.ref a0), .val (.ref a1), .unset] [] := by first | (simp [entryFrame, mkF, argsToLocals, Value.category]; done) | rfl
def f3 (a0 : Addr) (a1 : Addr) (leader_a0 : Int32) (zxid_a0 : Int64) (epoch_a0 : Int64) (leader_a1 : Int32) (zxid_a1 : Int64) (epoch_a1 : Int64) : Int32 := (if epoch_a0 = epoch_a1 then (if zxid_a0 = zxid_a1 then (if leader_a1 < leader_a0 then (1 : Int32) else (0 : Int32)) else (if zxid_a1 < zxid_a0 then (1 : Int32) else (0 : Int32))) else (if epoch_a1 < epoch_a0 then (1 : Int32) else (0 : Int32)))
def Q_rm3 (Z : State) (a0 : Addr) (a1 : Addr) (leader_a0 : Int32) (zxid_a0 : Int64) (epoch_a0 : Int64) (leader_a1 : Int32) (zxid_a1 : Int64) (epoch_a1 : Int64) (h0 : Heap) (n0 : Nat) (v : Option Value) (h : Heap) (L : List Loc) : Prop := v = some (.int (f3 a0 a1 leader_a0 zxid_a0 epoch_a0 leader_a1 zxid_a1 epoch_a1)) ∧ Fr n0 L ∧ h = h0
set_option maxRecDepth 65536 in
set_option maxHeartbeats 40000000 in
theorem rm3 (l : Launch) (Z : State) (av0 : Array Value) (hw : ∀ d ∈ tables_1, d.before av0 Z = true) (ws : List Jvm.Cond) (a0 : Addr) (a1 : Addr) (leader_a0 : Int32) (zxid_a0 : Int64) (epoch_a0 : Int64) (leader_a1 : Int32) (zxid_a1 : Int64) (epoch_a1 : Int64) (h0 : Heap) (n0 : Nat) (Z0 : n0 ≤ h0.size) (F_leader_a0 : Fld Z h0 a0 "com/example/thingvellir/thingvellir/quorum/Vote" "leader" "I" (.int leader_a0)) (F_zxid_a0 : Fld Z h0 a0 "com/example/thingvellir/thingvellir/quorum/Vote" "zxid" "J" (.long zxid_a0)) (F_epoch_a0 : Fld Z h0 a0 "com/example/thingvellir/thingvellir/quorum/Vote" "epoch" "J" (.long epoch_a0)) (F_leader_a1 : Fld Z h0 a1 "com/example/thingvellir/thingvellir/quorum/Vote" "leader" "I" (.int leader_a1)) (F_zxid_a1 : Fld Z h0 a1 "com/example/thingvellir/thingvellir/quorum/Vote" "zxid" "J" (.long zxid_a1)) (F_epoch_a1 : Fld Z h0 a1 "com/example/thingvellir/thingvellir/quorum/Vote" "epoch" "J" (.long epoch_a1)) :
    MetFree l (⟨"com/example/thingvellir/thingvellir/quorum/Vote", "beats", "(Lcom/example/thingvellir/thingvellir/quorum/Vote;)Z"⟩ : MethodName) (head1 (Jvm.Cond.code (⟨"com/example/thingvellir/thingvellir/quorum/Vote", "beats", "(Lcom/example/thingvellir/thingvellir/quorum/Vote;)Z"⟩ : MethodName) prog_9_method_5_code 3 (some .boolean) :: ws) ({ frames := 0, cells := 0, slots := 0, locals := 0 } : Room)) (fun a U => a = #[(.ref a0), (.ref a1)] ∧ Z.Warmed39 U.vm ∧ U.heap = h0) (fun _ _ _ _ _ => True) (fun _ U o U' => ∃ v L, o = .returned v ∧ Q_rm3 Z a0 a1 leader_a0 zxid_a0 epoch_a0 leader_a1 zxid_a1 epoch_a1 h0 n0 v U'.heap L ∧ FrameEnd U o U' L ({ frames := 0, cells := 0, slots := 0, locals := 0 } : Room).cells ({ frames := 0, cells := 0, slots := 0, locals := 0 } : Room).slots) := by
  refine MetFree.of_bodySF (plainFor_of_name pn_0) hisR ?_
  intro p e s m args below meth c s₁ Bd hml0 hP hK
  obtain ⟨rfl, hZ, hh⟩ := hP
  have hx := Bd.exec
  have hby := Bd.bytes
  have hml : c.maxLocals = 3 := hml0
  have dd : ∀ {pc : Nat} {r : Except DecodeError (Instr × Nat)}, decode prog_9_method_5_code pc = r → decode c.code pc = r := fun q => hb hby q
  have hown : s.vm.findClass "com/example/thingvellir/thingvellir/quorum/Vote" = some m.cls := findClass_of_methodNamed Bd.named
  have hnm := (name_of_methodNamed Bd.named Bd.method).1
  have X0 : Stand p l e ({ frames := 0, cells := 0, slots := 0, locals := 0 } : Room) s m #[(.ref a0), (.ref a1)] below meth c s₁ [] 0 0 := Stand.of_body Bd
  have e0 : s₁.heap = h0 := by rw [← hh, Bd.state]; rfl
  have N0 := Fr.nil n0
  have hret := Bd.returns
  have hlk := Bd.notSynchronized
  show Gz p e below s ({ frames := 0, cells := 0, slots := 0, locals := 0 } : Room).cells ({ frames := 0, cells := 0, slots := 0, locals := 0 } : Room).slots (Q_rm3 Z a0 a1 leader_a0 zxid_a0 epoch_a0 leader_a1 zxid_a1 epoch_a1 h0 n0) (s₁.setTop (entryFrame m #[(.ref a0), (.ref a1)] 3))
  refine Gz.enter (ef_rm3 m a0 a1) ?_
  refine Gz.aloadN 1 X0 hx (dd d3_0) rfl rfl rfl ?_
  refine Gz.getF 4 X0 hx hZ hown (dd d3_1) (host := "") (Or.inl (ww hw 13 rfl)) Via.refl e0 F_epoch_a0 rfl fun T1 X1 e1 => ?_
  refine Gz.aloadN 5 X1 hx (dd d3_4) rfl rfl rfl ?_
  refine Gz.getF 8 X1 hx hZ hown (dd d3_5) (host := "") (Or.inl (ww hw 13 rfl)) Via.refl e1 F_epoch_a1 rfl fun T2 X2 e2 => ?_
  refine Gz.lcmp 9 X2 hx (dd d3_8) rfl ?_
  by_cases hc3 : epoch_a0 = epoch_a1
  · refine Gz.ifYes 33 X2 hx (dd d3_9) ((if0 _ _).trans (teq ((lw_eq _ _).mpr hc3)).1) (by decide) (by decide) ?_
    refine Gz.aloadN 34 X2 hx (dd d3_33) rfl rfl rfl ?_
    refine Gz.getF 37 X2 hx hZ hown (dd d3_34) (host := "") (Or.inl (ww hw 11 rfl)) Via.refl e2 F_zxid_a0 rfl fun T4 X4 e4 => ?_
    refine Gz.aloadN 38 X4 hx (dd d3_37) rfl rfl rfl ?_
    refine Gz.getF 41 X4 hx hZ hown (dd d3_38) (host := "") (Or.inl (ww hw 11 rfl)) Via.refl e4 F_zxid_a1 rfl fun T5 X5 e5 => ?_
    refine Gz.lcmp 42 X5 hx (dd d3_41) rfl ?_
    by_cases hc6 : zxid_a0 = zxid_a1
    · refine Gz.ifYes 66 X5 hx (dd d3_42) ((if0 _ _).trans (teq ((lw_eq _ _).mpr hc6)).1) (by decide) (by decide) ?_
      refine Gz.aloadN 67 X5 hx (dd d3_66) rfl rfl rfl ?_
      refine Gz.getF 70 X5 hx hZ hown (dd d3_67) (host := "") (Or.inl (ww hw 9 rfl)) Via.refl e5 F_leader_a0 rfl fun T7 X7 e7 => ?_
      refine Gz.aloadN 71 X7 hx (dd d3_70) rfl rfl rfl ?_
      refine Gz.getF 74 X7 hx hZ hown (dd d3_71) (host := "") (Or.inl (ww hw 9 rfl)) Via.refl e7 F_leader_a1 rfl fun T8 X8 e8 => ?_
      by_cases hc9 : leader_a1 < leader_a0
      · refine Gz.icmpNo 77 X8 hx (dd d3_74) (tlt hc9).2.2.2 rfl ?_
        refine Gz.iconst 78 (1 : Int32) X8 hx (dd d3_77) rfl rfl ?_
        refine Gz.goto 82 X8 hx (dd d3_78) (by decide) (by decide) ?_
        refine Gz.istoreN 83 #[.val (.ref a0), .val (.ref a1), .val (.int (1 : Int32))] X8 hx (dd d3_82) rfl rfl ?_
        refine Gz.iloadN 84 X8 hx (dd d3_83) rfl rfl ?_
        refine Gz.fin X8 (v := some (.int (1 : Int32))) (fun h => by rw [hret] at h; cases h) hlk (by decide) (by decide) (fun fs hr => retN X8 hx (t := .boolean) hret (by simp) (dd d3_84) hr) ?_
        rw [e8]
        exact ⟨(by unfold f3; rw [if_pos hc3, if_pos hc6, if_pos hc9]), N0, rfl⟩
      · refine Gz.icmpYes 81 X8 hx (dd d3_74) (flt hc9).2.2.2 (by decide) (by decide) ?_
        refine Gz.iconst 82 (0 : Int32) X8 hx (dd d3_81) rfl rfl ?_
        refine Gz.istoreN 83 #[.val (.ref a0), .val (.ref a1), .val (.int (0 : Int32))] X8 hx (dd d3_82) rfl rfl ?_
        refine Gz.iloadN 84 X8 hx (dd d3_83) rfl rfl ?_
        refine Gz.fin X8 (v := some (.int (0 : Int32))) (fun h => by rw [hret] at h; cases h) hlk (by decide) (by decide) (fun fs hr => retN X8 hx (t := .boolean) hret (by simp) (dd d3_84) hr) ?_
        rw [e8]
        exact ⟨(by unfold f3; rw [if_pos hc3, if_pos hc6, if_neg hc9]), N0, rfl⟩
    · refine Gz.ifNo 45 X5 hx (dd d3_42) ((if0 _ _).trans (feq (fun q => hc6 ((lw_eq _ _).mp q))).1) rfl ?_
      refine Gz.aloadN 46 X5 hx (dd d3_45) rfl rfl rfl ?_
      refine Gz.getF 49 X5 hx hZ hown (dd d3_46) (host := "") (Or.inl (ww hw 11 rfl)) Via.refl e5 F_zxid_a0 rfl fun T10 X10 e10 => ?_
      refine Gz.aloadN 50 X10 hx (dd d3_49) rfl rfl rfl ?_
      refine Gz.getF 53 X10 hx hZ hown (dd d3_50) (host := "") (Or.inl (ww hw 11 rfl)) Via.refl e10 F_zxid_a1 rfl fun T11 X11 e11 => ?_
      refine Gz.lcmp 54 X11 hx (dd d3_53) rfl ?_
      by_cases hc12 : zxid_a1 < zxid_a0
      · refine Gz.ifNo 57 X11 hx (dd d3_54) ((if0 _ _).trans (tlt ((lw_gt _ _).mpr hc12)).2.2.2) rfl ?_
        refine Gz.iconst 58 (1 : Int32) X11 hx (dd d3_57) rfl rfl ?_
        refine Gz.goto 62 X11 hx (dd d3_58) (by decide) (by decide) ?_
        refine Gz.istoreN 63 #[.val (.ref a0), .val (.ref a1), .val (.int (1 : Int32))] X11 hx (dd d3_62) rfl rfl ?_
        refine Gz.goto 83 X11 hx (dd d3_63) (by decide) (by decide) ?_
        refine Gz.iloadN 84 X11 hx (dd d3_83) rfl rfl ?_
        refine Gz.fin X11 (v := some (.int (1 : Int32))) (fun h => by rw [hret] at h; cases h) hlk (by decide) (by decide) (fun fs hr => retN X11 hx (t := .boolean) hret (by simp) (dd d3_84) hr) ?_
        rw [e11]
        exact ⟨(by unfold f3; rw [if_pos hc3, if_neg hc6, if_pos hc12]), N0, rfl⟩
      · refine Gz.ifYes 61 X11 hx (dd d3_54) ((if0 _ _).trans (flt (fun q => hc12 ((lw_gt _ _).mp q))).2.2.2) (by decide) (by decide) ?_
        refine Gz.iconst 62 (0 : Int32) X11 hx (dd d3_61) rfl rfl ?_
        refine Gz.istoreN 63 #[.val (.ref a0), .val (.ref a1), .val (.int (0 : Int32))] X11 hx (dd d3_62) rfl rfl ?_
        refine Gz.goto 83 X11 hx (dd d3_63) (by decide) (by decide) ?_
        refine Gz.iloadN 84 X11 hx (dd d3_83) rfl rfl ?_
        refine Gz.fin X11 (v := some (.int (0 : Int32))) (fun h => by rw [hret] at h; cases h) hlk (by decide) (by decide) (fun fs hr => retN X11 hx (t := .boolean) hret (by simp) (dd d3_84) hr) ?_
        rw [e11]
        exact ⟨(by unfold f3; rw [if_pos hc3, if_neg hc6, if_neg hc12]), N0, rfl⟩
  · refine Gz.ifNo 12 X2 hx (dd d3_9) ((if0 _ _).trans (feq (fun q => hc3 ((lw_eq _ _).mp q))).1) rfl ?_
    refine Gz.aloadN 13 X2 hx (dd d3_12) rfl rfl rfl ?_
    refine Gz.getF 16 X2 hx hZ hown (dd d3_13) (host := "") (Or.inl (ww hw 13 rfl)) Via.refl e2 F_epoch_a0 rfl fun T13 X13 e13 => ?_
    refine Gz.aloadN 17 X13 hx (dd d3_16) rfl rfl rfl ?_
    refine Gz.getF 20 X13 hx hZ hown (dd d3_17) (host := "") (Or.inl (ww hw 13 rfl)) Via.refl e13 F_epoch_a1 rfl fun T14 X14 e14 => ?_
    refine Gz.lcmp 21 X14 hx (dd d3_20) rfl ?_
    by_cases hc15 : epoch_a1 < epoch_a0
    · refine Gz.ifNo 24 X14 hx (dd d3_21) ((if0 _ _).trans (tlt ((lw_gt _ _).mpr hc15)).2.2.2) rfl ?_
      refine Gz.iconst 25 (1 : Int32) X14 hx (dd d3_24) rfl rfl ?_
      refine Gz.goto 29 X14 hx (dd d3_25) (by decide) (by decide) ?_
      refine Gz.istoreN 30 #[.val (.ref a0), .val (.ref a1), .val (.int (1 : Int32))] X14 hx (dd d3_29) rfl rfl ?_
      refine Gz.goto 83 X14 hx (dd d3_30) (by decide) (by decide) ?_
      refine Gz.iloadN 84 X14 hx (dd d3_83) rfl rfl ?_
      refine Gz.fin X14 (v := some (.int (1 : Int32))) (fun h => by rw [hret] at h; cases h) hlk (by decide) (by decide) (fun fs hr => retN X14 hx (t := .boolean) hret (by simp) (dd d3_84) hr) ?_
      rw [e14]
      exact ⟨(by unfold f3; rw [if_neg hc3, if_pos hc15]), N0, rfl⟩
    · refine Gz.ifYes 28 X14 hx (dd d3_21) ((if0 _ _).trans (flt (fun q => hc15 ((lw_gt _ _).mp q))).2.2.2) (by decide) (by decide) ?_
      refine Gz.iconst 29 (0 : Int32) X14 hx (dd d3_28) rfl rfl ?_
      refine Gz.istoreN 30 #[.val (.ref a0), .val (.ref a1), .val (.int (0 : Int32))] X14 hx (dd d3_29) rfl rfl ?_
      refine Gz.goto 83 X14 hx (dd d3_30) (by decide) (by decide) ?_
      refine Gz.iloadN 84 X14 hx (dd d3_83) rfl rfl ?_
      refine Gz.fin X14 (v := some (.int (0 : Int32))) (fun h => by rw [hret] at h; cases h) hlk (by decide) (by decide) (fun fs hr => retN X14 hx (t := .boolean) hret (by simp) (dd d3_84) hr) ?_
      rw [e14]
      exact ⟨(by unfold f3; rw [if_neg hc3, if_neg hc15]), N0, rfl⟩
theorem pd_0 : parseMethodDescriptor "(IJJ)V" = some ⟨[.int, .long, .long], none⟩ := by decide +kernel
theorem pd_1 : parseMethodDescriptor "(Lcom/example/thingvellir/thingvellir/quorum/Vote;)Z" = some ⟨[(.object "com/example/thingvellir/thingvellir/quorum/Vote")], some .boolean⟩ := by decide +kernel
theorem pn_1 : plainName "com/example/thingvellir/thingvellir/quorum/VoteBeatsPinLaw" = true := by first | (simp [plainName, overriddenIn]; done) | decide +kernel
theorem ef_rm0 (m : MethodId) (p0 : Int32) (p1 : Int32) (q2 : Int64) (q3 : Int64) (q4 : Int64) (q5 : Int64) : entryFrame m #[(.int p0), (.int p1), (.long q2), (.long q3), (.long q4), (.long q5)] maxLocals = mkF m 0 #[.val (.int p0), .val (.int p1), .val (.long q2), .second, .val (.long q3), .second, .val (.long q4), .second, .val (.long q5), .second, .unset, .unset, .unset, .unset, .unset, .unset, .unset, .unset] [] := by first | (simp [entryFrame, mkF, argsToLocals, Value.category, maxLocals]; done) | rfl
def Q_law (n0 : Nat) (v : Option Value) (h : Heap) (L : List Loc) : Prop := v = some (.int 1) ∧ Fr n0 L
set_option maxRecDepth 65536 in
set_option maxHeartbeats 40000000 in
theorem rm0 (l : Launch) (Z : State) (av0 : Array Value) (hw : ∀ d ∈ tables_1, d.before av0 Z = true) (ws : List Jvm.Cond) (p0 : Int32) (p1 : Int32) (q2 : Int64) (q3 : Int64) (q4 : Int64) (q5 : Int64) (h0 : Heap) (n0 : Nat) (Z0 : n0 ≤ h0.size)  :
    MetFree l x (head1 (Jvm.Cond.code x code maxLocals ret :: ws) room_1) (fun a U => a = #[(.int p0), (.int p1), (.long q2), (.long q3), (.long q4), (.long q5)] ∧ Z.Warmed39 U.vm ∧ U.heap = h0) (fun _ _ _ _ _ => True) (fun _ U o U' => ∃ v L, o = .returned v ∧ Q_law n0 v U'.heap L ∧ FrameEnd U o U' L 16 128) := by
  refine MetFree.of_bodySF (plainFor_of_name pn_1) hisR ?_
  intro p e s m args below meth c s₁ Bd hml0 hP hK
  obtain ⟨rfl, hZ, hh⟩ := hP
  have hx := Bd.exec
  have hby := Bd.bytes
  have hml : c.maxLocals = 18 := hml0
  have dd : ∀ {pc : Nat} {r : Except DecodeError (Instr × Nat)}, decode code pc = r → decode c.code pc = r := fun q => hb hby q
  have hown : s.vm.findClass "com/example/thingvellir/thingvellir/quorum/VoteBeatsPinLaw" = some m.cls := findClass_of_methodNamed Bd.named
  have hnm := (name_of_methodNamed Bd.named Bd.method).1
  have X0 : Stand p l e room_1 s m #[(.int p0), (.int p1), (.long q2), (.long q3), (.long q4), (.long q5)] below meth c s₁ [] 0 0 := Stand.of_body Bd
  have e0 : s₁.heap = h0 := by rw [← hh, Bd.state]; rfl
  have N0 := Fr.nil n0
  have hret := Bd.returns
  have hlk := Bd.notSynchronized
  show Gz p e below s 16 128 (Q_law n0) (s₁.setTop (entryFrame m #[(.int p0), (.int p1), (.long q2), (.long q3), (.long q4), (.long q5)] maxLocals))
  refine Gz.enter (ef_rm0 m p0 p1 q2 q3 q4 q5) ?_
  refine Gz.lloadN 1 X0 hx (dd at_0) rfl rfl ?_
  refine Gz.lload 3 X0 hx (dd at_1) rfl rfl ?_
  refine Gz.ladd 4 X0 hx (dd at_3) rfl ?_
  refine Gz.lstore 6 #[.val (.int p0), .val (.int p1), .val (.long q2), .second, .val (.long q3), .second, .val (.long q4), .second, .val (.long q5), .second, .val (.long (q2 + q3)), .second, .unset, .unset, .unset, .unset, .unset, .unset] X0 hx (dd at_4) rfl rfl ?_
  refine Gz.lload 8 X0 hx (dd at_6) rfl rfl ?_
  refine Gz.lload 10 X0 hx (dd at_8) rfl rfl ?_
  refine Gz.ladd 11 X0 hx (dd at_10) rfl ?_
  refine Gz.lstore 13 #[.val (.int p0), .val (.int p1), .val (.long q2), .second, .val (.long q3), .second, .val (.long q4), .second, .val (.long q5), .second, .val (.long (q2 + q3)), .second, .val (.long (q4 + q5)), .second, .unset, .unset, .unset, .unset] X0 hx (dd at_11) rfl rfl ?_
  obtain ⟨T1, h1, X1, e1, E1, A1, D1, -, st1⟩ := newO X0 hx hZ hown (ww hw 0 rfl) (ww hw 1 rfl) (ww hw 2 rfl) e0 (g := (mkF m 13 #[.val (.int p0), .val (.int p1), .val (.long q2), .second, .val (.long q3), .second, .val (.long q4), .second, .val (.long q5), .second, .val (.long (q2 + q3)), .second, .val (.long (q4 + q5)), .second, .unset, .unset, .unset, .unset] [])) rfl (dd at_13) (by decide) (by decide)
  obtain ⟨b1, g1⟩ : ∃ z, z = h0.size := ⟨_, rfl⟩
  rw [← g1] at A1 D1 st1
  have g_b1 : n0 ≤ b1 := Nat.le_trans Z0 (Nat.le_of_eq g1.symm)
  have SZ1 : n0 ≤ h1.size := Nat.le_trans Z0 E1.1
  have F_leader_b1 : Fld Z h1 b1 "com/example/thingvellir/thingvellir/quorum/Vote" "leader" "I" (.int (0 : Int32)) := D1 (Or.inr (ww hw 10 rfl)) (ty := .int) (by decide)
  have F_zxid_b1 : Fld Z h1 b1 "com/example/thingvellir/thingvellir/quorum/Vote" "zxid" "J" (.long (0 : Int64)) := D1 (Or.inr (ww hw 12 rfl)) (ty := .long) (by decide)
  have F_epoch_b1 : Fld Z h1 b1 "com/example/thingvellir/thingvellir/quorum/Vote" "epoch" "J" (.long (0 : Int64)) := D1 (Or.inr (ww hw 14 rfl)) (ty := .long) (by decide)
  refine Gz.st st1 ?_
  refine Gz.dup 17 X1 hx (dd at_16) rfl rfl ?_
  refine Gz.iloadN 18 X1 hx (dd at_17) rfl rfl ?_
  refine Gz.lloadN 19 X1 hx (dd at_18) rfl rfl ?_
  refine Gz.lload 21 X1 hx (dd at_19) rfl rfl ?_
  obtain ⟨_, _, ⟨T2, L2, k2, n2⟩, -, X2, ⟨Lc2, hQ2, l2, y2, z2⟩, st2⟩ := X1.specialBack hx (y := (⟨"com/example/thingvellir/thingvellir/quorum/Vote", "<init>", "(IJJ)V"⟩ : MethodName)) rfl hown (mvT hZ (ww hw 3 rfl)) (mvT hZ (ww hw 4 rfl)) (mvT hZ (ww hw 5 rfl)) (by decide) (backOf (W := 1) (rm1 l Z av0 hw [] b1 p0 q2 q4 (0 : Int32) (0 : Int64) (0 : Int64) h1 n0 SZ1 A1 F_leader_b1 F_zxid_b1 F_epoch_b1 g_b1) hZ (ww hw 5 rfl) (ww hw 2 rfl) (by decide) (by decide)) (g := (mkF m 21 #[.val (.int p0), .val (.int p1), .val (.long q2), .second, .val (.long q3), .second, .val (.long q4), .second, .val (.long q5), .second, .val (.long (q2 + q3)), .second, .val (.long (q4 + q5)), .second, .unset, .unset, .unset, .unset] [(.long q4), (.long q2), (.int p0), (.ref b1), (.ref b1)])) rfl (by rw [hml]; rfl) (Steps.refl _) (a := b1) (argsL := [(.int p0), (.long q2), (.long q4)]) (rest := [(.ref b1)]) (lenOf pd_0 rfl) rfl (by show 2 * 0 + _ ≤ _; exact Nat.le_of_eq rfl) (dd at_21) (fun _ _ => ⟨rfl, e1, (by decide : 1 + 0 ≤ _), (by decide : 3 + 0 ≤ _)⟩)
  dsimp only [Pt.U, Pt.locs, Pt.cells, Pt.slots, Q_rm1] at X2 l2 y2 z2 st2 hQ2
  subst l2 y2 z2
  obtain ⟨rfl, N2q, K2q, QE2_0, QF2_0, QF2_1, QF2_2⟩ := hQ2
  have N2 := Fr.app N0 N2q
  have f2_Eb1 := Exa.keep A1 K2q
  have SZ2 := Nat.le_trans SZ1 K2q.1
  refine Gz.tr st2 ?_
  refine Gz.astore 26 #[.val (.int p0), .val (.int p1), .val (.long q2), .second, .val (.long q3), .second, .val (.long q4), .second, .val (.long q5), .second, .val (.long (q2 + q3)), .second, .val (.long (q4 + q5)), .second, .val (.ref b1), .unset, .unset, .unset] X2 hx (dd at_24) rfl rfl rfl ?_
  obtain ⟨T3, h3, X3, e3, E3, A3, D3, -, st3⟩ := newO X2 hx hZ hown (ww hw 0 rfl) (ww hw 1 rfl) (ww hw 2 rfl) rfl (g := (mkF m 26 #[.val (.int p0), .val (.int p1), .val (.long q2), .second, .val (.long q3), .second, .val (.long q4), .second, .val (.long q5), .second, .val (.long (q2 + q3)), .second, .val (.long (q4 + q5)), .second, .val (.ref b1), .unset, .unset, .unset] [])) rfl (dd at_26) (by decide) (by decide)
  obtain ⟨b3, g3⟩ : ∃ z, z = T2.heap.size := ⟨_, rfl⟩
  rw [← g3] at A3 D3 st3
  have ne_b1_b3 : b1 ≠ b3 := Nat.ne_of_lt (Nat.lt_of_lt_of_le (QE2_0).lt (Nat.le_of_eq g3.symm))
  have g_b3 : n0 ≤ b3 := Nat.le_trans SZ2 (Nat.le_of_eq g3.symm)
  have SZ3 : n0 ≤ h3.size := Nat.le_trans SZ2 E3.1
  have f3_E_b1 := Exa.ext E3 QE2_0
  have f3_F_leader_b1 := Fld.ext E3 QF2_0
  have f3_F_zxid_b1 := Fld.ext E3 QF2_1
  have f3_F_epoch_b1 := Fld.ext E3 QF2_2
  have F_leader_b3 : Fld Z h3 b3 "com/example/thingvellir/thingvellir/quorum/Vote" "leader" "I" (.int (0 : Int32)) := D3 (Or.inr (ww hw 10 rfl)) (ty := .int) (by decide)
  have F_zxid_b3 : Fld Z h3 b3 "com/example/thingvellir/thingvellir/quorum/Vote" "zxid" "J" (.long (0 : Int64)) := D3 (Or.inr (ww hw 12 rfl)) (ty := .long) (by decide)
  have F_epoch_b3 : Fld Z h3 b3 "com/example/thingvellir/thingvellir/quorum/Vote" "epoch" "J" (.long (0 : Int64)) := D3 (Or.inr (ww hw 14 rfl)) (ty := .long) (by decide)
  refine Gz.st st3 ?_
  refine Gz.dup 30 X3 hx (dd at_29) rfl rfl ?_
  refine Gz.iloadN 31 X3 hx (dd at_30) rfl rfl ?_
  refine Gz.lload 33 X3 hx (dd at_31) rfl rfl ?_
  refine Gz.lload 35 X3 hx (dd at_33) rfl rfl ?_
  obtain ⟨_, _, ⟨T4, L4, k4, n4⟩, -, X4, ⟨Lc4, hQ4, l4, y4, z4⟩, st4⟩ := X3.specialBack hx (y := (⟨"com/example/thingvellir/thingvellir/quorum/Vote", "<init>", "(IJJ)V"⟩ : MethodName)) rfl hown (mvT hZ (ww hw 3 rfl)) (mvT hZ (ww hw 4 rfl)) (mvT hZ (ww hw 5 rfl)) (by decide) (backOf (W := 1) (rm1 l Z av0 hw [] b3 p1 (q2 + q3) (q4 + q5) (0 : Int32) (0 : Int64) (0 : Int64) h3 n0 SZ3 A3 F_leader_b3 F_zxid_b3 F_epoch_b3 g_b3) hZ (ww hw 5 rfl) (ww hw 2 rfl) (by decide) (by decide)) (g := (mkF m 35 #[.val (.int p0), .val (.int p1), .val (.long q2), .second, .val (.long q3), .second, .val (.long q4), .second, .val (.long q5), .second, .val (.long (q2 + q3)), .second, .val (.long (q4 + q5)), .second, .val (.ref b1), .unset, .unset, .unset] [(.long (q4 + q5)), (.long (q2 + q3)), (.int p1), (.ref b3), (.ref b3)])) rfl (by rw [hml]; rfl) (Steps.refl _) (a := b3) (argsL := [(.int p1), (.long (q2 + q3)), (.long (q4 + q5))]) (rest := [(.ref b3)]) (lenOf pd_0 rfl) rfl (by show 2 * 0 + _ ≤ _; exact Nat.le_of_eq rfl) (dd at_35) (fun _ _ => ⟨rfl, e3, (by decide : 2 + 0 ≤ _), (by decide : 6 + 0 ≤ _)⟩)
  dsimp only [Pt.U, Pt.locs, Pt.cells, Pt.slots, Q_rm1] at X4 l4 y4 z4 st4 hQ4
  subst l4 y4 z4
  obtain ⟨rfl, N4q, K4q, QE4_0, QF4_0, QF4_1, QF4_2⟩ := hQ4
  have N4 := Fr.app N2 N4q
  have f4_E_b1 := Exa.keep f3_E_b1 K4q
  have f4_F_leader_b1 := Fld.keep f3_F_leader_b1 K4q (ninS ne_b1_b3 nin0)
  have f4_F_zxid_b1 := Fld.keep f3_F_zxid_b1 K4q (ninS ne_b1_b3 nin0)
  have f4_F_epoch_b1 := Fld.keep f3_F_epoch_b1 K4q (ninS ne_b1_b3 nin0)
  have f4_Eb3 := Exa.keep A3 K4q
  have SZ4 := Nat.le_trans SZ3 K4q.1
  refine Gz.tr st4 ?_
  refine Gz.astore 40 #[.val (.int p0), .val (.int p1), .val (.long q2), .second, .val (.long q3), .second, .val (.long q4), .second, .val (.long q5), .second, .val (.long (q2 + q3)), .second, .val (.long (q4 + q5)), .second, .val (.ref b1), .val (.ref b3), .unset, .unset] X4 hx (dd at_38) rfl rfl rfl ?_
  refine Gz.lload 42 X4 hx (dd at_40) rfl rfl ?_
  refine Gz.lload 44 X4 hx (dd at_42) rfl rfl ?_
  refine Gz.lcmp 45 X4 hx (dd at_44) rfl ?_
  by_cases hc5 : (q4 + q5) < q4
  · refine Gz.ifYes 75 X4 hx (dd at_45) ((if0 _ _).trans (tlt ((lw_gt _ _).mpr hc5)).2.2.1) (by decide) (by decide) ?_
    refine Gz.iconst 76 (1 : Int32) X4 hx (dd at_75) rfl rfl ?_
    refine Gz.goto 80 X4 hx (dd at_76) (by decide) (by decide) ?_
    refine Gz.istore 82 #[.val (.int p0), .val (.int p1), .val (.long q2), .second, .val (.long q3), .second, .val (.long q4), .second, .val (.long q5), .second, .val (.long (q2 + q3)), .second, .val (.long (q4 + q5)), .second, .val (.ref b1), .val (.ref b3), .val (.int (1 : Int32)), .unset] X4 hx (dd at_80) rfl rfl ?_
    refine Gz.lload 84 X4 hx (dd at_82) rfl rfl ?_
    refine Gz.lload 86 X4 hx (dd at_84) rfl rfl ?_
    refine Gz.lcmp 87 X4 hx (dd at_86) rfl ?_
    refine Gz.ifNo 90 X4 hx (dd at_87) ((if0 _ _).trans (flt (fun q => ((by first | exact own_asym32 hc5 | exact own_asym64 hc5) : ¬ (q4 < (q4 + q5))) ((lw_gt _ _).mp q))).2.2.1) rfl ?_
    refine Gz.lload 92 X4 hx (dd at_90) rfl rfl ?_
    refine Gz.lload 94 X4 hx (dd at_92) rfl rfl ?_
    refine Gz.lcmp 95 X4 hx (dd at_94) rfl ?_
    refine Gz.ifYes 121 X4 hx (dd at_95) ((if0 _ _).trans (feq (fun q => ((by first | exact own_ngt32 hc5 | exact own_ngt64 hc5) : ¬ (q4 = (q4 + q5))) ((lw_eq _ _).mp q))).2) (by decide) (by decide) ?_
    refine Gz.iconst 122 (0 : Int32) X4 hx (dd at_121) rfl rfl ?_
    refine Gz.istore 124 #[.val (.int p0), .val (.int p1), .val (.long q2), .second, .val (.long q3), .second, .val (.long q4), .second, .val (.long q5), .second, .val (.long (q2 + q3)), .second, .val (.long (q4 + q5)), .second, .val (.ref b1), .val (.ref b3), .val (.int (1 : Int32)), .val (.int (0 : Int32))] X4 hx (dd at_122) rfl rfl ?_
    refine Gz.aload 126 X4 hx (dd at_124) rfl rfl rfl ?_
    refine Gz.aload 128 X4 hx (dd at_126) rfl rfl rfl ?_
    obtain ⟨cq6, kq6, q6a, q6b, q6c⟩ := isOf hZ rfl f4_E_b1
    obtain ⟨_, _, ⟨T6, L6, k6, n6⟩, -, X6, ⟨Lc6, hQ6, l6, y6, z6⟩, st6⟩ := X4.virtualBack hx (y := (⟨"com/example/thingvellir/thingvellir/quorum/Vote", "beats", "(Lcom/example/thingvellir/thingvellir/quorum/Vote;)Z"⟩ : MethodName)) (z := (⟨"com/example/thingvellir/thingvellir/quorum/Vote", "beats", "(Lcom/example/thingvellir/thingvellir/quorum/Vote;)Z"⟩ : MethodName)) hown (mvT hZ (ww hw 15 rfl)) (mvT hZ (ww hw 16 rfl)) (notFace_of_selects (args := #[]) (mvT hZ (ww hw 18 rfl))) (mvT hZ (ww hw 18 rfl)) (mvT hZ (ww hw 17 rfl)) (by decide) (backOf (W := 0) (rm3 l Z av0 hw [] b1 b3 p0 q2 q4 p1 (q2 + q3) (q4 + q5) T4.heap n0 SZ4 f4_F_leader_b1 f4_F_zxid_b1 f4_F_epoch_b1 QF4_0 QF4_1 QF4_2) hZ (ww hw 19 rfl) (ww hw 2 rfl) (by decide) (by decide)) q6a q6c (g := (mkF m 128 #[.val (.int p0), .val (.int p1), .val (.long q2), .second, .val (.long q3), .second, .val (.long q4), .second, .val (.long q5), .second, .val (.long (q2 + q3)), .second, .val (.long (q4 + q5)), .second, .val (.ref b1), .val (.ref b3), .val (.int (1 : Int32)), .val (.int (0 : Int32))] [(.ref b3), (.ref b1)])) rfl (by rw [hml]; rfl) (Steps.refl _) (argsL := [(.ref b3)]) (rest := []) (lenOf pd_1 rfl) rfl (by show 2 * 0 + _ ≤ _; exact Nat.le_of_eq rfl) (dd at_128) (fun _ _ => ⟨rfl, rfl, (by decide : 2 + 0 ≤ _), (by decide : 6 + 0 ≤ _)⟩)
    dsimp only [Pt.U, Pt.locs, Pt.cells, Pt.slots, Q_rm3] at X6 l6 y6 z6 st6 hQ6
    subst l6 y6 z6
    rw [show (f3 b1 b3 p0 q2 q4 p1 (q2 + q3) (q4 + q5)) = (1 : Int32) from (by unfold f3; rw [if_neg ((by first | exact own_ngt32 hc5 | exact own_ngt64 hc5) : ¬ (q4 = (q4 + q5))), if_pos hc5]; try decide)] at hQ6
    obtain ⟨rfl, N6q, e6⟩ := hQ6
    have N6 := Fr.app N4 N6q
    refine Gz.tr st6 ?_
    refine Gz.iload 133 X6 hx (dd at_131) rfl rfl ?_
    refine Gz.icmpNo 136 X6 hx (dd at_133) (teq (by decide : (1 : Int32) = (1 : Int32))).2 rfl ?_
    refine Gz.aload 138 X6 hx (dd at_136) rfl rfl rfl ?_
    refine Gz.aload 140 X6 hx (dd at_138) rfl rfl rfl ?_
    obtain ⟨cq7, kq7, q7a, q7b, q7c⟩ := isOf hZ e6 QE4_0
    obtain ⟨_, _, ⟨T7, L7, k7, n7⟩, -, X7, ⟨Lc7, hQ7, l7, y7, z7⟩, st7⟩ := X6.virtualBack hx (y := (⟨"com/example/thingvellir/thingvellir/quorum/Vote", "beats", "(Lcom/example/thingvellir/thingvellir/quorum/Vote;)Z"⟩ : MethodName)) (z := (⟨"com/example/thingvellir/thingvellir/quorum/Vote", "beats", "(Lcom/example/thingvellir/thingvellir/quorum/Vote;)Z"⟩ : MethodName)) hown (mvT hZ (ww hw 15 rfl)) (mvT hZ (ww hw 16 rfl)) (notFace_of_selects (args := #[]) (mvT hZ (ww hw 18 rfl))) (mvT hZ (ww hw 18 rfl)) (mvT hZ (ww hw 17 rfl)) (by decide) (backOf (W := 0) (rm3 l Z av0 hw [] b3 b1 p1 (q2 + q3) (q4 + q5) p0 q2 q4 T4.heap n0 SZ4 QF4_0 QF4_1 QF4_2 f4_F_leader_b1 f4_F_zxid_b1 f4_F_epoch_b1) hZ (ww hw 19 rfl) (ww hw 2 rfl) (by decide) (by decide)) q7a q7c (g := (mkF m 140 #[.val (.int p0), .val (.int p1), .val (.long q2), .second, .val (.long q3), .second, .val (.long q4), .second, .val (.long q5), .second, .val (.long (q2 + q3)), .second, .val (.long (q4 + q5)), .second, .val (.ref b1), .val (.ref b3), .val (.int (1 : Int32)), .val (.int (0 : Int32))] [(.ref b1), (.ref b3)])) rfl (by rw [hml]; rfl) (Steps.refl _) (argsL := [(.ref b1)]) (rest := []) (lenOf pd_1 rfl) rfl (by show 2 * 0 + _ ≤ _; exact Nat.le_of_eq rfl) (dd at_140) (fun _ _ => ⟨rfl, e6, (by decide : 2 + 0 ≤ _), (by decide : 6 + 0 ≤ _)⟩)
    dsimp only [Pt.U, Pt.locs, Pt.cells, Pt.slots, Q_rm3] at X7 l7 y7 z7 st7 hQ7
    subst l7 y7 z7
    rw [show (f3 b3 b1 p1 (q2 + q3) (q4 + q5) p0 q2 q4) = (0 : Int32) from (by unfold f3; rw [if_neg ((by first | exact own_nlt32 hc5 | exact own_nlt64 hc5) : ¬ ((q4 + q5) = q4)), if_neg ((by first | exact own_asym32 hc5 | exact own_asym64 hc5) : ¬ (q4 < (q4 + q5)))]; try decide)] at hQ7
    obtain ⟨rfl, N7q, e7⟩ := hQ7
    have N7 := Fr.app N6 N7q
    refine Gz.tr st7 ?_
    refine Gz.iload 145 X7 hx (dd at_143) rfl rfl ?_
    refine Gz.icmpNo 148 X7 hx (dd at_145) (teq (by decide : (0 : Int32) = (0 : Int32))).2 rfl ?_
    refine Gz.iconst 149 (1 : Int32) X7 hx (dd at_148) rfl rfl ?_
    refine Gz.goto 153 X7 hx (dd at_149) (by decide) (by decide) ?_
    refine Gz.fin X7 (v := some (.int (1 : Int32))) (fun h => by rw [hret] at h; cases h) hlk (by decide) (by decide) (fun fs hr => retN X7 hx (t := .boolean) hret (by simp) (dd at_153) hr) ?_
    exact ⟨rfl, N7⟩
  · refine Gz.ifNo 48 X4 hx (dd at_45) ((if0 _ _).trans (flt (fun q => hc5 ((lw_gt _ _).mp q))).2.2.1) rfl ?_
    refine Gz.lload 50 X4 hx (dd at_48) rfl rfl ?_
    refine Gz.lload 52 X4 hx (dd at_50) rfl rfl ?_
    refine Gz.lcmp 53 X4 hx (dd at_52) rfl ?_
    by_cases hc8 : q4 = (q4 + q5)
    · refine Gz.ifNo 56 X4 hx (dd at_53) ((if0 _ _).trans (teq ((lw_eq _ _).mpr hc8)).2) rfl ?_
      refine Gz.lloadN 57 X4 hx (dd at_56) rfl rfl ?_
      refine Gz.lload 59 X4 hx (dd at_57) rfl rfl ?_
      refine Gz.lcmp 60 X4 hx (dd at_59) rfl ?_
      by_cases hc9 : (q2 + q3) < q2
      · refine Gz.ifYes 75 X4 hx (dd at_60) ((if0 _ _).trans (tlt ((lw_gt _ _).mpr hc9)).2.2.1) (by decide) (by decide) ?_
        refine Gz.iconst 76 (1 : Int32) X4 hx (dd at_75) rfl rfl ?_
        refine Gz.goto 80 X4 hx (dd at_76) (by decide) (by decide) ?_
        refine Gz.istore 82 #[.val (.int p0), .val (.int p1), .val (.long q2), .second, .val (.long q3), .second, .val (.long q4), .second, .val (.long q5), .second, .val (.long (q2 + q3)), .second, .val (.long (q4 + q5)), .second, .val (.ref b1), .val (.ref b3), .val (.int (1 : Int32)), .unset] X4 hx (dd at_80) rfl rfl ?_
        refine Gz.lload 84 X4 hx (dd at_82) rfl rfl ?_
        refine Gz.lload 86 X4 hx (dd at_84) rfl rfl ?_
        refine Gz.lcmp 87 X4 hx (dd at_86) rfl ?_
        refine Gz.ifNo 90 X4 hx (dd at_87) ((if0 _ _).trans (flt (fun q => ((by first | exact own_irr32 hc8 | exact own_irr64 hc8) : ¬ (q4 < (q4 + q5))) ((lw_gt _ _).mp q))).2.2.1) rfl ?_
        refine Gz.lload 92 X4 hx (dd at_90) rfl rfl ?_
        refine Gz.lload 94 X4 hx (dd at_92) rfl rfl ?_
        refine Gz.lcmp 95 X4 hx (dd at_94) rfl ?_
        refine Gz.ifNo 98 X4 hx (dd at_95) ((if0 _ _).trans (teq ((lw_eq _ _).mpr hc8)).2) rfl ?_
        refine Gz.lload 100 X4 hx (dd at_98) rfl rfl ?_
        refine Gz.lloadN 101 X4 hx (dd at_100) rfl rfl ?_
        refine Gz.lcmp 102 X4 hx (dd at_101) rfl ?_
        refine Gz.ifNo 105 X4 hx (dd at_102) ((if0 _ _).trans (flt (fun q => ((by first | exact own_asym32 hc9 | exact own_asym64 hc9) : ¬ (q2 < (q2 + q3))) ((lw_gt _ _).mp q))).2.2.1) rfl ?_
        refine Gz.lloadN 106 X4 hx (dd at_105) rfl rfl ?_
        refine Gz.lload 108 X4 hx (dd at_106) rfl rfl ?_
        refine Gz.lcmp 109 X4 hx (dd at_108) rfl ?_
        refine Gz.ifYes 121 X4 hx (dd at_109) ((if0 _ _).trans (feq (fun q => ((by first | exact own_ngt32 hc9 | exact own_ngt64 hc9) : ¬ (q2 = (q2 + q3))) ((lw_eq _ _).mp q))).2) (by decide) (by decide) ?_
        refine Gz.iconst 122 (0 : Int32) X4 hx (dd at_121) rfl rfl ?_
        refine Gz.istore 124 #[.val (.int p0), .val (.int p1), .val (.long q2), .second, .val (.long q3), .second, .val (.long q4), .second, .val (.long q5), .second, .val (.long (q2 + q3)), .second, .val (.long (q4 + q5)), .second, .val (.ref b1), .val (.ref b3), .val (.int (1 : Int32)), .val (.int (0 : Int32))] X4 hx (dd at_122) rfl rfl ?_
        refine Gz.aload 126 X4 hx (dd at_124) rfl rfl rfl ?_
        refine Gz.aload 128 X4 hx (dd at_126) rfl rfl rfl ?_
        obtain ⟨cq10, kq10, q10a, q10b, q10c⟩ := isOf hZ rfl f4_E_b1
        obtain ⟨_, _, ⟨T10, L10, k10, n10⟩, -, X10, ⟨Lc10, hQ10, l10, y10, z10⟩, st10⟩ := X4.virtualBack hx (y := (⟨"com/example/thingvellir/thingvellir/quorum/Vote", "beats", "(Lcom/example/thingvellir/thingvellir/quorum/Vote;)Z"⟩ : MethodName)) (z := (⟨"com/example/thingvellir/thingvellir/quorum/Vote", "beats", "(Lcom/example/thingvellir/thingvellir/quorum/Vote;)Z"⟩ : MethodName)) hown (mvT hZ (ww hw 15 rfl)) (mvT hZ (ww hw 16 rfl)) (notFace_of_selects (args := #[]) (mvT hZ (ww hw 18 rfl))) (mvT hZ (ww hw 18 rfl)) (mvT hZ (ww hw 17 rfl)) (by decide) (backOf (W := 0) (rm3 l Z av0 hw [] b1 b3 p0 q2 q4 p1 (q2 + q3) (q4 + q5) T4.heap n0 SZ4 f4_F_leader_b1 f4_F_zxid_b1 f4_F_epoch_b1 QF4_0 QF4_1 QF4_2) hZ (ww hw 19 rfl) (ww hw 2 rfl) (by decide) (by decide)) q10a q10c (g := (mkF m 128 #[.val (.int p0), .val (.int p1), .val (.long q2), .second, .val (.long q3), .second, .val (.long q4), .second, .val (.long q5), .second, .val (.long (q2 + q3)), .second, .val (.long (q4 + q5)), .second, .val (.ref b1), .val (.ref b3), .val (.int (1 : Int32)), .val (.int (0 : Int32))] [(.ref b3), (.ref b1)])) rfl (by rw [hml]; rfl) (Steps.refl _) (argsL := [(.ref b3)]) (rest := []) (lenOf pd_1 rfl) rfl (by show 2 * 0 + _ ≤ _; exact Nat.le_of_eq rfl) (dd at_128) (fun _ _ => ⟨rfl, rfl, (by decide : 2 + 0 ≤ _), (by decide : 6 + 0 ≤ _)⟩)
        dsimp only [Pt.U, Pt.locs, Pt.cells, Pt.slots, Q_rm3] at X10 l10 y10 z10 st10 hQ10
        subst l10 y10 z10
        rw [show (f3 b1 b3 p0 q2 q4 p1 (q2 + q3) (q4 + q5)) = (1 : Int32) from (by unfold f3; rw [if_pos hc8, if_neg ((by first | exact own_ngt32 hc9 | exact own_ngt64 hc9) : ¬ (q2 = (q2 + q3))), if_pos hc9]; try decide)] at hQ10
        obtain ⟨rfl, N10q, e10⟩ := hQ10
        have N10 := Fr.app N4 N10q
        refine Gz.tr st10 ?_
        refine Gz.iload 133 X10 hx (dd at_131) rfl rfl ?_
        refine Gz.icmpNo 136 X10 hx (dd at_133) (teq (by decide : (1 : Int32) = (1 : Int32))).2 rfl ?_
        refine Gz.aload 138 X10 hx (dd at_136) rfl rfl rfl ?_
        refine Gz.aload 140 X10 hx (dd at_138) rfl rfl rfl ?_
        obtain ⟨cq11, kq11, q11a, q11b, q11c⟩ := isOf hZ e10 QE4_0
        obtain ⟨_, _, ⟨T11, L11, k11, n11⟩, -, X11, ⟨Lc11, hQ11, l11, y11, z11⟩, st11⟩ := X10.virtualBack hx (y := (⟨"com/example/thingvellir/thingvellir/quorum/Vote", "beats", "(Lcom/example/thingvellir/thingvellir/quorum/Vote;)Z"⟩ : MethodName)) (z := (⟨"com/example/thingvellir/thingvellir/quorum/Vote", "beats", "(Lcom/example/thingvellir/thingvellir/quorum/Vote;)Z"⟩ : MethodName)) hown (mvT hZ (ww hw 15 rfl)) (mvT hZ (ww hw 16 rfl)) (notFace_of_selects (args := #[]) (mvT hZ (ww hw 18 rfl))) (mvT hZ (ww hw 18 rfl)) (mvT hZ (ww hw 17 rfl)) (by decide) (backOf (W := 0) (rm3 l Z av0 hw [] b3 b1 p1 (q2 + q3) (q4 + q5) p0 q2 q4 T4.heap n0 SZ4 QF4_0 QF4_1 QF4_2 f4_F_leader_b1 f4_F_zxid_b1 f4_F_epoch_b1) hZ (ww hw 19 rfl) (ww hw 2 rfl) (by decide) (by decide)) q11a q11c (g := (mkF m 140 #[.val (.int p0), .val (.int p1), .val (.long q2), .second, .val (.long q3), .second, .val (.long q4), .second, .val (.long q5), .second, .val (.long (q2 + q3)), .second, .val (.long (q4 + q5)), .second, .val (.ref b1), .val (.ref b3), .val (.int (1 : Int32)), .val (.int (0 : Int32))] [(.ref b1), (.ref b3)])) rfl (by rw [hml]; rfl) (Steps.refl _) (argsL := [(.ref b1)]) (rest := []) (lenOf pd_1 rfl) rfl (by show 2 * 0 + _ ≤ _; exact Nat.le_of_eq rfl) (dd at_140) (fun _ _ => ⟨rfl, e10, (by decide : 2 + 0 ≤ _), (by decide : 6 + 0 ≤ _)⟩)
        dsimp only [Pt.U, Pt.locs, Pt.cells, Pt.slots, Q_rm3] at X11 l11 y11 z11 st11 hQ11
        subst l11 y11 z11
        rw [show (f3 b3 b1 p1 (q2 + q3) (q4 + q5) p0 q2 q4) = (0 : Int32) from (by unfold f3; rw [if_pos (Eq.symm hc8), if_neg ((by first | exact own_nlt32 hc9 | exact own_nlt64 hc9) : ¬ ((q2 + q3) = q2)), if_neg ((by first | exact own_asym32 hc9 | exact own_asym64 hc9) : ¬ (q2 < (q2 + q3)))]; try decide)] at hQ11
        obtain ⟨rfl, N11q, e11⟩ := hQ11
        have N11 := Fr.app N10 N11q
        refine Gz.tr st11 ?_
        refine Gz.iload 145 X11 hx (dd at_143) rfl rfl ?_
        refine Gz.icmpNo 148 X11 hx (dd at_145) (teq (by decide : (0 : Int32) = (0 : Int32))).2 rfl ?_
        refine Gz.iconst 149 (1 : Int32) X11 hx (dd at_148) rfl rfl ?_
        refine Gz.goto 153 X11 hx (dd at_149) (by decide) (by decide) ?_
        refine Gz.fin X11 (v := some (.int (1 : Int32))) (fun h => by rw [hret] at h; cases h) hlk (by decide) (by decide) (fun fs hr => retN X11 hx (t := .boolean) hret (by simp) (dd at_153) hr) ?_
        exact ⟨rfl, N11⟩
      · refine Gz.ifNo 63 X4 hx (dd at_60) ((if0 _ _).trans (flt (fun q => hc9 ((lw_gt _ _).mp q))).2.2.1) rfl ?_
        refine Gz.lloadN 64 X4 hx (dd at_63) rfl rfl ?_
        refine Gz.lload 66 X4 hx (dd at_64) rfl rfl ?_
        refine Gz.lcmp 67 X4 hx (dd at_66) rfl ?_
        by_cases hc12 : q2 = (q2 + q3)
        · refine Gz.ifNo 70 X4 hx (dd at_67) ((if0 _ _).trans (teq ((lw_eq _ _).mpr hc12)).2) rfl ?_
          refine Gz.iloadN 71 X4 hx (dd at_70) rfl rfl ?_
          refine Gz.iloadN 72 X4 hx (dd at_71) rfl rfl ?_
          by_cases hc13 : p1 < p0
          · refine Gz.icmpNo 75 X4 hx (dd at_72) (tlt hc13).2.2.2 rfl ?_
            refine Gz.iconst 76 (1 : Int32) X4 hx (dd at_75) rfl rfl ?_
            refine Gz.goto 80 X4 hx (dd at_76) (by decide) (by decide) ?_
            refine Gz.istore 82 #[.val (.int p0), .val (.int p1), .val (.long q2), .second, .val (.long q3), .second, .val (.long q4), .second, .val (.long q5), .second, .val (.long (q2 + q3)), .second, .val (.long (q4 + q5)), .second, .val (.ref b1), .val (.ref b3), .val (.int (1 : Int32)), .unset] X4 hx (dd at_80) rfl rfl ?_
            refine Gz.lload 84 X4 hx (dd at_82) rfl rfl ?_
            refine Gz.lload 86 X4 hx (dd at_84) rfl rfl ?_
            refine Gz.lcmp 87 X4 hx (dd at_86) rfl ?_
            refine Gz.ifNo 90 X4 hx (dd at_87) ((if0 _ _).trans (flt (fun q => ((by first | exact own_irr32 hc8 | exact own_irr64 hc8) : ¬ (q4 < (q4 + q5))) ((lw_gt _ _).mp q))).2.2.1) rfl ?_
            refine Gz.lload 92 X4 hx (dd at_90) rfl rfl ?_
            refine Gz.lload 94 X4 hx (dd at_92) rfl rfl ?_
            refine Gz.lcmp 95 X4 hx (dd at_94) rfl ?_
            refine Gz.ifNo 98 X4 hx (dd at_95) ((if0 _ _).trans (teq ((lw_eq _ _).mpr hc8)).2) rfl ?_
            refine Gz.lload 100 X4 hx (dd at_98) rfl rfl ?_
            refine Gz.lloadN 101 X4 hx (dd at_100) rfl rfl ?_
            refine Gz.lcmp 102 X4 hx (dd at_101) rfl ?_
            refine Gz.ifNo 105 X4 hx (dd at_102) ((if0 _ _).trans (flt (fun q => ((by first | exact own_irr32 hc12 | exact own_irr64 hc12) : ¬ (q2 < (q2 + q3))) ((lw_gt _ _).mp q))).2.2.1) rfl ?_
            refine Gz.lloadN 106 X4 hx (dd at_105) rfl rfl ?_
            refine Gz.lload 108 X4 hx (dd at_106) rfl rfl ?_
            refine Gz.lcmp 109 X4 hx (dd at_108) rfl ?_
            refine Gz.ifNo 112 X4 hx (dd at_109) ((if0 _ _).trans (teq ((lw_eq _ _).mpr hc12)).2) rfl ?_
            refine Gz.iloadN 113 X4 hx (dd at_112) rfl rfl ?_
            refine Gz.iloadN 114 X4 hx (dd at_113) rfl rfl ?_
            refine Gz.icmpYes 121 X4 hx (dd at_114) (flt ((by first | exact own_asym32 hc13 | exact own_asym64 hc13) : ¬ (p0 < p1))).2.2.2 (by decide) (by decide) ?_
            refine Gz.iconst 122 (0 : Int32) X4 hx (dd at_121) rfl rfl ?_
            refine Gz.istore 124 #[.val (.int p0), .val (.int p1), .val (.long q2), .second, .val (.long q3), .second, .val (.long q4), .second, .val (.long q5), .second, .val (.long (q2 + q3)), .second, .val (.long (q4 + q5)), .second, .val (.ref b1), .val (.ref b3), .val (.int (1 : Int32)), .val (.int (0 : Int32))] X4 hx (dd at_122) rfl rfl ?_
            refine Gz.aload 126 X4 hx (dd at_124) rfl rfl rfl ?_
            refine Gz.aload 128 X4 hx (dd at_126) rfl rfl rfl ?_
            obtain ⟨cq14, kq14, q14a, q14b, q14c⟩ := isOf hZ rfl f4_E_b1
            obtain ⟨_, _, ⟨T14, L14, k14, n14⟩, -, X14, ⟨Lc14, hQ14, l14, y14, z14⟩, st14⟩ := X4.virtualBack hx (y := (⟨"com/example/thingvellir/thingvellir/quorum/Vote", "beats", "(Lcom/example/thingvellir/thingvellir/quorum/Vote;)Z"⟩ : MethodName)) (z := (⟨"com/example/thingvellir/thingvellir/quorum/Vote", "beats", "(Lcom/example/thingvellir/thingvellir/quorum/Vote;)Z"⟩ : MethodName)) hown (mvT hZ (ww hw 15 rfl)) (mvT hZ (ww hw 16 rfl)) (notFace_of_selects (args := #[]) (mvT hZ (ww hw 18 rfl))) (mvT hZ (ww hw 18 rfl)) (mvT hZ (ww hw 17 rfl)) (by decide) (backOf (W := 0) (rm3 l Z av0 hw [] b1 b3 p0 q2 q4 p1 (q2 + q3) (q4 + q5) T4.heap n0 SZ4 f4_F_leader_b1 f4_F_zxid_b1 f4_F_epoch_b1 QF4_0 QF4_1 QF4_2) hZ (ww hw 19 rfl) (ww hw 2 rfl) (by decide) (by decide)) q14a q14c (g := (mkF m 128 #[.val (.int p0), .val (.int p1), .val (.long q2), .second, .val (.long q3), .second, .val (.long q4), .second, .val (.long q5), .second, .val (.long (q2 + q3)), .second, .val (.long (q4 + q5)), .second, .val (.ref b1), .val (.ref b3), .val (.int (1 : Int32)), .val (.int (0 : Int32))] [(.ref b3), (.ref b1)])) rfl (by rw [hml]; rfl) (Steps.refl _) (argsL := [(.ref b3)]) (rest := []) (lenOf pd_1 rfl) rfl (by show 2 * 0 + _ ≤ _; exact Nat.le_of_eq rfl) (dd at_128) (fun _ _ => ⟨rfl, rfl, (by decide : 2 + 0 ≤ _), (by decide : 6 + 0 ≤ _)⟩)
            dsimp only [Pt.U, Pt.locs, Pt.cells, Pt.slots, Q_rm3] at X14 l14 y14 z14 st14 hQ14
            subst l14 y14 z14
            rw [show (f3 b1 b3 p0 q2 q4 p1 (q2 + q3) (q4 + q5)) = (1 : Int32) from (by unfold f3; rw [if_pos hc8, if_pos hc12, if_pos hc13]; try decide)] at hQ14
            obtain ⟨rfl, N14q, e14⟩ := hQ14
            have N14 := Fr.app N4 N14q
            refine Gz.tr st14 ?_
            refine Gz.iload 133 X14 hx (dd at_131) rfl rfl ?_
            refine Gz.icmpNo 136 X14 hx (dd at_133) (teq (by decide : (1 : Int32) = (1 : Int32))).2 rfl ?_
            refine Gz.aload 138 X14 hx (dd at_136) rfl rfl rfl ?_
            refine Gz.aload 140 X14 hx (dd at_138) rfl rfl rfl ?_
            obtain ⟨cq15, kq15, q15a, q15b, q15c⟩ := isOf hZ e14 QE4_0
            obtain ⟨_, _, ⟨T15, L15, k15, n15⟩, -, X15, ⟨Lc15, hQ15, l15, y15, z15⟩, st15⟩ := X14.virtualBack hx (y := (⟨"com/example/thingvellir/thingvellir/quorum/Vote", "beats", "(Lcom/example/thingvellir/thingvellir/quorum/Vote;)Z"⟩ : MethodName)) (z := (⟨"com/example/thingvellir/thingvellir/quorum/Vote", "beats", "(Lcom/example/thingvellir/thingvellir/quorum/Vote;)Z"⟩ : MethodName)) hown (mvT hZ (ww hw 15 rfl)) (mvT hZ (ww hw 16 rfl)) (notFace_of_selects (args := #[]) (mvT hZ (ww hw 18 rfl))) (mvT hZ (ww hw 18 rfl)) (mvT hZ (ww hw 17 rfl)) (by decide) (backOf (W := 0) (rm3 l Z av0 hw [] b3 b1 p1 (q2 + q3) (q4 + q5) p0 q2 q4 T4.heap n0 SZ4 QF4_0 QF4_1 QF4_2 f4_F_leader_b1 f4_F_zxid_b1 f4_F_epoch_b1) hZ (ww hw 19 rfl) (ww hw 2 rfl) (by decide) (by decide)) q15a q15c (g := (mkF m 140 #[.val (.int p0), .val (.int p1), .val (.long q2), .second, .val (.long q3), .second, .val (.long q4), .second, .val (.long q5), .second, .val (.long (q2 + q3)), .second, .val (.long (q4 + q5)), .second, .val (.ref b1), .val (.ref b3), .val (.int (1 : Int32)), .val (.int (0 : Int32))] [(.ref b1), (.ref b3)])) rfl (by rw [hml]; rfl) (Steps.refl _) (argsL := [(.ref b1)]) (rest := []) (lenOf pd_1 rfl) rfl (by show 2 * 0 + _ ≤ _; exact Nat.le_of_eq rfl) (dd at_140) (fun _ _ => ⟨rfl, e14, (by decide : 2 + 0 ≤ _), (by decide : 6 + 0 ≤ _)⟩)
            dsimp only [Pt.U, Pt.locs, Pt.cells, Pt.slots, Q_rm3] at X15 l15 y15 z15 st15 hQ15
            subst l15 y15 z15
            rw [show (f3 b3 b1 p1 (q2 + q3) (q4 + q5) p0 q2 q4) = (0 : Int32) from (by unfold f3; rw [if_pos (Eq.symm hc8), if_pos (Eq.symm hc12), if_neg ((by first | exact own_asym32 hc13 | exact own_asym64 hc13) : ¬ (p0 < p1))]; try decide)] at hQ15
            obtain ⟨rfl, N15q, e15⟩ := hQ15
            have N15 := Fr.app N14 N15q
            refine Gz.tr st15 ?_
            refine Gz.iload 145 X15 hx (dd at_143) rfl rfl ?_
            refine Gz.icmpNo 148 X15 hx (dd at_145) (teq (by decide : (0 : Int32) = (0 : Int32))).2 rfl ?_
            refine Gz.iconst 149 (1 : Int32) X15 hx (dd at_148) rfl rfl ?_
            refine Gz.goto 153 X15 hx (dd at_149) (by decide) (by decide) ?_
            refine Gz.fin X15 (v := some (.int (1 : Int32))) (fun h => by rw [hret] at h; cases h) hlk (by decide) (by decide) (fun fs hr => retN X15 hx (t := .boolean) hret (by simp) (dd at_153) hr) ?_
            exact ⟨rfl, N15⟩
          · refine Gz.icmpYes 79 X4 hx (dd at_72) (flt hc13).2.2.2 (by decide) (by decide) ?_
            refine Gz.iconst 80 (0 : Int32) X4 hx (dd at_79) rfl rfl ?_
            refine Gz.istore 82 #[.val (.int p0), .val (.int p1), .val (.long q2), .second, .val (.long q3), .second, .val (.long q4), .second, .val (.long q5), .second, .val (.long (q2 + q3)), .second, .val (.long (q4 + q5)), .second, .val (.ref b1), .val (.ref b3), .val (.int (0 : Int32)), .unset] X4 hx (dd at_80) rfl rfl ?_
            refine Gz.lload 84 X4 hx (dd at_82) rfl rfl ?_
            refine Gz.lload 86 X4 hx (dd at_84) rfl rfl ?_
            refine Gz.lcmp 87 X4 hx (dd at_86) rfl ?_
            refine Gz.ifNo 90 X4 hx (dd at_87) ((if0 _ _).trans (flt (fun q => ((by first | exact own_irr32 hc8 | exact own_irr64 hc8) : ¬ (q4 < (q4 + q5))) ((lw_gt _ _).mp q))).2.2.1) rfl ?_
            refine Gz.lload 92 X4 hx (dd at_90) rfl rfl ?_
            refine Gz.lload 94 X4 hx (dd at_92) rfl rfl ?_
            refine Gz.lcmp 95 X4 hx (dd at_94) rfl ?_
            refine Gz.ifNo 98 X4 hx (dd at_95) ((if0 _ _).trans (teq ((lw_eq _ _).mpr hc8)).2) rfl ?_
            refine Gz.lload 100 X4 hx (dd at_98) rfl rfl ?_
            refine Gz.lloadN 101 X4 hx (dd at_100) rfl rfl ?_
            refine Gz.lcmp 102 X4 hx (dd at_101) rfl ?_
            refine Gz.ifNo 105 X4 hx (dd at_102) ((if0 _ _).trans (flt (fun q => ((by first | exact own_irr32 hc12 | exact own_irr64 hc12) : ¬ (q2 < (q2 + q3))) ((lw_gt _ _).mp q))).2.2.1) rfl ?_
            refine Gz.lloadN 106 X4 hx (dd at_105) rfl rfl ?_
            refine Gz.lload 108 X4 hx (dd at_106) rfl rfl ?_
            refine Gz.lcmp 109 X4 hx (dd at_108) rfl ?_
            refine Gz.ifNo 112 X4 hx (dd at_109) ((if0 _ _).trans (teq ((lw_eq _ _).mpr hc12)).2) rfl ?_
            refine Gz.iloadN 113 X4 hx (dd at_112) rfl rfl ?_
            refine Gz.iloadN 114 X4 hx (dd at_113) rfl rfl ?_
            by_cases hc16 : p0 < p1
            · refine Gz.icmpNo 117 X4 hx (dd at_114) (tlt hc16).2.2.2 rfl ?_
              refine Gz.iconst 118 (1 : Int32) X4 hx (dd at_117) rfl rfl ?_
              refine Gz.goto 122 X4 hx (dd at_118) (by decide) (by decide) ?_
              refine Gz.istore 124 #[.val (.int p0), .val (.int p1), .val (.long q2), .second, .val (.long q3), .second, .val (.long q4), .second, .val (.long q5), .second, .val (.long (q2 + q3)), .second, .val (.long (q4 + q5)), .second, .val (.ref b1), .val (.ref b3), .val (.int (0 : Int32)), .val (.int (1 : Int32))] X4 hx (dd at_122) rfl rfl ?_
              refine Gz.aload 126 X4 hx (dd at_124) rfl rfl rfl ?_
              refine Gz.aload 128 X4 hx (dd at_126) rfl rfl rfl ?_
              obtain ⟨cq17, kq17, q17a, q17b, q17c⟩ := isOf hZ rfl f4_E_b1
              obtain ⟨_, _, ⟨T17, L17, k17, n17⟩, -, X17, ⟨Lc17, hQ17, l17, y17, z17⟩, st17⟩ := X4.virtualBack hx (y := (⟨"com/example/thingvellir/thingvellir/quorum/Vote", "beats", "(Lcom/example/thingvellir/thingvellir/quorum/Vote;)Z"⟩ : MethodName)) (z := (⟨"com/example/thingvellir/thingvellir/quorum/Vote", "beats", "(Lcom/example/thingvellir/thingvellir/quorum/Vote;)Z"⟩ : MethodName)) hown (mvT hZ (ww hw 15 rfl)) (mvT hZ (ww hw 16 rfl)) (notFace_of_selects (args := #[]) (mvT hZ (ww hw 18 rfl))) (mvT hZ (ww hw 18 rfl)) (mvT hZ (ww hw 17 rfl)) (by decide) (backOf (W := 0) (rm3 l Z av0 hw [] b1 b3 p0 q2 q4 p1 (q2 + q3) (q4 + q5) T4.heap n0 SZ4 f4_F_leader_b1 f4_F_zxid_b1 f4_F_epoch_b1 QF4_0 QF4_1 QF4_2) hZ (ww hw 19 rfl) (ww hw 2 rfl) (by decide) (by decide)) q17a q17c (g := (mkF m 128 #[.val (.int p0), .val (.int p1), .val (.long q2), .second, .val (.long q3), .second, .val (.long q4), .second, .val (.long q5), .second, .val (.long (q2 + q3)), .second, .val (.long (q4 + q5)), .second, .val (.ref b1), .val (.ref b3), .val (.int (0 : Int32)), .val (.int (1 : Int32))] [(.ref b3), (.ref b1)])) rfl (by rw [hml]; rfl) (Steps.refl _) (argsL := [(.ref b3)]) (rest := []) (lenOf pd_1 rfl) rfl (by show 2 * 0 + _ ≤ _; exact Nat.le_of_eq rfl) (dd at_128) (fun _ _ => ⟨rfl, rfl, (by decide : 2 + 0 ≤ _), (by decide : 6 + 0 ≤ _)⟩)
              dsimp only [Pt.U, Pt.locs, Pt.cells, Pt.slots, Q_rm3] at X17 l17 y17 z17 st17 hQ17
              subst l17 y17 z17
              rw [show (f3 b1 b3 p0 q2 q4 p1 (q2 + q3) (q4 + q5)) = (0 : Int32) from (by unfold f3; rw [if_pos hc8, if_pos hc12, if_neg hc13]; try decide)] at hQ17
              obtain ⟨rfl, N17q, e17⟩ := hQ17
              have N17 := Fr.app N4 N17q
              refine Gz.tr st17 ?_
              refine Gz.iload 133 X17 hx (dd at_131) rfl rfl ?_
              refine Gz.icmpNo 136 X17 hx (dd at_133) (teq (by decide : (0 : Int32) = (0 : Int32))).2 rfl ?_
              refine Gz.aload 138 X17 hx (dd at_136) rfl rfl rfl ?_
              refine Gz.aload 140 X17 hx (dd at_138) rfl rfl rfl ?_
              obtain ⟨cq18, kq18, q18a, q18b, q18c⟩ := isOf hZ e17 QE4_0
              obtain ⟨_, _, ⟨T18, L18, k18, n18⟩, -, X18, ⟨Lc18, hQ18, l18, y18, z18⟩, st18⟩ := X17.virtualBack hx (y := (⟨"com/example/thingvellir/thingvellir/quorum/Vote", "beats", "(Lcom/example/thingvellir/thingvellir/quorum/Vote;)Z"⟩ : MethodName)) (z := (⟨"com/example/thingvellir/thingvellir/quorum/Vote", "beats", "(Lcom/example/thingvellir/thingvellir/quorum/Vote;)Z"⟩ : MethodName)) hown (mvT hZ (ww hw 15 rfl)) (mvT hZ (ww hw 16 rfl)) (notFace_of_selects (args := #[]) (mvT hZ (ww hw 18 rfl))) (mvT hZ (ww hw 18 rfl)) (mvT hZ (ww hw 17 rfl)) (by decide) (backOf (W := 0) (rm3 l Z av0 hw [] b3 b1 p1 (q2 + q3) (q4 + q5) p0 q2 q4 T4.heap n0 SZ4 QF4_0 QF4_1 QF4_2 f4_F_leader_b1 f4_F_zxid_b1 f4_F_epoch_b1) hZ (ww hw 19 rfl) (ww hw 2 rfl) (by decide) (by decide)) q18a q18c (g := (mkF m 140 #[.val (.int p0), .val (.int p1), .val (.long q2), .second, .val (.long q3), .second, .val (.long q4), .second, .val (.long q5), .second, .val (.long (q2 + q3)), .second, .val (.long (q4 + q5)), .second, .val (.ref b1), .val (.ref b3), .val (.int (0 : Int32)), .val (.int (1 : Int32))] [(.ref b1), (.ref b3)])) rfl (by rw [hml]; rfl) (Steps.refl _) (argsL := [(.ref b1)]) (rest := []) (lenOf pd_1 rfl) rfl (by show 2 * 0 + _ ≤ _; exact Nat.le_of_eq rfl) (dd at_140) (fun _ _ => ⟨rfl, e17, (by decide : 2 + 0 ≤ _), (by decide : 6 + 0 ≤ _)⟩)
              dsimp only [Pt.U, Pt.locs, Pt.cells, Pt.slots, Q_rm3] at X18 l18 y18 z18 st18 hQ18
              subst l18 y18 z18
              rw [show (f3 b3 b1 p1 (q2 + q3) (q4 + q5) p0 q2 q4) = (1 : Int32) from (by unfold f3; rw [if_pos (Eq.symm hc8), if_pos (Eq.symm hc12), if_pos hc16]; try decide)] at hQ18
              obtain ⟨rfl, N18q, e18⟩ := hQ18
              have N18 := Fr.app N17 N18q
              refine Gz.tr st18 ?_
              refine Gz.iload 145 X18 hx (dd at_143) rfl rfl ?_
              refine Gz.icmpNo 148 X18 hx (dd at_145) (teq (by decide : (1 : Int32) = (1 : Int32))).2 rfl ?_
              refine Gz.iconst 149 (1 : Int32) X18 hx (dd at_148) rfl rfl ?_
              refine Gz.goto 153 X18 hx (dd at_149) (by decide) (by decide) ?_
              refine Gz.fin X18 (v := some (.int (1 : Int32))) (fun h => by rw [hret] at h; cases h) hlk (by decide) (by decide) (fun fs hr => retN X18 hx (t := .boolean) hret (by simp) (dd at_153) hr) ?_
              exact ⟨rfl, N18⟩
            · refine Gz.icmpYes 121 X4 hx (dd at_114) (flt hc16).2.2.2 (by decide) (by decide) ?_
              refine Gz.iconst 122 (0 : Int32) X4 hx (dd at_121) rfl rfl ?_
              refine Gz.istore 124 #[.val (.int p0), .val (.int p1), .val (.long q2), .second, .val (.long q3), .second, .val (.long q4), .second, .val (.long q5), .second, .val (.long (q2 + q3)), .second, .val (.long (q4 + q5)), .second, .val (.ref b1), .val (.ref b3), .val (.int (0 : Int32)), .val (.int (0 : Int32))] X4 hx (dd at_122) rfl rfl ?_
              refine Gz.aload 126 X4 hx (dd at_124) rfl rfl rfl ?_
              refine Gz.aload 128 X4 hx (dd at_126) rfl rfl rfl ?_
              obtain ⟨cq19, kq19, q19a, q19b, q19c⟩ := isOf hZ rfl f4_E_b1
              obtain ⟨_, _, ⟨T19, L19, k19, n19⟩, -, X19, ⟨Lc19, hQ19, l19, y19, z19⟩, st19⟩ := X4.virtualBack hx (y := (⟨"com/example/thingvellir/thingvellir/quorum/Vote", "beats", "(Lcom/example/thingvellir/thingvellir/quorum/Vote;)Z"⟩ : MethodName)) (z := (⟨"com/example/thingvellir/thingvellir/quorum/Vote", "beats", "(Lcom/example/thingvellir/thingvellir/quorum/Vote;)Z"⟩ : MethodName)) hown (mvT hZ (ww hw 15 rfl)) (mvT hZ (ww hw 16 rfl)) (notFace_of_selects (args := #[]) (mvT hZ (ww hw 18 rfl))) (mvT hZ (ww hw 18 rfl)) (mvT hZ (ww hw 17 rfl)) (by decide) (backOf (W := 0) (rm3 l Z av0 hw [] b1 b3 p0 q2 q4 p1 (q2 + q3) (q4 + q5) T4.heap n0 SZ4 f4_F_leader_b1 f4_F_zxid_b1 f4_F_epoch_b1 QF4_0 QF4_1 QF4_2) hZ (ww hw 19 rfl) (ww hw 2 rfl) (by decide) (by decide)) q19a q19c (g := (mkF m 128 #[.val (.int p0), .val (.int p1), .val (.long q2), .second, .val (.long q3), .second, .val (.long q4), .second, .val (.long q5), .second, .val (.long (q2 + q3)), .second, .val (.long (q4 + q5)), .second, .val (.ref b1), .val (.ref b3), .val (.int (0 : Int32)), .val (.int (0 : Int32))] [(.ref b3), (.ref b1)])) rfl (by rw [hml]; rfl) (Steps.refl _) (argsL := [(.ref b3)]) (rest := []) (lenOf pd_1 rfl) rfl (by show 2 * 0 + _ ≤ _; exact Nat.le_of_eq rfl) (dd at_128) (fun _ _ => ⟨rfl, rfl, (by decide : 2 + 0 ≤ _), (by decide : 6 + 0 ≤ _)⟩)
              dsimp only [Pt.U, Pt.locs, Pt.cells, Pt.slots, Q_rm3] at X19 l19 y19 z19 st19 hQ19
              subst l19 y19 z19
              rw [show (f3 b1 b3 p0 q2 q4 p1 (q2 + q3) (q4 + q5)) = (0 : Int32) from (by unfold f3; rw [if_pos hc8, if_pos hc12, if_neg hc13]; try decide)] at hQ19
              obtain ⟨rfl, N19q, e19⟩ := hQ19
              have N19 := Fr.app N4 N19q
              refine Gz.tr st19 ?_
              refine Gz.iload 133 X19 hx (dd at_131) rfl rfl ?_
              refine Gz.icmpNo 136 X19 hx (dd at_133) (teq (by decide : (0 : Int32) = (0 : Int32))).2 rfl ?_
              refine Gz.aload 138 X19 hx (dd at_136) rfl rfl rfl ?_
              refine Gz.aload 140 X19 hx (dd at_138) rfl rfl rfl ?_
              obtain ⟨cq20, kq20, q20a, q20b, q20c⟩ := isOf hZ e19 QE4_0
              obtain ⟨_, _, ⟨T20, L20, k20, n20⟩, -, X20, ⟨Lc20, hQ20, l20, y20, z20⟩, st20⟩ := X19.virtualBack hx (y := (⟨"com/example/thingvellir/thingvellir/quorum/Vote", "beats", "(Lcom/example/thingvellir/thingvellir/quorum/Vote;)Z"⟩ : MethodName)) (z := (⟨"com/example/thingvellir/thingvellir/quorum/Vote", "beats", "(Lcom/example/thingvellir/thingvellir/quorum/Vote;)Z"⟩ : MethodName)) hown (mvT hZ (ww hw 15 rfl)) (mvT hZ (ww hw 16 rfl)) (notFace_of_selects (args := #[]) (mvT hZ (ww hw 18 rfl))) (mvT hZ (ww hw 18 rfl)) (mvT hZ (ww hw 17 rfl)) (by decide) (backOf (W := 0) (rm3 l Z av0 hw [] b3 b1 p1 (q2 + q3) (q4 + q5) p0 q2 q4 T4.heap n0 SZ4 QF4_0 QF4_1 QF4_2 f4_F_leader_b1 f4_F_zxid_b1 f4_F_epoch_b1) hZ (ww hw 19 rfl) (ww hw 2 rfl) (by decide) (by decide)) q20a q20c (g := (mkF m 140 #[.val (.int p0), .val (.int p1), .val (.long q2), .second, .val (.long q3), .second, .val (.long q4), .second, .val (.long q5), .second, .val (.long (q2 + q3)), .second, .val (.long (q4 + q5)), .second, .val (.ref b1), .val (.ref b3), .val (.int (0 : Int32)), .val (.int (0 : Int32))] [(.ref b1), (.ref b3)])) rfl (by rw [hml]; rfl) (Steps.refl _) (argsL := [(.ref b1)]) (rest := []) (lenOf pd_1 rfl) rfl (by show 2 * 0 + _ ≤ _; exact Nat.le_of_eq rfl) (dd at_140) (fun _ _ => ⟨rfl, e19, (by decide : 2 + 0 ≤ _), (by decide : 6 + 0 ≤ _)⟩)
              dsimp only [Pt.U, Pt.locs, Pt.cells, Pt.slots, Q_rm3] at X20 l20 y20 z20 st20 hQ20
              subst l20 y20 z20
              rw [show (f3 b3 b1 p1 (q2 + q3) (q4 + q5) p0 q2 q4) = (0 : Int32) from (by unfold f3; rw [if_pos (Eq.symm hc8), if_pos (Eq.symm hc12), if_neg hc16]; try decide)] at hQ20
              obtain ⟨rfl, N20q, e20⟩ := hQ20
              have N20 := Fr.app N19 N20q
              refine Gz.tr st20 ?_
              refine Gz.iload 145 X20 hx (dd at_143) rfl rfl ?_
              refine Gz.icmpNo 148 X20 hx (dd at_145) (teq (by decide : (0 : Int32) = (0 : Int32))).2 rfl ?_
              refine Gz.iconst 149 (1 : Int32) X20 hx (dd at_148) rfl rfl ?_
              refine Gz.goto 153 X20 hx (dd at_149) (by decide) (by decide) ?_
              refine Gz.fin X20 (v := some (.int (1 : Int32))) (fun h => by rw [hret] at h; cases h) hlk (by decide) (by decide) (fun fs hr => retN X20 hx (t := .boolean) hret (by simp) (dd at_153) hr) ?_
              exact ⟨rfl, N20⟩
        · refine Gz.ifYes 79 X4 hx (dd at_67) ((if0 _ _).trans (feq (fun q => hc12 ((lw_eq _ _).mp q))).2) (by decide) (by decide) ?_
          refine Gz.iconst 80 (0 : Int32) X4 hx (dd at_79) rfl rfl ?_
          refine Gz.istore 82 #[.val (.int p0), .val (.int p1), .val (.long q2), .second, .val (.long q3), .second, .val (.long q4), .second, .val (.long q5), .second, .val (.long (q2 + q3)), .second, .val (.long (q4 + q5)), .second, .val (.ref b1), .val (.ref b3), .val (.int (0 : Int32)), .unset] X4 hx (dd at_80) rfl rfl ?_
          refine Gz.lload 84 X4 hx (dd at_82) rfl rfl ?_
          refine Gz.lload 86 X4 hx (dd at_84) rfl rfl ?_
          refine Gz.lcmp 87 X4 hx (dd at_86) rfl ?_
          refine Gz.ifNo 90 X4 hx (dd at_87) ((if0 _ _).trans (flt (fun q => ((by first | exact own_irr32 hc8 | exact own_irr64 hc8) : ¬ (q4 < (q4 + q5))) ((lw_gt _ _).mp q))).2.2.1) rfl ?_
          refine Gz.lload 92 X4 hx (dd at_90) rfl rfl ?_
          refine Gz.lload 94 X4 hx (dd at_92) rfl rfl ?_
          refine Gz.lcmp 95 X4 hx (dd at_94) rfl ?_
          refine Gz.ifNo 98 X4 hx (dd at_95) ((if0 _ _).trans (teq ((lw_eq _ _).mpr hc8)).2) rfl ?_
          refine Gz.lload 100 X4 hx (dd at_98) rfl rfl ?_
          refine Gz.lloadN 101 X4 hx (dd at_100) rfl rfl ?_
          refine Gz.lcmp 102 X4 hx (dd at_101) rfl ?_
          refine Gz.ifYes 117 X4 hx (dd at_102) ((if0 _ _).trans (tlt ((lw_gt _ _).mpr ((by first | exact own_tri32 hc9 hc12 | exact own_tri64 hc9 hc12) : q2 < (q2 + q3)))).2.2.1) (by decide) (by decide) ?_
          refine Gz.iconst 118 (1 : Int32) X4 hx (dd at_117) rfl rfl ?_
          refine Gz.goto 122 X4 hx (dd at_118) (by decide) (by decide) ?_
          refine Gz.istore 124 #[.val (.int p0), .val (.int p1), .val (.long q2), .second, .val (.long q3), .second, .val (.long q4), .second, .val (.long q5), .second, .val (.long (q2 + q3)), .second, .val (.long (q4 + q5)), .second, .val (.ref b1), .val (.ref b3), .val (.int (0 : Int32)), .val (.int (1 : Int32))] X4 hx (dd at_122) rfl rfl ?_
          refine Gz.aload 126 X4 hx (dd at_124) rfl rfl rfl ?_
          refine Gz.aload 128 X4 hx (dd at_126) rfl rfl rfl ?_
          obtain ⟨cq21, kq21, q21a, q21b, q21c⟩ := isOf hZ rfl f4_E_b1
          obtain ⟨_, _, ⟨T21, L21, k21, n21⟩, -, X21, ⟨Lc21, hQ21, l21, y21, z21⟩, st21⟩ := X4.virtualBack hx (y := (⟨"com/example/thingvellir/thingvellir/quorum/Vote", "beats", "(Lcom/example/thingvellir/thingvellir/quorum/Vote;)Z"⟩ : MethodName)) (z := (⟨"com/example/thingvellir/thingvellir/quorum/Vote", "beats", "(Lcom/example/thingvellir/thingvellir/quorum/Vote;)Z"⟩ : MethodName)) hown (mvT hZ (ww hw 15 rfl)) (mvT hZ (ww hw 16 rfl)) (notFace_of_selects (args := #[]) (mvT hZ (ww hw 18 rfl))) (mvT hZ (ww hw 18 rfl)) (mvT hZ (ww hw 17 rfl)) (by decide) (backOf (W := 0) (rm3 l Z av0 hw [] b1 b3 p0 q2 q4 p1 (q2 + q3) (q4 + q5) T4.heap n0 SZ4 f4_F_leader_b1 f4_F_zxid_b1 f4_F_epoch_b1 QF4_0 QF4_1 QF4_2) hZ (ww hw 19 rfl) (ww hw 2 rfl) (by decide) (by decide)) q21a q21c (g := (mkF m 128 #[.val (.int p0), .val (.int p1), .val (.long q2), .second, .val (.long q3), .second, .val (.long q4), .second, .val (.long q5), .second, .val (.long (q2 + q3)), .second, .val (.long (q4 + q5)), .second, .val (.ref b1), .val (.ref b3), .val (.int (0 : Int32)), .val (.int (1 : Int32))] [(.ref b3), (.ref b1)])) rfl (by rw [hml]; rfl) (Steps.refl _) (argsL := [(.ref b3)]) (rest := []) (lenOf pd_1 rfl) rfl (by show 2 * 0 + _ ≤ _; exact Nat.le_of_eq rfl) (dd at_128) (fun _ _ => ⟨rfl, rfl, (by decide : 2 + 0 ≤ _), (by decide : 6 + 0 ≤ _)⟩)
          dsimp only [Pt.U, Pt.locs, Pt.cells, Pt.slots, Q_rm3] at X21 l21 y21 z21 st21 hQ21
          subst l21 y21 z21
          rw [show (f3 b1 b3 p0 q2 q4 p1 (q2 + q3) (q4 + q5)) = (0 : Int32) from (by unfold f3; rw [if_pos hc8, if_neg hc12, if_neg hc9]; try decide)] at hQ21
          obtain ⟨rfl, N21q, e21⟩ := hQ21
          have N21 := Fr.app N4 N21q
          refine Gz.tr st21 ?_
          refine Gz.iload 133 X21 hx (dd at_131) rfl rfl ?_
          refine Gz.icmpNo 136 X21 hx (dd at_133) (teq (by decide : (0 : Int32) = (0 : Int32))).2 rfl ?_
          refine Gz.aload 138 X21 hx (dd at_136) rfl rfl rfl ?_
          refine Gz.aload 140 X21 hx (dd at_138) rfl rfl rfl ?_
          obtain ⟨cq22, kq22, q22a, q22b, q22c⟩ := isOf hZ e21 QE4_0
          obtain ⟨_, _, ⟨T22, L22, k22, n22⟩, -, X22, ⟨Lc22, hQ22, l22, y22, z22⟩, st22⟩ := X21.virtualBack hx (y := (⟨"com/example/thingvellir/thingvellir/quorum/Vote", "beats", "(Lcom/example/thingvellir/thingvellir/quorum/Vote;)Z"⟩ : MethodName)) (z := (⟨"com/example/thingvellir/thingvellir/quorum/Vote", "beats", "(Lcom/example/thingvellir/thingvellir/quorum/Vote;)Z"⟩ : MethodName)) hown (mvT hZ (ww hw 15 rfl)) (mvT hZ (ww hw 16 rfl)) (notFace_of_selects (args := #[]) (mvT hZ (ww hw 18 rfl))) (mvT hZ (ww hw 18 rfl)) (mvT hZ (ww hw 17 rfl)) (by decide) (backOf (W := 0) (rm3 l Z av0 hw [] b3 b1 p1 (q2 + q3) (q4 + q5) p0 q2 q4 T4.heap n0 SZ4 QF4_0 QF4_1 QF4_2 f4_F_leader_b1 f4_F_zxid_b1 f4_F_epoch_b1) hZ (ww hw 19 rfl) (ww hw 2 rfl) (by decide) (by decide)) q22a q22c (g := (mkF m 140 #[.val (.int p0), .val (.int p1), .val (.long q2), .second, .val (.long q3), .second, .val (.long q4), .second, .val (.long q5), .second, .val (.long (q2 + q3)), .second, .val (.long (q4 + q5)), .second, .val (.ref b1), .val (.ref b3), .val (.int (0 : Int32)), .val (.int (1 : Int32))] [(.ref b1), (.ref b3)])) rfl (by rw [hml]; rfl) (Steps.refl _) (argsL := [(.ref b1)]) (rest := []) (lenOf pd_1 rfl) rfl (by show 2 * 0 + _ ≤ _; exact Nat.le_of_eq rfl) (dd at_140) (fun _ _ => ⟨rfl, e21, (by decide : 2 + 0 ≤ _), (by decide : 6 + 0 ≤ _)⟩)
          dsimp only [Pt.U, Pt.locs, Pt.cells, Pt.slots, Q_rm3] at X22 l22 y22 z22 st22 hQ22
          subst l22 y22 z22
          rw [show (f3 b3 b1 p1 (q2 + q3) (q4 + q5) p0 q2 q4) = (1 : Int32) from (by unfold f3; rw [if_pos (Eq.symm hc8), if_neg (fun q => hc12 (Eq.symm q)), if_pos ((by first | exact own_tri32 hc9 hc12 | exact own_tri64 hc9 hc12) : q2 < (q2 + q3))]; try decide)] at hQ22
          obtain ⟨rfl, N22q, e22⟩ := hQ22
          have N22 := Fr.app N21 N22q
          refine Gz.tr st22 ?_
          refine Gz.iload 145 X22 hx (dd at_143) rfl rfl ?_
          refine Gz.icmpNo 148 X22 hx (dd at_145) (teq (by decide : (1 : Int32) = (1 : Int32))).2 rfl ?_
          refine Gz.iconst 149 (1 : Int32) X22 hx (dd at_148) rfl rfl ?_
          refine Gz.goto 153 X22 hx (dd at_149) (by decide) (by decide) ?_
          refine Gz.fin X22 (v := some (.int (1 : Int32))) (fun h => by rw [hret] at h; cases h) hlk (by decide) (by decide) (fun fs hr => retN X22 hx (t := .boolean) hret (by simp) (dd at_153) hr) ?_
          exact ⟨rfl, N22⟩
    · refine Gz.ifYes 79 X4 hx (dd at_53) ((if0 _ _).trans (feq (fun q => hc8 ((lw_eq _ _).mp q))).2) (by decide) (by decide) ?_
      refine Gz.iconst 80 (0 : Int32) X4 hx (dd at_79) rfl rfl ?_
      refine Gz.istore 82 #[.val (.int p0), .val (.int p1), .val (.long q2), .second, .val (.long q3), .second, .val (.long q4), .second, .val (.long q5), .second, .val (.long (q2 + q3)), .second, .val (.long (q4 + q5)), .second, .val (.ref b1), .val (.ref b3), .val (.int (0 : Int32)), .unset] X4 hx (dd at_80) rfl rfl ?_
      refine Gz.lload 84 X4 hx (dd at_82) rfl rfl ?_
      refine Gz.lload 86 X4 hx (dd at_84) rfl rfl ?_
      refine Gz.lcmp 87 X4 hx (dd at_86) rfl ?_
      refine Gz.ifYes 117 X4 hx (dd at_87) ((if0 _ _).trans (tlt ((lw_gt _ _).mpr ((by first | exact own_tri32 hc5 hc8 | exact own_tri64 hc5 hc8) : q4 < (q4 + q5)))).2.2.1) (by decide) (by decide) ?_
      refine Gz.iconst 118 (1 : Int32) X4 hx (dd at_117) rfl rfl ?_
      refine Gz.goto 122 X4 hx (dd at_118) (by decide) (by decide) ?_
      refine Gz.istore 124 #[.val (.int p0), .val (.int p1), .val (.long q2), .second, .val (.long q3), .second, .val (.long q4), .second, .val (.long q5), .second, .val (.long (q2 + q3)), .second, .val (.long (q4 + q5)), .second, .val (.ref b1), .val (.ref b3), .val (.int (0 : Int32)), .val (.int (1 : Int32))] X4 hx (dd at_122) rfl rfl ?_
      refine Gz.aload 126 X4 hx (dd at_124) rfl rfl rfl ?_
      refine Gz.aload 128 X4 hx (dd at_126) rfl rfl rfl ?_
      obtain ⟨cq23, kq23, q23a, q23b, q23c⟩ := isOf hZ rfl f4_E_b1
      obtain ⟨_, _, ⟨T23, L23, k23, n23⟩, -, X23, ⟨Lc23, hQ23, l23, y23, z23⟩, st23⟩ := X4.virtualBack hx (y := (⟨"com/example/thingvellir/thingvellir/quorum/Vote", "beats", "(Lcom/example/thingvellir/thingvellir/quorum/Vote;)Z"⟩ : MethodName)) (z := (⟨"com/example/thingvellir/thingvellir/quorum/Vote", "beats", "(Lcom/example/thingvellir/thingvellir/quorum/Vote;)Z"⟩ : MethodName)) hown (mvT hZ (ww hw 15 rfl)) (mvT hZ (ww hw 16 rfl)) (notFace_of_selects (args := #[]) (mvT hZ (ww hw 18 rfl))) (mvT hZ (ww hw 18 rfl)) (mvT hZ (ww hw 17 rfl)) (by decide) (backOf (W := 0) (rm3 l Z av0 hw [] b1 b3 p0 q2 q4 p1 (q2 + q3) (q4 + q5) T4.heap n0 SZ4 f4_F_leader_b1 f4_F_zxid_b1 f4_F_epoch_b1 QF4_0 QF4_1 QF4_2) hZ (ww hw 19 rfl) (ww hw 2 rfl) (by decide) (by decide)) q23a q23c (g := (mkF m 128 #[.val (.int p0), .val (.int p1), .val (.long q2), .second, .val (.long q3), .second, .val (.long q4), .second, .val (.long q5), .second, .val (.long (q2 + q3)), .second, .val (.long (q4 + q5)), .second, .val (.ref b1), .val (.ref b3), .val (.int (0 : Int32)), .val (.int (1 : Int32))] [(.ref b3), (.ref b1)])) rfl (by rw [hml]; rfl) (Steps.refl _) (argsL := [(.ref b3)]) (rest := []) (lenOf pd_1 rfl) rfl (by show 2 * 0 + _ ≤ _; exact Nat.le_of_eq rfl) (dd at_128) (fun _ _ => ⟨rfl, rfl, (by decide : 2 + 0 ≤ _), (by decide : 6 + 0 ≤ _)⟩)
      dsimp only [Pt.U, Pt.locs, Pt.cells, Pt.slots, Q_rm3] at X23 l23 y23 z23 st23 hQ23
      subst l23 y23 z23
      rw [show (f3 b1 b3 p0 q2 q4 p1 (q2 + q3) (q4 + q5)) = (0 : Int32) from (by unfold f3; rw [if_neg hc8, if_neg hc5]; try decide)] at hQ23
      obtain ⟨rfl, N23q, e23⟩ := hQ23
      have N23 := Fr.app N4 N23q
      refine Gz.tr st23 ?_
      refine Gz.iload 133 X23 hx (dd at_131) rfl rfl ?_
      refine Gz.icmpNo 136 X23 hx (dd at_133) (teq (by decide : (0 : Int32) = (0 : Int32))).2 rfl ?_
      refine Gz.aload 138 X23 hx (dd at_136) rfl rfl rfl ?_
      refine Gz.aload 140 X23 hx (dd at_138) rfl rfl rfl ?_
      obtain ⟨cq24, kq24, q24a, q24b, q24c⟩ := isOf hZ e23 QE4_0
      obtain ⟨_, _, ⟨T24, L24, k24, n24⟩, -, X24, ⟨Lc24, hQ24, l24, y24, z24⟩, st24⟩ := X23.virtualBack hx (y := (⟨"com/example/thingvellir/thingvellir/quorum/Vote", "beats", "(Lcom/example/thingvellir/thingvellir/quorum/Vote;)Z"⟩ : MethodName)) (z := (⟨"com/example/thingvellir/thingvellir/quorum/Vote", "beats", "(Lcom/example/thingvellir/thingvellir/quorum/Vote;)Z"⟩ : MethodName)) hown (mvT hZ (ww hw 15 rfl)) (mvT hZ (ww hw 16 rfl)) (notFace_of_selects (args := #[]) (mvT hZ (ww hw 18 rfl))) (mvT hZ (ww hw 18 rfl)) (mvT hZ (ww hw 17 rfl)) (by decide) (backOf (W := 0) (rm3 l Z av0 hw [] b3 b1 p1 (q2 + q3) (q4 + q5) p0 q2 q4 T4.heap n0 SZ4 QF4_0 QF4_1 QF4_2 f4_F_leader_b1 f4_F_zxid_b1 f4_F_epoch_b1) hZ (ww hw 19 rfl) (ww hw 2 rfl) (by decide) (by decide)) q24a q24c (g := (mkF m 140 #[.val (.int p0), .val (.int p1), .val (.long q2), .second, .val (.long q3), .second, .val (.long q4), .second, .val (.long q5), .second, .val (.long (q2 + q3)), .second, .val (.long (q4 + q5)), .second, .val (.ref b1), .val (.ref b3), .val (.int (0 : Int32)), .val (.int (1 : Int32))] [(.ref b1), (.ref b3)])) rfl (by rw [hml]; rfl) (Steps.refl _) (argsL := [(.ref b1)]) (rest := []) (lenOf pd_1 rfl) rfl (by show 2 * 0 + _ ≤ _; exact Nat.le_of_eq rfl) (dd at_140) (fun _ _ => ⟨rfl, e23, (by decide : 2 + 0 ≤ _), (by decide : 6 + 0 ≤ _)⟩)
      dsimp only [Pt.U, Pt.locs, Pt.cells, Pt.slots, Q_rm3] at X24 l24 y24 z24 st24 hQ24
      subst l24 y24 z24
      rw [show (f3 b3 b1 p1 (q2 + q3) (q4 + q5) p0 q2 q4) = (1 : Int32) from (by unfold f3; rw [if_neg (fun q => hc8 (Eq.symm q)), if_pos ((by first | exact own_tri32 hc5 hc8 | exact own_tri64 hc5 hc8) : q4 < (q4 + q5))]; try decide)] at hQ24
      obtain ⟨rfl, N24q, e24⟩ := hQ24
      have N24 := Fr.app N23 N24q
      refine Gz.tr st24 ?_
      refine Gz.iload 145 X24 hx (dd at_143) rfl rfl ?_
      refine Gz.icmpNo 148 X24 hx (dd at_145) (teq (by decide : (1 : Int32) = (1 : Int32))).2 rfl ?_
      refine Gz.iconst 149 (1 : Int32) X24 hx (dd at_148) rfl rfl ?_
      refine Gz.goto 153 X24 hx (dd at_149) (by decide) (by decide) ?_
      refine Gz.fin X24 (v := some (.int (1 : Int32))) (fun h => by rw [hret] at h; cases h) hlk (by decide) (by decide) (fun fs hr => retN X24 hx (t := .boolean) hret (by simp) (dd at_153) hr) ?_
      exact ⟨rfl, N24⟩
set_option maxRecDepth 65536 in
set_option maxHeartbeats 40000000 in
theorem comes_1 {Post : Tables → Env → Array Value → State → Outcome → State → Prop} (hpost : ∀ tb e args s v u, (limb_1_1.after args s (.returned v) u = true ∧ limb_1_2.after args s (.returned v) u = true ∧ True) → FrameEnd s (.returned v) u (Jvm.fieldLocs frame_1_writes args s ++ Jvm.arrayLocs frame_1_arrays args s ++ Jvm.staticLocs frame_1_statics s) 16 128 → Post tb e args s (.returned v) u) :
    ArmFor flags0 classFile x code maxLocals ret World_1 tables_1 room_1 Calls_1 rest_1 Pre_1 Post := by
  intro l hfl _ _ p e ha hc hk s m args below hf hA hF happ hP
  obtain ⟨hcalls, hrest, hpre⟩ := hP
  obtain ⟨-, -, -, hnamed, -, -, -, hat⟩ := (Spec.applies_iff hf).mp happ
  obtain ⟨hg, hn⟩ := and_e (Cond.before_iff.mp (show (Jvm.Cond.and given_1 narrow_1).before args s = true from hpre))
  obtain ⟨hcnt, hg0⟩ := and_e hg
  obtain ⟨ha0, hg1⟩ := and_e hg0
  obtain ⟨ha1, hg2⟩ := and_e hg1
  obtain ⟨ha2, hg3⟩ := and_e hg2
  obtain ⟨ha3, hg4⟩ := and_e hg3
  obtain ⟨ha4, hg5⟩ := and_e hg4
  have ha5 := hg5
  obtain ⟨w0, w1, w2, w3, w4, w5, rfl⟩ : ∃ w0 w1 w2 w3 w4 w5 : Value, args = #[w0, w1, w2, w3, w4, w5] := by
    have hs : args.size = 6 := by simpa [Cond.value, given_1] using hcnt
    obtain ⟨L⟩ := args
    match L, hs with
    | [w0, w1, w2, w3, w4, w5], _ => exact ⟨w0, w1, w2, w3, w4, w5, rfl⟩
  have hw := fun d (hd : d ∈ tables_1) => atoms_spec (ws := Jvm.Cond.code x code maxLocals ret :: tables_1) hat d (List.mem_cons_of_mem _ hd)
  have hfit : Fit s := fun {y c} hc i hi => by
    obtain ⟨ha, rfl⟩ := Array.getElem?_eq_some_iff.mp hc
    have q := List.all_eq_true.mp ((Array.all_eq_true_iff_forall_mem.mp hF) _ (Array.getElem_mem ha)) i (List.mem_range.mpr hi)
    simpa [Array.getElem?_eq_getElem hi] using q
  obtain ⟨i0, ei0⟩ := is_v ha0
  obtain rfl : w0 = (.int i0) := Option.some.inj ei0
  obtain ⟨i1, ei1⟩ := is_v ha1
  obtain rfl : w1 = (.int i1) := Option.some.inj ei1
  obtain ⟨i2, ei2⟩ := isL_v ha2
  obtain rfl : w2 = (.long i2) := Option.some.inj ei2
  obtain ⟨i3, ei3⟩ := isL_v ha3
  obtain rfl : w3 = (.long i3) := Option.some.inj ei3
  obtain ⟨i4, ei4⟩ := isL_v ha4
  obtain rfl : w4 = (.long i4) := Option.some.inj ei4
  obtain ⟨i5, ei5⟩ := isL_v ha5
  obtain rfl : w5 = (.long i5) := Option.some.inj ei5
  obtain ⟨n, o, h1, h2, h3, _, L, rfl, ⟨rfl, N⟩, hq⟩ := rm0 l s _ hw tables_1 i0 i1 i2 i3 i4 i5  s.heap s.heap.size (Nat.le_refl _)  p e ha hc hk s m _ below hf ((Spec.applies_iff_loose hf).mp happ).1 ⟨rfl, State.Warmed39.refl s, rfl⟩ trivial
  refine ⟨n, _, h1, h2, h3, hpost _ _ _ _ _ _ ⟨Cond.after_iff.mpr rfl, Cond.after_iff.mpr (eq_i res_at (Term.int_eval (1)) rfl), trivial⟩ ⟨hq.1, hq.2.1, (hq.2.2.sift fun y hy => Or.inr (N y hy)).mono (by decide) (by decide)⟩⟩
theorem main_1_1 : Claimed_1_1 := comes_1 fun _ _ _ _ _ _ h hF => ⟨h.1, hF⟩
theorem main_1_2 : Claimed_1_2 := comes_1 fun _ _ _ _ _ _ h hF => ⟨h.2.1, hF⟩
end Jvm.Pilot.@@N@@
namespace Jvm.Pilot.@@N@@
open Jvm Jvm.ClassFile Sem Op Lib Jvm.Free Jvm.Stand Jvm.Pilot.@@N@@.Jvm.D
/-! MADE BY PROGRAM (witnessworld.py) out of the Statement's table words and the real class files: 9 classes; the members and pool entries that the words name. The judged class is class 1, her method 1. -/
namespace start1
open Jvm.ClassFile
def u (s : String) : CpInfo := .utf8 (stringToUtf16 s)
/-- a pool by its gaps: so many unusable entries, then the entry; so many at the end -/
def gap : Nat → List CpInfo → List CpInfo
  | 0, r => r
  | n + 1, r => .unusable :: gap n r
def poolList (es : List (Nat × CpInfo)) (last : Nat) : List CpInfo := es.foldr (fun e r => gap e.1 (e.2 :: r)) (gap last [])
def pool (es : List (Nat × CpInfo)) (last : Nat) : Array CpInfo := ⟨poolList es last⟩
def fileOf (pool : Array CpInfo) (this : Nat) (attrs : Array Attribute := #[]) (ms : Array MethodInfo := #[]) (fl : Nat := 33) (sup : Nat := 0) (ifs : Array Nat := #[]) (fds : Array FieldInfo := #[]) : ClassFile where
  minorVersion := 0
  majorVersion := 65
  constantPool := pool
  accessFlags := fl
  thisClass := this
  superClass := sup
  interfaces := ifs
  fields := fds
  methods := ms
  attributes := attrs
def plain (name : String) (sup : Option ClassId) : Class where
  name := name
  kind := .ordinary
  loader := none
  accessFlags := 33
  super := sup
  interfaces := #[]
  cf := none
  fields := #[]
  methods := #[]
  instanceTypes := #[]
  staticTypes := #[]
  resolved := #[]
  callSites := []
  init := .initialized
  statics := none
  mirror := none

def pool0 : Array CpInfo := pool [(5, u "<init>"), (0, u "()V"), (1, .class_ 10), (1, u "java/lang/Object")] 113

def k0c0 : Code := { maxStack := 0, maxLocals := 1, code := object_method_1_code, exceptionTable := #[], attributes := #[] }
def k0m0 : Method := { name := "<init>", desc := "()V", sig := { parameters := [], returnType := none }, accessFlags := 1, code := some k0c0 }
/-- java/lang/Object -/
def k0 : Class := { plain "java/lang/Object" none with
  accessFlags := 33
  interfaces := #[]
  cf := some (fileOf pool0 8 #[] #[{ accessFlags := 1, nameIndex := 5, descriptorIndex := 6, attributes := #[] }] 33 0 #[] #[])
  fields := #[]
  methods := #[k0m0]
  instanceTypes := #[]
  staticTypes := #[]
  resolved := Array.replicate 124 none
  statics := none }

def pool1 : Array CpInfo := pool [(2, .class_ 4), (1, u "java/lang/Object"), (0, u "<init>"), (0, u "()V"), (0, .class_ 8), (0, u "com/example/thingvellir/thingvellir/quorum/Vote"), (0, .methodref 7 10), (0, .nameAndType 5 11), (0, u "(IJJ)V"), (0, .methodref 7 13), (0, .nameAndType 14 15), (0, u "beats"), (0, u "(Lcom/example/thingvellir/thingvellir/quorum/Vote;)Z"), (0, .class_ 17), (0, u "com/example/thingvellir/thingvellir/quorum/VoteBeatsPinLaw"), (2, u "law"), (0, u "(IIJJJJ)Z")] 3

def k1m0 : Method := { name := "<init>", desc := "()V", sig := { parameters := [], returnType := none }, accessFlags := 1, code := none }
def k1c1 : Code := { maxStack := 7, maxLocals := 18, code := code, exceptionTable := #[], attributes := #[] }
def k1m1 : Method := { name := "law", desc := "(IIJJJJ)Z", sig := { parameters := [.int, .int, .long, .long, .long, .long], returnType := some .boolean }, accessFlags := 9, code := some k1c1 }
/-- com/example/thingvellir/thingvellir/quorum/VoteBeatsPinLaw -/
def k1 : Class := { plain "com/example/thingvellir/thingvellir/quorum/VoteBeatsPinLaw" (some 0) with
  accessFlags := 49
  interfaces := #[]
  cf := some (fileOf pool1 16 #[] #[{ accessFlags := 1, nameIndex := 5, descriptorIndex := 6, attributes := #[] }, { accessFlags := 9, nameIndex := 20, descriptorIndex := 21, attributes := #[] }] 49 2 #[] #[])
  fields := #[]
  methods := #[k1m0, k1m1]
  instanceTypes := #[]
  staticTypes := #[]
  resolved := Array.replicate 25 none
  statics := none }

def pool2 : Array CpInfo := pool [(1, .methodref 2 3), (0, .class_ 4), (0, .nameAndType 5 6), (0, u "java/lang/Object"), (0, u "<init>"), (0, u "()V"), (0, .fieldref 8 9), (0, .class_ 10), (0, .nameAndType 11 12), (0, u "com/example/thingvellir/thingvellir/quorum/Vote"), (0, u "leader"), (0, u "I"), (0, .fieldref 8 14), (0, .nameAndType 15 16), (0, u "zxid"), (0, u "J"), (0, .fieldref 8 18), (0, .nameAndType 19 16), (0, u "epoch"), (29, u "(IJJ)V"), (7, u "beats"), (0, u "(Lcom/example/thingvellir/thingvellir/quorum/Vote;)Z")] 23

def k2c0 : Code := { maxStack := 3, maxLocals := 6, code := prog_9_method_1_code, exceptionTable := #[], attributes := #[] }
def k2m0 : Method := { name := "<init>", desc := "(IJJ)V", sig := { parameters := [.int, .long, .long], returnType := none }, accessFlags := 0, code := some k2c0 }
def k2c1 : Code := { maxStack := 4, maxLocals := 3, code := prog_9_method_5_code, exceptionTable := #[], attributes := #[] }
def k2m1 : Method := { name := "beats", desc := "(Lcom/example/thingvellir/thingvellir/quorum/Vote;)Z", sig := { parameters := [(.object "com/example/thingvellir/thingvellir/quorum/Vote")], returnType := some .boolean }, accessFlags := 0, code := some k2c1 }
/-- com/example/thingvellir/thingvellir/quorum/Vote -/
def k2 : Class := { plain "com/example/thingvellir/thingvellir/quorum/Vote" (some 0) with
  accessFlags := 32
  interfaces := #[]
  cf := some (fileOf pool2 8 #[] #[{ accessFlags := 0, nameIndex := 5, descriptorIndex := 49, attributes := #[] }, { accessFlags := 0, nameIndex := 57, descriptorIndex := 58, attributes := #[] }] 32 2 #[] #[{ accessFlags := 18, nameIndex := 11, descriptorIndex := 12, attributes := #[] }, { accessFlags := 18, nameIndex := 15, descriptorIndex := 16, attributes := #[] }, { accessFlags := 18, nameIndex := 19, descriptorIndex := 16, attributes := #[] }])
  fields := #[{ name := "leader", type := .int, accessFlags := 18, slot := 0, constantValue := 0 }, { name := "zxid", type := .long, accessFlags := 18, slot := 1, constantValue := 0 }, { name := "epoch", type := .long, accessFlags := 18, slot := 2, constantValue := 0 }]
  methods := #[k2m0, k2m1]
  instanceTypes := #[.int, .long, .long]
  staticTypes := #[]
  resolved := Array.replicate 82 none
  statics := none }

def pool3 : Array CpInfo := pool [(1, u "java/lang/Cloneable"), (0, .class_ 1), (0, u "java/lang/Object"), (0, .class_ 3)] 3

/-- java/lang/Cloneable -/
def k3 : Class := { plain "java/lang/Cloneable" (some 0) with
  accessFlags := 1537
  interfaces := #[]
  cf := some (fileOf pool3 2 #[] #[] 1537 4 #[] #[])
  fields := #[]
  methods := #[]
  instanceTypes := #[]
  staticTypes := #[]
  resolved := Array.replicate 8 none
  statics := none }

def pool4 : Array CpInfo := pool [(1, u "java/io/Serializable"), (0, .class_ 1), (0, u "java/lang/Object"), (0, .class_ 3)] 3

/-- java/io/Serializable -/
def k4 : Class := { plain "java/io/Serializable" (some 0) with
  accessFlags := 1537
  interfaces := #[]
  cf := some (fileOf pool4 2 #[] #[] 1537 4 #[] #[])
  fields := #[]
  methods := #[]
  instanceTypes := #[]
  staticTypes := #[]
  resolved := Array.replicate 8 none
  statics := none }

/-- the primitive byte -/
def k5 : Class := { plain "byte" none with kind := .primitive 'B', accessFlags := 0x411 }
/-- [B -/
def k6 : Class := { plain "[B" (some 0) with kind := .array 5 .byte, interfaces := #[3, 4], accessFlags := 1041 }

/-- the primitive int -/
def k7 : Class := { plain "int" none with kind := .primitive 'I', accessFlags := 0x411 }
/-- [I -/
def k8 : Class := { plain "[I" (some 0) with kind := .array 7 .int, interfaces := #[3, 4], accessFlags := 1041 }

def heap : Heap := #[]
def classes : Array Class := #[k0, k1, k2, k3, k4, k5, k6, k7, k8]
def interned : List (Array UInt16 × Addr) := []
def slotsUsed : Nat := 0
def theMethod : MethodId := ⟨1, 1⟩
def args0 : Array Value := #[.int 5, .int 1, .long 4, .long 5, .long 6, .long 7]
def aboutOver (below : List Frame) : State where
  vm := { classes := classes, interned := interned.toArray }
  heap := heap
  slotsUsed := slotsUsed
  threads := #[{ frames := .invoking theMethod args0 :: below }]
def below0 : List Frame := [.native { method := ⟨0, 0⟩, args := #[] }]
def about1 : State := aboutOver below0
def p0 : Program := .bare "" "" ""
def e0 : Env := launch0.env 0 0 0
theorem w_frames : about1.frames = Frame.invoking theMethod args0 :: below0 := rfl
set_option maxRecDepth 65536 in
theorem w_args : argsFit about1.vm theMethod args0 = true := by decide +kernel
set_option maxRecDepth 65536 in
theorem w_heap : heapFits about1 = true := by decide +kernel
set_option maxRecDepth 65536 in
theorem w_runnable : about1.curStatus? = some .runnable := by decide +kernel
set_option maxRecDepth 65536 in
theorem w_alone : about1.alone = true := by decide +kernel
set_option maxRecDepth 65536 in
theorem w_named : about1.methodNamed? x = some theMethod := by decide +kernel
set_option maxRecDepth 65536 in
theorem w_hears : about1.hears theMethod below0 = true := by decide +kernel
set_option maxRecDepth 65536 in
theorem w_ripe : about1.ripe theMethod args0 below0 = true := by decide +kernel
theorem w_running : about1.status = .running := rfl
set_option maxRecDepth 65536 in
theorem w_room : about1.hasRoom e0.platform room_1 = true :=
  launch0.hasRoom_least _ room_1 (by decide +kernel) (by decide +kernel) (by decide +kernel) (by decide +kernel) (by decide +kernel) (by decide +kernel)
theorem allAtoms_all (ts : List Jvm.Cond) (a : Array Jvm.Value) (st : Jvm.State) : (allAtoms ts).before a st = ts.all (fun c => c.before a st) := by
  induction ts with
  | nil => rfl
  | cons c t ih =>
    show (Jvm.Cond.and c (allAtoms t)).before a st = _
    rw [Jvm.Cond.before_and, ih, List.all_cons]
def words1 : List Jvm.Cond := Jvm.Cond.code x code maxLocals ret :: tables_1
/-- a 'code' word, met by the world's own term for the bytes: nothing is compared byte by byte -/
theorem code_word {y : MethodName} {bytes : ByteArray} {mx : Nat} {rt : Option FieldType} {a : Array Value} {s : State} {m : MethodId} {meth : Method} {c : Code} (h1 : s.methodNamed? y = some m) (h2 : s.vm.method? m = some meth) (h3 : meth.code = some c) (h4 : c.code = bytes)
    (h5 : (c.maxLocals == mx && c.exceptionTable.isEmpty && decide (c.maxStack ≤ mostOperands) && decide (meth.sig.returnType = rt) && !meth.locks && decide (parseMethodDescriptor y.desc = some meth.sig)) = true) : (Jvm.Cond.code y bytes mx rt).before a s = true := by
  simp only [Bool.and_eq_true, beq_iff_eq, Bool.not_eq_true', decide_eq_true_eq] at h5
  obtain ⟨⟨⟨⟨⟨g1, g2⟩, g3⟩, g4⟩, g5⟩, g6⟩ := h5
  simp [Cond.before, Cond.holds, Cond.value, h1, h2, h3, h4, g1, g2, g3, g4, g5, g6]
def isCode : Jvm.Cond → Bool
  | .code _ _ _ _ => true
  | _ => false
theorem all_split {L : List Jvm.Cond} {P : Jvm.Cond → Bool} (h1 : L.all (fun c => isCode c || P c) = true) (h2 : ∀ c ∈ L.filter isCode, P c = true) : L.all P = true := by
  refine List.all_eq_true.mpr fun c hc => ?_
  have h := List.all_eq_true.mp h1 c hc
  rcases Bool.eq_false_or_eq_true (isCode c) with hi | hi
  · exact h2 c (List.mem_filter.mpr ⟨hc, hi⟩)
  · simpa [hi] using h
set_option maxRecDepth 65536 in
theorem w_c0 : (Jvm.Cond.code x code maxLocals ret).before args0 about1 = true := code_word (m := ⟨1, 1⟩) (meth := k1m1) (c := k1c1) (by decide +kernel) rfl rfl rfl (by decide +kernel)
set_option maxRecDepth 65536 in
theorem w_c1 : (Jvm.Cond.code ({ cls := "com/example/thingvellir/thingvellir/quorum/Vote", name := "<init>", desc := "(IJJ)V" } : Jvm.MethodName) prog_9_method_1_code (6 : Nat) (Option.none : Option Jvm.ClassFile.FieldType)).before args0 about1 = true := code_word (m := ⟨2, 0⟩) (meth := k2m0) (c := k2c0) (by decide +kernel) rfl rfl rfl (by decide +kernel)
set_option maxRecDepth 65536 in
theorem w_c2 : (Jvm.Cond.code ({ cls := "java/lang/Object", name := "<init>", desc := "()V" } : Jvm.MethodName) object_method_1_code (1 : Nat) (Option.none : Option Jvm.ClassFile.FieldType)).before args0 about1 = true := code_word (m := ⟨0, 0⟩) (meth := k0m0) (c := k0c0) (by decide +kernel) rfl rfl rfl (by decide +kernel)
set_option maxRecDepth 65536 in
theorem w_c3 : (Jvm.Cond.code ({ cls := "com/example/thingvellir/thingvellir/quorum/Vote", name := "beats", desc := "(Lcom/example/thingvellir/thingvellir/quorum/Vote;)Z" } : Jvm.MethodName) prog_9_method_5_code (3 : Nat) (Option.some Jvm.ClassFile.FieldType.boolean)).before args0 about1 = true := code_word (m := ⟨2, 1⟩) (meth := k2m1) (c := k2c1) (by decide +kernel) rfl rfl rfl (by decide +kernel)
def codes1 : List Jvm.Cond := [Jvm.Cond.code x code maxLocals ret, Jvm.Cond.code ({ cls := "com/example/thingvellir/thingvellir/quorum/Vote", name := "<init>", desc := "(IJJ)V" } : Jvm.MethodName) prog_9_method_1_code (6 : Nat) (Option.none : Option Jvm.ClassFile.FieldType), Jvm.Cond.code ({ cls := "java/lang/Object", name := "<init>", desc := "()V" } : Jvm.MethodName) object_method_1_code (1 : Nat) (Option.none : Option Jvm.ClassFile.FieldType), Jvm.Cond.code ({ cls := "com/example/thingvellir/thingvellir/quorum/Vote", name := "beats", desc := "(Lcom/example/thingvellir/thingvellir/quorum/Vote;)Z" } : Jvm.MethodName) prog_9_method_5_code (3 : Nat) (Option.some Jvm.ClassFile.FieldType.boolean)]
set_option maxRecDepth 65536 in
theorem codes_eq : words1.filter isCode = codes1 := rfl
theorem w_codes : ∀ c ∈ words1.filter isCode, c.before args0 about1 = true := by
  rw [codes_eq]
  intro c hc
  simp only [codes1, List.mem_cons, List.not_mem_nil, or_false] at hc
  rcases hc with rfl | rfl | rfl | rfl
  · exact w_c0
  · exact w_c1
  · exact w_c2
  · exact w_c3
set_option maxRecDepth 65536 in
theorem w_t1 : words1.all (fun c => isCode c || c.before args0 about1) = true := by decide +kernel
theorem w_tables : (allAtoms (Jvm.Cond.code x code maxLocals ret :: tables_1)).before args0 about1 = true := by
  rw [allAtoms_all]
  show words1.all (fun c => c.before args0 about1) = true
  refine all_split ?_ w_codes
  rw [w_t1]
set_option maxRecDepth 65536 in
theorem w_case : (Jvm.Cond.and given_1 narrow_1).before args0 about1 = true := by decide +kernel
theorem w_applies : (headSpec (Jvm.Cond.code x code maxLocals ret :: tables_1) room_1).applies x e0.platform about1 = true :=
  (Spec.applies_iff w_frames).mpr ⟨w_running, w_runnable, w_alone, w_named, w_hears, w_ripe, w_room, w_tables⟩
theorem atStart : AtStart classFile x code maxLocals ret World_1 tables_1 room_1 Calls_1 rest_1 Pre_1 launch0 p0 e0 about1 theMethod args0 below0 :=
  ⟨lists_1, trivial, launch0.admits_env _ _ _, launch0.least_env, fairChoices_fair.cas, fairChoices_fair.clock, w_frames, w_args, w_heap, w_applies, trivial, trivial, w_case⟩
end start1
theorem witness_1 : WitnessClaimed_1 := ⟨start1.p0, start1.e0, start1.about1, start1.theMethod, start1.args0, start1.below0, start1.atStart⟩
end Jvm.Pilot.@@N@@
