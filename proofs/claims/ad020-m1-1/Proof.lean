import JvmDerived
import JvmDerived.Pilot.@@N@@Statement
import JvmDerived.Pilot.@@N@@Code
set_option linter.unusedVariables false
set_option linter.unusedSimpArgs false
namespace Jvm.RoadKit
open Sem ClassFile Op Lib Jvm.Stand Jvm.Free Jvm.LawKit
section New
variable {p : Program} {l : Launch} {e : Env} {R : Room} {s : State} {m : MethodId} {args : Array Value} {below : List Frame} {meth : Method} {c : Code} {T : State} {locs : List Loc} {cells slots : Nat}
theorem retI (X : Stand p l e R s m args below meth c T locs cells slots) (hx : p.tables.exec = Jvm.exec) {pc : Nat} {Ls : Array Slot} {z : Int32} {rest : List Value} (hret : meth.sig.returnType = some .int) (hd : decode c.code pc = .ok (.ireturn, 1)) {fs : List Frame}
    (hl : ∀ (f : JFrame) (acts : List Action), f.method = m → f.locked = none → f.entered = [] → (doReturn e (T.setTop f) acts (some (.int z))).1 = T.setFrames fs) : Steps p.tables e below (T.setTop (mkF m pc Ls (.int z :: rest))) (T.setFrames fs) :=
  retOut X hx hret rfl (Or.inl ⟨rfl, Or.inl rfl, z, rfl⟩) hd hl
theorem retJ (X : Stand p l e R s m args below meth c T locs cells slots) (hx : p.tables.exec = Jvm.exec) {pc : Nat} {Ls : Array Slot} {z : Int64} {rest : List Value} (hret : meth.sig.returnType = some .long) (hd : decode c.code pc = .ok (.lreturn, 1)) {fs : List Frame}
    (hl : ∀ (f : JFrame) (acts : List Action), f.method = m → f.locked = none → f.entered = [] → (doReturn e (T.setTop f) acts (some (.long z))).1 = T.setFrames fs) : Steps p.tables e below (T.setTop (mkF m pc Ls (.long z :: rest))) (T.setFrames fs) :=
  retOut X hx hret rfl (Or.inr (Or.inl ⟨rfl, rfl, z, rfl⟩)) hd hl
theorem retA (X : Stand p l e R s m args below meth c T locs cells slots) (hx : p.tables.exec = Jvm.exec) {pc : Nat} {Ls : Array Slot} {w : Value} {t : FieldType} {rest : List Value} (hret : meth.sig.returnType = some t) (hd : decode c.code pc = .ok (.areturn, 1)) {fs : List Frame}
    (hl : ∀ (f : JFrame) (acts : List Action), f.method = m → f.locked = none → f.entered = [] → (doReturn e (T.setTop f) acts (some w)).1 = T.setFrames fs) (ht : t.isReference = true) (hw : w.isRef = true) : Steps p.tables e below (T.setTop (mkF m pc Ls (w :: rest))) (T.setFrames fs) :=
  retOut X hx hret (by cases t <;> first | rfl | (cases ht; done)) (Or.inr (Or.inr (Or.inr (Or.inr ⟨rfl, ht, hw⟩)))) hd hl
/-- from the state S on, the body runs to its end and leaves what Q says -/
def Gz (p : Program) (e : Env) (below : List Frame) (s : State) (C N : Nat) (Q : Option Value → Heap → List Loc → Prop) (S : State) : Prop :=
  ∃ s₂ o, Steps p.tables e below S s₂ ∧ s₂.status = .running ∧ Ended s₂ below o ∧ ∃ v L, o = .returned v ∧ Q v s₂.heap L ∧ FrameEnd s o s₂ L C N
variable {C N : Nat} {Q : Option Value → Heap → List Loc → Prop} {S S' : State}
theorem Gz.st (k : ∀ t, Steps p.tables e below S' t → Steps p.tables e below S t) (h : Gz p e below s C N Q S') : Gz p e below s C N Q S := by
  obtain ⟨s₂, o, h1, h2⟩ := h
  exact ⟨s₂, o, k _ h1, h2⟩
theorem Gz.tr (k : Steps p.tables e below S S') (h : Gz p e below s C N Q S') : Gz p e below s C N Q S := by
  obtain ⟨s₂, o, h1, h2⟩ := h
  exact ⟨s₂, o, k.trans h1, h2⟩
variable {pc : Nat} {Ls : Array Slot} {st : List Value} {Z : State} {a0 : Array Value} {hh : Heap}
theorem Gz.iloadN (n : Nat) {k : Fin 4} {v : Int32} (X : Stand p l e R s m args below meth c T locs cells slots) (hx : p.tables.exec = Jvm.exec) (hd : decode c.code pc = .ok (.iload_n k, 1)) (hl : Ls[k.val]? = some (.val (.int v))) (q : pc + 1 = n) (h : Gz p e below s C N Q (T.setTop (mkF m n Ls (.int v :: st)))) : Gz p e below s C N Q (T.setTop (mkF m pc Ls st)) := by subst q; exact Gz.st (fun t k => XS.iloadN X.here hx rfl hd hl k) h
theorem Gz.iload (n : Nat) {k : Nat} {v : Int32} (X : Stand p l e R s m args below meth c T locs cells slots) (hx : p.tables.exec = Jvm.exec) (hd : decode c.code pc = .ok (.iload k, 2)) (hl : Ls[k]? = some (.val (.int v))) (q : pc + 2 = n) (h : Gz p e below s C N Q (T.setTop (mkF m n Ls (.int v :: st)))) : Gz p e below s C N Q (T.setTop (mkF m pc Ls st)) := by subst q; exact Gz.st (fun t k => XS.iload X.here hx rfl hd hl k) h
theorem Gz.istoreN (n : Nat) (l' : Array Slot) {k : Fin 4} {v : Int32} (X : Stand p l e R s m args below meth c T locs cells slots) (hx : p.tables.exec = Jvm.exec) (hd : decode c.code pc = .ok (.istore_n k, 1)) (hl : storeLocals Ls k.val (.int v) = some l') (q : pc + 1 = n) (h : Gz p e below s C N Q (T.setTop (mkF m n l' st))) : Gz p e below s C N Q (T.setTop (mkF m pc Ls (.int v :: st))) := by subst q; exact Gz.st (fun t k => XS.istoreN X.here hx rfl hd rfl hl k) h
theorem Gz.istore (n : Nat) (l' : Array Slot) {k : Nat} {v : Int32} (X : Stand p l e R s m args below meth c T locs cells slots) (hx : p.tables.exec = Jvm.exec) (hd : decode c.code pc = .ok (.istore k, 2)) (hl : storeLocals Ls k (.int v) = some l') (q : pc + 2 = n) (h : Gz p e below s C N Q (T.setTop (mkF m n l' st))) : Gz p e below s C N Q (T.setTop (mkF m pc Ls (.int v :: st))) := by subst q; exact Gz.st (fun t k => XS.istore X.here hx rfl hd rfl hl k) h
theorem Gz.aloadN (n : Nat) {k : Fin 4} {v : Value} (X : Stand p l e R s m args below meth c T locs cells slots) (hx : p.tables.exec = Jvm.exec) (hd : decode c.code pc = .ok (.aload_n k, 1)) (hl : Ls[k.val]? = some (.val v)) (hv : v.isRef = true) (q : pc + 1 = n) (h : Gz p e below s C N Q (T.setTop (mkF m n Ls (v :: st)))) : Gz p e below s C N Q (T.setTop (mkF m pc Ls st)) := by subst q; exact Gz.st (fun t k => XS.aloadN X.here hx rfl hd hl hv k) h
theorem Gz.aload (n : Nat) {k : Nat} {v : Value} (X : Stand p l e R s m args below meth c T locs cells slots) (hx : p.tables.exec = Jvm.exec) (hd : decode c.code pc = .ok (.aload k, 2)) (hl : Ls[k]? = some (.val v)) (hv : v.isRef = true) (q : pc + 2 = n) (h : Gz p e below s C N Q (T.setTop (mkF m n Ls (v :: st)))) : Gz p e below s C N Q (T.setTop (mkF m pc Ls st)) := by subst q; exact Gz.st (fun t k => XS.aload X.here hx rfl hd hl hv k) h
theorem Gz.astoreN (n : Nat) (l' : Array Slot) {k : Fin 4} {v : Value} (X : Stand p l e R s m args below meth c T locs cells slots) (hx : p.tables.exec = Jvm.exec) (hd : decode c.code pc = .ok (.astore_n k, 1)) (hl : storeLocals Ls k.val v = some l') (hv : v.isRef = true) (q : pc + 1 = n) (h : Gz p e below s C N Q (T.setTop (mkF m n l' st))) : Gz p e below s C N Q (T.setTop (mkF m pc Ls (v :: st))) := by subst q; exact Gz.st (fun t k => XS.astoreN X.here hx rfl hd rfl hv hl k) h
theorem Gz.astore (n : Nat) (l' : Array Slot) {k : Nat} {v : Value} (X : Stand p l e R s m args below meth c T locs cells slots) (hx : p.tables.exec = Jvm.exec) (hd : decode c.code pc = .ok (.astore k, 2)) (hl : storeLocals Ls k v = some l') (hv : v.isRef = true) (q : pc + 2 = n) (h : Gz p e below s C N Q (T.setTop (mkF m n l' st))) : Gz p e below s C N Q (T.setTop (mkF m pc Ls (v :: st))) := by subst q; exact Gz.st (fun t k => XS.astore X.here hx rfl hd rfl hv hl k) h
theorem Gz.iconst (n : Nat) (v : Int32) (X : Stand p l e R s m args below meth c T locs cells slots) (hx : p.tables.exec = Jvm.exec) {i : Int} (hd : decode c.code pc = .ok (.iconst i, 1)) (hv : Int32.ofInt i = v) (q : pc + 1 = n) (h : Gz p e below s C N Q (T.setTop (mkF m n Ls (.int v :: st)))) : Gz p e below s C N Q (T.setTop (mkF m pc Ls st)) := by subst q hv; exact Gz.st (fun t k => XS.iconst X.here hx rfl hd k) h
theorem Gz.iand (n : Nat) {x y : Int32} (X : Stand p l e R s m args below meth c T locs cells slots) (hx : p.tables.exec = Jvm.exec) (hd : decode c.code pc = .ok (.iand, 1))  (q : pc + 1 = n) (h : Gz p e below s C N Q (T.setTop (mkF m n Ls (.int (x &&& y) :: st)))) : Gz p e below s C N Q (T.setTop (mkF m pc Ls (.int y :: .int x :: st))) := by subst q; exact Gz.st (fun t k => XS.iand X.here hx rfl hd rfl k) h
theorem Gz.goto (n : Nat) (X : Stand p l e R s m args below meth c T locs cells slots) (hx : p.tables.exec = Jvm.exec) {o : Int} (hd : decode c.code pc = .ok (.goto o, 3)) (ho : 0 ≤ (pc : Int) + o) (q : ((pc : Int) + o).toNat = n) (h : Gz p e below s C N Q (T.setTop (mkF m n Ls st))) : Gz p e below s C N Q (T.setTop (mkF m pc Ls st)) := Gz.st (fun t k => XS.goto X.here hx rfl (pc0 := pc) (pc' := n) rfl hd ho q k) h
theorem Gz.ifYes (n : Nat) (X : Stand p l e R s m args below meth c T locs cells slots) (hx : p.tables.exec = Jvm.exec) {cd : ClassFile.Cond} {x : Int32} {o : Int} (hd : decode c.code pc = .ok (.ifCond cd o, 3)) (hc : ifCond.holds cd x = true) (ho : 0 ≤ (pc : Int) + o) (q : ((pc : Int) + o).toNat = n) (h : Gz p e below s C N Q (T.setTop (mkF m n Ls st))) : Gz p e below s C N Q (T.setTop (mkF m pc Ls (.int x :: st))) := Gz.st (fun t k => XS.ifYes X.here hx rfl (pc0 := pc) (pc' := n) rfl hd rfl hc ho q k) h
theorem Gz.ifNo (n : Nat) (X : Stand p l e R s m args below meth c T locs cells slots) (hx : p.tables.exec = Jvm.exec) {cd : ClassFile.Cond} {x : Int32} {o : Int} (hd : decode c.code pc = .ok (.ifCond cd o, 3)) (hc : ifCond.holds cd x = false) (q : pc + 3 = n) (h : Gz p e below s C N Q (T.setTop (mkF m n Ls st))) : Gz p e below s C N Q (T.setTop (mkF m pc Ls (.int x :: st))) := by subst q; exact Gz.st (fun t k => XS.ifNo X.here hx rfl hd rfl hc k) h
theorem Gz.icmpNo (n : Nat) (X : Stand p l e R s m args below meth c T locs cells slots) (hx : p.tables.exec = Jvm.exec) {cd : ClassFile.Cond} {x y : Int32} {o : Int} (hd : decode c.code pc = .ok (.if_icmp cd o, 3)) (hc : if_icmp.holds cd x y = false) (q : pc + 3 = n) (h : Gz p e below s C N Q (T.setTop (mkF m n Ls st))) : Gz p e below s C N Q (T.setTop (mkF m pc Ls (.int y :: .int x :: st))) := by subst q; exact Gz.st (fun t k => XS.icmpNo X.here hx rfl hd rfl hc k) h
theorem Gz.acmp (n : Nat) (same : Bool) (X : Stand p l e R s m args below meth c T locs cells slots) (hx : p.tables.exec = Jvm.exec) {cd : ACond} {x y : Value} {o : Int} (hd : decode c.code pc = .ok (.if_acmp cd o, 3)) (h1 : x.isRef = true) (h2 : y.isRef = true) (hq : decide (x = y) = same) (ho : 0 ≤ (pc : Int) + o) (q : n = if acV cd same = true then ((pc : Int) + o).toNat else pc + 3) (h : Gz p e below s C N Q (T.setTop (mkF m n Ls st))) : Gz p e below s C N Q (T.setTop (mkF m pc Ls (y :: x :: st))) := Gz.st (fun t k => Jvm.RoadKit.acmp X hx rfl h1 h2 (pc0 := pc) (pc' := n) rfl hd rfl hq ho q k) h
theorem Gz.getS (n : Nat) (X : Stand p l e R s m args below meth c T locs cells slots) (hx : p.tables.exec = Jvm.exec) (hZ : Z.Warmed39 s.vm) {own : String} (hown : s.vm.findClass own = some m.cls) {R0 O nm d host : String} {ix : Nat} (hd : decode c.code pc = .ok (.getstatic ix, 3)) (w : (Cond.fieldLink own ix R0 nm d).before a0 Z = true ∨ (Cond.fieldLinkNest own ix R0 nm d host).before a0 Z = true) (via : Via Z R0 O nm d) (eT : T.heap = hh) {v : Value} (F : Sta Z hh O nm d v) (q : pc + 3 = n) (h : ∀ T', Stand p l e R s m args below meth c T' (locs) (cells) (slots) → T'.heap = hh → Gz p e below s C N Q (T'.setTop (mkF m n Ls (v :: st)))) : Gz p e below s C N Q (T.setTop (mkF m pc Ls st)) := by
  subst q
  obtain ⟨T', X', e', st'⟩ := getS2 X hx hZ hown w via eT F (g := mkF m pc Ls st) rfl hd
  exact Gz.st st' (h T' X' e')
theorem Gz.enter {g g' : JFrame} (q : g = g') (h : Gz p e below s C N Q (T.setTop g')) : Gz p e below s C N Q (T.setTop g) := q ▸ h
theorem Gz.fin (X : Stand p l e R s m args below meth c T locs cells slots) {v : Option Value} (hv : meth.sig.returnType = none → v = none) (hlocks : meth.locks = false) (hc : cells ≤ C) (hn : slots ≤ N)
    (hst : ∀ fs, (∀ (f : JFrame) (acts : List Action), f.method = m → f.locked = none → f.entered = [] → (doReturn e (T.setTop f) acts v).1 = T.setFrames fs) → Steps p.tables e below S (T.setFrames fs)) (hq : Q v T.heap locs) : Gz p e below s C N Q S := by
  obtain ⟨fs, hr, hrun, hended, hW, hsame⟩ := X.leave hv hlocks
  exact ⟨_, _, hst fs hr, hrun, hended, _, _, rfl, hq, ⟨_, rfl⟩, hW, hsame.mono hc hn⟩
theorem retNV (X : Stand p l e R s m args below meth c T locs cells slots) (hx : p.tables.exec = Jvm.exec) {pc : Nat} {Ls : Array Slot} {z w : Int32} {t : FieldType} {rest : List Value} (hret : meth.sig.returnType = some t) (ht : t = .boolean ∨ t = .byte ∨ t = .char ∨ t = .short)
    (hd : decode c.code pc = .ok (.ireturn, 1)) {fs : List Frame} (hl : ∀ (f : JFrame) (acts : List Action), f.method = m → f.locked = none → f.entered = [] → (doReturn e (T.setTop f) acts (some (.int w))).1 = T.setFrames fs) (hw : nar t z = w) :
    Steps p.tables e below (T.setTop (mkF m pc Ls (.int z :: rest))) (T.setFrames fs) := by subst hw; exact retN X hx hret ht hd hl
theorem own_nb (x : Int32) : nar .byte (x.toInt8.toInt32) = x.toInt8.toInt32 := by show (x.toInt8.toInt32).toInt8.toInt32 = _; simp
theorem lt_irr (x : Int32) : ¬ x < x := Int32.lt_irrefl
theorem own_fldI {a0 : Array Value} {Z : State} {t : Term} {a : Addr} {C n d : String} {k : Int32} (ev : t.eval a0 Z none [] Z = some (.ref a)) (h : (Cond.eq (.field t C n d) (.int k)).value a0 Z none Z [] = some true) : Fld Z Z.heap a C n d (.int k) := by
  obtain ⟨x, y, e1, e2, k1, k2⟩ := cmp_v (Or.inl h)
  cases Option.some.inj (e2.symm.trans (Term.int_eval k))
  obtain ⟨z, rfl⟩ := k2
  have q := gotT (Cond.eq_ints e1 (Term.int_eval k)) h
  subst q
  rw [fld_at ev] at e1
  exact Fld.start e1
theorem own_len {a0 : Array Value} {Z : State} {t : Term} {a : Addr} {cl : Cell} {ty : FieldType} {z : Int32} (ev : t.eval a0 Z none [] Z = some (.ref a)) (A : Arr Z Z.heap a cl ty) (h : (Cond.eq (.length t) (.int z)).value a0 Z none Z [] = some true) : cl.slots.size < 2 ^ 31 ∧ cl.slots.size.toInt32 = z := by
  obtain ⟨x, y, e1, e2, k1, k2⟩ := cmp_v (Or.inl h)
  obtain ⟨b, cell, f1, f2, f3, f4⟩ := Jvm.Lib.length_spec e1
  cases Option.some.inj (ev.symm.trans f1)
  cases f2.symm.trans (Arr.fin (U := Z) (Vm.Alike.refl _) A)
  subst f4
  exact ⟨f3, gotT (Cond.eq_ints e1 (Term.int_eval z)) h⟩
theorem own_el {a0 : Array Value} {Z : State} {t : Term} {a : Addr} {cl : Cell} {ty : FieldType} {j v : Int32} (ev : t.eval a0 Z none [] Z = some (.ref a)) (A : Arr Z Z.heap a cl ty) (h : (Cond.eq (.elem t (.int j)) (.int v)).value a0 Z none Z [] = some true) : cl.slots[j.toNatClampNeg]? = some (.int v) := by
  obtain ⟨x, y, e1, e2, k1, k2⟩ := cmp_v (Or.inl h)
  cases Option.some.inj (e2.symm.trans (Term.int_eval v))
  obtain ⟨z, rfl⟩ := k2
  have q := gotT (Cond.eq_ints e1 (Term.int_eval v)) h
  subst q
  exact (elem_in e1 ev (Term.int_eval j) A.1).2
end New
end Jvm.RoadKit
namespace Jvm.Pilot.@@N@@
open Jvm Jvm.ClassFile Sem Op Lib Jvm.Free Jvm.Stand Jvm.LawKit Jvm.RoadKit Bundle Jvm.Pilot.@@N@@.Jvm.D
theorem ww {av : Array Value} {Z : State} (hw : ∀ d ∈ tables_1, d.before av Z = true) (i : Nat) {d : Jvm.Cond} (h : tables_1[i]? = some d) : d.before av Z = true := hw _ (List.mem_of_getElem? h)
theorem own_nat (z : Int32) (n : Nat) (hn : n ≤ 2147483648) (h0 : 0 ≤ z.toInt) (h1 : z.toInt < n) : ∃ k : Nat, k < n ∧ z = Int32.ofNat k := by
  refine ⟨z.toInt.toNat, by omega, ?_⟩
  apply Int32.toInt_inj.mp
  rw [Int32.toInt_ofNat_of_lt (by omega)]
  omega
theorem own_i2c (z : Int32) (h0 : 0 ≤ z.toInt) (h1 : z.toInt < 65536) : z.toUInt32.toUInt16.toUInt32.toInt32 = z := by
  apply Int32.toInt_inj.mp
  have := c_i2c z
  omega
theorem own_asym32 {x y : Int32} (h : y < x) : ¬ x < y := fun q => by rw [Int32.lt_iff_toInt_lt] at *; omega
theorem own_asym64 {x y : Int64} (h : y < x) : ¬ x < y := fun q => by rw [Int64.lt_iff_toInt_lt] at *; omega
theorem own_irr32 {x y : Int32} (h : x = y) : ¬ x < y := fun q => by rw [Int32.lt_iff_toInt_lt] at *; subst h; omega
theorem own_irr64 {x y : Int64} (h : x = y) : ¬ x < y := fun q => by rw [Int64.lt_iff_toInt_lt] at *; subst h; omega
theorem own_tri32 {x y : Int32} (h : ¬ y < x) (g : ¬ x = y) : x < y := by
  rw [← Int32.toInt_inj] at g; rw [Int32.lt_iff_toInt_lt] at *; omega
theorem own_tri64 {x y : Int64} (h : ¬ y < x) (g : ¬ x = y) : x < y := by
  rw [← Int64.toInt_inj] at g; rw [Int64.lt_iff_toInt_lt] at *; omega
theorem own_nlt32 {x y : Int32} (h : x < y) : ¬ x = y := fun q => own_irr32 q h
theorem own_nlt64 {x y : Int64} (h : x < y) : ¬ x = y := fun q => own_irr64 q h
theorem own_ngt32 {x y : Int32} (h : y < x) : ¬ x = y := fun q => own_irr32 q.symm h
theorem own_ngt64 {x y : Int64} (h : y < x) : ¬ x = y := fun q => own_irr64 q.symm h
theorem own_both32 {x y : Int32} (h : ¬ x < y) (g : ¬ y < x) : x = y := by
  rw [← Int32.toInt_inj]; rw [Int32.lt_iff_toInt_lt] at *; omega
theorem own_both64 {x y : Int64} (h : ¬ x < y) (g : ¬ y < x) : x = y := by
  rw [← Int64.toInt_inj]; rw [Int64.lt_iff_toInt_lt] at *; omega
theorem own_rem (z d : Int32) (hd : d ≠ 0) (h0 : 0 ≤ z.toInt) (n : Nat) (hn : d.toInt = n) (hn2 : n ≤ 2147483648) : ∃ k : Nat, k < n ∧ z % d = Int32.ofNat k := by
  have hr := c_irem z d n hn
  have hn0 : n ≠ 0 := fun q => hd (Int32.toInt_inj.mp (by rw [hn, q]; rfl))
  have h1 := hr.1 h0
  have h2 : 0 ≤ z.toInt % (n : Int) := Int.emod_nonneg _ (by omega)
  have h3 : z.toInt % (n : Int) < n := Int.emod_lt_of_pos _ (by omega)
  exact own_nat _ n hn2 (by omega) (by omega)
theorem own_ALt32 {e j k : Int32} (h : e < j) (q : j.toInt ≤ k.toInt) : e < k := by
  rw [Int32.lt_iff_toInt_lt] at *; omega
theorem own_AGf32 {e j k : Int32} (h : e < j) (q : j.toInt ≤ k.toInt + 1) : ¬ k < e := by
  rw [Int32.lt_iff_toInt_lt] at *; omega
theorem own_AEf32 {e j k : Int32} (h : e < j) (q : j.toInt ≤ k.toInt) : ¬ e = k := by
  intro z; subst z; rw [Int32.lt_iff_toInt_lt] at h; omega
theorem own_BLf32 {e j k : Int32} (h : ¬ e < j) (q : k.toInt ≤ j.toInt) : ¬ e < k := by
  rw [Int32.lt_iff_toInt_lt] at *; omega
theorem own_BGt32 {e j k : Int32} (h : ¬ e < j) (q : k.toInt < j.toInt) : k < e := by
  rw [Int32.lt_iff_toInt_lt] at *; omega
theorem own_BEf32 {e j k : Int32} (h : ¬ e < j) (q : k.toInt < j.toInt) : ¬ e = k := by
  intro z; subst z; rw [Int32.lt_iff_toInt_lt] at h; omega
theorem own_CLf32 {e j k : Int32} (h : j < e) (q : k.toInt ≤ j.toInt + 1) : ¬ e < k := by
  rw [Int32.lt_iff_toInt_lt] at *; omega
theorem own_CGt32 {e j k : Int32} (h : j < e) (q : k.toInt ≤ j.toInt) : k < e := by
  rw [Int32.lt_iff_toInt_lt] at *; omega
theorem own_CEf32 {e j k : Int32} (h : j < e) (q : k.toInt ≤ j.toInt) : ¬ e = k := by
  intro z; subst z; rw [Int32.lt_iff_toInt_lt] at h; omega
theorem own_DLt32 {e j k : Int32} (h : ¬ j < e) (q : j.toInt < k.toInt) : e < k := by
  rw [Int32.lt_iff_toInt_lt] at *; omega
theorem own_DGf32 {e j k : Int32} (h : ¬ j < e) (q : j.toInt ≤ k.toInt) : ¬ k < e := by
  rw [Int32.lt_iff_toInt_lt] at *; omega
theorem own_DEf32 {e j k : Int32} (h : ¬ j < e) (q : j.toInt < k.toInt) : ¬ e = k := by
  intro z; subst z; rw [Int32.lt_iff_toInt_lt] at h; omega
theorem own_eqEt32 {e j k : Int32} (h : e = j) (q : j = k) : e = k := by rw [h]; exact q
theorem own_eqEf32 {e j k : Int32} (h : e = j) (q : ¬ j = k) : ¬ e = k := by rw [h]; exact q
theorem own_eqLt32 {e j k : Int32} (h : e = j) (q : j < k) : e < k := by rw [h]; exact q
theorem own_eqLf32 {e j k : Int32} (h : e = j) (q : ¬ j < k) : ¬ e < k := by rw [h]; exact q
theorem own_eqGt32 {e j k : Int32} (h : e = j) (q : k < j) : k < e := by rw [h]; exact q
theorem own_eqGf32 {e j k : Int32} (h : e = j) (q : ¬ k < j) : ¬ k < e := by rw [h]; exact q
theorem own_ALt64 {e j k : Int64} (h : e < j) (q : j.toInt ≤ k.toInt) : e < k := by
  rw [Int64.lt_iff_toInt_lt] at *; omega
theorem own_AGf64 {e j k : Int64} (h : e < j) (q : j.toInt ≤ k.toInt + 1) : ¬ k < e := by
  rw [Int64.lt_iff_toInt_lt] at *; omega
theorem own_AEf64 {e j k : Int64} (h : e < j) (q : j.toInt ≤ k.toInt) : ¬ e = k := by
  intro z; subst z; rw [Int64.lt_iff_toInt_lt] at h; omega
theorem own_BLf64 {e j k : Int64} (h : ¬ e < j) (q : k.toInt ≤ j.toInt) : ¬ e < k := by
  rw [Int64.lt_iff_toInt_lt] at *; omega
theorem own_BGt64 {e j k : Int64} (h : ¬ e < j) (q : k.toInt < j.toInt) : k < e := by
  rw [Int64.lt_iff_toInt_lt] at *; omega
theorem own_BEf64 {e j k : Int64} (h : ¬ e < j) (q : k.toInt < j.toInt) : ¬ e = k := by
  intro z; subst z; rw [Int64.lt_iff_toInt_lt] at h; omega
theorem own_CLf64 {e j k : Int64} (h : j < e) (q : k.toInt ≤ j.toInt + 1) : ¬ e < k := by
  rw [Int64.lt_iff_toInt_lt] at *; omega
theorem own_CGt64 {e j k : Int64} (h : j < e) (q : k.toInt ≤ j.toInt) : k < e := by
  rw [Int64.lt_iff_toInt_lt] at *; omega
theorem own_CEf64 {e j k : Int64} (h : j < e) (q : k.toInt ≤ j.toInt) : ¬ e = k := by
  intro z; subst z; rw [Int64.lt_iff_toInt_lt] at h; omega
theorem own_DLt64 {e j k : Int64} (h : ¬ j < e) (q : j.toInt < k.toInt) : e < k := by
  rw [Int64.lt_iff_toInt_lt] at *; omega
theorem own_DGf64 {e j k : Int64} (h : ¬ j < e) (q : j.toInt ≤ k.toInt) : ¬ k < e := by
  rw [Int64.lt_iff_toInt_lt] at *; omega
theorem own_DEf64 {e j k : Int64} (h : ¬ j < e) (q : j.toInt < k.toInt) : ¬ e = k := by
  intro z; subst z; rw [Int64.lt_iff_toInt_lt] at h; omega
theorem own_eqEt64 {e j k : Int64} (h : e = j) (q : j = k) : e = k := by rw [h]; exact q
theorem own_eqEf64 {e j k : Int64} (h : e = j) (q : ¬ j = k) : ¬ e = k := by rw [h]; exact q
theorem own_eqLt64 {e j k : Int64} (h : e = j) (q : j < k) : e < k := by rw [h]; exact q
theorem own_eqLf64 {e j k : Int64} (h : e = j) (q : ¬ j < k) : ¬ e < k := by rw [h]; exact q
theorem own_eqGt64 {e j k : Int64} (h : e = j) (q : k < j) : k < e := by rw [h]; exact q
theorem own_eqGf64 {e j k : Int64} (h : e = j) (q : ¬ k < j) : ¬ k < e := by rw [h]; exact q
theorem d1_0 : decode prog_19_method_6_code 0 = .ok (.aload_n 0, 1) := by decide +kernel
theorem d1_1 : decode prog_19_method_6_code 1 = .ok (.getstatic 3, 3) := by decide +kernel
theorem d1_4 : decode prog_19_method_6_code 4 = .ok (.if_acmp .ne 20, 3) := by decide +kernel
theorem d1_7 : decode prog_19_method_6_code 7 = .ok (.iload_n 1, 1) := by decide +kernel
theorem d1_8 : decode prog_19_method_6_code 8 = .ok (.ifCond .eq 11, 3) := by decide +kernel
theorem d1_11 : decode prog_19_method_6_code 11 = .ok (.iload_n 2, 1) := by decide +kernel
theorem d1_12 : decode prog_19_method_6_code 12 = .ok (.ifCond .eq 7, 3) := by decide +kernel
theorem d1_15 : decode prog_19_method_6_code 15 = .ok (.iconst 1, 1) := by decide +kernel
theorem d1_16 : decode prog_19_method_6_code 16 = .ok (.goto 4, 3) := by decide +kernel
theorem d1_19 : decode prog_19_method_6_code 19 = .ok (.iconst 0, 1) := by decide +kernel
theorem d1_20 : decode prog_19_method_6_code 20 = .ok (.istore_n 3, 1) := by decide +kernel
theorem d1_21 : decode prog_19_method_6_code 21 = .ok (.goto 41, 3) := by decide +kernel
theorem d1_24 : decode prog_19_method_6_code 24 = .ok (.aload_n 0, 1) := by decide +kernel
theorem d1_25 : decode prog_19_method_6_code 25 = .ok (.getstatic 7, 3) := by decide +kernel
theorem d1_28 : decode prog_19_method_6_code 28 = .ok (.if_acmp .ne 20, 3) := by decide +kernel
theorem d1_31 : decode prog_19_method_6_code 31 = .ok (.iload_n 1, 1) := by decide +kernel
theorem d1_32 : decode prog_19_method_6_code 32 = .ok (.ifCond .ne 7, 3) := by decide +kernel
theorem d1_35 : decode prog_19_method_6_code 35 = .ok (.iload_n 2, 1) := by decide +kernel
theorem d1_36 : decode prog_19_method_6_code 36 = .ok (.ifCond .eq 7, 3) := by decide +kernel
theorem d1_39 : decode prog_19_method_6_code 39 = .ok (.iconst 1, 1) := by decide +kernel
theorem d1_40 : decode prog_19_method_6_code 40 = .ok (.goto 4, 3) := by decide +kernel
theorem d1_43 : decode prog_19_method_6_code 43 = .ok (.iconst 0, 1) := by decide +kernel
theorem d1_44 : decode prog_19_method_6_code 44 = .ok (.istore_n 3, 1) := by decide +kernel
theorem d1_45 : decode prog_19_method_6_code 45 = .ok (.goto 17, 3) := by decide +kernel
theorem d1_48 : decode prog_19_method_6_code 48 = .ok (.iload_n 1, 1) := by decide +kernel
theorem d1_49 : decode prog_19_method_6_code 49 = .ok (.ifCond .eq 11, 3) := by decide +kernel
theorem d1_52 : decode prog_19_method_6_code 52 = .ok (.iload_n 2, 1) := by decide +kernel
theorem d1_53 : decode prog_19_method_6_code 53 = .ok (.ifCond .ne 7, 3) := by decide +kernel
theorem d1_56 : decode prog_19_method_6_code 56 = .ok (.iconst 1, 1) := by decide +kernel
theorem d1_57 : decode prog_19_method_6_code 57 = .ok (.goto 4, 3) := by decide +kernel
theorem d1_60 : decode prog_19_method_6_code 60 = .ok (.iconst 0, 1) := by decide +kernel
theorem d1_61 : decode prog_19_method_6_code 61 = .ok (.istore_n 3, 1) := by decide +kernel
theorem d1_62 : decode prog_19_method_6_code 62 = .ok (.iload_n 3, 1) := by decide +kernel
theorem d1_63 : decode prog_19_method_6_code 63 = .ok (.ireturn, 1) := by decide +kernel
theorem pn_0 : plainName "com/example/libmandate/libmandate/spki/ByteLanguage$Operation" = true := by first | (simp [plainName, overriddenIn]; done) | decide +kernel
theorem ef_rm1 (m : MethodId) (a0 : Addr) (p1 : Int32) (p2 : Int32) : entryFrame m #[(.ref a0), (.int p1), (.int p2)] 4 = mkF m 0 #[.val (.ref a0), .val (.int p1), .val (.int p2), .unset] [] := by first | (simp [entryFrame, mkF, argsToLocals, Value.category]; done) | rfl
def f1 (a0 : Addr) (p1 : Int32) (p2 : Int32) (s_AND : Addr) (s_OR : Addr) : Int32 := (if a0 = s_AND then (if p1 = (0 : Int32) then (0 : Int32) else (if p2 = (0 : Int32) then (0 : Int32) else (1 : Int32))) else (if a0 = s_OR then (if p1 = (0 : Int32) then (if p2 = (0 : Int32) then (0 : Int32) else (1 : Int32)) else (1 : Int32)) else (if p1 = (0 : Int32) then (0 : Int32) else (if p2 = (0 : Int32) then (1 : Int32) else (0 : Int32)))))
def Q_rm1 (Z : State) (a0 : Addr) (p1 : Int32) (p2 : Int32) (s_AND : Addr) (s_OR : Addr) (h0 : Heap) (n0 : Nat) (v : Option Value) (h : Heap) (L : List Loc) : Prop := v = some (.int (f1 a0 p1 p2 s_AND s_OR)) ∧ Fr n0 L ∧ h = h0
set_option maxRecDepth 65536 in
set_option maxHeartbeats 40000000 in
theorem rm1 (l : Launch) (Z : State) (av0 : Array Value) (hw : ∀ d ∈ tables_1, d.before av0 Z = true) (ws : List Jvm.Cond) (a0 : Addr) (p1 : Int32) (p2 : Int32) (s_AND : Addr) (s_OR : Addr) (h0 : Heap) (n0 : Nat) (Z0 : n0 ≤ h0.size) (S_s_AND : Sta Z h0 "com/example/libmandate/libmandate/spki/ByteLanguage$Operation" "AND" "Lcom/example/libmandate/libmandate/spki/ByteLanguage$Operation;" (.ref s_AND)) (S_s_OR : Sta Z h0 "com/example/libmandate/libmandate/spki/ByteLanguage$Operation" "OR" "Lcom/example/libmandate/libmandate/spki/ByteLanguage$Operation;" (.ref s_OR)) :
    MetFree l (⟨"com/example/libmandate/libmandate/spki/ByteLanguage$Operation", "accepts", "(ZZ)Z"⟩ : MethodName) (head1 (Jvm.Cond.code (⟨"com/example/libmandate/libmandate/spki/ByteLanguage$Operation", "accepts", "(ZZ)Z"⟩ : MethodName) prog_19_method_6_code 4 (some .boolean) :: ws) ({ frames := 0, cells := 0, slots := 0, locals := 0 } : Room)) (fun a U => a = #[(.ref a0), (.int p1), (.int p2)] ∧ Z.Warmed39 U.vm ∧ U.heap = h0) (fun _ _ _ _ _ => True) (fun _ U o U' => ∃ v L, o = .returned v ∧ Q_rm1 Z a0 p1 p2 s_AND s_OR h0 n0 v U'.heap L ∧ FrameEnd U o U' L ({ frames := 0, cells := 0, slots := 0, locals := 0 } : Room).cells ({ frames := 0, cells := 0, slots := 0, locals := 0 } : Room).slots) := by
  refine MetFree.of_bodySF (plainFor_of_name pn_0) hisR ?_
  intro p e s m args below meth c s₁ Bd hml0 hP hK
  obtain ⟨rfl, hZ, hh⟩ := hP
  have hx := Bd.exec
  have hby := Bd.bytes
  have hml : c.maxLocals = 4 := hml0
  have dd : ∀ {pc : Nat} {r : Except DecodeError (Instr × Nat)}, decode prog_19_method_6_code pc = r → decode c.code pc = r := fun q => hb hby q
  have hown : s.vm.findClass "com/example/libmandate/libmandate/spki/ByteLanguage$Operation" = some m.cls := findClass_of_methodNamed Bd.named
  have hnm := (name_of_methodNamed Bd.named Bd.method).1
  have X0 : Stand p l e ({ frames := 0, cells := 0, slots := 0, locals := 0 } : Room) s m #[(.ref a0), (.int p1), (.int p2)] below meth c s₁ [] 0 0 := Stand.of_body Bd
  have e0 : s₁.heap = h0 := by rw [← hh, Bd.state]; rfl
  have N0 := Fr.nil n0
  have hret := Bd.returns
  have hlk := Bd.notSynchronized
  show Gz p e below s ({ frames := 0, cells := 0, slots := 0, locals := 0 } : Room).cells ({ frames := 0, cells := 0, slots := 0, locals := 0 } : Room).slots (Q_rm1 Z a0 p1 p2 s_AND s_OR h0 n0) (s₁.setTop (entryFrame m #[(.ref a0), (.int p1), (.int p2)] 4))
  refine Gz.enter (ef_rm1 m a0 p1 p2) ?_
  refine Gz.aloadN 1 X0 hx (dd d1_0) rfl rfl rfl ?_
  refine Gz.getS 4 X0 hx hZ hown (dd d1_1) (host := "") (Or.inl (ww hw 12 rfl)) Via.refl e0 S_s_AND rfl fun T1 X1 e1 => ?_
  by_cases hc2 : a0 = s_AND
  · refine Gz.acmp 7 true X1 hx (dd d1_4) rfl rfl (decide_eq_true (congrArg Value.ref hc2)) (by decide) (by decide) ?_
    refine Gz.iloadN 8 X1 hx (dd d1_7) rfl rfl ?_
    by_cases hc3 : p1 = (0 : Int32)
    · refine Gz.ifYes 19 X1 hx (dd d1_8) ((if0 _ _).trans (teq hc3).1) (by decide) (by decide) ?_
      refine Gz.iconst 20 (0 : Int32) X1 hx (dd d1_19) rfl rfl ?_
      refine Gz.istoreN 21 #[.val (.ref a0), .val (.int p1), .val (.int p2), .val (.int (0 : Int32))] X1 hx (dd d1_20) rfl rfl ?_
      refine Gz.goto 62 X1 hx (dd d1_21) (by decide) (by decide) ?_
      refine Gz.iloadN 63 X1 hx (dd d1_62) rfl rfl ?_
      refine Gz.fin X1 (v := some (.int (0 : Int32))) (fun h => by rw [hret] at h; cases h) hlk (by decide) (by decide) (fun fs hr => retN X1 hx (t := .boolean) hret (by simp) (dd d1_63) hr) ?_
      rw [e1]
      exact ⟨(by unfold f1; rw [if_pos hc2, if_pos hc3]), N0, rfl⟩
    · refine Gz.ifNo 11 X1 hx (dd d1_8) ((if0 _ _).trans (feq hc3).1) rfl ?_
      refine Gz.iloadN 12 X1 hx (dd d1_11) rfl rfl ?_
      by_cases hc4 : p2 = (0 : Int32)
      · refine Gz.ifYes 19 X1 hx (dd d1_12) ((if0 _ _).trans (teq hc4).1) (by decide) (by decide) ?_
        refine Gz.iconst 20 (0 : Int32) X1 hx (dd d1_19) rfl rfl ?_
        refine Gz.istoreN 21 #[.val (.ref a0), .val (.int p1), .val (.int p2), .val (.int (0 : Int32))] X1 hx (dd d1_20) rfl rfl ?_
        refine Gz.goto 62 X1 hx (dd d1_21) (by decide) (by decide) ?_
        refine Gz.iloadN 63 X1 hx (dd d1_62) rfl rfl ?_
        refine Gz.fin X1 (v := some (.int (0 : Int32))) (fun h => by rw [hret] at h; cases h) hlk (by decide) (by decide) (fun fs hr => retN X1 hx (t := .boolean) hret (by simp) (dd d1_63) hr) ?_
        rw [e1]
        exact ⟨(by unfold f1; rw [if_pos hc2, if_neg hc3, if_pos hc4]), N0, rfl⟩
      · refine Gz.ifNo 15 X1 hx (dd d1_12) ((if0 _ _).trans (feq hc4).1) rfl ?_
        refine Gz.iconst 16 (1 : Int32) X1 hx (dd d1_15) rfl rfl ?_
        refine Gz.goto 20 X1 hx (dd d1_16) (by decide) (by decide) ?_
        refine Gz.istoreN 21 #[.val (.ref a0), .val (.int p1), .val (.int p2), .val (.int (1 : Int32))] X1 hx (dd d1_20) rfl rfl ?_
        refine Gz.goto 62 X1 hx (dd d1_21) (by decide) (by decide) ?_
        refine Gz.iloadN 63 X1 hx (dd d1_62) rfl rfl ?_
        refine Gz.fin X1 (v := some (.int (1 : Int32))) (fun h => by rw [hret] at h; cases h) hlk (by decide) (by decide) (fun fs hr => retN X1 hx (t := .boolean) hret (by simp) (dd d1_63) hr) ?_
        rw [e1]
        exact ⟨(by unfold f1; rw [if_pos hc2, if_neg hc3, if_neg hc4]), N0, rfl⟩
  · refine Gz.acmp 24 false X1 hx (dd d1_4) rfl rfl (decide_eq_false fun q => hc2 (Value.ref.inj q)) (by decide) (by decide) ?_
    refine Gz.aloadN 25 X1 hx (dd d1_24) rfl rfl rfl ?_
    refine Gz.getS 28 X1 hx hZ hown (dd d1_25) (host := "") (Or.inl (ww hw 13 rfl)) Via.refl e1 S_s_OR rfl fun T5 X5 e5 => ?_
    by_cases hc6 : a0 = s_OR
    · refine Gz.acmp 31 true X5 hx (dd d1_28) rfl rfl (decide_eq_true (congrArg Value.ref hc6)) (by decide) (by decide) ?_
      refine Gz.iloadN 32 X5 hx (dd d1_31) rfl rfl ?_
      by_cases hc7 : p1 = (0 : Int32)
      · refine Gz.ifNo 35 X5 hx (dd d1_32) ((if0 _ _).trans (teq hc7).2) rfl ?_
        refine Gz.iloadN 36 X5 hx (dd d1_35) rfl rfl ?_
        by_cases hc8 : p2 = (0 : Int32)
        · refine Gz.ifYes 43 X5 hx (dd d1_36) ((if0 _ _).trans (teq hc8).1) (by decide) (by decide) ?_
          refine Gz.iconst 44 (0 : Int32) X5 hx (dd d1_43) rfl rfl ?_
          refine Gz.istoreN 45 #[.val (.ref a0), .val (.int p1), .val (.int p2), .val (.int (0 : Int32))] X5 hx (dd d1_44) rfl rfl ?_
          refine Gz.goto 62 X5 hx (dd d1_45) (by decide) (by decide) ?_
          refine Gz.iloadN 63 X5 hx (dd d1_62) rfl rfl ?_
          refine Gz.fin X5 (v := some (.int (0 : Int32))) (fun h => by rw [hret] at h; cases h) hlk (by decide) (by decide) (fun fs hr => retN X5 hx (t := .boolean) hret (by simp) (dd d1_63) hr) ?_
          rw [e5]
          exact ⟨(by unfold f1; rw [if_neg hc2, if_pos hc6, if_pos hc7, if_pos hc8]), N0, rfl⟩
        · refine Gz.ifNo 39 X5 hx (dd d1_36) ((if0 _ _).trans (feq hc8).1) rfl ?_
          refine Gz.iconst 40 (1 : Int32) X5 hx (dd d1_39) rfl rfl ?_
          refine Gz.goto 44 X5 hx (dd d1_40) (by decide) (by decide) ?_
          refine Gz.istoreN 45 #[.val (.ref a0), .val (.int p1), .val (.int p2), .val (.int (1 : Int32))] X5 hx (dd d1_44) rfl rfl ?_
          refine Gz.goto 62 X5 hx (dd d1_45) (by decide) (by decide) ?_
          refine Gz.iloadN 63 X5 hx (dd d1_62) rfl rfl ?_
          refine Gz.fin X5 (v := some (.int (1 : Int32))) (fun h => by rw [hret] at h; cases h) hlk (by decide) (by decide) (fun fs hr => retN X5 hx (t := .boolean) hret (by simp) (dd d1_63) hr) ?_
          rw [e5]
          exact ⟨(by unfold f1; rw [if_neg hc2, if_pos hc6, if_pos hc7, if_neg hc8]), N0, rfl⟩
      · refine Gz.ifYes 39 X5 hx (dd d1_32) ((if0 _ _).trans (feq hc7).2) (by decide) (by decide) ?_
        refine Gz.iconst 40 (1 : Int32) X5 hx (dd d1_39) rfl rfl ?_
        refine Gz.goto 44 X5 hx (dd d1_40) (by decide) (by decide) ?_
        refine Gz.istoreN 45 #[.val (.ref a0), .val (.int p1), .val (.int p2), .val (.int (1 : Int32))] X5 hx (dd d1_44) rfl rfl ?_
        refine Gz.goto 62 X5 hx (dd d1_45) (by decide) (by decide) ?_
        refine Gz.iloadN 63 X5 hx (dd d1_62) rfl rfl ?_
        refine Gz.fin X5 (v := some (.int (1 : Int32))) (fun h => by rw [hret] at h; cases h) hlk (by decide) (by decide) (fun fs hr => retN X5 hx (t := .boolean) hret (by simp) (dd d1_63) hr) ?_
        rw [e5]
        exact ⟨(by unfold f1; rw [if_neg hc2, if_pos hc6, if_neg hc7]), N0, rfl⟩
    · refine Gz.acmp 48 false X5 hx (dd d1_28) rfl rfl (decide_eq_false fun q => hc6 (Value.ref.inj q)) (by decide) (by decide) ?_
      refine Gz.iloadN 49 X5 hx (dd d1_48) rfl rfl ?_
      by_cases hc9 : p1 = (0 : Int32)
      · refine Gz.ifYes 60 X5 hx (dd d1_49) ((if0 _ _).trans (teq hc9).1) (by decide) (by decide) ?_
        refine Gz.iconst 61 (0 : Int32) X5 hx (dd d1_60) rfl rfl ?_
        refine Gz.istoreN 62 #[.val (.ref a0), .val (.int p1), .val (.int p2), .val (.int (0 : Int32))] X5 hx (dd d1_61) rfl rfl ?_
        refine Gz.iloadN 63 X5 hx (dd d1_62) rfl rfl ?_
        refine Gz.fin X5 (v := some (.int (0 : Int32))) (fun h => by rw [hret] at h; cases h) hlk (by decide) (by decide) (fun fs hr => retN X5 hx (t := .boolean) hret (by simp) (dd d1_63) hr) ?_
        rw [e5]
        exact ⟨(by unfold f1; rw [if_neg hc2, if_neg hc6, if_pos hc9]), N0, rfl⟩
      · refine Gz.ifNo 52 X5 hx (dd d1_49) ((if0 _ _).trans (feq hc9).1) rfl ?_
        refine Gz.iloadN 53 X5 hx (dd d1_52) rfl rfl ?_
        by_cases hc10 : p2 = (0 : Int32)
        · refine Gz.ifNo 56 X5 hx (dd d1_53) ((if0 _ _).trans (teq hc10).2) rfl ?_
          refine Gz.iconst 57 (1 : Int32) X5 hx (dd d1_56) rfl rfl ?_
          refine Gz.goto 61 X5 hx (dd d1_57) (by decide) (by decide) ?_
          refine Gz.istoreN 62 #[.val (.ref a0), .val (.int p1), .val (.int p2), .val (.int (1 : Int32))] X5 hx (dd d1_61) rfl rfl ?_
          refine Gz.iloadN 63 X5 hx (dd d1_62) rfl rfl ?_
          refine Gz.fin X5 (v := some (.int (1 : Int32))) (fun h => by rw [hret] at h; cases h) hlk (by decide) (by decide) (fun fs hr => retN X5 hx (t := .boolean) hret (by simp) (dd d1_63) hr) ?_
          rw [e5]
          exact ⟨(by unfold f1; rw [if_neg hc2, if_neg hc6, if_neg hc9, if_pos hc10]), N0, rfl⟩
        · refine Gz.ifYes 60 X5 hx (dd d1_53) ((if0 _ _).trans (feq hc10).2) (by decide) (by decide) ?_
          refine Gz.iconst 61 (0 : Int32) X5 hx (dd d1_60) rfl rfl ?_
          refine Gz.istoreN 62 #[.val (.ref a0), .val (.int p1), .val (.int p2), .val (.int (0 : Int32))] X5 hx (dd d1_61) rfl rfl ?_
          refine Gz.iloadN 63 X5 hx (dd d1_62) rfl rfl ?_
          refine Gz.fin X5 (v := some (.int (0 : Int32))) (fun h => by rw [hret] at h; cases h) hlk (by decide) (by decide) (fun fs hr => retN X5 hx (t := .boolean) hret (by simp) (dd d1_63) hr) ?_
          rw [e5]
          exact ⟨(by unfold f1; rw [if_neg hc2, if_neg hc6, if_neg hc9, if_neg hc10]), N0, rfl⟩
theorem pd_0 : parseMethodDescriptor "(ZZ)Z" = some ⟨[.boolean, .boolean], some .boolean⟩ := by decide +kernel
theorem pn_1 : plainName "com/example/libmandate/libmandate/spki/OperationAcceptsPinLaw" = true := by first | (simp [plainName, overriddenIn]; done) | decide +kernel
theorem ef_rm0 (m : MethodId) (p0 : Int32) : entryFrame m #[(.int p0)] maxLocals = mkF m 0 #[.val (.int p0), .unset, .unset, .unset, .unset, .unset, .unset, .unset, .unset, .unset, .unset, .unset, .unset, .unset, .unset, .unset] [] := by first | (simp [entryFrame, mkF, argsToLocals, Value.category, maxLocals]; done) | rfl
def Q_law (n0 : Nat) (v : Option Value) (h : Heap) (L : List Loc) : Prop := v = some (.int 1) ∧ Fr n0 L
set_option maxRecDepth 65536 in
set_option maxHeartbeats 40000000 in
theorem rm0 (l : Launch) (Z : State) (av0 : Array Value) (hw : ∀ d ∈ tables_1, d.before av0 Z = true) (ws : List Jvm.Cond) (p0 : Int32) (st_AND : Addr) (st_OR : Addr) (st_MINUS : Addr) (h0 : Heap) (n0 : Nat) (Z0 : n0 ≤ h0.size) (S_st_AND : Sta Z h0 "com/example/libmandate/libmandate/spki/ByteLanguage$Operation" "AND" "Lcom/example/libmandate/libmandate/spki/ByteLanguage$Operation;" (.ref st_AND)) (S_st_OR : Sta Z h0 "com/example/libmandate/libmandate/spki/ByteLanguage$Operation" "OR" "Lcom/example/libmandate/libmandate/spki/ByteLanguage$Operation;" (.ref st_OR)) (S_st_MINUS : Sta Z h0 "com/example/libmandate/libmandate/spki/ByteLanguage$Operation" "MINUS" "Lcom/example/libmandate/libmandate/spki/ByteLanguage$Operation;" (.ref st_MINUS)) (E_st_AND : Exa Z h0 st_AND "com/example/libmandate/libmandate/spki/ByteLanguage$Operation") (E_st_OR : Exa Z h0 st_OR "com/example/libmandate/libmandate/spki/ByteLanguage$Operation") (E_st_MINUS : Exa Z h0 st_MINUS "com/example/libmandate/libmandate/spki/ByteLanguage$Operation") (ne_st_AND_st_OR : st_AND ≠ st_OR) (ne_st_AND_st_MINUS : st_AND ≠ st_MINUS) (ne_st_OR_st_MINUS : st_OR ≠ st_MINUS) :
    MetFree l x (head1 (Jvm.Cond.code x code maxLocals ret :: ws) room_1) (fun a U => a = #[(.int p0)] ∧ Z.Warmed39 U.vm ∧ U.heap = h0) (fun _ _ _ _ _ => True) (fun _ U o U' => ∃ v L, o = .returned v ∧ Q_law n0 v U'.heap L ∧ FrameEnd U o U' L 0 0) := by
  refine MetFree.of_bodySF (plainFor_of_name pn_1) hisR ?_
  intro p e s m args below meth c s₁ Bd hml0 hP hK
  obtain ⟨rfl, hZ, hh⟩ := hP
  have hx := Bd.exec
  have hby := Bd.bytes
  have hml : c.maxLocals = 16 := hml0
  have dd : ∀ {pc : Nat} {r : Except DecodeError (Instr × Nat)}, decode code pc = r → decode c.code pc = r := fun q => hb hby q
  have hown : s.vm.findClass "com/example/libmandate/libmandate/spki/OperationAcceptsPinLaw" = some m.cls := findClass_of_methodNamed Bd.named
  have hnm := (name_of_methodNamed Bd.named Bd.method).1
  have X0 : Stand p l e room_1 s m #[(.int p0)] below meth c s₁ [] 0 0 := Stand.of_body Bd
  have e0 : s₁.heap = h0 := by rw [← hh, Bd.state]; rfl
  have N0 := Fr.nil n0
  have hret := Bd.returns
  have hlk := Bd.notSynchronized
  show Gz p e below s 0 0 (Q_law n0) (s₁.setTop (entryFrame m #[(.int p0)] maxLocals))
  refine Gz.enter (ef_rm0 m p0) ?_
  refine Gz.iloadN 1 X0 hx (dd at_0) rfl rfl ?_
  refine Gz.iconst 2 (1 : Int32) X0 hx (dd at_1) rfl rfl ?_
  refine Gz.iand 3 X0 hx (dd at_2) rfl ?_
  by_cases hc1 : (p0 &&& (1 : Int32)) = (0 : Int32)
  · refine Gz.ifYes 10 X0 hx (dd at_3) ((if0 _ _).trans (teq hc1).1) (by decide) (by decide) ?_
    refine Gz.iconst 11 (0 : Int32) X0 hx (dd at_10) rfl rfl ?_
    refine Gz.istoreN 12 #[.val (.int p0), .val (.int (0 : Int32)), .unset, .unset, .unset, .unset, .unset, .unset, .unset, .unset, .unset, .unset, .unset, .unset, .unset, .unset] X0 hx (dd at_11) rfl rfl ?_
    refine Gz.iloadN 13 X0 hx (dd at_12) rfl rfl ?_
    refine Gz.iconst 14 (2 : Int32) X0 hx (dd at_13) rfl rfl ?_
    refine Gz.iand 15 X0 hx (dd at_14) rfl ?_
    by_cases hc2 : (p0 &&& (2 : Int32)) = (0 : Int32)
    · refine Gz.ifYes 22 X0 hx (dd at_15) ((if0 _ _).trans (teq hc2).1) (by decide) (by decide) ?_
      refine Gz.iconst 23 (0 : Int32) X0 hx (dd at_22) rfl rfl ?_
      refine Gz.istoreN 24 #[.val (.int p0), .val (.int (0 : Int32)), .val (.int (0 : Int32)), .unset, .unset, .unset, .unset, .unset, .unset, .unset, .unset, .unset, .unset, .unset, .unset, .unset] X0 hx (dd at_23) rfl rfl ?_
      refine Gz.getS 27 X0 hx hZ hown (dd at_24) (host := "") (Or.inl (ww hw 0 rfl)) Via.refl e0 S_st_AND rfl fun T3 X3 e3 => ?_
      refine Gz.astoreN 28 #[.val (.int p0), .val (.int (0 : Int32)), .val (.int (0 : Int32)), .val (.ref st_AND), .unset, .unset, .unset, .unset, .unset, .unset, .unset, .unset, .unset, .unset, .unset, .unset] X3 hx (dd at_27) rfl rfl rfl ?_
      refine Gz.getS 31 X3 hx hZ hown (dd at_28) (host := "") (Or.inl (ww hw 3 rfl)) Via.refl e3 S_st_OR rfl fun T4 X4 e4 => ?_
      refine Gz.astore 33 #[.val (.int p0), .val (.int (0 : Int32)), .val (.int (0 : Int32)), .val (.ref st_AND), .val (.ref st_OR), .unset, .unset, .unset, .unset, .unset, .unset, .unset, .unset, .unset, .unset, .unset] X4 hx (dd at_31) rfl rfl rfl ?_
      refine Gz.getS 36 X4 hx hZ hown (dd at_33) (host := "") (Or.inl (ww hw 5 rfl)) Via.refl e4 S_st_MINUS rfl fun T5 X5 e5 => ?_
      refine Gz.astore 38 #[.val (.int p0), .val (.int (0 : Int32)), .val (.int (0 : Int32)), .val (.ref st_AND), .val (.ref st_OR), .val (.ref st_MINUS), .unset, .unset, .unset, .unset, .unset, .unset, .unset, .unset, .unset, .unset] X5 hx (dd at_36) rfl rfl rfl ?_
      refine Gz.aloadN 39 X5 hx (dd at_38) rfl rfl rfl ?_
      refine Gz.iloadN 40 X5 hx (dd at_39) rfl rfl ?_
      refine Gz.iloadN 41 X5 hx (dd at_40) rfl rfl ?_
      obtain ⟨cq6, kq6, q6a, q6b, q6c⟩ := isOf hZ e5 E_st_AND
      obtain ⟨_, _, ⟨T6, L6, k6, n6⟩, -, X6, ⟨Lc6, hQ6, l6, y6, z6⟩, st6⟩ := X5.virtualBack hx (y := (⟨"com/example/libmandate/libmandate/spki/ByteLanguage$Operation", "accepts", "(ZZ)Z"⟩ : MethodName)) (z := (⟨"com/example/libmandate/libmandate/spki/ByteLanguage$Operation", "accepts", "(ZZ)Z"⟩ : MethodName)) hown (mvT hZ (ww hw 7 rfl)) (mvT hZ (ww hw 8 rfl)) (notFace_of_selects (args := #[]) (mvT hZ (ww hw 10 rfl))) (mvT hZ (ww hw 10 rfl)) (mvT hZ (ww hw 9 rfl)) (by decide) (backOf (W := 0) (rm1 l Z av0 hw [] st_AND (0 : Int32) (0 : Int32) st_AND st_OR h0 n0 Z0 S_st_AND S_st_OR) hZ (ww hw 11 rfl) (ww hw 1 rfl) (by decide) (by decide)) q6a q6c (g := (mkF m 41 #[.val (.int p0), .val (.int (0 : Int32)), .val (.int (0 : Int32)), .val (.ref st_AND), .val (.ref st_OR), .val (.ref st_MINUS), .unset, .unset, .unset, .unset, .unset, .unset, .unset, .unset, .unset, .unset] [(.int (0 : Int32)), (.int (0 : Int32)), (.ref st_AND)])) rfl (by rw [hml]; rfl) (Steps.refl _) (argsL := [(.int (0 : Int32)), (.int (0 : Int32))]) (rest := []) (lenOf pd_0 rfl) rfl (by show 2 * 0 + _ ≤ _; exact Nat.le_of_eq rfl) (dd at_41) (fun _ _ => ⟨rfl, e5, (by decide : 0 + 0 ≤ _), (by decide : 0 + 0 ≤ _)⟩)
      dsimp only [Pt.U, Pt.locs, Pt.cells, Pt.slots, Q_rm1] at X6 l6 y6 z6 st6 hQ6
      subst l6 y6 z6
      rw [show (f1 st_AND (0 : Int32) (0 : Int32) st_AND st_OR) = (0 : Int32) from (by unfold f1; rw [if_pos (rfl : st_AND = st_AND), if_pos (by decide : (0 : Int32) = (0 : Int32))]; try decide)] at hQ6
      obtain ⟨rfl, N6q, e6⟩ := hQ6
      have N6 := Fr.app N0 N6q
      refine Gz.tr st6 ?_
      refine Gz.istore 46 #[.val (.int p0), .val (.int (0 : Int32)), .val (.int (0 : Int32)), .val (.ref st_AND), .val (.ref st_OR), .val (.ref st_MINUS), .val (.int (0 : Int32)), .unset, .unset, .unset, .unset, .unset, .unset, .unset, .unset, .unset] X6 hx (dd at_44) rfl rfl ?_
      refine Gz.aloadN 47 X6 hx (dd at_46) rfl rfl rfl ?_
      refine Gz.iloadN 48 X6 hx (dd at_47) rfl rfl ?_
      refine Gz.iloadN 49 X6 hx (dd at_48) rfl rfl ?_
      obtain ⟨cq7, kq7, q7a, q7b, q7c⟩ := isOf hZ e6 E_st_AND
      obtain ⟨_, _, ⟨T7, L7, k7, n7⟩, -, X7, ⟨Lc7, hQ7, l7, y7, z7⟩, st7⟩ := X6.virtualBack hx (y := (⟨"com/example/libmandate/libmandate/spki/ByteLanguage$Operation", "accepts", "(ZZ)Z"⟩ : MethodName)) (z := (⟨"com/example/libmandate/libmandate/spki/ByteLanguage$Operation", "accepts", "(ZZ)Z"⟩ : MethodName)) hown (mvT hZ (ww hw 7 rfl)) (mvT hZ (ww hw 8 rfl)) (notFace_of_selects (args := #[]) (mvT hZ (ww hw 10 rfl))) (mvT hZ (ww hw 10 rfl)) (mvT hZ (ww hw 9 rfl)) (by decide) (backOf (W := 0) (rm1 l Z av0 hw [] st_AND (0 : Int32) (0 : Int32) st_AND st_OR h0 n0 Z0 S_st_AND S_st_OR) hZ (ww hw 11 rfl) (ww hw 1 rfl) (by decide) (by decide)) q7a q7c (g := (mkF m 49 #[.val (.int p0), .val (.int (0 : Int32)), .val (.int (0 : Int32)), .val (.ref st_AND), .val (.ref st_OR), .val (.ref st_MINUS), .val (.int (0 : Int32)), .unset, .unset, .unset, .unset, .unset, .unset, .unset, .unset, .unset] [(.int (0 : Int32)), (.int (0 : Int32)), (.ref st_AND)])) rfl (by rw [hml]; rfl) (Steps.refl _) (argsL := [(.int (0 : Int32)), (.int (0 : Int32))]) (rest := []) (lenOf pd_0 rfl) rfl (by show 2 * 0 + _ ≤ _; exact Nat.le_of_eq rfl) (dd at_49) (fun _ _ => ⟨rfl, e6, (by decide : 0 + 0 ≤ _), (by decide : 0 + 0 ≤ _)⟩)
      dsimp only [Pt.U, Pt.locs, Pt.cells, Pt.slots, Q_rm1] at X7 l7 y7 z7 st7 hQ7
      subst l7 y7 z7
      rw [show (f1 st_AND (0 : Int32) (0 : Int32) st_AND st_OR) = (0 : Int32) from (by unfold f1; rw [if_pos (rfl : st_AND = st_AND), if_pos (by decide : (0 : Int32) = (0 : Int32))]; try decide)] at hQ7
      obtain ⟨rfl, N7q, e7⟩ := hQ7
      have N7 := Fr.app N6 N7q
      refine Gz.tr st7 ?_
      refine Gz.istore 54 #[.val (.int p0), .val (.int (0 : Int32)), .val (.int (0 : Int32)), .val (.ref st_AND), .val (.ref st_OR), .val (.ref st_MINUS), .val (.int (0 : Int32)), .val (.int (0 : Int32)), .unset, .unset, .unset, .unset, .unset, .unset, .unset, .unset] X7 hx (dd at_52) rfl rfl ?_
      refine Gz.aload 56 X7 hx (dd at_54) rfl rfl rfl ?_
      refine Gz.iloadN 57 X7 hx (dd at_56) rfl rfl ?_
      refine Gz.iloadN 58 X7 hx (dd at_57) rfl rfl ?_
      obtain ⟨cq8, kq8, q8a, q8b, q8c⟩ := isOf hZ e7 E_st_MINUS
      obtain ⟨_, _, ⟨T8, L8, k8, n8⟩, -, X8, ⟨Lc8, hQ8, l8, y8, z8⟩, st8⟩ := X7.virtualBack hx (y := (⟨"com/example/libmandate/libmandate/spki/ByteLanguage$Operation", "accepts", "(ZZ)Z"⟩ : MethodName)) (z := (⟨"com/example/libmandate/libmandate/spki/ByteLanguage$Operation", "accepts", "(ZZ)Z"⟩ : MethodName)) hown (mvT hZ (ww hw 7 rfl)) (mvT hZ (ww hw 8 rfl)) (notFace_of_selects (args := #[]) (mvT hZ (ww hw 10 rfl))) (mvT hZ (ww hw 10 rfl)) (mvT hZ (ww hw 9 rfl)) (by decide) (backOf (W := 0) (rm1 l Z av0 hw [] st_MINUS (0 : Int32) (0 : Int32) st_AND st_OR h0 n0 Z0 S_st_AND S_st_OR) hZ (ww hw 11 rfl) (ww hw 1 rfl) (by decide) (by decide)) q8a q8c (g := (mkF m 58 #[.val (.int p0), .val (.int (0 : Int32)), .val (.int (0 : Int32)), .val (.ref st_AND), .val (.ref st_OR), .val (.ref st_MINUS), .val (.int (0 : Int32)), .val (.int (0 : Int32)), .unset, .unset, .unset, .unset, .unset, .unset, .unset, .unset] [(.int (0 : Int32)), (.int (0 : Int32)), (.ref st_MINUS)])) rfl (by rw [hml]; rfl) (Steps.refl _) (argsL := [(.int (0 : Int32)), (.int (0 : Int32))]) (rest := []) (lenOf pd_0 rfl) rfl (by show 2 * 0 + _ ≤ _; exact Nat.le_of_eq rfl) (dd at_58) (fun _ _ => ⟨rfl, e7, (by decide : 0 + 0 ≤ _), (by decide : 0 + 0 ≤ _)⟩)
      dsimp only [Pt.U, Pt.locs, Pt.cells, Pt.slots, Q_rm1] at X8 l8 y8 z8 st8 hQ8
      subst l8 y8 z8
      rw [show (f1 st_MINUS (0 : Int32) (0 : Int32) st_AND st_OR) = (0 : Int32) from (by unfold f1; rw [if_neg (Ne.symm ne_st_AND_st_MINUS), if_neg (Ne.symm ne_st_OR_st_MINUS), if_pos (by decide : (0 : Int32) = (0 : Int32))]; try decide)] at hQ8
      obtain ⟨rfl, N8q, e8⟩ := hQ8
      have N8 := Fr.app N7 N8q
      refine Gz.tr st8 ?_
      refine Gz.istore 63 #[.val (.int p0), .val (.int (0 : Int32)), .val (.int (0 : Int32)), .val (.ref st_AND), .val (.ref st_OR), .val (.ref st_MINUS), .val (.int (0 : Int32)), .val (.int (0 : Int32)), .val (.int (0 : Int32)), .unset, .unset, .unset, .unset, .unset, .unset, .unset] X8 hx (dd at_61) rfl rfl ?_
      refine Gz.aload 65 X8 hx (dd at_63) rfl rfl rfl ?_
      refine Gz.iloadN 66 X8 hx (dd at_65) rfl rfl ?_
      refine Gz.iloadN 67 X8 hx (dd at_66) rfl rfl ?_
      obtain ⟨cq9, kq9, q9a, q9b, q9c⟩ := isOf hZ e8 E_st_MINUS
      obtain ⟨_, _, ⟨T9, L9, k9, n9⟩, -, X9, ⟨Lc9, hQ9, l9, y9, z9⟩, st9⟩ := X8.virtualBack hx (y := (⟨"com/example/libmandate/libmandate/spki/ByteLanguage$Operation", "accepts", "(ZZ)Z"⟩ : MethodName)) (z := (⟨"com/example/libmandate/libmandate/spki/ByteLanguage$Operation", "accepts", "(ZZ)Z"⟩ : MethodName)) hown (mvT hZ (ww hw 7 rfl)) (mvT hZ (ww hw 8 rfl)) (notFace_of_selects (args := #[]) (mvT hZ (ww hw 10 rfl))) (mvT hZ (ww hw 10 rfl)) (mvT hZ (ww hw 9 rfl)) (by decide) (backOf (W := 0) (rm1 l Z av0 hw [] st_MINUS (0 : Int32) (0 : Int32) st_AND st_OR h0 n0 Z0 S_st_AND S_st_OR) hZ (ww hw 11 rfl) (ww hw 1 rfl) (by decide) (by decide)) q9a q9c (g := (mkF m 67 #[.val (.int p0), .val (.int (0 : Int32)), .val (.int (0 : Int32)), .val (.ref st_AND), .val (.ref st_OR), .val (.ref st_MINUS), .val (.int (0 : Int32)), .val (.int (0 : Int32)), .val (.int (0 : Int32)), .unset, .unset, .unset, .unset, .unset, .unset, .unset] [(.int (0 : Int32)), (.int (0 : Int32)), (.ref st_MINUS)])) rfl (by rw [hml]; rfl) (Steps.refl _) (argsL := [(.int (0 : Int32)), (.int (0 : Int32))]) (rest := []) (lenOf pd_0 rfl) rfl (by show 2 * 0 + _ ≤ _; exact Nat.le_of_eq rfl) (dd at_67) (fun _ _ => ⟨rfl, e8, (by decide : 0 + 0 ≤ _), (by decide : 0 + 0 ≤ _)⟩)
      dsimp only [Pt.U, Pt.locs, Pt.cells, Pt.slots, Q_rm1] at X9 l9 y9 z9 st9 hQ9
      subst l9 y9 z9
      rw [show (f1 st_MINUS (0 : Int32) (0 : Int32) st_AND st_OR) = (0 : Int32) from (by unfold f1; rw [if_neg (Ne.symm ne_st_AND_st_MINUS), if_neg (Ne.symm ne_st_OR_st_MINUS), if_pos (by decide : (0 : Int32) = (0 : Int32))]; try decide)] at hQ9
      obtain ⟨rfl, N9q, e9⟩ := hQ9
      have N9 := Fr.app N8 N9q
      refine Gz.tr st9 ?_
      refine Gz.istore 72 #[.val (.int p0), .val (.int (0 : Int32)), .val (.int (0 : Int32)), .val (.ref st_AND), .val (.ref st_OR), .val (.ref st_MINUS), .val (.int (0 : Int32)), .val (.int (0 : Int32)), .val (.int (0 : Int32)), .val (.int (0 : Int32)), .unset, .unset, .unset, .unset, .unset, .unset] X9 hx (dd at_70) rfl rfl ?_
      refine Gz.aload 74 X9 hx (dd at_72) rfl rfl rfl ?_
      refine Gz.iloadN 75 X9 hx (dd at_74) rfl rfl ?_
      refine Gz.iloadN 76 X9 hx (dd at_75) rfl rfl ?_
      obtain ⟨cq10, kq10, q10a, q10b, q10c⟩ := isOf hZ e9 E_st_OR
      obtain ⟨_, _, ⟨T10, L10, k10, n10⟩, -, X10, ⟨Lc10, hQ10, l10, y10, z10⟩, st10⟩ := X9.virtualBack hx (y := (⟨"com/example/libmandate/libmandate/spki/ByteLanguage$Operation", "accepts", "(ZZ)Z"⟩ : MethodName)) (z := (⟨"com/example/libmandate/libmandate/spki/ByteLanguage$Operation", "accepts", "(ZZ)Z"⟩ : MethodName)) hown (mvT hZ (ww hw 7 rfl)) (mvT hZ (ww hw 8 rfl)) (notFace_of_selects (args := #[]) (mvT hZ (ww hw 10 rfl))) (mvT hZ (ww hw 10 rfl)) (mvT hZ (ww hw 9 rfl)) (by decide) (backOf (W := 0) (rm1 l Z av0 hw [] st_OR (0 : Int32) (0 : Int32) st_AND st_OR h0 n0 Z0 S_st_AND S_st_OR) hZ (ww hw 11 rfl) (ww hw 1 rfl) (by decide) (by decide)) q10a q10c (g := (mkF m 76 #[.val (.int p0), .val (.int (0 : Int32)), .val (.int (0 : Int32)), .val (.ref st_AND), .val (.ref st_OR), .val (.ref st_MINUS), .val (.int (0 : Int32)), .val (.int (0 : Int32)), .val (.int (0 : Int32)), .val (.int (0 : Int32)), .unset, .unset, .unset, .unset, .unset, .unset] [(.int (0 : Int32)), (.int (0 : Int32)), (.ref st_OR)])) rfl (by rw [hml]; rfl) (Steps.refl _) (argsL := [(.int (0 : Int32)), (.int (0 : Int32))]) (rest := []) (lenOf pd_0 rfl) rfl (by show 2 * 0 + _ ≤ _; exact Nat.le_of_eq rfl) (dd at_76) (fun _ _ => ⟨rfl, e9, (by decide : 0 + 0 ≤ _), (by decide : 0 + 0 ≤ _)⟩)
      dsimp only [Pt.U, Pt.locs, Pt.cells, Pt.slots, Q_rm1] at X10 l10 y10 z10 st10 hQ10
      subst l10 y10 z10
      rw [show (f1 st_OR (0 : Int32) (0 : Int32) st_AND st_OR) = (0 : Int32) from (by unfold f1; rw [if_neg (Ne.symm ne_st_AND_st_OR), if_pos (rfl : st_OR = st_OR), if_pos (by decide : (0 : Int32) = (0 : Int32)), if_pos (by decide : (0 : Int32) = (0 : Int32))]; try decide)] at hQ10
      obtain ⟨rfl, N10q, e10⟩ := hQ10
      have N10 := Fr.app N9 N10q
      refine Gz.tr st10 ?_
      refine Gz.istore 81 #[.val (.int p0), .val (.int (0 : Int32)), .val (.int (0 : Int32)), .val (.ref st_AND), .val (.ref st_OR), .val (.ref st_MINUS), .val (.int (0 : Int32)), .val (.int (0 : Int32)), .val (.int (0 : Int32)), .val (.int (0 : Int32)), .val (.int (0 : Int32)), .unset, .unset, .unset, .unset, .unset] X10 hx (dd at_79) rfl rfl ?_
      refine Gz.aload 83 X10 hx (dd at_81) rfl rfl rfl ?_
      refine Gz.iloadN 84 X10 hx (dd at_83) rfl rfl ?_
      refine Gz.iloadN 85 X10 hx (dd at_84) rfl rfl ?_
      obtain ⟨cq11, kq11, q11a, q11b, q11c⟩ := isOf hZ e10 E_st_MINUS
      obtain ⟨_, _, ⟨T11, L11, k11, n11⟩, -, X11, ⟨Lc11, hQ11, l11, y11, z11⟩, st11⟩ := X10.virtualBack hx (y := (⟨"com/example/libmandate/libmandate/spki/ByteLanguage$Operation", "accepts", "(ZZ)Z"⟩ : MethodName)) (z := (⟨"com/example/libmandate/libmandate/spki/ByteLanguage$Operation", "accepts", "(ZZ)Z"⟩ : MethodName)) hown (mvT hZ (ww hw 7 rfl)) (mvT hZ (ww hw 8 rfl)) (notFace_of_selects (args := #[]) (mvT hZ (ww hw 10 rfl))) (mvT hZ (ww hw 10 rfl)) (mvT hZ (ww hw 9 rfl)) (by decide) (backOf (W := 0) (rm1 l Z av0 hw [] st_MINUS (0 : Int32) (0 : Int32) st_AND st_OR h0 n0 Z0 S_st_AND S_st_OR) hZ (ww hw 11 rfl) (ww hw 1 rfl) (by decide) (by decide)) q11a q11c (g := (mkF m 85 #[.val (.int p0), .val (.int (0 : Int32)), .val (.int (0 : Int32)), .val (.ref st_AND), .val (.ref st_OR), .val (.ref st_MINUS), .val (.int (0 : Int32)), .val (.int (0 : Int32)), .val (.int (0 : Int32)), .val (.int (0 : Int32)), .val (.int (0 : Int32)), .unset, .unset, .unset, .unset, .unset] [(.int (0 : Int32)), (.int (0 : Int32)), (.ref st_MINUS)])) rfl (by rw [hml]; rfl) (Steps.refl _) (argsL := [(.int (0 : Int32)), (.int (0 : Int32))]) (rest := []) (lenOf pd_0 rfl) rfl (by show 2 * 0 + _ ≤ _; exact Nat.le_of_eq rfl) (dd at_85) (fun _ _ => ⟨rfl, e10, (by decide : 0 + 0 ≤ _), (by decide : 0 + 0 ≤ _)⟩)
      dsimp only [Pt.U, Pt.locs, Pt.cells, Pt.slots, Q_rm1] at X11 l11 y11 z11 st11 hQ11
      subst l11 y11 z11
      rw [show (f1 st_MINUS (0 : Int32) (0 : Int32) st_AND st_OR) = (0 : Int32) from (by unfold f1; rw [if_neg (Ne.symm ne_st_AND_st_MINUS), if_neg (Ne.symm ne_st_OR_st_MINUS), if_pos (by decide : (0 : Int32) = (0 : Int32))]; try decide)] at hQ11
      obtain ⟨rfl, N11q, e11⟩ := hQ11
      have N11 := Fr.app N10 N11q
      refine Gz.tr st11 ?_
      refine Gz.istore 90 #[.val (.int p0), .val (.int (0 : Int32)), .val (.int (0 : Int32)), .val (.ref st_AND), .val (.ref st_OR), .val (.ref st_MINUS), .val (.int (0 : Int32)), .val (.int (0 : Int32)), .val (.int (0 : Int32)), .val (.int (0 : Int32)), .val (.int (0 : Int32)), .val (.int (0 : Int32)), .unset, .unset, .unset, .unset] X11 hx (dd at_88) rfl rfl ?_
      refine Gz.iload 92 X11 hx (dd at_90) rfl rfl ?_
      refine Gz.iload 94 X11 hx (dd at_92) rfl rfl ?_
      refine Gz.icmpNo 97 X11 hx (dd at_94) (teq (by decide : (0 : Int32) = (0 : Int32))).2 rfl ?_
      refine Gz.iconst 98 (1 : Int32) X11 hx (dd at_97) rfl rfl ?_
      refine Gz.goto 102 X11 hx (dd at_98) (by decide) (by decide) ?_
      refine Gz.istore 104 #[.val (.int p0), .val (.int (0 : Int32)), .val (.int (0 : Int32)), .val (.ref st_AND), .val (.ref st_OR), .val (.ref st_MINUS), .val (.int (0 : Int32)), .val (.int (0 : Int32)), .val (.int (0 : Int32)), .val (.int (0 : Int32)), .val (.int (0 : Int32)), .val (.int (0 : Int32)), .val (.int (1 : Int32)), .unset, .unset, .unset] X11 hx (dd at_102) rfl rfl ?_
      refine Gz.iload 106 X11 hx (dd at_104) rfl rfl ?_
      refine Gz.ifNo 109 X11 hx (dd at_106) ((if0 _ _).trans (teq (by decide : (0 : Int32) = (0 : Int32))).2) rfl ?_
      refine Gz.iload 111 X11 hx (dd at_109) rfl rfl ?_
      refine Gz.ifYes 118 X11 hx (dd at_111) ((if0 _ _).trans (teq (by decide : (0 : Int32) = (0 : Int32))).1) (by decide) (by decide) ?_
      refine Gz.iconst 119 (0 : Int32) X11 hx (dd at_118) rfl rfl ?_
      refine Gz.iloadN 120 X11 hx (dd at_119) rfl rfl ?_
      refine Gz.icmpNo 123 X11 hx (dd at_120) (teq (by decide : (0 : Int32) = (0 : Int32))).2 rfl ?_
      refine Gz.iload 125 X11 hx (dd at_123) rfl rfl ?_
      refine Gz.ifYes 133 X11 hx (dd at_125) ((if0 _ _).trans (teq (by decide : (0 : Int32) = (0 : Int32))).1) (by decide) (by decide) ?_
      refine Gz.iconst 134 (1 : Int32) X11 hx (dd at_133) rfl rfl ?_
      refine Gz.goto 138 X11 hx (dd at_134) (by decide) (by decide) ?_
      refine Gz.istore 140 #[.val (.int p0), .val (.int (0 : Int32)), .val (.int (0 : Int32)), .val (.ref st_AND), .val (.ref st_OR), .val (.ref st_MINUS), .val (.int (0 : Int32)), .val (.int (0 : Int32)), .val (.int (0 : Int32)), .val (.int (0 : Int32)), .val (.int (0 : Int32)), .val (.int (0 : Int32)), .val (.int (1 : Int32)), .val (.int (1 : Int32)), .unset, .unset] X11 hx (dd at_138) rfl rfl ?_
      refine Gz.iload 142 X11 hx (dd at_140) rfl rfl ?_
      refine Gz.ifNo 145 X11 hx (dd at_142) ((if0 _ _).trans (teq (by decide : (0 : Int32) = (0 : Int32))).2) rfl ?_
      refine Gz.iconst 146 (1 : Int32) X11 hx (dd at_145) rfl rfl ?_
      refine Gz.goto 150 X11 hx (dd at_146) (by decide) (by decide) ?_
      refine Gz.istore 152 #[.val (.int p0), .val (.int (0 : Int32)), .val (.int (0 : Int32)), .val (.ref st_AND), .val (.ref st_OR), .val (.ref st_MINUS), .val (.int (0 : Int32)), .val (.int (0 : Int32)), .val (.int (0 : Int32)), .val (.int (0 : Int32)), .val (.int (0 : Int32)), .val (.int (0 : Int32)), .val (.int (1 : Int32)), .val (.int (1 : Int32)), .val (.int (1 : Int32)), .unset] X11 hx (dd at_150) rfl rfl ?_
      refine Gz.iload 154 X11 hx (dd at_152) rfl rfl ?_
      refine Gz.iload 156 X11 hx (dd at_154) rfl rfl ?_
      refine Gz.ifNo 159 X11 hx (dd at_156) ((if0 _ _).trans (teq (by decide : (0 : Int32) = (0 : Int32))).2) rfl ?_
      refine Gz.iload 161 X11 hx (dd at_159) rfl rfl ?_
      refine Gz.ifNo 164 X11 hx (dd at_161) ((if0 _ _).trans (teq (by decide : (0 : Int32) = (0 : Int32))).2) rfl ?_
      refine Gz.iload 166 X11 hx (dd at_164) rfl rfl ?_
      refine Gz.ifYes 173 X11 hx (dd at_166) ((if0 _ _).trans (teq (by decide : (0 : Int32) = (0 : Int32))).1) (by decide) (by decide) ?_
      refine Gz.iconst 174 (0 : Int32) X11 hx (dd at_173) rfl rfl ?_
      refine Gz.icmpNo 177 X11 hx (dd at_174) (teq (by decide : (0 : Int32) = (0 : Int32))).2 rfl ?_
      refine Gz.iconst 178 (1 : Int32) X11 hx (dd at_177) rfl rfl ?_
      refine Gz.goto 182 X11 hx (dd at_178) (by decide) (by decide) ?_
      refine Gz.istore 184 #[.val (.int p0), .val (.int (0 : Int32)), .val (.int (0 : Int32)), .val (.ref st_AND), .val (.ref st_OR), .val (.ref st_MINUS), .val (.int (0 : Int32)), .val (.int (0 : Int32)), .val (.int (0 : Int32)), .val (.int (0 : Int32)), .val (.int (0 : Int32)), .val (.int (0 : Int32)), .val (.int (1 : Int32)), .val (.int (1 : Int32)), .val (.int (1 : Int32)), .val (.int (1 : Int32))] X11 hx (dd at_182) rfl rfl ?_
      refine Gz.iload 186 X11 hx (dd at_184) rfl rfl ?_
      refine Gz.ifNo 189 X11 hx (dd at_186) ((if0 _ _).trans (feq (by decide : ¬ ((1 : Int32) = (0 : Int32)))).1) rfl ?_
      refine Gz.iload 191 X11 hx (dd at_189) rfl rfl ?_
      refine Gz.ifNo 194 X11 hx (dd at_191) ((if0 _ _).trans (feq (by decide : ¬ ((1 : Int32) = (0 : Int32)))).1) rfl ?_
      refine Gz.iload 196 X11 hx (dd at_194) rfl rfl ?_
      refine Gz.ifNo 199 X11 hx (dd at_196) ((if0 _ _).trans (feq (by decide : ¬ ((1 : Int32) = (0 : Int32)))).1) rfl ?_
      refine Gz.iload 201 X11 hx (dd at_199) rfl rfl ?_
      refine Gz.ifNo 204 X11 hx (dd at_201) ((if0 _ _).trans (feq (by decide : ¬ ((1 : Int32) = (0 : Int32)))).1) rfl ?_
      refine Gz.iconst 205 (1 : Int32) X11 hx (dd at_204) rfl rfl ?_
      refine Gz.goto 209 X11 hx (dd at_205) (by decide) (by decide) ?_
      refine Gz.fin X11 (v := some (.int (1 : Int32))) (fun h => by rw [hret] at h; cases h) hlk (by decide) (by decide) (fun fs hr => retN X11 hx (t := .boolean) hret (by simp) (dd at_209) hr) ?_
      exact ⟨rfl, N11⟩
    · refine Gz.ifNo 18 X0 hx (dd at_15) ((if0 _ _).trans (feq hc2).1) rfl ?_
      refine Gz.iconst 19 (1 : Int32) X0 hx (dd at_18) rfl rfl ?_
      refine Gz.goto 23 X0 hx (dd at_19) (by decide) (by decide) ?_
      refine Gz.istoreN 24 #[.val (.int p0), .val (.int (0 : Int32)), .val (.int (1 : Int32)), .unset, .unset, .unset, .unset, .unset, .unset, .unset, .unset, .unset, .unset, .unset, .unset, .unset] X0 hx (dd at_23) rfl rfl ?_
      refine Gz.getS 27 X0 hx hZ hown (dd at_24) (host := "") (Or.inl (ww hw 0 rfl)) Via.refl e0 S_st_AND rfl fun T12 X12 e12 => ?_
      refine Gz.astoreN 28 #[.val (.int p0), .val (.int (0 : Int32)), .val (.int (1 : Int32)), .val (.ref st_AND), .unset, .unset, .unset, .unset, .unset, .unset, .unset, .unset, .unset, .unset, .unset, .unset] X12 hx (dd at_27) rfl rfl rfl ?_
      refine Gz.getS 31 X12 hx hZ hown (dd at_28) (host := "") (Or.inl (ww hw 3 rfl)) Via.refl e12 S_st_OR rfl fun T13 X13 e13 => ?_
      refine Gz.astore 33 #[.val (.int p0), .val (.int (0 : Int32)), .val (.int (1 : Int32)), .val (.ref st_AND), .val (.ref st_OR), .unset, .unset, .unset, .unset, .unset, .unset, .unset, .unset, .unset, .unset, .unset] X13 hx (dd at_31) rfl rfl rfl ?_
      refine Gz.getS 36 X13 hx hZ hown (dd at_33) (host := "") (Or.inl (ww hw 5 rfl)) Via.refl e13 S_st_MINUS rfl fun T14 X14 e14 => ?_
      refine Gz.astore 38 #[.val (.int p0), .val (.int (0 : Int32)), .val (.int (1 : Int32)), .val (.ref st_AND), .val (.ref st_OR), .val (.ref st_MINUS), .unset, .unset, .unset, .unset, .unset, .unset, .unset, .unset, .unset, .unset] X14 hx (dd at_36) rfl rfl rfl ?_
      refine Gz.aloadN 39 X14 hx (dd at_38) rfl rfl rfl ?_
      refine Gz.iloadN 40 X14 hx (dd at_39) rfl rfl ?_
      refine Gz.iloadN 41 X14 hx (dd at_40) rfl rfl ?_
      obtain ⟨cq15, kq15, q15a, q15b, q15c⟩ := isOf hZ e14 E_st_AND
      obtain ⟨_, _, ⟨T15, L15, k15, n15⟩, -, X15, ⟨Lc15, hQ15, l15, y15, z15⟩, st15⟩ := X14.virtualBack hx (y := (⟨"com/example/libmandate/libmandate/spki/ByteLanguage$Operation", "accepts", "(ZZ)Z"⟩ : MethodName)) (z := (⟨"com/example/libmandate/libmandate/spki/ByteLanguage$Operation", "accepts", "(ZZ)Z"⟩ : MethodName)) hown (mvT hZ (ww hw 7 rfl)) (mvT hZ (ww hw 8 rfl)) (notFace_of_selects (args := #[]) (mvT hZ (ww hw 10 rfl))) (mvT hZ (ww hw 10 rfl)) (mvT hZ (ww hw 9 rfl)) (by decide) (backOf (W := 0) (rm1 l Z av0 hw [] st_AND (0 : Int32) (1 : Int32) st_AND st_OR h0 n0 Z0 S_st_AND S_st_OR) hZ (ww hw 11 rfl) (ww hw 1 rfl) (by decide) (by decide)) q15a q15c (g := (mkF m 41 #[.val (.int p0), .val (.int (0 : Int32)), .val (.int (1 : Int32)), .val (.ref st_AND), .val (.ref st_OR), .val (.ref st_MINUS), .unset, .unset, .unset, .unset, .unset, .unset, .unset, .unset, .unset, .unset] [(.int (1 : Int32)), (.int (0 : Int32)), (.ref st_AND)])) rfl (by rw [hml]; rfl) (Steps.refl _) (argsL := [(.int (0 : Int32)), (.int (1 : Int32))]) (rest := []) (lenOf pd_0 rfl) rfl (by show 2 * 0 + _ ≤ _; exact Nat.le_of_eq rfl) (dd at_41) (fun _ _ => ⟨rfl, e14, (by decide : 0 + 0 ≤ _), (by decide : 0 + 0 ≤ _)⟩)
      dsimp only [Pt.U, Pt.locs, Pt.cells, Pt.slots, Q_rm1] at X15 l15 y15 z15 st15 hQ15
      subst l15 y15 z15
      rw [show (f1 st_AND (0 : Int32) (1 : Int32) st_AND st_OR) = (0 : Int32) from (by unfold f1; rw [if_pos (rfl : st_AND = st_AND), if_pos (by decide : (0 : Int32) = (0 : Int32))]; try decide)] at hQ15
      obtain ⟨rfl, N15q, e15⟩ := hQ15
      have N15 := Fr.app N0 N15q
      refine Gz.tr st15 ?_
      refine Gz.istore 46 #[.val (.int p0), .val (.int (0 : Int32)), .val (.int (1 : Int32)), .val (.ref st_AND), .val (.ref st_OR), .val (.ref st_MINUS), .val (.int (0 : Int32)), .unset, .unset, .unset, .unset, .unset, .unset, .unset, .unset, .unset] X15 hx (dd at_44) rfl rfl ?_
      refine Gz.aloadN 47 X15 hx (dd at_46) rfl rfl rfl ?_
      refine Gz.iloadN 48 X15 hx (dd at_47) rfl rfl ?_
      refine Gz.iloadN 49 X15 hx (dd at_48) rfl rfl ?_
      obtain ⟨cq16, kq16, q16a, q16b, q16c⟩ := isOf hZ e15 E_st_AND
      obtain ⟨_, _, ⟨T16, L16, k16, n16⟩, -, X16, ⟨Lc16, hQ16, l16, y16, z16⟩, st16⟩ := X15.virtualBack hx (y := (⟨"com/example/libmandate/libmandate/spki/ByteLanguage$Operation", "accepts", "(ZZ)Z"⟩ : MethodName)) (z := (⟨"com/example/libmandate/libmandate/spki/ByteLanguage$Operation", "accepts", "(ZZ)Z"⟩ : MethodName)) hown (mvT hZ (ww hw 7 rfl)) (mvT hZ (ww hw 8 rfl)) (notFace_of_selects (args := #[]) (mvT hZ (ww hw 10 rfl))) (mvT hZ (ww hw 10 rfl)) (mvT hZ (ww hw 9 rfl)) (by decide) (backOf (W := 0) (rm1 l Z av0 hw [] st_AND (1 : Int32) (0 : Int32) st_AND st_OR h0 n0 Z0 S_st_AND S_st_OR) hZ (ww hw 11 rfl) (ww hw 1 rfl) (by decide) (by decide)) q16a q16c (g := (mkF m 49 #[.val (.int p0), .val (.int (0 : Int32)), .val (.int (1 : Int32)), .val (.ref st_AND), .val (.ref st_OR), .val (.ref st_MINUS), .val (.int (0 : Int32)), .unset, .unset, .unset, .unset, .unset, .unset, .unset, .unset, .unset] [(.int (0 : Int32)), (.int (1 : Int32)), (.ref st_AND)])) rfl (by rw [hml]; rfl) (Steps.refl _) (argsL := [(.int (1 : Int32)), (.int (0 : Int32))]) (rest := []) (lenOf pd_0 rfl) rfl (by show 2 * 0 + _ ≤ _; exact Nat.le_of_eq rfl) (dd at_49) (fun _ _ => ⟨rfl, e15, (by decide : 0 + 0 ≤ _), (by decide : 0 + 0 ≤ _)⟩)
      dsimp only [Pt.U, Pt.locs, Pt.cells, Pt.slots, Q_rm1] at X16 l16 y16 z16 st16 hQ16
      subst l16 y16 z16
      rw [show (f1 st_AND (1 : Int32) (0 : Int32) st_AND st_OR) = (0 : Int32) from (by unfold f1; rw [if_pos (rfl : st_AND = st_AND), if_neg (by decide : ¬ ((1 : Int32) = (0 : Int32))), if_pos (by decide : (0 : Int32) = (0 : Int32))]; try decide)] at hQ16
      obtain ⟨rfl, N16q, e16⟩ := hQ16
      have N16 := Fr.app N15 N16q
      refine Gz.tr st16 ?_
      refine Gz.istore 54 #[.val (.int p0), .val (.int (0 : Int32)), .val (.int (1 : Int32)), .val (.ref st_AND), .val (.ref st_OR), .val (.ref st_MINUS), .val (.int (0 : Int32)), .val (.int (0 : Int32)), .unset, .unset, .unset, .unset, .unset, .unset, .unset, .unset] X16 hx (dd at_52) rfl rfl ?_
      refine Gz.aload 56 X16 hx (dd at_54) rfl rfl rfl ?_
      refine Gz.iloadN 57 X16 hx (dd at_56) rfl rfl ?_
      refine Gz.iloadN 58 X16 hx (dd at_57) rfl rfl ?_
      obtain ⟨cq17, kq17, q17a, q17b, q17c⟩ := isOf hZ e16 E_st_MINUS
      obtain ⟨_, _, ⟨T17, L17, k17, n17⟩, -, X17, ⟨Lc17, hQ17, l17, y17, z17⟩, st17⟩ := X16.virtualBack hx (y := (⟨"com/example/libmandate/libmandate/spki/ByteLanguage$Operation", "accepts", "(ZZ)Z"⟩ : MethodName)) (z := (⟨"com/example/libmandate/libmandate/spki/ByteLanguage$Operation", "accepts", "(ZZ)Z"⟩ : MethodName)) hown (mvT hZ (ww hw 7 rfl)) (mvT hZ (ww hw 8 rfl)) (notFace_of_selects (args := #[]) (mvT hZ (ww hw 10 rfl))) (mvT hZ (ww hw 10 rfl)) (mvT hZ (ww hw 9 rfl)) (by decide) (backOf (W := 0) (rm1 l Z av0 hw [] st_MINUS (0 : Int32) (1 : Int32) st_AND st_OR h0 n0 Z0 S_st_AND S_st_OR) hZ (ww hw 11 rfl) (ww hw 1 rfl) (by decide) (by decide)) q17a q17c (g := (mkF m 58 #[.val (.int p0), .val (.int (0 : Int32)), .val (.int (1 : Int32)), .val (.ref st_AND), .val (.ref st_OR), .val (.ref st_MINUS), .val (.int (0 : Int32)), .val (.int (0 : Int32)), .unset, .unset, .unset, .unset, .unset, .unset, .unset, .unset] [(.int (1 : Int32)), (.int (0 : Int32)), (.ref st_MINUS)])) rfl (by rw [hml]; rfl) (Steps.refl _) (argsL := [(.int (0 : Int32)), (.int (1 : Int32))]) (rest := []) (lenOf pd_0 rfl) rfl (by show 2 * 0 + _ ≤ _; exact Nat.le_of_eq rfl) (dd at_58) (fun _ _ => ⟨rfl, e16, (by decide : 0 + 0 ≤ _), (by decide : 0 + 0 ≤ _)⟩)
      dsimp only [Pt.U, Pt.locs, Pt.cells, Pt.slots, Q_rm1] at X17 l17 y17 z17 st17 hQ17
      subst l17 y17 z17
      rw [show (f1 st_MINUS (0 : Int32) (1 : Int32) st_AND st_OR) = (0 : Int32) from (by unfold f1; rw [if_neg (Ne.symm ne_st_AND_st_MINUS), if_neg (Ne.symm ne_st_OR_st_MINUS), if_pos (by decide : (0 : Int32) = (0 : Int32))]; try decide)] at hQ17
      obtain ⟨rfl, N17q, e17⟩ := hQ17
      have N17 := Fr.app N16 N17q
      refine Gz.tr st17 ?_
      refine Gz.istore 63 #[.val (.int p0), .val (.int (0 : Int32)), .val (.int (1 : Int32)), .val (.ref st_AND), .val (.ref st_OR), .val (.ref st_MINUS), .val (.int (0 : Int32)), .val (.int (0 : Int32)), .val (.int (0 : Int32)), .unset, .unset, .unset, .unset, .unset, .unset, .unset] X17 hx (dd at_61) rfl rfl ?_
      refine Gz.aload 65 X17 hx (dd at_63) rfl rfl rfl ?_
      refine Gz.iloadN 66 X17 hx (dd at_65) rfl rfl ?_
      refine Gz.iloadN 67 X17 hx (dd at_66) rfl rfl ?_
      obtain ⟨cq18, kq18, q18a, q18b, q18c⟩ := isOf hZ e17 E_st_MINUS
      obtain ⟨_, _, ⟨T18, L18, k18, n18⟩, -, X18, ⟨Lc18, hQ18, l18, y18, z18⟩, st18⟩ := X17.virtualBack hx (y := (⟨"com/example/libmandate/libmandate/spki/ByteLanguage$Operation", "accepts", "(ZZ)Z"⟩ : MethodName)) (z := (⟨"com/example/libmandate/libmandate/spki/ByteLanguage$Operation", "accepts", "(ZZ)Z"⟩ : MethodName)) hown (mvT hZ (ww hw 7 rfl)) (mvT hZ (ww hw 8 rfl)) (notFace_of_selects (args := #[]) (mvT hZ (ww hw 10 rfl))) (mvT hZ (ww hw 10 rfl)) (mvT hZ (ww hw 9 rfl)) (by decide) (backOf (W := 0) (rm1 l Z av0 hw [] st_MINUS (1 : Int32) (0 : Int32) st_AND st_OR h0 n0 Z0 S_st_AND S_st_OR) hZ (ww hw 11 rfl) (ww hw 1 rfl) (by decide) (by decide)) q18a q18c (g := (mkF m 67 #[.val (.int p0), .val (.int (0 : Int32)), .val (.int (1 : Int32)), .val (.ref st_AND), .val (.ref st_OR), .val (.ref st_MINUS), .val (.int (0 : Int32)), .val (.int (0 : Int32)), .val (.int (0 : Int32)), .unset, .unset, .unset, .unset, .unset, .unset, .unset] [(.int (0 : Int32)), (.int (1 : Int32)), (.ref st_MINUS)])) rfl (by rw [hml]; rfl) (Steps.refl _) (argsL := [(.int (1 : Int32)), (.int (0 : Int32))]) (rest := []) (lenOf pd_0 rfl) rfl (by show 2 * 0 + _ ≤ _; exact Nat.le_of_eq rfl) (dd at_67) (fun _ _ => ⟨rfl, e17, (by decide : 0 + 0 ≤ _), (by decide : 0 + 0 ≤ _)⟩)
      dsimp only [Pt.U, Pt.locs, Pt.cells, Pt.slots, Q_rm1] at X18 l18 y18 z18 st18 hQ18
      subst l18 y18 z18
      rw [show (f1 st_MINUS (1 : Int32) (0 : Int32) st_AND st_OR) = (1 : Int32) from (by unfold f1; rw [if_neg (Ne.symm ne_st_AND_st_MINUS), if_neg (Ne.symm ne_st_OR_st_MINUS), if_neg (by decide : ¬ ((1 : Int32) = (0 : Int32))), if_pos (by decide : (0 : Int32) = (0 : Int32))]; try decide)] at hQ18
      obtain ⟨rfl, N18q, e18⟩ := hQ18
      have N18 := Fr.app N17 N18q
      refine Gz.tr st18 ?_
      refine Gz.istore 72 #[.val (.int p0), .val (.int (0 : Int32)), .val (.int (1 : Int32)), .val (.ref st_AND), .val (.ref st_OR), .val (.ref st_MINUS), .val (.int (0 : Int32)), .val (.int (0 : Int32)), .val (.int (0 : Int32)), .val (.int (1 : Int32)), .unset, .unset, .unset, .unset, .unset, .unset] X18 hx (dd at_70) rfl rfl ?_
      refine Gz.aload 74 X18 hx (dd at_72) rfl rfl rfl ?_
      refine Gz.iloadN 75 X18 hx (dd at_74) rfl rfl ?_
      refine Gz.iloadN 76 X18 hx (dd at_75) rfl rfl ?_
      obtain ⟨cq19, kq19, q19a, q19b, q19c⟩ := isOf hZ e18 E_st_OR
      obtain ⟨_, _, ⟨T19, L19, k19, n19⟩, -, X19, ⟨Lc19, hQ19, l19, y19, z19⟩, st19⟩ := X18.virtualBack hx (y := (⟨"com/example/libmandate/libmandate/spki/ByteLanguage$Operation", "accepts", "(ZZ)Z"⟩ : MethodName)) (z := (⟨"com/example/libmandate/libmandate/spki/ByteLanguage$Operation", "accepts", "(ZZ)Z"⟩ : MethodName)) hown (mvT hZ (ww hw 7 rfl)) (mvT hZ (ww hw 8 rfl)) (notFace_of_selects (args := #[]) (mvT hZ (ww hw 10 rfl))) (mvT hZ (ww hw 10 rfl)) (mvT hZ (ww hw 9 rfl)) (by decide) (backOf (W := 0) (rm1 l Z av0 hw [] st_OR (0 : Int32) (1 : Int32) st_AND st_OR h0 n0 Z0 S_st_AND S_st_OR) hZ (ww hw 11 rfl) (ww hw 1 rfl) (by decide) (by decide)) q19a q19c (g := (mkF m 76 #[.val (.int p0), .val (.int (0 : Int32)), .val (.int (1 : Int32)), .val (.ref st_AND), .val (.ref st_OR), .val (.ref st_MINUS), .val (.int (0 : Int32)), .val (.int (0 : Int32)), .val (.int (0 : Int32)), .val (.int (1 : Int32)), .unset, .unset, .unset, .unset, .unset, .unset] [(.int (1 : Int32)), (.int (0 : Int32)), (.ref st_OR)])) rfl (by rw [hml]; rfl) (Steps.refl _) (argsL := [(.int (0 : Int32)), (.int (1 : Int32))]) (rest := []) (lenOf pd_0 rfl) rfl (by show 2 * 0 + _ ≤ _; exact Nat.le_of_eq rfl) (dd at_76) (fun _ _ => ⟨rfl, e18, (by decide : 0 + 0 ≤ _), (by decide : 0 + 0 ≤ _)⟩)
      dsimp only [Pt.U, Pt.locs, Pt.cells, Pt.slots, Q_rm1] at X19 l19 y19 z19 st19 hQ19
      subst l19 y19 z19
      rw [show (f1 st_OR (0 : Int32) (1 : Int32) st_AND st_OR) = (1 : Int32) from (by unfold f1; rw [if_neg (Ne.symm ne_st_AND_st_OR), if_pos (rfl : st_OR = st_OR), if_pos (by decide : (0 : Int32) = (0 : Int32)), if_neg (by decide : ¬ ((1 : Int32) = (0 : Int32)))]; try decide)] at hQ19
      obtain ⟨rfl, N19q, e19⟩ := hQ19
      have N19 := Fr.app N18 N19q
      refine Gz.tr st19 ?_
      refine Gz.istore 81 #[.val (.int p0), .val (.int (0 : Int32)), .val (.int (1 : Int32)), .val (.ref st_AND), .val (.ref st_OR), .val (.ref st_MINUS), .val (.int (0 : Int32)), .val (.int (0 : Int32)), .val (.int (0 : Int32)), .val (.int (1 : Int32)), .val (.int (1 : Int32)), .unset, .unset, .unset, .unset, .unset] X19 hx (dd at_79) rfl rfl ?_
      refine Gz.aload 83 X19 hx (dd at_81) rfl rfl rfl ?_
      refine Gz.iloadN 84 X19 hx (dd at_83) rfl rfl ?_
      refine Gz.iloadN 85 X19 hx (dd at_84) rfl rfl ?_
      obtain ⟨cq20, kq20, q20a, q20b, q20c⟩ := isOf hZ e19 E_st_MINUS
      obtain ⟨_, _, ⟨T20, L20, k20, n20⟩, -, X20, ⟨Lc20, hQ20, l20, y20, z20⟩, st20⟩ := X19.virtualBack hx (y := (⟨"com/example/libmandate/libmandate/spki/ByteLanguage$Operation", "accepts", "(ZZ)Z"⟩ : MethodName)) (z := (⟨"com/example/libmandate/libmandate/spki/ByteLanguage$Operation", "accepts", "(ZZ)Z"⟩ : MethodName)) hown (mvT hZ (ww hw 7 rfl)) (mvT hZ (ww hw 8 rfl)) (notFace_of_selects (args := #[]) (mvT hZ (ww hw 10 rfl))) (mvT hZ (ww hw 10 rfl)) (mvT hZ (ww hw 9 rfl)) (by decide) (backOf (W := 0) (rm1 l Z av0 hw [] st_MINUS (0 : Int32) (0 : Int32) st_AND st_OR h0 n0 Z0 S_st_AND S_st_OR) hZ (ww hw 11 rfl) (ww hw 1 rfl) (by decide) (by decide)) q20a q20c (g := (mkF m 85 #[.val (.int p0), .val (.int (0 : Int32)), .val (.int (1 : Int32)), .val (.ref st_AND), .val (.ref st_OR), .val (.ref st_MINUS), .val (.int (0 : Int32)), .val (.int (0 : Int32)), .val (.int (0 : Int32)), .val (.int (1 : Int32)), .val (.int (1 : Int32)), .unset, .unset, .unset, .unset, .unset] [(.int (0 : Int32)), (.int (0 : Int32)), (.ref st_MINUS)])) rfl (by rw [hml]; rfl) (Steps.refl _) (argsL := [(.int (0 : Int32)), (.int (0 : Int32))]) (rest := []) (lenOf pd_0 rfl) rfl (by show 2 * 0 + _ ≤ _; exact Nat.le_of_eq rfl) (dd at_85) (fun _ _ => ⟨rfl, e19, (by decide : 0 + 0 ≤ _), (by decide : 0 + 0 ≤ _)⟩)
      dsimp only [Pt.U, Pt.locs, Pt.cells, Pt.slots, Q_rm1] at X20 l20 y20 z20 st20 hQ20
      subst l20 y20 z20
      rw [show (f1 st_MINUS (0 : Int32) (0 : Int32) st_AND st_OR) = (0 : Int32) from (by unfold f1; rw [if_neg (Ne.symm ne_st_AND_st_MINUS), if_neg (Ne.symm ne_st_OR_st_MINUS), if_pos (by decide : (0 : Int32) = (0 : Int32))]; try decide)] at hQ20
      obtain ⟨rfl, N20q, e20⟩ := hQ20
      have N20 := Fr.app N19 N20q
      refine Gz.tr st20 ?_
      refine Gz.istore 90 #[.val (.int p0), .val (.int (0 : Int32)), .val (.int (1 : Int32)), .val (.ref st_AND), .val (.ref st_OR), .val (.ref st_MINUS), .val (.int (0 : Int32)), .val (.int (0 : Int32)), .val (.int (0 : Int32)), .val (.int (1 : Int32)), .val (.int (1 : Int32)), .val (.int (0 : Int32)), .unset, .unset, .unset, .unset] X20 hx (dd at_88) rfl rfl ?_
      refine Gz.iload 92 X20 hx (dd at_90) rfl rfl ?_
      refine Gz.iload 94 X20 hx (dd at_92) rfl rfl ?_
      refine Gz.icmpNo 97 X20 hx (dd at_94) (teq (by decide : (0 : Int32) = (0 : Int32))).2 rfl ?_
      refine Gz.iconst 98 (1 : Int32) X20 hx (dd at_97) rfl rfl ?_
      refine Gz.goto 102 X20 hx (dd at_98) (by decide) (by decide) ?_
      refine Gz.istore 104 #[.val (.int p0), .val (.int (0 : Int32)), .val (.int (1 : Int32)), .val (.ref st_AND), .val (.ref st_OR), .val (.ref st_MINUS), .val (.int (0 : Int32)), .val (.int (0 : Int32)), .val (.int (0 : Int32)), .val (.int (1 : Int32)), .val (.int (1 : Int32)), .val (.int (0 : Int32)), .val (.int (1 : Int32)), .unset, .unset, .unset] X20 hx (dd at_102) rfl rfl ?_
      refine Gz.iload 106 X20 hx (dd at_104) rfl rfl ?_
      refine Gz.ifNo 109 X20 hx (dd at_106) ((if0 _ _).trans (teq (by decide : (0 : Int32) = (0 : Int32))).2) rfl ?_
      refine Gz.iload 111 X20 hx (dd at_109) rfl rfl ?_
      refine Gz.ifYes 118 X20 hx (dd at_111) ((if0 _ _).trans (teq (by decide : (0 : Int32) = (0 : Int32))).1) (by decide) (by decide) ?_
      refine Gz.iconst 119 (0 : Int32) X20 hx (dd at_118) rfl rfl ?_
      refine Gz.iloadN 120 X20 hx (dd at_119) rfl rfl ?_
      refine Gz.icmpNo 123 X20 hx (dd at_120) (teq (by decide : (0 : Int32) = (0 : Int32))).2 rfl ?_
      refine Gz.iload 125 X20 hx (dd at_123) rfl rfl ?_
      refine Gz.ifYes 133 X20 hx (dd at_125) ((if0 _ _).trans (teq (by decide : (0 : Int32) = (0 : Int32))).1) (by decide) (by decide) ?_
      refine Gz.iconst 134 (1 : Int32) X20 hx (dd at_133) rfl rfl ?_
      refine Gz.goto 138 X20 hx (dd at_134) (by decide) (by decide) ?_
      refine Gz.istore 140 #[.val (.int p0), .val (.int (0 : Int32)), .val (.int (1 : Int32)), .val (.ref st_AND), .val (.ref st_OR), .val (.ref st_MINUS), .val (.int (0 : Int32)), .val (.int (0 : Int32)), .val (.int (0 : Int32)), .val (.int (1 : Int32)), .val (.int (1 : Int32)), .val (.int (0 : Int32)), .val (.int (1 : Int32)), .val (.int (1 : Int32)), .unset, .unset] X20 hx (dd at_138) rfl rfl ?_
      refine Gz.iload 142 X20 hx (dd at_140) rfl rfl ?_
      refine Gz.ifNo 145 X20 hx (dd at_142) ((if0 _ _).trans (teq (by decide : (0 : Int32) = (0 : Int32))).2) rfl ?_
      refine Gz.iconst 146 (1 : Int32) X20 hx (dd at_145) rfl rfl ?_
      refine Gz.goto 150 X20 hx (dd at_146) (by decide) (by decide) ?_
      refine Gz.istore 152 #[.val (.int p0), .val (.int (0 : Int32)), .val (.int (1 : Int32)), .val (.ref st_AND), .val (.ref st_OR), .val (.ref st_MINUS), .val (.int (0 : Int32)), .val (.int (0 : Int32)), .val (.int (0 : Int32)), .val (.int (1 : Int32)), .val (.int (1 : Int32)), .val (.int (0 : Int32)), .val (.int (1 : Int32)), .val (.int (1 : Int32)), .val (.int (1 : Int32)), .unset] X20 hx (dd at_150) rfl rfl ?_
      refine Gz.iload 154 X20 hx (dd at_152) rfl rfl ?_
      refine Gz.iload 156 X20 hx (dd at_154) rfl rfl ?_
      refine Gz.ifNo 159 X20 hx (dd at_156) ((if0 _ _).trans (teq (by decide : (0 : Int32) = (0 : Int32))).2) rfl ?_
      refine Gz.iload 161 X20 hx (dd at_159) rfl rfl ?_
      refine Gz.ifNo 164 X20 hx (dd at_161) ((if0 _ _).trans (teq (by decide : (0 : Int32) = (0 : Int32))).2) rfl ?_
      refine Gz.iload 166 X20 hx (dd at_164) rfl rfl ?_
      refine Gz.ifNo 169 X20 hx (dd at_166) ((if0 _ _).trans (feq (by decide : ¬ ((1 : Int32) = (0 : Int32)))).1) rfl ?_
      refine Gz.iconst 170 (1 : Int32) X20 hx (dd at_169) rfl rfl ?_
      refine Gz.goto 174 X20 hx (dd at_170) (by decide) (by decide) ?_
      refine Gz.icmpNo 177 X20 hx (dd at_174) (teq (by decide : (1 : Int32) = (1 : Int32))).2 rfl ?_
      refine Gz.iconst 178 (1 : Int32) X20 hx (dd at_177) rfl rfl ?_
      refine Gz.goto 182 X20 hx (dd at_178) (by decide) (by decide) ?_
      refine Gz.istore 184 #[.val (.int p0), .val (.int (0 : Int32)), .val (.int (1 : Int32)), .val (.ref st_AND), .val (.ref st_OR), .val (.ref st_MINUS), .val (.int (0 : Int32)), .val (.int (0 : Int32)), .val (.int (0 : Int32)), .val (.int (1 : Int32)), .val (.int (1 : Int32)), .val (.int (0 : Int32)), .val (.int (1 : Int32)), .val (.int (1 : Int32)), .val (.int (1 : Int32)), .val (.int (1 : Int32))] X20 hx (dd at_182) rfl rfl ?_
      refine Gz.iload 186 X20 hx (dd at_184) rfl rfl ?_
      refine Gz.ifNo 189 X20 hx (dd at_186) ((if0 _ _).trans (feq (by decide : ¬ ((1 : Int32) = (0 : Int32)))).1) rfl ?_
      refine Gz.iload 191 X20 hx (dd at_189) rfl rfl ?_
      refine Gz.ifNo 194 X20 hx (dd at_191) ((if0 _ _).trans (feq (by decide : ¬ ((1 : Int32) = (0 : Int32)))).1) rfl ?_
      refine Gz.iload 196 X20 hx (dd at_194) rfl rfl ?_
      refine Gz.ifNo 199 X20 hx (dd at_196) ((if0 _ _).trans (feq (by decide : ¬ ((1 : Int32) = (0 : Int32)))).1) rfl ?_
      refine Gz.iload 201 X20 hx (dd at_199) rfl rfl ?_
      refine Gz.ifNo 204 X20 hx (dd at_201) ((if0 _ _).trans (feq (by decide : ¬ ((1 : Int32) = (0 : Int32)))).1) rfl ?_
      refine Gz.iconst 205 (1 : Int32) X20 hx (dd at_204) rfl rfl ?_
      refine Gz.goto 209 X20 hx (dd at_205) (by decide) (by decide) ?_
      refine Gz.fin X20 (v := some (.int (1 : Int32))) (fun h => by rw [hret] at h; cases h) hlk (by decide) (by decide) (fun fs hr => retN X20 hx (t := .boolean) hret (by simp) (dd at_209) hr) ?_
      exact ⟨rfl, N20⟩
  · refine Gz.ifNo 6 X0 hx (dd at_3) ((if0 _ _).trans (feq hc1).1) rfl ?_
    refine Gz.iconst 7 (1 : Int32) X0 hx (dd at_6) rfl rfl ?_
    refine Gz.goto 11 X0 hx (dd at_7) (by decide) (by decide) ?_
    refine Gz.istoreN 12 #[.val (.int p0), .val (.int (1 : Int32)), .unset, .unset, .unset, .unset, .unset, .unset, .unset, .unset, .unset, .unset, .unset, .unset, .unset, .unset] X0 hx (dd at_11) rfl rfl ?_
    refine Gz.iloadN 13 X0 hx (dd at_12) rfl rfl ?_
    refine Gz.iconst 14 (2 : Int32) X0 hx (dd at_13) rfl rfl ?_
    refine Gz.iand 15 X0 hx (dd at_14) rfl ?_
    by_cases hc21 : (p0 &&& (2 : Int32)) = (0 : Int32)
    · refine Gz.ifYes 22 X0 hx (dd at_15) ((if0 _ _).trans (teq hc21).1) (by decide) (by decide) ?_
      refine Gz.iconst 23 (0 : Int32) X0 hx (dd at_22) rfl rfl ?_
      refine Gz.istoreN 24 #[.val (.int p0), .val (.int (1 : Int32)), .val (.int (0 : Int32)), .unset, .unset, .unset, .unset, .unset, .unset, .unset, .unset, .unset, .unset, .unset, .unset, .unset] X0 hx (dd at_23) rfl rfl ?_
      refine Gz.getS 27 X0 hx hZ hown (dd at_24) (host := "") (Or.inl (ww hw 0 rfl)) Via.refl e0 S_st_AND rfl fun T22 X22 e22 => ?_
      refine Gz.astoreN 28 #[.val (.int p0), .val (.int (1 : Int32)), .val (.int (0 : Int32)), .val (.ref st_AND), .unset, .unset, .unset, .unset, .unset, .unset, .unset, .unset, .unset, .unset, .unset, .unset] X22 hx (dd at_27) rfl rfl rfl ?_
      refine Gz.getS 31 X22 hx hZ hown (dd at_28) (host := "") (Or.inl (ww hw 3 rfl)) Via.refl e22 S_st_OR rfl fun T23 X23 e23 => ?_
      refine Gz.astore 33 #[.val (.int p0), .val (.int (1 : Int32)), .val (.int (0 : Int32)), .val (.ref st_AND), .val (.ref st_OR), .unset, .unset, .unset, .unset, .unset, .unset, .unset, .unset, .unset, .unset, .unset] X23 hx (dd at_31) rfl rfl rfl ?_
      refine Gz.getS 36 X23 hx hZ hown (dd at_33) (host := "") (Or.inl (ww hw 5 rfl)) Via.refl e23 S_st_MINUS rfl fun T24 X24 e24 => ?_
      refine Gz.astore 38 #[.val (.int p0), .val (.int (1 : Int32)), .val (.int (0 : Int32)), .val (.ref st_AND), .val (.ref st_OR), .val (.ref st_MINUS), .unset, .unset, .unset, .unset, .unset, .unset, .unset, .unset, .unset, .unset] X24 hx (dd at_36) rfl rfl rfl ?_
      refine Gz.aloadN 39 X24 hx (dd at_38) rfl rfl rfl ?_
      refine Gz.iloadN 40 X24 hx (dd at_39) rfl rfl ?_
      refine Gz.iloadN 41 X24 hx (dd at_40) rfl rfl ?_
      obtain ⟨cq25, kq25, q25a, q25b, q25c⟩ := isOf hZ e24 E_st_AND
      obtain ⟨_, _, ⟨T25, L25, k25, n25⟩, -, X25, ⟨Lc25, hQ25, l25, y25, z25⟩, st25⟩ := X24.virtualBack hx (y := (⟨"com/example/libmandate/libmandate/spki/ByteLanguage$Operation", "accepts", "(ZZ)Z"⟩ : MethodName)) (z := (⟨"com/example/libmandate/libmandate/spki/ByteLanguage$Operation", "accepts", "(ZZ)Z"⟩ : MethodName)) hown (mvT hZ (ww hw 7 rfl)) (mvT hZ (ww hw 8 rfl)) (notFace_of_selects (args := #[]) (mvT hZ (ww hw 10 rfl))) (mvT hZ (ww hw 10 rfl)) (mvT hZ (ww hw 9 rfl)) (by decide) (backOf (W := 0) (rm1 l Z av0 hw [] st_AND (1 : Int32) (0 : Int32) st_AND st_OR h0 n0 Z0 S_st_AND S_st_OR) hZ (ww hw 11 rfl) (ww hw 1 rfl) (by decide) (by decide)) q25a q25c (g := (mkF m 41 #[.val (.int p0), .val (.int (1 : Int32)), .val (.int (0 : Int32)), .val (.ref st_AND), .val (.ref st_OR), .val (.ref st_MINUS), .unset, .unset, .unset, .unset, .unset, .unset, .unset, .unset, .unset, .unset] [(.int (0 : Int32)), (.int (1 : Int32)), (.ref st_AND)])) rfl (by rw [hml]; rfl) (Steps.refl _) (argsL := [(.int (1 : Int32)), (.int (0 : Int32))]) (rest := []) (lenOf pd_0 rfl) rfl (by show 2 * 0 + _ ≤ _; exact Nat.le_of_eq rfl) (dd at_41) (fun _ _ => ⟨rfl, e24, (by decide : 0 + 0 ≤ _), (by decide : 0 + 0 ≤ _)⟩)
      dsimp only [Pt.U, Pt.locs, Pt.cells, Pt.slots, Q_rm1] at X25 l25 y25 z25 st25 hQ25
      subst l25 y25 z25
      rw [show (f1 st_AND (1 : Int32) (0 : Int32) st_AND st_OR) = (0 : Int32) from (by unfold f1; rw [if_pos (rfl : st_AND = st_AND), if_neg (by decide : ¬ ((1 : Int32) = (0 : Int32))), if_pos (by decide : (0 : Int32) = (0 : Int32))]; try decide)] at hQ25
      obtain ⟨rfl, N25q, e25⟩ := hQ25
      have N25 := Fr.app N0 N25q
      refine Gz.tr st25 ?_
      refine Gz.istore 46 #[.val (.int p0), .val (.int (1 : Int32)), .val (.int (0 : Int32)), .val (.ref st_AND), .val (.ref st_OR), .val (.ref st_MINUS), .val (.int (0 : Int32)), .unset, .unset, .unset, .unset, .unset, .unset, .unset, .unset, .unset] X25 hx (dd at_44) rfl rfl ?_
      refine Gz.aloadN 47 X25 hx (dd at_46) rfl rfl rfl ?_
      refine Gz.iloadN 48 X25 hx (dd at_47) rfl rfl ?_
      refine Gz.iloadN 49 X25 hx (dd at_48) rfl rfl ?_
      obtain ⟨cq26, kq26, q26a, q26b, q26c⟩ := isOf hZ e25 E_st_AND
      obtain ⟨_, _, ⟨T26, L26, k26, n26⟩, -, X26, ⟨Lc26, hQ26, l26, y26, z26⟩, st26⟩ := X25.virtualBack hx (y := (⟨"com/example/libmandate/libmandate/spki/ByteLanguage$Operation", "accepts", "(ZZ)Z"⟩ : MethodName)) (z := (⟨"com/example/libmandate/libmandate/spki/ByteLanguage$Operation", "accepts", "(ZZ)Z"⟩ : MethodName)) hown (mvT hZ (ww hw 7 rfl)) (mvT hZ (ww hw 8 rfl)) (notFace_of_selects (args := #[]) (mvT hZ (ww hw 10 rfl))) (mvT hZ (ww hw 10 rfl)) (mvT hZ (ww hw 9 rfl)) (by decide) (backOf (W := 0) (rm1 l Z av0 hw [] st_AND (0 : Int32) (1 : Int32) st_AND st_OR h0 n0 Z0 S_st_AND S_st_OR) hZ (ww hw 11 rfl) (ww hw 1 rfl) (by decide) (by decide)) q26a q26c (g := (mkF m 49 #[.val (.int p0), .val (.int (1 : Int32)), .val (.int (0 : Int32)), .val (.ref st_AND), .val (.ref st_OR), .val (.ref st_MINUS), .val (.int (0 : Int32)), .unset, .unset, .unset, .unset, .unset, .unset, .unset, .unset, .unset] [(.int (1 : Int32)), (.int (0 : Int32)), (.ref st_AND)])) rfl (by rw [hml]; rfl) (Steps.refl _) (argsL := [(.int (0 : Int32)), (.int (1 : Int32))]) (rest := []) (lenOf pd_0 rfl) rfl (by show 2 * 0 + _ ≤ _; exact Nat.le_of_eq rfl) (dd at_49) (fun _ _ => ⟨rfl, e25, (by decide : 0 + 0 ≤ _), (by decide : 0 + 0 ≤ _)⟩)
      dsimp only [Pt.U, Pt.locs, Pt.cells, Pt.slots, Q_rm1] at X26 l26 y26 z26 st26 hQ26
      subst l26 y26 z26
      rw [show (f1 st_AND (0 : Int32) (1 : Int32) st_AND st_OR) = (0 : Int32) from (by unfold f1; rw [if_pos (rfl : st_AND = st_AND), if_pos (by decide : (0 : Int32) = (0 : Int32))]; try decide)] at hQ26
      obtain ⟨rfl, N26q, e26⟩ := hQ26
      have N26 := Fr.app N25 N26q
      refine Gz.tr st26 ?_
      refine Gz.istore 54 #[.val (.int p0), .val (.int (1 : Int32)), .val (.int (0 : Int32)), .val (.ref st_AND), .val (.ref st_OR), .val (.ref st_MINUS), .val (.int (0 : Int32)), .val (.int (0 : Int32)), .unset, .unset, .unset, .unset, .unset, .unset, .unset, .unset] X26 hx (dd at_52) rfl rfl ?_
      refine Gz.aload 56 X26 hx (dd at_54) rfl rfl rfl ?_
      refine Gz.iloadN 57 X26 hx (dd at_56) rfl rfl ?_
      refine Gz.iloadN 58 X26 hx (dd at_57) rfl rfl ?_
      obtain ⟨cq27, kq27, q27a, q27b, q27c⟩ := isOf hZ e26 E_st_MINUS
      obtain ⟨_, _, ⟨T27, L27, k27, n27⟩, -, X27, ⟨Lc27, hQ27, l27, y27, z27⟩, st27⟩ := X26.virtualBack hx (y := (⟨"com/example/libmandate/libmandate/spki/ByteLanguage$Operation", "accepts", "(ZZ)Z"⟩ : MethodName)) (z := (⟨"com/example/libmandate/libmandate/spki/ByteLanguage$Operation", "accepts", "(ZZ)Z"⟩ : MethodName)) hown (mvT hZ (ww hw 7 rfl)) (mvT hZ (ww hw 8 rfl)) (notFace_of_selects (args := #[]) (mvT hZ (ww hw 10 rfl))) (mvT hZ (ww hw 10 rfl)) (mvT hZ (ww hw 9 rfl)) (by decide) (backOf (W := 0) (rm1 l Z av0 hw [] st_MINUS (1 : Int32) (0 : Int32) st_AND st_OR h0 n0 Z0 S_st_AND S_st_OR) hZ (ww hw 11 rfl) (ww hw 1 rfl) (by decide) (by decide)) q27a q27c (g := (mkF m 58 #[.val (.int p0), .val (.int (1 : Int32)), .val (.int (0 : Int32)), .val (.ref st_AND), .val (.ref st_OR), .val (.ref st_MINUS), .val (.int (0 : Int32)), .val (.int (0 : Int32)), .unset, .unset, .unset, .unset, .unset, .unset, .unset, .unset] [(.int (0 : Int32)), (.int (1 : Int32)), (.ref st_MINUS)])) rfl (by rw [hml]; rfl) (Steps.refl _) (argsL := [(.int (1 : Int32)), (.int (0 : Int32))]) (rest := []) (lenOf pd_0 rfl) rfl (by show 2 * 0 + _ ≤ _; exact Nat.le_of_eq rfl) (dd at_58) (fun _ _ => ⟨rfl, e26, (by decide : 0 + 0 ≤ _), (by decide : 0 + 0 ≤ _)⟩)
      dsimp only [Pt.U, Pt.locs, Pt.cells, Pt.slots, Q_rm1] at X27 l27 y27 z27 st27 hQ27
      subst l27 y27 z27
      rw [show (f1 st_MINUS (1 : Int32) (0 : Int32) st_AND st_OR) = (1 : Int32) from (by unfold f1; rw [if_neg (Ne.symm ne_st_AND_st_MINUS), if_neg (Ne.symm ne_st_OR_st_MINUS), if_neg (by decide : ¬ ((1 : Int32) = (0 : Int32))), if_pos (by decide : (0 : Int32) = (0 : Int32))]; try decide)] at hQ27
      obtain ⟨rfl, N27q, e27⟩ := hQ27
      have N27 := Fr.app N26 N27q
      refine Gz.tr st27 ?_
      refine Gz.istore 63 #[.val (.int p0), .val (.int (1 : Int32)), .val (.int (0 : Int32)), .val (.ref st_AND), .val (.ref st_OR), .val (.ref st_MINUS), .val (.int (0 : Int32)), .val (.int (0 : Int32)), .val (.int (1 : Int32)), .unset, .unset, .unset, .unset, .unset, .unset, .unset] X27 hx (dd at_61) rfl rfl ?_
      refine Gz.aload 65 X27 hx (dd at_63) rfl rfl rfl ?_
      refine Gz.iloadN 66 X27 hx (dd at_65) rfl rfl ?_
      refine Gz.iloadN 67 X27 hx (dd at_66) rfl rfl ?_
      obtain ⟨cq28, kq28, q28a, q28b, q28c⟩ := isOf hZ e27 E_st_MINUS
      obtain ⟨_, _, ⟨T28, L28, k28, n28⟩, -, X28, ⟨Lc28, hQ28, l28, y28, z28⟩, st28⟩ := X27.virtualBack hx (y := (⟨"com/example/libmandate/libmandate/spki/ByteLanguage$Operation", "accepts", "(ZZ)Z"⟩ : MethodName)) (z := (⟨"com/example/libmandate/libmandate/spki/ByteLanguage$Operation", "accepts", "(ZZ)Z"⟩ : MethodName)) hown (mvT hZ (ww hw 7 rfl)) (mvT hZ (ww hw 8 rfl)) (notFace_of_selects (args := #[]) (mvT hZ (ww hw 10 rfl))) (mvT hZ (ww hw 10 rfl)) (mvT hZ (ww hw 9 rfl)) (by decide) (backOf (W := 0) (rm1 l Z av0 hw [] st_MINUS (0 : Int32) (1 : Int32) st_AND st_OR h0 n0 Z0 S_st_AND S_st_OR) hZ (ww hw 11 rfl) (ww hw 1 rfl) (by decide) (by decide)) q28a q28c (g := (mkF m 67 #[.val (.int p0), .val (.int (1 : Int32)), .val (.int (0 : Int32)), .val (.ref st_AND), .val (.ref st_OR), .val (.ref st_MINUS), .val (.int (0 : Int32)), .val (.int (0 : Int32)), .val (.int (1 : Int32)), .unset, .unset, .unset, .unset, .unset, .unset, .unset] [(.int (1 : Int32)), (.int (0 : Int32)), (.ref st_MINUS)])) rfl (by rw [hml]; rfl) (Steps.refl _) (argsL := [(.int (0 : Int32)), (.int (1 : Int32))]) (rest := []) (lenOf pd_0 rfl) rfl (by show 2 * 0 + _ ≤ _; exact Nat.le_of_eq rfl) (dd at_67) (fun _ _ => ⟨rfl, e27, (by decide : 0 + 0 ≤ _), (by decide : 0 + 0 ≤ _)⟩)
      dsimp only [Pt.U, Pt.locs, Pt.cells, Pt.slots, Q_rm1] at X28 l28 y28 z28 st28 hQ28
      subst l28 y28 z28
      rw [show (f1 st_MINUS (0 : Int32) (1 : Int32) st_AND st_OR) = (0 : Int32) from (by unfold f1; rw [if_neg (Ne.symm ne_st_AND_st_MINUS), if_neg (Ne.symm ne_st_OR_st_MINUS), if_pos (by decide : (0 : Int32) = (0 : Int32))]; try decide)] at hQ28
      obtain ⟨rfl, N28q, e28⟩ := hQ28
      have N28 := Fr.app N27 N28q
      refine Gz.tr st28 ?_
      refine Gz.istore 72 #[.val (.int p0), .val (.int (1 : Int32)), .val (.int (0 : Int32)), .val (.ref st_AND), .val (.ref st_OR), .val (.ref st_MINUS), .val (.int (0 : Int32)), .val (.int (0 : Int32)), .val (.int (1 : Int32)), .val (.int (0 : Int32)), .unset, .unset, .unset, .unset, .unset, .unset] X28 hx (dd at_70) rfl rfl ?_
      refine Gz.aload 74 X28 hx (dd at_72) rfl rfl rfl ?_
      refine Gz.iloadN 75 X28 hx (dd at_74) rfl rfl ?_
      refine Gz.iloadN 76 X28 hx (dd at_75) rfl rfl ?_
      obtain ⟨cq29, kq29, q29a, q29b, q29c⟩ := isOf hZ e28 E_st_OR
      obtain ⟨_, _, ⟨T29, L29, k29, n29⟩, -, X29, ⟨Lc29, hQ29, l29, y29, z29⟩, st29⟩ := X28.virtualBack hx (y := (⟨"com/example/libmandate/libmandate/spki/ByteLanguage$Operation", "accepts", "(ZZ)Z"⟩ : MethodName)) (z := (⟨"com/example/libmandate/libmandate/spki/ByteLanguage$Operation", "accepts", "(ZZ)Z"⟩ : MethodName)) hown (mvT hZ (ww hw 7 rfl)) (mvT hZ (ww hw 8 rfl)) (notFace_of_selects (args := #[]) (mvT hZ (ww hw 10 rfl))) (mvT hZ (ww hw 10 rfl)) (mvT hZ (ww hw 9 rfl)) (by decide) (backOf (W := 0) (rm1 l Z av0 hw [] st_OR (1 : Int32) (0 : Int32) st_AND st_OR h0 n0 Z0 S_st_AND S_st_OR) hZ (ww hw 11 rfl) (ww hw 1 rfl) (by decide) (by decide)) q29a q29c (g := (mkF m 76 #[.val (.int p0), .val (.int (1 : Int32)), .val (.int (0 : Int32)), .val (.ref st_AND), .val (.ref st_OR), .val (.ref st_MINUS), .val (.int (0 : Int32)), .val (.int (0 : Int32)), .val (.int (1 : Int32)), .val (.int (0 : Int32)), .unset, .unset, .unset, .unset, .unset, .unset] [(.int (0 : Int32)), (.int (1 : Int32)), (.ref st_OR)])) rfl (by rw [hml]; rfl) (Steps.refl _) (argsL := [(.int (1 : Int32)), (.int (0 : Int32))]) (rest := []) (lenOf pd_0 rfl) rfl (by show 2 * 0 + _ ≤ _; exact Nat.le_of_eq rfl) (dd at_76) (fun _ _ => ⟨rfl, e28, (by decide : 0 + 0 ≤ _), (by decide : 0 + 0 ≤ _)⟩)
      dsimp only [Pt.U, Pt.locs, Pt.cells, Pt.slots, Q_rm1] at X29 l29 y29 z29 st29 hQ29
      subst l29 y29 z29
      rw [show (f1 st_OR (1 : Int32) (0 : Int32) st_AND st_OR) = (1 : Int32) from (by unfold f1; rw [if_neg (Ne.symm ne_st_AND_st_OR), if_pos (rfl : st_OR = st_OR), if_neg (by decide : ¬ ((1 : Int32) = (0 : Int32)))]; try decide)] at hQ29
      obtain ⟨rfl, N29q, e29⟩ := hQ29
      have N29 := Fr.app N28 N29q
      refine Gz.tr st29 ?_
      refine Gz.istore 81 #[.val (.int p0), .val (.int (1 : Int32)), .val (.int (0 : Int32)), .val (.ref st_AND), .val (.ref st_OR), .val (.ref st_MINUS), .val (.int (0 : Int32)), .val (.int (0 : Int32)), .val (.int (1 : Int32)), .val (.int (0 : Int32)), .val (.int (1 : Int32)), .unset, .unset, .unset, .unset, .unset] X29 hx (dd at_79) rfl rfl ?_
      refine Gz.aload 83 X29 hx (dd at_81) rfl rfl rfl ?_
      refine Gz.iloadN 84 X29 hx (dd at_83) rfl rfl ?_
      refine Gz.iloadN 85 X29 hx (dd at_84) rfl rfl ?_
      obtain ⟨cq30, kq30, q30a, q30b, q30c⟩ := isOf hZ e29 E_st_MINUS
      obtain ⟨_, _, ⟨T30, L30, k30, n30⟩, -, X30, ⟨Lc30, hQ30, l30, y30, z30⟩, st30⟩ := X29.virtualBack hx (y := (⟨"com/example/libmandate/libmandate/spki/ByteLanguage$Operation", "accepts", "(ZZ)Z"⟩ : MethodName)) (z := (⟨"com/example/libmandate/libmandate/spki/ByteLanguage$Operation", "accepts", "(ZZ)Z"⟩ : MethodName)) hown (mvT hZ (ww hw 7 rfl)) (mvT hZ (ww hw 8 rfl)) (notFace_of_selects (args := #[]) (mvT hZ (ww hw 10 rfl))) (mvT hZ (ww hw 10 rfl)) (mvT hZ (ww hw 9 rfl)) (by decide) (backOf (W := 0) (rm1 l Z av0 hw [] st_MINUS (1 : Int32) (1 : Int32) st_AND st_OR h0 n0 Z0 S_st_AND S_st_OR) hZ (ww hw 11 rfl) (ww hw 1 rfl) (by decide) (by decide)) q30a q30c (g := (mkF m 85 #[.val (.int p0), .val (.int (1 : Int32)), .val (.int (0 : Int32)), .val (.ref st_AND), .val (.ref st_OR), .val (.ref st_MINUS), .val (.int (0 : Int32)), .val (.int (0 : Int32)), .val (.int (1 : Int32)), .val (.int (0 : Int32)), .val (.int (1 : Int32)), .unset, .unset, .unset, .unset, .unset] [(.int (1 : Int32)), (.int (1 : Int32)), (.ref st_MINUS)])) rfl (by rw [hml]; rfl) (Steps.refl _) (argsL := [(.int (1 : Int32)), (.int (1 : Int32))]) (rest := []) (lenOf pd_0 rfl) rfl (by show 2 * 0 + _ ≤ _; exact Nat.le_of_eq rfl) (dd at_85) (fun _ _ => ⟨rfl, e29, (by decide : 0 + 0 ≤ _), (by decide : 0 + 0 ≤ _)⟩)
      dsimp only [Pt.U, Pt.locs, Pt.cells, Pt.slots, Q_rm1] at X30 l30 y30 z30 st30 hQ30
      subst l30 y30 z30
      rw [show (f1 st_MINUS (1 : Int32) (1 : Int32) st_AND st_OR) = (0 : Int32) from (by unfold f1; rw [if_neg (Ne.symm ne_st_AND_st_MINUS), if_neg (Ne.symm ne_st_OR_st_MINUS), if_neg (by decide : ¬ ((1 : Int32) = (0 : Int32))), if_neg (by decide : ¬ ((1 : Int32) = (0 : Int32)))]; try decide)] at hQ30
      obtain ⟨rfl, N30q, e30⟩ := hQ30
      have N30 := Fr.app N29 N30q
      refine Gz.tr st30 ?_
      refine Gz.istore 90 #[.val (.int p0), .val (.int (1 : Int32)), .val (.int (0 : Int32)), .val (.ref st_AND), .val (.ref st_OR), .val (.ref st_MINUS), .val (.int (0 : Int32)), .val (.int (0 : Int32)), .val (.int (1 : Int32)), .val (.int (0 : Int32)), .val (.int (1 : Int32)), .val (.int (0 : Int32)), .unset, .unset, .unset, .unset] X30 hx (dd at_88) rfl rfl ?_
      refine Gz.iload 92 X30 hx (dd at_90) rfl rfl ?_
      refine Gz.iload 94 X30 hx (dd at_92) rfl rfl ?_
      refine Gz.icmpNo 97 X30 hx (dd at_94) (teq (by decide : (0 : Int32) = (0 : Int32))).2 rfl ?_
      refine Gz.iconst 98 (1 : Int32) X30 hx (dd at_97) rfl rfl ?_
      refine Gz.goto 102 X30 hx (dd at_98) (by decide) (by decide) ?_
      refine Gz.istore 104 #[.val (.int p0), .val (.int (1 : Int32)), .val (.int (0 : Int32)), .val (.ref st_AND), .val (.ref st_OR), .val (.ref st_MINUS), .val (.int (0 : Int32)), .val (.int (0 : Int32)), .val (.int (1 : Int32)), .val (.int (0 : Int32)), .val (.int (1 : Int32)), .val (.int (0 : Int32)), .val (.int (1 : Int32)), .unset, .unset, .unset] X30 hx (dd at_102) rfl rfl ?_
      refine Gz.iload 106 X30 hx (dd at_104) rfl rfl ?_
      refine Gz.ifNo 109 X30 hx (dd at_106) ((if0 _ _).trans (teq (by decide : (0 : Int32) = (0 : Int32))).2) rfl ?_
      refine Gz.iload 111 X30 hx (dd at_109) rfl rfl ?_
      refine Gz.ifNo 114 X30 hx (dd at_111) ((if0 _ _).trans (feq (by decide : ¬ ((1 : Int32) = (0 : Int32)))).1) rfl ?_
      refine Gz.iconst 115 (1 : Int32) X30 hx (dd at_114) rfl rfl ?_
      refine Gz.goto 119 X30 hx (dd at_115) (by decide) (by decide) ?_
      refine Gz.iloadN 120 X30 hx (dd at_119) rfl rfl ?_
      refine Gz.icmpNo 123 X30 hx (dd at_120) (teq (by decide : (1 : Int32) = (1 : Int32))).2 rfl ?_
      refine Gz.iload 125 X30 hx (dd at_123) rfl rfl ?_
      refine Gz.ifYes 133 X30 hx (dd at_125) ((if0 _ _).trans (teq (by decide : (0 : Int32) = (0 : Int32))).1) (by decide) (by decide) ?_
      refine Gz.iconst 134 (1 : Int32) X30 hx (dd at_133) rfl rfl ?_
      refine Gz.goto 138 X30 hx (dd at_134) (by decide) (by decide) ?_
      refine Gz.istore 140 #[.val (.int p0), .val (.int (1 : Int32)), .val (.int (0 : Int32)), .val (.ref st_AND), .val (.ref st_OR), .val (.ref st_MINUS), .val (.int (0 : Int32)), .val (.int (0 : Int32)), .val (.int (1 : Int32)), .val (.int (0 : Int32)), .val (.int (1 : Int32)), .val (.int (0 : Int32)), .val (.int (1 : Int32)), .val (.int (1 : Int32)), .unset, .unset] X30 hx (dd at_138) rfl rfl ?_
      refine Gz.iload 142 X30 hx (dd at_140) rfl rfl ?_
      refine Gz.ifNo 145 X30 hx (dd at_142) ((if0 _ _).trans (teq (by decide : (0 : Int32) = (0 : Int32))).2) rfl ?_
      refine Gz.iconst 146 (1 : Int32) X30 hx (dd at_145) rfl rfl ?_
      refine Gz.goto 150 X30 hx (dd at_146) (by decide) (by decide) ?_
      refine Gz.istore 152 #[.val (.int p0), .val (.int (1 : Int32)), .val (.int (0 : Int32)), .val (.ref st_AND), .val (.ref st_OR), .val (.ref st_MINUS), .val (.int (0 : Int32)), .val (.int (0 : Int32)), .val (.int (1 : Int32)), .val (.int (0 : Int32)), .val (.int (1 : Int32)), .val (.int (0 : Int32)), .val (.int (1 : Int32)), .val (.int (1 : Int32)), .val (.int (1 : Int32)), .unset] X30 hx (dd at_150) rfl rfl ?_
      refine Gz.iload 154 X30 hx (dd at_152) rfl rfl ?_
      refine Gz.iload 156 X30 hx (dd at_154) rfl rfl ?_
      refine Gz.ifNo 159 X30 hx (dd at_156) ((if0 _ _).trans (teq (by decide : (0 : Int32) = (0 : Int32))).2) rfl ?_
      refine Gz.iload 161 X30 hx (dd at_159) rfl rfl ?_
      refine Gz.ifYes 169 X30 hx (dd at_161) ((if0 _ _).trans (feq (by decide : ¬ ((1 : Int32) = (0 : Int32)))).2) (by decide) (by decide) ?_
      refine Gz.iconst 170 (1 : Int32) X30 hx (dd at_169) rfl rfl ?_
      refine Gz.goto 174 X30 hx (dd at_170) (by decide) (by decide) ?_
      refine Gz.icmpNo 177 X30 hx (dd at_174) (teq (by decide : (1 : Int32) = (1 : Int32))).2 rfl ?_
      refine Gz.iconst 178 (1 : Int32) X30 hx (dd at_177) rfl rfl ?_
      refine Gz.goto 182 X30 hx (dd at_178) (by decide) (by decide) ?_
      refine Gz.istore 184 #[.val (.int p0), .val (.int (1 : Int32)), .val (.int (0 : Int32)), .val (.ref st_AND), .val (.ref st_OR), .val (.ref st_MINUS), .val (.int (0 : Int32)), .val (.int (0 : Int32)), .val (.int (1 : Int32)), .val (.int (0 : Int32)), .val (.int (1 : Int32)), .val (.int (0 : Int32)), .val (.int (1 : Int32)), .val (.int (1 : Int32)), .val (.int (1 : Int32)), .val (.int (1 : Int32))] X30 hx (dd at_182) rfl rfl ?_
      refine Gz.iload 186 X30 hx (dd at_184) rfl rfl ?_
      refine Gz.ifNo 189 X30 hx (dd at_186) ((if0 _ _).trans (feq (by decide : ¬ ((1 : Int32) = (0 : Int32)))).1) rfl ?_
      refine Gz.iload 191 X30 hx (dd at_189) rfl rfl ?_
      refine Gz.ifNo 194 X30 hx (dd at_191) ((if0 _ _).trans (feq (by decide : ¬ ((1 : Int32) = (0 : Int32)))).1) rfl ?_
      refine Gz.iload 196 X30 hx (dd at_194) rfl rfl ?_
      refine Gz.ifNo 199 X30 hx (dd at_196) ((if0 _ _).trans (feq (by decide : ¬ ((1 : Int32) = (0 : Int32)))).1) rfl ?_
      refine Gz.iload 201 X30 hx (dd at_199) rfl rfl ?_
      refine Gz.ifNo 204 X30 hx (dd at_201) ((if0 _ _).trans (feq (by decide : ¬ ((1 : Int32) = (0 : Int32)))).1) rfl ?_
      refine Gz.iconst 205 (1 : Int32) X30 hx (dd at_204) rfl rfl ?_
      refine Gz.goto 209 X30 hx (dd at_205) (by decide) (by decide) ?_
      refine Gz.fin X30 (v := some (.int (1 : Int32))) (fun h => by rw [hret] at h; cases h) hlk (by decide) (by decide) (fun fs hr => retN X30 hx (t := .boolean) hret (by simp) (dd at_209) hr) ?_
      exact ⟨rfl, N30⟩
    · refine Gz.ifNo 18 X0 hx (dd at_15) ((if0 _ _).trans (feq hc21).1) rfl ?_
      refine Gz.iconst 19 (1 : Int32) X0 hx (dd at_18) rfl rfl ?_
      refine Gz.goto 23 X0 hx (dd at_19) (by decide) (by decide) ?_
      refine Gz.istoreN 24 #[.val (.int p0), .val (.int (1 : Int32)), .val (.int (1 : Int32)), .unset, .unset, .unset, .unset, .unset, .unset, .unset, .unset, .unset, .unset, .unset, .unset, .unset] X0 hx (dd at_23) rfl rfl ?_
      refine Gz.getS 27 X0 hx hZ hown (dd at_24) (host := "") (Or.inl (ww hw 0 rfl)) Via.refl e0 S_st_AND rfl fun T31 X31 e31 => ?_
      refine Gz.astoreN 28 #[.val (.int p0), .val (.int (1 : Int32)), .val (.int (1 : Int32)), .val (.ref st_AND), .unset, .unset, .unset, .unset, .unset, .unset, .unset, .unset, .unset, .unset, .unset, .unset] X31 hx (dd at_27) rfl rfl rfl ?_
      refine Gz.getS 31 X31 hx hZ hown (dd at_28) (host := "") (Or.inl (ww hw 3 rfl)) Via.refl e31 S_st_OR rfl fun T32 X32 e32 => ?_
      refine Gz.astore 33 #[.val (.int p0), .val (.int (1 : Int32)), .val (.int (1 : Int32)), .val (.ref st_AND), .val (.ref st_OR), .unset, .unset, .unset, .unset, .unset, .unset, .unset, .unset, .unset, .unset, .unset] X32 hx (dd at_31) rfl rfl rfl ?_
      refine Gz.getS 36 X32 hx hZ hown (dd at_33) (host := "") (Or.inl (ww hw 5 rfl)) Via.refl e32 S_st_MINUS rfl fun T33 X33 e33 => ?_
      refine Gz.astore 38 #[.val (.int p0), .val (.int (1 : Int32)), .val (.int (1 : Int32)), .val (.ref st_AND), .val (.ref st_OR), .val (.ref st_MINUS), .unset, .unset, .unset, .unset, .unset, .unset, .unset, .unset, .unset, .unset] X33 hx (dd at_36) rfl rfl rfl ?_
      refine Gz.aloadN 39 X33 hx (dd at_38) rfl rfl rfl ?_
      refine Gz.iloadN 40 X33 hx (dd at_39) rfl rfl ?_
      refine Gz.iloadN 41 X33 hx (dd at_40) rfl rfl ?_
      obtain ⟨cq34, kq34, q34a, q34b, q34c⟩ := isOf hZ e33 E_st_AND
      obtain ⟨_, _, ⟨T34, L34, k34, n34⟩, -, X34, ⟨Lc34, hQ34, l34, y34, z34⟩, st34⟩ := X33.virtualBack hx (y := (⟨"com/example/libmandate/libmandate/spki/ByteLanguage$Operation", "accepts", "(ZZ)Z"⟩ : MethodName)) (z := (⟨"com/example/libmandate/libmandate/spki/ByteLanguage$Operation", "accepts", "(ZZ)Z"⟩ : MethodName)) hown (mvT hZ (ww hw 7 rfl)) (mvT hZ (ww hw 8 rfl)) (notFace_of_selects (args := #[]) (mvT hZ (ww hw 10 rfl))) (mvT hZ (ww hw 10 rfl)) (mvT hZ (ww hw 9 rfl)) (by decide) (backOf (W := 0) (rm1 l Z av0 hw [] st_AND (1 : Int32) (1 : Int32) st_AND st_OR h0 n0 Z0 S_st_AND S_st_OR) hZ (ww hw 11 rfl) (ww hw 1 rfl) (by decide) (by decide)) q34a q34c (g := (mkF m 41 #[.val (.int p0), .val (.int (1 : Int32)), .val (.int (1 : Int32)), .val (.ref st_AND), .val (.ref st_OR), .val (.ref st_MINUS), .unset, .unset, .unset, .unset, .unset, .unset, .unset, .unset, .unset, .unset] [(.int (1 : Int32)), (.int (1 : Int32)), (.ref st_AND)])) rfl (by rw [hml]; rfl) (Steps.refl _) (argsL := [(.int (1 : Int32)), (.int (1 : Int32))]) (rest := []) (lenOf pd_0 rfl) rfl (by show 2 * 0 + _ ≤ _; exact Nat.le_of_eq rfl) (dd at_41) (fun _ _ => ⟨rfl, e33, (by decide : 0 + 0 ≤ _), (by decide : 0 + 0 ≤ _)⟩)
      dsimp only [Pt.U, Pt.locs, Pt.cells, Pt.slots, Q_rm1] at X34 l34 y34 z34 st34 hQ34
      subst l34 y34 z34
      rw [show (f1 st_AND (1 : Int32) (1 : Int32) st_AND st_OR) = (1 : Int32) from (by unfold f1; rw [if_pos (rfl : st_AND = st_AND), if_neg (by decide : ¬ ((1 : Int32) = (0 : Int32))), if_neg (by decide : ¬ ((1 : Int32) = (0 : Int32)))]; try decide)] at hQ34
      obtain ⟨rfl, N34q, e34⟩ := hQ34
      have N34 := Fr.app N0 N34q
      refine Gz.tr st34 ?_
      refine Gz.istore 46 #[.val (.int p0), .val (.int (1 : Int32)), .val (.int (1 : Int32)), .val (.ref st_AND), .val (.ref st_OR), .val (.ref st_MINUS), .val (.int (1 : Int32)), .unset, .unset, .unset, .unset, .unset, .unset, .unset, .unset, .unset] X34 hx (dd at_44) rfl rfl ?_
      refine Gz.aloadN 47 X34 hx (dd at_46) rfl rfl rfl ?_
      refine Gz.iloadN 48 X34 hx (dd at_47) rfl rfl ?_
      refine Gz.iloadN 49 X34 hx (dd at_48) rfl rfl ?_
      obtain ⟨cq35, kq35, q35a, q35b, q35c⟩ := isOf hZ e34 E_st_AND
      obtain ⟨_, _, ⟨T35, L35, k35, n35⟩, -, X35, ⟨Lc35, hQ35, l35, y35, z35⟩, st35⟩ := X34.virtualBack hx (y := (⟨"com/example/libmandate/libmandate/spki/ByteLanguage$Operation", "accepts", "(ZZ)Z"⟩ : MethodName)) (z := (⟨"com/example/libmandate/libmandate/spki/ByteLanguage$Operation", "accepts", "(ZZ)Z"⟩ : MethodName)) hown (mvT hZ (ww hw 7 rfl)) (mvT hZ (ww hw 8 rfl)) (notFace_of_selects (args := #[]) (mvT hZ (ww hw 10 rfl))) (mvT hZ (ww hw 10 rfl)) (mvT hZ (ww hw 9 rfl)) (by decide) (backOf (W := 0) (rm1 l Z av0 hw [] st_AND (1 : Int32) (1 : Int32) st_AND st_OR h0 n0 Z0 S_st_AND S_st_OR) hZ (ww hw 11 rfl) (ww hw 1 rfl) (by decide) (by decide)) q35a q35c (g := (mkF m 49 #[.val (.int p0), .val (.int (1 : Int32)), .val (.int (1 : Int32)), .val (.ref st_AND), .val (.ref st_OR), .val (.ref st_MINUS), .val (.int (1 : Int32)), .unset, .unset, .unset, .unset, .unset, .unset, .unset, .unset, .unset] [(.int (1 : Int32)), (.int (1 : Int32)), (.ref st_AND)])) rfl (by rw [hml]; rfl) (Steps.refl _) (argsL := [(.int (1 : Int32)), (.int (1 : Int32))]) (rest := []) (lenOf pd_0 rfl) rfl (by show 2 * 0 + _ ≤ _; exact Nat.le_of_eq rfl) (dd at_49) (fun _ _ => ⟨rfl, e34, (by decide : 0 + 0 ≤ _), (by decide : 0 + 0 ≤ _)⟩)
      dsimp only [Pt.U, Pt.locs, Pt.cells, Pt.slots, Q_rm1] at X35 l35 y35 z35 st35 hQ35
      subst l35 y35 z35
      rw [show (f1 st_AND (1 : Int32) (1 : Int32) st_AND st_OR) = (1 : Int32) from (by unfold f1; rw [if_pos (rfl : st_AND = st_AND), if_neg (by decide : ¬ ((1 : Int32) = (0 : Int32))), if_neg (by decide : ¬ ((1 : Int32) = (0 : Int32)))]; try decide)] at hQ35
      obtain ⟨rfl, N35q, e35⟩ := hQ35
      have N35 := Fr.app N34 N35q
      refine Gz.tr st35 ?_
      refine Gz.istore 54 #[.val (.int p0), .val (.int (1 : Int32)), .val (.int (1 : Int32)), .val (.ref st_AND), .val (.ref st_OR), .val (.ref st_MINUS), .val (.int (1 : Int32)), .val (.int (1 : Int32)), .unset, .unset, .unset, .unset, .unset, .unset, .unset, .unset] X35 hx (dd at_52) rfl rfl ?_
      refine Gz.aload 56 X35 hx (dd at_54) rfl rfl rfl ?_
      refine Gz.iloadN 57 X35 hx (dd at_56) rfl rfl ?_
      refine Gz.iloadN 58 X35 hx (dd at_57) rfl rfl ?_
      obtain ⟨cq36, kq36, q36a, q36b, q36c⟩ := isOf hZ e35 E_st_MINUS
      obtain ⟨_, _, ⟨T36, L36, k36, n36⟩, -, X36, ⟨Lc36, hQ36, l36, y36, z36⟩, st36⟩ := X35.virtualBack hx (y := (⟨"com/example/libmandate/libmandate/spki/ByteLanguage$Operation", "accepts", "(ZZ)Z"⟩ : MethodName)) (z := (⟨"com/example/libmandate/libmandate/spki/ByteLanguage$Operation", "accepts", "(ZZ)Z"⟩ : MethodName)) hown (mvT hZ (ww hw 7 rfl)) (mvT hZ (ww hw 8 rfl)) (notFace_of_selects (args := #[]) (mvT hZ (ww hw 10 rfl))) (mvT hZ (ww hw 10 rfl)) (mvT hZ (ww hw 9 rfl)) (by decide) (backOf (W := 0) (rm1 l Z av0 hw [] st_MINUS (1 : Int32) (1 : Int32) st_AND st_OR h0 n0 Z0 S_st_AND S_st_OR) hZ (ww hw 11 rfl) (ww hw 1 rfl) (by decide) (by decide)) q36a q36c (g := (mkF m 58 #[.val (.int p0), .val (.int (1 : Int32)), .val (.int (1 : Int32)), .val (.ref st_AND), .val (.ref st_OR), .val (.ref st_MINUS), .val (.int (1 : Int32)), .val (.int (1 : Int32)), .unset, .unset, .unset, .unset, .unset, .unset, .unset, .unset] [(.int (1 : Int32)), (.int (1 : Int32)), (.ref st_MINUS)])) rfl (by rw [hml]; rfl) (Steps.refl _) (argsL := [(.int (1 : Int32)), (.int (1 : Int32))]) (rest := []) (lenOf pd_0 rfl) rfl (by show 2 * 0 + _ ≤ _; exact Nat.le_of_eq rfl) (dd at_58) (fun _ _ => ⟨rfl, e35, (by decide : 0 + 0 ≤ _), (by decide : 0 + 0 ≤ _)⟩)
      dsimp only [Pt.U, Pt.locs, Pt.cells, Pt.slots, Q_rm1] at X36 l36 y36 z36 st36 hQ36
      subst l36 y36 z36
      rw [show (f1 st_MINUS (1 : Int32) (1 : Int32) st_AND st_OR) = (0 : Int32) from (by unfold f1; rw [if_neg (Ne.symm ne_st_AND_st_MINUS), if_neg (Ne.symm ne_st_OR_st_MINUS), if_neg (by decide : ¬ ((1 : Int32) = (0 : Int32))), if_neg (by decide : ¬ ((1 : Int32) = (0 : Int32)))]; try decide)] at hQ36
      obtain ⟨rfl, N36q, e36⟩ := hQ36
      have N36 := Fr.app N35 N36q
      refine Gz.tr st36 ?_
      refine Gz.istore 63 #[.val (.int p0), .val (.int (1 : Int32)), .val (.int (1 : Int32)), .val (.ref st_AND), .val (.ref st_OR), .val (.ref st_MINUS), .val (.int (1 : Int32)), .val (.int (1 : Int32)), .val (.int (0 : Int32)), .unset, .unset, .unset, .unset, .unset, .unset, .unset] X36 hx (dd at_61) rfl rfl ?_
      refine Gz.aload 65 X36 hx (dd at_63) rfl rfl rfl ?_
      refine Gz.iloadN 66 X36 hx (dd at_65) rfl rfl ?_
      refine Gz.iloadN 67 X36 hx (dd at_66) rfl rfl ?_
      obtain ⟨cq37, kq37, q37a, q37b, q37c⟩ := isOf hZ e36 E_st_MINUS
      obtain ⟨_, _, ⟨T37, L37, k37, n37⟩, -, X37, ⟨Lc37, hQ37, l37, y37, z37⟩, st37⟩ := X36.virtualBack hx (y := (⟨"com/example/libmandate/libmandate/spki/ByteLanguage$Operation", "accepts", "(ZZ)Z"⟩ : MethodName)) (z := (⟨"com/example/libmandate/libmandate/spki/ByteLanguage$Operation", "accepts", "(ZZ)Z"⟩ : MethodName)) hown (mvT hZ (ww hw 7 rfl)) (mvT hZ (ww hw 8 rfl)) (notFace_of_selects (args := #[]) (mvT hZ (ww hw 10 rfl))) (mvT hZ (ww hw 10 rfl)) (mvT hZ (ww hw 9 rfl)) (by decide) (backOf (W := 0) (rm1 l Z av0 hw [] st_MINUS (1 : Int32) (1 : Int32) st_AND st_OR h0 n0 Z0 S_st_AND S_st_OR) hZ (ww hw 11 rfl) (ww hw 1 rfl) (by decide) (by decide)) q37a q37c (g := (mkF m 67 #[.val (.int p0), .val (.int (1 : Int32)), .val (.int (1 : Int32)), .val (.ref st_AND), .val (.ref st_OR), .val (.ref st_MINUS), .val (.int (1 : Int32)), .val (.int (1 : Int32)), .val (.int (0 : Int32)), .unset, .unset, .unset, .unset, .unset, .unset, .unset] [(.int (1 : Int32)), (.int (1 : Int32)), (.ref st_MINUS)])) rfl (by rw [hml]; rfl) (Steps.refl _) (argsL := [(.int (1 : Int32)), (.int (1 : Int32))]) (rest := []) (lenOf pd_0 rfl) rfl (by show 2 * 0 + _ ≤ _; exact Nat.le_of_eq rfl) (dd at_67) (fun _ _ => ⟨rfl, e36, (by decide : 0 + 0 ≤ _), (by decide : 0 + 0 ≤ _)⟩)
      dsimp only [Pt.U, Pt.locs, Pt.cells, Pt.slots, Q_rm1] at X37 l37 y37 z37 st37 hQ37
      subst l37 y37 z37
      rw [show (f1 st_MINUS (1 : Int32) (1 : Int32) st_AND st_OR) = (0 : Int32) from (by unfold f1; rw [if_neg (Ne.symm ne_st_AND_st_MINUS), if_neg (Ne.symm ne_st_OR_st_MINUS), if_neg (by decide : ¬ ((1 : Int32) = (0 : Int32))), if_neg (by decide : ¬ ((1 : Int32) = (0 : Int32)))]; try decide)] at hQ37
      obtain ⟨rfl, N37q, e37⟩ := hQ37
      have N37 := Fr.app N36 N37q
      refine Gz.tr st37 ?_
      refine Gz.istore 72 #[.val (.int p0), .val (.int (1 : Int32)), .val (.int (1 : Int32)), .val (.ref st_AND), .val (.ref st_OR), .val (.ref st_MINUS), .val (.int (1 : Int32)), .val (.int (1 : Int32)), .val (.int (0 : Int32)), .val (.int (0 : Int32)), .unset, .unset, .unset, .unset, .unset, .unset] X37 hx (dd at_70) rfl rfl ?_
      refine Gz.aload 74 X37 hx (dd at_72) rfl rfl rfl ?_
      refine Gz.iloadN 75 X37 hx (dd at_74) rfl rfl ?_
      refine Gz.iloadN 76 X37 hx (dd at_75) rfl rfl ?_
      obtain ⟨cq38, kq38, q38a, q38b, q38c⟩ := isOf hZ e37 E_st_OR
      obtain ⟨_, _, ⟨T38, L38, k38, n38⟩, -, X38, ⟨Lc38, hQ38, l38, y38, z38⟩, st38⟩ := X37.virtualBack hx (y := (⟨"com/example/libmandate/libmandate/spki/ByteLanguage$Operation", "accepts", "(ZZ)Z"⟩ : MethodName)) (z := (⟨"com/example/libmandate/libmandate/spki/ByteLanguage$Operation", "accepts", "(ZZ)Z"⟩ : MethodName)) hown (mvT hZ (ww hw 7 rfl)) (mvT hZ (ww hw 8 rfl)) (notFace_of_selects (args := #[]) (mvT hZ (ww hw 10 rfl))) (mvT hZ (ww hw 10 rfl)) (mvT hZ (ww hw 9 rfl)) (by decide) (backOf (W := 0) (rm1 l Z av0 hw [] st_OR (1 : Int32) (1 : Int32) st_AND st_OR h0 n0 Z0 S_st_AND S_st_OR) hZ (ww hw 11 rfl) (ww hw 1 rfl) (by decide) (by decide)) q38a q38c (g := (mkF m 76 #[.val (.int p0), .val (.int (1 : Int32)), .val (.int (1 : Int32)), .val (.ref st_AND), .val (.ref st_OR), .val (.ref st_MINUS), .val (.int (1 : Int32)), .val (.int (1 : Int32)), .val (.int (0 : Int32)), .val (.int (0 : Int32)), .unset, .unset, .unset, .unset, .unset, .unset] [(.int (1 : Int32)), (.int (1 : Int32)), (.ref st_OR)])) rfl (by rw [hml]; rfl) (Steps.refl _) (argsL := [(.int (1 : Int32)), (.int (1 : Int32))]) (rest := []) (lenOf pd_0 rfl) rfl (by show 2 * 0 + _ ≤ _; exact Nat.le_of_eq rfl) (dd at_76) (fun _ _ => ⟨rfl, e37, (by decide : 0 + 0 ≤ _), (by decide : 0 + 0 ≤ _)⟩)
      dsimp only [Pt.U, Pt.locs, Pt.cells, Pt.slots, Q_rm1] at X38 l38 y38 z38 st38 hQ38
      subst l38 y38 z38
      rw [show (f1 st_OR (1 : Int32) (1 : Int32) st_AND st_OR) = (1 : Int32) from (by unfold f1; rw [if_neg (Ne.symm ne_st_AND_st_OR), if_pos (rfl : st_OR = st_OR), if_neg (by decide : ¬ ((1 : Int32) = (0 : Int32)))]; try decide)] at hQ38
      obtain ⟨rfl, N38q, e38⟩ := hQ38
      have N38 := Fr.app N37 N38q
      refine Gz.tr st38 ?_
      refine Gz.istore 81 #[.val (.int p0), .val (.int (1 : Int32)), .val (.int (1 : Int32)), .val (.ref st_AND), .val (.ref st_OR), .val (.ref st_MINUS), .val (.int (1 : Int32)), .val (.int (1 : Int32)), .val (.int (0 : Int32)), .val (.int (0 : Int32)), .val (.int (1 : Int32)), .unset, .unset, .unset, .unset, .unset] X38 hx (dd at_79) rfl rfl ?_
      refine Gz.aload 83 X38 hx (dd at_81) rfl rfl rfl ?_
      refine Gz.iloadN 84 X38 hx (dd at_83) rfl rfl ?_
      refine Gz.iloadN 85 X38 hx (dd at_84) rfl rfl ?_
      obtain ⟨cq39, kq39, q39a, q39b, q39c⟩ := isOf hZ e38 E_st_MINUS
      obtain ⟨_, _, ⟨T39, L39, k39, n39⟩, -, X39, ⟨Lc39, hQ39, l39, y39, z39⟩, st39⟩ := X38.virtualBack hx (y := (⟨"com/example/libmandate/libmandate/spki/ByteLanguage$Operation", "accepts", "(ZZ)Z"⟩ : MethodName)) (z := (⟨"com/example/libmandate/libmandate/spki/ByteLanguage$Operation", "accepts", "(ZZ)Z"⟩ : MethodName)) hown (mvT hZ (ww hw 7 rfl)) (mvT hZ (ww hw 8 rfl)) (notFace_of_selects (args := #[]) (mvT hZ (ww hw 10 rfl))) (mvT hZ (ww hw 10 rfl)) (mvT hZ (ww hw 9 rfl)) (by decide) (backOf (W := 0) (rm1 l Z av0 hw [] st_MINUS (1 : Int32) (1 : Int32) st_AND st_OR h0 n0 Z0 S_st_AND S_st_OR) hZ (ww hw 11 rfl) (ww hw 1 rfl) (by decide) (by decide)) q39a q39c (g := (mkF m 85 #[.val (.int p0), .val (.int (1 : Int32)), .val (.int (1 : Int32)), .val (.ref st_AND), .val (.ref st_OR), .val (.ref st_MINUS), .val (.int (1 : Int32)), .val (.int (1 : Int32)), .val (.int (0 : Int32)), .val (.int (0 : Int32)), .val (.int (1 : Int32)), .unset, .unset, .unset, .unset, .unset] [(.int (1 : Int32)), (.int (1 : Int32)), (.ref st_MINUS)])) rfl (by rw [hml]; rfl) (Steps.refl _) (argsL := [(.int (1 : Int32)), (.int (1 : Int32))]) (rest := []) (lenOf pd_0 rfl) rfl (by show 2 * 0 + _ ≤ _; exact Nat.le_of_eq rfl) (dd at_85) (fun _ _ => ⟨rfl, e38, (by decide : 0 + 0 ≤ _), (by decide : 0 + 0 ≤ _)⟩)
      dsimp only [Pt.U, Pt.locs, Pt.cells, Pt.slots, Q_rm1] at X39 l39 y39 z39 st39 hQ39
      subst l39 y39 z39
      rw [show (f1 st_MINUS (1 : Int32) (1 : Int32) st_AND st_OR) = (0 : Int32) from (by unfold f1; rw [if_neg (Ne.symm ne_st_AND_st_MINUS), if_neg (Ne.symm ne_st_OR_st_MINUS), if_neg (by decide : ¬ ((1 : Int32) = (0 : Int32))), if_neg (by decide : ¬ ((1 : Int32) = (0 : Int32)))]; try decide)] at hQ39
      obtain ⟨rfl, N39q, e39⟩ := hQ39
      have N39 := Fr.app N38 N39q
      refine Gz.tr st39 ?_
      refine Gz.istore 90 #[.val (.int p0), .val (.int (1 : Int32)), .val (.int (1 : Int32)), .val (.ref st_AND), .val (.ref st_OR), .val (.ref st_MINUS), .val (.int (1 : Int32)), .val (.int (1 : Int32)), .val (.int (0 : Int32)), .val (.int (0 : Int32)), .val (.int (1 : Int32)), .val (.int (0 : Int32)), .unset, .unset, .unset, .unset] X39 hx (dd at_88) rfl rfl ?_
      refine Gz.iload 92 X39 hx (dd at_90) rfl rfl ?_
      refine Gz.iload 94 X39 hx (dd at_92) rfl rfl ?_
      refine Gz.icmpNo 97 X39 hx (dd at_94) (teq (by decide : (1 : Int32) = (1 : Int32))).2 rfl ?_
      refine Gz.iconst 98 (1 : Int32) X39 hx (dd at_97) rfl rfl ?_
      refine Gz.goto 102 X39 hx (dd at_98) (by decide) (by decide) ?_
      refine Gz.istore 104 #[.val (.int p0), .val (.int (1 : Int32)), .val (.int (1 : Int32)), .val (.ref st_AND), .val (.ref st_OR), .val (.ref st_MINUS), .val (.int (1 : Int32)), .val (.int (1 : Int32)), .val (.int (0 : Int32)), .val (.int (0 : Int32)), .val (.int (1 : Int32)), .val (.int (0 : Int32)), .val (.int (1 : Int32)), .unset, .unset, .unset] X39 hx (dd at_102) rfl rfl ?_
      refine Gz.iload 106 X39 hx (dd at_104) rfl rfl ?_
      refine Gz.ifYes 114 X39 hx (dd at_106) ((if0 _ _).trans (feq (by decide : ¬ ((1 : Int32) = (0 : Int32)))).2) (by decide) (by decide) ?_
      refine Gz.iconst 115 (1 : Int32) X39 hx (dd at_114) rfl rfl ?_
      refine Gz.goto 119 X39 hx (dd at_115) (by decide) (by decide) ?_
      refine Gz.iloadN 120 X39 hx (dd at_119) rfl rfl ?_
      refine Gz.icmpNo 123 X39 hx (dd at_120) (teq (by decide : (1 : Int32) = (1 : Int32))).2 rfl ?_
      refine Gz.iload 125 X39 hx (dd at_123) rfl rfl ?_
      refine Gz.ifNo 128 X39 hx (dd at_125) ((if0 _ _).trans (feq (by decide : ¬ ((1 : Int32) = (0 : Int32)))).1) rfl ?_
      refine Gz.iload 130 X39 hx (dd at_128) rfl rfl ?_
      refine Gz.ifNo 133 X39 hx (dd at_130) ((if0 _ _).trans (teq (by decide : (0 : Int32) = (0 : Int32))).2) rfl ?_
      refine Gz.iconst 134 (1 : Int32) X39 hx (dd at_133) rfl rfl ?_
      refine Gz.goto 138 X39 hx (dd at_134) (by decide) (by decide) ?_
      refine Gz.istore 140 #[.val (.int p0), .val (.int (1 : Int32)), .val (.int (1 : Int32)), .val (.ref st_AND), .val (.ref st_OR), .val (.ref st_MINUS), .val (.int (1 : Int32)), .val (.int (1 : Int32)), .val (.int (0 : Int32)), .val (.int (0 : Int32)), .val (.int (1 : Int32)), .val (.int (0 : Int32)), .val (.int (1 : Int32)), .val (.int (1 : Int32)), .unset, .unset] X39 hx (dd at_138) rfl rfl ?_
      refine Gz.iload 142 X39 hx (dd at_140) rfl rfl ?_
      refine Gz.ifNo 145 X39 hx (dd at_142) ((if0 _ _).trans (teq (by decide : (0 : Int32) = (0 : Int32))).2) rfl ?_
      refine Gz.iconst 146 (1 : Int32) X39 hx (dd at_145) rfl rfl ?_
      refine Gz.goto 150 X39 hx (dd at_146) (by decide) (by decide) ?_
      refine Gz.istore 152 #[.val (.int p0), .val (.int (1 : Int32)), .val (.int (1 : Int32)), .val (.ref st_AND), .val (.ref st_OR), .val (.ref st_MINUS), .val (.int (1 : Int32)), .val (.int (1 : Int32)), .val (.int (0 : Int32)), .val (.int (0 : Int32)), .val (.int (1 : Int32)), .val (.int (0 : Int32)), .val (.int (1 : Int32)), .val (.int (1 : Int32)), .val (.int (1 : Int32)), .unset] X39 hx (dd at_150) rfl rfl ?_
      refine Gz.iload 154 X39 hx (dd at_152) rfl rfl ?_
      refine Gz.iload 156 X39 hx (dd at_154) rfl rfl ?_
      refine Gz.ifYes 169 X39 hx (dd at_156) ((if0 _ _).trans (feq (by decide : ¬ ((1 : Int32) = (0 : Int32)))).2) (by decide) (by decide) ?_
      refine Gz.iconst 170 (1 : Int32) X39 hx (dd at_169) rfl rfl ?_
      refine Gz.goto 174 X39 hx (dd at_170) (by decide) (by decide) ?_
      refine Gz.icmpNo 177 X39 hx (dd at_174) (teq (by decide : (1 : Int32) = (1 : Int32))).2 rfl ?_
      refine Gz.iconst 178 (1 : Int32) X39 hx (dd at_177) rfl rfl ?_
      refine Gz.goto 182 X39 hx (dd at_178) (by decide) (by decide) ?_
      refine Gz.istore 184 #[.val (.int p0), .val (.int (1 : Int32)), .val (.int (1 : Int32)), .val (.ref st_AND), .val (.ref st_OR), .val (.ref st_MINUS), .val (.int (1 : Int32)), .val (.int (1 : Int32)), .val (.int (0 : Int32)), .val (.int (0 : Int32)), .val (.int (1 : Int32)), .val (.int (0 : Int32)), .val (.int (1 : Int32)), .val (.int (1 : Int32)), .val (.int (1 : Int32)), .val (.int (1 : Int32))] X39 hx (dd at_182) rfl rfl ?_
      refine Gz.iload 186 X39 hx (dd at_184) rfl rfl ?_
      refine Gz.ifNo 189 X39 hx (dd at_186) ((if0 _ _).trans (feq (by decide : ¬ ((1 : Int32) = (0 : Int32)))).1) rfl ?_
      refine Gz.iload 191 X39 hx (dd at_189) rfl rfl ?_
      refine Gz.ifNo 194 X39 hx (dd at_191) ((if0 _ _).trans (feq (by decide : ¬ ((1 : Int32) = (0 : Int32)))).1) rfl ?_
      refine Gz.iload 196 X39 hx (dd at_194) rfl rfl ?_
      refine Gz.ifNo 199 X39 hx (dd at_196) ((if0 _ _).trans (feq (by decide : ¬ ((1 : Int32) = (0 : Int32)))).1) rfl ?_
      refine Gz.iload 201 X39 hx (dd at_199) rfl rfl ?_
      refine Gz.ifNo 204 X39 hx (dd at_201) ((if0 _ _).trans (feq (by decide : ¬ ((1 : Int32) = (0 : Int32)))).1) rfl ?_
      refine Gz.iconst 205 (1 : Int32) X39 hx (dd at_204) rfl rfl ?_
      refine Gz.goto 209 X39 hx (dd at_205) (by decide) (by decide) ?_
      refine Gz.fin X39 (v := some (.int (1 : Int32))) (fun h => by rw [hret] at h; cases h) hlk (by decide) (by decide) (fun fs hr => retN X39 hx (t := .boolean) hret (by simp) (dd at_209) hr) ?_
      exact ⟨rfl, N39⟩
set_option maxRecDepth 65536 in
set_option maxHeartbeats 40000000 in
theorem comes_1 {Post : Tables → Env → Array Value → State → Outcome → State → Prop} (hpost : ∀ tb e args s v u, (limb_1_1.after args s (.returned v) u = true ∧ limb_1_2.after args s (.returned v) u = true ∧ True) → FrameEnd s (.returned v) u (Jvm.fieldLocs frame_1_writes args s ++ Jvm.arrayLocs frame_1_arrays args s ++ Jvm.staticLocs frame_1_statics s) 0 0 → Post tb e args s (.returned v) u) :
    ArmFor flags0 classFile x code maxLocals ret World_1 tables_1 room_1 Calls_1 rest_1 Pre_1 Post := by
  intro l hfl _ _ p e ha hc hk s m args below hf hA hF happ hP
  obtain ⟨hcalls, hrest, hpre⟩ := hP
  obtain ⟨-, -, -, hnamed, -, -, -, hat⟩ := (Spec.applies_iff hf).mp happ
  obtain ⟨hg, hn⟩ := and_e (Cond.before_iff.mp (show (Jvm.Cond.and given_1 narrow_1).before args s = true from hpre))
  obtain ⟨hcnt, hg0⟩ := and_e hg
  have ha0 := hg0
  obtain ⟨w0, rfl⟩ : ∃ w0 : Value, args = #[w0] := by
    have hs : args.size = 1 := by simpa [Cond.value, given_1] using hcnt
    obtain ⟨L⟩ := args
    match L, hs with
    | [w0], _ => exact ⟨w0, rfl⟩
  have hw := fun d (hd : d ∈ tables_1) => atoms_spec (ws := Jvm.Cond.code x code maxLocals ret :: tables_1) hat d (List.mem_cons_of_mem _ hd)
  have hfit : Fit s := fun {y c} hc i hi => by
    obtain ⟨ha, rfl⟩ := Array.getElem?_eq_some_iff.mp hc
    have q := List.all_eq_true.mp ((Array.all_eq_true_iff_forall_mem.mp hF) _ (Array.getElem_mem ha)) i (List.mem_range.mpr hi)
    simpa [Array.getElem?_eq_getElem hi] using q
  obtain ⟨i0, ei0⟩ := is_v ha0
  obtain rfl : w0 = (.int i0) := Option.some.inj ei0
  obtain ⟨nn0, nr0⟩ := and_e hn
  obtain ⟨nn1, nr1⟩ := and_e nr0
  obtain ⟨nn2, nr2⟩ := and_e nr1
  obtain ⟨nn3, nr3⟩ := and_e nr2
  obtain ⟨nn4, nr4⟩ := and_e nr3
  have nn5 := nr4
  obtain ⟨st_AND, ev_AND⟩ := exa_v nn0
  have S_AND : Sta s s.heap "com/example/libmandate/libmandate/spki/ByteLanguage$Operation" "AND" "Lcom/example/libmandate/libmandate/spki/ByteLanguage$Operation;" (.ref st_AND) := Sta.start ev_AND (Or.inr ⟨(ww hw 1 rfl), (ww hw 2 rfl)⟩)
  have E_AND : Exa s s.heap st_AND "com/example/libmandate/libmandate/spki/ByteLanguage$Operation" := Exa.start ev_AND nn0
  obtain ⟨st_OR, ev_OR⟩ := exa_v nn1
  have S_OR : Sta s s.heap "com/example/libmandate/libmandate/spki/ByteLanguage$Operation" "OR" "Lcom/example/libmandate/libmandate/spki/ByteLanguage$Operation;" (.ref st_OR) := Sta.start ev_OR (Or.inr ⟨(ww hw 1 rfl), (ww hw 4 rfl)⟩)
  have E_OR : Exa s s.heap st_OR "com/example/libmandate/libmandate/spki/ByteLanguage$Operation" := Exa.start ev_OR nn1
  obtain ⟨st_MINUS, ev_MINUS⟩ := exa_v nn2
  have S_MINUS : Sta s s.heap "com/example/libmandate/libmandate/spki/ByteLanguage$Operation" "MINUS" "Lcom/example/libmandate/libmandate/spki/ByteLanguage$Operation;" (.ref st_MINUS) := Sta.start ev_MINUS (Or.inr ⟨(ww hw 1 rfl), (ww hw 6 rfl)⟩)
  have E_MINUS : Exa s s.heap st_MINUS "com/example/libmandate/libmandate/spki/ByteLanguage$Operation" := Exa.start ev_MINUS nn2
  have F_ordinal_MINUS := own_fldI ev_MINUS nn3
  have F_ordinal_AND := own_fldI ev_AND nn4
  have F_ordinal_OR := own_fldI ev_OR nn5
  have ne_AND_OR : st_AND ≠ st_OR := Fld.ne F_ordinal_AND F_ordinal_OR (by decide)
  have ne_AND_MINUS : st_AND ≠ st_MINUS := Fld.ne F_ordinal_AND F_ordinal_MINUS (by decide)
  have ne_OR_MINUS : st_OR ≠ st_MINUS := Fld.ne F_ordinal_OR F_ordinal_MINUS (by decide)
  obtain ⟨n, o, h1, h2, h3, _, L, rfl, ⟨rfl, N⟩, hq⟩ := rm0 l s _ hw tables_1 i0 st_AND st_OR st_MINUS s.heap s.heap.size (Nat.le_refl _) S_AND S_OR S_MINUS E_AND E_OR E_MINUS ne_AND_OR ne_AND_MINUS ne_OR_MINUS p e ha hc hk s m _ below hf ((Spec.applies_iff_loose hf).mp happ).1 ⟨rfl, State.Warmed39.refl s, rfl⟩ trivial
  refine ⟨n, _, h1, h2, h3, hpost _ _ _ _ _ _ ⟨Cond.after_iff.mpr rfl, Cond.after_iff.mpr (eq_i res_at (Term.int_eval (1)) rfl), trivial⟩ ⟨hq.1, hq.2.1, (hq.2.2.sift fun y hy => Or.inr (N y hy)).mono (by decide) (by decide)⟩⟩
theorem main_1_1 : Claimed_1_1 := comes_1 fun _ _ _ _ _ _ h hF => ⟨h.1, hF⟩
theorem main_1_2 : Claimed_1_2 := comes_1 fun _ _ _ _ _ _ h hF => ⟨h.2.1, hF⟩
end Jvm.Pilot.@@N@@
namespace Jvm.Pilot.@@N@@
open Jvm Jvm.ClassFile Sem Op Lib Jvm.Free Jvm.Stand Jvm.Pilot.@@N@@.Jvm.D
/-! MADE BY PROGRAM (witnessworld.py) out of the Statement's table words and the real class files: 12 classes; the members and pool entries that the words name. The judged class is class 1, her method 1. -/
namespace start1
open Jvm.ClassFile
def u (s : String) : CpInfo := .utf8 (stringToUtf16 s)
/-- a pool by its gaps: so many unusable entries, then the entry; so many at the end -/
def gap : Nat → List CpInfo → List CpInfo
  | 0, r => r
  | n + 1, r => .unusable :: gap n r
def poolList (es : List (Nat × CpInfo)) (last : Nat) : List CpInfo := es.foldr (fun e r => gap e.1 (e.2 :: r)) (gap last [])
def pool (es : List (Nat × CpInfo)) (last : Nat) : Array CpInfo := ⟨poolList es last⟩
def fileOf (pool : Array CpInfo) (this : Nat) (attrs : Array Attribute := #[]) (ms : Array MethodInfo := #[]) (fl : Nat := 33) (sup : Nat := 0) (ifs : Array Nat := #[]) (fds : Array FieldInfo := #[]) : ClassFile where
  minorVersion := 0
  majorVersion := 65
  constantPool := pool
  accessFlags := fl
  thisClass := this
  superClass := sup
  interfaces := ifs
  fields := fds
  methods := ms
  attributes := attrs
def plain (name : String) (sup : Option ClassId) : Class where
  name := name
  kind := .ordinary
  loader := none
  accessFlags := 33
  super := sup
  interfaces := #[]
  cf := none
  fields := #[]
  methods := #[]
  instanceTypes := #[]
  staticTypes := #[]
  resolved := #[]
  callSites := []
  init := .initialized
  statics := none
  mirror := none

def pool0 : Array CpInfo := pool [(5, u "<init>"), (0, u "()V"), (1, .class_ 10), (1, u "java/lang/Object")] 113

def k0m0 : Method := { name := "<init>", desc := "()V", sig := { parameters := [], returnType := none }, accessFlags := 1, code := none }
/-- java/lang/Object -/
def k0 : Class := { plain "java/lang/Object" none with
  accessFlags := 33
  interfaces := #[]
  cf := some (fileOf pool0 8 #[] #[{ accessFlags := 1, nameIndex := 5, descriptorIndex := 6, attributes := #[] }] 33 0 #[] #[])
  fields := #[]
  methods := #[k0m0]
  instanceTypes := #[]
  staticTypes := #[]
  resolved := Array.replicate 124 none
  statics := none }

def pool1 : Array CpInfo := pool [(2, .class_ 4), (1, u "java/lang/Object"), (0, u "<init>"), (0, u "()V"), (0, .fieldref 8 9), (0, .class_ 10), (0, .nameAndType 11 12), (0, u "com/example/libmandate/libmandate/spki/ByteLanguage$Operation"), (0, u "AND"), (0, u "Lcom/example/libmandate/libmandate/spki/ByteLanguage$Operation;"), (0, .fieldref 8 14), (0, .nameAndType 15 12), (0, u "OR"), (0, .fieldref 8 17), (0, .nameAndType 18 12), (0, u "MINUS"), (0, .methodref 8 20), (0, .nameAndType 21 22), (0, u "accepts"), (0, u "(ZZ)Z"), (0, .class_ 24), (0, u "com/example/libmandate/libmandate/spki/OperationAcceptsPinLaw"), (2, u "law"), (0, u "(I)Z")] 7

def k1m0 : Method := { name := "<init>", desc := "()V", sig := { parameters := [], returnType := none }, accessFlags := 2, code := none }
def k1c1 : Code := { maxStack := 3, maxLocals := 16, code := code, exceptionTable := #[], attributes := #[] }
def k1m1 : Method := { name := "law", desc := "(I)Z", sig := { parameters := [.int], returnType := some .boolean }, accessFlags := 9, code := some k1c1 }
/-- com/example/libmandate/libmandate/spki/OperationAcceptsPinLaw -/
def k1 : Class := { plain "com/example/libmandate/libmandate/spki/OperationAcceptsPinLaw" (some 0) with
  accessFlags := 49
  interfaces := #[]
  cf := some (fileOf pool1 23 #[] #[{ accessFlags := 2, nameIndex := 5, descriptorIndex := 6, attributes := #[] }, { accessFlags := 9, nameIndex := 27, descriptorIndex := 28, attributes := #[] }] 49 2 #[] #[])
  fields := #[]
  methods := #[k1m0, k1m1]
  instanceTypes := #[]
  staticTypes := #[]
  resolved := Array.replicate 36 none
  statics := none }

def pool2 : Array CpInfo := pool [(1, .class_ 2), (0, u "java/lang/constant/Constable"), (0, .class_ 4), (0, u "java/lang/Object")] 6

/-- java/lang/constant/Constable -/
def k2 : Class := { plain "java/lang/constant/Constable" (some 0) with
  accessFlags := 1537
  interfaces := #[]
  cf := some (fileOf pool2 1 #[] #[] 1537 3 #[] #[])
  fields := #[]
  methods := #[]
  instanceTypes := #[]
  staticTypes := #[]
  resolved := Array.replicate 11 none
  statics := none }

def pool3 : Array CpInfo := pool [(1, .class_ 2), (0, u "java/lang/Comparable"), (0, .class_ 4), (0, u "java/lang/Object")] 7

/-- java/lang/Comparable -/
def k3 : Class := { plain "java/lang/Comparable" (some 0) with
  accessFlags := 1537
  interfaces := #[]
  cf := some (fileOf pool3 1 #[] #[] 1537 3 #[] #[])
  fields := #[]
  methods := #[]
  instanceTypes := #[]
  staticTypes := #[]
  resolved := Array.replicate 12 none
  statics := none }

def pool4 : Array CpInfo := pool [(1, .class_ 2), (0, u "java/io/Serializable"), (0, .class_ 4), (0, u "java/lang/Object")] 2

/-- java/io/Serializable -/
def k4 : Class := { plain "java/io/Serializable" (some 0) with
  accessFlags := 1537
  interfaces := #[]
  cf := some (fileOf pool4 1 #[] #[] 1537 3 #[] #[])
  fields := #[]
  methods := #[]
  instanceTypes := #[]
  staticTypes := #[]
  resolved := Array.replicate 7 none
  statics := none }

def pool5 : Array CpInfo := pool [(2, .class_ 4), (1, u "java/lang/Enum"), (0, u "name"), (0, u "Ljava/lang/String;"), (2, u "ordinal"), (0, u "I"), (1, .class_ 14), (1, u "java/lang/Object"), (4, u "hash"), (86, .class_ 108), (1, u "java/lang/Enum$EnumDesc"), (2, .class_ 112), (0, u "java/lang/constant/Constable"), (0, .class_ 114), (0, u "java/lang/Comparable"), (0, .class_ 116), (0, u "java/io/Serializable")] 87

/-- java/lang/Enum -/
def k5 : Class := { plain "java/lang/Enum" (some 0) with
  accessFlags := 1057
  interfaces := #[2, 3, 4]
  cf := some (fileOf pool5 2 #[.nestMembers #[106]] #[] 1057 12 #[111, 113, 115] #[{ accessFlags := 18, nameIndex := 5, descriptorIndex := 6, attributes := #[] }, { accessFlags := 18, nameIndex := 9, descriptorIndex := 10, attributes := #[] }, { accessFlags := 2, nameIndex := 19, descriptorIndex := 10, attributes := #[] }])
  fields := #[{ name := "name", type := (.object "java/lang/String"), accessFlags := 18, slot := 0, constantValue := 0 }, { name := "ordinal", type := .int, accessFlags := 18, slot := 1, constantValue := 0 }, { name := "hash", type := .int, accessFlags := 2, slot := 2, constantValue := 0 }]
  methods := #[]
  instanceTypes := #[(.object "java/lang/String"), .int, .int]
  staticTypes := #[]
  resolved := Array.replicate 204 none
  statics := none }

def pool6 : Array CpInfo := pool [(1, .class_ 2), (0, u "com/example/libmandate/libmandate/spki/ByteLanguage$Operation"), (0, .fieldref 1 4), (0, .nameAndType 5 6), (0, u "AND"), (0, u "Lcom/example/libmandate/libmandate/spki/ByteLanguage$Operation;"), (0, .fieldref 1 8), (0, .nameAndType 9 6), (0, u "OR"), (2, u "MINUS"), (2, u "$VALUES"), (0, u "[Lcom/example/libmandate/libmandate/spki/ByteLanguage$Operation;"), (6, .class_ 25), (1, u "java/lang/Enum"), (7, .class_ 35), (1, u "com/example/libmandate/libmandate/spki/ByteLanguage"), (27, u "(ZZ)Z"), (0, u "accepts")] 7

def k6c0 : Code := { maxStack := 2, maxLocals := 4, code := prog_19_method_6_code, exceptionTable := #[], attributes := #[] }
def k6m0 : Method := { name := "accepts", desc := "(ZZ)Z", sig := { parameters := [.boolean, .boolean], returnType := some .boolean }, accessFlags := 0, code := some k6c0 }
/-- com/example/libmandate/libmandate/spki/ByteLanguage$Operation -/
def k6 : Class := { plain "com/example/libmandate/libmandate/spki/ByteLanguage$Operation" (some 5) with
  accessFlags := 16432
  interfaces := #[]
  cf := some (fileOf pool6 1 #[.nestHost 33] #[{ accessFlags := 0, nameIndex := 64, descriptorIndex := 63, attributes := #[] }] 16432 23 #[] #[{ accessFlags := 16409, nameIndex := 5, descriptorIndex := 6, attributes := #[] }, { accessFlags := 16409, nameIndex := 9, descriptorIndex := 6, attributes := #[] }, { accessFlags := 16409, nameIndex := 12, descriptorIndex := 6, attributes := #[] }, { accessFlags := 4122, nameIndex := 15, descriptorIndex := 16, attributes := #[] }])
  fields := #[{ name := "AND", type := (.object "com/example/libmandate/libmandate/spki/ByteLanguage$Operation"), accessFlags := 16409, slot := 0, constantValue := 0 }, { name := "OR", type := (.object "com/example/libmandate/libmandate/spki/ByteLanguage$Operation"), accessFlags := 16409, slot := 1, constantValue := 0 }, { name := "MINUS", type := (.object "com/example/libmandate/libmandate/spki/ByteLanguage$Operation"), accessFlags := 16409, slot := 2, constantValue := 0 }, { name := "$VALUES", type := (.array (.object "com/example/libmandate/libmandate/spki/ByteLanguage$Operation")), accessFlags := 4122, slot := 3, constantValue := 0 }]
  methods := #[k6m0]
  instanceTypes := #[(.object "java/lang/String"), .int, .int]
  staticTypes := #[(.object "com/example/libmandate/libmandate/spki/ByteLanguage$Operation"), (.object "com/example/libmandate/libmandate/spki/ByteLanguage$Operation"), (.object "com/example/libmandate/libmandate/spki/ByteLanguage$Operation"), (.array (.object "com/example/libmandate/libmandate/spki/ByteLanguage$Operation"))]
  resolved := Array.replicate 72 none
  statics := some 0 }

def pool7 : Array CpInfo := pool [(1, u "java/lang/Cloneable"), (0, .class_ 1), (0, u "java/lang/Object"), (0, .class_ 3)] 3

/-- java/lang/Cloneable -/
def k7 : Class := { plain "java/lang/Cloneable" (some 0) with
  accessFlags := 1537
  interfaces := #[]
  cf := some (fileOf pool7 2 #[] #[] 1537 4 #[] #[])
  fields := #[]
  methods := #[]
  instanceTypes := #[]
  staticTypes := #[]
  resolved := Array.replicate 8 none
  statics := none }

/-- the primitive byte -/
def k8 : Class := { plain "byte" none with kind := .primitive 'B', accessFlags := 0x411 }
/-- [B -/
def k9 : Class := { plain "[B" (some 0) with kind := .array 8 .byte, interfaces := #[7, 4], accessFlags := 1041 }

/-- the primitive int -/
def k10 : Class := { plain "int" none with kind := .primitive 'I', accessFlags := 0x411 }
/-- [I -/
def k11 : Class := { plain "[I" (some 0) with kind := .array 10 .int, interfaces := #[7, 4], accessFlags := 1041 }

def heap : Heap := #[{ cls := 6, slots := #[.ref 1, .ref 2, .ref 3, .null], vm := .statics 6 },
  { cls := 6, slots := #[.null, .int 0, .int 0], vm := .none },
  { cls := 6, slots := #[.null, .int 1, .int 0], vm := .none },
  { cls := 6, slots := #[.null, .int 2, .int 0], vm := .none }]
def classes : Array Class := #[k0, k1, k2, k3, k4, k5, k6, k7, k8, k9, k10, k11]
def interned : List (Array UInt16 × Addr) := []
def slotsUsed : Nat := 13
def theMethod : MethodId := ⟨1, 1⟩
def args0 : Array Value := #[.int 5]
def aboutOver (below : List Frame) : State where
  vm := { classes := classes, interned := interned.toArray }
  heap := heap
  slotsUsed := slotsUsed
  threads := #[{ frames := .invoking theMethod args0 :: below }]
def below0 : List Frame := [.native { method := ⟨0, 0⟩, args := #[] }]
def about1 : State := aboutOver below0
def p0 : Program := .bare "" "" ""
def e0 : Env := launch0.env 0 0 0
theorem w_frames : about1.frames = Frame.invoking theMethod args0 :: below0 := rfl
set_option maxRecDepth 65536 in
theorem w_args : argsFit about1.vm theMethod args0 = true := by decide +kernel
set_option maxRecDepth 65536 in
theorem w_heap : heapFits about1 = true := by decide +kernel
set_option maxRecDepth 65536 in
theorem w_runnable : about1.curStatus? = some .runnable := by decide +kernel
set_option maxRecDepth 65536 in
theorem w_alone : about1.alone = true := by decide +kernel
set_option maxRecDepth 65536 in
theorem w_named : about1.methodNamed? x = some theMethod := by decide +kernel
set_option maxRecDepth 65536 in
theorem w_hears : about1.hears theMethod below0 = true := by decide +kernel
set_option maxRecDepth 65536 in
theorem w_ripe : about1.ripe theMethod args0 below0 = true := by decide +kernel
theorem w_running : about1.status = .running := rfl
set_option maxRecDepth 65536 in
theorem w_room : about1.hasRoom e0.platform room_1 = true :=
  launch0.hasRoom_least _ room_1 (by decide +kernel) (by decide +kernel) (by decide +kernel) (by decide +kernel) (by decide +kernel) (by decide +kernel)
theorem allAtoms_all (ts : List Jvm.Cond) (a : Array Jvm.Value) (st : Jvm.State) : (allAtoms ts).before a st = ts.all (fun c => c.before a st) := by
  induction ts with
  | nil => rfl
  | cons c t ih =>
    show (Jvm.Cond.and c (allAtoms t)).before a st = _
    rw [Jvm.Cond.before_and, ih, List.all_cons]
def words1 : List Jvm.Cond := Jvm.Cond.code x code maxLocals ret :: tables_1
/-- a 'code' word, met by the world's own term for the bytes: nothing is compared byte by byte -/
theorem code_word {y : MethodName} {bytes : ByteArray} {mx : Nat} {rt : Option FieldType} {a : Array Value} {s : State} {m : MethodId} {meth : Method} {c : Code} (h1 : s.methodNamed? y = some m) (h2 : s.vm.method? m = some meth) (h3 : meth.code = some c) (h4 : c.code = bytes)
    (h5 : (c.maxLocals == mx && c.exceptionTable.isEmpty && decide (c.maxStack ≤ mostOperands) && decide (meth.sig.returnType = rt) && !meth.locks && decide (parseMethodDescriptor y.desc = some meth.sig)) = true) : (Jvm.Cond.code y bytes mx rt).before a s = true := by
  simp only [Bool.and_eq_true, beq_iff_eq, Bool.not_eq_true', decide_eq_true_eq] at h5
  obtain ⟨⟨⟨⟨⟨g1, g2⟩, g3⟩, g4⟩, g5⟩, g6⟩ := h5
  simp [Cond.before, Cond.holds, Cond.value, h1, h2, h3, h4, g1, g2, g3, g4, g5, g6]
def isCode : Jvm.Cond → Bool
  | .code _ _ _ _ => true
  | _ => false
theorem all_split {L : List Jvm.Cond} {P : Jvm.Cond → Bool} (h1 : L.all (fun c => isCode c || P c) = true) (h2 : ∀ c ∈ L.filter isCode, P c = true) : L.all P = true := by
  refine List.all_eq_true.mpr fun c hc => ?_
  have h := List.all_eq_true.mp h1 c hc
  rcases Bool.eq_false_or_eq_true (isCode c) with hi | hi
  · exact h2 c (List.mem_filter.mpr ⟨hc, hi⟩)
  · simpa [hi] using h
set_option maxRecDepth 65536 in
theorem w_c0 : (Jvm.Cond.code x code maxLocals ret).before args0 about1 = true := code_word (m := ⟨1, 1⟩) (meth := k1m1) (c := k1c1) (by decide +kernel) rfl rfl rfl (by decide +kernel)
set_option maxRecDepth 65536 in
theorem w_c1 : (Jvm.Cond.code ({ cls := "com/example/libmandate/libmandate/spki/ByteLanguage$Operation", name := "accepts", desc := "(ZZ)Z" } : Jvm.MethodName) prog_19_method_6_code (4 : Nat) (Option.some Jvm.ClassFile.FieldType.boolean)).before args0 about1 = true := code_word (m := ⟨6, 0⟩) (meth := k6m0) (c := k6c0) (by decide +kernel) rfl rfl rfl (by decide +kernel)
def codes1 : List Jvm.Cond := [Jvm.Cond.code x code maxLocals ret, Jvm.Cond.code ({ cls := "com/example/libmandate/libmandate/spki/ByteLanguage$Operation", name := "accepts", desc := "(ZZ)Z" } : Jvm.MethodName) prog_19_method_6_code (4 : Nat) (Option.some Jvm.ClassFile.FieldType.boolean)]
set_option maxRecDepth 65536 in
theorem codes_eq : words1.filter isCode = codes1 := rfl
theorem w_codes : ∀ c ∈ words1.filter isCode, c.before args0 about1 = true := by
  rw [codes_eq]
  intro c hc
  simp only [codes1, List.mem_cons, List.not_mem_nil, or_false] at hc
  rcases hc with rfl | rfl
  · exact w_c0
  · exact w_c1
set_option maxRecDepth 65536 in
theorem w_t1 : words1.all (fun c => isCode c || c.before args0 about1) = true := by decide +kernel
theorem w_tables : (allAtoms (Jvm.Cond.code x code maxLocals ret :: tables_1)).before args0 about1 = true := by
  rw [allAtoms_all]
  show words1.all (fun c => c.before args0 about1) = true
  refine all_split ?_ w_codes
  rw [w_t1]
set_option maxRecDepth 65536 in
theorem w_case : (Jvm.Cond.and given_1 narrow_1).before args0 about1 = true := by decide +kernel
theorem w_applies : (headSpec (Jvm.Cond.code x code maxLocals ret :: tables_1) room_1).applies x e0.platform about1 = true :=
  (Spec.applies_iff w_frames).mpr ⟨w_running, w_runnable, w_alone, w_named, w_hears, w_ripe, w_room, w_tables⟩
theorem atStart : AtStart classFile x code maxLocals ret World_1 tables_1 room_1 Calls_1 rest_1 Pre_1 launch0 p0 e0 about1 theMethod args0 below0 :=
  ⟨lists_1, trivial, launch0.admits_env _ _ _, launch0.least_env, fairChoices_fair.cas, fairChoices_fair.clock, w_frames, w_args, w_heap, w_applies, trivial, trivial, w_case⟩
end start1
theorem witness_1 : WitnessClaimed_1 := ⟨start1.p0, start1.e0, start1.about1, start1.theMethod, start1.args0, start1.below0, start1.atStart⟩
end Jvm.Pilot.@@N@@
