import JvmDerived
import JvmDerived.Pilot.@@N@@Statement
import JvmDerived.Pilot.@@N@@Code
set_option linter.unusedVariables false
set_option linter.unusedSimpArgs false
namespace Jvm.RoadKit
open Sem ClassFile Op Lib Jvm.Stand Jvm.Free Jvm.LawKit
section Own
variable {p : Program} {l : Launch} {e : Env} {R : Room} {s : State} {m : MethodId} {args : Array Value} {below : List Frame} {meth : Method} {c : Code} {T T' : State} {locs : List Loc} {cells slots rc rs : Nat} {Q : Option Value → Heap → List Loc → Prop} {g g' : JFrame}
/-- from the state T with the top frame g the run ends in a return of which Q is true -/
def OwnGo (p : Program) (e : Env) (below : List Frame) (s : State) (rc rs : Nat) (Q : Option Value → Heap → List Loc → Prop) (T : State) (g : JFrame) : Prop :=
  ∃ (U : State) (o : Outcome), Steps p.tables e below (T.setTop g) U ∧ U.status = .running ∧ Ended U below o ∧ ∃ v L, o = .returned v ∧ Q v U.heap L ∧ FrameEnd s o U L rc rs
theorem OwnGo.st (k : ∀ target, Steps p.tables e below (T'.setTop g') target → Steps p.tables e below (T.setTop g) target) (h : OwnGo p e below s rc rs Q T' g') : OwnGo p e below s rc rs Q T g := by
  obtain ⟨U, o, h1, h2⟩ := h
  exact ⟨U, o, k _ h1, h2⟩
theorem OwnGo.join {ι : Type} {P : ι → Prop} {f : ι → JFrame} {T1 : State} (h : ∀ i, P i → OwnGo p e below s rc rs Q T1 (f i)) (k : (∀ i, P i → OwnGo p e below s rc rs Q T1 (f i)) → OwnGo p e below s rc rs Q T g) : OwnGo p e below s rc rs Q T g := k h
theorem OwnGo.cast (q : g = g') (h : OwnGo p e below s rc rs Q T g') : OwnGo p e below s rc rs Q T g := q ▸ h
theorem OwnGo.ret (X : Stand p l e R s m args below meth c T locs cells slots) (hx : p.tables.exec = Jvm.exec) {pc : Nat} {Ls : Array Slot} {w : Value} {t : FieldType} {i : Instr} {rest : List Value} (hret : meth.sig.returnType = some t) (hlk : meth.locks = false) (hn : narrow t w = w)
    (hi : (i = .ireturn ∧ (t = .int ∨ t = .boolean ∨ t = .byte ∨ t = .char ∨ t = .short) ∧ ∃ z, w = .int z) ∨ (i = .lreturn ∧ t = .long ∧ ∃ z, w = .long z) ∨ (i = .dreturn ∧ t = .double ∧ ∃ z, w = .double z) ∨ (i = .freturn ∧ t = .float ∧ ∃ z, w = .float z) ∨ (i = .areturn ∧ t.isReference = true ∧ w.isRef = true))
    (hd : decode c.code pc = .ok (i, 1)) (hQ : Q (some w) T.heap locs) (hc : cells ≤ rc) (hs : slots ≤ rs) : OwnGo p e below s rc rs Q T (mkF m pc Ls (w :: rest)) := by
  obtain ⟨fs, hr, hrun, hended, hW, hsame⟩ := X.leave (v := some w) (fun h => by rw [hret] at h; cases h) hlk
  exact ⟨_, _, retOut X hx hret hn hi hd hr, hrun, hended, _, _, rfl, hQ, ⟨_, rfl⟩, hW, hsame.mono hc hs⟩
theorem OwnGo.retN (X : Stand p l e R s m args below meth c T locs cells slots) (hx : p.tables.exec = Jvm.exec) {pc : Nat} {Ls : Array Slot} {z : Int32} {t : FieldType} {rest : List Value} (hret : meth.sig.returnType = some t) (hlk : meth.locks = false) (ht : t = .boolean ∨ t = .byte ∨ t = .char ∨ t = .short)
    (hd : decode c.code pc = .ok (.ireturn, 1)) (hQ : Q (some (.int (nar t z))) T.heap locs) (hc : cells ≤ rc) (hs : slots ≤ rs) : OwnGo p e below s rc rs Q T (mkF m pc Ls (.int z :: rest)) := by
  obtain ⟨fs, hr, hrun, hended, hW, hsame⟩ := X.leave (v := some (.int (nar t z))) (fun h => by rw [hret] at h; cases h) hlk
  exact ⟨_, _, Jvm.RoadKit.retN X hx hret ht hd hr, hrun, hended, _, _, rfl, hQ, ⟨_, rfl⟩, hW, hsame.mono hc hs⟩
theorem OwnGo.retV (X : Stand p l e R s m args below meth c T locs cells slots) (hx : p.tables.exec = Jvm.exec) {pc : Nat} {Ls : Array Slot} (hret : meth.sig.returnType = none) (hlk : meth.locks = false)
    (hd : decode c.code pc = .ok (.return_, 1)) (hQ : Q none T.heap locs) (hc : cells ≤ rc) (hs : slots ≤ rs) : OwnGo p e below s rc rs Q T (mkF m pc Ls []) := by
  obtain ⟨fs, hr, hrun, hended, hW, hsame⟩ := X.leave (v := none) (fun _ => rfl) hlk
  exact ⟨_, _, X.returnOut hx hret hd hr, hrun, hended, _, _, rfl, hQ, ⟨_, rfl⟩, hW, hsame.mono hc hs⟩
theorem own_met {y : MethodName} {bytes : ByteArray} {maxL : Nat} {ret : Option FieldType} {ws : List Jvm.Cond} {rm : Room} {Z : State} {as' : Array Value} {h0 : Heap} (hp : plainFor y = true)
    (body : ∀ (p : Program) (e : Env) (s : State) (m : MethodId) (below : List Frame) (meth : Method) (c : Code) (s₁ : State), Stand p l e rm s m as' below meth c s₁ [] 0 0 → p.tables.exec = Jvm.exec → c.code = bytes → c.maxLocals = maxL → meth.sig.returnType = ret → meth.locks = false → s.vm.findClass y.cls = some m.cls → meth.name = y.name → Z.Warmed39 s.vm → s₁.heap = h0 →
      OwnGo p e below s rm.cells rm.slots Q s₁ (entryFrame m as' maxL)) :
    MetFree l y (head1 (Jvm.Cond.code y bytes maxL ret :: ws) rm) (fun a U => a = as' ∧ Z.Warmed39 U.vm ∧ U.heap = h0) (fun _ _ _ _ _ => True) (fun _ U o U' => ∃ v L, o = .returned v ∧ Q v U'.heap L ∧ FrameEnd U o U' L rm.cells rm.slots) := by
  refine MetFree.of_bodySF hp hisR ?_
  intro p e s m args below meth c s₁ Bd hml0 hP hK
  obtain ⟨rfl, hZ, hh⟩ := hP
  exact body p e s m below meth c s₁ (Stand.of_body Bd) Bd.exec Bd.bytes hml0 Bd.returns Bd.notSynchronized (findClass_of_methodNamed Bd.named) (name_of_methodNamed Bd.named Bd.method).1 hZ (by rw [← hh, Bd.state]; rfl)
theorem own_len {Z : State} {h : Heap} {a : Addr} {cl : Cell} {ty : FieldType} {z : Int32} (hZ : Z.Warmed39 s.vm) (q : cl.slots.size.toInt32 = z) (A : Arr Z h a cl ty) (X : Stand p l e R s m args below meth c T locs cells slots) (eT : T.heap = h) (hx : p.tables.exec = Jvm.exec) {rest : List Value}
    (hg : g.method = m) (hst : g.stack = .ref a :: rest) (hd : decode c.code g.pc = .ok (.arraylength, 1)) (target : State) (k : Steps p.tables e below (T.setTop { g with pc := g.pc + 1, stack := .int z :: rest }) target) : Steps p.tables e below (T.setTop g) target := by
  refine X.arraylength hx (by rw [eT]; exact A.1) (State.isArrayOf_alike hZ.alike A.2.1) hg hst hd _ ?_
  rw [q]; exact k
theorem own_eqi {args : Array Value} {first U : State} {o : Option Outcome} {idx : List Nat} {a : Term} {k : Int32} (h : (Jvm.Cond.eq a (.int k)).value args first o U idx = some true) : a.eval args first o idx U = some (.int k) := Cond.eq_int (b := .int k) (by simp only [Cond.holds, h]; rfl) rfl
theorem own_eqv {args : Array Value} {first U : State} {o : Option Outcome} {idx : List Nat} {a b : Term} {v : Value} (h : (Jvm.Cond.eq a b).value args first o U idx = some true) (hb : b.eval args first o idx U = some v) (hv : v.isRef = true) : a.eval args first o idx U = some v := by
  obtain ⟨x, y, h1, h2, k1, k2⟩ := cmp_v (Or.inl h)
  cases h2.symm.trans hb
  have hx : x.isRef = true := by cases x <;> cases v <;> simp [Kin, Value.isRef] at k1 k2 hv ⊢
  rw [h1, gotT (eq_R h1 h2 hx hv) h]
theorem own_lenv {Z : State} {args : Array Value} {t : Term} {a : Addr} {cl : Cell} {ty : FieldType} {z : Int32} (ev : t.eval args Z none [] Z = some (.ref a)) (A : Arr Z Z.heap a cl ty) (h : (Jvm.Cond.eq (.length t) (.int z)).value args Z none Z [] = some true) : cl.slots.size < 2 ^ 31 ∧ cl.slots.size.toInt32 = z := by
  have e := own_eqi h
  have hA := A.fin (Vm.Alike.refl _)
  refine ⟨SBG.length_lt ev hA e, ?_⟩
  obtain ⟨a', c', e1, e2, e3⟩ := Term.length_spec e
  cases ev.symm.trans e1
  cases hA.symm.trans e2
  exact (Value.int.inj e3).symm
theorem own_elem {Z : State} {args : Array Value} {t : Term} {a : Addr} {cl : Cell} {ty : FieldType} {k : Int32} {v : Value} (ev : t.eval args Z none [] Z = some (.ref a)) (A : Arr Z Z.heap a cl ty) (h : (Term.elem t (.int k)).eval args Z none [] Z = some v) : cl.slots[k.toNatClampNeg]? = some v := (elem_in h ev rfl A.1).2
theorem own_narR {w : Value} {t : FieldType} (h : w.isRef = true) (ht : t.isReference = true) : narrow t w = w := by
  cases w <;> simp [Value.isRef] at h <;> cases t <;> simp [FieldType.isReference] at ht <;> rfl
theorem own_selp {C : String} {x y z : MethodName} (hz : (Jvm.Cond.selects C x z).before args s = true) (hcls : z.cls = y.cls) (hpriv : s.PrivateAt y) (hinst : (Jvm.Cond.instanceMethod y).before args s = true) (hy : y.cls ≠ "java/lang/invoke/MethodHandle" ∧ y.cls ≠ "java/lang/invoke/VarHandle") : (Jvm.Cond.selects y.cls y y).before args s = true := by
  obtain ⟨c, r, mz, h1, h2, h3, h4, mk, h5, h6⟩ := Cond.selects_spec hz
  exact selects_self_of_private (by rw [← hcls]; exact findClass_of_methodNamed h3) h5 h6 hpriv hinst hy
theorem own_nface {C : String} {x y z : MethodName} (hz : (Jvm.Cond.selects C x z).before args s = true) (hcls : z.cls = y.cls) : NotFace s y := fun r0 h0 => by
  obtain ⟨c, r, mz, h1, h2, h3, h4, mk, h5, h6⟩ := Cond.selects_spec hz
  have e1 : s.vm.findClass y.cls = some mz.cls := by rw [← hcls]; exact findClass_of_methodNamed h3
  have e2 : r0.cls = mz.cls := Option.some.inj ((findClass_of_methodNamed h0).symm.trans e1)
  exact ⟨mk, by rw [e2]; exact h5, h6⟩
theorem own_same {C : String} {x y z : MethodName} (hz : (Jvm.Cond.selects C x z).before args s = true) (hcls : z.cls = y.cls) (hinst : (Jvm.Cond.instanceMethod y).before args s = true) (hy : y.cls ≠ "java/lang/invoke/MethodHandle" ∧ y.cls ≠ "java/lang/invoke/VarHandle") : (Jvm.Cond.sameMethod y.cls y.cls y.name y.desc).before args s = true := by
  obtain ⟨c, r, mz, h1, h2, h3, h4, mk, h5, h6⟩ := Cond.selects_spec hz
  obtain ⟨ym, methM, hnamed, -, -, -⟩ := Cond.instanceMethod_spec hinst
  have hf : s.methodFound? y.cls y.name y.desc = some ym := State.methodFound?_of_named hnamed hy
  have hc : s.vm.findClass y.cls = some mz.cls := by rw [← hcls]; exact findClass_of_methodNamed h3
  simp [Cond.before, Cond.holds, Cond.value, hc, hf, hnamed, h5, h6]
theorem own_cat {w : Value} (h : w.isRef = true) : w.category = 1 := by cases w <;> simp [Value.isRef] at h <;> rfl
/-- an array of n places, whatever they hold -/
def OwnArr (Z : State) (h : Heap) (a : Addr) (ty : FieldType) (n : Nat) : Prop := ∃ cl : Cell, Arr Z h a cl ty ∧ cl.slots.size = n
theorem OwnArr.lt {Z : State} {h : Heap} {a : Addr} {ty : FieldType} {n : Nat} (F : OwnArr Z h a ty n) : a < h.size := by obtain ⟨_, A, -⟩ := F; exact A.lt
theorem OwnArr.ext {Z : State} {h h' : Heap} {a : Addr} {ty : FieldType} {n : Nat} (F : OwnArr Z h a ty n) (E : Ext h h') : OwnArr Z h' a ty n := by obtain ⟨c, A, S⟩ := F; exact ⟨c, A.ext E, S⟩
theorem OwnArr.keep {Z : State} {h h' : Heap} {a : Addr} {ty : FieldType} {n : Nat} {ws : List Addr} (F : OwnArr Z h a ty n) (K : Keep h h' ws) : OwnArr Z h' a ty n := by
  obtain ⟨c, ⟨A1, ⟨q1, q2⟩, A3⟩, S⟩ := F
  obtain ⟨c', e1, e2, e3, e4⟩ := K.2.2 _ _ A1
  exact ⟨c', ⟨e1, ⟨by rw [e3]; exact q1, by rw [e2]; exact q2⟩, by rw [e3]; exact A3⟩, e4.trans S⟩
theorem OwnArr.wr {Z : State} {h h' : Heap} {a b : Addr} {ty : FieldType} {n sl : Nat} {v : Value} (F : OwnArr Z h a ty n) (W : Wr h h' b sl v) : OwnArr Z h' a ty n := F.keep (Keep.of_wr W)
theorem OwnArr.of {Z : State} {h : Heap} {a : Addr} {k : ClassId} {ty : FieldType} {z : Int32} {vs : List Value} {d : Value} (F : Arv Z h a k ty z vs d) : OwnArr Z h a ty z.toNatClampNeg := by obtain ⟨c, A, -, S, -⟩ := F; exact ⟨c, A, S⟩
/-- an array of n ints (or bytes, chars, ..): place j holds f j -/
def OwnFn (Z : State) (h : Heap) (a : Addr) (ty : FieldType) (n : Nat) (f : Nat → Int32) : Prop := ∃ cl : Cell, Arr Z h a cl ty ∧ cl.slots.size = n ∧ ∀ j, j < n → cl.slots[j]? = some (.int (f j))
theorem OwnFn.lt {Z : State} {h : Heap} {a : Addr} {ty : FieldType} {n : Nat} {f : Nat → Int32} (F : OwnFn Z h a ty n f) : a < h.size := by obtain ⟨_, A, -⟩ := F; exact A.lt
theorem OwnFn.ext {Z : State} {h h' : Heap} {a : Addr} {ty : FieldType} {n : Nat} {f : Nat → Int32} (F : OwnFn Z h a ty n f) (E : Ext h h') : OwnFn Z h' a ty n f := by obtain ⟨c, A, r⟩ := F; exact ⟨c, A.ext E, r⟩
theorem OwnFn.keep {Z : State} {h h' : Heap} {a : Addr} {ty : FieldType} {n : Nat} {f : Nat → Int32} {ws : List Addr} (F : OwnFn Z h a ty n f) (K : Keep h h' ws) (q : a ∉ ws) : OwnFn Z h' a ty n f := by obtain ⟨c, A, r⟩ := F; exact ⟨c, ⟨K.2.1 a c A.1 q, A.2⟩, r⟩
theorem OwnFn.other {Z : State} {h h' : Heap} {a b : Addr} {ty : FieldType} {n sl : Nat} {f : Nat → Int32} {v : Value} (F : OwnFn Z h a ty n f) (W : Wr h h' b sl v) (q : a ≠ b) : OwnFn Z h' a ty n f := by obtain ⟨c, A, r⟩ := F; exact ⟨c, A.other W q, r⟩
theorem OwnFn.set {Z : State} {h h' : Heap} {a : Addr} {ty : FieldType} {n sl : Nat} {f : Nat → Int32} {v : Int32} (F : OwnFn Z h a ty n f) (W : Wr h h' a sl (.int v)) : OwnFn Z h' a ty n (fun j => if j = sl then v else f j) := by
  obtain ⟨c, A, S, H⟩ := F
  refine ⟨_, A.same W, by simp [Cell.setSlot, S], fun j hj => ?_⟩
  have e : (c.setSlot sl (.int v)).slots[j]? = if sl = j then some (.int v) else c.slots[j]? := by
    have hj' : j < c.slots.size := S ▸ hj
    simp only [Cell.setSlot, Array.getElem?_setIfInBounds]
    by_cases q : sl = j
    · subst q; simp [hj']
    · simp [q]
  rw [e]
  by_cases q : j = sl
  · subst q; simp
  · simp [q, Ne.symm q, H j hj]
theorem OwnFn.new {Z : State} {h : Heap} {a : Addr} {k : ClassId} {ty : FieldType} {z : Int32} (A : Arr Z h a (newA k ty z) ty) (hd : defaultValue ty = .int 0) : OwnFn Z h a ty z.toNatClampNeg (fun _ => 0) :=
  ⟨_, A, sz_new _ _ _, fun j hj => by simp [newA, hd, hj]⟩
theorem own_nb (x : Int32) : nar .byte x.toInt8.toInt32 = x.toInt8.toInt32 := by
  show (x.toInt8.toInt32).toInt8.toInt32 = _
  rw [Int8.toInt8_toInt32]
theorem OwnGo.iload (X : Stand p l e R s m args below meth c T locs cells slots) (hx : p.tables.exec = Jvm.exec) {pc : Nat} {L : Array Slot} {S : List Value} {k : Nat} {v : Int32} (hd : decode c.code pc = .ok (.iload k, 2)) (hl : L[k]? = some (.val (.int v))) (h : OwnGo p e below s rc rs Q T (mkF m (pc + 2) L (.int v :: S))) : OwnGo p e below s rc rs Q T (mkF m pc L S) := by
  exact .st (fun _ => XS.iload (g := mkF m pc L S) X.here hx rfl hd hl) h
theorem OwnGo.iloadN (X : Stand p l e R s m args below meth c T locs cells slots) (hx : p.tables.exec = Jvm.exec) {pc : Nat} {L : Array Slot} {S : List Value} {k : Fin 4} {v : Int32} (hd : decode c.code pc = .ok (.iload_n k, 1)) (hl : L[k.val]? = some (.val (.int v))) (h : OwnGo p e below s rc rs Q T (mkF m (pc + 1) L (.int v :: S))) : OwnGo p e below s rc rs Q T (mkF m pc L S) := by
  exact .st (fun _ => XS.iloadN (g := mkF m pc L S) X.here hx rfl hd hl) h
theorem OwnGo.aload (X : Stand p l e R s m args below meth c T locs cells slots) (hx : p.tables.exec = Jvm.exec) {pc : Nat} {L : Array Slot} {S : List Value} {k : Nat} {v : Value} (hd : decode c.code pc = .ok (.aload k, 2)) (hl : L[k]? = some (.val v)) (hv : v.isRef = true) (h : OwnGo p e below s rc rs Q T (mkF m (pc + 2) L (v :: S))) : OwnGo p e below s rc rs Q T (mkF m pc L S) := by
  exact .st (fun _ => XS.aload (g := mkF m pc L S) X.here hx rfl hd hl hv) h
theorem OwnGo.aloadN (X : Stand p l e R s m args below meth c T locs cells slots) (hx : p.tables.exec = Jvm.exec) {pc : Nat} {L : Array Slot} {S : List Value} {k : Fin 4} {v : Value} (hd : decode c.code pc = .ok (.aload_n k, 1)) (hl : L[k.val]? = some (.val v)) (hv : v.isRef = true) (h : OwnGo p e below s rc rs Q T (mkF m (pc + 1) L (v :: S))) : OwnGo p e below s rc rs Q T (mkF m pc L S) := by
  exact .st (fun _ => XS.aloadN (g := mkF m pc L S) X.here hx rfl hd hl hv) h
theorem OwnGo.iconst (X : Stand p l e R s m args below meth c T locs cells slots) (hx : p.tables.exec = Jvm.exec) {pc : Nat} {L : Array Slot} {S : List Value} {i : Int} {n : Int32} (hd : decode c.code pc = .ok (.iconst i, 1)) (hn : Int32.ofInt i = n) (h : OwnGo p e below s rc rs Q T (mkF m (pc + 1) L (.int n :: S))) : OwnGo p e below s rc rs Q T (mkF m pc L S) := by
  subst hn
  exact .st (fun _ => XS.iconst (g := mkF m pc L S) X.here hx rfl hd) h
theorem OwnGo.bipush (X : Stand p l e R s m args below meth c T locs cells slots) (hx : p.tables.exec = Jvm.exec) {pc : Nat} {L : Array Slot} {S : List Value} {i : Int} {n : Int32} (hd : decode c.code pc = .ok (.bipush i, 2)) (hn : (Int8.ofInt i).toInt32 = n) (h : OwnGo p e below s rc rs Q T (mkF m (pc + 2) L (.int n :: S))) : OwnGo p e below s rc rs Q T (mkF m pc L S) := by
  subst hn
  exact .st (fun _ => XS.bipush (g := mkF m pc L S) X.here hx rfl hd) h
theorem OwnGo.sipush (X : Stand p l e R s m args below meth c T locs cells slots) (hx : p.tables.exec = Jvm.exec) {pc : Nat} {L : Array Slot} {S : List Value} {i : Int} {n : Int32} (hd : decode c.code pc = .ok (.sipush i, 3)) (hn : (Int16.ofInt i).toInt32 = n) (h : OwnGo p e below s rc rs Q T (mkF m (pc + 3) L (.int n :: S))) : OwnGo p e below s rc rs Q T (mkF m pc L S) := by
  subst hn
  exact .st (fun _ => XS.sipush (g := mkF m pc L S) X.here hx rfl hd) h
theorem OwnGo.aconstNull (X : Stand p l e R s m args below meth c T locs cells slots) (hx : p.tables.exec = Jvm.exec) {pc : Nat} {L : Array Slot} {S : List Value}  (hd : decode c.code pc = .ok (.aconst_null, 1)) (h : OwnGo p e below s rc rs Q T (mkF m (pc + 1) L (.null :: S))) : OwnGo p e below s rc rs Q T (mkF m pc L S) := by
  exact .st (fun _ => XS.aconstNull (g := mkF m pc L S) X.here hx rfl hd) h
theorem OwnGo.dup (X : Stand p l e R s m args below meth c T locs cells slots) (hx : p.tables.exec = Jvm.exec) {pc : Nat} {L : Array Slot} {S : List Value} {x : Value} (hd : decode c.code pc = .ok (.dup, 1)) (hc : x.category = 1) (h : OwnGo p e below s rc rs Q T (mkF m (pc + 1) L (x :: x :: S))) : OwnGo p e below s rc rs Q T (mkF m pc L (x :: S)) := by
  exact .st (fun _ => XS.dup (g := mkF m pc L (x :: S)) X.here hx rfl hd rfl hc) h
theorem OwnGo.goto (X : Stand p l e R s m args below meth c T locs cells slots) (hx : p.tables.exec = Jvm.exec) {pc : Nat} {L : Array Slot} {S : List Value} {o : Int} (pc' : Nat) (hd : decode c.code pc = .ok (.goto o, 3)) (ho : 0 ≤ (pc : Int) + o) (hp : ((pc : Int) + o).toNat = pc') (h : OwnGo p e below s rc rs Q T (mkF m pc' L S)) : OwnGo p e below s rc rs Q T (mkF m pc L S) := by
  exact .st (fun _ => XS.goto (g := mkF m pc L S) X.here hx rfl rfl hd ho hp) h
theorem OwnGo.istore (X : Stand p l e R s m args below meth c T locs cells slots) (hx : p.tables.exec = Jvm.exec) {pc : Nat} {L : Array Slot} {S : List Value} {k : Nat} {x : Int32} {L' : Array Slot} (hd : decode c.code pc = .ok (.istore k, 2)) (hl : storeLocals L k (.int x) = some L') (h : OwnGo p e below s rc rs Q T (mkF m (pc + 2) L' S)) : OwnGo p e below s rc rs Q T (mkF m pc L (.int x :: S)) := by
  exact .st (fun _ => XS.istore (g := mkF m pc L (.int x :: S)) X.here hx rfl hd rfl hl) h
theorem OwnGo.istoreN (X : Stand p l e R s m args below meth c T locs cells slots) (hx : p.tables.exec = Jvm.exec) {pc : Nat} {L : Array Slot} {S : List Value} {k : Fin 4} {x : Int32} {L' : Array Slot} (hd : decode c.code pc = .ok (.istore_n k, 1)) (hl : storeLocals L k.val (.int x) = some L') (h : OwnGo p e below s rc rs Q T (mkF m (pc + 1) L' S)) : OwnGo p e below s rc rs Q T (mkF m pc L (.int x :: S)) := by
  exact .st (fun _ => XS.istoreN (g := mkF m pc L (.int x :: S)) X.here hx rfl hd rfl hl) h
theorem OwnGo.astore (X : Stand p l e R s m args below meth c T locs cells slots) (hx : p.tables.exec = Jvm.exec) {pc : Nat} {L : Array Slot} {S : List Value} {k : Nat} {x : Value} {L' : Array Slot} (hd : decode c.code pc = .ok (.astore k, 2)) (hv : x.isRef = true) (hl : storeLocals L k x = some L') (h : OwnGo p e below s rc rs Q T (mkF m (pc + 2) L' S)) : OwnGo p e below s rc rs Q T (mkF m pc L (x :: S)) := by
  exact .st (fun _ => XS.astore (g := mkF m pc L (x :: S)) X.here hx rfl hd rfl hv hl) h
theorem OwnGo.astoreN (X : Stand p l e R s m args below meth c T locs cells slots) (hx : p.tables.exec = Jvm.exec) {pc : Nat} {L : Array Slot} {S : List Value} {k : Fin 4} {x : Value} {L' : Array Slot} (hd : decode c.code pc = .ok (.astore_n k, 1)) (hv : x.isRef = true) (hl : storeLocals L k.val x = some L') (h : OwnGo p e below s rc rs Q T (mkF m (pc + 1) L' S)) : OwnGo p e below s rc rs Q T (mkF m pc L (x :: S)) := by
  exact .st (fun _ => XS.astoreN (g := mkF m pc L (x :: S)) X.here hx rfl hd rfl hv hl) h
theorem OwnGo.iinc (X : Stand p l e R s m args below meth c T locs cells slots) (hx : p.tables.exec = Jvm.exec) {pc : Nat} {L : Array Slot} {S : List Value} {k : Nat} {cst : Int} {x y : Int32} {L' : Array Slot} (hd : decode c.code pc = .ok (.iinc k cst, 3)) (hl : L[k]? = some (.val (.int x))) (hn : x + Int32.ofInt cst = y) (hl' : storeLocals L k (.int y) = some L') (h : OwnGo p e below s rc rs Q T (mkF m (pc + 3) L' S)) : OwnGo p e below s rc rs Q T (mkF m pc L S) := by
  subst hn
  exact .st (fun _ => XS.iinc (g := mkF m pc L S) X.here hx rfl hd hl hl') h
theorem OwnGo.ifNo (X : Stand p l e R s m args below meth c T locs cells slots) (hx : p.tables.exec = Jvm.exec) {pc : Nat} {L : Array Slot} {S : List Value} {cd : ClassFile.Cond} {o : Int} {x : Int32} (hd : decode c.code pc = .ok (.ifCond cd o, 3)) (hc : ifCond.holds cd x = false) (h : OwnGo p e below s rc rs Q T (mkF m (pc + 3) L S)) : OwnGo p e below s rc rs Q T (mkF m pc L (.int x :: S)) := by
  exact .st (fun _ => XS.ifNo (g := mkF m pc L (.int x :: S)) X.here hx rfl hd rfl hc) h
theorem OwnGo.ifYes (X : Stand p l e R s m args below meth c T locs cells slots) (hx : p.tables.exec = Jvm.exec) {pc : Nat} {L : Array Slot} {S : List Value} {cd : ClassFile.Cond} {o : Int} {x : Int32} (pc' : Nat) (hd : decode c.code pc = .ok (.ifCond cd o, 3)) (hc : ifCond.holds cd x = true) (ho : 0 ≤ (pc : Int) + o) (hp : ((pc : Int) + o).toNat = pc') (h : OwnGo p e below s rc rs Q T (mkF m pc' L S)) : OwnGo p e below s rc rs Q T (mkF m pc L (.int x :: S)) := by
  exact .st (fun _ => XS.ifYes (g := mkF m pc L (.int x :: S)) X.here hx rfl rfl hd rfl hc ho hp) h
theorem OwnGo.icmpNo (X : Stand p l e R s m args below meth c T locs cells slots) (hx : p.tables.exec = Jvm.exec) {pc : Nat} {L : Array Slot} {S : List Value} {cd : ClassFile.Cond} {o : Int} {x y : Int32} (hd : decode c.code pc = .ok (.if_icmp cd o, 3)) (hc : if_icmp.holds cd x y = false) (h : OwnGo p e below s rc rs Q T (mkF m (pc + 3) L S)) : OwnGo p e below s rc rs Q T (mkF m pc L (.int y :: .int x :: S)) := by
  exact .st (fun _ => XS.icmpNo (g := mkF m pc L (.int y :: .int x :: S)) X.here hx rfl hd rfl hc) h
theorem OwnGo.tswIn (X : Stand p l e R s m args below meth c T locs cells slots) (hx : p.tables.exec = Jvm.exec) {pc : Nat} {L : Array Slot} {S : List Value} {dflt low high : Int} {offs : Array Int} {len : Nat} {o : Int} {i : Int32} (pc' : Nat) (hd : decode c.code pc = .ok (.tableswitch dflt low high offs, len)) (hin : ¬ (i.toInt < low ∨ i.toInt > high)) (hoff : offs[(i.toInt - low).toNat]? = some o) (ho : 0 ≤ (pc : Int) + o) (hp : ((pc : Int) + o).toNat = pc') (h : OwnGo p e below s rc rs Q T (mkF m pc' L S)) : OwnGo p e below s rc rs Q T (mkF m pc L (.int i :: S)) := by
  exact .st (fun _ => XS.tswIn (g := mkF m pc L (.int i :: S)) X.here hx rfl rfl hd rfl hin hoff ho hp) h
theorem OwnGo.tswOut (X : Stand p l e R s m args below meth c T locs cells slots) (hx : p.tables.exec = Jvm.exec) {pc : Nat} {L : Array Slot} {S : List Value} {dflt low high : Int} {offs : Array Int} {len : Nat} {i : Int32} (pc' : Nat) (hd : decode c.code pc = .ok (.tableswitch dflt low high offs, len)) (hout : i.toInt < low ∨ i.toInt > high) (ho : 0 ≤ (pc : Int) + dflt) (hp : ((pc : Int) + dflt).toNat = pc') (h : OwnGo p e below s rc rs Q T (mkF m pc' L S)) : OwnGo p e below s rc rs Q T (mkF m pc L (.int i :: S)) := by
  exact .st (fun _ => XS.tswOut (g := mkF m pc L (.int i :: S)) X.here hx rfl rfl hd rfl hout ho hp) h
theorem OwnGo.icmpYes (X : Stand p l e R s m args below meth c T locs cells slots) (hx : p.tables.exec = Jvm.exec) {pc : Nat} {L : Array Slot} {S : List Value} {cd : ClassFile.Cond} {o : Int} {x y : Int32} (pc' : Nat) (hd : decode c.code pc = .ok (.if_icmp cd o, 3)) (hc : if_icmp.holds cd x y = true) (ho : 0 ≤ (pc : Int) + o) (hp : ((pc : Int) + o).toNat = pc') (h : OwnGo p e below s rc rs Q T (mkF m pc' L S)) : OwnGo p e below s rc rs Q T (mkF m pc L (.int y :: .int x :: S)) := by
  exact .st (fun _ => XS.icmpYes (g := mkF m pc L (.int y :: .int x :: S)) X.here hx rfl rfl hd rfl hc ho hp) h
end Own
end Jvm.RoadKit
namespace Jvm.RoadKit
open Sem ClassFile Op Lib Jvm.Stand Jvm.Free Jvm.LawKit
section OwnW
variable {p : Program} {l : Launch} {e : Env} {R : Room} {s : State} {vm0 : Vm} {m : MethodId} {args : Array Value} {below : List Frame} {meth : Method} {c : Code} {T T' Z : State} {locs : List Loc} {cells slots rc rs k0 : Nat} {Q : Option Value → Heap → List Loc → Prop} {g g' : JFrame} {EL : List (String × Nat)} {a0 : Array Value} {h0 h : Heap}
/-- the same, where String constants may be loaded: the wide frame, and the booked constants' invariant -/
def OwnGoW (p : Program) (e : Env) (below : List Frame) (s Z : State) (EL : List (String × Nat)) (rc rs : Nat) (Q : Option Value → Heap → List Loc → Prop) (T : State) (g : JFrame) : Prop :=
  ∃ (U : State) (o : Outcome), Steps p.tables e below (T.setTop g) U ∧ U.status = .running ∧ Ended U below o ∧ ∃ v L, o = .returned v ∧ Q v U.heap L ∧ CHr Z EL s.vm s.heap U.vm U.heap ∧ ReturnedEndW s o U L rc rs
theorem OwnGoW.st (k : ∀ target, Steps p.tables e below (T'.setTop g') target → Steps p.tables e below (T.setTop g) target) (h : OwnGoW p e below s Z EL rc rs Q T' g') : OwnGoW p e below s Z EL rc rs Q T g := by
  obtain ⟨U, o, h1, h2⟩ := h
  exact ⟨U, o, k _ h1, h2⟩
theorem OwnGoW.join {ι : Type} {P : ι → Prop} {f : ι → JFrame} {T1 : State} (h : ∀ i, P i → OwnGoW p e below s Z EL rc rs Q T1 (f i)) (k : (∀ i, P i → OwnGoW p e below s Z EL rc rs Q T1 (f i)) → OwnGoW p e below s Z EL rc rs Q T g) : OwnGoW p e below s Z EL rc rs Q T g := k h
theorem OwnGoW.cast (q : g = g') (h : OwnGoW p e below s Z EL rc rs Q T g') : OwnGoW p e below s Z EL rc rs Q T g := q ▸ h
theorem OwnGoW.ret (X : Stand p l e R (s.setVm vm0) m args below meth c T locs cells slots) (hS : s.Since vm0 k0) (hk : k0 ≤ h.size) (eT : T.heap = h) (hZ : Z.Warmed39 (s.setVm vm0).vm) (hEL : EW Z a0 EL) (CR : CHr Z EL s.vm s.heap vm0 h) (hx : p.tables.exec = Jvm.exec) {pc : Nat} {Ls : Array Slot} {w : Value} {t : FieldType} {i : Instr} {rest : List Value} (hret : meth.sig.returnType = some t) (hlk : meth.locks = false) (hn : narrow t w = w)
    (hi : (i = .ireturn ∧ (t = .int ∨ t = .boolean ∨ t = .byte ∨ t = .char ∨ t = .short) ∧ ∃ z, w = .int z) ∨ (i = .lreturn ∧ t = .long ∧ ∃ z, w = .long z) ∨ (i = .dreturn ∧ t = .double ∧ ∃ z, w = .double z) ∨ (i = .freturn ∧ t = .float ∧ ∃ z, w = .float z) ∨ (i = .areturn ∧ t.isReference = true ∧ w.isRef = true))
    (hd : decode c.code pc = .ok (i, 1)) (hQ : Q (some w) T.heap locs) (hc : cells ≤ rc) (hs : slots ≤ rs) : OwnGoW p e below s Z EL rc rs Q T (mkF m pc Ls (w :: rest)) := by
  subst eT
  have CX : CHr Z EL vm0 T.heap T.vm T.heap := CHv.at X hZ hEL CR.1
  obtain ⟨fs, hr, hrun, hended, e1, e2, e3, e4⟩ := X.leaveW (v := some w) hS hk (fun h => by rw [hret] at h; cases h) hlk
  exact ⟨_, _, retOut X hx hret hn hi hd hr, hrun, hended, _, _, rfl, hQ, CR.trans CX, e1, e2, e3, e4.mono hc hs⟩
theorem OwnGoW.retN (X : Stand p l e R (s.setVm vm0) m args below meth c T locs cells slots) (hS : s.Since vm0 k0) (hk : k0 ≤ h.size) (eT : T.heap = h) (hZ : Z.Warmed39 (s.setVm vm0).vm) (hEL : EW Z a0 EL) (CR : CHr Z EL s.vm s.heap vm0 h) (hx : p.tables.exec = Jvm.exec) {pc : Nat} {Ls : Array Slot} {z : Int32} {t : FieldType} {rest : List Value} (hret : meth.sig.returnType = some t) (hlk : meth.locks = false) (ht : t = .boolean ∨ t = .byte ∨ t = .char ∨ t = .short)
    (hd : decode c.code pc = .ok (.ireturn, 1)) (hQ : Q (some (.int (nar t z))) T.heap locs) (hc : cells ≤ rc) (hs : slots ≤ rs) : OwnGoW p e below s Z EL rc rs Q T (mkF m pc Ls (.int z :: rest)) := by
  subst eT
  have CX : CHr Z EL vm0 T.heap T.vm T.heap := CHv.at X hZ hEL CR.1
  obtain ⟨fs, hr, hrun, hended, e1, e2, e3, e4⟩ := X.leaveW (v := some (.int (nar t z))) hS hk (fun h => by rw [hret] at h; cases h) hlk
  exact ⟨_, _, Jvm.RoadKit.retN X hx hret ht hd hr, hrun, hended, _, _, rfl, hQ, CR.trans CX, e1, e2, e3, e4.mono hc hs⟩
theorem OwnGoW.retV (X : Stand p l e R (s.setVm vm0) m args below meth c T locs cells slots) (hS : s.Since vm0 k0) (hk : k0 ≤ h.size) (eT : T.heap = h) (hZ : Z.Warmed39 (s.setVm vm0).vm) (hEL : EW Z a0 EL) (CR : CHr Z EL s.vm s.heap vm0 h) (hx : p.tables.exec = Jvm.exec) {pc : Nat} {Ls : Array Slot} (hret : meth.sig.returnType = none) (hlk : meth.locks = false)
    (hd : decode c.code pc = .ok (.return_, 1)) (hQ : Q none T.heap locs) (hc : cells ≤ rc) (hs : slots ≤ rs) : OwnGoW p e below s Z EL rc rs Q T (mkF m pc Ls []) := by
  subst eT
  have CX : CHr Z EL vm0 T.heap T.vm T.heap := CHv.at X hZ hEL CR.1
  obtain ⟨fs, hr, hrun, hended, e1, e2, e3, e4⟩ := X.leaveW (v := none) hS hk (fun _ => rfl) hlk
  exact ⟨_, _, X.returnOut hx hret hd hr, hrun, hended, _, _, rfl, hQ, CR.trans CX, e1, e2, e3, e4.mono hc hs⟩
theorem own_metW {y : MethodName} {bytes : ByteArray} {maxL : Nat} {ret : Option FieldType} {ws : List Jvm.Cond} {rm : Room} {as' : Array Value} (hp : plainFor y = true)
    (body : ∀ (p : Program) (e : Env) (s : State) (m : MethodId) (below : List Frame) (meth : Method) (c : Code) (s₁ : State), Stand p l e rm (s.setVm s.vm) m as' below meth c s₁ [] 0 0 → p.tables.exec = Jvm.exec → c.code = bytes → c.maxLocals = maxL → meth.sig.returnType = ret → meth.locks = false → (s.setVm s.vm).vm.findClass y.cls = some m.cls → meth.name = y.name → Z.Warmed39 (s.setVm s.vm).vm → s₁.heap = h0 →
      s.Since s.vm h0.size → CHr Z EL s.vm s.heap s.vm h0 → OwnGoW p e below s Z EL rm.cells rm.slots Q s₁ (entryFrame m as' maxL)) :
    MetFree l y (head1 (Jvm.Cond.code y bytes maxL ret :: ws) rm) (fun a U => a = as' ∧ Z.Warmed39 U.vm ∧ U.heap = h0 ∧ CHv Z EL U.vm h0) (fun _ _ _ _ _ => True) (fun _ U o U' => ∃ v L, o = .returned v ∧ Q v U'.heap L ∧ CHr Z EL U.vm U.heap U'.vm U'.heap ∧ ReturnedEndW U o U' L rm.cells rm.slots) := by
  refine MetFree.of_bodySF hp hisR ?_
  intro p e s m args below meth c s₁ Bd hml0 hP hK
  obtain ⟨rfl, hZ, hh, hC⟩ := hP
  subst hh
  exact body p e s m below meth c s₁ (Stand.of_body Bd) Bd.exec Bd.bytes hml0 Bd.returns Bd.notSynchronized (findClass_of_methodNamed Bd.named) (name_of_methodNamed Bd.named Bd.method).1 hZ (by rw [Bd.state]; rfl) ((State.WarmedH.refl s).since _) (CHr.refl hC)
theorem OwnGoW.iload (X : Stand p l e R (s.setVm vm0) m args below meth c T locs cells slots) (hx : p.tables.exec = Jvm.exec) {pc : Nat} {L : Array Slot} {S : List Value} {k : Nat} {v : Int32} (hd : decode c.code pc = .ok (.iload k, 2)) (hl : L[k]? = some (.val (.int v))) (h : OwnGoW p e below s Z EL rc rs Q T (mkF m (pc + 2) L (.int v :: S))) : OwnGoW p e below s Z EL rc rs Q T (mkF m pc L S) := by
  exact .st (fun _ => XS.iload (g := mkF m pc L S) X.here hx rfl hd hl) h
theorem OwnGoW.iloadN (X : Stand p l e R (s.setVm vm0) m args below meth c T locs cells slots) (hx : p.tables.exec = Jvm.exec) {pc : Nat} {L : Array Slot} {S : List Value} {k : Fin 4} {v : Int32} (hd : decode c.code pc = .ok (.iload_n k, 1)) (hl : L[k.val]? = some (.val (.int v))) (h : OwnGoW p e below s Z EL rc rs Q T (mkF m (pc + 1) L (.int v :: S))) : OwnGoW p e below s Z EL rc rs Q T (mkF m pc L S) := by
  exact .st (fun _ => XS.iloadN (g := mkF m pc L S) X.here hx rfl hd hl) h
theorem OwnGoW.aload (X : Stand p l e R (s.setVm vm0) m args below meth c T locs cells slots) (hx : p.tables.exec = Jvm.exec) {pc : Nat} {L : Array Slot} {S : List Value} {k : Nat} {v : Value} (hd : decode c.code pc = .ok (.aload k, 2)) (hl : L[k]? = some (.val v)) (hv : v.isRef = true) (h : OwnGoW p e below s Z EL rc rs Q T (mkF m (pc + 2) L (v :: S))) : OwnGoW p e below s Z EL rc rs Q T (mkF m pc L S) := by
  exact .st (fun _ => XS.aload (g := mkF m pc L S) X.here hx rfl hd hl hv) h
theorem OwnGoW.aloadN (X : Stand p l e R (s.setVm vm0) m args below meth c T locs cells slots) (hx : p.tables.exec = Jvm.exec) {pc : Nat} {L : Array Slot} {S : List Value} {k : Fin 4} {v : Value} (hd : decode c.code pc = .ok (.aload_n k, 1)) (hl : L[k.val]? = some (.val v)) (hv : v.isRef = true) (h : OwnGoW p e below s Z EL rc rs Q T (mkF m (pc + 1) L (v :: S))) : OwnGoW p e below s Z EL rc rs Q T (mkF m pc L S) := by
  exact .st (fun _ => XS.aloadN (g := mkF m pc L S) X.here hx rfl hd hl hv) h
theorem OwnGoW.iconst (X : Stand p l e R (s.setVm vm0) m args below meth c T locs cells slots) (hx : p.tables.exec = Jvm.exec) {pc : Nat} {L : Array Slot} {S : List Value} {i : Int} {n : Int32} (hd : decode c.code pc = .ok (.iconst i, 1)) (hn : Int32.ofInt i = n) (h : OwnGoW p e below s Z EL rc rs Q T (mkF m (pc + 1) L (.int n :: S))) : OwnGoW p e below s Z EL rc rs Q T (mkF m pc L S) := by
  subst hn
  exact .st (fun _ => XS.iconst (g := mkF m pc L S) X.here hx rfl hd) h
theorem OwnGoW.bipush (X : Stand p l e R (s.setVm vm0) m args below meth c T locs cells slots) (hx : p.tables.exec = Jvm.exec) {pc : Nat} {L : Array Slot} {S : List Value} {i : Int} {n : Int32} (hd : decode c.code pc = .ok (.bipush i, 2)) (hn : (Int8.ofInt i).toInt32 = n) (h : OwnGoW p e below s Z EL rc rs Q T (mkF m (pc + 2) L (.int n :: S))) : OwnGoW p e below s Z EL rc rs Q T (mkF m pc L S) := by
  subst hn
  exact .st (fun _ => XS.bipush (g := mkF m pc L S) X.here hx rfl hd) h
theorem OwnGoW.sipush (X : Stand p l e R (s.setVm vm0) m args below meth c T locs cells slots) (hx : p.tables.exec = Jvm.exec) {pc : Nat} {L : Array Slot} {S : List Value} {i : Int} {n : Int32} (hd : decode c.code pc = .ok (.sipush i, 3)) (hn : (Int16.ofInt i).toInt32 = n) (h : OwnGoW p e below s Z EL rc rs Q T (mkF m (pc + 3) L (.int n :: S))) : OwnGoW p e below s Z EL rc rs Q T (mkF m pc L S) := by
  subst hn
  exact .st (fun _ => XS.sipush (g := mkF m pc L S) X.here hx rfl hd) h
theorem OwnGoW.aconstNull (X : Stand p l e R (s.setVm vm0) m args below meth c T locs cells slots) (hx : p.tables.exec = Jvm.exec) {pc : Nat} {L : Array Slot} {S : List Value}  (hd : decode c.code pc = .ok (.aconst_null, 1)) (h : OwnGoW p e below s Z EL rc rs Q T (mkF m (pc + 1) L (.null :: S))) : OwnGoW p e below s Z EL rc rs Q T (mkF m pc L S) := by
  exact .st (fun _ => XS.aconstNull (g := mkF m pc L S) X.here hx rfl hd) h
theorem OwnGoW.dup (X : Stand p l e R (s.setVm vm0) m args below meth c T locs cells slots) (hx : p.tables.exec = Jvm.exec) {pc : Nat} {L : Array Slot} {S : List Value} {x : Value} (hd : decode c.code pc = .ok (.dup, 1)) (hc : x.category = 1) (h : OwnGoW p e below s Z EL rc rs Q T (mkF m (pc + 1) L (x :: x :: S))) : OwnGoW p e below s Z EL rc rs Q T (mkF m pc L (x :: S)) := by
  exact .st (fun _ => XS.dup (g := mkF m pc L (x :: S)) X.here hx rfl hd rfl hc) h
theorem OwnGoW.goto (X : Stand p l e R (s.setVm vm0) m args below meth c T locs cells slots) (hx : p.tables.exec = Jvm.exec) {pc : Nat} {L : Array Slot} {S : List Value} {o : Int} (pc' : Nat) (hd : decode c.code pc = .ok (.goto o, 3)) (ho : 0 ≤ (pc : Int) + o) (hp : ((pc : Int) + o).toNat = pc') (h : OwnGoW p e below s Z EL rc rs Q T (mkF m pc' L S)) : OwnGoW p e below s Z EL rc rs Q T (mkF m pc L S) := by
  exact .st (fun _ => XS.goto (g := mkF m pc L S) X.here hx rfl rfl hd ho hp) h
theorem OwnGoW.istore (X : Stand p l e R (s.setVm vm0) m args below meth c T locs cells slots) (hx : p.tables.exec = Jvm.exec) {pc : Nat} {L : Array Slot} {S : List Value} {k : Nat} {x : Int32} {L' : Array Slot} (hd : decode c.code pc = .ok (.istore k, 2)) (hl : storeLocals L k (.int x) = some L') (h : OwnGoW p e below s Z EL rc rs Q T (mkF m (pc + 2) L' S)) : OwnGoW p e below s Z EL rc rs Q T (mkF m pc L (.int x :: S)) := by
  exact .st (fun _ => XS.istore (g := mkF m pc L (.int x :: S)) X.here hx rfl hd rfl hl) h
theorem OwnGoW.istoreN (X : Stand p l e R (s.setVm vm0) m args below meth c T locs cells slots) (hx : p.tables.exec = Jvm.exec) {pc : Nat} {L : Array Slot} {S : List Value} {k : Fin 4} {x : Int32} {L' : Array Slot} (hd : decode c.code pc = .ok (.istore_n k, 1)) (hl : storeLocals L k.val (.int x) = some L') (h : OwnGoW p e below s Z EL rc rs Q T (mkF m (pc + 1) L' S)) : OwnGoW p e below s Z EL rc rs Q T (mkF m pc L (.int x :: S)) := by
  exact .st (fun _ => XS.istoreN (g := mkF m pc L (.int x :: S)) X.here hx rfl hd rfl hl) h
theorem OwnGoW.astore (X : Stand p l e R (s.setVm vm0) m args below meth c T locs cells slots) (hx : p.tables.exec = Jvm.exec) {pc : Nat} {L : Array Slot} {S : List Value} {k : Nat} {x : Value} {L' : Array Slot} (hd : decode c.code pc = .ok (.astore k, 2)) (hv : x.isRef = true) (hl : storeLocals L k x = some L') (h : OwnGoW p e below s Z EL rc rs Q T (mkF m (pc + 2) L' S)) : OwnGoW p e below s Z EL rc rs Q T (mkF m pc L (x :: S)) := by
  exact .st (fun _ => XS.astore (g := mkF m pc L (x :: S)) X.here hx rfl hd rfl hv hl) h
theorem OwnGoW.astoreN (X : Stand p l e R (s.setVm vm0) m args below meth c T locs cells slots) (hx : p.tables.exec = Jvm.exec) {pc : Nat} {L : Array Slot} {S : List Value} {k : Fin 4} {x : Value} {L' : Array Slot} (hd : decode c.code pc = .ok (.astore_n k, 1)) (hv : x.isRef = true) (hl : storeLocals L k.val x = some L') (h : OwnGoW p e below s Z EL rc rs Q T (mkF m (pc + 1) L' S)) : OwnGoW p e below s Z EL rc rs Q T (mkF m pc L (x :: S)) := by
  exact .st (fun _ => XS.astoreN (g := mkF m pc L (x :: S)) X.here hx rfl hd rfl hv hl) h
theorem OwnGoW.iinc (X : Stand p l e R (s.setVm vm0) m args below meth c T locs cells slots) (hx : p.tables.exec = Jvm.exec) {pc : Nat} {L : Array Slot} {S : List Value} {k : Nat} {cst : Int} {x y : Int32} {L' : Array Slot} (hd : decode c.code pc = .ok (.iinc k cst, 3)) (hl : L[k]? = some (.val (.int x))) (hn : x + Int32.ofInt cst = y) (hl' : storeLocals L k (.int y) = some L') (h : OwnGoW p e below s Z EL rc rs Q T (mkF m (pc + 3) L' S)) : OwnGoW p e below s Z EL rc rs Q T (mkF m pc L S) := by
  subst hn
  exact .st (fun _ => XS.iinc (g := mkF m pc L S) X.here hx rfl hd hl hl') h
theorem OwnGoW.ifNo (X : Stand p l e R (s.setVm vm0) m args below meth c T locs cells slots) (hx : p.tables.exec = Jvm.exec) {pc : Nat} {L : Array Slot} {S : List Value} {cd : ClassFile.Cond} {o : Int} {x : Int32} (hd : decode c.code pc = .ok (.ifCond cd o, 3)) (hc : ifCond.holds cd x = false) (h : OwnGoW p e below s Z EL rc rs Q T (mkF m (pc + 3) L S)) : OwnGoW p e below s Z EL rc rs Q T (mkF m pc L (.int x :: S)) := by
  exact .st (fun _ => XS.ifNo (g := mkF m pc L (.int x :: S)) X.here hx rfl hd rfl hc) h
theorem OwnGoW.ifYes (X : Stand p l e R (s.setVm vm0) m args below meth c T locs cells slots) (hx : p.tables.exec = Jvm.exec) {pc : Nat} {L : Array Slot} {S : List Value} {cd : ClassFile.Cond} {o : Int} {x : Int32} (pc' : Nat) (hd : decode c.code pc = .ok (.ifCond cd o, 3)) (hc : ifCond.holds cd x = true) (ho : 0 ≤ (pc : Int) + o) (hp : ((pc : Int) + o).toNat = pc') (h : OwnGoW p e below s Z EL rc rs Q T (mkF m pc' L S)) : OwnGoW p e below s Z EL rc rs Q T (mkF m pc L (.int x :: S)) := by
  exact .st (fun _ => XS.ifYes (g := mkF m pc L (.int x :: S)) X.here hx rfl rfl hd rfl hc ho hp) h
theorem OwnGoW.icmpNo (X : Stand p l e R (s.setVm vm0) m args below meth c T locs cells slots) (hx : p.tables.exec = Jvm.exec) {pc : Nat} {L : Array Slot} {S : List Value} {cd : ClassFile.Cond} {o : Int} {x y : Int32} (hd : decode c.code pc = .ok (.if_icmp cd o, 3)) (hc : if_icmp.holds cd x y = false) (h : OwnGoW p e below s Z EL rc rs Q T (mkF m (pc + 3) L S)) : OwnGoW p e below s Z EL rc rs Q T (mkF m pc L (.int y :: .int x :: S)) := by
  exact .st (fun _ => XS.icmpNo (g := mkF m pc L (.int y :: .int x :: S)) X.here hx rfl hd rfl hc) h
theorem OwnGoW.tswIn (X : Stand p l e R (s.setVm vm0) m args below meth c T locs cells slots) (hx : p.tables.exec = Jvm.exec) {pc : Nat} {L : Array Slot} {S : List Value} {dflt low high : Int} {offs : Array Int} {len : Nat} {o : Int} {i : Int32} (pc' : Nat) (hd : decode c.code pc = .ok (.tableswitch dflt low high offs, len)) (hin : ¬ (i.toInt < low ∨ i.toInt > high)) (hoff : offs[(i.toInt - low).toNat]? = some o) (ho : 0 ≤ (pc : Int) + o) (hp : ((pc : Int) + o).toNat = pc') (h : OwnGoW p e below s Z EL rc rs Q T (mkF m pc' L S)) : OwnGoW p e below s Z EL rc rs Q T (mkF m pc L (.int i :: S)) := by
  exact .st (fun _ => XS.tswIn (g := mkF m pc L (.int i :: S)) X.here hx rfl rfl hd rfl hin hoff ho hp) h
theorem OwnGoW.tswOut (X : Stand p l e R (s.setVm vm0) m args below meth c T locs cells slots) (hx : p.tables.exec = Jvm.exec) {pc : Nat} {L : Array Slot} {S : List Value} {dflt low high : Int} {offs : Array Int} {len : Nat} {i : Int32} (pc' : Nat) (hd : decode c.code pc = .ok (.tableswitch dflt low high offs, len)) (hout : i.toInt < low ∨ i.toInt > high) (ho : 0 ≤ (pc : Int) + dflt) (hp : ((pc : Int) + dflt).toNat = pc') (h : OwnGoW p e below s Z EL rc rs Q T (mkF m pc' L S)) : OwnGoW p e below s Z EL rc rs Q T (mkF m pc L (.int i :: S)) := by
  exact .st (fun _ => XS.tswOut (g := mkF m pc L (.int i :: S)) X.here hx rfl rfl hd rfl hout ho hp) h
theorem OwnGoW.icmpYes (X : Stand p l e R (s.setVm vm0) m args below meth c T locs cells slots) (hx : p.tables.exec = Jvm.exec) {pc : Nat} {L : Array Slot} {S : List Value} {cd : ClassFile.Cond} {o : Int} {x y : Int32} (pc' : Nat) (hd : decode c.code pc = .ok (.if_icmp cd o, 3)) (hc : if_icmp.holds cd x y = true) (ho : 0 ≤ (pc : Int) + o) (hp : ((pc : Int) + o).toNat = pc') (h : OwnGoW p e below s Z EL rc rs Q T (mkF m pc' L S)) : OwnGoW p e below s Z EL rc rs Q T (mkF m pc L (.int y :: .int x :: S)) := by
  exact .st (fun _ => XS.icmpYes (g := mkF m pc L (.int y :: .int x :: S)) X.here hx rfl rfl hd rfl hc ho hp) h
end OwnW
end Jvm.RoadKit
namespace Jvm.RoadKit
open Sem ClassFile Op Lib Jvm.Stand Jvm.Free Jvm.LawKit
/-- a String whose value is null is no booked constant -/
theorem own_safe_null {Z : State} {EL : List (String × Nat)} {vm : Vm} {h : Heap} {x : Addr} (hal : Z.vm.Alike vm) (E : Exa Z h x "java/lang/String") (Fv : Fld Z h x "java/lang/String" "value" "[B" .null) : Safe Z EL vm h x := fun B => by
  obtain ⟨p, -, u, a, -, q, -, F, rfl | rfl⟩ := B
  · obtain ⟨cell, cf, k, i, f, e1, e2, -, -, -, -, e7⟩ := Fv
    cases (show h[q.sa]? = some q.sC from F.ha).symm.trans e1
    obtain ⟨cS, ⟨⟨-, -, -, ⟨c1, k1, i1, f1, -⟩, -, -, -, v1, -⟩, -⟩, -⟩ := F
    obtain ⟨k3, e3, -⟩ := State.fieldFound?_setVm (s := { Z with heap := h }) hal (show ({ Z with heap := h } : State).fieldFound? _ _ _ = _ from e2)
    have e4 := (show (Wst Z vm h).fieldFound? _ _ _ = _ from e3).symm.trans f1
    simp only [Option.some.injEq, Prod.mk.injEq] at e4
    rw [← e4.2.2.2, e7] at v1
    simp at v1
  · obtain ⟨cell, k, e1, e2, e3, -, -⟩ := E
    cases (show h[q.sd]? = some q.SA from F.hd).symm.trans e1
    obtain ⟨cS, -, -, f, -⟩ := F
    have f := (hal.findClass "[B" _).symm.trans (show vm.findClass "[B" = _ from f)
    obtain ⟨k1, q1, q2⟩ := Vm.findClass_spec f
    obtain ⟨k2, q3, q4⟩ := Vm.findClass_spec e2
    cases q1.symm.trans q3
    exact absurd (q2.symm.trans q4) (by decide)
end Jvm.RoadKit
/- laws to paste: Road.backV (cut by pick.py; bodies as the Statement names them) -/
set_option maxRecDepth 65536
set_option maxHeartbeats 40000000
namespace Jvm.Pilot.@@N@@
namespace StrChars
open Jvm Sem ClassFile Op Lib Jvm.Stand Jvm.Free.XT Jvm.Free.ALB Jvm.Free.JM Jvm.Free
open Jvm.Lib.Cold (StaticIs)
/-- a char array whose places are chars -/
def Ch (a : Addr) (A : Cell) (U : State) : Prop := Arr .char a A U ∧ Typed .char A
theorem Ch.mv {a : Addr} {A : Cell} {U U' : State} (h : Ch a A U) (hal : U.vm.Alike U'.vm) (hh : U'.heap = U.heap) : Ch a A U' := ⟨h.1.mv hal hh, h.2⟩
theorem Ch.keep {a : Addr} {A : Cell} {U U' : State} (h : Ch a A U) (hal : U.vm.Alike U'.vm) (hk : U'.heap[a]? = some A) : Ch a A U' := ⟨h.1.keep hal hk, h.2⟩
/-- what place i of a char[]'s cell holds -/
def cv (A : Cell) (i : Nat) : Int32 := match A.slots[i]? with | some (.int x) => x | _ => 0
theorem Ch.get {a : Addr} {A : Cell} {U : State} (h : Ch a A U) {i : Nat} (hi : i < A.slots.size) : A.slots[i]? = some (.int (cv A i)) := by
  have e := Array.getElem?_eq_getElem hi
  have f := h.2 i _ e
  unfold cv; rw [e]
  generalize A.slots[i] = v at f
  cases v <;> simp [fits] at f ⊢
/-- the byte that i2b leaves of a char -/
def lo8 (x : Int32) : Int32 := x.toInt8.toInt32
theorem fits_lo8 (y : Int32) : fits .byte (.int (lo8 y)) = true := by
  have h1 := y.toInt8.le_toInt
  have h2 := y.toInt8.toInt_lt
  simp only [lo8, fits, Bool.and_eq_true, decide_eq_true_eq, Int32.le_iff_toInt_le, Int8.toInt_toInt32, show (-128 : Int32).toInt = -128 from by decide, show (127 : Int32).toInt = 127 from by decide]
  omega
/-- A' is A but that each place j of lo .. hi - 1 holds f j -/
def Laid (A A' : Cell) (lo hi : Nat) (f : Nat → Value) : Prop := A'.cls = A.cls ∧ A'.vm = A.vm ∧ A'.slots.size = A.slots.size ∧ ∀ i, A'.slots[i]? = if lo ≤ i ∧ i < hi then some (f i) else A.slots[i]?
theorem Laid.zero (A : Cell) (lo : Nat) (f : Nat → Value) : Laid A A lo (lo + 0) f := ⟨rfl, rfl, rfl, fun i => by rw [if_neg (by omega)]⟩
theorem Laid.step {A Ak : Cell} {lo k : Nat} {f : Nat → Value} {v : Value} (h : Laid A Ak lo k f) (hlo : lo ≤ k) (hk : k < Ak.slots.size) (hv : v = f k) : Laid A (Ak.setSlot k v) lo (k + 1) f := by
  refine ⟨h.1, h.2.1, by simpa [Cell.setSlot] using h.2.2.1, fun i => ?_⟩
  by_cases e : k = i
  · subst e; rw [Cell.slots_setSlot_self v hk, if_pos (by omega), hv]
  · rw [Cell.slots_setSlot_ne v e, h.2.2.2 i]
    by_cases q : lo ≤ i ∧ i < k
    · rw [if_pos q, if_pos (by omega)]
    · rw [if_neg q, if_neg (by omega)]
def U16 : String := "java/lang/StringUTF16"
namespace Cmp5
def yN : MethodName := ⟨"java/lang/StringUTF16", "compress", "([CI[BII)I"⟩
abbrev yB : ByteArray := jdk_52_method_21_code
theorem d0 : decode yB 0 = .ok (.iconst 0, 1) := by decide +kernel
theorem d1 : decode yB 1 = .ok (.istore 5, 2) := by decide +kernel
theorem d3 : decode yB 3 = .ok (.iload 5, 2) := by decide +kernel
theorem d5 : decode yB 5 = .ok (.iload 4, 2) := by decide +kernel
theorem d7 : decode yB 7 = .ok (.if_icmp (.ge) 37, 3) := by decide +kernel
theorem d10 : decode yB 10 = .ok (.aload_n 0, 1) := by decide +kernel
theorem d11 : decode yB 11 = .ok (.iload_n 1, 1) := by decide +kernel
theorem d12 : decode yB 12 = .ok (.caload, 1) := by decide +kernel
theorem d13 : decode yB 13 = .ok (.istore 6, 2) := by decide +kernel
theorem d15 : decode yB 15 = .ok (.iload 6, 2) := by decide +kernel
theorem d17 : decode yB 17 = .ok (.sipush 255, 3) := by decide +kernel
theorem d20 : decode yB 20 = .ok (.if_icmp (.le) 6, 3) := by decide +kernel
theorem d26 : decode yB 26 = .ok (.aload_n 2, 1) := by decide +kernel
theorem d27 : decode yB 27 = .ok (.iload_n 3, 1) := by decide +kernel
theorem d28 : decode yB 28 = .ok (.iload 6, 2) := by decide +kernel
theorem d30 : decode yB 30 = .ok (.i2b, 1) := by decide +kernel
theorem d31 : decode yB 31 = .ok (.bastore, 1) := by decide +kernel
theorem d32 : decode yB 32 = .ok (.iinc 1 1, 3) := by decide +kernel
theorem d35 : decode yB 35 = .ok (.iinc 3 1, 3) := by decide +kernel
theorem d38 : decode yB 38 = .ok (.iinc 5 1, 3) := by decide +kernel
theorem d41 : decode yB 41 = .ok (.goto (-38), 3) := by decide +kernel
theorem d44 : decode yB 44 = .ok (.iload 4, 2) := by decide +kernel
theorem d46 : decode yB 46 = .ok (.ireturn, 1) := by decide +kernel
def site : List Cond := []
def tab : Cond := tabOf yN yB 7 (some .int) site
def P (b : Addr) (A : Cell) (d : Addr) (B : Cell) (o q len : Nat) (args : Array Value) (s : State) : Prop := args = #[.ref b, .int (Int32.ofNat o), .ref d, .int (Int32.ofNat q), .int (Int32.ofNat len)] ∧ Ch b A s ∧ Arr .byte d B s ∧ b ≠ d ∧ o + len ≤ A.slots.size ∧ q + len ≤ B.slots.size ∧ ∀ i, i < len → ¬ 255 < cv A (o + i)
def E (b : Addr) (A : Cell) (d : Addr) (B : Cell) (o q len : Nat) (r : Option Value) (s u : State) : Prop := r = some (.int (Int32.ofNat len)) ∧ ∃ B', Put d B' s u ∧ Laid B B' q (q + len) (fun j => Value.int (lo8 (cv A (o + (j - q)))))
/-- no char of the range above 255: len; the places written hold each char's low byte -/
theorem law (l : Launch) (b : Addr) (A : Cell) (d : Addr) (B : Cell) (o q len : Nat) : Law l yN 5 5 0 0 yB 7 (some .int) site (P b A d B o q len) (E b A d B o q len) (copyLocs d q len) 0 0 := by
  refine Law.of_walk (plainFor_of_name (by decide +kernel)) (by decide +kernel) (by decide +kernel) (by decide) (fun _ _ h => by rw [h.1]; rfl) (fun _ U U' hal hh h => ⟨h.1, h.2.1.mv hal hh, h.2.2.1.mv hal hh, h.2.2.2⟩) (fun r U U' V V' h1 hal h2 h => ⟨h.1, h.2.elim fun B' q => ⟨B', q.1.mv h1 h2, q.2⟩⟩) ?_
  intro p e s m args below meth c s₁ X0 hexec hbytes hml hret hlk hnm hown hh0 W hP
  obtain ⟨rfl, hA, hB, hne, l1, l2, hp⟩ := hP
  have c1 : Steps p.tables e below (s₁.setTop (entryFrame m #[.ref b, .int (Int32.ofNat o), .ref d, .int (Int32.ofNat q), .int (Int32.ofNat len)] 7)) (s₁.setTop (mkF m 0 #[.val (.ref b), .val (.int (Int32.ofNat o)), .val (.ref d), .val (.int (Int32.ofNat q)), .val (.int (Int32.ofNat len)), .unset, .unset] [])) := entry rfl
  have hA0 := hA.1.mv X0.warmed.alike hh0
  have hB0 := hB.mv X0.warmed.alike hh0
  have a31 := hA.1.2.2.2
  have c2 : Steps p.tables e below (s₁.setTop (entryFrame m #[.ref b, .int (Int32.ofNat o), .ref d, .int (Int32.ofNat q), .int (Int32.ofNat len)] 7)) (s₁.setTop (mkF m 3 #[.val (.ref b), .val (.int (Int32.ofNat o)), .val (.ref d), .val (.int (Int32.ofNat q)), .val (.int (Int32.ofNat len)), .val (.int 0), .unset] [])) := c1.trans (by
    refine iconstV X0.here hexec rfl 0 (hb hbytes d0) (by decide) ?_
    refine XS.istore X0.here hexec rfl (hb hbytes d1) rfl rfl ?_
    exact Steps.refl _)
  have loop : ∀ (r i : Nat), i + r = len → ∀ (z : Slot), (z = .unset ∨ ∃ w, z = .val w ∧ w.category = 1) → ∀ (Tl : State) (Bk : Cell), Stand p l e { frames := 0, locals := 0, cells := 0, slots := 0 } s m #[.ref b, .int (Int32.ofNat o), .ref d, .int (Int32.ofNat q), .int (Int32.ofNat len)] below meth c Tl ([] ++ copyLocs d q i) 0 0 → Put d Bk s₁ Tl → Laid B Bk q (q + i) (fun j => Value.int (lo8 (cv A (o + (j - q))))) →
      Steps p.tables e below (s₁.setTop (entryFrame m #[.ref b, .int (Int32.ofNat o), .ref d, .int (Int32.ofNat q), .int (Int32.ofNat len)] 7)) (Tl.setTop (mkF m 3 #[.val (.ref b), .val (.int (Int32.ofNat (o + i))), .val (.ref d), .val (.int (Int32.ofNat (q + i))), .val (.int (Int32.ofNat len)), .val (.int (Int32.ofNat i)), z] [])) → ∃ (T' : State) (B' : Cell) (z' : Slot), Stand p l e { frames := 0, locals := 0, cells := 0, slots := 0 } s m #[.ref b, .int (Int32.ofNat o), .ref d, .int (Int32.ofNat q), .int (Int32.ofNat len)] below meth c T' ([] ++ copyLocs d q len) 0 0 ∧ Put d B' s₁ T' ∧ Laid B B' q (q + len) (fun j => Value.int (lo8 (cv A (o + (j - q))))) ∧
      Steps p.tables e below (s₁.setTop (entryFrame m #[.ref b, .int (Int32.ofNat o), .ref d, .int (Int32.ofNat q), .int (Int32.ofNat len)] 7)) (T'.setTop (mkF m 3 #[.val (.ref b), .val (.int (Int32.ofNat (o + len))), .val (.ref d), .val (.int (Int32.ofNat (q + len))), .val (.int (Int32.ofNat len)), .val (.int (Int32.ofNat len)), z'] [])) := by
    intro r
    induction r with
    | zero =>
      intro i hi z hz Tl Bk Xl pl fl cl
      have hil : i = len := by omega
      rw [hil] at Xl fl cl
      exact ⟨Tl, Bk, z, Xl, pl, fl, cl⟩
    | succ r ih =>
      intro i hi z hz Tl Bk Xl pl fl cl
      have all := X0.warmed.alike.symm.trans Xl.warmed.alike
      have hAl := hA0.keep all (pl.other hne hA0.1)
      have hBk := hB0.like all pl.1 fl.1 fl.2.1 fl.2.2.1
      have hlt : q + i < Bk.slots.size := by rw [fl.2.2.1]; omega
      have c3 : Steps p.tables e below (s₁.setTop (entryFrame m #[.ref b, .int (Int32.ofNat o), .ref d, .int (Int32.ofNat q), .int (Int32.ofNat len)] 7)) (Tl.setTop (mkF m 12 #[.val (.ref b), .val (.int (Int32.ofNat (o + i))), .val (.ref d), .val (.int (Int32.ofNat (q + i))), .val (.int (Int32.ofNat len)), .val (.int (Int32.ofNat i)), z] [.int (Int32.ofNat (o + i)), .ref b])) := cl.trans (by
        refine XS.iload Xl.here hexec rfl (hb hbytes d3) rfl ?_
        refine XS.iload Xl.here hexec rfl (hb hbytes d5) rfl ?_
        refine XS.icmpNo Xl.here hexec rfl (hb hbytes d7) rfl (ii_ge_f (lt32 (by omega) (by omega))) ?_
        refine XS.aloadN Xl.here hexec rfl (hb hbytes d10) rfl rfl ?_
        refine XS.iloadN Xl.here hexec rfl (hb hbytes d11) rfl ?_
        exact Steps.refl _)
      have c4 : Steps p.tables e below (s₁.setTop (entryFrame m #[.ref b, .int (Int32.ofNat o), .ref d, .int (Int32.ofNat q), .int (Int32.ofNat len)] 7)) (Tl.setTop (mkF m 13 #[.val (.ref b), .val (.int (Int32.ofNat (o + i))), .val (.ref d), .val (.int (Int32.ofNat (q + i))), .val (.int (Int32.ofNat len)), .val (.int (Int32.ofNat i)), z] [.int (cv A (o + i))])) := c3.trans (by
        refine Xl.aget hexec hAl rfl (hA.get (i := o + i) (by omega)) rfl rfl (hb hbytes d12) ?_
        exact Steps.refl _)
      have c5 : Steps p.tables e below (s₁.setTop (entryFrame m #[.ref b, .int (Int32.ofNat o), .ref d, .int (Int32.ofNat q), .int (Int32.ofNat len)] 7)) (Tl.setTop (mkF m 15 #[.val (.ref b), .val (.int (Int32.ofNat (o + i))), .val (.ref d), .val (.int (Int32.ofNat (q + i))), .val (.int (Int32.ofNat len)), .val (.int (Int32.ofNat i)), .val (.int (cv A (o + i)))] [])) := c4.trans (by
        refine XS.istoreS Xl.here hexec rfl (hb hbytes d13) rfl rfl hz ?_
        exact Steps.refl _)
      have c6 : Steps p.tables e below (s₁.setTop (entryFrame m #[.ref b, .int (Int32.ofNat o), .ref d, .int (Int32.ofNat q), .int (Int32.ofNat len)] 7)) (Tl.setTop (mkF m 31 #[.val (.ref b), .val (.int (Int32.ofNat (o + i))), .val (.ref d), .val (.int (Int32.ofNat (q + i))), .val (.int (Int32.ofNat len)), .val (.int (Int32.ofNat i)), .val (.int (cv A (o + i)))] [.int (lo8 (cv A (o + i))), .int (Int32.ofNat (q + i)), .ref d])) := c5.trans (by
        refine XS.iload Xl.here hexec rfl (hb hbytes d15) rfl ?_
        refine sipushV Xl.here hexec rfl 255 (hb hbytes d17) (by decide) ?_
        refine XS.icmpYes Xl.here hexec rfl (pc0 := 20) rfl (hb hbytes d20) rfl (ii_le_t (hp i (by omega))) (by decide) rfl ?_
        refine XS.aloadN Xl.here hexec rfl (hb hbytes d26) rfl rfl ?_
        refine XS.iloadN Xl.here hexec rfl (hb hbytes d27) rfl ?_
        refine XS.iload Xl.here hexec rfl (hb hbytes d28) rfl ?_
        refine i2b Xl.here hexec rfl (hb hbytes d30) rfl ?_
        exact Steps.refl _)
      obtain ⟨T7, X7, p7, st7⟩ := Xl.aput hexec hBk rfl hlt rfl (fits_lo8 (cv A (o + i))) (g := (mkF m 31 #[.val (.ref b), .val (.int (Int32.ofNat (o + i))), .val (.ref d), .val (.int (Int32.ofNat (q + i))), .val (.int (Int32.ofNat len)), .val (.int (Int32.ofNat i)), .val (.int (cv A (o + i)))] [.int (lo8 (cv A (o + i))), .int (Int32.ofNat (q + i)), .ref d])) rfl (rest := []) rfl (hb hbytes d31)
      have c8 : Steps p.tables e below (s₁.setTop (entryFrame m #[.ref b, .int (Int32.ofNat o), .ref d, .int (Int32.ofNat q), .int (Int32.ofNat len)] 7)) (T7.setTop (mkF m 32 #[.val (.ref b), .val (.int (Int32.ofNat (o + i))), .val (.ref d), .val (.int (Int32.ofNat (q + i))), .val (.int (Int32.ofNat len)), .val (.int (Int32.ofNat i)), .val (.int (cv A (o + i)))] [])) := c6.trans (st7 _ (Steps.refl _))
      have c9 : Steps p.tables e below (s₁.setTop (entryFrame m #[.ref b, .int (Int32.ofNat o), .ref d, .int (Int32.ofNat q), .int (Int32.ofNat len)] 7)) (T7.setTop (mkF m 3 #[.val (.ref b), .val (.int (Int32.ofNat (o + i) + 1)), .val (.ref d), .val (.int (Int32.ofNat (q + i) + 1)), .val (.int (Int32.ofNat len)), .val (.int (Int32.ofNat i + 1)), .val (.int (cv A (o + i)))] [])) := c8.trans (by
        refine iincV X7.here hexec rfl 1 (hb hbytes d32) (by decide) rfl rfl ?_
        refine iincV X7.here hexec rfl 1 (hb hbytes d35) (by decide) rfl rfl ?_
        refine iincV X7.here hexec rfl 1 (hb hbytes d38) (by decide) rfl rfl ?_
        refine XS.goto X7.here hexec rfl (pc0 := 41) rfl (hb hbytes d41) (by decide) rfl ?_
        exact Steps.refl _)
      have c10 : Steps p.tables e below (s₁.setTop (entryFrame m #[.ref b, .int (Int32.ofNat o), .ref d, .int (Int32.ofNat q), .int (Int32.ofNat len)] 7)) (T7.setTop (mkF m 3 #[.val (.ref b), .val (.int (Int32.ofNat (o + (i + 1)))), .val (.ref d), .val (.int (Int32.ofNat (q + (i + 1)))), .val (.int (Int32.ofNat len)), .val (.int (Int32.ofNat (i + 1))), .val (.int (cv A (o + i)))] [])) := by
        have := c9
        rw [succ32, succ32, succ32] at this
        exact this
      exact ih (i + 1) (by omega) _ (Or.inr ⟨_, rfl, rfl⟩) T7 _ (by rw [copyLocs_step, ← List.append_assoc]; exact X7) (pl.trans p7) (fl.step (by omega) hlt (by simp)) c10
  obtain ⟨T9, B9, z9, X9, p9, f9, g9⟩ := loop len 0 (by omega) .unset (Or.inl rfl) s₁ B (by simpa [copyLocs] using X0) ⟨hB0.1, fun _ _ => rfl, rfl⟩ (Laid.zero _ _ _) c2
  have c11 : Steps p.tables e below (s₁.setTop (entryFrame m #[.ref b, .int (Int32.ofNat o), .ref d, .int (Int32.ofNat q), .int (Int32.ofNat len)] 7)) (T9.setTop (mkF m 46 #[.val (.ref b), .val (.int (Int32.ofNat (o + len))), .val (.ref d), .val (.int (Int32.ofNat (q + len))), .val (.int (Int32.ofNat len)), .val (.int (Int32.ofNat len)), z9] [.int (Int32.ofNat len)])) := g9.trans (by
    refine XS.iload X9.here hexec rfl (hb hbytes d3) rfl ?_
    refine XS.iload X9.here hexec rfl (hb hbytes d5) rfl ?_
    refine XS.icmpYes X9.here hexec rfl (pc0 := 7) rfl (hb hbytes d7) rfl (ii_ge_t (nlt32 (by omega) (Nat.le_refl _))) (by decide) rfl ?_
    refine XS.iload X9.here hexec rfl (hb hbytes d44) rfl ?_
    exact Steps.refl _)
  exact ⟨T9, some (.int (Int32.ofNat len)), _, _, _, X9, by simp, rfl, rfl, (fun h => by cases h), ⟨rfl, B9, p9.from hh0, f9⟩, fun fs hl => c11.trans (X9.ireturnOut hexec hret rfl (Or.inl rfl) (hb hbytes d46) hl)⟩
end Cmp5
namespace Cmp3
def yN : MethodName := ⟨"java/lang/StringUTF16", "compress", "([CII)[B"⟩
abbrev yB : ByteArray := jdk_52_method_16_code
theorem d0 : decode yB 0 = .ok (.iload_n 2, 1) := by decide +kernel
theorem d1 : decode yB 1 = .ok (.newarray .byte, 2) := by decide +kernel
theorem d3 : decode yB 3 = .ok (.astore_n 3, 1) := by decide +kernel
theorem d4 : decode yB 4 = .ok (.aload_n 0, 1) := by decide +kernel
theorem d5 : decode yB 5 = .ok (.iload_n 1, 1) := by decide +kernel
theorem d6 : decode yB 6 = .ok (.aload_n 3, 1) := by decide +kernel
theorem d7 : decode yB 7 = .ok (.iconst 0, 1) := by decide +kernel
theorem d8 : decode yB 8 = .ok (.iload_n 2, 1) := by decide +kernel
theorem d9 : decode yB 9 = .ok (.invokestatic 115, 3) := by decide +kernel
theorem d12 : decode yB 12 = .ok (.istore 4, 2) := by decide +kernel
theorem d14 : decode yB 14 = .ok (.iload 4, 2) := by decide +kernel
theorem d16 : decode yB 16 = .ok (.iload_n 2, 1) := by decide +kernel
theorem d17 : decode yB 17 = .ok (.if_icmp (.eq) 40, 3) := by decide +kernel
theorem d57 : decode yB 57 = .ok (.aload_n 3, 1) := by decide +kernel
theorem d58 : decode yB 58 = .ok (.areturn, 1) := by decide +kernel
def site : List Cond := [.arrayClass .byte, Cmp5.tab] ++ staticW U16 115 Cmp5.yN
def tab : Cond := tabOf yN yB 6 (some (.array .byte)) site
def P (b : Addr) (A : Cell) (o len : Nat) (args : Array Value) (s : State) : Prop := args = #[.ref b, .int (Int32.ofNat o), .int (Int32.ofNat len)] ∧ Ch b A s ∧ o + len ≤ A.slots.size ∧ len ≤ 536870912 ∧ ∀ i, i < len → ¬ 255 < cv A (o + i)
def E (b : Addr) (A : Cell) (o len : Nat) (r : Option Value) (s u : State) : Prop := NewArr .byte "[B" len (fun j => .int (lo8 (cv A (o + j)))) r s u ∧ u.heap.size = s.heap.size + 1
/-- no char of the range above 255: a new byte[] of their low bytes -/
theorem law (l : Launch) (b : Addr) (A : Cell) (o len : Nat) : Law l yN 3 3 1 18 yB 6 (some (.array .byte)) site (P b A o len) (E b A o len) [] 1 len := by
  refine Law.of_walk (plainFor_of_name (by decide +kernel)) (by decide +kernel) (by decide +kernel) (by decide) (fun _ _ h => by rw [h.1]; rfl) (fun _ U U' hal hh h => ⟨h.1, h.2.1.mv hal hh, h.2.2⟩) (fun r U U' V V' h1 hal h2 h => ⟨NewArr.mv r U U' V V' h1 hal h2 h.1, by rw [h1, h2]; exact h.2⟩) ?_
  intro p e s m args below meth c s₁ X0 hexec hbytes hml hret hlk hnm hown hh0 W hP
  obtain ⟨rfl, hA, l1, l2, hp⟩ := hP
  have a31 := hA.1.2.2.2
  have c1 : Steps p.tables e below (s₁.setTop (entryFrame m #[.ref b, .int (Int32.ofNat o), .int (Int32.ofNat len)] 6)) (s₁.setTop (mkF m 0 #[.val (.ref b), .val (.int (Int32.ofNat o)), .val (.int (Int32.ofNat len)), .unset, .unset, .unset] [])) := entry rfl
  have c2 : Steps p.tables e below (s₁.setTop (entryFrame m #[.ref b, .int (Int32.ofNat o), .int (Int32.ofNat len)] 6)) (s₁.setTop (mkF m 1 #[.val (.ref b), .val (.int (Int32.ofNat o)), .val (.int (Int32.ofNat len)), .unset, .unset, .unset] [.int (Int32.ofNat len)])) := c1.trans (by
    refine XS.iloadN X0.here hexec rfl (hb hbytes d0) rfl ?_
    exact Steps.refl _)
  obtain ⟨T3, B3, X3, ba3, bs3, bv3, bh3, bf3, st3⟩ := X0.anew hexec (atype := .byte) (wk W (.arrayClass .byte)) rfl (by show len * 1 ≤ _; omega) (by omega) (g := (mkF m 1 #[.val (.ref b), .val (.int (Int32.ofNat o)), .val (.int (Int32.ofNat len)), .unset, .unset, .unset] [.int (Int32.ofNat len)])) rfl (hb hbytes d1) (rest := []) rfl (Nat.le_refl _) (by show 0 + len ≤ len; omega)
  rw [hh0] at ba3 st3
  have kp3 : XT.Kept s T3 := (XT.Kept.of_eq hh0).push bh3
  have hA3 := hA.keep X3.warmed.alike (kp3 _ _ hA.1.1)
  have hne : b ≠ s.heap.size := hA.1.ne
  have c4 : Steps p.tables e below (s₁.setTop (entryFrame m #[.ref b, .int (Int32.ofNat o), .int (Int32.ofNat len)] 6)) (T3.setTop (mkF m 3 #[.val (.ref b), .val (.int (Int32.ofNat o)), .val (.int (Int32.ofNat len)), .unset, .unset, .unset] [.ref s.heap.size])) := c2.trans (st3 _ (Steps.refl _))
  have c5 : Steps p.tables e below (s₁.setTop (entryFrame m #[.ref b, .int (Int32.ofNat o), .int (Int32.ofNat len)] 6)) (T3.setTop (mkF m 9 #[.val (.ref b), .val (.int (Int32.ofNat o)), .val (.int (Int32.ofNat len)), .val (.ref s.heap.size), .unset, .unset] [.int (Int32.ofNat len), .int 0, .ref s.heap.size, .int (Int32.ofNat o), .ref b])) := c4.trans (by
    refine XS.astoreN X3.here hexec rfl (hb hbytes d3) rfl rfl rfl ?_
    refine XS.aloadN X3.here hexec rfl (hb hbytes d4) rfl rfl ?_
    refine XS.iloadN X3.here hexec rfl (hb hbytes d5) rfl ?_
    refine XS.aloadN X3.here hexec rfl (hb hbytes d6) rfl rfl ?_
    refine iconstV X3.here hexec rfl 0 (hb hbytes d7) (by decide) ?_
    refine XS.iloadN X3.here hexec rfl (hb hbytes d8) rfl ?_
    exact Steps.refl _)
  obtain ⟨v6, T6, X6, E6, g6⟩ := X3.callS hexec (Cmp5.law l b A s.heap.size B3 o 0 len) hown (wks W (staticW U16 115 Cmp5.yN)) (wk W Cmp5.tab) (W := 0) (Nat.le_of_ble_eq_true rfl) (Nat.le_of_ble_eq_true rfl) (Nat.le_refl _) (by show 0 + len + 0 ≤ len; omega) (g := (mkF m 9 #[.val (.ref b), .val (.int (Int32.ofNat o)), .val (.int (Int32.ofNat len)), .val (.ref s.heap.size), .unset, .unset] [.int (Int32.ofNat len), .int (Int32.ofNat 0), .ref s.heap.size, .int (Int32.ofNat o), .ref b])) rfl (by rw [hml]; rfl) c5 (argsL := [.ref b, .int (Int32.ofNat o), .ref s.heap.size, .int (Int32.ofNat 0), .int (Int32.ofNat len)]) (rest := []) rfl rfl (by show 2 * 0 + 0 ≤ _; decide) (hb hbytes d9) (⟨rfl, hA3, ba3, hne, l1, by rw [bs3]; simp, hp⟩)
  obtain ⟨rfl, B6, p6, f6⟩ := E6
  have c7 : Steps p.tables e below (s₁.setTop (entryFrame m #[.ref b, .int (Int32.ofNat o), .int (Int32.ofNat len)] 6)) (T6.setTop (mkF m 12 #[.val (.ref b), .val (.int (Int32.ofNat o)), .val (.int (Int32.ofNat len)), .val (.ref s.heap.size), .unset, .unset] [.int (Int32.ofNat len)])) := g6
  have c8 : Steps p.tables e below (s₁.setTop (entryFrame m #[.ref b, .int (Int32.ofNat o), .int (Int32.ofNat len)] 6)) (T6.setTop (mkF m 58 #[.val (.ref b), .val (.int (Int32.ofNat o)), .val (.int (Int32.ofNat len)), .val (.ref s.heap.size), .val (.int (Int32.ofNat len)), .unset] [.ref s.heap.size])) := c7.trans (by
    refine XS.istore X6.here hexec rfl (hb hbytes d12) rfl rfl ?_
    refine XS.iload X6.here hexec rfl (hb hbytes d14) rfl ?_
    refine XS.iloadN X6.here hexec rfl (hb hbytes d16) rfl ?_
    refine XS.icmpYes X6.here hexec rfl (pc0 := 17) rfl (hb hbytes d17) rfl (ii_eq_t rfl) (by decide) rfl ?_
    refine XS.aloadN X6.here hexec rfl (hb hbytes d57) rfl rfl ?_
    exact Steps.refl _)
  have X8 := X6.wide (L' := []) (cells' := 1) (slots' := len) (fun x hx hlt => by
    simp only [List.nil_append, copyLocs, List.mem_map, List.mem_range] at hx
    obtain ⟨i, -, rfl⟩ := hx
    exact absurd hlt (Nat.lt_irrefl _)) (Nat.le_refl _) (by omega)
  exact ⟨T6, some (.ref s.heap.size), _, _, _, X8, rfl, rfl, rfl, (fun h => by cases h), ⟨⟨rfl, B6, ba3.like (X3.warmed.alike.symm.trans X6.warmed.alike) p6.1 f6.1 f6.2.1 f6.2.2.1, f6.2.1.trans bv3, by rw [X6.warmed.alike.findClass, f6.1]; exact bf3, by rw [f6.2.2.1, bs3]; simp, fun j hj => by rw [f6.2.2.2 j, if_pos (by omega)]; rfl, kp3.put p6 (Nat.le_refl _)⟩, by rw [p6.2.2, bh3, hh0]; simp⟩, fun fs hl => c8.trans (X8.areturnOut hexec rfl hret rfl (hb hbytes d58) hl)⟩
end Cmp3
namespace CodL
def yN : MethodName := ⟨"java/lang/StringUTF16", "coderFromArrayLen", "([BI)B"⟩
abbrev yB : ByteArray := jdk_52_method_15_code
theorem d0 : decode yB 0 = .ok (.iload_n 1, 1) := by decide +kernel
theorem d1 : decode yB 1 = .ok (.aload_n 0, 1) := by decide +kernel
theorem d2 : decode yB 2 = .ok (.arraylength, 1) := by decide +kernel
theorem d3 : decode yB 3 = .ok (.isub, 1) := by decide +kernel
theorem d4 : decode yB 4 = .ok (.bipush 31, 2) := by decide +kernel
theorem d6 : decode yB 6 = .ok (.iushr, 1) := by decide +kernel
theorem d7 : decode yB 7 = .ok (.i2b, 1) := by decide +kernel
theorem d8 : decode yB 8 = .ok (.ireturn, 1) := by decide +kernel
def site : List Cond := []
def tab : Cond := tabOf yN yB 2 (some .byte) site
def P (d : Addr) (B : Cell) (args : Array Value) (s : State) : Prop := args = #[.ref d, .int (Int32.ofNat B.slots.size)] ∧ Arr .byte d B s
def E (r : Option Value) (s u : State) : Prop := XT.PureE (some (.int 0)) r s u
/-- an array as long as the number of chars: LATIN1 -/
theorem law (l : Launch) (d : Addr) (B : Cell) : Law l yN 2 2 0 0 yB 2 (some .byte) site (P d B) E [] 0 0 := by
  refine Law.of_walk (plainFor_of_name (by decide +kernel)) (by decide +kernel) (by decide +kernel) (by decide) (fun _ _ h => by rw [h.1]; rfl) (fun _ U U' hal hh h => ⟨h.1, h.2.mv hal hh⟩) (fun r U U' V V' h1 hal h2 h => XT.PureE.mv r U U' V V' h1 hal h2 h) ?_
  intro p e s m args below meth c s₁ X0 hexec hbytes hml hret hlk hnm hown hh0 W hP
  obtain ⟨rfl, hB⟩ := hP
  have hB0 := hB.mv X0.warmed.alike hh0
  have c1 : Steps p.tables e below (s₁.setTop (entryFrame m #[.ref d, .int (Int32.ofNat B.slots.size)] 2)) (s₁.setTop (mkF m 0 #[.val (.ref d), .val (.int (Int32.ofNat B.slots.size))] [])) := entry rfl
  have c2 : Steps p.tables e below (s₁.setTop (entryFrame m #[.ref d, .int (Int32.ofNat B.slots.size)] 2)) (s₁.setTop (mkF m 2 #[.val (.ref d), .val (.int (Int32.ofNat B.slots.size))] [.ref d, .int (Int32.ofNat B.slots.size)])) := c1.trans (by
    refine XS.iloadN X0.here hexec rfl (hb hbytes d0) rfl ?_
    refine XS.aloadN X0.here hexec rfl (hb hbytes d1) rfl rfl ?_
    exact Steps.refl _)
  have c3 : Steps p.tables e below (s₁.setTop (entryFrame m #[.ref d, .int (Int32.ofNat B.slots.size)] 2)) (s₁.setTop (mkF m 8 #[.val (.ref d), .val (.int (Int32.ofNat B.slots.size))] [.int (lo8 (ushr (Int32.ofNat B.slots.size - Int32.ofNat B.slots.size) 31))])) := c2.trans (by
    refine X0.alen hexec hB0 rfl rfl (hb hbytes d2) ?_
    refine XS.isub X0.here hexec rfl (hb hbytes d3) rfl ?_
    refine bipushV X0.here hexec rfl 31 (hb hbytes d4) (by decide) ?_
    refine iushr X0.here hexec rfl (hb hbytes d6) rfl ?_
    refine i2b X0.here hexec rfl (hb hbytes d7) rfl ?_
    exact Steps.refl _)
  have e0 : lo8 (ushr (Int32.ofNat B.slots.size - Int32.ofNat B.slots.size) 31) = 0 := by rw [Int32.sub_self]; decide
  rw [e0] at c3
  exact ⟨s₁, some (.int 0), _, _, _, X0, rfl, rfl, rfl, (fun h => by cases h), ⟨rfl, hh0⟩, fun fs hl => c3.trans (X0.ireturnOut hexec hret rfl (Or.inr (Or.inr (Or.inl rfl))) (hb hbytes d8) hl)⟩
end CodL
/-- the String at a is Latin-1 over a new byte[] (the heap's one new cell): the low bytes of the len chars of A from o on; every cell but a is kept -/
def Got (a : Addr) (D : Cell) (fV fC : Field) (A : Cell) (o len : Nat) (r : Option Value) (s u : State) : Prop := r = none ∧ ∃ D' V : Cell, Blank "java/lang/String" a D' u ∧ Same D D' [fV.slot, fC.slot] ∧ D'.slots[fV.slot]? = some (.ref s.heap.size) ∧ D'.slots[fC.slot]? = some (.int 0) ∧ Arr .byte s.heap.size V u ∧ V.vm = .none ∧ u.vm.findClass "[B" = some V.cls ∧ V.slots.size = len ∧ (∀ j, j < len → V.slots[j]? = some (.int (lo8 (cv A (o + j))))) ∧ (∀ (y : Addr) (c : Cell), y ≠ a → s.heap[y]? = some c → u.heap[y]? = some c) ∧ u.heap.size = s.heap.size + 1
theorem Got.mv {a : Addr} {D A : Cell} {fV fC : Field} {o len : Nat} : ∀ r (U U' V V' : State), U'.heap = U.heap → V.vm.Alike V'.vm → V'.heap = V.heap → Got a D fV fC A o len r U V → Got a D fV fC A o len r U' V' :=
  fun r U U' V V' h1 hal h2 ⟨e0, D', X, a1, a2, a3, a4, a5, a6, a7, a8, a9, a10, a11⟩ => ⟨e0, D', X, a1.mv hal h2, a2, by rw [h1]; exact a3, a4, by rw [h1]; exact a5.mv hal h2, a6, by rw [hal.findClass]; exact a7, a8, a9, by rw [h1, h2]; exact a10, by rw [h1, h2]; exact a11⟩
namespace New4
def yN : MethodName := ⟨"java/lang/String", "<init>", "([CIILjava/lang/Void;)V"⟩
abbrev yB : ByteArray := jdk_42_method_149_code
theorem d0 : decode yB 0 = .ok (.aload_n 0, 1) := by decide +kernel
theorem d1 : decode yB 1 = .ok (.invokespecial 1, 3) := by decide +kernel
theorem d4 : decode yB 4 = .ok (.iload_n 3, 1) := by decide +kernel
theorem d5 : decode yB 5 = .ok (.ifCond (.ne) 22, 3) := by decide +kernel
theorem d27 : decode yB 27 = .ok (.getstatic 38, 3) := by decide +kernel
theorem d30 : decode yB 30 = .ok (.ifCond (.eq) 28, 3) := by decide +kernel
theorem d33 : decode yB 33 = .ok (.aload_n 1, 1) := by decide +kernel
theorem d34 : decode yB 34 = .ok (.iload_n 2, 1) := by decide +kernel
theorem d35 : decode yB 35 = .ok (.iload_n 3, 1) := by decide +kernel
theorem d36 : decode yB 36 = .ok (.invokestatic 177, 3) := by decide +kernel
theorem d39 : decode yB 39 = .ok (.astore 5, 2) := by decide +kernel
theorem d41 : decode yB 41 = .ok (.aload_n 0, 1) := by decide +kernel
theorem d42 : decode yB 42 = .ok (.aload 5, 2) := by decide +kernel
theorem d44 : decode yB 44 = .ok (.iload_n 3, 1) := by decide +kernel
theorem d45 : decode yB 45 = .ok (.invokestatic 47, 3) := by decide +kernel
theorem d48 : decode yB 48 = .ok (.putfield 15, 3) := by decide +kernel
theorem d51 : decode yB 51 = .ok (.aload_n 0, 1) := by decide +kernel
theorem d52 : decode yB 52 = .ok (.aload 5, 2) := by decide +kernel
theorem d54 : decode yB 54 = .ok (.putfield 9, 3) := by decide +kernel
theorem d57 : decode yB 57 = .ok (.return_, 1) := by decide +kernel
def site : List Cond := [.fieldLink "java/lang/String" 38 "java/lang/String" "COMPACT_STRINGS" "Z", Cmp3.tab, CodL.tab, .laysFinal "java/lang/String" "java/lang/String" "value" "[B", .fieldLink "java/lang/String" 9 "java/lang/String" "value" "[B", .laysFinal "java/lang/String" "java/lang/String" "coder" "B", .fieldLink "java/lang/String" 15 "java/lang/String" "coder" "B"] ++ objW "java/lang/String" 1 ++ staticW "java/lang/String" 177 Cmp3.yN ++ staticW "java/lang/String" 47 CodL.yN
def tab : Cond := tabOf yN yB 6 none site
def P (a : Addr) (D : Cell) (fV fC : Field) (b : Addr) (A : Cell) (z : Int32) (o len : Nat) (args : Array Value) (s : State) : Prop := args = #[.ref a, .ref b, .int (Int32.ofNat o), .int (Int32.ofNat len), .null] ∧ Blank "java/lang/String" a D s ∧ Found "java/lang/String" "value" "[B" fV s ∧ Found "java/lang/String" "coder" "B" fC s ∧ Ch b A s ∧ StaticIs s "java/lang/String" "COMPACT_STRINGS" "Z" (.int z) ∧ ¬ z = 0 ∧ 0 < len ∧ o + len ≤ A.slots.size ∧ len ≤ 536870912 ∧ ∀ i, i < len → ¬ 255 < cv A (o + i)
def E (a : Addr) (D : Cell) (fV fC : Field) (A : Cell) (o len : Nat) (r : Option Value) (s u : State) : Prop := Got a D fV fC A o len r s u
/-- len > 0, no char of the range above 255: a Latin-1 String of their low bytes -/
theorem law (l : Launch) (a : Addr) (D : Cell) (fV fC : Field) (b : Addr) (A : Cell) (z : Int32) (o len : Nat) : Law l yN 5 4 2 35 yB 6 none site (P a D fV fC b A z o len) (E a D fV fC A o len) [⟨a, fC.slot⟩, ⟨a, fV.slot⟩] 1 len := by
  refine Law.of_walk (plainFor_of_name (by decide +kernel)) (by decide +kernel) (by decide +kernel) (by decide) (fun _ _ h => by rw [h.1]; rfl) (fun _ U U' hal hh h => ⟨h.1, h.2.1.mv hal hh, h.2.2.1.al hal, h.2.2.2.1.al hal, h.2.2.2.2.1.mv hal hh, h.2.2.2.2.2.1.there hal hh, h.2.2.2.2.2.2⟩) (fun r U U' V V' h1 hal h2 h => Got.mv r U U' V V' h1 hal h2 h) ?_
  intro p e s m args below meth c s₁ X0 hexec hbytes hml hret hlk hnm hown hh0 W hP
  obtain ⟨rfl, hB, f1, f2, hA, s1, hz, l0, l1, l2, hp⟩ := hP
  have a31 := hA.1.2.2.2
  have c1 : Steps p.tables e below (s₁.setTop (entryFrame m #[.ref a, .ref b, .int (Int32.ofNat o), .int (Int32.ofNat len), .null] 6)) (s₁.setTop (mkF m 0 #[.val (.ref a), .val (.ref b), .val (.int (Int32.ofNat o)), .val (.int (Int32.ofNat len)), .val .null, .unset] [])) := entry rfl
  have c2 : Steps p.tables e below (s₁.setTop (entryFrame m #[.ref a, .ref b, .int (Int32.ofNat o), .int (Int32.ofNat len), .null] 6)) (s₁.setTop (mkF m 1 #[.val (.ref a), .val (.ref b), .val (.int (Int32.ofNat o)), .val (.int (Int32.ofNat len)), .val .null, .unset] [.ref a])) := c1.trans (by
    refine XS.aloadN X0.here hexec rfl (hb hbytes d0) rfl rfl ?_
    exact Steps.refl _)
  obtain ⟨T3, X3, q3, st3⟩ := X0.oinit hexec hown (wks W (objW "java/lang/String" 1)) (g := (mkF m 1 #[.val (.ref a), .val (.ref b), .val (.int (Int32.ofNat o)), .val (.int (Int32.ofNat len)), .val .null, .unset] [.ref a])) rfl (by rw [hml]; rfl) (rest := []) rfl (hb hbytes d1) (W := 0) (by show 2 * 0 + 0 ≤ _; decide) (Nat.le_of_ble_eq_true rfl) (Nat.le_of_ble_eq_true rfl)
  have hh3 := q3.trans hh0
  have c4 : Steps p.tables e below (s₁.setTop (entryFrame m #[.ref a, .ref b, .int (Int32.ofNat o), .int (Int32.ofNat len), .null] 6)) (T3.setTop (mkF m 27 #[.val (.ref a), .val (.ref b), .val (.int (Int32.ofNat o)), .val (.int (Int32.ofNat len)), .val .null, .unset] [])) := (c2.trans (st3 _ (Steps.refl _))).trans (by
    refine XS.iloadN X3.here hexec rfl (hb hbytes d4) rfl ?_
    refine XS.ifYes X3.here hexec rfl (pc0 := 5) rfl (hb hbytes d5) rfl (i0_ne_t (nz32 (by omega) l0)) (by decide) rfl ?_
    exact Steps.refl _)
  obtain ⟨T5, X5, q5, st5⟩ := X3.sget hexec hown (wk W (.fieldLink "java/lang/String" 38 "java/lang/String" "COMPACT_STRINGS" "Z")) s1 (fun _ _ h => by rw [hh3]; exact h) (g := (mkF m 27 #[.val (.ref a), .val (.ref b), .val (.int (Int32.ofNat o)), .val (.int (Int32.ofNat len)), .val .null, .unset] [])) rfl (hb hbytes d27)
  have hh5 := q5.trans hh3
  have c6 : Steps p.tables e below (s₁.setTop (entryFrame m #[.ref a, .ref b, .int (Int32.ofNat o), .int (Int32.ofNat len), .null] 6)) (T5.setTop (mkF m 30 #[.val (.ref a), .val (.ref b), .val (.int (Int32.ofNat o)), .val (.int (Int32.ofNat len)), .val .null, .unset] [.int z])) := c4.trans (st5 _ (Steps.refl _))
  have c7 : Steps p.tables e below (s₁.setTop (entryFrame m #[.ref a, .ref b, .int (Int32.ofNat o), .int (Int32.ofNat len), .null] 6)) (T5.setTop (mkF m 36 #[.val (.ref a), .val (.ref b), .val (.int (Int32.ofNat o)), .val (.int (Int32.ofNat len)), .val .null, .unset] [.int (Int32.ofNat len), .int (Int32.ofNat o), .ref b])) := c6.trans (by
    refine XS.ifNo X5.here hexec rfl (hb hbytes d30) rfl (i0_eq_f hz) ?_
    refine XS.aloadN X5.here hexec rfl (hb hbytes d33) rfl rfl ?_
    refine XS.iloadN X5.here hexec rfl (hb hbytes d34) rfl ?_
    refine XS.iloadN X5.here hexec rfl (hb hbytes d35) rfl ?_
    exact Steps.refl _)
  obtain ⟨v8, T8, X8, E8, g8⟩ := X5.callS hexec (Cmp3.law l b A o len) hown (wks W (staticW "java/lang/String" 177 Cmp3.yN)) (wk W Cmp3.tab) (W := 0) (Nat.le_of_ble_eq_true rfl) (Nat.le_of_ble_eq_true rfl) (Nat.le_refl _) (by show 0 + len ≤ len; omega) (g := (mkF m 36 #[.val (.ref a), .val (.ref b), .val (.int (Int32.ofNat o)), .val (.int (Int32.ofNat len)), .val .null, .unset] [.int (Int32.ofNat len), .int (Int32.ofNat o), .ref b])) rfl (by rw [hml]; rfl) c7 (argsL := [.ref b, .int (Int32.ofNat o), .int (Int32.ofNat len)]) (rest := []) rfl rfl (by show 2 * 0 + 0 ≤ _; decide) (hb hbytes d36) (⟨rfl, hA.mv X5.warmed.alike hh5, l1, l2, hp⟩)
  obtain ⟨e8, z8⟩ := E8
  obtain ⟨rfl, N, n1, n2, n3, n4, n5, n6⟩ := NewArr.mv _ T5 s _ _ hh5.symm (Vm.Alike.refl _) rfl e8
  rw [hh5] at z8
  have hB1 := hB.keep X8.warmed.alike (n6 _ _ hB.1)
  have hne : s.heap.size ≠ a := (Nat.ne_of_lt (Array.getElem?_eq_some_iff.mp hB.1).1).symm
  have c9 : Steps p.tables e below (s₁.setTop (entryFrame m #[.ref a, .ref b, .int (Int32.ofNat o), .int (Int32.ofNat len), .null] 6)) (T8.setTop (mkF m 39 #[.val (.ref a), .val (.ref b), .val (.int (Int32.ofNat o)), .val (.int (Int32.ofNat len)), .val .null, .unset] [.ref s.heap.size])) := g8
  have c10 : Steps p.tables e below (s₁.setTop (entryFrame m #[.ref a, .ref b, .int (Int32.ofNat o), .int (Int32.ofNat len), .null] 6)) (T8.setTop (mkF m 45 #[.val (.ref a), .val (.ref b), .val (.int (Int32.ofNat o)), .val (.int (Int32.ofNat len)), .val .null, .val (.ref s.heap.size)] [.int (Int32.ofNat N.slots.size), .ref s.heap.size, .ref a])) := by
    have hc : Steps p.tables e below (s₁.setTop (entryFrame m #[.ref a, .ref b, .int (Int32.ofNat o), .int (Int32.ofNat len), .null] 6)) (T8.setTop (mkF m 45 #[.val (.ref a), .val (.ref b), .val (.int (Int32.ofNat o)), .val (.int (Int32.ofNat len)), .val .null, .val (.ref s.heap.size)] [.int (Int32.ofNat len), .ref s.heap.size, .ref a])) := c9.trans (by
      refine XS.astore X8.here hexec rfl (hb hbytes d39) rfl rfl rfl ?_
      refine XS.aloadN X8.here hexec rfl (hb hbytes d41) rfl rfl ?_
      refine XS.aload X8.here hexec rfl (hb hbytes d42) rfl rfl ?_
      refine XS.iloadN X8.here hexec rfl (hb hbytes d44) rfl ?_
      exact Steps.refl _)
    rw [n4]; exact hc
  obtain ⟨v11, T11, X11, E11, g11⟩ := X8.callS hexec (CodL.law l s.heap.size N) hown (wks W (staticW "java/lang/String" 47 CodL.yN)) (wk W CodL.tab) (W := 1) (Nat.le_of_ble_eq_true rfl) (Nat.le_of_ble_eq_true rfl) (Nat.le_refl _) (by show 0 + len + 0 ≤ len; omega) (g := (mkF m 45 #[.val (.ref a), .val (.ref b), .val (.int (Int32.ofNat o)), .val (.int (Int32.ofNat len)), .val .null, .val (.ref s.heap.size)] [.int (Int32.ofNat N.slots.size), .ref s.heap.size, .ref a])) rfl (by rw [hml]; rfl) c10 (argsL := [.ref s.heap.size, .int (Int32.ofNat N.slots.size)]) (rest := [.ref a]) rfl rfl (by show 2 * 0 + (1 + 0) ≤ _; decide) (hb hbytes d45) (⟨rfl, n1⟩)
  obtain ⟨rfl, q11⟩ := E11
  have hB11 := hB1.mv (X8.warmed.alike.symm.trans X11.warmed.alike) q11
  have c12 : Steps p.tables e below (s₁.setTop (entryFrame m #[.ref a, .ref b, .int (Int32.ofNat o), .int (Int32.ofNat len), .null] 6)) (T11.setTop (mkF m 48 #[.val (.ref a), .val (.ref b), .val (.int (Int32.ofNat o)), .val (.int (Int32.ofNat len)), .val .null, .val (.ref s.heap.size)] [.int 0, .ref a])) := g11
  obtain ⟨T13, X13, p13, bl13, sl13, st13⟩ := X11.finit hexec hown (wk W (.fieldLink "java/lang/String" 15 "java/lang/String" "coder" "B")) (Or.inr ⟨_, (wk W (.laysFinal "java/lang/String" "java/lang/String" "coder" "B"))⟩) (Or.inl ⟨rfl, hnm⟩) f2 (Or.inl rfl) hB11 (t := .byte) (by decide +kernel) rfl (g := (mkF m 48 #[.val (.ref a), .val (.ref b), .val (.int (Int32.ofNat o)), .val (.int (Int32.ofNat len)), .val .null, .val (.ref s.heap.size)] [.int 0, .ref a])) rfl (rest := []) rfl (hb hbytes d48)
  have c14 : Steps p.tables e below (s₁.setTop (entryFrame m #[.ref a, .ref b, .int (Int32.ofNat o), .int (Int32.ofNat len), .null] 6)) (T13.setTop (mkF m 54 #[.val (.ref a), .val (.ref b), .val (.int (Int32.ofNat o)), .val (.int (Int32.ofNat len)), .val .null, .val (.ref s.heap.size)] [.ref s.heap.size, .ref a])) := (c12.trans (st13 _ (Steps.refl _))).trans (by
    refine XS.aloadN X13.here hexec rfl (hb hbytes d51) rfl rfl ?_
    refine XS.aload X13.here hexec rfl (hb hbytes d52) rfl rfl ?_
    exact Steps.refl _)
  obtain ⟨T15, X15, p15, bl15, sl15, st15⟩ := X13.finit hexec hown (wk W (.fieldLink "java/lang/String" 9 "java/lang/String" "value" "[B")) (Or.inr ⟨_, (wk W (.laysFinal "java/lang/String" "java/lang/String" "value" "[B"))⟩) (Or.inl ⟨rfl, hnm⟩) f1 (Or.inl rfl) bl13 (t := (.array .byte)) (by decide +kernel) rfl (g := (mkF m 54 #[.val (.ref a), .val (.ref b), .val (.int (Int32.ofNat o)), .val (.int (Int32.ofNat len)), .val .null, .val (.ref s.heap.size)] [.ref s.heap.size, .ref a])) rfl (rest := []) rfl (hb hbytes d54)
  have c16 : Steps p.tables e below (s₁.setTop (entryFrame m #[.ref a, .ref b, .int (Int32.ofNat o), .int (Int32.ofNat len), .null] 6)) (T15.setTop (mkF m 57 #[.val (.ref a), .val (.ref b), .val (.int (Int32.ofNat o)), .val (.int (Int32.ofNat len)), .val .null, .val (.ref s.heap.size)] [])) := c14.trans (st15 _ (Steps.refl _))
  have ap := apart (Or.inr ⟨_, (wk W (.laysFinal "java/lang/String" "java/lang/String" "value" "[B"))⟩) (Or.inr ⟨_, (wk W (.laysFinal "java/lang/String" "java/lang/String" "coder" "B"))⟩) f1 f2 (t₁ := .array .byte) (t₂ := .byte) (by decide +kernel) (by decide +kernel) (by decide)
  have al := X8.warmed.alike.symm.trans X15.warmed.alike
  have n7 : T11.heap[s.heap.size]? = some N := by rw [q11]; exact n1.1
  exact ⟨T15, none, _, _, _, X15, by simp, rfl, by omega, (fun _ => rfl), ⟨rfl, _, N, bl15, ((Same.refl D _).set _ (by simp)).set _ (by simp), sl15, (Cell.slots_setSlot_ne _ ap).trans sl13, n1.keep al (p15.other hne (p13.other hne n7)), n2, by rw [al.findClass]; exact n3, n4, n5, fun y c h1 h2 => p15.other h1 (p13.other h1 (by rw [q11]; exact n6 y c h2)), by rw [p15.2.2, p13.2.2, q11]; exact z8⟩, fun fs hl => c16.trans (X15.returnOut hexec hret (hb hbytes d57) hl)⟩
end New4
namespace New1
def yN : MethodName := ⟨"java/lang/String", "<init>", "([C)V"⟩
abbrev yB : ByteArray := jdk_42_method_3_code
theorem d0 : decode yB 0 = .ok (.aload_n 0, 1) := by decide +kernel
theorem d1 : decode yB 1 = .ok (.aload_n 1, 1) := by decide +kernel
theorem d2 : decode yB 2 = .ok (.iconst 0, 1) := by decide +kernel
theorem d3 : decode yB 3 = .ok (.aload_n 1, 1) := by decide +kernel
theorem d4 : decode yB 4 = .ok (.arraylength, 1) := by decide +kernel
theorem d5 : decode yB 5 = .ok (.aconst_null, 1) := by decide +kernel
theorem d6 : decode yB 6 = .ok (.invokespecial 27, 3) := by decide +kernel
theorem d9 : decode yB 9 = .ok (.return_, 1) := by decide +kernel
def site : List Cond := [New4.tab] ++ initW "java/lang/String" 27 New4.yN
def tab : Cond := tabOf yN yB 2 none site
def P (a : Addr) (D : Cell) (fV fC : Field) (b : Addr) (A : Cell) (z : Int32) (args : Array Value) (s : State) : Prop := args = #[.ref a, .ref b] ∧ Blank "java/lang/String" a D s ∧ Found "java/lang/String" "value" "[B" fV s ∧ Found "java/lang/String" "coder" "B" fC s ∧ Ch b A s ∧ StaticIs s "java/lang/String" "COMPACT_STRINGS" "Z" (.int z) ∧ ¬ z = 0 ∧ 0 < A.slots.size ∧ A.slots.size ≤ 536870912 ∧ ∀ i, i < A.slots.size → ¬ 255 < cv A i
def E (a : Addr) (D : Cell) (fV fC : Field) (A : Cell) (r : Option Value) (s u : State) : Prop := Got a D fV fC A 0 A.slots.size r s u
/-- new String(chars), not empty, no char above 255: a Latin-1 String of their low bytes -/
theorem law (l : Launch) (a : Addr) (D : Cell) (fV fC : Field) (b : Addr) (A : Cell) (z : Int32) : Law l yN 2 1 3 52 yB 2 none site (P a D fV fC b A z) (E a D fV fC A) [⟨a, fC.slot⟩, ⟨a, fV.slot⟩] 1 A.slots.size := by
  refine Law.of_walk (plainFor_of_name (by decide +kernel)) (by decide +kernel) (by decide +kernel) (by decide) (fun _ _ h => by rw [h.1]; rfl) (fun _ U U' hal hh h => ⟨h.1, h.2.1.mv hal hh, h.2.2.1.al hal, h.2.2.2.1.al hal, h.2.2.2.2.1.mv hal hh, h.2.2.2.2.2.1.there hal hh, h.2.2.2.2.2.2⟩) (fun r U U' V V' h1 hal h2 h => Got.mv r U U' V V' h1 hal h2 h) ?_
  intro p e s m args below meth c s₁ X0 hexec hbytes hml hret hlk hnm hown hh0 W hP
  obtain ⟨rfl, hB, f1, f2, hA, s1, hz, l0, l2, hp⟩ := hP
  have c1 : Steps p.tables e below (s₁.setTop (entryFrame m #[.ref a, .ref b] 2)) (s₁.setTop (mkF m 0 #[.val (.ref a), .val (.ref b)] [])) := entry rfl
  have c2 : Steps p.tables e below (s₁.setTop (entryFrame m #[.ref a, .ref b] 2)) (s₁.setTop (mkF m 6 #[.val (.ref a), .val (.ref b)] [.null, .int (Int32.ofNat A.slots.size), .int 0, .ref b, .ref a])) := c1.trans (by
    refine XS.aloadN X0.here hexec rfl (hb hbytes d0) rfl rfl ?_
    refine XS.aloadN X0.here hexec rfl (hb hbytes d1) rfl rfl ?_
    refine iconstV X0.here hexec rfl 0 (hb hbytes d2) (by decide) ?_
    refine XS.aloadN X0.here hexec rfl (hb hbytes d3) rfl rfl ?_
    refine X0.alen hexec (hA.1.mv X0.warmed.alike hh0) rfl rfl (hb hbytes d4) ?_
    refine XS.aconstNull X0.here hexec rfl (hb hbytes d5) ?_
    exact Steps.refl _)
  obtain ⟨v3, T3, X3, E3, g3⟩ := X0.callN hexec (New4.law l a D fV fC b A z 0 A.slots.size) rfl hown (wks W (initW "java/lang/String" 27 New4.yN)) (W New4.tab (by simp only [site, List.mem_cons, List.mem_append, true_or, or_true])) (W := 0) (Nat.le_of_ble_eq_true rfl) (Nat.le_of_ble_eq_true rfl) (Nat.le_refl _) (by show 0 + A.slots.size ≤ A.slots.size; omega) (g := (mkF m 6 #[.val (.ref a), .val (.ref b)] [.null, .int (Int32.ofNat A.slots.size), .int (Int32.ofNat 0), .ref b, .ref a])) rfl (by rw [hml]; rfl) c2 (argsL := [.ref b, .int (Int32.ofNat 0), .int (Int32.ofNat A.slots.size), .null]) (rest := []) rfl rfl (by show 2 * 0 + 0 ≤ _; decide) (hb hbytes d6) (⟨rfl, hB.mv X0.warmed.alike hh0, f1.al X0.warmed.alike, f2.al X0.warmed.alike, hA.mv X0.warmed.alike hh0, s1.there X0.warmed.alike hh0, hz, l0, by omega, l2, fun i hi => by rw [Nat.zero_add]; exact hp i hi⟩)
  have e0 := Got.mv _ s₁ s _ _ hh0.symm (Vm.Alike.refl _) rfl E3
  obtain rfl := e0.1
  have c4 : Steps p.tables e below (s₁.setTop (entryFrame m #[.ref a, .ref b] 2)) (T3.setTop (mkF m 9 #[.val (.ref a), .val (.ref b)] [])) := g3
  exact ⟨T3, none, _, _, _, X3, by simp, rfl, by omega, (fun _ => rfl), e0, fun fs hl => c4.trans (X3.returnOut hexec hret (hb hbytes d9) hl)⟩
theorem pays {l : Launch} {R : Room} {p : Program} {e : Env} {below : List Frame} {s : State} {sargs : Array Value} {len W : Nat} (a : Addr) (D : Cell) (fV fC : Field) (b : Addr) (A : Cell) (z : Int32) (htab : tab.before sargs s = true) (hfr : 4 ≤ R.frames) (hlo : W + 65 ≤ R.locals) :
    Back l R p e below s sargs yN len W (fun A₁ a₁ => A₁.cells + 1 ≤ R.cells ∧ A₁.slots + A.slots.size ≤ R.slots ∧ P a D fV fC b A z a₁ A₁.U) (fun A₁ _ v₁ B₁ => E a D fV fC A v₁ A₁.U B₁.U ∧ B₁.locs = A₁.locs ++ [⟨a, fC.slot⟩, ⟨a, fV.slot⟩] ∧ B₁.cells = A₁.cells + 1 ∧ B₁.slots = A₁.slots + A.slots.size) :=
  (law l a D fV fC b A z).pays htab hfr (by omega)
end New1
end StrChars
namespace StrChars.Road
open Jvm Sem ClassFile Op Lib Jvm.Stand Jvm.Free Jvm.Free.XT
open Jvm.Lib.Cold (StaticIs)
abbrev ST : String := "java/lang/String"
/-- every table word that New1's law asks, flat -/
abbrev words : List Jvm.Cond := [.code New1.yN New1.yB 2 none, .initialized ST, .methodLink ST 27 New4.yN, .instanceMethod New4.yN,
  .code New4.yN New4.yB 6 none, .fieldLink ST 38 ST "COMPACT_STRINGS" "Z", .laysFinal ST ST "value" "[B", .fieldLink ST 9 ST "value" "[B", .laysFinal ST ST "coder" "B", .fieldLink ST 15 ST "coder" "B",
  .methodLink ST 1 Lib.objectInit, .instanceMethod Lib.objectInit, .code Lib.objectInit ⟨#[0xb1]⟩ 1 none, .methodLink ST 177 Cmp3.yN, .static Cmp3.yN, .methodLink ST 47 CodL.yN, .static CodL.yN,
  .code Cmp3.yN Cmp3.yB 6 (some (.array .byte)), .initialized U16, .arrayClass .byte, .methodLink U16 115 Cmp5.yN, .static Cmp5.yN, .code Cmp5.yN Cmp5.yB 7 (some .int), .code CodL.yN CodL.yB 2 (some .byte)]
theorem tab_of {a : Array Value} {s : State} (h : ∀ w ∈ words, w.before a s = true) : New1.tab.before a s = true := by
  have h5 : Cmp5.tab.before a s = true := unparts (wk h (.code Cmp5.yN Cmp5.yB 7 (some .int))) (wks h (.initialized Cmp5.yN.cls :: Cmp5.site))
  have hc : CodL.tab.before a s = true := unparts (wk h (.code CodL.yN CodL.yB 2 (some .byte))) (wks h (.initialized CodL.yN.cls :: CodL.site))
  have q5 : ∀ w ∈ Cmp5.tab :: words, w.before a s = true := fun w hw => (List.mem_cons.mp hw).elim (fun e => e ▸ h5) (h w)
  have h3 : Cmp3.tab.before a s = true := unparts (wk q5 (.code Cmp3.yN Cmp3.yB 6 (some (.array .byte)))) (wks q5 (.initialized Cmp3.yN.cls :: Cmp3.site))
  have q3 : ∀ w ∈ Cmp3.tab :: CodL.tab :: words, w.before a s = true := fun w hw => (List.mem_cons.mp hw).elim (fun e => e ▸ h3) fun hw => (List.mem_cons.mp hw).elim (fun e => e ▸ hc) (h w)
  have h4 : New4.tab.before a s = true := unparts (wk q3 (.code New4.yN New4.yB 6 none)) (wks q3 (.initialized New4.yN.cls :: New4.site))
  have q4 : ∀ w ∈ New4.tab :: words, w.before a s = true := fun w hw => (List.mem_cons.mp hw).elim (fun e => e ▸ h4) (h w)
  exact unparts (wk q4 (.code New1.yN New1.yB 2 none)) (wks q4 (.initialized New1.yN.cls :: New1.site))
/-- the words ride from the start Z to the walk's own state -/
theorem moved {Z s : State} {a0 args : Array Value} (hZ : Z.Warmed39 s.vm) (hw : ∀ d ∈ words, d.before a0 Z = true) : ∀ d ∈ words, d.before args s = true := fun d hd => by
  have q := hw d hd
  have t : ∀ d ∈ words, d = .arrayClass .byte ∨ (d.onTables && d.keepsFace) = true := by decide +kernel
  rcases t d hd with rfl | t
  · exact RoadKit.mvA hZ q
  · exact RoadKit.mv hZ q t
/-- WHAT COMES BACK, over the tables of the start Z: h the heap at the call, h' behind it -/
def Q (Z : State) (x : Addr) (A : Cell) (h : Heap) (v : Option Value) (h' : Heap) (L : List Loc) : Prop := v = none ∧ (∀ y ∈ L, y.base = x) ∧ RoadKit.Keep h h' [x] ∧ h'.size = h.size + 1 ∧ RoadKit.Exa Z h' x ST ∧ RoadKit.Fld Z h' x ST "value" "[B" (.ref h.size) ∧ RoadKit.Fld Z h' x ST "coder" "B" (.int 0) ∧
  (∃ V : Cell, RoadKit.Arr Z h' h.size V .byte ∧ V.vm = .none ∧ Z.vm.findClass "[B" = some V.cls ∧ V.slots.size = A.slots.size ∧ ∀ j, j < A.slots.size → V.slots[j]? = some (.int (lo8 (cv A j)))) ∧
  ∀ (O n d : String) (w : Value), RoadKit.Fld Z h x O n d w → RoadKit.slotOf Z O n d ≠ RoadKit.slotOf Z ST "value" "[B" → RoadKit.slotOf Z O n d ≠ RoadKit.slotOf Z ST "coder" "B" → RoadKit.Fld Z h' x O n d w
/-- **new String(chars) AT A CALL, IN THE ROAD'S FORM**: for specialBack behind newO: x the fresh String, b the char[] with the cell A -/
theorem back {p : Program} {l : Launch} {e : Env} {R : Room} {s : State} {args : Array Value} {below : List Frame} {len W : Nat} {Z : State} {a0 : Array Value} {h : Heap} (hZ : Z.Warmed39 s.vm) (hw : ∀ d ∈ words, d.before a0 Z = true) {kI : Nat} (wi : (Jvm.Cond.instantiable ST kI).before a0 Z = true)
    {x b : Addr} {A : Cell} {z : Int32} {v0 c0 : Value} (E : RoadKit.Exa Z h x ST) (V : RoadKit.Fld Z h x ST "value" "[B" v0) (C : RoadKit.Fld Z h x ST "coder" "B" c0) (K : RoadKit.Arr Z h b A .char) (hty : Typed .char A) (S : RoadKit.Sta Z h ST "COMPACT_STRINGS" "Z" (.int z)) (hz : ¬ z = 0)
    (l0 : 0 < A.slots.size) (l2 : A.slots.size ≤ 536870912) (hp : ∀ i, i < A.slots.size → ¬ 255 < cv A i) (hfr : 4 ≤ R.frames) (hlo : W + 65 ≤ R.locals) :
    Back l R p e below s args New1.yN len W (fun P a => a = #[.ref x, .ref b] ∧ P.U.heap = h ∧ P.cells + 1 ≤ R.cells ∧ P.slots + A.slots.size ≤ R.slots)
      (fun P _ v B => ∃ L, Q Z x A h v B.U.heap L ∧ B.locs = P.locs ++ L ∧ B.cells = P.cells + 1 ∧ B.slots = P.slots + A.slots.size) := by
  intro m meth c P g ig mk a X hg hsize hdg hW hn hp'
  obtain ⟨rfl, rfl, r1, r2⟩ := hp'
  have al : Z.vm.Alike P.U.vm := hZ.alike.trans X.warmed.alike
  obtain ⟨D, cfV, kV, iV, fV, hD, gV, stV, knV, obV, asV, slV⟩ := id V
  obtain ⟨D', cfC, kC, iC, fC, hD', gC, stC, -, -, asC, slC⟩ := id C
  cases hD.symm.trans hD'
  obtain ⟨D2, kD, e1, e2, e3, e4, e5⟩ := id E
  cases hD.symm.trans e1
  obtain ⟨c2, k2, i1, i2, i3, -⟩ := Cond.instantiable_spec wi
  cases e2.symm.trans i1
  cases e3.symm.trans i2
  obtain ⟨kU, u1, u2⟩ := al.2.2 _ _ e3
  have hB : Blank ST x D P.U := ⟨hD, ⟨knV, fun q hq => by rw [hq] at obV; cases obV⟩, by rw [al.findClass]; exact e2, kU, u1, by rw [u2]; exact i3, by rw [u2]; exact e5 i3⟩
  have F1 : Found ST "value" "[B" fV P.U := ⟨SBG.found_only al ⟨cfV, kV, iV, gV⟩, stV⟩
  have F2 : Found ST "coder" "B" fC P.U := ⟨SBG.found_only al ⟨cfC, kC, iC, gC⟩, stC⟩
  have hA : Ch b A P.U := ⟨⟨K.1, State.isArrayOf_alike al K.2.1, K.2.2, by omega⟩, hty⟩
  have hS : StaticIs P.U ST "COMPACT_STRINGS" "Z" (.int z) := by
    obtain ⟨cfS, iS, kS, fS, st, cS, t1, t2, t3, t4, t5, t6, t7⟩ := S
    exact StaticIs.there (s := { Z with heap := P.U.heap }) ⟨cfS, iS, kS, fS, st, cS, t1, t2, t3, t4, t5, (fun q => by rw [q] at t6; cases t6), t7⟩ al rfl
  obtain ⟨v, B, X', ⟨⟨hv, E', V', q1, q2, q3, q4, q5, q6, q7, q8, q9, q10, q11⟩, hl, hc, hs⟩, st⟩ := New1.pays x D fV fC b A z (tab_of (moved hZ hw)) hfr hlo m meth c P g ig mk _ X hg hsize hdg hW hn ⟨r1, r2, rfl, hB, F1, F2, hA, hS, hz, l0, l2, hp⟩
  have al' : Z.vm.Alike B.U.vm := hZ.alike.trans X'.warmed.alike
  have hsz : E'.slots.size = D.slots.size := by
    obtain ⟨-, -, -, kB, w1, w2, w3⟩ := q1
    obtain ⟨kB', y1, y2⟩ := al'.2.2 _ _ e3
    rw [q2.2.1] at w1
    cases w1.symm.trans y1
    rw [w3, e5 i3, y2]
  refine ⟨v, B, X', ⟨_, ⟨hv, ?_, ⟨by omega, fun y cy hy hn' => q10 y cy (by simpa using hn') hy, fun y cy hy => ?_⟩, q11, ⟨E', _, q1.1, by rw [q2.2.1]; exact e2, by rw [q2.2.1]; exact e3, by rw [q2.1]; exact obV, fun _ => by rw [hsz]; exact e5 i3⟩,
    ⟨E', cfV, kV, iV, fV, q1.1, gV, stV, by rw [q2.1]; exact knV, by rw [q2.1]; exact obV, by rw [q2.2.1]; exact asV, q3⟩, ⟨E', cfC, kC, iC, fC, q1.1, gC, stC, by rw [q2.1]; exact knV, by rw [q2.1]; exact obV, by rw [q2.2.1]; exact asC, q4⟩,
    ⟨V', ⟨q5.1, State.isArrayOf_alike al'.symm q5.2.1, q5.2.2.1⟩, q6, by rw [← al'.findClass]; exact q7, q8, fun j hj => by have := q9 j hj; rwa [Nat.zero_add] at this⟩, fun O n d w F n1 n2 => ?_⟩, hl, hc, hs⟩, st⟩
  · intro y hy
    simp only [List.mem_cons, List.not_mem_nil, or_false] at hy
    rcases hy with rfl | rfl <;> rfl
  · by_cases q : y = x
    · subst q
      cases hD.symm.trans hy
      exact ⟨E', q1.1, q2.2.1, q2.1, hsz⟩
    · exact ⟨cy, q10 y cy q hy, rfl, rfl, rfl⟩
  · obtain ⟨D3, cf, k, i, f, g1, g2, g3, g4, g5, g6, g7⟩ := F
    cases hD.symm.trans g1
    simp only [RoadKit.slotOf, g2, gV, gC, Option.map_some, Option.getD_some] at n1 n2
    exact ⟨E', cf, k, i, f, q1.1, g2, g3, by rw [q2.1]; exact g4, by rw [q2.1]; exact g5, by rw [q2.2.1]; exact g6, by rw [q2.2.2 f.slot (by simp [n1, n2])]; exact g7⟩
end StrChars.Road
namespace StrChars.Road
open Jvm Sem ClassFile Op Lib Jvm.Stand Jvm.Free Jvm.Free.XT
/-- WHAT COMES BACK, the byte[] as a list of values -/
def QA (Z : State) (x : Addr) (zn : Int32) (cs : List Int32) (h : Heap) (v : Option Value) (h' : Heap) (L : List Loc) : Prop := v = none ∧ (∀ y ∈ L, y.base = x) ∧ RoadKit.Keep h h' [x] ∧ h'.size = h.size + 1 ∧ RoadKit.Exa Z h' x ST ∧ RoadKit.Fld Z h' x ST "value" "[B" (.ref h.size) ∧ RoadKit.Fld Z h' x ST "coder" "B" (.int 0) ∧
  (∃ kb, Z.vm.findClass "[B" = some kb ∧ RoadKit.Arv Z h' h.size kb .byte zn (cs.map fun c => .int (lo8 c)) (.int 0)) ∧
  ∀ (O n d : String) (w : Value), RoadKit.Fld Z h x O n d w → RoadKit.slotOf Z O n d ≠ RoadKit.slotOf Z ST "value" "[B" → RoadKit.slotOf Z O n d ≠ RoadKit.slotOf Z ST "coder" "B" → RoadKit.Fld Z h' x O n d w
/-- **new String(chars) AT A CALL, THE ARRAYS AS LISTS**: the char[] at b holds cs, not empty, no char above 255 -/
theorem backArv {p : Program} {l : Launch} {e : Env} {R : Room} {s : State} {args : Array Value} {below : List Frame} {len W : Nat} {Z : State} {a0 : Array Value} {h : Heap} (hZ : Z.Warmed39 s.vm) (hw : ∀ d ∈ words, d.before a0 Z = true) {kI : Nat} (wi : (Jvm.Cond.instantiable ST kI).before a0 Z = true)
    {x b : Addr} {k : ClassId} {zn z : Int32} {cs : List Int32} {dv v0 c0 : Value} (E : RoadKit.Exa Z h x ST) (V : RoadKit.Fld Z h x ST "value" "[B" v0) (C : RoadKit.Fld Z h x ST "coder" "B" c0) (K : RoadKit.Arv Z h b k .char zn (cs.map Value.int) dv) (S : RoadKit.Sta Z h ST "COMPACT_STRINGS" "Z" (.int z)) (hz : ¬ z = 0)
    (hlen : zn.toNatClampNeg = cs.length) (h0 : 0 < cs.length) (hbig : cs.length ≤ 536870912) (hall : ∀ c ∈ cs, ¬ 255 < c) (hfr : 4 ≤ R.frames) (hlo : W + 65 ≤ R.locals) :
    Back l R p e below s args New1.yN len W (fun P a => a = #[.ref x, .ref b] ∧ P.U.heap = h ∧ P.cells + 1 ≤ R.cells ∧ P.slots + cs.length ≤ R.slots)
      (fun P _ v B => ∃ L, QA Z x zn cs h v B.U.heap L ∧ B.locs = P.locs ++ L ∧ B.cells = P.cells + 1 ∧ B.slots = P.slots + cs.length) := by
  obtain ⟨A, K1, K2, K3, K4, K5, K6⟩ := K
  have e : A.slots.size = cs.length := K3.trans hlen
  have hat : ∀ (i : Nat) (hi : i < cs.length), A.slots[i]? = some (.int cs[i]) := fun i hi => by rw [K5 i (by omega)]; simp [List.getD_eq_getElem?_getD, hi]
  have hcv : ∀ (i : Nat) (hi : i < cs.length), cv A i = cs[i] := fun i hi => by unfold cv; rw [hat i hi]
  have hty : Typed .char A := fun i v hv => by
    have hi : i < A.slots.size := (Array.getElem?_eq_some_iff.mp hv).1
    have q := K5 i hi
    rw [hv] at q
    rw [Option.some.inj q]
    exact K6 i hi
  refine Back.mono (back hZ hw wi E V C K1 hty S hz (by omega) (by omega) (fun i hi => by rw [hcv i (by omega)]; exact hall _ (List.getElem_mem _)) hfr hlo) (fun P a hp => ⟨hp.1, hp.2.1, hp.2.2.1, by rw [e]; exact hp.2.2.2⟩) (fun P a v B hp hq => ?_)
  obtain ⟨L, ⟨q1, q2, q3, q4, q5, q6, q7, ⟨V', v1, v2, v3, v4, v5⟩, q9⟩, hl, hc, hs⟩ := hq
  refine ⟨L, ⟨q1, q2, q3, q4, q5, q6, q7, ⟨V'.cls, v3, V', v1, rfl, by rw [v4, e, hlen], K4, fun i hi => ?_, fun i hi => ?_⟩, q9⟩, hl, hc, by rw [hs, e]⟩
  · have hi' : i < cs.length := by omega
    rw [v5 i (by omega), hcv i hi']; simp [List.getD_eq_getElem?_getD, hi']
  · have hi' : i < cs.length := by omega
    simp only [List.getD_eq_getElem?_getD, List.getElem?_map, List.getElem?_eq_getElem hi', Option.map_some, Option.getD_some]
    exact fits_lo8 _
end StrChars.Road
namespace StrChars.Road
open Jvm Sem ClassFile Op Lib Jvm.Stand Jvm.Free Jvm.Free.XT
/-- WHAT COMES BACK, in the writer's own shape -/
def QV (Z : State) (x : Addr) (N : Int32) (bs : List Int32) (h : Heap) (n0 : Nat) (v : Option Value) (h' : Heap) (L : List Loc) : Prop := v = none ∧ RoadKit.Fr n0 L ∧ RoadKit.Keep h h' [x] ∧ RoadKit.Exa Z h' x ST ∧ RoadKit.Fld Z h' x ST "coder" "B" (.int 0) ∧
  ∃ (t : Addr) (kb : ClassId), n0 ≤ t ∧ h.size ≤ t ∧ ¬ t = x ∧ RoadKit.Fld Z h' x ST "value" "[B" (.ref t) ∧ RoadKit.Arv Z h' t kb .byte N (bs.map Value.int) (.int 0)
/-- **new String(chars) AT A CALL, FOR THE WRITER**: a char[] of n known ints, each 0 to 255 -/
theorem backV {p : Program} {l : Launch} {e : Env} {R : Room} {s : State} {args : Array Value} {below : List Frame} {len W : Nat} {Z : State} {a0 : Array Value} {h : Heap} (hZ : Z.Warmed39 s.vm) (hw : ∀ d ∈ words, d.before a0 Z = true) {kI : Nat} (wi : (Jvm.Cond.instantiable ST kI).before a0 Z = true)
    {x b : Addr} {kC : ClassId} {cs bs : List Int32} {d v0 c0 : Value} {z N : Int32} {n n0 : Nat} (hx0 : n0 ≤ x) (hh0 : n0 ≤ h.size) (E : RoadKit.Exa Z h x ST) (V : RoadKit.Fld Z h x ST "value" "[B" v0) (C : RoadKit.Fld Z h x ST "coder" "B" c0) (K : RoadKit.Arv Z h b kC .char N (cs.map Value.int) d) (S : RoadKit.Sta Z h ST "COMPACT_STRINGS" "Z" (.int z)) (hz : ¬ z = 0)
    (hn : cs.length = n) (hN : N = Int32.ofNat n) (l0 : 0 < n) (l2 : n ≤ 4000) (hp : ∀ c ∈ cs, ¬ c < 0 ∧ ¬ (255 : Int32) < c) (hb : bs = cs.map (fun c => c.toInt8.toInt32)) (hfr : 4 ≤ R.frames) (hlo : W + 65 ≤ R.locals) :
    Back l R p e below s args (⟨"java/lang/String", "<init>", "([C)V"⟩ : MethodName) len W (fun P a => a = #[.ref x, .ref b] ∧ P.U.heap = h ∧ P.cells + 1 ≤ R.cells ∧ P.slots + n ≤ R.slots)
      (fun P _ v B => ∃ L, QV Z x N bs h n0 v B.U.heap L ∧ B.locs = P.locs ++ L ∧ B.cells = P.cells + 1 ∧ B.slots = P.slots + n) := by
  subst hn hN hb
  refine Back.mono (backArv hZ hw wi E V C K S hz (n32 (by omega)) l0 (by omega) (fun c hc => (hp c hc).2) hfr hlo) (fun P a hp => hp) (fun P a v B hp hq => ?_)
  obtain ⟨L, ⟨q1, q2, q3, q4, q5, q6, q7, ⟨kb, v1, v2⟩, q9⟩, hl, hc, hs⟩ := hq
  exact ⟨L, ⟨q1, fun y hy => by rw [q2 y hy]; exact hx0, q3, q5, q7, h.size, kb, hh0, Nat.le_refl _, Nat.ne_of_gt E.lt, q6, by rw [List.map_map]; exact v2⟩, hl, hc, hs⟩
end StrChars.Road
end Jvm.Pilot.@@N@@

namespace Jvm.Pilot.@@N@@
open Jvm Jvm.ClassFile Sem Op Lib Jvm.Free Jvm.Stand Jvm.LawKit Jvm.RoadKit Bundle Jvm.Pilot.@@N@@.Jvm.D
theorem W_ {Z : State} {a0 : Array Value} {d : Jvm.Cond} (hw : ∀ d ∈ tables_1, d.before a0 Z = true) (i : Nat) (h : tables_1[i]? = some d) : d.before a0 Z = true := hw d (List.mem_of_getElem? h)
abbrev own_tb (a0 : Array Value) (Z : State) : Prop := ∀ d ∈ tables_1, d.before a0 Z = true
abbrev OwnMet (l : Launch) (y : MethodName) (bytes : ByteArray) (ml : Nat) (rt : Option FieldType) (ws : List Jvm.Cond) (rm : Room) (as' : Array Value) (Z : State) (h0 : Heap) (Q : Option Value → Heap → List Loc → Prop) : Prop := MetFree l y (head1 (Jvm.Cond.code y bytes ml rt :: ws) rm) (fun as_ UU => as_ = as' ∧ Z.Warmed39 UU.vm ∧ UU.heap = h0) (fun _ _ _ _ _ => True) (fun _ UU oo UU' => ∃ vv LL, oo = .returned vv ∧ Q vv UU'.heap LL ∧ FrameEnd UU oo UU' LL rm.cells rm.slots)
def own_EL : List (String × Nat) := [("com/example/tightrope/tightrope/junit/OutcomeOfTextPinLaw", 7), ("com/example/tightrope/tightrope/junit/OutcomeOfTextPinLaw", 9), ("com/example/tightrope/tightrope/junit/OutcomeOfTextPinLaw", 11), ("com/example/tightrope/tightrope/junit/OutcomeOfTextPinLaw", 13), ("com/example/tightrope/tightrope/junit/OutcomeOfTextPinLaw", 15), ("java/lang/String", 7)]
theorem own_sAt : ∀ a ∈ Bundle.stringAtoms, a ∈ tables_1 := by decide +kernel
theorem own_wS {Z : State} {a0 : Array Value} (hw : ∀ d ∈ tables_1, d.before a0 Z = true) : ∀ a ∈ Bundle.stringAtoms, a.before a0 Z = true := fun a ha => hw a (own_sAt a ha)
theorem own_hEL {Z : State} {a0 : Array Value} (hw : ∀ d ∈ tables_1, d.before a0 Z = true) : EW Z a0 own_EL := (EW.cons (W_ hw 0 rfl) (by decide) (EW.cons (W_ hw 8 rfl) (by decide) (EW.cons (W_ hw 117 rfl) (by decide) (EW.cons (W_ hw 118 rfl) (by decide) (EW.cons (W_ hw 119 rfl) (by decide) (EW.cons (W_ hw 120 rfl) (by decide) EW.nil))))))
theorem own_sh0 (z : Int32) : (z >>> ((0 : Int32) &&& 31)) = z := by
  apply Int32.toBitVec_inj.mp
  show BitVec.sshiftRight _ _ = _
  simp
theorem own_ws {Z : State} {a0 : Array Value} (hw : ∀ d ∈ tables_1, d.before a0 Z = true) : ∀ d ∈ StrChars.Road.words, d.before a0 Z = true := fun d hd => hw d ((by decide +kernel : ∀ d ∈ StrChars.Road.words, d ∈ tables_1) d hd)
theorem own_rg11 {i : Int32} (h0 : ¬ i < (0 : Int32)) (h : i < (11 : Int32)) : i = (0 : Int32) ∨ i = (1 : Int32) ∨ i = (2 : Int32) ∨ i = (3 : Int32) ∨ i = (4 : Int32) ∨ i = (5 : Int32) ∨ i = (6 : Int32) ∨ i = (7 : Int32) ∨ i = (8 : Int32) ∨ i = (9 : Int32) ∨ i = (10 : Int32) := by
  rw [Int32.lt_iff_toInt_lt] at h0 h
  simp only [← Int32.toInt_inj]
  have e0 : (0 : Int32).toInt = 0 := by decide
  have e1 : (1 : Int32).toInt = 1 := by decide
  have e2 : (2 : Int32).toInt = 2 := by decide
  have e3 : (3 : Int32).toInt = 3 := by decide
  have e4 : (4 : Int32).toInt = 4 := by decide
  have e5 : (5 : Int32).toInt = 5 := by decide
  have e6 : (6 : Int32).toInt = 6 := by decide
  have e7 : (7 : Int32).toInt = 7 := by decide
  have e8 : (8 : Int32).toInt = 8 := by decide
  have e9 : (9 : Int32).toInt = 9 := by decide
  have e10 : (10 : Int32).toInt = 10 := by decide
  rw [e0, e1, e2, e3, e4, e5, e6, e7, e8, e9, e10]
  have e11 : (11 : Int32).toInt = 11 := by decide
  omega
theorem own_tb2 {Z : State} {h : Heap} {x o t b : Addr} {K f d : String} (q : x = o) (F : Fld Z h x K f d (.ref t)) (G : Fld Z h o K f d (.ref b)) : t = b := Classical.byContradiction fun n => (F.ne G (fun e => n (Value.ref.inj e))) q
theorem own_ofNat {n : Nat} (hn : n < 2 ^ 31) : (Int32.ofNat n).toInt = n := Int32.toInt_ofNat_small (by omega)
theorem own_nlt {i n : Nat} (h : i = n) : ¬ (Int32.ofNat i < Int32.ofNat n) := by rw [h, Int32.lt_iff_toInt_lt]; omega
theorem own_lt {i n : Nat} (h : i < n) (hn : n < 2 ^ 31) : Int32.ofNat i < Int32.ofNat n := by rw [Int32.lt_iff_toInt_lt, own_ofNat hn, own_ofNat (Nat.lt_trans h hn)]; omega
theorem own_lt11 {i : Nat} (h : i < 11) : Int32.ofNat i < (11 : Int32) := show Int32.ofNat i < Int32.ofNat 11 from own_lt h (by decide)
theorem own_nn {i : Nat} (h : i < 2 ^ 31) : ¬ (Int32.ofNat i < 0) := by
  have e0 : (0 : Int32).toInt = 0 := by decide
  rw [Int32.lt_iff_toInt_lt, own_ofNat h, e0]; omega
theorem own_ofinj {i n : Nat} (h : i < 2 ^ 31) (hn : n < 2 ^ 31) (e : Int32.ofNat i = Int32.ofNat n) : i = n := by
  have q := congrArg Int32.toInt e
  rw [own_ofNat h, own_ofNat hn] at q
  omega
theorem own_gdm (vs : List Int32) (i : Nat) : (List.map Value.int vs).getD i (.int (0 : Int32)) = .int (vs.getD i 0) := by
  induction vs generalizing i with
  | nil => rfl
  | cons a l ih => cases i with
    | zero => rfl
    | succ i => exact ih i
theorem own_gd {vs : List Int32} {i : Nat} (h : i < 2 ^ 31) : (List.map Value.int vs).getD (Int32.ofNat i).toNatClampNeg (.int (0 : Int32)) = .int (vs.getD i 0) := by
  rw [clamp_of (c := i) rfl h]; exact own_gdm vs i
theorem own_ext {vs us : List Int32} (hl : vs.length = us.length) (h : ∀ j, j < vs.length → vs.getD j 0 = us.getD j 0) : vs = us := by
  induction vs generalizing us with
  | nil => cases us with
    | nil => rfl
    | cons b u => exact absurd hl (by simp)
  | cons a l ih => cases us with
    | nil => exact absurd hl (by simp)
    | cons b u =>
      have h0 : a = b := h 0 (Nat.succ_pos _)
      rw [h0, ih (Nat.succ.inj hl) (fun j hj => h (j + 1) (Nat.succ_lt_succ hj))]
theorem own_leq {Z : State} {h : Heap} {a b : Addr} {k k' : ClassId} {vs us : List Int32} (q : a = b) (A : Arv Z h a k .byte (Int32.ofNat vs.length) (List.map Value.int vs) (.int (0 : Int32))) (B : Arv Z h b k' .byte (Int32.ofNat us.length) (List.map Value.int us) (.int (0 : Int32))) (hv : vs.length < 2 ^ 31) (hu : us.length < 2 ^ 31) : vs = us := by
  subst q
  obtain ⟨c, A1, -, S, -, H, -⟩ := A
  obtain ⟨c', B1, -, S', -, H', -⟩ := B
  cases A1.1.symm.trans B1.1
  rw [clamp_of (c := vs.length) rfl hv] at S
  rw [clamp_of (c := us.length) rfl hu] at S'
  refine own_ext (S.symm.trans S') (fun j hj => ?_)
  have e := Option.some.inj ((H j (S ▸ hj)).symm.trans (H' j (S ▸ hj)))
  rw [own_gdm, own_gdm] at e
  exact Value.int.inj e
theorem own_l256 {P : Int32 → Prop} (t : ∀ k : Fin 256, P (Int32.ofNat k.1)) {c : Int32} (h : ¬ c < 0 ∧ ¬ (255 : Int32) < c) : P c := by
  obtain ⟨h1, h2⟩ := h
  rw [Int32.lt_iff_toInt_lt] at h1 h2
  have e0 : (0 : Int32).toInt = 0 := by decide
  have e1 : (255 : Int32).toInt = 255 := by decide
  have e : c = Int32.ofNat c.toInt.toNat := by
    apply Int32.toInt_inj.mp
    rw [Int32.toInt_ofNat_small (by omega)]; omega
  rw [e]
  exact t ⟨c.toInt.toNat, by omega⟩
theorem own_lnc {c : Int32} (h : ¬ c < 0 ∧ ¬ (255 : Int32) < c) : nar .char c = c := own_l256 (P := fun c => nar .char c = c) (by decide +kernel) h
theorem own_lmk (p : Int32) : ¬ ((p &&& (255 : Int32)).toUInt32.toUInt16.toUInt32.toInt32) < 0 ∧ ¬ (255 : Int32) < ((p &&& (255 : Int32)).toUInt32.toUInt16.toUInt32.toInt32) := by
  have h1 := c_and p 255 (by decide)
  have h2 := c_i2c (p &&& 255)
  have e1 : (255 : Int32).toInt = 255 := by decide
  have e0 : (0 : Int32).toInt = 0 := by decide
  constructor
  · rw [Int32.lt_iff_toInt_lt]; omega
  · rw [Int32.lt_iff_toInt_lt]; omega
theorem own_lml (w : Int64) : ¬ ((w &&& (255 : Int64)).toInt32.toUInt32.toUInt16.toUInt32.toInt32) < 0 ∧ ¬ (255 : Int32) < ((w &&& (255 : Int64)).toInt32.toUInt32.toUInt16.toUInt32.toInt32) := by
  have h1 := c_maskL w 255 8 (by decide) (by decide)
  have h2 := c_l2i (w &&& 255)
  have h3 := c_i2c (w &&& 255).toInt32
  have e1 : (255 : Int32).toInt = 255 := by decide
  have e0 : (0 : Int32).toInt = 0 := by decide
  constructor
  · rw [Int32.lt_iff_toInt_lt]; omega
  · rw [Int32.lt_iff_toInt_lt]; omega
theorem own_m11 (p n : Int32) (h : n = ((p &&& (2147483647 : Int32)) % (11 : Int32))) : ¬ n < (0 : Int32) ∧ n < (11 : Int32) := by
  have h1 := c_and p 2147483647 (by decide)
  have h2 := (c_irem (p &&& 2147483647) 11 11 (by decide)).1 h1.1
  rw [← h] at h2
  have e0 : (0 : Int32).toInt = 0 := by decide
  have e1 : (11 : Int32).toInt = 11 := by decide
  constructor
  · rw [Int32.lt_iff_toInt_lt]; omega
  · rw [Int32.lt_iff_toInt_lt]; omega
theorem own_pos0 {n : Int32} (h : (0 : Int32) < n) : n ≠ 0 := fun e => by rw [e] at h; exact absurd h (by decide)
theorem own_ix {p n i : Int32} (h : (0 : Int32) < n) (hn : n < (11 : Int32)) (e : i = ((p &&& (2147483647 : Int32)) % n)) : ¬ i < 0 ∧ i < (10 : Int32) := by
  have h1 := c_and p 2147483647 (by decide)
  rw [Int32.lt_iff_toInt_lt] at h hn
  have e0 : (0 : Int32).toInt = 0 := by decide
  have e1 : (11 : Int32).toInt = 11 := by decide
  have e2 : (10 : Int32).toInt = 10 := by decide
  have h2 := (c_iremV (p &&& 2147483647) n).1 h1.1 (by omega)
  rw [← e] at h2
  constructor
  · rw [Int32.lt_iff_toInt_lt]; omega
  · rw [Int32.lt_iff_toInt_lt]; omega
theorem own_ix10 {i : Int32} (h : ¬ i < 0 ∧ i < (10 : Int32)) : i.toNatClampNeg < 10 := by
  obtain ⟨h1, h2⟩ := h
  rw [Int32.lt_iff_toInt_lt] at h1 h2
  have e0 : (0 : Int32).toInt = 0 := by decide
  have e2 : (10 : Int32).toInt = 10 := by decide
  show i.toInt.toNat < 10
  omega
theorem own_set10 (i : Nat) {c c0 c1 c2 c3 c4 c5 c6 c7 c8 c9 : Int32} (hc : ¬ c < 0 ∧ ¬ (255 : Int32) < c) (h0 : ¬ c0 < 0 ∧ ¬ (255 : Int32) < c0) (h1 : ¬ c1 < 0 ∧ ¬ (255 : Int32) < c1) (h2 : ¬ c2 < 0 ∧ ¬ (255 : Int32) < c2) (h3 : ¬ c3 < 0 ∧ ¬ (255 : Int32) < c3) (h4 : ¬ c4 < 0 ∧ ¬ (255 : Int32) < c4) (h5 : ¬ c5 < 0 ∧ ¬ (255 : Int32) < c5) (h6 : ¬ c6 < 0 ∧ ¬ (255 : Int32) < c6) (h7 : ¬ c7 < 0 ∧ ¬ (255 : Int32) < c7) (h8 : ¬ c8 < 0 ∧ ¬ (255 : Int32) < c8) (h9 : ¬ c9 < 0 ∧ ¬ (255 : Int32) < c9) : ∃ d0 d1 d2 d3 d4 d5 d6 d7 d8 d9 : Int32, ([.int c0, .int c1, .int c2, .int c3, .int c4, .int c5, .int c6, .int c7, .int c8, .int c9] : List Value).set i (.int c) = [.int d0, .int d1, .int d2, .int d3, .int d4, .int d5, .int d6, .int d7, .int d8, .int d9] ∧ (¬ d0 < 0 ∧ ¬ (255 : Int32) < d0) ∧ (¬ d1 < 0 ∧ ¬ (255 : Int32) < d1) ∧ (¬ d2 < 0 ∧ ¬ (255 : Int32) < d2) ∧ (¬ d3 < 0 ∧ ¬ (255 : Int32) < d3) ∧ (¬ d4 < 0 ∧ ¬ (255 : Int32) < d4) ∧ (¬ d5 < 0 ∧ ¬ (255 : Int32) < d5) ∧ (¬ d6 < 0 ∧ ¬ (255 : Int32) < d6) ∧ (¬ d7 < 0 ∧ ¬ (255 : Int32) < d7) ∧ (¬ d8 < 0 ∧ ¬ (255 : Int32) < d8) ∧ (¬ d9 < 0 ∧ ¬ (255 : Int32) < d9) :=
  match i with
  | 0 => ⟨c, c1, c2, c3, c4, c5, c6, c7, c8, c9, rfl, hc, h1, h2, h3, h4, h5, h6, h7, h8, h9⟩
  | 1 => ⟨c0, c, c2, c3, c4, c5, c6, c7, c8, c9, rfl, h0, hc, h2, h3, h4, h5, h6, h7, h8, h9⟩
  | 2 => ⟨c0, c1, c, c3, c4, c5, c6, c7, c8, c9, rfl, h0, h1, hc, h3, h4, h5, h6, h7, h8, h9⟩
  | 3 => ⟨c0, c1, c2, c, c4, c5, c6, c7, c8, c9, rfl, h0, h1, h2, hc, h4, h5, h6, h7, h8, h9⟩
  | 4 => ⟨c0, c1, c2, c3, c, c5, c6, c7, c8, c9, rfl, h0, h1, h2, h3, hc, h5, h6, h7, h8, h9⟩
  | 5 => ⟨c0, c1, c2, c3, c4, c, c6, c7, c8, c9, rfl, h0, h1, h2, h3, h4, hc, h6, h7, h8, h9⟩
  | 6 => ⟨c0, c1, c2, c3, c4, c5, c, c7, c8, c9, rfl, h0, h1, h2, h3, h4, h5, hc, h7, h8, h9⟩
  | 7 => ⟨c0, c1, c2, c3, c4, c5, c6, c, c8, c9, rfl, h0, h1, h2, h3, h4, h5, h6, hc, h8, h9⟩
  | 8 => ⟨c0, c1, c2, c3, c4, c5, c6, c7, c, c9, rfl, h0, h1, h2, h3, h4, h5, h6, h7, hc, h9⟩
  | 9 => ⟨c0, c1, c2, c3, c4, c5, c6, c7, c8, c, rfl, h0, h1, h2, h3, h4, h5, h6, h7, h8, hc⟩
  | _ + 10 => ⟨c0, c1, c2, c3, c4, c5, c6, c7, c8, c9, rfl, h0, h1, h2, h3, h4, h5, h6, h7, h8, h9⟩
def own_res (vs : List Int32) (a b c d : Addr) : Value := if vs = ([112, 97, 115, 115, 101, 100] : List Int32) then .ref a else if vs = ([102, 97, 105, 108, 101, 100] : List Int32) then .ref b else if vs = ([97, 98, 111, 114, 116, 101, 100] : List Int32) then .ref c else if vs = ([110, 111, 116, 45, 102, 111, 117, 110, 100] : List Int32) then .ref d else .null
theorem own_rn {vs : List Int32} {a b c d : Addr} (h0 : ¬ vs = ([112, 97, 115, 115, 101, 100] : List Int32)) (h1 : ¬ vs = ([102, 97, 105, 108, 101, 100] : List Int32)) (h2 : ¬ vs = ([97, 98, 111, 114, 116, 101, 100] : List Int32)) (h3 : ¬ vs = ([110, 111, 116, 45, 102, 111, 117, 110, 100] : List Int32)) : own_res vs a b c d = .null := by
  unfold own_res
  rw [if_neg h0, if_neg h1, if_neg h2, if_neg h3]
theorem own_r0 {a b c d : Addr} : own_res ([112, 97, 115, 115, 101, 100] : List Int32) a b c d = .ref a := (if_pos rfl)
theorem own_r1 {a b c d : Addr} : own_res ([102, 97, 105, 108, 101, 100] : List Int32) a b c d = .ref b := (if_neg (by decide)).trans ((if_pos rfl))
theorem own_r2 {a b c d : Addr} : own_res ([97, 98, 111, 114, 116, 101, 100] : List Int32) a b c d = .ref c := (if_neg (by decide)).trans ((if_neg (by decide)).trans ((if_pos rfl)))
theorem own_r3 {a b c d : Addr} : own_res ([110, 111, 116, 45, 102, 111, 117, 110, 100] : List Int32) a b c d = .ref d := (if_neg (by decide)).trans ((if_neg (by decide)).trans ((if_neg (by decide)).trans ((if_pos rfl))))
theorem own_rr (vs : List Int32) (a b c d : Addr) : (own_res vs a b c d).isRef = true := by
  unfold own_res
  split
  · rfl
  · split
    · rfl
    · split
      · rfl
      · split <;> rfl
abbrev OwnMetW (l : Launch) (y : MethodName) (bytes : ByteArray) (ml : Nat) (rt : Option FieldType) (ws : List Jvm.Cond) (rm : Room) (as' : Array Value) (Z : State) (h0 : Heap) (Q : Option Value → Heap → List Loc → Prop) : Prop := MetFree l y (head1 (Jvm.Cond.code y bytes ml rt :: ws) rm) (fun as_ UU => as_ = as' ∧ Z.Warmed39 UU.vm ∧ UU.heap = h0 ∧ CHv Z own_EL UU.vm h0) (fun _ _ _ _ _ => True) (fun _ UU oo UU' => ∃ vv LL, oo = .returned vv ∧ Q vv UU'.heap LL ∧ CHr Z own_EL UU.vm UU.heap UU'.vm UU'.heap ∧ ReturnedEndW UU oo UU' LL rm.cells rm.slots)
theorem d1_0 : decode jdk_42_method_54_code 0 = .ok (.aload_n 0, 1) := by decide +kernel
theorem d1_1 : decode jdk_42_method_54_code 1 = .ok (.getfield 9, 3) := by decide +kernel
theorem d1_4 : decode jdk_42_method_54_code 4 = .ok (.arraylength, 1) := by decide +kernel
theorem d1_5 : decode jdk_42_method_54_code 5 = .ok (.aload_n 0, 1) := by decide +kernel
theorem d1_6 : decode jdk_42_method_54_code 6 = .ok (.invokevirtual 335, 3) := by decide +kernel
theorem d1_9 : decode jdk_42_method_54_code 9 = .ok (.ishr, 1) := by decide +kernel
theorem d1_10 : decode jdk_42_method_54_code 10 = .ok (.ireturn, 1) := by decide +kernel
theorem d2_0 : decode jdk_42_method_152_code 0 = .ok (.getstatic 38, 3) := by decide +kernel
theorem d2_3 : decode jdk_42_method_152_code 3 = .ok (.ifCond .eq 10, 3) := by decide +kernel
theorem d2_6 : decode jdk_42_method_152_code 6 = .ok (.aload_n 0, 1) := by decide +kernel
theorem d2_7 : decode jdk_42_method_152_code 7 = .ok (.getfield 15, 3) := by decide +kernel
theorem d2_10 : decode jdk_42_method_152_code 10 = .ok (.goto 4, 3) := by decide +kernel
theorem d2_14 : decode jdk_42_method_152_code 14 = .ok (.ireturn, 1) := by decide +kernel
theorem d3_0 : decode method_5_code 0 = .ok (.iload_n 0, 1) := by decide +kernel
theorem d3_1 : decode method_5_code 1 = .ok (.aload_n 1, 1) := by decide +kernel
theorem d3_2 : decode method_5_code 2 = .ok (.invokevirtual 18, 3) := by decide +kernel
theorem d3_5 : decode method_5_code 5 = .ok (.if_icmp .ge 9, 3) := by decide +kernel
theorem d3_8 : decode method_5_code 8 = .ok (.aload_n 1, 1) := by decide +kernel
theorem d3_9 : decode method_5_code 9 = .ok (.iload_n 0, 1) := by decide +kernel
theorem d3_10 : decode method_5_code 10 = .ok (.invokevirtual 62, 3) := by decide +kernel
theorem d3_13 : decode method_5_code 13 = .ok (.ireturn, 1) := by decide +kernel
theorem d3_14 : decode method_5_code 14 = .ok (.iload_n 0, 1) := by decide +kernel
theorem d3_15 : decode method_5_code 15 = .ok (.lload_n 2, 1) := by decide +kernel
theorem d3_16 : decode method_5_code 16 = .ok (.lload 4, 2) := by decide +kernel
theorem d3_18 : decode method_5_code 18 = .ok (.invokestatic 66, 3) := by decide +kernel
theorem d3_21 : decode method_5_code 21 = .ok (.ireturn, 1) := by decide +kernel
theorem d4_0 : decode jdk_42_method_56_code 0 = .ok (.aload_n 0, 1) := by decide +kernel
theorem d4_1 : decode jdk_42_method_56_code 1 = .ok (.invokevirtual 492, 3) := by decide +kernel
theorem d4_4 : decode jdk_42_method_56_code 4 = .ok (.ifCond .eq 12, 3) := by decide +kernel
theorem d4_7 : decode jdk_42_method_56_code 7 = .ok (.aload_n 0, 1) := by decide +kernel
theorem d4_8 : decode jdk_42_method_56_code 8 = .ok (.getfield 9, 3) := by decide +kernel
theorem d4_11 : decode jdk_42_method_56_code 11 = .ok (.iload_n 1, 1) := by decide +kernel
theorem d4_12 : decode jdk_42_method_56_code 12 = .ok (.invokestatic 495, 3) := by decide +kernel
theorem d4_15 : decode jdk_42_method_56_code 15 = .ok (.ireturn, 1) := by decide +kernel
theorem d5_0 : decode jdk_42_method_154_code 0 = .ok (.getstatic 38, 3) := by decide +kernel
theorem d5_3 : decode jdk_42_method_154_code 3 = .ok (.ifCond .eq 14, 3) := by decide +kernel
theorem d5_6 : decode jdk_42_method_154_code 6 = .ok (.aload_n 0, 1) := by decide +kernel
theorem d5_7 : decode jdk_42_method_154_code 7 = .ok (.getfield 15, 3) := by decide +kernel
theorem d5_10 : decode jdk_42_method_154_code 10 = .ok (.ifCond .ne 7, 3) := by decide +kernel
theorem d5_13 : decode jdk_42_method_154_code 13 = .ok (.iconst 1, 1) := by decide +kernel
theorem d5_14 : decode jdk_42_method_154_code 14 = .ok (.goto 4, 3) := by decide +kernel
theorem d5_18 : decode jdk_42_method_154_code 18 = .ok (.ireturn, 1) := by decide +kernel
theorem d6_0 : decode jdk_43_method_2_code 0 = .ok (.iload_n 1, 1) := by decide +kernel
theorem d6_1 : decode jdk_43_method_2_code 1 = .ok (.aload_n 0, 1) := by decide +kernel
theorem d6_2 : decode jdk_43_method_2_code 2 = .ok (.arraylength, 1) := by decide +kernel
theorem d6_3 : decode jdk_43_method_2_code 3 = .ok (.invokestatic 9, 3) := by decide +kernel
theorem d6_6 : decode jdk_43_method_2_code 6 = .ok (.aload_n 0, 1) := by decide +kernel
theorem d6_7 : decode jdk_43_method_2_code 7 = .ok (.iload_n 1, 1) := by decide +kernel
theorem d6_8 : decode jdk_43_method_2_code 8 = .ok (.baload, 1) := by decide +kernel
theorem d6_9 : decode jdk_43_method_2_code 9 = .ok (.sipush 255, 3) := by decide +kernel
theorem d6_12 : decode jdk_43_method_2_code 12 = .ok (.iand, 1) := by decide +kernel
theorem d6_13 : decode jdk_43_method_2_code 13 = .ok (.i2c, 1) := by decide +kernel
theorem d6_14 : decode jdk_43_method_2_code 14 = .ok (.ireturn, 1) := by decide +kernel
theorem d7_0 : decode jdk_42_method_155_code 0 = .ok (.iload_n 0, 1) := by decide +kernel
theorem d7_1 : decode jdk_42_method_155_code 1 = .ok (.iload_n 1, 1) := by decide +kernel
theorem d7_2 : decode jdk_42_method_155_code 2 = .ok (.getstatic 1053, 3) := by decide +kernel
theorem d7_5 : decode jdk_42_method_155_code 5 = .ok (.invokestatic 1059, 3) := by decide +kernel
theorem d7_8 : decode jdk_42_method_155_code 8 = .ok (.pop, 1) := by decide +kernel
theorem d7_9 : decode jdk_42_method_155_code 9 = .ok (.return_, 1) := by decide +kernel
theorem d8_0 : decode jdk_41_method_11_code 0 = .ok (.iload_n 0, 1) := by decide +kernel
theorem d8_1 : decode jdk_41_method_11_code 1 = .ok (.ifCond .lt 8, 3) := by decide +kernel
theorem d8_4 : decode jdk_41_method_11_code 4 = .ok (.iload_n 0, 1) := by decide +kernel
theorem d8_5 : decode jdk_41_method_11_code 5 = .ok (.iload_n 1, 1) := by decide +kernel
theorem d8_6 : decode jdk_41_method_11_code 6 = .ok (.if_icmp .lt 10, 3) := by decide +kernel
theorem d8_16 : decode jdk_41_method_11_code 16 = .ok (.iload_n 0, 1) := by decide +kernel
theorem d8_17 : decode jdk_41_method_11_code 17 = .ok (.ireturn, 1) := by decide +kernel
theorem d9_0 : decode method_4_code 0 = .ok (.iload_n 0, 1) := by decide +kernel
theorem d9_1 : decode method_4_code 1 = .ok (.bipush 8, 2) := by decide +kernel
theorem d9_3 : decode method_4_code 3 = .ok (.if_icmp .ge 7, 3) := by decide +kernel
theorem d9_6 : decode method_4_code 6 = .ok (.lload_n 1, 1) := by decide +kernel
theorem d9_7 : decode method_4_code 7 = .ok (.goto 4, 3) := by decide +kernel
theorem d9_10 : decode method_4_code 10 = .ok (.lload_n 3, 1) := by decide +kernel
theorem d9_11 : decode method_4_code 11 = .ok (.lstore 5, 2) := by decide +kernel
theorem d9_13 : decode method_4_code 13 = .ok (.iload_n 0, 1) := by decide +kernel
theorem d9_14 : decode method_4_code 14 = .ok (.bipush 7, 2) := by decide +kernel
theorem d9_16 : decode method_4_code 16 = .ok (.iand, 1) := by decide +kernel
theorem d9_17 : decode method_4_code 17 = .ok (.bipush 8, 2) := by decide +kernel
theorem d9_19 : decode method_4_code 19 = .ok (.imul, 1) := by decide +kernel
theorem d9_20 : decode method_4_code 20 = .ok (.istore 7, 2) := by decide +kernel
theorem d9_22 : decode method_4_code 22 = .ok (.lload 5, 2) := by decide +kernel
theorem d9_24 : decode method_4_code 24 = .ok (.iload 7, 2) := by decide +kernel
theorem d9_26 : decode method_4_code 26 = .ok (.lushr, 1) := by decide +kernel
theorem d9_27 : decode method_4_code 27 = .ok (.ldc2_w 60, 3) := by decide +kernel
theorem d9_30 : decode method_4_code 30 = .ok (.land, 1) := by decide +kernel
theorem d9_31 : decode method_4_code 31 = .ok (.l2i, 1) := by decide +kernel
theorem d9_32 : decode method_4_code 32 = .ok (.i2c, 1) := by decide +kernel
theorem d9_33 : decode method_4_code 33 = .ok (.ireturn, 1) := by decide +kernel
theorem d10_0 : decode method_6_code 0 = .ok (.iload_n 0, 1) := by decide +kernel
theorem d10_1 : decode method_6_code 1 = .ok (.tableswitch 451 0 9 #[55, 66, 83, 106, 135, 170, 211, 259, 315, 379], 55) := by decide +kernel
theorem d10_56 : decode method_6_code 56 = .ok (.new 19, 3) := by decide +kernel
theorem d10_59 : decode method_6_code 59 = .ok (.dup, 1) := by decide +kernel
theorem d10_60 : decode method_6_code 60 = .ok (.iconst 0, 1) := by decide +kernel
theorem d10_61 : decode method_6_code 61 = .ok (.newarray .char, 2) := by decide +kernel
theorem d10_63 : decode method_6_code 63 = .ok (.invokespecial 70, 3) := by decide +kernel
theorem d10_66 : decode method_6_code 66 = .ok (.areturn, 1) := by decide +kernel
theorem d10_67 : decode method_6_code 67 = .ok (.new 19, 3) := by decide +kernel
theorem d10_70 : decode method_6_code 70 = .ok (.dup, 1) := by decide +kernel
theorem d10_71 : decode method_6_code 71 = .ok (.iconst 1, 1) := by decide +kernel
theorem d10_72 : decode method_6_code 72 = .ok (.newarray .char, 2) := by decide +kernel
theorem d10_74 : decode method_6_code 74 = .ok (.dup, 1) := by decide +kernel
theorem d10_75 : decode method_6_code 75 = .ok (.iconst 0, 1) := by decide +kernel
theorem d10_76 : decode method_6_code 76 = .ok (.aload_n 1, 1) := by decide +kernel
theorem d10_77 : decode method_6_code 77 = .ok (.iconst 0, 1) := by decide +kernel
theorem d10_78 : decode method_6_code 78 = .ok (.caload, 1) := by decide +kernel
theorem d10_79 : decode method_6_code 79 = .ok (.castore, 1) := by decide +kernel
theorem d10_80 : decode method_6_code 80 = .ok (.invokespecial 70, 3) := by decide +kernel
theorem d10_83 : decode method_6_code 83 = .ok (.areturn, 1) := by decide +kernel
theorem d10_84 : decode method_6_code 84 = .ok (.new 19, 3) := by decide +kernel
theorem d10_87 : decode method_6_code 87 = .ok (.dup, 1) := by decide +kernel
theorem d10_88 : decode method_6_code 88 = .ok (.iconst 2, 1) := by decide +kernel
theorem d10_89 : decode method_6_code 89 = .ok (.newarray .char, 2) := by decide +kernel
theorem d10_91 : decode method_6_code 91 = .ok (.dup, 1) := by decide +kernel
theorem d10_92 : decode method_6_code 92 = .ok (.iconst 0, 1) := by decide +kernel
theorem d10_93 : decode method_6_code 93 = .ok (.aload_n 1, 1) := by decide +kernel
theorem d10_94 : decode method_6_code 94 = .ok (.iconst 0, 1) := by decide +kernel
theorem d10_95 : decode method_6_code 95 = .ok (.caload, 1) := by decide +kernel
theorem d10_96 : decode method_6_code 96 = .ok (.castore, 1) := by decide +kernel
theorem d10_97 : decode method_6_code 97 = .ok (.dup, 1) := by decide +kernel
theorem d10_98 : decode method_6_code 98 = .ok (.iconst 1, 1) := by decide +kernel
theorem d10_99 : decode method_6_code 99 = .ok (.aload_n 1, 1) := by decide +kernel
theorem d10_100 : decode method_6_code 100 = .ok (.iconst 1, 1) := by decide +kernel
theorem d10_101 : decode method_6_code 101 = .ok (.caload, 1) := by decide +kernel
theorem d10_102 : decode method_6_code 102 = .ok (.castore, 1) := by decide +kernel
theorem d10_103 : decode method_6_code 103 = .ok (.invokespecial 70, 3) := by decide +kernel
theorem d10_106 : decode method_6_code 106 = .ok (.areturn, 1) := by decide +kernel
theorem d10_107 : decode method_6_code 107 = .ok (.new 19, 3) := by decide +kernel
theorem d10_110 : decode method_6_code 110 = .ok (.dup, 1) := by decide +kernel
theorem d10_111 : decode method_6_code 111 = .ok (.iconst 3, 1) := by decide +kernel
theorem d10_112 : decode method_6_code 112 = .ok (.newarray .char, 2) := by decide +kernel
theorem d10_114 : decode method_6_code 114 = .ok (.dup, 1) := by decide +kernel
theorem d10_115 : decode method_6_code 115 = .ok (.iconst 0, 1) := by decide +kernel
theorem d10_116 : decode method_6_code 116 = .ok (.aload_n 1, 1) := by decide +kernel
theorem d10_117 : decode method_6_code 117 = .ok (.iconst 0, 1) := by decide +kernel
theorem d10_118 : decode method_6_code 118 = .ok (.caload, 1) := by decide +kernel
theorem d10_119 : decode method_6_code 119 = .ok (.castore, 1) := by decide +kernel
theorem d10_120 : decode method_6_code 120 = .ok (.dup, 1) := by decide +kernel
theorem d10_121 : decode method_6_code 121 = .ok (.iconst 1, 1) := by decide +kernel
theorem d10_122 : decode method_6_code 122 = .ok (.aload_n 1, 1) := by decide +kernel
theorem d10_123 : decode method_6_code 123 = .ok (.iconst 1, 1) := by decide +kernel
theorem d10_124 : decode method_6_code 124 = .ok (.caload, 1) := by decide +kernel
theorem d10_125 : decode method_6_code 125 = .ok (.castore, 1) := by decide +kernel
theorem d10_126 : decode method_6_code 126 = .ok (.dup, 1) := by decide +kernel
theorem d10_127 : decode method_6_code 127 = .ok (.iconst 2, 1) := by decide +kernel
theorem d10_128 : decode method_6_code 128 = .ok (.aload_n 1, 1) := by decide +kernel
theorem d10_129 : decode method_6_code 129 = .ok (.iconst 2, 1) := by decide +kernel
theorem d10_130 : decode method_6_code 130 = .ok (.caload, 1) := by decide +kernel
theorem d10_131 : decode method_6_code 131 = .ok (.castore, 1) := by decide +kernel
theorem d10_132 : decode method_6_code 132 = .ok (.invokespecial 70, 3) := by decide +kernel
theorem d10_135 : decode method_6_code 135 = .ok (.areturn, 1) := by decide +kernel
theorem d10_136 : decode method_6_code 136 = .ok (.new 19, 3) := by decide +kernel
theorem d10_139 : decode method_6_code 139 = .ok (.dup, 1) := by decide +kernel
theorem d10_140 : decode method_6_code 140 = .ok (.iconst 4, 1) := by decide +kernel
theorem d10_141 : decode method_6_code 141 = .ok (.newarray .char, 2) := by decide +kernel
theorem d10_143 : decode method_6_code 143 = .ok (.dup, 1) := by decide +kernel
theorem d10_144 : decode method_6_code 144 = .ok (.iconst 0, 1) := by decide +kernel
theorem d10_145 : decode method_6_code 145 = .ok (.aload_n 1, 1) := by decide +kernel
theorem d10_146 : decode method_6_code 146 = .ok (.iconst 0, 1) := by decide +kernel
theorem d10_147 : decode method_6_code 147 = .ok (.caload, 1) := by decide +kernel
theorem d10_148 : decode method_6_code 148 = .ok (.castore, 1) := by decide +kernel
theorem d10_149 : decode method_6_code 149 = .ok (.dup, 1) := by decide +kernel
theorem d10_150 : decode method_6_code 150 = .ok (.iconst 1, 1) := by decide +kernel
theorem d10_151 : decode method_6_code 151 = .ok (.aload_n 1, 1) := by decide +kernel
theorem d10_152 : decode method_6_code 152 = .ok (.iconst 1, 1) := by decide +kernel
theorem d10_153 : decode method_6_code 153 = .ok (.caload, 1) := by decide +kernel
theorem d10_154 : decode method_6_code 154 = .ok (.castore, 1) := by decide +kernel
theorem d10_155 : decode method_6_code 155 = .ok (.dup, 1) := by decide +kernel
theorem d10_156 : decode method_6_code 156 = .ok (.iconst 2, 1) := by decide +kernel
theorem d10_157 : decode method_6_code 157 = .ok (.aload_n 1, 1) := by decide +kernel
theorem d10_158 : decode method_6_code 158 = .ok (.iconst 2, 1) := by decide +kernel
theorem d10_159 : decode method_6_code 159 = .ok (.caload, 1) := by decide +kernel
theorem d10_160 : decode method_6_code 160 = .ok (.castore, 1) := by decide +kernel
theorem d10_161 : decode method_6_code 161 = .ok (.dup, 1) := by decide +kernel
theorem d10_162 : decode method_6_code 162 = .ok (.iconst 3, 1) := by decide +kernel
theorem d10_163 : decode method_6_code 163 = .ok (.aload_n 1, 1) := by decide +kernel
theorem d10_164 : decode method_6_code 164 = .ok (.iconst 3, 1) := by decide +kernel
theorem d10_165 : decode method_6_code 165 = .ok (.caload, 1) := by decide +kernel
theorem d10_166 : decode method_6_code 166 = .ok (.castore, 1) := by decide +kernel
theorem d10_167 : decode method_6_code 167 = .ok (.invokespecial 70, 3) := by decide +kernel
theorem d10_170 : decode method_6_code 170 = .ok (.areturn, 1) := by decide +kernel
theorem d10_171 : decode method_6_code 171 = .ok (.new 19, 3) := by decide +kernel
theorem d10_174 : decode method_6_code 174 = .ok (.dup, 1) := by decide +kernel
theorem d10_175 : decode method_6_code 175 = .ok (.iconst 5, 1) := by decide +kernel
theorem d10_176 : decode method_6_code 176 = .ok (.newarray .char, 2) := by decide +kernel
theorem d10_178 : decode method_6_code 178 = .ok (.dup, 1) := by decide +kernel
theorem d10_179 : decode method_6_code 179 = .ok (.iconst 0, 1) := by decide +kernel
theorem d10_180 : decode method_6_code 180 = .ok (.aload_n 1, 1) := by decide +kernel
theorem d10_181 : decode method_6_code 181 = .ok (.iconst 0, 1) := by decide +kernel
theorem d10_182 : decode method_6_code 182 = .ok (.caload, 1) := by decide +kernel
theorem d10_183 : decode method_6_code 183 = .ok (.castore, 1) := by decide +kernel
theorem d10_184 : decode method_6_code 184 = .ok (.dup, 1) := by decide +kernel
theorem d10_185 : decode method_6_code 185 = .ok (.iconst 1, 1) := by decide +kernel
theorem d10_186 : decode method_6_code 186 = .ok (.aload_n 1, 1) := by decide +kernel
theorem d10_187 : decode method_6_code 187 = .ok (.iconst 1, 1) := by decide +kernel
theorem d10_188 : decode method_6_code 188 = .ok (.caload, 1) := by decide +kernel
theorem d10_189 : decode method_6_code 189 = .ok (.castore, 1) := by decide +kernel
theorem d10_190 : decode method_6_code 190 = .ok (.dup, 1) := by decide +kernel
theorem d10_191 : decode method_6_code 191 = .ok (.iconst 2, 1) := by decide +kernel
theorem d10_192 : decode method_6_code 192 = .ok (.aload_n 1, 1) := by decide +kernel
theorem d10_193 : decode method_6_code 193 = .ok (.iconst 2, 1) := by decide +kernel
theorem d10_194 : decode method_6_code 194 = .ok (.caload, 1) := by decide +kernel
theorem d10_195 : decode method_6_code 195 = .ok (.castore, 1) := by decide +kernel
theorem d10_196 : decode method_6_code 196 = .ok (.dup, 1) := by decide +kernel
theorem d10_197 : decode method_6_code 197 = .ok (.iconst 3, 1) := by decide +kernel
theorem d10_198 : decode method_6_code 198 = .ok (.aload_n 1, 1) := by decide +kernel
theorem d10_199 : decode method_6_code 199 = .ok (.iconst 3, 1) := by decide +kernel
theorem d10_200 : decode method_6_code 200 = .ok (.caload, 1) := by decide +kernel
theorem d10_201 : decode method_6_code 201 = .ok (.castore, 1) := by decide +kernel
theorem d10_202 : decode method_6_code 202 = .ok (.dup, 1) := by decide +kernel
theorem d10_203 : decode method_6_code 203 = .ok (.iconst 4, 1) := by decide +kernel
theorem d10_204 : decode method_6_code 204 = .ok (.aload_n 1, 1) := by decide +kernel
theorem d10_205 : decode method_6_code 205 = .ok (.iconst 4, 1) := by decide +kernel
theorem d10_206 : decode method_6_code 206 = .ok (.caload, 1) := by decide +kernel
theorem d10_207 : decode method_6_code 207 = .ok (.castore, 1) := by decide +kernel
theorem d10_208 : decode method_6_code 208 = .ok (.invokespecial 70, 3) := by decide +kernel
theorem d10_211 : decode method_6_code 211 = .ok (.areturn, 1) := by decide +kernel
theorem d10_212 : decode method_6_code 212 = .ok (.new 19, 3) := by decide +kernel
theorem d10_215 : decode method_6_code 215 = .ok (.dup, 1) := by decide +kernel
theorem d10_216 : decode method_6_code 216 = .ok (.bipush 6, 2) := by decide +kernel
theorem d10_218 : decode method_6_code 218 = .ok (.newarray .char, 2) := by decide +kernel
theorem d10_220 : decode method_6_code 220 = .ok (.dup, 1) := by decide +kernel
theorem d10_221 : decode method_6_code 221 = .ok (.iconst 0, 1) := by decide +kernel
theorem d10_222 : decode method_6_code 222 = .ok (.aload_n 1, 1) := by decide +kernel
theorem d10_223 : decode method_6_code 223 = .ok (.iconst 0, 1) := by decide +kernel
theorem d10_224 : decode method_6_code 224 = .ok (.caload, 1) := by decide +kernel
theorem d10_225 : decode method_6_code 225 = .ok (.castore, 1) := by decide +kernel
theorem d10_226 : decode method_6_code 226 = .ok (.dup, 1) := by decide +kernel
theorem d10_227 : decode method_6_code 227 = .ok (.iconst 1, 1) := by decide +kernel
theorem d10_228 : decode method_6_code 228 = .ok (.aload_n 1, 1) := by decide +kernel
theorem d10_229 : decode method_6_code 229 = .ok (.iconst 1, 1) := by decide +kernel
theorem d10_230 : decode method_6_code 230 = .ok (.caload, 1) := by decide +kernel
theorem d10_231 : decode method_6_code 231 = .ok (.castore, 1) := by decide +kernel
theorem d10_232 : decode method_6_code 232 = .ok (.dup, 1) := by decide +kernel
theorem d10_233 : decode method_6_code 233 = .ok (.iconst 2, 1) := by decide +kernel
theorem d10_234 : decode method_6_code 234 = .ok (.aload_n 1, 1) := by decide +kernel
theorem d10_235 : decode method_6_code 235 = .ok (.iconst 2, 1) := by decide +kernel
theorem d10_236 : decode method_6_code 236 = .ok (.caload, 1) := by decide +kernel
theorem d10_237 : decode method_6_code 237 = .ok (.castore, 1) := by decide +kernel
theorem d10_238 : decode method_6_code 238 = .ok (.dup, 1) := by decide +kernel
theorem d10_239 : decode method_6_code 239 = .ok (.iconst 3, 1) := by decide +kernel
theorem d10_240 : decode method_6_code 240 = .ok (.aload_n 1, 1) := by decide +kernel
theorem d10_241 : decode method_6_code 241 = .ok (.iconst 3, 1) := by decide +kernel
theorem d10_242 : decode method_6_code 242 = .ok (.caload, 1) := by decide +kernel
theorem d10_243 : decode method_6_code 243 = .ok (.castore, 1) := by decide +kernel
theorem d10_244 : decode method_6_code 244 = .ok (.dup, 1) := by decide +kernel
theorem d10_245 : decode method_6_code 245 = .ok (.iconst 4, 1) := by decide +kernel
theorem d10_246 : decode method_6_code 246 = .ok (.aload_n 1, 1) := by decide +kernel
theorem d10_247 : decode method_6_code 247 = .ok (.iconst 4, 1) := by decide +kernel
theorem d10_248 : decode method_6_code 248 = .ok (.caload, 1) := by decide +kernel
theorem d10_249 : decode method_6_code 249 = .ok (.castore, 1) := by decide +kernel
theorem d10_250 : decode method_6_code 250 = .ok (.dup, 1) := by decide +kernel
theorem d10_251 : decode method_6_code 251 = .ok (.iconst 5, 1) := by decide +kernel
theorem d10_252 : decode method_6_code 252 = .ok (.aload_n 1, 1) := by decide +kernel
theorem d10_253 : decode method_6_code 253 = .ok (.iconst 5, 1) := by decide +kernel
theorem d10_254 : decode method_6_code 254 = .ok (.caload, 1) := by decide +kernel
theorem d10_255 : decode method_6_code 255 = .ok (.castore, 1) := by decide +kernel
theorem d10_256 : decode method_6_code 256 = .ok (.invokespecial 70, 3) := by decide +kernel
theorem d10_259 : decode method_6_code 259 = .ok (.areturn, 1) := by decide +kernel
theorem d10_260 : decode method_6_code 260 = .ok (.new 19, 3) := by decide +kernel
theorem d10_263 : decode method_6_code 263 = .ok (.dup, 1) := by decide +kernel
theorem d10_264 : decode method_6_code 264 = .ok (.bipush 7, 2) := by decide +kernel
theorem d10_266 : decode method_6_code 266 = .ok (.newarray .char, 2) := by decide +kernel
theorem d10_268 : decode method_6_code 268 = .ok (.dup, 1) := by decide +kernel
theorem d10_269 : decode method_6_code 269 = .ok (.iconst 0, 1) := by decide +kernel
theorem d10_270 : decode method_6_code 270 = .ok (.aload_n 1, 1) := by decide +kernel
theorem d10_271 : decode method_6_code 271 = .ok (.iconst 0, 1) := by decide +kernel
theorem d10_272 : decode method_6_code 272 = .ok (.caload, 1) := by decide +kernel
theorem d10_273 : decode method_6_code 273 = .ok (.castore, 1) := by decide +kernel
theorem d10_274 : decode method_6_code 274 = .ok (.dup, 1) := by decide +kernel
theorem d10_275 : decode method_6_code 275 = .ok (.iconst 1, 1) := by decide +kernel
theorem d10_276 : decode method_6_code 276 = .ok (.aload_n 1, 1) := by decide +kernel
theorem d10_277 : decode method_6_code 277 = .ok (.iconst 1, 1) := by decide +kernel
theorem d10_278 : decode method_6_code 278 = .ok (.caload, 1) := by decide +kernel
theorem d10_279 : decode method_6_code 279 = .ok (.castore, 1) := by decide +kernel
theorem d10_280 : decode method_6_code 280 = .ok (.dup, 1) := by decide +kernel
theorem d10_281 : decode method_6_code 281 = .ok (.iconst 2, 1) := by decide +kernel
theorem d10_282 : decode method_6_code 282 = .ok (.aload_n 1, 1) := by decide +kernel
theorem d10_283 : decode method_6_code 283 = .ok (.iconst 2, 1) := by decide +kernel
theorem d10_284 : decode method_6_code 284 = .ok (.caload, 1) := by decide +kernel
theorem d10_285 : decode method_6_code 285 = .ok (.castore, 1) := by decide +kernel
theorem d10_286 : decode method_6_code 286 = .ok (.dup, 1) := by decide +kernel
theorem d10_287 : decode method_6_code 287 = .ok (.iconst 3, 1) := by decide +kernel
theorem d10_288 : decode method_6_code 288 = .ok (.aload_n 1, 1) := by decide +kernel
theorem d10_289 : decode method_6_code 289 = .ok (.iconst 3, 1) := by decide +kernel
theorem d10_290 : decode method_6_code 290 = .ok (.caload, 1) := by decide +kernel
theorem d10_291 : decode method_6_code 291 = .ok (.castore, 1) := by decide +kernel
theorem d10_292 : decode method_6_code 292 = .ok (.dup, 1) := by decide +kernel
theorem d10_293 : decode method_6_code 293 = .ok (.iconst 4, 1) := by decide +kernel
theorem d10_294 : decode method_6_code 294 = .ok (.aload_n 1, 1) := by decide +kernel
theorem d10_295 : decode method_6_code 295 = .ok (.iconst 4, 1) := by decide +kernel
theorem d10_296 : decode method_6_code 296 = .ok (.caload, 1) := by decide +kernel
theorem d10_297 : decode method_6_code 297 = .ok (.castore, 1) := by decide +kernel
theorem d10_298 : decode method_6_code 298 = .ok (.dup, 1) := by decide +kernel
theorem d10_299 : decode method_6_code 299 = .ok (.iconst 5, 1) := by decide +kernel
theorem d10_300 : decode method_6_code 300 = .ok (.aload_n 1, 1) := by decide +kernel
theorem d10_301 : decode method_6_code 301 = .ok (.iconst 5, 1) := by decide +kernel
theorem d10_302 : decode method_6_code 302 = .ok (.caload, 1) := by decide +kernel
theorem d10_303 : decode method_6_code 303 = .ok (.castore, 1) := by decide +kernel
theorem d10_304 : decode method_6_code 304 = .ok (.dup, 1) := by decide +kernel
theorem d10_305 : decode method_6_code 305 = .ok (.bipush 6, 2) := by decide +kernel
theorem d10_307 : decode method_6_code 307 = .ok (.aload_n 1, 1) := by decide +kernel
theorem d10_308 : decode method_6_code 308 = .ok (.bipush 6, 2) := by decide +kernel
theorem d10_310 : decode method_6_code 310 = .ok (.caload, 1) := by decide +kernel
theorem d10_311 : decode method_6_code 311 = .ok (.castore, 1) := by decide +kernel
theorem d10_312 : decode method_6_code 312 = .ok (.invokespecial 70, 3) := by decide +kernel
theorem d10_315 : decode method_6_code 315 = .ok (.areturn, 1) := by decide +kernel
theorem d10_316 : decode method_6_code 316 = .ok (.new 19, 3) := by decide +kernel
theorem d10_319 : decode method_6_code 319 = .ok (.dup, 1) := by decide +kernel
theorem d10_320 : decode method_6_code 320 = .ok (.bipush 8, 2) := by decide +kernel
theorem d10_322 : decode method_6_code 322 = .ok (.newarray .char, 2) := by decide +kernel
theorem d10_324 : decode method_6_code 324 = .ok (.dup, 1) := by decide +kernel
theorem d10_325 : decode method_6_code 325 = .ok (.iconst 0, 1) := by decide +kernel
theorem d10_326 : decode method_6_code 326 = .ok (.aload_n 1, 1) := by decide +kernel
theorem d10_327 : decode method_6_code 327 = .ok (.iconst 0, 1) := by decide +kernel
theorem d10_328 : decode method_6_code 328 = .ok (.caload, 1) := by decide +kernel
theorem d10_329 : decode method_6_code 329 = .ok (.castore, 1) := by decide +kernel
theorem d10_330 : decode method_6_code 330 = .ok (.dup, 1) := by decide +kernel
theorem d10_331 : decode method_6_code 331 = .ok (.iconst 1, 1) := by decide +kernel
theorem d10_332 : decode method_6_code 332 = .ok (.aload_n 1, 1) := by decide +kernel
theorem d10_333 : decode method_6_code 333 = .ok (.iconst 1, 1) := by decide +kernel
theorem d10_334 : decode method_6_code 334 = .ok (.caload, 1) := by decide +kernel
theorem d10_335 : decode method_6_code 335 = .ok (.castore, 1) := by decide +kernel
theorem d10_336 : decode method_6_code 336 = .ok (.dup, 1) := by decide +kernel
theorem d10_337 : decode method_6_code 337 = .ok (.iconst 2, 1) := by decide +kernel
theorem d10_338 : decode method_6_code 338 = .ok (.aload_n 1, 1) := by decide +kernel
theorem d10_339 : decode method_6_code 339 = .ok (.iconst 2, 1) := by decide +kernel
theorem d10_340 : decode method_6_code 340 = .ok (.caload, 1) := by decide +kernel
theorem d10_341 : decode method_6_code 341 = .ok (.castore, 1) := by decide +kernel
theorem d10_342 : decode method_6_code 342 = .ok (.dup, 1) := by decide +kernel
theorem d10_343 : decode method_6_code 343 = .ok (.iconst 3, 1) := by decide +kernel
theorem d10_344 : decode method_6_code 344 = .ok (.aload_n 1, 1) := by decide +kernel
theorem d10_345 : decode method_6_code 345 = .ok (.iconst 3, 1) := by decide +kernel
theorem d10_346 : decode method_6_code 346 = .ok (.caload, 1) := by decide +kernel
theorem d10_347 : decode method_6_code 347 = .ok (.castore, 1) := by decide +kernel
theorem d10_348 : decode method_6_code 348 = .ok (.dup, 1) := by decide +kernel
theorem d10_349 : decode method_6_code 349 = .ok (.iconst 4, 1) := by decide +kernel
theorem d10_350 : decode method_6_code 350 = .ok (.aload_n 1, 1) := by decide +kernel
theorem d10_351 : decode method_6_code 351 = .ok (.iconst 4, 1) := by decide +kernel
theorem d10_352 : decode method_6_code 352 = .ok (.caload, 1) := by decide +kernel
theorem d10_353 : decode method_6_code 353 = .ok (.castore, 1) := by decide +kernel
theorem d10_354 : decode method_6_code 354 = .ok (.dup, 1) := by decide +kernel
theorem d10_355 : decode method_6_code 355 = .ok (.iconst 5, 1) := by decide +kernel
theorem d10_356 : decode method_6_code 356 = .ok (.aload_n 1, 1) := by decide +kernel
theorem d10_357 : decode method_6_code 357 = .ok (.iconst 5, 1) := by decide +kernel
theorem d10_358 : decode method_6_code 358 = .ok (.caload, 1) := by decide +kernel
theorem d10_359 : decode method_6_code 359 = .ok (.castore, 1) := by decide +kernel
theorem d10_360 : decode method_6_code 360 = .ok (.dup, 1) := by decide +kernel
theorem d10_361 : decode method_6_code 361 = .ok (.bipush 6, 2) := by decide +kernel
theorem d10_363 : decode method_6_code 363 = .ok (.aload_n 1, 1) := by decide +kernel
theorem d10_364 : decode method_6_code 364 = .ok (.bipush 6, 2) := by decide +kernel
theorem d10_366 : decode method_6_code 366 = .ok (.caload, 1) := by decide +kernel
theorem d10_367 : decode method_6_code 367 = .ok (.castore, 1) := by decide +kernel
theorem d10_368 : decode method_6_code 368 = .ok (.dup, 1) := by decide +kernel
theorem d10_369 : decode method_6_code 369 = .ok (.bipush 7, 2) := by decide +kernel
theorem d10_371 : decode method_6_code 371 = .ok (.aload_n 1, 1) := by decide +kernel
theorem d10_372 : decode method_6_code 372 = .ok (.bipush 7, 2) := by decide +kernel
theorem d10_374 : decode method_6_code 374 = .ok (.caload, 1) := by decide +kernel
theorem d10_375 : decode method_6_code 375 = .ok (.castore, 1) := by decide +kernel
theorem d10_376 : decode method_6_code 376 = .ok (.invokespecial 70, 3) := by decide +kernel
theorem d10_379 : decode method_6_code 379 = .ok (.areturn, 1) := by decide +kernel
theorem d10_380 : decode method_6_code 380 = .ok (.new 19, 3) := by decide +kernel
theorem d10_383 : decode method_6_code 383 = .ok (.dup, 1) := by decide +kernel
theorem d10_384 : decode method_6_code 384 = .ok (.bipush 9, 2) := by decide +kernel
theorem d10_386 : decode method_6_code 386 = .ok (.newarray .char, 2) := by decide +kernel
theorem d10_388 : decode method_6_code 388 = .ok (.dup, 1) := by decide +kernel
theorem d10_389 : decode method_6_code 389 = .ok (.iconst 0, 1) := by decide +kernel
theorem d10_390 : decode method_6_code 390 = .ok (.aload_n 1, 1) := by decide +kernel
theorem d10_391 : decode method_6_code 391 = .ok (.iconst 0, 1) := by decide +kernel
theorem d10_392 : decode method_6_code 392 = .ok (.caload, 1) := by decide +kernel
theorem d10_393 : decode method_6_code 393 = .ok (.castore, 1) := by decide +kernel
theorem d10_394 : decode method_6_code 394 = .ok (.dup, 1) := by decide +kernel
theorem d10_395 : decode method_6_code 395 = .ok (.iconst 1, 1) := by decide +kernel
theorem d10_396 : decode method_6_code 396 = .ok (.aload_n 1, 1) := by decide +kernel
theorem d10_397 : decode method_6_code 397 = .ok (.iconst 1, 1) := by decide +kernel
theorem d10_398 : decode method_6_code 398 = .ok (.caload, 1) := by decide +kernel
theorem d10_399 : decode method_6_code 399 = .ok (.castore, 1) := by decide +kernel
theorem d10_400 : decode method_6_code 400 = .ok (.dup, 1) := by decide +kernel
theorem d10_401 : decode method_6_code 401 = .ok (.iconst 2, 1) := by decide +kernel
theorem d10_402 : decode method_6_code 402 = .ok (.aload_n 1, 1) := by decide +kernel
theorem d10_403 : decode method_6_code 403 = .ok (.iconst 2, 1) := by decide +kernel
theorem d10_404 : decode method_6_code 404 = .ok (.caload, 1) := by decide +kernel
theorem d10_405 : decode method_6_code 405 = .ok (.castore, 1) := by decide +kernel
theorem d10_406 : decode method_6_code 406 = .ok (.dup, 1) := by decide +kernel
theorem d10_407 : decode method_6_code 407 = .ok (.iconst 3, 1) := by decide +kernel
theorem d10_408 : decode method_6_code 408 = .ok (.aload_n 1, 1) := by decide +kernel
theorem d10_409 : decode method_6_code 409 = .ok (.iconst 3, 1) := by decide +kernel
theorem d10_410 : decode method_6_code 410 = .ok (.caload, 1) := by decide +kernel
theorem d10_411 : decode method_6_code 411 = .ok (.castore, 1) := by decide +kernel
theorem d10_412 : decode method_6_code 412 = .ok (.dup, 1) := by decide +kernel
theorem d10_413 : decode method_6_code 413 = .ok (.iconst 4, 1) := by decide +kernel
theorem d10_414 : decode method_6_code 414 = .ok (.aload_n 1, 1) := by decide +kernel
theorem d10_415 : decode method_6_code 415 = .ok (.iconst 4, 1) := by decide +kernel
theorem d10_416 : decode method_6_code 416 = .ok (.caload, 1) := by decide +kernel
theorem d10_417 : decode method_6_code 417 = .ok (.castore, 1) := by decide +kernel
theorem d10_418 : decode method_6_code 418 = .ok (.dup, 1) := by decide +kernel
theorem d10_419 : decode method_6_code 419 = .ok (.iconst 5, 1) := by decide +kernel
theorem d10_420 : decode method_6_code 420 = .ok (.aload_n 1, 1) := by decide +kernel
theorem d10_421 : decode method_6_code 421 = .ok (.iconst 5, 1) := by decide +kernel
theorem d10_422 : decode method_6_code 422 = .ok (.caload, 1) := by decide +kernel
theorem d10_423 : decode method_6_code 423 = .ok (.castore, 1) := by decide +kernel
theorem d10_424 : decode method_6_code 424 = .ok (.dup, 1) := by decide +kernel
theorem d10_425 : decode method_6_code 425 = .ok (.bipush 6, 2) := by decide +kernel
theorem d10_427 : decode method_6_code 427 = .ok (.aload_n 1, 1) := by decide +kernel
theorem d10_428 : decode method_6_code 428 = .ok (.bipush 6, 2) := by decide +kernel
theorem d10_430 : decode method_6_code 430 = .ok (.caload, 1) := by decide +kernel
theorem d10_431 : decode method_6_code 431 = .ok (.castore, 1) := by decide +kernel
theorem d10_432 : decode method_6_code 432 = .ok (.dup, 1) := by decide +kernel
theorem d10_433 : decode method_6_code 433 = .ok (.bipush 7, 2) := by decide +kernel
theorem d10_435 : decode method_6_code 435 = .ok (.aload_n 1, 1) := by decide +kernel
theorem d10_436 : decode method_6_code 436 = .ok (.bipush 7, 2) := by decide +kernel
theorem d10_438 : decode method_6_code 438 = .ok (.caload, 1) := by decide +kernel
theorem d10_439 : decode method_6_code 439 = .ok (.castore, 1) := by decide +kernel
theorem d10_440 : decode method_6_code 440 = .ok (.dup, 1) := by decide +kernel
theorem d10_441 : decode method_6_code 441 = .ok (.bipush 8, 2) := by decide +kernel
theorem d10_443 : decode method_6_code 443 = .ok (.aload_n 1, 1) := by decide +kernel
theorem d10_444 : decode method_6_code 444 = .ok (.bipush 8, 2) := by decide +kernel
theorem d10_446 : decode method_6_code 446 = .ok (.caload, 1) := by decide +kernel
theorem d10_447 : decode method_6_code 447 = .ok (.castore, 1) := by decide +kernel
theorem d10_448 : decode method_6_code 448 = .ok (.invokespecial 70, 3) := by decide +kernel
theorem d10_451 : decode method_6_code 451 = .ok (.areturn, 1) := by decide +kernel
theorem d10_452 : decode method_6_code 452 = .ok (.new 19, 3) := by decide +kernel
theorem d10_455 : decode method_6_code 455 = .ok (.dup, 1) := by decide +kernel
theorem d10_456 : decode method_6_code 456 = .ok (.aload_n 1, 1) := by decide +kernel
theorem d10_457 : decode method_6_code 457 = .ok (.invokespecial 70, 3) := by decide +kernel
theorem d10_460 : decode method_6_code 460 = .ok (.areturn, 1) := by decide +kernel
theorem d11_0 : decode jdk_42_method_3_code 0 = .ok (.aload_n 0, 1) := by decide +kernel
theorem d11_1 : decode jdk_42_method_3_code 1 = .ok (.aload_n 1, 1) := by decide +kernel
theorem d11_2 : decode jdk_42_method_3_code 2 = .ok (.iconst 0, 1) := by decide +kernel
theorem d11_3 : decode jdk_42_method_3_code 3 = .ok (.aload_n 1, 1) := by decide +kernel
theorem d11_4 : decode jdk_42_method_3_code 4 = .ok (.arraylength, 1) := by decide +kernel
theorem d11_5 : decode jdk_42_method_3_code 5 = .ok (.aconst_null, 1) := by decide +kernel
theorem d11_6 : decode jdk_42_method_3_code 6 = .ok (.invokespecial 27, 3) := by decide +kernel
theorem d11_9 : decode jdk_42_method_3_code 9 = .ok (.return_, 1) := by decide +kernel
theorem d12_0 : decode jdk_42_method_149_code 0 = .ok (.aload_n 0, 1) := by decide +kernel
theorem d12_1 : decode jdk_42_method_149_code 1 = .ok (.invokespecial 1, 3) := by decide +kernel
theorem d12_4 : decode jdk_42_method_149_code 4 = .ok (.iload_n 3, 1) := by decide +kernel
theorem d12_5 : decode jdk_42_method_149_code 5 = .ok (.ifCond .ne 22, 3) := by decide +kernel
theorem d12_8 : decode jdk_42_method_149_code 8 = .ok (.aload_n 0, 1) := by decide +kernel
theorem d12_9 : decode jdk_42_method_149_code 9 = .ok (.ldc 7, 2) := by decide +kernel
theorem d12_11 : decode jdk_42_method_149_code 11 = .ok (.getfield 9, 3) := by decide +kernel
theorem d12_14 : decode jdk_42_method_149_code 14 = .ok (.putfield 9, 3) := by decide +kernel
theorem d12_17 : decode jdk_42_method_149_code 17 = .ok (.aload_n 0, 1) := by decide +kernel
theorem d12_18 : decode jdk_42_method_149_code 18 = .ok (.ldc 7, 2) := by decide +kernel
theorem d12_20 : decode jdk_42_method_149_code 20 = .ok (.getfield 15, 3) := by decide +kernel
theorem d12_23 : decode jdk_42_method_149_code 23 = .ok (.putfield 15, 3) := by decide +kernel
theorem d12_26 : decode jdk_42_method_149_code 26 = .ok (.return_, 1) := by decide +kernel
theorem d17_0 : decode prog_31_method_5_code 0 = .ok (.aconst_null, 1) := by decide +kernel
theorem d17_1 : decode prog_31_method_5_code 1 = .ok (.astore_n 1, 1) := by decide +kernel
theorem d17_2 : decode prog_31_method_5_code 2 = .ok (.invokestatic 39, 3) := by decide +kernel
theorem d17_5 : decode prog_31_method_5_code 5 = .ok (.astore_n 2, 1) := by decide +kernel
theorem d17_6 : decode prog_31_method_5_code 6 = .ok (.aload_n 2, 1) := by decide +kernel
theorem d17_7 : decode prog_31_method_5_code 7 = .ok (.arraylength, 1) := by decide +kernel
theorem d17_8 : decode prog_31_method_5_code 8 = .ok (.istore_n 3, 1) := by decide +kernel
theorem d17_9 : decode prog_31_method_5_code 9 = .ok (.iconst 0, 1) := by decide +kernel
theorem d17_10 : decode prog_31_method_5_code 10 = .ok (.istore 4, 2) := by decide +kernel
theorem d17_12 : decode prog_31_method_5_code 12 = .ok (.iload 4, 2) := by decide +kernel
theorem d17_14 : decode prog_31_method_5_code 14 = .ok (.iload_n 3, 1) := by decide +kernel
theorem d17_15 : decode prog_31_method_5_code 15 = .ok (.if_icmp .ge 30, 3) := by decide +kernel
theorem d17_18 : decode prog_31_method_5_code 18 = .ok (.aload_n 2, 1) := by decide +kernel
theorem d17_19 : decode prog_31_method_5_code 19 = .ok (.iload 4, 2) := by decide +kernel
theorem d17_21 : decode prog_31_method_5_code 21 = .ok (.aaload, 1) := by decide +kernel
theorem d17_22 : decode prog_31_method_5_code 22 = .ok (.astore 5, 2) := by decide +kernel
theorem d17_24 : decode prog_31_method_5_code 24 = .ok (.aload 5, 2) := by decide +kernel
theorem d17_26 : decode prog_31_method_5_code 26 = .ok (.getfield 35, 3) := by decide +kernel
theorem d17_29 : decode prog_31_method_5_code 29 = .ok (.aload_n 0, 1) := by decide +kernel
theorem d17_30 : decode prog_31_method_5_code 30 = .ok (.invokevirtual 43, 3) := by decide +kernel
theorem d17_33 : decode prog_31_method_5_code 33 = .ok (.ifCond .eq 6, 3) := by decide +kernel
theorem d17_36 : decode prog_31_method_5_code 36 = .ok (.aload 5, 2) := by decide +kernel
theorem d17_38 : decode prog_31_method_5_code 38 = .ok (.astore_n 1, 1) := by decide +kernel
theorem d17_39 : decode prog_31_method_5_code 39 = .ok (.iinc 4 1, 3) := by decide +kernel
theorem d17_42 : decode prog_31_method_5_code 42 = .ok (.goto (-30), 3) := by decide +kernel
theorem d17_45 : decode prog_31_method_5_code 45 = .ok (.aload_n 1, 1) := by decide +kernel
theorem d17_46 : decode prog_31_method_5_code 46 = .ok (.areturn, 1) := by decide +kernel
theorem d18_0 : decode prog_31_method_1_code 0 = .ok (.getstatic 16, 3) := by decide +kernel
theorem d18_3 : decode prog_31_method_1_code 3 = .ok (.invokevirtual 20, 3) := by decide +kernel
theorem d18_6 : decode prog_31_method_1_code 6 = .ok (.checkcast 21, 3) := by decide +kernel
theorem d18_9 : decode prog_31_method_1_code 9 = .ok (.areturn, 1) := by decide +kernel
theorem d19_0 : decode jdk_42_method_66_code 0 = .ok (.aload_n 0, 1) := by decide +kernel
theorem d19_1 : decode jdk_42_method_66_code 1 = .ok (.aload_n 1, 1) := by decide +kernel
theorem d19_2 : decode jdk_42_method_66_code 2 = .ok (.if_acmp .ne 5, 3) := by decide +kernel
theorem d19_5 : decode jdk_42_method_66_code 5 = .ok (.iconst 1, 1) := by decide +kernel
theorem d19_6 : decode jdk_42_method_66_code 6 = .ok (.ireturn, 1) := by decide +kernel
theorem d19_7 : decode jdk_42_method_66_code 7 = .ok (.aload_n 1, 1) := by decide +kernel
theorem d19_8 : decode jdk_42_method_66_code 8 = .ok (.instanceof 10, 3) := by decide +kernel
theorem d19_11 : decode jdk_42_method_66_code 11 = .ok (.ifCond .eq 43, 3) := by decide +kernel
theorem d19_14 : decode jdk_42_method_66_code 14 = .ok (.aload_n 1, 1) := by decide +kernel
theorem d19_15 : decode jdk_42_method_66_code 15 = .ok (.checkcast 10, 3) := by decide +kernel
theorem d19_18 : decode jdk_42_method_66_code 18 = .ok (.astore_n 2, 1) := by decide +kernel
theorem d19_19 : decode jdk_42_method_66_code 19 = .ok (.getstatic 38, 3) := by decide +kernel
theorem d19_22 : decode jdk_42_method_66_code 22 = .ok (.ifCond .eq 14, 3) := by decide +kernel
theorem d19_25 : decode jdk_42_method_66_code 25 = .ok (.aload_n 0, 1) := by decide +kernel
theorem d19_26 : decode jdk_42_method_66_code 26 = .ok (.getfield 15, 3) := by decide +kernel
theorem d19_29 : decode jdk_42_method_66_code 29 = .ok (.aload_n 2, 1) := by decide +kernel
theorem d19_30 : decode jdk_42_method_66_code 30 = .ok (.getfield 15, 3) := by decide +kernel
theorem d19_33 : decode jdk_42_method_66_code 33 = .ok (.if_icmp .ne 21, 3) := by decide +kernel
theorem d19_36 : decode jdk_42_method_66_code 36 = .ok (.aload_n 0, 1) := by decide +kernel
theorem d19_37 : decode jdk_42_method_66_code 37 = .ok (.getfield 9, 3) := by decide +kernel
theorem d19_40 : decode jdk_42_method_66_code 40 = .ok (.aload_n 2, 1) := by decide +kernel
theorem d19_41 : decode jdk_42_method_66_code 41 = .ok (.getfield 9, 3) := by decide +kernel
theorem d19_44 : decode jdk_42_method_66_code 44 = .ok (.invokestatic 541, 3) := by decide +kernel
theorem d19_47 : decode jdk_42_method_66_code 47 = .ok (.ifCond .eq 7, 3) := by decide +kernel
theorem d19_50 : decode jdk_42_method_66_code 50 = .ok (.iconst 1, 1) := by decide +kernel
theorem d19_51 : decode jdk_42_method_66_code 51 = .ok (.goto 4, 3) := by decide +kernel
theorem d19_54 : decode jdk_42_method_66_code 54 = .ok (.iconst 0, 1) := by decide +kernel
theorem d19_55 : decode jdk_42_method_66_code 55 = .ok (.ireturn, 1) := by decide +kernel
theorem d20_0 : decode jdk_43_method_13_code 0 = .ok (.aload_n 0, 1) := by decide +kernel
theorem d20_1 : decode jdk_43_method_13_code 1 = .ok (.arraylength, 1) := by decide +kernel
theorem d20_2 : decode jdk_43_method_13_code 2 = .ok (.aload_n 1, 1) := by decide +kernel
theorem d20_3 : decode jdk_43_method_13_code 3 = .ok (.arraylength, 1) := by decide +kernel
theorem d20_4 : decode jdk_43_method_13_code 4 = .ok (.if_icmp .ne 30, 3) := by decide +kernel
theorem d20_7 : decode jdk_43_method_13_code 7 = .ok (.iconst 0, 1) := by decide +kernel
theorem d20_8 : decode jdk_43_method_13_code 8 = .ok (.istore_n 2, 1) := by decide +kernel
theorem d20_9 : decode jdk_43_method_13_code 9 = .ok (.iload_n 2, 1) := by decide +kernel
theorem d20_10 : decode jdk_43_method_13_code 10 = .ok (.aload_n 0, 1) := by decide +kernel
theorem d20_11 : decode jdk_43_method_13_code 11 = .ok (.arraylength, 1) := by decide +kernel
theorem d20_12 : decode jdk_43_method_13_code 12 = .ok (.if_icmp .ge 20, 3) := by decide +kernel
theorem d20_15 : decode jdk_43_method_13_code 15 = .ok (.aload_n 0, 1) := by decide +kernel
theorem d20_16 : decode jdk_43_method_13_code 16 = .ok (.iload_n 2, 1) := by decide +kernel
theorem d20_17 : decode jdk_43_method_13_code 17 = .ok (.baload, 1) := by decide +kernel
theorem d20_18 : decode jdk_43_method_13_code 18 = .ok (.aload_n 1, 1) := by decide +kernel
theorem d20_19 : decode jdk_43_method_13_code 19 = .ok (.iload_n 2, 1) := by decide +kernel
theorem d20_20 : decode jdk_43_method_13_code 20 = .ok (.baload, 1) := by decide +kernel
theorem d20_21 : decode jdk_43_method_13_code 21 = .ok (.if_icmp .eq 5, 3) := by decide +kernel
theorem d20_24 : decode jdk_43_method_13_code 24 = .ok (.iconst 0, 1) := by decide +kernel
theorem d20_25 : decode jdk_43_method_13_code 25 = .ok (.ireturn, 1) := by decide +kernel
theorem d20_26 : decode jdk_43_method_13_code 26 = .ok (.iinc 2 1, 3) := by decide +kernel
theorem d20_29 : decode jdk_43_method_13_code 29 = .ok (.goto (-20), 3) := by decide +kernel
theorem d20_32 : decode jdk_43_method_13_code 32 = .ok (.iconst 1, 1) := by decide +kernel
theorem d20_33 : decode jdk_43_method_13_code 33 = .ok (.ireturn, 1) := by decide +kernel
theorem d20_34 : decode jdk_43_method_13_code 34 = .ok (.iconst 0, 1) := by decide +kernel
theorem d20_35 : decode jdk_43_method_13_code 35 = .ok (.ireturn, 1) := by decide +kernel
theorem d21_0 : decode method_3_code 0 = .ok (.ldc 9, 2) := by decide +kernel
theorem d21_2 : decode method_3_code 2 = .ok (.aload_n 0, 1) := by decide +kernel
theorem d21_3 : decode method_3_code 3 = .ok (.invokevirtual 43, 3) := by decide +kernel
theorem d21_6 : decode method_3_code 6 = .ok (.ifCond .eq 7, 3) := by decide +kernel
theorem d21_9 : decode method_3_code 9 = .ok (.getstatic 47, 3) := by decide +kernel
theorem d21_12 : decode method_3_code 12 = .ok (.areturn, 1) := by decide +kernel
theorem d21_13 : decode method_3_code 13 = .ok (.ldc 11, 2) := by decide +kernel
theorem d21_15 : decode method_3_code 15 = .ok (.aload_n 0, 1) := by decide +kernel
theorem d21_16 : decode method_3_code 16 = .ok (.invokevirtual 43, 3) := by decide +kernel
theorem d21_19 : decode method_3_code 19 = .ok (.ifCond .eq 7, 3) := by decide +kernel
theorem d21_22 : decode method_3_code 22 = .ok (.getstatic 51, 3) := by decide +kernel
theorem d21_25 : decode method_3_code 25 = .ok (.areturn, 1) := by decide +kernel
theorem d21_26 : decode method_3_code 26 = .ok (.ldc 13, 2) := by decide +kernel
theorem d21_28 : decode method_3_code 28 = .ok (.aload_n 0, 1) := by decide +kernel
theorem d21_29 : decode method_3_code 29 = .ok (.invokevirtual 43, 3) := by decide +kernel
theorem d21_32 : decode method_3_code 32 = .ok (.ifCond .eq 7, 3) := by decide +kernel
theorem d21_35 : decode method_3_code 35 = .ok (.getstatic 54, 3) := by decide +kernel
theorem d21_38 : decode method_3_code 38 = .ok (.areturn, 1) := by decide +kernel
theorem d21_39 : decode method_3_code 39 = .ok (.ldc 15, 2) := by decide +kernel
theorem d21_41 : decode method_3_code 41 = .ok (.aload_n 0, 1) := by decide +kernel
theorem d21_42 : decode method_3_code 42 = .ok (.invokevirtual 43, 3) := by decide +kernel
theorem d21_45 : decode method_3_code 45 = .ok (.ifCond .eq 7, 3) := by decide +kernel
theorem d21_48 : decode method_3_code 48 = .ok (.getstatic 57, 3) := by decide +kernel
theorem d21_51 : decode method_3_code 51 = .ok (.areturn, 1) := by decide +kernel
theorem d21_52 : decode method_3_code 52 = .ok (.aconst_null, 1) := by decide +kernel
theorem d21_53 : decode method_3_code 53 = .ok (.areturn, 1) := by decide +kernel
theorem pd_0 : parseMethodDescriptor "()B" = some ⟨[], some .byte⟩ := by decide +kernel
theorem pd_1 : parseMethodDescriptor "(IILjava/util/function/BiFunction;)I" = some ⟨[.int, .int, (.object "java/util/function/BiFunction")], some .int⟩ := by decide +kernel
theorem pd_2 : parseMethodDescriptor "(II)V" = some ⟨[.int, .int], none⟩ := by decide +kernel
theorem pd_3 : parseMethodDescriptor "()Z" = some ⟨[], some .boolean⟩ := by decide +kernel
theorem pd_4 : parseMethodDescriptor "([BI)C" = some ⟨[(.array .byte), .int], some .char⟩ := by decide +kernel
theorem pd_5 : parseMethodDescriptor "([B[B)Z" = some ⟨[(.array .byte), (.array .byte)], some .boolean⟩ := by decide +kernel
theorem pd_6 : parseMethodDescriptor "()I" = some ⟨[], some .int⟩ := by decide +kernel
theorem pd_7 : parseMethodDescriptor "(I)C" = some ⟨[.int], some .char⟩ := by decide +kernel
theorem pd_8 : parseMethodDescriptor "(IJJ)C" = some ⟨[.int, .long, .long], some .char⟩ := by decide +kernel
theorem pd_9 : parseMethodDescriptor "([CIILjava/lang/Void;)V" = some ⟨[(.array .char), .int, .int, (.object "java/lang/Void")], none⟩ := by decide +kernel
theorem pd_10 : parseMethodDescriptor "([C)V" = some ⟨[(.array .char)], none⟩ := by decide +kernel
theorem pd_11 : parseMethodDescriptor "()[Lcom/example/tightrope/tightrope/junit/Outcome;" = some ⟨[], some (.array (.object "com/example/tightrope/tightrope/junit/Outcome"))⟩ := by decide +kernel
theorem pd_12 : parseMethodDescriptor "(Ljava/lang/Object;)Z" = some ⟨[(.object "java/lang/Object")], some .boolean⟩ := by decide +kernel
theorem pd_13 : parseMethodDescriptor "(ILjava/lang/String;JJ)C" = some ⟨[.int, (.object "java/lang/String"), .long, .long], some .char⟩ := by decide +kernel
theorem pd_14 : parseMethodDescriptor "(I[C)Ljava/lang/String;" = some ⟨[.int, (.array .char)], some (.object "java/lang/String")⟩ := by decide +kernel
theorem pd_15 : parseMethodDescriptor "(Ljava/lang/String;)Lcom/example/tightrope/tightrope/junit/Outcome;" = some ⟨[(.object "java/lang/String")], some (.object "com/example/tightrope/tightrope/junit/Outcome")⟩ := by decide +kernel
theorem pn_2 : plainName "java/lang/String" = true := by first | (simp [plainName, overriddenIn]; done) | decide +kernel
theorem pn_8 : plainName "jdk/internal/util/Preconditions" = true := by first | (simp [plainName, overriddenIn]; done) | decide +kernel
theorem pn_6 : plainName "java/lang/StringLatin1" = true := by first | (simp [plainName, overriddenIn]; done) | decide +kernel
theorem pn_9 : plainName "com/example/tightrope/tightrope/junit/OutcomeOfTextPinLaw" = true := by first | (simp [plainName, overriddenIn]; done) | decide +kernel
theorem pn_18 : plainName "com/example/tightrope/tightrope/junit/Outcome" = true := by first | (simp [plainName, overriddenIn]; done) | decide +kernel
theorem ef_coder (m : MethodId) (x0 : Addr) : entryFrame m #[(.ref x0)] 1 = mkF m 0 #[.val (.ref x0)] [] := by first | (simp [entryFrame, mkF, argsToLocals, Value.category]; done) | rfl
theorem ef_length (m : MethodId) (x0 : Addr) : entryFrame m #[(.ref x0)] 1 = mkF m 0 #[.val (.ref x0)] [] := by first | (simp [entryFrame, mkF, argsToLocals, Value.category]; done) | rfl
theorem ef_pcheck (m : MethodId) (x0 : Int32) (x1 : Int32) (x2 : Value) (hx2 : x2.category = 1) : entryFrame m #[(.int x0), (.int x1), x2] 3 = mkF m 0 #[.val (.int x0), .val (.int x1), .val x2] [] := by cases x2 <;> first | (simp [Value.category] at hx2; done) | (first | (simp [entryFrame, mkF, argsToLocals, Value.category]; done) | rfl)
theorem ef_scheck (m : MethodId) (x0 : Int32) (x1 : Int32) : entryFrame m #[(.int x0), (.int x1)] 2 = mkF m 0 #[.val (.int x0), .val (.int x1)] [] := by first | (simp [entryFrame, mkF, argsToLocals, Value.category]; done) | rfl
theorem ef_isLatin1 (m : MethodId) (x0 : Addr) : entryFrame m #[(.ref x0)] 1 = mkF m 0 #[.val (.ref x0)] [] := by first | (simp [entryFrame, mkF, argsToLocals, Value.category]; done) | rfl
theorem own_ki1 : Int32.ofInt 1 = (1 : Int32) := by decide
theorem ef_lcharAt (m : MethodId) (x0 : Addr) (x1 : Int32) : entryFrame m #[(.ref x0), (.int x1)] 2 = mkF m 0 #[.val (.ref x0), .val (.int x1)] [] := by first | (simp [entryFrame, mkF, argsToLocals, Value.category]; done) | rfl
theorem own_ks255 : (Int16.ofInt 255).toInt32 = (255 : Int32) := by decide
theorem ef_charAt (m : MethodId) (x0 : Addr) (x1 : Int32) : entryFrame m #[(.ref x0), (.int x1)] 2 = mkF m 0 #[.val (.ref x0), .val (.int x1)] [] := by first | (simp [entryFrame, mkF, argsToLocals, Value.category]; done) | rfl
theorem own_ki0 : Int32.ofInt 0 = (0 : Int32) := by decide
theorem ef_le (m : MethodId) (x0 : Addr) (x1 : Addr) : entryFrame m #[(.ref x0), (.ref x1)] 3 = mkF m 0 #[.val (.ref x0), .val (.ref x1), .unset] [] := by first | (simp [entryFrame, mkF, argsToLocals, Value.category]; done) | rfl
theorem ef_se (m : MethodId) (x0 : Addr) (x1 : Addr) : entryFrame m #[(.ref x0), (.ref x1)] 3 = mkF m 0 #[.val (.ref x0), .val (.ref x1), .unset] [] := by first | (simp [entryFrame, mkF, argsToLocals, Value.category]; done) | rfl
theorem ef_sn (m : MethodId) (x0 : Addr) : entryFrame m #[(.ref x0), .null] 3 = mkF m 0 #[.val (.ref x0), .val .null, .unset] [] := by first | (simp [entryFrame, mkF, argsToLocals, Value.category]; done) | rfl
theorem ef_dr (m : MethodId) (x0 : Int32) (x1 : Int64) (x2 : Int64) : entryFrame m #[(.int x0), (.long x1), (.long x2)] 8 = mkF m 0 #[.val (.int x0), .val (.long x1), .second, .val (.long x2), .second, .unset, .unset, .unset] [] := by first | (simp [entryFrame, mkF, argsToLocals, Value.category]; done) | rfl
theorem own_kb8 : (Int8.ofInt 8).toInt32 = (8 : Int32) := by decide
theorem own_kb7 : (Int8.ofInt 7).toInt32 = (7 : Int32) := by decide
theorem ef_pk (m : MethodId) (x0 : Int32) (x1 : Addr) (x2 : Int64) (x3 : Int64) : entryFrame m #[(.int x0), (.ref x1), (.long x2), (.long x3)] 6 = mkF m 0 #[.val (.int x0), .val (.ref x1), .val (.long x2), .second, .val (.long x3), .second] [] := by first | (simp [entryFrame, mkF, argsToLocals, Value.category]; done) | rfl
theorem ef_iV0 (m : MethodId) (x0 : Addr) (x1 : Addr) (x2 : Int32) (x3 : Int32) : entryFrame m #[(.ref x0), (.ref x1), (.int x2), (.int x3), .null] 6 = mkF m 0 #[.val (.ref x0), .val (.ref x1), .val (.int x2), .val (.int x3), .val .null, .unset] [] := by first | (simp [entryFrame, mkF, argsToLocals, Value.category]; done) | rfl
theorem ef_iC0 (m : MethodId) (x0 : Addr) (x1 : Addr) : entryFrame m #[(.ref x0), (.ref x1)] 2 = mkF m 0 #[.val (.ref x0), .val (.ref x1)] [] := by first | (simp [entryFrame, mkF, argsToLocals, Value.category]; done) | rfl
theorem ef_mk (m : MethodId) (x0 : Int32) (x1 : Addr) : entryFrame m #[(.int x0), (.ref x1)] 2 = mkF m 0 #[.val (.int x0), .val (.ref x1)] [] := by first | (simp [entryFrame, mkF, argsToLocals, Value.category]; done) | rfl
theorem own_ts10_1_0 : (¬ (((0 : Int32).toInt < 0) ∨ ((0 : Int32).toInt > 9))) ∧ (#[55, 66, 83, 106, 135, 170, 211, 259, 315, 379] : Array Int)[((0 : Int32).toInt - 0).toNat]? = some 55 := by decide
theorem own_ts10_1_1 : (¬ (((1 : Int32).toInt < 0) ∨ ((1 : Int32).toInt > 9))) ∧ (#[55, 66, 83, 106, 135, 170, 211, 259, 315, 379] : Array Int)[((1 : Int32).toInt - 0).toNat]? = some 66 := by decide
theorem own_ts10_1_2 : (¬ (((2 : Int32).toInt < 0) ∨ ((2 : Int32).toInt > 9))) ∧ (#[55, 66, 83, 106, 135, 170, 211, 259, 315, 379] : Array Int)[((2 : Int32).toInt - 0).toNat]? = some 83 := by decide
theorem own_ki2 : Int32.ofInt 2 = (2 : Int32) := by decide
theorem own_ts10_1_3 : (¬ (((3 : Int32).toInt < 0) ∨ ((3 : Int32).toInt > 9))) ∧ (#[55, 66, 83, 106, 135, 170, 211, 259, 315, 379] : Array Int)[((3 : Int32).toInt - 0).toNat]? = some 106 := by decide
theorem own_ki3 : Int32.ofInt 3 = (3 : Int32) := by decide
theorem own_ts10_1_4 : (¬ (((4 : Int32).toInt < 0) ∨ ((4 : Int32).toInt > 9))) ∧ (#[55, 66, 83, 106, 135, 170, 211, 259, 315, 379] : Array Int)[((4 : Int32).toInt - 0).toNat]? = some 135 := by decide
theorem own_ki4 : Int32.ofInt 4 = (4 : Int32) := by decide
theorem own_ts10_1_5 : (¬ (((5 : Int32).toInt < 0) ∨ ((5 : Int32).toInt > 9))) ∧ (#[55, 66, 83, 106, 135, 170, 211, 259, 315, 379] : Array Int)[((5 : Int32).toInt - 0).toNat]? = some 170 := by decide
theorem own_ki5 : Int32.ofInt 5 = (5 : Int32) := by decide
theorem own_ts10_1_6 : (¬ (((6 : Int32).toInt < 0) ∨ ((6 : Int32).toInt > 9))) ∧ (#[55, 66, 83, 106, 135, 170, 211, 259, 315, 379] : Array Int)[((6 : Int32).toInt - 0).toNat]? = some 211 := by decide
theorem own_kb6 : (Int8.ofInt 6).toInt32 = (6 : Int32) := by decide
theorem own_ts10_1_7 : (¬ (((7 : Int32).toInt < 0) ∨ ((7 : Int32).toInt > 9))) ∧ (#[55, 66, 83, 106, 135, 170, 211, 259, 315, 379] : Array Int)[((7 : Int32).toInt - 0).toNat]? = some 259 := by decide
theorem own_ts10_1_8 : (¬ (((8 : Int32).toInt < 0) ∨ ((8 : Int32).toInt > 9))) ∧ (#[55, 66, 83, 106, 135, 170, 211, 259, 315, 379] : Array Int)[((8 : Int32).toInt - 0).toNat]? = some 315 := by decide
theorem own_ts10_1_9 : (¬ (((9 : Int32).toInt < 0) ∨ ((9 : Int32).toInt > 9))) ∧ (#[55, 66, 83, 106, 135, 170, 211, 259, 315, 379] : Array Int)[((9 : Int32).toInt - 0).toNat]? = some 379 := by decide
theorem own_kb9 : (Int8.ofInt 9).toInt32 = (9 : Int32) := by decide
theorem own_ts10_1_10 : ((10 : Int32).toInt < 0) ∨ ((10 : Int32).toInt > 9) := by decide
theorem ef_va (m : MethodId)  : entryFrame m #[] 0 = mkF m 0 #[] [] := by first | (simp [entryFrame, mkF, argsToLocals, Value.category]; done) | rfl
theorem ef_of (m : MethodId) (x0 : Addr) : entryFrame m #[(.ref x0)] 6 = mkF m 0 #[.val (.ref x0), .unset, .unset, .unset, .unset, .unset] [] := by first | (simp [entryFrame, mkF, argsToLocals, Value.category]; done) | rfl
theorem own_ka0_1 : (0 : Int32) + Int32.ofInt 1 = (1 : Int32) := by decide
theorem own_ka1_1 : (1 : Int32) + Int32.ofInt 1 = (2 : Int32) := by decide
theorem own_ka2_1 : (2 : Int32) + Int32.ofInt 1 = (3 : Int32) := by decide
theorem own_ka3_1 : (3 : Int32) + Int32.ofInt 1 = (4 : Int32) := by decide
theorem ef_on (m : MethodId)  : entryFrame m #[.null] 6 = mkF m 0 #[.val .null, .unset, .unset, .unset, .unset, .unset] [] := by first | (simp [entryFrame, mkF, argsToLocals, Value.category]; done) | rfl
theorem ef_rf (m : MethodId) (x0 : Addr) : entryFrame m #[(.ref x0)] 1 = mkF m 0 #[.val (.ref x0)] [] := by first | (simp [entryFrame, mkF, argsToLocals, Value.category]; done) | rfl
theorem ef_rn (m : MethodId)  : entryFrame m #[.null] 1 = mkF m 0 #[.val .null] [] := by first | (simp [entryFrame, mkF, argsToLocals, Value.category]; done) | rfl
theorem ef_0 (m : MethodId) (x0 : Int32) (x1 : Int32) (x2 : Int32) (x3 : Int32) (x4 : Int64) (x5 : Int64) : entryFrame m #[(.int x0), (.int x1), (.int x2), (.int x3), (.long x4), (.long x5)] maxLocals = mkF m 0 #[.val (.int x0), .val (.int x1), .val (.int x2), .val (.int x3), .val (.long x4), .second, .val (.long x5), .second, .unset, .unset, .unset, .unset, .unset, .unset, .unset] [] := by first | (simp [entryFrame, mkF, argsToLocals, Value.category, maxLocals]; done) | rfl
theorem own_kb11 : (Int8.ofInt 11).toInt32 = (11 : Int32) := by decide
theorem own_kb10 : (Int8.ofInt 10).toInt32 = (10 : Int32) := by decide
theorem own_kb16 : (Int8.ofInt 16).toInt32 = (16 : Int32) := by decide
theorem own_kb32 : (Int8.ofInt 32).toInt32 = (32 : Int32) := by decide
def Qcoder (Z : State) (a : Addr) (zc : Int32) (h0 : Heap) (n0 : Nat) (v : Option Value) (h : Heap) (L : List Loc) : Prop := v = some (.int (0 : Int32)) ∧ Fr n0 L ∧ h = h0
theorem rmcoder (l : Launch) (Z : State) (a0 : Array Value) (hw : own_tb a0 Z) (ws : List Jvm.Cond) (a : Addr) (zc : Int32) (h0 : Heap) (n0 : Nat) (Z0 : n0 ≤ h0.size) (O_ : Old Z n0 h0) (S_CS : Sta Z Z.heap "java/lang/String" "COMPACT_STRINGS" "Z" (.int zc)) (P_CS : ¬ zc = (0 : Int32)) (Fc : Fld Z h0 a "java/lang/String" "coder" "B" (.int (0 : Int32))) :
    OwnMet l (⟨"java/lang/String", "coder", "()B"⟩ : MethodName) jdk_42_method_152_code 1 (some .byte) ws ({ frames := 0, cells := 0, slots := 0, locals := 0 } : Room) #[(.ref a)] Z h0 (Qcoder Z a zc h0 n0) := by
  refine own_met (plainFor_of_name pn_2) ?_
  intro p e s m below meth c s₁ X0 hx hby hml hret hlk hown hnm hZ e0
  have N0 := Fr.nil n0
  have Z_ := Z0
  refine OwnGo.cast (ef_coder m a) ?_
  show OwnGo p e below s _ _ _ s₁ (mkF m 0 _ [])
  obtain ⟨T1, X1, e1, st1⟩ := getS2 X0 hx hZ hown (host := "") (Or.inl (W_ hw 21 rfl)) Via.refl e0 (S_CS.ext O_.2) (g := (mkF m 0 #[.val (.ref a)] [])) rfl (hb hby d2_0)
  refine .st st1 ?_
  show OwnGo p e below s _ _ _ T1 (mkF m 3 _ [(.int zc)])
  refine .ifNo X1 hx (hb hby d2_3) ((if0 _ _).trans (feq (P_CS : ¬ (zc = (0 : Int32)))).1) ?_
  refine .aloadN X1 hx (hb hby d2_6) rfl rfl ?_
  obtain ⟨T2, X2, e2, st2⟩ := getF X1 hx hZ hown (host := "") (Or.inl (W_ hw 22 rfl)) Via.refl e1 Fc (g := (mkF m 7 #[.val (.ref a)] [(.ref a)])) rfl rfl (hb hby d2_7)
  refine .st st2 ?_
  show OwnGo p e below s _ _ _ T2 (mkF m 10 _ [(.int (0 : Int32))])
  refine .goto (pc := 10) X2 hx 14 (hb hby d2_10) (by decide) (by decide) ?_
  exact OwnGo.retN X2 hx (t := .byte) hret hlk (by simp) (hb hby d2_14) (by show Qcoder Z a zc h0 n0 _ T2.heap _; rw [e2]; exact ⟨rfl, N0, rfl⟩) (by decide) (by decide)
def Qlength (Z : State) (a : Addr) (t : Addr) (kc : ClassId) (z : Int32) (vs : List Value) (zc : Int32) (h0 : Heap) (n0 : Nat) (v : Option Value) (h : Heap) (L : List Loc) : Prop := v = some (.int z) ∧ Fr n0 L ∧ h = h0
theorem rmlength (l : Launch) (Z : State) (a0 : Array Value) (hw : own_tb a0 Z) (ws : List Jvm.Cond) (a : Addr) (t : Addr) (kc : ClassId) (z : Int32) (vs : List Value) (zc : Int32) (h0 : Heap) (n0 : Nat) (Z0 : n0 ≤ h0.size) (O_ : Old Z n0 h0) (S_CS : Sta Z Z.heap "java/lang/String" "COMPACT_STRINGS" "Z" (.int zc)) (P_CS : ¬ zc = (0 : Int32)) (E_a : Exa Z h0 a "java/lang/String") (Fc : Fld Z h0 a "java/lang/String" "coder" "B" (.int (0 : Int32))) (Fv : Fld Z h0 a "java/lang/String" "value" "[B" (.ref t)) (V : Arv Z h0 t kc .byte z vs (.int (0 : Int32))) :
    OwnMet l (⟨"java/lang/String", "length", "()I"⟩ : MethodName) jdk_42_method_54_code 1 (some .int) ws ({ frames := 1, cells := 0, slots := 0, locals := 13 } : Room) #[(.ref a)] Z h0 (Qlength Z a t kc z vs zc h0 n0) := by
  refine own_met (plainFor_of_name pn_2) ?_
  intro p e s m below meth c s₁ X0 hx hby hml hret hlk hown hnm hZ e0
  have N0 := Fr.nil n0
  have Z_ := Z0
  refine OwnGo.cast (ef_length m a) ?_
  show OwnGo p e below s _ _ _ s₁ (mkF m 0 _ [])
  refine .aloadN X0 hx (hb hby d1_0) rfl rfl ?_
  obtain ⟨T3, X3, e3, st3⟩ := getF X0 hx hZ hown (host := "") (Or.inl (W_ hw 15 rfl)) Via.refl e0 Fv (g := (mkF m 1 #[.val (.ref a)] [(.ref a)])) rfl rfl (hb hby d1_1)
  refine .st st3 ?_
  show OwnGo p e below s _ _ _ T3 (mkF m 4 _ [(.ref t)])
  obtain ⟨cl4, Ar4, -, S4, N4, -, -⟩ := id V
  refine .st (fun _ => own_len hZ (len_of S4 N4) Ar4 X3 e3 hx (g := (mkF m 4 #[.val (.ref a)] [(.ref t)])) rfl rfl (hb hby d1_4) _) ?_
  show OwnGo p e below s _ _ _ T3 (mkF m 5 _ [(.int z)])
  refine .aloadN X3 hx (hb hby d1_5) rfl rfl ?_
  obtain ⟨cq5, kq5, q5a, q5b, q5c⟩ := isOf hZ e3 E_a
  obtain ⟨_, _, ⟨T5, L5, k5, n5⟩, -, X5, ⟨Lc5, hQ5, l5, y5, z5⟩, st5⟩ := X3.virtualBack hx (y := (⟨"java/lang/String", "coder", "()B"⟩ : MethodName)) (z := (⟨"java/lang/String", "coder", "()B"⟩ : MethodName)) hown (mvT hZ (W_ hw 16 rfl)) (mvT hZ (W_ hw 17 rfl)) (notFace_of_selects (args := #[]) (mvT hZ (W_ hw 19 rfl))) (mvT hZ (W_ hw 19 rfl)) (mvT hZ (W_ hw 18 rfl)) (by decide) (backOf (W := 1) (rmcoder l Z a0 hw [] a zc h0 n0 Z_ O_ S_CS P_CS Fc) hZ (W_ hw 20 rfl) (W_ hw 1 rfl) (by decide) (by decide)) q5a q5c (g := (mkF m 6 #[.val (.ref a)] [(.ref a), (.int z)])) rfl (by rw [hml]; rfl) (Steps.refl _) (argsL := []) (rest := [(.int z)]) (lenOf pd_0 rfl) rfl (Nat.le_of_eq rfl) (hb hby d1_6) (fun _ _ => ⟨rfl, e3, (by decide : 0 + 0 ≤ _), (by decide : 0 + 0 ≤ _)⟩)
  dsimp only [Pt.U, Pt.locs, Pt.cells, Pt.slots] at X5 l5 y5 z5 st5 hQ5
  subst l5 y5 z5
  obtain ⟨rfl, N5q, e5⟩ := hQ5
  have N5 := Fr.app N0 N5q
  refine .st (fun _ => st5.trans) ?_
  show OwnGo p e below s _ _ _ T5 (mkF m 9 _ [(.int (0 : Int32)), (.int z)])
  refine .st (fun _ => XS.ishr X5.here hx rfl (hb hby d1_9) rfl) ?_
  show OwnGo p e below s _ _ _ T5 (mkF m 10 _ [(.int (z >>> ((0 : Int32) &&& 31)))])
  rw [own_sh0]
  show OwnGo p e below s _ _ _ T5 (mkF m 10 _ [(.int z)])
  exact OwnGo.ret X5 hx hret hlk rfl (Or.inl ⟨rfl, Or.inl rfl, _, rfl⟩) (hb hby d1_10) (by show Qlength Z a t kc z vs zc h0 n0 _ T5.heap _; rw [e5]; exact ⟨rfl, N5, rfl⟩) (by decide) (by decide)
def Qpcheck (Z : State) (i : Int32) (n : Int32) (f : Value) (h0 : Heap) (n0 : Nat) (v : Option Value) (h : Heap) (L : List Loc) : Prop := v = some (.int i) ∧ Fr n0 L ∧ h = h0
theorem rmpcheck (l : Launch) (Z : State) (a0 : Array Value) (hw : own_tb a0 Z) (ws : List Jvm.Cond) (i : Int32) (n : Int32) (f : Value) (h0 : Heap) (n0 : Nat) (Z0 : n0 ≤ h0.size) (rf_f : f.isRef = true) (hi : ¬ i < (0 : Int32)) (hn : i < n) :
    OwnMet l (⟨"jdk/internal/util/Preconditions", "checkIndex", "(IILjava/util/function/BiFunction;)I"⟩ : MethodName) jdk_41_method_11_code 3 (some .int) ws ({ frames := 0, cells := 0, slots := 0, locals := 0 } : Room) #[(.int i), (.int n), f] Z h0 (Qpcheck Z i n f h0 n0) := by
  refine own_met (plainFor_of_name pn_8) ?_
  intro p e s m below meth c s₁ X0 hx hby hml hret hlk hown hnm hZ e0
  have N0 := Fr.nil n0
  have Z_ := Z0
  refine OwnGo.cast (ef_pcheck m i n f (own_cat rf_f)) ?_
  show OwnGo p e below s _ _ _ s₁ (mkF m 0 _ [])
  refine .iloadN X0 hx (hb hby d8_0) rfl ?_
  refine .ifNo X0 hx (hb hby d8_1) ((if0 _ _).trans (flt (hi : ¬ (i < (0 : Int32)))).1) ?_
  refine .iloadN X0 hx (hb hby d8_4) rfl ?_
  refine .iloadN X0 hx (hb hby d8_5) rfl ?_
  refine .icmpYes (pc := 6) X0 hx 16 (hb hby d8_6) (tlt (hn : i < n)).1 (by decide) (by decide) ?_
  refine .iloadN X0 hx (hb hby d8_16) rfl ?_
  exact OwnGo.ret X0 hx hret hlk rfl (Or.inl ⟨rfl, Or.inl rfl, _, rfl⟩) (hb hby d8_17) (by show Qpcheck Z i n f h0 n0 _ s₁.heap _; rw [e0]; exact ⟨rfl, N0, rfl⟩) (by decide) (by decide)
def Qscheck (Z : State) (i : Int32) (n : Int32) (fmv : Value) (h0 : Heap) (n0 : Nat) (v : Option Value) (h : Heap) (L : List Loc) : Prop := v = none ∧ Fr n0 L ∧ h = h0
theorem rmscheck (l : Launch) (Z : State) (a0 : Array Value) (hw : own_tb a0 Z) (ws : List Jvm.Cond) (i : Int32) (n : Int32) (fmv : Value) (h0 : Heap) (n0 : Nat) (Z0 : n0 ≤ h0.size) (O_ : Old Z n0 h0) (S_SF : Sta Z Z.heap "jdk/internal/util/Preconditions" "SIOOBE_FORMATTER" "Ljava/util/function/BiFunction;" fmv) (rf_fmv : fmv.isRef = true) (hi : ¬ i < (0 : Int32)) (hn : i < n) :
    OwnMet l (⟨"java/lang/String", "checkIndex", "(II)V"⟩ : MethodName) jdk_42_method_155_code 2 none ws ({ frames := 1, cells := 0, slots := 0, locals := 14 } : Room) #[(.int i), (.int n)] Z h0 (Qscheck Z i n fmv h0 n0) := by
  refine own_met (plainFor_of_name pn_2) ?_
  intro p e s m below meth c s₁ X0 hx hby hml hret hlk hown hnm hZ e0
  have N0 := Fr.nil n0
  have Z_ := Z0
  refine OwnGo.cast (ef_scheck m i n) ?_
  show OwnGo p e below s _ _ _ s₁ (mkF m 0 _ [])
  refine .iloadN X0 hx (hb hby d7_0) rfl ?_
  refine .iloadN X0 hx (hb hby d7_1) rfl ?_
  obtain ⟨T6, X6, e6, st6⟩ := getS2 X0 hx hZ hown (host := "") (Or.inl (W_ hw 45 rfl)) Via.refl e0 (S_SF.ext O_.2) (g := (mkF m 2 #[.val (.int i), .val (.int n)] [(.int n), (.int i)])) rfl (hb hby d7_2)
  refine .st st6 ?_
  show OwnGo p e below s _ _ _ T6 (mkF m 5 _ [fmv, (.int n), (.int i)])
  obtain ⟨_, _, ⟨T7, L7, k7, n7⟩, -, X7, ⟨Lc7, hQ7, l7, y7, z7⟩, st7⟩ := Jvm.LawKit.callS X6 hx (y := (⟨"jdk/internal/util/Preconditions", "checkIndex", "(IILjava/util/function/BiFunction;)I"⟩ : MethodName)) hown (mvT hZ (W_ hw 47 rfl)) (mvT hZ (W_ hw 48 rfl)) (mvT hZ (W_ hw 46 rfl)) (mvT hZ (W_ hw 49 rfl)) (by decide) (backOf (W := 0) (rmpcheck l Z a0 hw [] i n fmv h0 n0 Z_ rf_fmv hi hn) hZ (W_ hw 49 rfl) (W_ hw 46 rfl) (by decide) (by decide)) (g := (mkF m 5 #[.val (.int i), .val (.int n)] [fmv, (.int n), (.int i)])) rfl (by rw [hml]; rfl) (argsL := [(.int i), (.int n), fmv]) (rest := []) (lenOf pd_1 rfl) rfl (Nat.le_of_eq rfl) (hb hby d7_5) (fun _ _ => ⟨rfl, e6, (by decide : 0 + 0 ≤ _), (by decide : 0 + 0 ≤ _)⟩)
  dsimp only [Pt.U, Pt.locs, Pt.cells, Pt.slots] at X7 l7 y7 z7 st7 hQ7
  subst l7 y7 z7
  obtain ⟨rfl, N7q, e7⟩ := hQ7
  have N7 := Fr.app N0 N7q
  refine .st st7 ?_
  show OwnGo p e below s _ _ _ T7 (mkF m 8 _ [(.int i)])
  refine .st (fun _ => XS.pop X7.here hx rfl (hb hby d7_8) rfl rfl) ?_
  show OwnGo p e below s _ _ _ T7 (mkF m 9 _ [])
  exact OwnGo.retV X7 hx hret hlk (hb hby d7_9) (by show Qscheck Z i n fmv h0 n0 _ T7.heap _; rw [e7]; exact ⟨rfl, N7, rfl⟩) (by decide) (by decide)
def QisLatin1 (Z : State) (a : Addr) (zc : Int32) (h0 : Heap) (n0 : Nat) (v : Option Value) (h : Heap) (L : List Loc) : Prop := v = some (.int (1 : Int32)) ∧ Fr n0 L ∧ h = h0
theorem rmisLatin1 (l : Launch) (Z : State) (a0 : Array Value) (hw : own_tb a0 Z) (ws : List Jvm.Cond) (a : Addr) (zc : Int32) (h0 : Heap) (n0 : Nat) (Z0 : n0 ≤ h0.size) (O_ : Old Z n0 h0) (S_CS : Sta Z Z.heap "java/lang/String" "COMPACT_STRINGS" "Z" (.int zc)) (P_CS : ¬ zc = (0 : Int32)) (Fc : Fld Z h0 a "java/lang/String" "coder" "B" (.int (0 : Int32))) :
    OwnMet l (⟨"java/lang/String", "isLatin1", "()Z"⟩ : MethodName) jdk_42_method_154_code 1 (some .boolean) ws ({ frames := 0, cells := 0, slots := 0, locals := 0 } : Room) #[(.ref a)] Z h0 (QisLatin1 Z a zc h0 n0) := by
  refine own_met (plainFor_of_name pn_2) ?_
  intro p e s m below meth c s₁ X0 hx hby hml hret hlk hown hnm hZ e0
  have N0 := Fr.nil n0
  have Z_ := Z0
  refine OwnGo.cast (ef_isLatin1 m a) ?_
  show OwnGo p e below s _ _ _ s₁ (mkF m 0 _ [])
  obtain ⟨T8, X8, e8, st8⟩ := getS2 X0 hx hZ hown (host := "") (Or.inl (W_ hw 21 rfl)) Via.refl e0 (S_CS.ext O_.2) (g := (mkF m 0 #[.val (.ref a)] [])) rfl (hb hby d5_0)
  refine .st st8 ?_
  show OwnGo p e below s _ _ _ T8 (mkF m 3 _ [(.int zc)])
  refine .ifNo X8 hx (hb hby d5_3) ((if0 _ _).trans (feq (P_CS : ¬ (zc = (0 : Int32)))).1) ?_
  refine .aloadN X8 hx (hb hby d5_6) rfl rfl ?_
  obtain ⟨T9, X9, e9, st9⟩ := getF X8 hx hZ hown (host := "") (Or.inl (W_ hw 22 rfl)) Via.refl e8 Fc (g := (mkF m 7 #[.val (.ref a)] [(.ref a)])) rfl rfl (hb hby d5_7)
  refine .st st9 ?_
  show OwnGo p e below s _ _ _ T9 (mkF m 10 _ [(.int (0 : Int32))])
  refine .ifNo X9 hx (hb hby d5_10) ((if0 _ _).trans (teq (rfl : (0 : Int32) = (0 : Int32))).2) ?_
  refine .iconst X9 hx (hb hby d5_13) own_ki1 ?_
  refine .goto (pc := 14) X9 hx 18 (hb hby d5_14) (by decide) (by decide) ?_
  exact OwnGo.retN X9 hx (t := .boolean) hret hlk (by simp) (hb hby d5_18) (by show QisLatin1 Z a zc h0 n0 _ T9.heap _; rw [e9]; exact ⟨rfl, N0, rfl⟩) (by decide) (by decide)
def QlcharAt (Z : State) (t : Addr) (kc : ClassId) (z : Int32) (vs : List Value) (i : Int32) (b : Int32) (ch : Int32) (fmv : Value) (h0 : Heap) (n0 : Nat) (v : Option Value) (h : Heap) (L : List Loc) : Prop := v = some (.int ch) ∧ Fr n0 L ∧ h = h0
theorem rmlcharAt (l : Launch) (Z : State) (a0 : Array Value) (hw : own_tb a0 Z) (ws : List Jvm.Cond) (t : Addr) (kc : ClassId) (z : Int32) (vs : List Value) (i : Int32) (b : Int32) (ch : Int32) (fmv : Value) (h0 : Heap) (n0 : Nat) (Z0 : n0 ≤ h0.size) (O_ : Old Z n0 h0) (S_SF : Sta Z Z.heap "jdk/internal/util/Preconditions" "SIOOBE_FORMATTER" "Ljava/util/function/BiFunction;" fmv) (rf_fmv : fmv.isRef = true) (V : Arv Z h0 t kc .byte z vs (.int (0 : Int32))) (hin : ¬ i < (0 : Int32) ∧ i < z) (hat : vs.getD i.toNatClampNeg (.int (0 : Int32)) = .int b) (hch : (b &&& (255 : Int32)).toUInt32.toUInt16.toUInt32.toInt32 = ch) (hcc : nar .char ch = ch) :
    OwnMet l (⟨"java/lang/StringLatin1", "charAt", "([BI)C"⟩ : MethodName) jdk_43_method_2_code 2 (some .char) ws ({ frames := 2, cells := 0, slots := 0, locals := 27 } : Room) #[(.ref t), (.int i)] Z h0 (QlcharAt Z t kc z vs i b ch fmv h0 n0) := by
  refine own_met (plainFor_of_name pn_6) ?_
  intro p e s m below meth c s₁ X0 hx hby hml hret hlk hown hnm hZ e0
  have N0 := Fr.nil n0
  have Z_ := Z0
  refine OwnGo.cast (ef_lcharAt m t i) ?_
  show OwnGo p e below s _ _ _ s₁ (mkF m 0 _ [])
  refine .iloadN X0 hx (hb hby d6_0) rfl ?_
  refine .aloadN X0 hx (hb hby d6_1) rfl rfl ?_
  obtain ⟨cl10, Ar10, -, S10, N10, -, -⟩ := id V
  refine .st (fun _ => own_len hZ (len_of S10 N10) Ar10 X0 e0 hx (g := (mkF m 2 #[.val (.ref t), .val (.int i)] [(.ref t), (.int i)])) rfl rfl (hb hby d6_2) _) ?_
  show OwnGo p e below s _ _ _ s₁ (mkF m 3 _ [(.int z), (.int i)])
  obtain ⟨_, _, ⟨T11, L11, k11, n11⟩, -, X11, ⟨Lc11, hQ11, l11, y11, z11⟩, st11⟩ := Jvm.LawKit.callS X0 hx (y := (⟨"java/lang/String", "checkIndex", "(II)V"⟩ : MethodName)) hown (mvT hZ (W_ hw 42 rfl)) (mvT hZ (W_ hw 43 rfl)) (mvT hZ (W_ hw 1 rfl)) (mvT hZ (W_ hw 44 rfl)) (by decide) (backOf (W := 0) (rmscheck l Z a0 hw [] i z fmv h0 n0 Z_ O_ S_SF rf_fmv hin.1 hin.2) hZ (W_ hw 44 rfl) (W_ hw 1 rfl) (by decide) (by decide)) (g := (mkF m 3 #[.val (.ref t), .val (.int i)] [(.int z), (.int i)])) rfl (by rw [hml]; rfl) (argsL := [(.int i), (.int z)]) (rest := []) (lenOf pd_2 rfl) rfl (Nat.le_of_eq rfl) (hb hby d6_3) (fun _ _ => ⟨rfl, e0, (by decide : 0 + 0 ≤ _), (by decide : 0 + 0 ≤ _)⟩)
  dsimp only [Pt.U, Pt.locs, Pt.cells, Pt.slots] at X11 l11 y11 z11 st11 hQ11
  subst l11 y11 z11
  obtain ⟨rfl, N11q, e11⟩ := hQ11
  have N11 := Fr.app N0 N11q
  refine .st st11 ?_
  show OwnGo p e below s _ _ _ T11 (mkF m 6 _ [])
  refine .aloadN X11 hx (hb hby d6_6) rfl rfl ?_
  refine .iloadN X11 hx (hb hby d6_7) rfl ?_
  obtain ⟨cl12, Ar12, -, S12, -, H12, -⟩ := id V
  have hin12 : ¬ (i < 0 ∨ cl12.slots.size ≤ (i).toNatClampNeg) := inb_of S12 hin
  refine .st (fun _ => X11.baloadBytes hx (j := i) (v := (.int b)) (by first | exact Ar12.1 | (rw [e11]; exact Ar12.1)) (State.isArrayOf_alike hZ.alike Ar12.2.1) Ar12.2.2 hin12 (H12.at hin12 hat) (g := (mkF m 8 #[.val (.ref t), .val (.int i)] [(.int i), (.ref t)])) rfl rfl (hb hby d6_8) _) ?_
  show OwnGo p e below s _ _ _ T11 (mkF m 9 _ [(.int b)])
  refine .sipush X11 hx (hb hby d6_9) own_ks255 ?_
  refine .st (fun _ => XS.iand X11.here hx rfl (hb hby d6_12) rfl) ?_
  show OwnGo p e below s _ _ _ T11 (mkF m 13 _ [(.int (b &&& (255 : Int32)))])
  refine .st (fun _ => XS.i2c X11.here hx rfl (hb hby d6_13) rfl) ?_
  show OwnGo p e below s _ _ _ T11 (mkF m 14 _ [(.int ((b &&& (255 : Int32)).toUInt32.toUInt16.toUInt32.toInt32))])
  rw [hch]
  show OwnGo p e below s _ _ _ T11 (mkF m 14 _ [(.int ch)])
  exact OwnGo.retN X11 hx (t := .char) hret hlk (by simp) (hb hby d6_14) (by show QlcharAt Z t kc z vs i b ch fmv h0 n0 _ T11.heap _; rw [e11]; exact ⟨by rw [hcc], N11, rfl⟩) (by decide) (by decide)
def QcharAt (Z : State) (a : Addr) (t : Addr) (kc : ClassId) (z : Int32) (vs : List Value) (i : Int32) (b : Int32) (ch : Int32) (zc : Int32) (fmv : Value) (h0 : Heap) (n0 : Nat) (v : Option Value) (h : Heap) (L : List Loc) : Prop := v = some (.int ch) ∧ Fr n0 L ∧ h = h0
theorem rmcharAt (l : Launch) (Z : State) (a0 : Array Value) (hw : own_tb a0 Z) (ws : List Jvm.Cond) (a : Addr) (t : Addr) (kc : ClassId) (z : Int32) (vs : List Value) (i : Int32) (b : Int32) (ch : Int32) (zc : Int32) (fmv : Value) (h0 : Heap) (n0 : Nat) (Z0 : n0 ≤ h0.size) (O_ : Old Z n0 h0) (S_CS : Sta Z Z.heap "java/lang/String" "COMPACT_STRINGS" "Z" (.int zc)) (P_CS : ¬ zc = (0 : Int32)) (S_SF : Sta Z Z.heap "jdk/internal/util/Preconditions" "SIOOBE_FORMATTER" "Ljava/util/function/BiFunction;" fmv) (rf_fmv : fmv.isRef = true) (E_a : Exa Z h0 a "java/lang/String") (Fc : Fld Z h0 a "java/lang/String" "coder" "B" (.int (0 : Int32))) (Fv : Fld Z h0 a "java/lang/String" "value" "[B" (.ref t)) (V : Arv Z h0 t kc .byte z vs (.int (0 : Int32))) (hin : ¬ i < (0 : Int32) ∧ i < z) (hat : vs.getD i.toNatClampNeg (.int (0 : Int32)) = .int b) (hch : (b &&& (255 : Int32)).toUInt32.toUInt16.toUInt32.toInt32 = ch) (hcc : nar .char ch = ch) :
    OwnMet l (⟨"java/lang/String", "charAt", "(I)C"⟩ : MethodName) jdk_42_method_56_code 2 (some .char) ws ({ frames := 3, cells := 0, slots := 0, locals := 40 } : Room) #[(.ref a), (.int i)] Z h0 (QcharAt Z a t kc z vs i b ch zc fmv h0 n0) := by
  refine own_met (plainFor_of_name pn_2) ?_
  intro p e s m below meth c s₁ X0 hx hby hml hret hlk hown hnm hZ e0
  have N0 := Fr.nil n0
  have Z_ := Z0
  refine OwnGo.cast (ef_charAt m a i) ?_
  show OwnGo p e below s _ _ _ s₁ (mkF m 0 _ [])
  refine .aloadN X0 hx (hb hby d4_0) rfl rfl ?_
  obtain ⟨cq13, kq13, q13a, q13b, q13c⟩ := isOf hZ e0 E_a
  obtain ⟨_, _, ⟨T13, L13, k13, n13⟩, -, X13, ⟨Lc13, hQ13, l13, y13, z13⟩, st13⟩ := X0.virtualBack hx (y := (⟨"java/lang/String", "isLatin1", "()Z"⟩ : MethodName)) (z := (⟨"java/lang/String", "isLatin1", "()Z"⟩ : MethodName)) hown (mvT hZ (W_ hw 33 rfl)) (mvT hZ (W_ hw 34 rfl)) (notFace_of_selects (args := #[]) (mvT hZ (W_ hw 36 rfl))) (mvT hZ (W_ hw 36 rfl)) (mvT hZ (W_ hw 35 rfl)) (by decide) (backOf (W := 0) (rmisLatin1 l Z a0 hw [] a zc h0 n0 Z_ O_ S_CS P_CS Fc) hZ (W_ hw 37 rfl) (W_ hw 1 rfl) (by decide) (by decide)) q13a q13c (g := (mkF m 1 #[.val (.ref a), .val (.int i)] [(.ref a)])) rfl (by rw [hml]; rfl) (Steps.refl _) (argsL := []) (rest := []) (lenOf pd_3 rfl) rfl (Nat.le_of_eq rfl) (hb hby d4_1) (fun _ _ => ⟨rfl, e0, (by decide : 0 + 0 ≤ _), (by decide : 0 + 0 ≤ _)⟩)
  dsimp only [Pt.U, Pt.locs, Pt.cells, Pt.slots] at X13 l13 y13 z13 st13 hQ13
  subst l13 y13 z13
  obtain ⟨rfl, N13q, e13⟩ := hQ13
  have N13 := Fr.app N0 N13q
  refine .st (fun _ => st13.trans) ?_
  show OwnGo p e below s _ _ _ T13 (mkF m 4 _ [(.int (1 : Int32))])
  refine .ifNo X13 hx (hb hby d4_4) ((if0 _ _).trans (feq ((by decide) : ¬ ((1 : Int32) = (0 : Int32)))).1) ?_
  refine .aloadN X13 hx (hb hby d4_7) rfl rfl ?_
  obtain ⟨T14, X14, e14, st14⟩ := getF X13 hx hZ hown (host := "") (Or.inl (W_ hw 15 rfl)) Via.refl e13 Fv (g := (mkF m 8 #[.val (.ref a), .val (.int i)] [(.ref a)])) rfl rfl (hb hby d4_8)
  refine .st st14 ?_
  show OwnGo p e below s _ _ _ T14 (mkF m 11 _ [(.ref t)])
  refine .iloadN X14 hx (hb hby d4_11) rfl ?_
  obtain ⟨_, _, ⟨T15, L15, k15, n15⟩, -, X15, ⟨Lc15, hQ15, l15, y15, z15⟩, st15⟩ := Jvm.LawKit.callS X14 hx (y := (⟨"java/lang/StringLatin1", "charAt", "([BI)C"⟩ : MethodName)) hown (mvT hZ (W_ hw 38 rfl)) (mvT hZ (W_ hw 39 rfl)) (mvT hZ (W_ hw 40 rfl)) (mvT hZ (W_ hw 41 rfl)) (by decide) (backOf (W := 0) (rmlcharAt l Z a0 hw [] t kc z vs i b ch fmv h0 n0 Z_ O_ S_SF rf_fmv V hin hat hch hcc) hZ (W_ hw 41 rfl) (W_ hw 40 rfl) (by decide) (by decide)) (g := (mkF m 12 #[.val (.ref a), .val (.int i)] [(.int i), (.ref t)])) rfl (by rw [hml]; rfl) (argsL := [(.ref t), (.int i)]) (rest := []) (lenOf pd_4 rfl) rfl (Nat.le_of_eq rfl) (hb hby d4_12) (fun _ _ => ⟨rfl, e14, (by decide : 0 + 0 ≤ _), (by decide : 0 + 0 ≤ _)⟩)
  dsimp only [Pt.U, Pt.locs, Pt.cells, Pt.slots] at X15 l15 y15 z15 st15 hQ15
  subst l15 y15 z15
  obtain ⟨rfl, N15q, e15⟩ := hQ15
  have N15 := Fr.app N13 N15q
  refine .st st15 ?_
  show OwnGo p e below s _ _ _ T15 (mkF m 15 _ [(.int ch)])
  exact OwnGo.retN X15 hx (t := .char) hret hlk (by simp) (hb hby d4_15) (by show QcharAt Z a t kc z vs i b ch zc fmv h0 n0 _ T15.heap _; rw [e15]; exact ⟨by rw [hcc], N15, rfl⟩) (by decide) (by decide)
def Qle (Z : State) (t : Addr) (kt : ClassId) (vs : List Int32) (b : Addr) (kb : ClassId) (us : List Int32) (h0 : Heap) (n0 : Nat) (v : Option Value) (h : Heap) (L : List Loc) : Prop := ∃ r : Int32, v = some (.int r) ∧ Fr n0 L ∧ h = h0 ∧ ((r = (1 : Int32) ∧ vs = us) ∨ (r = (0 : Int32) ∧ ¬ vs = us))
theorem sg_le {p : Program} {l : Launch} {e : Env} {s : State} {m : MethodId} {below : List Frame} {meth : Method} {c : Code} {Z : State} {a0 : Array Value} {T0 : State} {locs : List Loc} (t : Addr) (kt : ClassId) (vs : List Int32) (b : Addr) (kb : ClassId) (us : List Int32) (k : Nat) (i : Nat) (h0 : Heap) (n0 : Nat) (hw : ∀ d ∈ tables_1, d.before a0 Z = true)
    (X0 : Stand p l e ({ frames := 0, cells := 0, slots := 0, locals := 0 } : Room) s m #[(.ref t), (.ref b)] below meth c T0 locs 0 0) (hx : p.tables.exec = Jvm.exec) (hby : c.code = jdk_43_method_13_code) (hml : c.maxLocals = 3) (hret : meth.sig.returnType = (some .boolean)) (hlk : meth.locks = false) (hown : s.vm.findClass "java/lang/StringLatin1" = some m.cls) (hnm : meth.name = "equals") (hZ : Z.Warmed39 s.vm) (e0 : T0.heap = h0) (N0 : Fr n0 locs) (V_t : Arv Z h0 t kt .byte (Int32.ofNat (List.length vs)) (List.map Value.int vs) (.int (0 : Int32))) (V_b : Arv Z h0 b kb .byte (Int32.ofNat (List.length us)) (List.map Value.int us) (.int (0 : Int32))) (l_vs : List.length vs < 2 ^ 31) (l_us : List.length us < 2 ^ 31) (Z_ : n0 ≤ h0.size) (hvu : List.length vs = List.length us) (hik : i + k = List.length vs) (hin : ∀ j, j < i → vs.getD j 0 = us.getD j 0) :
    OwnGo p e below s ({ frames := 0, cells := 0, slots := 0, locals := 0 } : Room).cells ({ frames := 0, cells := 0, slots := 0, locals := 0 } : Room).slots (Qle Z t kt vs b kb us h0 n0) T0 (mkF m 9 #[.val (.ref t), .val (.ref b), .val (.int (Int32.ofNat i))] []) := by
  induction k generalizing i with
  | zero =>
    refine .iloadN X0 hx (hb hby d20_9) rfl ?_
    refine .aloadN X0 hx (hb hby d20_10) rfl rfl ?_
    obtain ⟨cl16, Ar16, -, S16, N16, -, -⟩ := id V_t
    refine .st (fun _ => own_len hZ (len_of S16 N16) Ar16 X0 e0 hx (g := (mkF m 11 #[.val (.ref t), .val (.ref b), .val (.int (Int32.ofNat i))] [(.ref t), (.int (Int32.ofNat i))])) rfl rfl (hb hby d20_11) _) ?_
    show OwnGo p e below s _ _ _ T0 (mkF m 12 _ [(.int (Int32.ofNat (List.length vs))), (.int (Int32.ofNat i))])
    refine .icmpYes (pc := 12) X0 hx 32 (hb hby d20_12) (flt ((own_nlt (by omega)) : ¬ ((Int32.ofNat i) < (Int32.ofNat (List.length vs))))).2.1 (by decide) (by decide) ?_
    refine .iconst X0 hx (hb hby d20_32) own_ki1 ?_
    exact OwnGo.retN X0 hx (t := .boolean) hret hlk (by simp) (hb hby d20_33) (by show Qle Z t kt vs b kb us h0 n0 _ T0.heap _; rw [e0]; exact ⟨_, rfl, N0, rfl, Or.inl ⟨rfl, own_ext hvu (fun j hj => hin j (by omega))⟩⟩) (by decide) (by decide)
  | succ k ih =>
    refine .iloadN X0 hx (hb hby d20_9) rfl ?_
    refine .aloadN X0 hx (hb hby d20_10) rfl rfl ?_
    obtain ⟨cl17, Ar17, -, S17, N17, -, -⟩ := id V_t
    refine .st (fun _ => own_len hZ (len_of S17 N17) Ar17 X0 e0 hx (g := (mkF m 11 #[.val (.ref t), .val (.ref b), .val (.int (Int32.ofNat i))] [(.ref t), (.int (Int32.ofNat i))])) rfl rfl (hb hby d20_11) _) ?_
    show OwnGo p e below s _ _ _ T0 (mkF m 12 _ [(.int (Int32.ofNat (List.length vs))), (.int (Int32.ofNat i))])
    refine .icmpNo X0 hx (hb hby d20_12) (tlt ((own_lt (by omega) l_vs) : (Int32.ofNat i) < (Int32.ofNat (List.length vs)))).2.1 ?_
    refine .aloadN X0 hx (hb hby d20_15) rfl rfl ?_
    refine .iloadN X0 hx (hb hby d20_16) rfl ?_
    obtain ⟨cl18, Ar18, -, S18, -, H18, -⟩ := id V_t
    have hin18 : ¬ ((Int32.ofNat i) < 0 ∨ cl18.slots.size ≤ ((Int32.ofNat i)).toNatClampNeg) := inb_of S18 ⟨own_nn (by omega), own_lt (by omega) l_vs⟩
    refine .st (fun _ => X0.baloadBytes hx (j := (Int32.ofNat i)) (v := (.int (vs.getD i 0))) (by first | exact Ar18.1 | (rw [e0]; exact Ar18.1)) (State.isArrayOf_alike hZ.alike Ar18.2.1) Ar18.2.2 hin18 (H18.at hin18 (own_gd (by omega))) (g := (mkF m 17 #[.val (.ref t), .val (.ref b), .val (.int (Int32.ofNat i))] [(.int (Int32.ofNat i)), (.ref t)])) rfl rfl (hb hby d20_17) _) ?_
    show OwnGo p e below s _ _ _ T0 (mkF m 18 _ [(.int (vs.getD i 0))])
    refine .aloadN X0 hx (hb hby d20_18) rfl rfl ?_
    refine .iloadN X0 hx (hb hby d20_19) rfl ?_
    obtain ⟨cl19, Ar19, -, S19, -, H19, -⟩ := id V_b
    have hin19 : ¬ ((Int32.ofNat i) < 0 ∨ cl19.slots.size ≤ ((Int32.ofNat i)).toNatClampNeg) := inb_of S19 ⟨own_nn (by omega), own_lt (by omega) l_us⟩
    refine .st (fun _ => X0.baloadBytes hx (j := (Int32.ofNat i)) (v := (.int (us.getD i 0))) (by first | exact Ar19.1 | (rw [e0]; exact Ar19.1)) (State.isArrayOf_alike hZ.alike Ar19.2.1) Ar19.2.2 hin19 (H19.at hin19 (own_gd (by omega))) (g := (mkF m 20 #[.val (.ref t), .val (.ref b), .val (.int (Int32.ofNat i))] [(.int (Int32.ofNat i)), (.ref b), (.int (vs.getD i 0))])) rfl rfl (hb hby d20_20) _) ?_
    show OwnGo p e below s _ _ _ T0 (mkF m 21 _ [(.int (us.getD i 0)), (.int (vs.getD i 0))])
    by_cases hq : (vs.getD i 0) = (us.getD i 0)
    · refine .icmpYes (pc := 21) X0 hx 26 (hb hby d20_21) (teq (hq : (vs.getD i 0) = (us.getD i 0))).1 (by decide) (by decide) ?_
      refine .iinc X0 hx (hb hby d20_26) rfl rfl (L' := #[.val (.ref t), .val (.ref b), .val (.int ((Int32.ofNat i) + (1 : Int32)))]) rfl ?_
      have ih := ih (i + 1) (by omega) (fun j hj => if hji : j = i then (by rw [hji]; exact hq) else hin j (by omega))
      rw [inc_ofNat] at ih
      refine .goto (pc := 29) X0 hx 9 (hb hby d20_29) (by decide) (by decide) ?_
      exact ih
    · refine .icmpNo X0 hx (hb hby d20_21) (feq (hq : ¬ ((vs.getD i 0) = (us.getD i 0)))).1 ?_
      refine .iconst X0 hx (hb hby d20_24) own_ki0 ?_
      exact OwnGo.retN X0 hx (t := .boolean) hret hlk (by simp) (hb hby d20_25) (by show Qle Z t kt vs b kb us h0 n0 _ T0.heap _; rw [e0]; exact ⟨_, rfl, N0, rfl, Or.inr ⟨rfl, fun e => hq (by rw [e])⟩⟩) (by decide) (by decide)
theorem rmle (l : Launch) (Z : State) (a0 : Array Value) (hw : own_tb a0 Z) (ws : List Jvm.Cond) (t : Addr) (kt : ClassId) (vs : List Int32) (b : Addr) (kb : ClassId) (us : List Int32) (h0 : Heap) (n0 : Nat) (Z0 : n0 ≤ h0.size) (V_t : Arv Z h0 t kt .byte (Int32.ofNat (List.length vs)) (List.map Value.int vs) (.int (0 : Int32))) (V_b : Arv Z h0 b kb .byte (Int32.ofNat (List.length us)) (List.map Value.int us) (.int (0 : Int32))) (l_vs : List.length vs < 2 ^ 31) (l_us : List.length us < 2 ^ 31) :
    OwnMet l (⟨"java/lang/StringLatin1", "equals", "([B[B)Z"⟩ : MethodName) jdk_43_method_13_code 3 (some .boolean) ws ({ frames := 0, cells := 0, slots := 0, locals := 0 } : Room) #[(.ref t), (.ref b)] Z h0 (Qle Z t kt vs b kb us h0 n0) := by
  refine own_met (plainFor_of_name pn_6) ?_
  intro p e s m below meth c s₁ X0 hx hby hml hret hlk hown hnm hZ e0
  have N0 := Fr.nil n0
  have Z_ := Z0
  refine OwnGo.cast (ef_le m t b) ?_
  show OwnGo p e below s _ _ _ s₁ (mkF m 0 _ [])
  refine .aloadN X0 hx (hb hby d20_0) rfl rfl ?_
  obtain ⟨cl20, Ar20, -, S20, N20, -, -⟩ := id V_t
  refine .st (fun _ => own_len hZ (len_of S20 N20) Ar20 X0 e0 hx (g := (mkF m 1 #[.val (.ref t), .val (.ref b), .unset] [(.ref t)])) rfl rfl (hb hby d20_1) _) ?_
  show OwnGo p e below s _ _ _ s₁ (mkF m 2 _ [(.int (Int32.ofNat (List.length vs)))])
  refine .aloadN X0 hx (hb hby d20_2) rfl rfl ?_
  obtain ⟨cl21, Ar21, -, S21, N21, -, -⟩ := id V_b
  refine .st (fun _ => own_len hZ (len_of S21 N21) Ar21 X0 e0 hx (g := (mkF m 3 #[.val (.ref t), .val (.ref b), .unset] [(.ref b), (.int (Int32.ofNat (List.length vs)))])) rfl rfl (hb hby d20_3) _) ?_
  show OwnGo p e below s _ _ _ s₁ (mkF m 4 _ [(.int (Int32.ofNat (List.length us))), (.int (Int32.ofNat (List.length vs)))])
  by_cases hz : (Int32.ofNat (List.length vs)) = (Int32.ofNat (List.length us))
  · refine .icmpNo X0 hx (hb hby d20_4) (teq (hz : (Int32.ofNat (List.length vs)) = (Int32.ofNat (List.length us)))).2 ?_
    refine .iconst X0 hx (hb hby d20_7) own_ki0 ?_
    refine .istoreN X0 hx (hb hby d20_8) (L' := #[.val (.ref t), .val (.ref b), .val (.int (0 : Int32))]) rfl ?_
    exact sg_le t kt vs b kb us (List.length vs) 0 h0 n0 hw X0 hx hby hml hret hlk hown hnm hZ e0 N0 V_t V_b l_vs l_us Z_ (own_ofinj l_vs l_us hz) (by omega) (fun j hj => absurd hj (Nat.not_lt_zero j))
  · refine .icmpYes (pc := 4) X0 hx 34 (hb hby d20_4) (feq (hz : ¬ ((Int32.ofNat (List.length vs)) = (Int32.ofNat (List.length us))))).2 (by decide) (by decide) ?_
    refine .iconst X0 hx (hb hby d20_34) own_ki0 ?_
    exact OwnGo.retN X0 hx (t := .boolean) hret hlk (by simp) (hb hby d20_35) (by show Qle Z t kt vs b kb us h0 n0 _ s₁.heap _; rw [e0]; exact ⟨_, rfl, N0, rfl, Or.inr ⟨rfl, fun e => hz (by rw [e])⟩⟩) (by decide) (by decide)
def Qse (Z : State) (x : Addr) (t : Addr) (kt : ClassId) (vs : List Int32) (o : Addr) (b : Addr) (kb : ClassId) (us : List Int32) (zc : Int32) (h0 : Heap) (n0 : Nat) (v : Option Value) (h : Heap) (L : List Loc) : Prop := ∃ r : Int32, v = some (.int r) ∧ Fr n0 L ∧ h = h0 ∧ ((r = (1 : Int32) ∧ vs = us) ∨ (r = (0 : Int32) ∧ ¬ vs = us))
theorem rmse (l : Launch) (Z : State) (a0 : Array Value) (hw : own_tb a0 Z) (ws : List Jvm.Cond) (x : Addr) (t : Addr) (kt : ClassId) (vs : List Int32) (o : Addr) (b : Addr) (kb : ClassId) (us : List Int32) (zc : Int32) (h0 : Heap) (n0 : Nat) (Z0 : n0 ≤ h0.size) (O_ : Old Z n0 h0) (S_CS : Sta Z Z.heap "java/lang/String" "COMPACT_STRINGS" "Z" (.int zc)) (P_CS : ¬ zc = (0 : Int32)) (E_x : Exa Z h0 x "java/lang/String") (Fc_x : Fld Z h0 x "java/lang/String" "coder" "B" (.int (0 : Int32))) (Fv_x : Fld Z h0 x "java/lang/String" "value" "[B" (.ref t)) (V_t : Arv Z h0 t kt .byte (Int32.ofNat (List.length vs)) (List.map Value.int vs) (.int (0 : Int32))) (l_vs : List.length vs < 2 ^ 31) (E_o : Exa Z h0 o "java/lang/String") (Fc_o : Fld Z h0 o "java/lang/String" "coder" "B" (.int (0 : Int32))) (Fv_o : Fld Z h0 o "java/lang/String" "value" "[B" (.ref b)) (V_b : Arv Z h0 b kb .byte (Int32.ofNat (List.length us)) (List.map Value.int us) (.int (0 : Int32))) (l_us : List.length us < 2 ^ 31) :
    OwnMet l (⟨"java/lang/String", "equals", "(Ljava/lang/Object;)Z"⟩ : MethodName) jdk_42_method_66_code 3 (some .boolean) ws ({ frames := 1, cells := 0, slots := 0, locals := 14 } : Room) #[(.ref x), (.ref o)] Z h0 (Qse Z x t kt vs o b kb us zc h0 n0) := by
  refine own_met (plainFor_of_name pn_2) ?_
  intro p e s m below meth c s₁ X0 hx hby hml hret hlk hown hnm hZ e0
  have N0 := Fr.nil n0
  have Z_ := Z0
  refine OwnGo.cast (ef_se m x o) ?_
  show OwnGo p e below s _ _ _ s₁ (mkF m 0 _ [])
  refine .aloadN X0 hx (hb hby d19_0) rfl rfl ?_
  refine .aloadN X0 hx (hb hby d19_1) rfl rfl ?_
  by_cases hxo : x = o
  · refine .st (fun _ => Jvm.RoadKit.acmp (g := (mkF m 2 #[.val (.ref x), .val (.ref o), .unset] [(.ref o), (.ref x)])) X0 hx rfl rfl rfl (pc0 := 2) (pc' := 5) (same := true) rfl (hb hby d19_2) rfl (decide_eq_true (congrArg Value.ref hxo)) (by decide) (by decide)) ?_
    show OwnGo p e below s _ _ _ s₁ (mkF m 5 _ [])
    refine .iconst X0 hx (hb hby d19_5) own_ki1 ?_
    exact OwnGo.retN X0 hx (t := .boolean) hret hlk (by simp) (hb hby d19_6) (by show Qse Z x t kt vs o b kb us zc h0 n0 _ s₁.heap _; rw [e0]; exact ⟨_, rfl, N0, rfl, Or.inl ⟨rfl, own_leq (own_tb2 hxo Fv_x Fv_o) V_t V_b l_vs l_us⟩⟩) (by decide) (by decide)
  · refine .st (fun _ => Jvm.RoadKit.acmp (g := (mkF m 2 #[.val (.ref x), .val (.ref o), .unset] [(.ref o), (.ref x)])) X0 hx rfl rfl rfl (pc0 := 2) (pc' := 7) (same := false) rfl (hb hby d19_2) rfl (decide_eq_false fun q => hxo (Value.ref.inj q)) (by decide) (by decide)) ?_
    show OwnGo p e below s _ _ _ s₁ (mkF m 7 _ [])
    refine .aloadN X0 hx (hb hby d19_7) rfl rfl ?_
    obtain ⟨T22, X22, e22, st22⟩ := instY X0 hx hZ hown (W_ hw 108 rfl) e0 (Ins.self E_o) (g := (mkF m 8 #[.val (.ref x), .val (.ref o), .unset] [(.ref o)])) rfl rfl (hb hby d19_8)
    refine .st st22 ?_
    show OwnGo p e below s _ _ _ T22 (mkF m 11 _ [(.int (1 : Int32))])
    refine .ifNo X22 hx (hb hby d19_11) ((if0 _ _).trans (feq ((by decide) : ¬ ((1 : Int32) = (0 : Int32)))).1) ?_
    refine .aloadN X22 hx (hb hby d19_14) rfl rfl ?_
    obtain ⟨T23, X23, e23, st23⟩ := castY X22 hx hZ hown (W_ hw 108 rfl) e22 (Ins.self E_o) (g := (mkF m 15 #[.val (.ref x), .val (.ref o), .unset] [(.ref o)])) rfl rfl (hb hby d19_15)
    refine .st st23 ?_
    show OwnGo p e below s _ _ _ T23 (mkF m 18 _ [(.ref o)])
    refine .astoreN X23 hx (hb hby d19_18) rfl (L' := #[.val (.ref x), .val (.ref o), .val (.ref o)]) rfl ?_
    obtain ⟨T24, X24, e24, st24⟩ := getS2 X23 hx hZ hown (host := "") (Or.inl (W_ hw 21 rfl)) Via.refl e23 (S_CS.ext O_.2) (g := (mkF m 19 #[.val (.ref x), .val (.ref o), .val (.ref o)] [])) rfl (hb hby d19_19)
    refine .st st24 ?_
    show OwnGo p e below s _ _ _ T24 (mkF m 22 _ [(.int zc)])
    refine .ifNo X24 hx (hb hby d19_22) ((if0 _ _).trans (feq (P_CS : ¬ (zc = (0 : Int32)))).1) ?_
    refine .aloadN X24 hx (hb hby d19_25) rfl rfl ?_
    obtain ⟨T25, X25, e25, st25⟩ := getF X24 hx hZ hown (host := "") (Or.inl (W_ hw 22 rfl)) Via.refl e24 Fc_x (g := (mkF m 26 #[.val (.ref x), .val (.ref o), .val (.ref o)] [(.ref x)])) rfl rfl (hb hby d19_26)
    refine .st st25 ?_
    show OwnGo p e below s _ _ _ T25 (mkF m 29 _ [(.int (0 : Int32))])
    refine .aloadN X25 hx (hb hby d19_29) rfl rfl ?_
    obtain ⟨T26, X26, e26, st26⟩ := getF X25 hx hZ hown (host := "") (Or.inl (W_ hw 22 rfl)) Via.refl e25 Fc_o (g := (mkF m 30 #[.val (.ref x), .val (.ref o), .val (.ref o)] [(.ref o), (.int (0 : Int32))])) rfl rfl (hb hby d19_30)
    refine .st st26 ?_
    show OwnGo p e below s _ _ _ T26 (mkF m 33 _ [(.int (0 : Int32)), (.int (0 : Int32))])
    refine .icmpNo X26 hx (hb hby d19_33) (teq ((by decide) : (0 : Int32) = (0 : Int32))).2 ?_
    refine .aloadN X26 hx (hb hby d19_36) rfl rfl ?_
    obtain ⟨T27, X27, e27, st27⟩ := getF X26 hx hZ hown (host := "") (Or.inl (W_ hw 15 rfl)) Via.refl e26 Fv_x (g := (mkF m 37 #[.val (.ref x), .val (.ref o), .val (.ref o)] [(.ref x)])) rfl rfl (hb hby d19_37)
    refine .st st27 ?_
    show OwnGo p e below s _ _ _ T27 (mkF m 40 _ [(.ref t)])
    refine .aloadN X27 hx (hb hby d19_40) rfl rfl ?_
    obtain ⟨T28, X28, e28, st28⟩ := getF X27 hx hZ hown (host := "") (Or.inl (W_ hw 15 rfl)) Via.refl e27 Fv_o (g := (mkF m 41 #[.val (.ref x), .val (.ref o), .val (.ref o)] [(.ref o), (.ref t)])) rfl rfl (hb hby d19_41)
    refine .st st28 ?_
    show OwnGo p e below s _ _ _ T28 (mkF m 44 _ [(.ref b), (.ref t)])
    obtain ⟨_, _, ⟨T29, L29, k29, n29⟩, -, X29, ⟨Lc29, hQ29, l29, y29, z29⟩, st29⟩ := Jvm.LawKit.callS X28 hx (y := (⟨"java/lang/StringLatin1", "equals", "([B[B)Z"⟩ : MethodName)) hown (mvT hZ (W_ hw 109 rfl)) (mvT hZ (W_ hw 110 rfl)) (mvT hZ (W_ hw 40 rfl)) (mvT hZ (W_ hw 111 rfl)) (by decide) (backOf (W := 0) (rmle l Z a0 hw [] t kt vs b kb us h0 n0 Z_ V_t V_b l_vs l_us) hZ (W_ hw 111 rfl) (W_ hw 40 rfl) (by decide) (by decide)) (g := (mkF m 44 #[.val (.ref x), .val (.ref o), .val (.ref o)] [(.ref b), (.ref t)])) rfl (by rw [hml]; rfl) (argsL := [(.ref t), (.ref b)]) (rest := []) (lenOf pd_5 rfl) rfl (Nat.le_of_eq rfl) (hb hby d19_44) (fun _ _ => ⟨rfl, e28, (by decide : 0 + 0 ≤ _), (by decide : 0 + 0 ≤ _)⟩)
    dsimp only [Pt.U, Pt.locs, Pt.cells, Pt.slots] at X29 l29 y29 z29 st29 hQ29
    subst l29 y29 z29
    obtain ⟨r29, rfl, N29q, e29, hr29⟩ := hQ29
    have N29 := Fr.app N0 N29q
    refine .st st29 ?_
    show OwnGo p e below s _ _ _ T29 (mkF m 47 _ [(.int r29)])
    rcases hr29 with ⟨rfl, hs⟩ | ⟨rfl, hs⟩
    · show OwnGo p e below s _ _ _ T29 (mkF m 47 _ [(.int (1 : Int32))])
      refine .ifNo X29 hx (hb hby d19_47) ((if0 _ _).trans (feq ((by decide) : ¬ ((1 : Int32) = (0 : Int32)))).1) ?_
      refine .iconst X29 hx (hb hby d19_50) own_ki1 ?_
      refine .goto (pc := 51) X29 hx 55 (hb hby d19_51) (by decide) (by decide) ?_
      exact OwnGo.retN X29 hx (t := .boolean) hret hlk (by simp) (hb hby d19_55) (by show Qse Z x t kt vs o b kb us zc h0 n0 _ T29.heap _; rw [e29]; exact ⟨_, rfl, N29, rfl, Or.inl ⟨rfl, hs⟩⟩) (by decide) (by decide)
    · show OwnGo p e below s _ _ _ T29 (mkF m 47 _ [(.int (0 : Int32))])
      refine .ifYes (pc := 47) X29 hx 54 (hb hby d19_47) ((if0 _ _).trans (teq ((by decide) : (0 : Int32) = (0 : Int32))).1) (by decide) (by decide) ?_
      refine .iconst X29 hx (hb hby d19_54) own_ki0 ?_
      exact OwnGo.retN X29 hx (t := .boolean) hret hlk (by simp) (hb hby d19_55) (by show Qse Z x t kt vs o b kb us zc h0 n0 _ T29.heap _; rw [e29]; exact ⟨_, rfl, N29, rfl, Or.inr ⟨rfl, hs⟩⟩) (by decide) (by decide)
def Qsn (Z : State) (x : Addr) (h0 : Heap) (n0 : Nat) (v : Option Value) (h : Heap) (L : List Loc) : Prop := v = some (.int (0 : Int32)) ∧ Fr n0 L ∧ h = h0
theorem rmsn (l : Launch) (Z : State) (a0 : Array Value) (hw : own_tb a0 Z) (ws : List Jvm.Cond) (x : Addr) (h0 : Heap) (n0 : Nat) (Z0 : n0 ≤ h0.size) :
    OwnMet l (⟨"java/lang/String", "equals", "(Ljava/lang/Object;)Z"⟩ : MethodName) jdk_42_method_66_code 3 (some .boolean) ws ({ frames := 0, cells := 0, slots := 0, locals := 0 } : Room) #[(.ref x), .null] Z h0 (Qsn Z x h0 n0) := by
  refine own_met (plainFor_of_name pn_2) ?_
  intro p e s m below meth c s₁ X0 hx hby hml hret hlk hown hnm hZ e0
  have N0 := Fr.nil n0
  have Z_ := Z0
  refine OwnGo.cast (ef_sn m x) ?_
  show OwnGo p e below s _ _ _ s₁ (mkF m 0 _ [])
  refine .aloadN X0 hx (hb hby d19_0) rfl rfl ?_
  refine .aloadN X0 hx (hb hby d19_1) rfl rfl ?_
  refine .st (fun _ => Jvm.RoadKit.acmp (g := (mkF m 2 #[.val (.ref x), .val .null, .unset] [.null, (.ref x)])) X0 hx rfl rfl rfl (pc0 := 2) (pc' := 7) (same := false) rfl (hb hby d19_2) rfl (decide_eq_false nofun) (by decide) (by decide)) ?_
  show OwnGo p e below s _ _ _ s₁ (mkF m 7 _ [])
  refine .aloadN X0 hx (hb hby d19_7) rfl rfl ?_
  refine .st (fun _ => X0.instanceofNull hx (g := (mkF m 8 #[.val (.ref x), .val .null, .unset] [.null])) rfl rfl (hb hby d19_8) _) ?_
  show OwnGo p e below s _ _ _ s₁ (mkF m 11 _ [(.int (0 : Int32))])
  refine .ifYes (pc := 11) X0 hx 54 (hb hby d19_11) ((if0 _ _).trans (teq ((by decide) : (0 : Int32) = (0 : Int32))).1) (by decide) (by decide) ?_
  refine .iconst X0 hx (hb hby d19_54) own_ki0 ?_
  exact OwnGo.retN X0 hx (t := .boolean) hret hlk (by simp) (hb hby d19_55) (by show Qsn Z x h0 n0 _ s₁.heap _; rw [e0]; exact ⟨rfl, N0, rfl⟩) (by decide) (by decide)
def Qdr (Z : State) (i : Int32) (d1 : Int64) (d2 : Int64) (h0 : Heap) (n0 : Nat) (v : Option Value) (h : Heap) (L : List Loc) : Prop := ∃ ch : Int32, v = some (.int ch) ∧ Fr n0 L ∧ h = h0 ∧ (¬ ch < 0 ∧ ¬ (255 : Int32) < ch)
theorem rmdr (l : Launch) (Z : State) (a0 : Array Value) (hw : own_tb a0 Z) (ws : List Jvm.Cond) (i : Int32) (d1 : Int64) (d2 : Int64) (h0 : Heap) (n0 : Nat) (Z0 : n0 ≤ h0.size) :
    OwnMet l (⟨"com/example/tightrope/tightrope/junit/OutcomeOfTextPinLaw", "drawn", "(IJJ)C"⟩ : MethodName) method_4_code 8 (some .char) ws ({ frames := 0, cells := 0, slots := 0, locals := 0 } : Room) #[(.int i), (.long d1), (.long d2)] Z h0 (Qdr Z i d1 d2 h0 n0) := by
  refine own_met (plainFor_of_name pn_9) ?_
  intro p e s m below meth c s₁ X0 hx hby hml hret hlk hown hnm hZ e0
  have N0 := Fr.nil n0
  have Z_ := Z0
  refine OwnGo.cast (ef_dr m i d1 d2) ?_
  show OwnGo p e below s _ _ _ s₁ (mkF m 0 _ [])
  refine .iloadN X0 hx (hb hby d9_0) rfl ?_
  refine .bipush X0 hx (hb hby d9_1) own_kb8 ?_
  by_cases q8 : i < (8 : Int32)
  · refine .icmpNo X0 hx (hb hby d9_3) (tlt (q8 : i < (8 : Int32))).2.1 ?_
    refine .st (fun _ => XS.lloadN X0.here hx rfl (hb hby d9_6) rfl) ?_
    show OwnGo p e below s _ _ _ s₁ (mkF m 7 _ [(.long d1)])
    refine .goto (pc := 7) X0 hx 11 (hb hby d9_7) (by decide) (by decide) ?_
    refine .st (fun _ => XS.lstore X0.here hx rfl (hb hby d9_11) rfl (l' := #[.val (.int i), .val (.long d1), .second, .val (.long d2), .second, .val (.long d1), .second, .unset]) rfl) ?_
    show OwnGo p e below s _ _ _ s₁ (mkF m 13 _ [])
    refine .iloadN X0 hx (hb hby d9_13) rfl ?_
    refine .bipush X0 hx (hb hby d9_14) own_kb7 ?_
    refine .st (fun _ => XS.iand X0.here hx rfl (hb hby d9_16) rfl) ?_
    show OwnGo p e below s _ _ _ s₁ (mkF m 17 _ [(.int (i &&& (7 : Int32)))])
    refine .bipush X0 hx (hb hby d9_17) own_kb8 ?_
    refine .st (fun _ => XS.imul X0.here hx rfl (hb hby d9_19) rfl) ?_
    show OwnGo p e below s _ _ _ s₁ (mkF m 20 _ [(.int ((i &&& (7 : Int32)) * (8 : Int32)))])
    refine .istore X0 hx (hb hby d9_20) (L' := #[.val (.int i), .val (.long d1), .second, .val (.long d2), .second, .val (.long d1), .second, .val (.int ((i &&& (7 : Int32)) * (8 : Int32)))]) rfl ?_
    refine .st (fun _ => XS.lload X0.here hx rfl (hb hby d9_22) rfl) ?_
    show OwnGo p e below s _ _ _ s₁ (mkF m 24 _ [(.long d1)])
    refine .iload X0 hx (hb hby d9_24) rfl ?_
    refine .st (fun _ => XS.lushr X0.here hx rfl (hb hby d9_26) rfl) ?_
    show OwnGo p e below s _ _ _ s₁ (mkF m 27 _ [(.long ((d1.toUInt64 >>> (((i &&& (7 : Int32)) * (8 : Int32)) &&& 0x3f).toInt64.toUInt64).toInt64))])
    refine .st (fun _ => X0.ldc2Long hx hown (mvT hZ (W_ hw 53 rfl)) (g := (mkF m 27 #[.val (.int i), .val (.long d1), .second, .val (.long d2), .second, .val (.long d1), .second, .val (.int ((i &&& (7 : Int32)) * (8 : Int32)))] [(.long ((d1.toUInt64 >>> (((i &&& (7 : Int32)) * (8 : Int32)) &&& 0x3f).toInt64.toUInt64).toInt64))])) rfl (hb hby d9_27) _) ?_
    show OwnGo p e below s _ _ _ s₁ (mkF m 30 _ [(.long (255 : Int64)), (.long ((d1.toUInt64 >>> (((i &&& (7 : Int32)) * (8 : Int32)) &&& 0x3f).toInt64.toUInt64).toInt64))])
    refine .st (fun _ => XS.land X0.here hx rfl (hb hby d9_30) rfl) ?_
    show OwnGo p e below s _ _ _ s₁ (mkF m 31 _ [(.long (((d1.toUInt64 >>> (((i &&& (7 : Int32)) * (8 : Int32)) &&& 0x3f).toInt64.toUInt64).toInt64) &&& (255 : Int64)))])
    refine .st (fun _ => XS.l2i X0.here hx rfl (hb hby d9_31) rfl) ?_
    show OwnGo p e below s _ _ _ s₁ (mkF m 32 _ [(.int ((((d1.toUInt64 >>> (((i &&& (7 : Int32)) * (8 : Int32)) &&& 0x3f).toInt64.toUInt64).toInt64) &&& (255 : Int64)).toInt32))])
    refine .st (fun _ => XS.i2c X0.here hx rfl (hb hby d9_32) rfl) ?_
    show OwnGo p e below s _ _ _ s₁ (mkF m 33 _ [(.int (((((d1.toUInt64 >>> (((i &&& (7 : Int32)) * (8 : Int32)) &&& 0x3f).toInt64.toUInt64).toInt64) &&& (255 : Int64)).toInt32).toUInt32.toUInt16.toUInt32.toInt32))])
    obtain ⟨ch, hch⟩ : ∃ z : Int32, z = (((((d1.toUInt64 >>> (((i &&& (7 : Int32)) * (8 : Int32)) &&& 0x3f).toInt64.toUInt64).toInt64) &&& (255 : Int64)).toInt32).toUInt32.toUInt16.toUInt32.toInt32) := ⟨_, rfl⟩
    rw [← hch]
    show OwnGo p e below s _ _ _ s₁ (mkF m 33 _ [(.int ch)])
    have hp : ¬ ch < 0 ∧ ¬ (255 : Int32) < ch := by rw [hch]; exact own_lml _
    exact OwnGo.retN X0 hx (t := .char) hret hlk (by simp) (hb hby d9_33) (by show Qdr Z i d1 d2 h0 n0 _ s₁.heap _; rw [e0]; exact ⟨ch, by rw [own_lnc hp], N0, rfl, hp⟩) (by decide) (by decide)
  · refine .icmpYes (pc := 3) X0 hx 10 (hb hby d9_3) (flt (q8 : ¬ (i < (8 : Int32)))).2.1 (by decide) (by decide) ?_
    refine .st (fun _ => XS.lloadN X0.here hx rfl (hb hby d9_10) rfl) ?_
    show OwnGo p e below s _ _ _ s₁ (mkF m 11 _ [(.long d2)])
    refine .st (fun _ => XS.lstore X0.here hx rfl (hb hby d9_11) rfl (l' := #[.val (.int i), .val (.long d1), .second, .val (.long d2), .second, .val (.long d2), .second, .unset]) rfl) ?_
    show OwnGo p e below s _ _ _ s₁ (mkF m 13 _ [])
    refine .iloadN X0 hx (hb hby d9_13) rfl ?_
    refine .bipush X0 hx (hb hby d9_14) own_kb7 ?_
    refine .st (fun _ => XS.iand X0.here hx rfl (hb hby d9_16) rfl) ?_
    show OwnGo p e below s _ _ _ s₁ (mkF m 17 _ [(.int (i &&& (7 : Int32)))])
    refine .bipush X0 hx (hb hby d9_17) own_kb8 ?_
    refine .st (fun _ => XS.imul X0.here hx rfl (hb hby d9_19) rfl) ?_
    show OwnGo p e below s _ _ _ s₁ (mkF m 20 _ [(.int ((i &&& (7 : Int32)) * (8 : Int32)))])
    refine .istore X0 hx (hb hby d9_20) (L' := #[.val (.int i), .val (.long d1), .second, .val (.long d2), .second, .val (.long d2), .second, .val (.int ((i &&& (7 : Int32)) * (8 : Int32)))]) rfl ?_
    refine .st (fun _ => XS.lload X0.here hx rfl (hb hby d9_22) rfl) ?_
    show OwnGo p e below s _ _ _ s₁ (mkF m 24 _ [(.long d2)])
    refine .iload X0 hx (hb hby d9_24) rfl ?_
    refine .st (fun _ => XS.lushr X0.here hx rfl (hb hby d9_26) rfl) ?_
    show OwnGo p e below s _ _ _ s₁ (mkF m 27 _ [(.long ((d2.toUInt64 >>> (((i &&& (7 : Int32)) * (8 : Int32)) &&& 0x3f).toInt64.toUInt64).toInt64))])
    refine .st (fun _ => X0.ldc2Long hx hown (mvT hZ (W_ hw 53 rfl)) (g := (mkF m 27 #[.val (.int i), .val (.long d1), .second, .val (.long d2), .second, .val (.long d2), .second, .val (.int ((i &&& (7 : Int32)) * (8 : Int32)))] [(.long ((d2.toUInt64 >>> (((i &&& (7 : Int32)) * (8 : Int32)) &&& 0x3f).toInt64.toUInt64).toInt64))])) rfl (hb hby d9_27) _) ?_
    show OwnGo p e below s _ _ _ s₁ (mkF m 30 _ [(.long (255 : Int64)), (.long ((d2.toUInt64 >>> (((i &&& (7 : Int32)) * (8 : Int32)) &&& 0x3f).toInt64.toUInt64).toInt64))])
    refine .st (fun _ => XS.land X0.here hx rfl (hb hby d9_30) rfl) ?_
    show OwnGo p e below s _ _ _ s₁ (mkF m 31 _ [(.long (((d2.toUInt64 >>> (((i &&& (7 : Int32)) * (8 : Int32)) &&& 0x3f).toInt64.toUInt64).toInt64) &&& (255 : Int64)))])
    refine .st (fun _ => XS.l2i X0.here hx rfl (hb hby d9_31) rfl) ?_
    show OwnGo p e below s _ _ _ s₁ (mkF m 32 _ [(.int ((((d2.toUInt64 >>> (((i &&& (7 : Int32)) * (8 : Int32)) &&& 0x3f).toInt64.toUInt64).toInt64) &&& (255 : Int64)).toInt32))])
    refine .st (fun _ => XS.i2c X0.here hx rfl (hb hby d9_32) rfl) ?_
    show OwnGo p e below s _ _ _ s₁ (mkF m 33 _ [(.int (((((d2.toUInt64 >>> (((i &&& (7 : Int32)) * (8 : Int32)) &&& 0x3f).toInt64.toUInt64).toInt64) &&& (255 : Int64)).toInt32).toUInt32.toUInt16.toUInt32.toInt32))])
    obtain ⟨ch, hch⟩ : ∃ z : Int32, z = (((((d2.toUInt64 >>> (((i &&& (7 : Int32)) * (8 : Int32)) &&& 0x3f).toInt64.toUInt64).toInt64) &&& (255 : Int64)).toInt32).toUInt32.toUInt16.toUInt32.toInt32) := ⟨_, rfl⟩
    rw [← hch]
    show OwnGo p e below s _ _ _ s₁ (mkF m 33 _ [(.int ch)])
    have hp : ¬ ch < 0 ∧ ¬ (255 : Int32) < ch := by rw [hch]; exact own_lml _
    exact OwnGo.retN X0 hx (t := .char) hret hlk (by simp) (hb hby d9_33) (by show Qdr Z i d1 d2 h0 n0 _ s₁.heap _; rw [e0]; exact ⟨ch, by rw [own_lnc hp], N0, rfl, hp⟩) (by decide) (by decide)
def Qpk (Z : State) (i : Int32) (x : Addr) (t : Addr) (kt : ClassId) (vs : List Int32) (d1 : Int64) (d2 : Int64) (zc : Int32) (fmv : Value) (h0 : Heap) (n0 : Nat) (v : Option Value) (h : Heap) (L : List Loc) : Prop := ∃ ch : Int32, v = some (.int ch) ∧ Fr n0 L ∧ h = h0 ∧ (¬ ch < 0 ∧ ¬ (255 : Int32) < ch)
theorem rmpk (l : Launch) (Z : State) (a0 : Array Value) (hw : own_tb a0 Z) (ws : List Jvm.Cond) (i : Int32) (x : Addr) (t : Addr) (kt : ClassId) (vs : List Int32) (d1 : Int64) (d2 : Int64) (zc : Int32) (fmv : Value) (h0 : Heap) (n0 : Nat) (Z0 : n0 ≤ h0.size) (O_ : Old Z n0 h0) (S_CS : Sta Z Z.heap "java/lang/String" "COMPACT_STRINGS" "Z" (.int zc)) (P_CS : ¬ zc = (0 : Int32)) (S_SF : Sta Z Z.heap "jdk/internal/util/Preconditions" "SIOOBE_FORMATTER" "Ljava/util/function/BiFunction;" fmv) (rf_fmv : fmv.isRef = true) (hi : ¬ i < (0 : Int32)) (E_x : Exa Z h0 x "java/lang/String") (Fc_x : Fld Z h0 x "java/lang/String" "coder" "B" (.int (0 : Int32))) (Fv_x : Fld Z h0 x "java/lang/String" "value" "[B" (.ref t)) (V_t : Arv Z h0 t kt .byte (Int32.ofNat (List.length vs)) (List.map Value.int vs) (.int (0 : Int32))) (l_vs : List.length vs < 2 ^ 31) :
    OwnMet l (⟨"com/example/tightrope/tightrope/junit/OutcomeOfTextPinLaw", "pick", "(ILjava/lang/String;JJ)C"⟩ : MethodName) method_5_code 6 (some .char) ws ({ frames := 4, cells := 0, slots := 0, locals := 53 } : Room) #[(.int i), (.ref x), (.long d1), (.long d2)] Z h0 (Qpk Z i x t kt vs d1 d2 zc fmv h0 n0) := by
  refine own_met (plainFor_of_name pn_9) ?_
  intro p e s m below meth c s₁ X0 hx hby hml hret hlk hown hnm hZ e0
  have N0 := Fr.nil n0
  have Z_ := Z0
  refine OwnGo.cast (ef_pk m i x d1 d2) ?_
  show OwnGo p e below s _ _ _ s₁ (mkF m 0 _ [])
  refine .iloadN X0 hx (hb hby d3_0) rfl ?_
  refine .aloadN X0 hx (hb hby d3_1) rfl rfl ?_
  obtain ⟨cq30, kq30, q30a, q30b, q30c⟩ := isOf hZ e0 E_x
  obtain ⟨_, _, ⟨T30, L30, k30, n30⟩, -, X30, ⟨Lc30, hQ30, l30, y30, z30⟩, st30⟩ := X0.virtualBack hx (y := (⟨"java/lang/String", "length", "()I"⟩ : MethodName)) (z := (⟨"java/lang/String", "length", "()I"⟩ : MethodName)) hown (mvT hZ (W_ hw 10 rfl)) (mvT hZ (W_ hw 11 rfl)) (notFace_of_selects (args := #[]) (mvT hZ (W_ hw 13 rfl))) (mvT hZ (W_ hw 13 rfl)) (mvT hZ (W_ hw 12 rfl)) (by decide) (backOf (W := 1) (rmlength l Z a0 hw [] x t kt (Int32.ofNat (List.length vs)) (List.map Value.int vs) zc h0 n0 Z_ O_ S_CS P_CS E_x Fc_x Fv_x V_t) hZ (W_ hw 14 rfl) (W_ hw 1 rfl) (by decide) (by decide)) q30a q30c (g := (mkF m 2 #[.val (.int i), .val (.ref x), .val (.long d1), .second, .val (.long d2), .second] [(.ref x), (.int i)])) rfl (by rw [hml]; rfl) (Steps.refl _) (argsL := []) (rest := [(.int i)]) (lenOf pd_6 rfl) rfl (Nat.le_of_eq rfl) (hb hby d3_2) (fun _ _ => ⟨rfl, e0, (by decide : 0 + 0 ≤ _), (by decide : 0 + 0 ≤ _)⟩)
  dsimp only [Pt.U, Pt.locs, Pt.cells, Pt.slots] at X30 l30 y30 z30 st30 hQ30
  subst l30 y30 z30
  obtain ⟨rfl, N30q, e30⟩ := hQ30
  have N30 := Fr.app N0 N30q
  refine .st (fun _ => st30.trans) ?_
  show OwnGo p e below s _ _ _ T30 (mkF m 5 _ [(.int (Int32.ofNat (List.length vs))), (.int i)])
  by_cases hq : i < (Int32.ofNat (List.length vs))
  · refine .icmpNo X30 hx (hb hby d3_5) (tlt (hq : i < (Int32.ofNat (List.length vs)))).2.1 ?_
    refine .aloadN X30 hx (hb hby d3_8) rfl rfl ?_
    refine .iloadN X30 hx (hb hby d3_9) rfl ?_
    obtain ⟨ch, hch⟩ : ∃ z : Int32, z = (vs.getD i.toNatClampNeg 0 &&& (255 : Int32)).toUInt32.toUInt16.toUInt32.toInt32 := ⟨_, rfl⟩
    have hp : ¬ ch < 0 ∧ ¬ (255 : Int32) < ch := by rw [hch]; exact own_lmk _
    obtain ⟨cq31, kq31, q31a, q31b, q31c⟩ := isOf hZ e30 E_x
    obtain ⟨_, _, ⟨T31, L31, k31, n31⟩, -, X31, ⟨Lc31, hQ31, l31, y31, z31⟩, st31⟩ := X30.virtualBack hx (y := (⟨"java/lang/String", "charAt", "(I)C"⟩ : MethodName)) (z := (⟨"java/lang/String", "charAt", "(I)C"⟩ : MethodName)) hown (mvT hZ (W_ hw 28 rfl)) (mvT hZ (W_ hw 29 rfl)) (notFace_of_selects (args := #[]) (mvT hZ (W_ hw 31 rfl))) (mvT hZ (W_ hw 31 rfl)) (mvT hZ (W_ hw 30 rfl)) (by decide) (backOf (W := 0) (rmcharAt l Z a0 hw [] x t kt (Int32.ofNat (List.length vs)) (List.map Value.int vs) i (vs.getD i.toNatClampNeg 0) ch zc fmv h0 n0 Z_ O_ S_CS P_CS S_SF rf_fmv E_x Fc_x Fv_x V_t ⟨hi, hq⟩ (own_gdm _ _) hch.symm (own_lnc hp)) hZ (W_ hw 32 rfl) (W_ hw 1 rfl) (by decide) (by decide)) q31a q31c (g := (mkF m 10 #[.val (.int i), .val (.ref x), .val (.long d1), .second, .val (.long d2), .second] [(.int i), (.ref x)])) rfl (by rw [hml]; rfl) (Steps.refl _) (argsL := [(.int i)]) (rest := []) (lenOf pd_7 rfl) rfl (Nat.le_of_eq rfl) (hb hby d3_10) (fun _ _ => ⟨rfl, e30, (by decide : 0 + 0 ≤ _), (by decide : 0 + 0 ≤ _)⟩)
    dsimp only [Pt.U, Pt.locs, Pt.cells, Pt.slots] at X31 l31 y31 z31 st31 hQ31
    subst l31 y31 z31
    obtain ⟨rfl, N31q, e31⟩ := hQ31
    have N31 := Fr.app N30 N31q
    refine .st (fun _ => st31.trans) ?_
    show OwnGo p e below s _ _ _ T31 (mkF m 13 _ [(.int ch)])
    exact OwnGo.retN X31 hx (t := .char) hret hlk (by simp) (hb hby d3_13) (by show Qpk Z i x t kt vs d1 d2 zc fmv h0 n0 _ T31.heap _; rw [e31]; exact ⟨ch, by rw [own_lnc hp], N31, rfl, hp⟩) (by decide) (by decide)
  · refine .icmpYes (pc := 5) X30 hx 14 (hb hby d3_5) (flt (hq : ¬ (i < (Int32.ofNat (List.length vs))))).2.1 (by decide) (by decide) ?_
    refine .iloadN X30 hx (hb hby d3_14) rfl ?_
    refine .st (fun _ => XS.lloadN X30.here hx rfl (hb hby d3_15) rfl) ?_
    show OwnGo p e below s _ _ _ T30 (mkF m 16 _ [(.long d1), (.int i)])
    refine .st (fun _ => XS.lload X30.here hx rfl (hb hby d3_16) rfl) ?_
    show OwnGo p e below s _ _ _ T30 (mkF m 18 _ [(.long d2), (.long d1), (.int i)])
    obtain ⟨_, _, ⟨T32, L32, k32, n32⟩, -, X32, ⟨Lc32, hQ32, l32, y32, z32⟩, st32⟩ := Jvm.LawKit.callS X30 hx (y := (⟨"com/example/tightrope/tightrope/junit/OutcomeOfTextPinLaw", "drawn", "(IJJ)C"⟩ : MethodName)) hown (mvT hZ (W_ hw 50 rfl)) (mvT hZ (W_ hw 51 rfl)) (mvT hZ (W_ hw 26 rfl)) (mvT hZ (W_ hw 52 rfl)) (by decide) (backOf (W := 0) (rmdr l Z a0 hw [] i d1 d2 h0 n0 Z_ ) hZ (W_ hw 52 rfl) (W_ hw 26 rfl) (by decide) (by decide)) (g := (mkF m 18 #[.val (.int i), .val (.ref x), .val (.long d1), .second, .val (.long d2), .second] [(.long d2), (.long d1), (.int i)])) rfl (by rw [hml]; rfl) (argsL := [(.int i), (.long d1), (.long d2)]) (rest := []) (lenOf pd_8 rfl) rfl (Nat.le_of_eq rfl) (hb hby d3_18) (fun _ _ => ⟨rfl, e30, (by decide : 0 + 0 ≤ _), (by decide : 0 + 0 ≤ _)⟩)
    dsimp only [Pt.U, Pt.locs, Pt.cells, Pt.slots] at X32 l32 y32 z32 st32 hQ32
    subst l32 y32 z32
    obtain ⟨ch32, rfl, N32q, e32, hp32⟩ := hQ32
    have N32 := Fr.app N30 N32q
    refine .st st32 ?_
    show OwnGo p e below s _ _ _ T32 (mkF m 21 _ [(.int ch32)])
    exact OwnGo.retN X32 hx (t := .char) hret hlk (by simp) (hb hby d3_21) (by show Qpk Z i x t kt vs d1 d2 zc fmv h0 n0 _ T32.heap _; rw [e32]; exact ⟨ch32, by rw [own_lnc hp32], N32, rfl, hp32⟩) (by decide) (by decide)
def QiV0 (Z : State) (x : Addr) (a : Addr) (h0 : Heap) (n0 : Nat) (v : Option Value) (h : Heap) (L : List Loc) : Prop := v = none ∧ Fr n0 L ∧ Keep h0 h [x] ∧ Exa Z h x "java/lang/String" ∧ Fld Z h x "java/lang/String" "coder" "B" (.int (0 : Int32)) ∧ ∃ (b : Addr) (kb : ClassId), Fld Z h x "java/lang/String" "value" "[B" (.ref b) ∧ Arv Z h b kb .byte (0 : Int32) [] (.int (0 : Int32))
theorem rmiV0 (l : Launch) (Z : State) (a0 : Array Value) (hw : own_tb a0 Z) (ws : List Jvm.Cond) (x : Addr) (a : Addr) (h0 : Heap) (n0 : Nat) (Z0 : n0 ≤ h0.size) (E_x : Exa Z h0 x "java/lang/String") (Fv : Fld Z h0 x "java/lang/String" "value" "[B" .null) (Fc : Fld Z h0 x "java/lang/String" "coder" "B" (.int (0 : Int32))) (g_x : n0 ≤ x) :
    OwnMetW l (⟨"java/lang/String", "<init>", "([CIILjava/lang/Void;)V"⟩ : MethodName) jdk_42_method_149_code 6 none ws ({ frames := 1, cells := 4, slots := 8, locals := 12 } : Room) #[(.ref x), (.ref a), (.int (0 : Int32)), (.int (0 : Int32)), .null] Z h0 (QiV0 Z x a h0 n0) := by
  refine own_metW (EL := own_EL) (plainFor_of_name pn_2) ?_
  intro p e s m below meth c s₁ X0 hx hby hml hret hlk hown hnm hZ e0 hS_ CR
  have hk_ := Nat.le_refl h0.size
  have N0 := Fr.nil n0
  have Z_ := Z0
  refine OwnGoW.cast (ef_iV0 m x a (0 : Int32) (0 : Int32)) ?_
  show OwnGoW p e below s Z own_EL _ _ _ s₁ (mkF m 0 _ [])
  have sf_x : Safe Z own_EL s.vm h0 x := own_safe_null hZ.alike E_x Fv
  have Kp : Keep h0 h0 [x] := Keep.refl h0 [x]
  refine .aloadN X0 hx (hb hby d12_0) rfl rfl ?_
  obtain ⟨T33, X33, e33, st33⟩ := initO X0 hx hZ hown (W_ hw 65 rfl) (W_ hw 66 rfl) (W_ hw 67 rfl) e0 (g := (mkF m 1 #[.val (.ref x), .val (.ref a), .val (.int (0 : Int32)), .val (.int (0 : Int32)), .val .null, .unset] [(.ref x)])) rfl (by rw [hml]; rfl) rfl (hb hby d12_1) (by decide) (W := 0) (Nat.le_of_eq rfl) (by decide)
  refine .st st33 ?_
  show OwnGoW p e below s Z own_EL _ _ _ T33 (mkF m 4 _ [])
  refine .iloadN X33 hx (hb hby d12_4) rfl ?_
  refine .ifNo X33 hx (hb hby d12_5) ((if0 _ _).trans (teq ((by decide) : (0 : Int32) = (0 : Int32))).2) ?_
  refine .aloadN X33 hx (hb hby d12_8) rfl rfl ?_
  obtain ⟨a34, T34, h34, k1_34, b34, kc34, X34, e34, E34, hS_, hkN, hZ, hown, Ea_, Fc_, Fv_, Vb_, -, -, CN, -, sN, st34⟩ := ldcCH (s := s) (vm0 := s.vm) X33 hx hZ hown (W_ hw 120 rfl) (own_wS hw) e33 hS_ hk_ (own_hEL hw) (by decide) CR.1 (vs := []) (z := (0 : Int32)) ⟨by decide, rfl⟩ (by decide) (by decide) (g := (mkF m 9 #[.val (.ref x), .val (.ref a), .val (.int (0 : Int32)), .val (.int (0 : Int32)), .val .null, .unset] [(.ref x)])) rfl (hb hby d12_9) (n := 0) (by decide) (by decide) (by decide) (by decide)
  have lt_x : x < h0.size := E_x.lt
  have E_x := E_x.ext E34
  have Fv := Fv.ext E34
  have Fc := Fc.ext E34
  have Kp := Kp.ext E34
  have sf_x := CN.safe lt_x sf_x
  have CR := CR.trans CN
  have hk_ := hkN
  have Z_ : n0 ≤ h34.size := Nat.le_trans Z_ E34.1
  have ne_x_a34 := (sN _ sf_x).1
  have ne_x_b34 := (sN _ sf_x).2
  have E_a34 := Ea_
  have Fc_a34 := Fc_
  have Fv_a34 := Fv_
  have V_b34 := Vb_
  refine .st st34 ?_
  show OwnGoW p e below s Z own_EL _ _ _ T34 (mkF m 11 _ [(.ref a34), (.ref x)])
  obtain ⟨T35, X35, e35, st35⟩ := getF X34 hx hZ hown (host := "") (Or.inl (W_ hw 15 rfl)) Via.refl e34 Fv_a34 (g := (mkF m 11 #[.val (.ref x), .val (.ref a), .val (.int (0 : Int32)), .val (.int (0 : Int32)), .val .null, .unset] [(.ref a34), (.ref x)])) rfl rfl (hb hby d12_11)
  refine .st st35 ?_
  show OwnGoW p e below s Z own_EL _ _ _ T35 (mkF m 14 _ [(.ref b34), (.ref x)])
  obtain ⟨T36, h36, X36, e36, W36, st36⟩ := putF X35 hx hZ hown (host := "") (Or.inl (W_ hw 15 rfl)) Via.refl e35 Fv E_x (Or.inr ⟨(W_ hw 4 rfl), rfl, hnm⟩) (W_ hw 2 rfl) (ty := (.array .byte)) (by decide) rfl rfl (g := (mkF m 14 #[.val (.ref x), .val (.ref a), .val (.int (0 : Int32)), .val (.int (0 : Int32)), .val .null, .unset] [(.ref b34), (.ref x)])) rfl rfl (hb hby d12_14)
  have E_x := E_x.wr W36
  have Fv := Fv.same W36
  have Fc := Fc.other W36 (Or.inr (slot_ne (Or.inr (W_ hw 5 rfl)) (Or.inr (W_ hw 4 rfl)) (by decide) (t := .byte) (t' := (.array .byte)) (by decide) (by decide)))
  have E_a34 := E_a34.wr W36
  have Fc_a34 := Fc_a34.other W36 (Or.inl (Ne.symm ne_x_a34))
  have Fv_a34 := Fv_a34.other W36 (Or.inl (Ne.symm ne_x_a34))
  have V_b34 := V_b34.other W36 (Ne.symm ne_x_b34)
  have Kp := Kp.wr W36 (Or.inl (List.mem_of_getElem? (i := 0) rfl))
  have sf_ := sf_x
  have CR0 := CR.1
  have CR := CR.trans (CHr.wr W36 sf_ CR.1)
  have sf_x := Safe.wr W36 sf_ CR0 sf_x
  have hk_ := Nat.le_trans hk_ (Nat.le_of_eq W36.size.symm)
  have N36 := Fr.snoc X36 N0 g_x
  have Z_ : n0 ≤ h36.size := by rw [W36.size]; exact Z_
  refine .st st36 ?_
  show OwnGoW p e below s Z own_EL _ _ _ T36 (mkF m 17 _ [])
  refine .aloadN X36 hx (hb hby d12_17) rfl rfl ?_
  obtain ⟨a37, T37, h37, k1_37, b37, kc37, X37, e37, E37, hS_, hkN, hZ, hown, Ea_, Fc_, Fv_, Vb_, -, -, CN, -, sN, st37⟩ := ldcCH (s := s) (vm0 := T34.vm) X36 hx hZ hown (W_ hw 120 rfl) (own_wS hw) e36 hS_ hk_ (own_hEL hw) (by decide) CR.1 (vs := []) (z := (0 : Int32)) ⟨by decide, rfl⟩ (by decide) (by decide) (g := (mkF m 18 #[.val (.ref x), .val (.ref a), .val (.int (0 : Int32)), .val (.int (0 : Int32)), .val .null, .unset] [(.ref x)])) rfl (hb hby d12_18) (n := 0) (by decide) (by decide) (by decide) (by decide)
  have lt_x : x < h36.size := E_x.lt
  have E_x := E_x.ext E37
  have Fv := Fv.ext E37
  have Fc := Fc.ext E37
  have E_a34 := E_a34.ext E37
  have Fc_a34 := Fc_a34.ext E37
  have Fv_a34 := Fv_a34.ext E37
  have V_b34 := V_b34.ext E37
  have Kp := Kp.ext E37
  have sf_x := CN.safe lt_x sf_x
  have CR := CR.trans CN
  have hk_ := hkN
  have Z_ : n0 ≤ h37.size := Nat.le_trans Z_ E37.1
  have ne_x_a37 := (sN _ sf_x).1
  have ne_x_b37 := (sN _ sf_x).2
  have E_a37 := Ea_
  have Fc_a37 := Fc_
  have Fv_a37 := Fv_
  have V_b37 := Vb_
  refine .st st37 ?_
  show OwnGoW p e below s Z own_EL _ _ _ T37 (mkF m 20 _ [(.ref a37), (.ref x)])
  obtain ⟨T38, X38, e38, st38⟩ := getF X37 hx hZ hown (host := "") (Or.inl (W_ hw 22 rfl)) Via.refl e37 Fc_a37 (g := (mkF m 20 #[.val (.ref x), .val (.ref a), .val (.int (0 : Int32)), .val (.int (0 : Int32)), .val .null, .unset] [(.ref a37), (.ref x)])) rfl rfl (hb hby d12_20)
  refine .st st38 ?_
  show OwnGoW p e below s Z own_EL _ _ _ T38 (mkF m 23 _ [(.int (0 : Int32)), (.ref x)])
  obtain ⟨T39, h39, X39, e39, W39, st39⟩ := putFN X38 hx hZ hown (W_ hw 22 rfl) Via.refl e38 Fc E_x (Or.inr ⟨(W_ hw 5 rfl), rfl, hnm⟩) (W_ hw 2 rfl) (ty := .byte) (v' := (.int (nar .byte (0 : Int32)))) (by decide) rfl (fits_nar_byte _) (g := (mkF m 23 #[.val (.ref x), .val (.ref a), .val (.int (0 : Int32)), .val (.int (0 : Int32)), .val .null, .unset] [(.int (0 : Int32)), (.ref x)])) rfl rfl (hb hby d12_23)
  have E_x := E_x.wr W39
  have Fv := Fv.other W39 (Or.inr (slot_ne (Or.inr (W_ hw 4 rfl)) (Or.inr (W_ hw 5 rfl)) (by decide) (t := (.array .byte)) (t' := .byte) (by decide) (by decide)))
  have Fc := Fc.same W39
  have E_a34 := E_a34.wr W39
  have Fc_a34 := Fc_a34.other W39 (Or.inl (Ne.symm ne_x_a34))
  have Fv_a34 := Fv_a34.other W39 (Or.inl (Ne.symm ne_x_a34))
  have V_b34 := V_b34.other W39 (Ne.symm ne_x_b34)
  have E_a37 := E_a37.wr W39
  have Fc_a37 := Fc_a37.other W39 (Or.inl (Ne.symm ne_x_a37))
  have Fv_a37 := Fv_a37.other W39 (Or.inl (Ne.symm ne_x_a37))
  have V_b37 := V_b37.other W39 (Ne.symm ne_x_b37)
  have Kp := Kp.wr W39 (Or.inl (List.mem_of_getElem? (i := 0) rfl))
  have sf_ := sf_x
  have CR0 := CR.1
  have CR := CR.trans (CHr.wr W39 sf_ CR.1)
  have sf_x := Safe.wr W39 sf_ CR0 sf_x
  have hk_ := Nat.le_trans hk_ (Nat.le_of_eq W39.size.symm)
  have N39 := Fr.snoc X39 N36 g_x
  have Z_ : n0 ≤ h39.size := by rw [W39.size]; exact Z_
  refine .st st39 ?_
  show OwnGoW p e below s Z own_EL _ _ _ T39 (mkF m 26 _ [])
  exact OwnGoW.retV (s := s) (vm0 := T37.vm) X39 hS_ hk_ e39 hZ (own_hEL hw) CR hx hret hlk (hb hby d12_26) (by show QiV0 Z x a h0 n0 _ T39.heap _; rw [e39]; exact ⟨rfl, N39, Kp, E_x, Fc, b34, kc34, Fv, V_b34⟩) (by decide) (by decide)
def QiC0 (Z : State) (x : Addr) (a : Addr) (ka : ClassId) (h0 : Heap) (n0 : Nat) (v : Option Value) (h : Heap) (L : List Loc) : Prop := v = none ∧ Fr n0 L ∧ Keep h0 h [x] ∧ Exa Z h x "java/lang/String" ∧ Fld Z h x "java/lang/String" "coder" "B" (.int (0 : Int32)) ∧ ∃ (b : Addr) (kb : ClassId), Fld Z h x "java/lang/String" "value" "[B" (.ref b) ∧ Arv Z h b kb .byte (0 : Int32) [] (.int (0 : Int32))
theorem rmiC0 (l : Launch) (Z : State) (a0 : Array Value) (hw : own_tb a0 Z) (ws : List Jvm.Cond) (x : Addr) (a : Addr) (ka : ClassId) (h0 : Heap) (n0 : Nat) (Z0 : n0 ≤ h0.size) (E_x : Exa Z h0 x "java/lang/String") (Fv : Fld Z h0 x "java/lang/String" "value" "[B" .null) (Fc : Fld Z h0 x "java/lang/String" "coder" "B" (.int (0 : Int32))) (g_x : n0 ≤ x) (V_a : Arv Z h0 a ka .char (0 : Int32) [] (.int (0 : Int32))) (ne_a_x : a ≠ x) :
    OwnMetW l (⟨"java/lang/String", "<init>", "([C)V"⟩ : MethodName) jdk_42_method_3_code 2 none ws ({ frames := 2, cells := 4, slots := 8, locals := 29 } : Room) #[(.ref x), (.ref a)] Z h0 (QiC0 Z x a ka h0 n0) := by
  refine own_metW (EL := own_EL) (plainFor_of_name pn_2) ?_
  intro p e s m below meth c s₁ X0 hx hby hml hret hlk hown hnm hZ e0 hS_ CR
  have hk_ := Nat.le_refl h0.size
  have N0 := Fr.nil n0
  have Z_ := Z0
  refine OwnGoW.cast (ef_iC0 m x a) ?_
  show OwnGoW p e below s Z own_EL _ _ _ s₁ (mkF m 0 _ [])
  refine .aloadN X0 hx (hb hby d11_0) rfl rfl ?_
  refine .aloadN X0 hx (hb hby d11_1) rfl rfl ?_
  refine .iconst X0 hx (hb hby d11_2) own_ki0 ?_
  refine .aloadN X0 hx (hb hby d11_3) rfl rfl ?_
  obtain ⟨cl40, Ar40, -, S40, N40, -, -⟩ := id V_a
  refine .st (fun _ => own_len hZ (len_of S40 N40) Ar40 X0 e0 hx (g := (mkF m 4 #[.val (.ref x), .val (.ref a)] [(.ref a), (.int (0 : Int32)), (.ref a), (.ref x)])) rfl rfl (hb hby d11_4) _) ?_
  show OwnGoW p e below s Z own_EL _ _ _ s₁ (mkF m 5 _ [(.int (0 : Int32)), (.int (0 : Int32)), (.ref a), (.ref x)])
  refine .aconstNull X0 hx (hb hby d11_5)  ?_
  obtain ⟨_, _, ⟨T41, L41, k41, n41⟩, -, X41, hS41, hg41, ⟨Lc41, hQ41, l41, y41, z41, CN41⟩, st41⟩ := Stand.specialBackS (s := s.setVm s.vm) X0 hx (y := (⟨"java/lang/String", "<init>", "([CIILjava/lang/Void;)V"⟩ : MethodName)) rfl hown (mvT hZ (W_ hw 61 rfl)) (mvT hZ (W_ hw 62 rfl)) (mvT hZ (W_ hw 64 rfl)) (by decide) (backOfSH (s := s) (vm0 := s.vm) (W := 0) (rmiV0 l Z a0 hw [] x a h0 n0 Z_ E_x Fv Fc g_x) hZ (W_ hw 64 rfl) (W_ hw 1 rfl) (by decide) (by decide) (own_hEL hw) CR.1) (g := (mkF m 6 #[.val (.ref x), .val (.ref a)] [.null, (.int (0 : Int32)), (.int (0 : Int32)), (.ref a), (.ref x)])) rfl (by rw [hml]; rfl) (Steps.refl _) (a := x) (argsL := [(.ref a), (.int (0 : Int32)), (.int (0 : Int32)), .null]) (rest := []) (lenOf pd_9 rfl) rfl (Nat.le_of_eq rfl) (hb hby d11_6) (fun _ _ => ⟨rfl, e0, (by decide : 0 + 4 ≤ _), (by decide : 0 + 8 ≤ _)⟩)
  dsimp only [Pt.U, Pt.locs, Pt.cells, Pt.slots] at X41 hS41 hg41 l41 y41 z41 CN41 st41 hQ41
  subst l41 y41 z41
  obtain ⟨X41, hS_, hZ, hown⟩ := rebS hS_ (show _ ≤ s₁.heap.size by rw [(e0 : s₁.heap = h0)]; exact hk_) X41 hS41 hg41 hZ hown
  obtain ⟨rfl, N41q, K41, Ex41, Fc41, b41, kb41, Fv41, V41⟩ := hQ41
  have N41 := Fr.app N0 N41q
  have Z_ : n0 ≤ T41.heap.size := Nat.le_trans Z_ K41.1
  have E_x := E_x.keep K41
  have V_a := V_a.keep K41 (ninS ne_a_x nin0)
  have CR := CR.trans CN41
  have hk_ := Nat.le_refl T41.heap.size
  refine .st (fun _ => st41.trans) ?_
  show OwnGoW p e below s Z own_EL _ _ _ T41 (mkF m 9 _ [])
  exact OwnGoW.retV (s := s) (vm0 := T41.vm) X41 hS_ hk_ rfl hZ (own_hEL hw) CR hx hret hlk (hb hby d11_9) (by show QiC0 Z x a ka h0 n0 _ T41.heap _; exact ⟨rfl, N41, K41, Ex41, Fc41, b41, kb41, Fv41, V41⟩) (by decide) (by decide)
def Qmk (Z : State) (nn : Int32) (a : Addr) (ka : ClassId) (c0 : Int32) (c1 : Int32) (c2 : Int32) (c3 : Int32) (c4 : Int32) (c5 : Int32) (c6 : Int32) (c7 : Int32) (c8 : Int32) (c9 : Int32) (zc : Int32) (h0 : Heap) (n0 : Nat) (v : Option Value) (h : Heap) (L : List Loc) : Prop := ∃ (x t : Addr) (kb : ClassId) (bl : List Int32), v = some (.ref x) ∧ Fr n0 L ∧ Keep h0 h [] ∧ Exa Z h x "java/lang/String" ∧ Fld Z h x "java/lang/String" "coder" "B" (.int (0 : Int32)) ∧ Fld Z h x "java/lang/String" "value" "[B" (.ref t) ∧ Arv Z h t kb .byte (Int32.ofNat (List.length bl)) (List.map Value.int bl) (.int (0 : Int32)) ∧ List.length bl < 2 ^ 31
theorem rmmk (l : Launch) (Z : State) (a0 : Array Value) (hw : own_tb a0 Z) (ws : List Jvm.Cond) (nn : Int32) (a : Addr) (ka : ClassId) (c0 : Int32) (c1 : Int32) (c2 : Int32) (c3 : Int32) (c4 : Int32) (c5 : Int32) (c6 : Int32) (c7 : Int32) (c8 : Int32) (c9 : Int32) (zc : Int32) (h0 : Heap) (n0 : Nat) (Z0 : n0 ≤ h0.size) (O_ : Old Z n0 h0) (S_CS : Sta Z Z.heap "java/lang/String" "COMPACT_STRINGS" "Z" (.int zc)) (P_CS : ¬ zc = (0 : Int32)) (hn : ¬ nn < (0 : Int32)) (hn' : nn < (11 : Int32)) (V_a : Arv Z h0 a ka .char (10 : Int32) [(.int c0), (.int c1), (.int c2), (.int c3), (.int c4), (.int c5), (.int c6), (.int c7), (.int c8), (.int c9)] (.int (0 : Int32))) (hp_c0 : ¬ c0 < 0 ∧ ¬ (255 : Int32) < c0) (hp_c1 : ¬ c1 < 0 ∧ ¬ (255 : Int32) < c1) (hp_c2 : ¬ c2 < 0 ∧ ¬ (255 : Int32) < c2) (hp_c3 : ¬ c3 < 0 ∧ ¬ (255 : Int32) < c3) (hp_c4 : ¬ c4 < 0 ∧ ¬ (255 : Int32) < c4) (hp_c5 : ¬ c5 < 0 ∧ ¬ (255 : Int32) < c5) (hp_c6 : ¬ c6 < 0 ∧ ¬ (255 : Int32) < c6) (hp_c7 : ¬ c7 < 0 ∧ ¬ (255 : Int32) < c7) (hp_c8 : ¬ c8 < 0 ∧ ¬ (255 : Int32) < c8) (hp_c9 : ¬ c9 < 0 ∧ ¬ (255 : Int32) < c9) :
    OwnMetW l (⟨"com/example/tightrope/tightrope/junit/OutcomeOfTextPinLaw", "make", "(I[C)Ljava/lang/String;"⟩ : MethodName) method_6_code 2 (some (.object "java/lang/String")) ws ({ frames := 4, cells := 6, slots := 40, locals := 66 } : Room) #[(.int nn), (.ref a)] Z h0 (Qmk Z nn a ka c0 c1 c2 c3 c4 c5 c6 c7 c8 c9 zc h0 n0) := by
  refine own_metW (EL := own_EL) (plainFor_of_name pn_9) ?_
  intro p e s m below meth c s₁ X0 hx hby hml hret hlk hown hnm hZ e0 hS_ CR
  have hk_ := Nat.le_refl h0.size
  have N0 := Fr.nil n0
  have Z_ := Z0
  refine OwnGoW.cast (ef_mk m nn a) ?_
  show OwnGoW p e below s Z own_EL _ _ _ s₁ (mkF m 0 _ [])
  have Kp : Keep h0 h0 [] := Keep.refl h0 []
  refine .iloadN X0 hx (hb hby d10_0) rfl ?_
  rcases own_rg11 hn hn' with rfl | rfl | rfl | rfl | rfl | rfl | rfl | rfl | rfl | rfl | rfl
  · show OwnGoW p e below s Z own_EL _ _ _ s₁ (mkF m 1 _ [(.int (0 : Int32))])
    clear hn hn'
    refine .tswIn (pc := 1) X0 hx 56 (hb hby d10_1) own_ts10_1_0.1 own_ts10_1_0.2 (by decide) (by decide) ?_
    obtain ⟨T42, h42, X42, e42, E42, A42, D42, -, st42⟩ := newO X0 hx hZ hown (W_ hw 57 rfl) (W_ hw 2 rfl) (W_ hw 1 rfl) e0 (g := (mkF m 56 #[.val (.int (0 : Int32)), .val (.ref a)] [])) rfl (hb hby d10_56) (by decide) (by decide)
    obtain ⟨b42, g42⟩ : ∃ z, z = h0.size := ⟨_, rfl⟩
    rw [← g42] at A42 D42 st42
    have ne_a_b42 : a ≠ b42 := Nat.ne_of_lt (Nat.lt_of_lt_of_le V_a.lt (Nat.le_of_eq g42.symm))
    have g_b42 : n0 ≤ b42 := Nat.le_trans Z_ (Nat.le_of_eq g42.symm)
    have sf_b42 : Safe Z own_EL s.vm h0 b42 := Safe.new (Nat.le_of_eq g42.symm)
    have sz_b42 : h0.size ≤ b42 := Nat.le_trans Kp.1 (Nat.le_of_eq g42.symm)
    have V_a := V_a.ext E42
    have O_ := O_.ext E42
    have Kp := Kp.ext E42
    have sf_b42 := Safe.ext E42 CR.1 sf_b42
    have CR := CR.trans (CHr.ext E42 CR.1)
    have hk_ := Nat.le_trans hk_ E42.1
    have Z_ : n0 ≤ h42.size := Nat.le_trans Z_ E42.1
    have E_b42 := A42
    have F_value_b42 : Fld Z h42 b42 "java/lang/String" "value" "[B" .null := D42 (Or.inr (W_ hw 4 rfl)) (ty := (.array .byte)) (by decide)
    have F_coder_b42 : Fld Z h42 b42 "java/lang/String" "coder" "B" (.int (0 : Int32)) := D42 (Or.inr (W_ hw 5 rfl)) (ty := .byte) (by decide)
    refine .st st42 ?_
    show OwnGoW p e below s Z own_EL _ _ _ T42 (mkF m 59 _ [(.ref b42)])
    refine .dup X42 hx (hb hby d10_59) rfl ?_
    refine .iconst X42 hx (hb hby d10_60) own_ki0 ?_
    obtain ⟨T43, h43, k43, X43, e43, E43, A43, Ex43, st43⟩ := newPE X42 hx hZ (W_ hw 23 rfl) e42 (g := (mkF m 61 #[.val (.int (0 : Int32)), .val (.ref a)] [(.int (0 : Int32)), (.ref b42), (.ref b42)])) rfl (hb hby d10_61) rfl (by decide) (cap := 0) (by decide) (by decide) (by decide) (by decide) (ad := "[C") (by decide)
    obtain ⟨b43, g43⟩ : ∃ z, z = h42.size := ⟨_, rfl⟩
    rw [← g43] at A43 Ex43 st43
    have ne_a_b43 : a ≠ b43 := Nat.ne_of_lt (Nat.lt_of_lt_of_le V_a.lt (Nat.le_of_eq g43.symm))
    have ne_b42_b43 : b42 ≠ b43 := Nat.ne_of_lt (Nat.lt_of_lt_of_le E_b42.lt (Nat.le_of_eq g43.symm))
    have g_b43 : n0 ≤ b43 := Nat.le_trans Z_ (Nat.le_of_eq g43.symm)
    have sf_b43 : Safe Z own_EL s.vm h42 b43 := Safe.new (Nat.le_of_eq g43.symm)
    have sz_b43 : h0.size ≤ b43 := Nat.le_trans Kp.1 (Nat.le_of_eq g43.symm)
    have V_a := V_a.ext E43
    have E_b42 := E_b42.ext E43
    have F_value_b42 := F_value_b42.ext E43
    have F_coder_b42 := F_coder_b42.ext E43
    have O_ := O_.ext E43
    have Kp := Kp.ext E43
    have sf_b42 := Safe.ext E43 CR.1 sf_b42
    have sf_b43 := Safe.ext E43 CR.1 sf_b43
    have CR := CR.trans (CHr.ext E43 CR.1)
    have hk_ := Nat.le_trans hk_ E43.1
    have Z_ : n0 ≤ h43.size := Nat.le_trans Z_ E43.1
    have V_b43 : Arv Z h43 b43 k43 .char (0 : Int32) [] (.int (0 : Int32)) := (Arv.new A43 (by decide)).pad (pad_rep [] (.int (0 : Int32)) 0)
    have E_b43 := Ex43
    refine .st st43 ?_
    show OwnGoW p e below s Z own_EL _ _ _ T43 (mkF m 63 _ [(.ref b43), (.ref b42), (.ref b42)])
    obtain ⟨_, _, ⟨T44, L44, k44, n44⟩, -, X44, hS44, hg44, ⟨Lc44, hQ44, l44, y44, z44, CN44⟩, st44⟩ := Stand.specialBackS (s := s.setVm s.vm) X43 hx (y := (⟨"java/lang/String", "<init>", "([C)V"⟩ : MethodName)) rfl hown (mvT hZ (W_ hw 58 rfl)) (mvT hZ (W_ hw 59 rfl)) (mvT hZ (W_ hw 60 rfl)) (by decide) (backOfSH (s := s) (vm0 := s.vm) (W := 1) (rmiC0 l Z a0 hw [] b42 b43 k43 h43 n0 Z_ E_b42 F_value_b42 F_coder_b42 g_b42 V_b43 (Ne.symm ne_b42_b43)) hZ (W_ hw 60 rfl) (W_ hw 1 rfl) (by decide) (by decide) (own_hEL hw) CR.1) (g := (mkF m 63 #[.val (.int (0 : Int32)), .val (.ref a)] [(.ref b43), (.ref b42), (.ref b42)])) rfl (by rw [hml]; rfl) (Steps.refl _) (a := b42) (argsL := [(.ref b43)]) (rest := [(.ref b42)]) (lenOf pd_10 rfl) rfl (Nat.le_of_eq rfl) (hb hby d10_63) (fun _ _ => ⟨rfl, e43, (by decide : 2 + 4 ≤ _), (by decide : 4 + 8 ≤ _)⟩)
    dsimp only [Pt.U, Pt.locs, Pt.cells, Pt.slots] at X44 hS44 hg44 l44 y44 z44 CN44 st44 hQ44
    subst l44 y44 z44
    obtain ⟨X44, hS_, hZ, hown⟩ := rebS hS_ (show _ ≤ T43.heap.size by rw [(e43 : T43.heap = h43)]; exact hk_) X44 hS44 hg44 hZ hown
    obtain ⟨rfl, N44q, K44, Ex44, Fc44, b44, kb44, Fv44, V44⟩ := hQ44
    have N44 := Fr.app N0 N44q
    have lt_b42 : b42 < h43.size := E_b42.lt
    have lt_b43 : b43 < h43.size := V_b43.lt
    have Z_ : n0 ≤ T44.heap.size := Nat.le_trans Z_ K44.1
    have V_a := V_a.keep K44 (ninS ne_a_b42 nin0)
    have E_b42 := E_b42.keep K44
    have V_b43 := V_b43.keep K44 (ninS (Ne.symm ne_b42_b43) nin0)
    have E_b43 := E_b43.keep K44
    have O_ := O_.keep K44 (allS g_b42 all0)
    have Kp := Kp.trans K44 (allS (Or.inr sz_b42) all0)
    have sf_b42 := CN44.safe lt_b42 sf_b42
    have sf_b43 := CN44.safe lt_b43 sf_b43
    have CR := CR.trans CN44
    have hk_ := Nat.le_refl T44.heap.size
    refine .st (fun _ => st44.trans) ?_
    show OwnGoW p e below s Z own_EL _ _ _ T44 (mkF m 66 _ [(.ref b42)])
    exact OwnGoW.ret (s := s) (vm0 := T44.vm) X44 hS_ hk_ rfl hZ (own_hEL hw) CR hx hret hlk rfl (Or.inr (Or.inr (Or.inr (Or.inr ⟨rfl, rfl, rfl⟩)))) (hb hby d10_66) (by show Qmk Z (0 : Int32) a ka c0 c1 c2 c3 c4 c5 c6 c7 c8 c9 zc h0 n0 _ T44.heap _; exact ⟨b42, b44, kb44, [], rfl, N44, Kp, Ex44, Fc44, Fv44, V44, (by show 0 < 2 ^ 31; decide)⟩) (by decide) (by decide)
  · show OwnGoW p e below s Z own_EL _ _ _ s₁ (mkF m 1 _ [(.int (1 : Int32))])
    clear hn hn'
    refine .tswIn (pc := 1) X0 hx 67 (hb hby d10_1) own_ts10_1_1.1 own_ts10_1_1.2 (by decide) (by decide) ?_
    obtain ⟨T45, h45, X45, e45, E45, A45, D45, -, st45⟩ := newO X0 hx hZ hown (W_ hw 57 rfl) (W_ hw 2 rfl) (W_ hw 1 rfl) e0 (g := (mkF m 67 #[.val (.int (1 : Int32)), .val (.ref a)] [])) rfl (hb hby d10_67) (by decide) (by decide)
    obtain ⟨b45, g45⟩ : ∃ z, z = h0.size := ⟨_, rfl⟩
    rw [← g45] at A45 D45 st45
    have ne_a_b45 : a ≠ b45 := Nat.ne_of_lt (Nat.lt_of_lt_of_le V_a.lt (Nat.le_of_eq g45.symm))
    have g_b45 : n0 ≤ b45 := Nat.le_trans Z_ (Nat.le_of_eq g45.symm)
    have sf_b45 : Safe Z own_EL s.vm h0 b45 := Safe.new (Nat.le_of_eq g45.symm)
    have sz_b45 : h0.size ≤ b45 := Nat.le_trans Kp.1 (Nat.le_of_eq g45.symm)
    have V_a := V_a.ext E45
    have O_ := O_.ext E45
    have Kp := Kp.ext E45
    have sf_b45 := Safe.ext E45 CR.1 sf_b45
    have CR := CR.trans (CHr.ext E45 CR.1)
    have hk_ := Nat.le_trans hk_ E45.1
    have Z_ : n0 ≤ h45.size := Nat.le_trans Z_ E45.1
    have E_b45 := A45
    have F_value_b45 : Fld Z h45 b45 "java/lang/String" "value" "[B" .null := D45 (Or.inr (W_ hw 4 rfl)) (ty := (.array .byte)) (by decide)
    have F_coder_b45 : Fld Z h45 b45 "java/lang/String" "coder" "B" (.int (0 : Int32)) := D45 (Or.inr (W_ hw 5 rfl)) (ty := .byte) (by decide)
    refine .st st45 ?_
    show OwnGoW p e below s Z own_EL _ _ _ T45 (mkF m 70 _ [(.ref b45)])
    refine .dup X45 hx (hb hby d10_70) rfl ?_
    refine .iconst X45 hx (hb hby d10_71) own_ki1 ?_
    obtain ⟨T46, h46, k46, X46, e46, E46, A46, Ex46, st46⟩ := newPE X45 hx hZ (W_ hw 23 rfl) e45 (g := (mkF m 72 #[.val (.int (1 : Int32)), .val (.ref a)] [(.int (1 : Int32)), (.ref b45), (.ref b45)])) rfl (hb hby d10_72) rfl (by decide) (cap := 1) (by decide) (by decide) (by decide) (by decide) (ad := "[C") (by decide)
    obtain ⟨b46, g46⟩ : ∃ z, z = h45.size := ⟨_, rfl⟩
    rw [← g46] at A46 Ex46 st46
    have ne_a_b46 : a ≠ b46 := Nat.ne_of_lt (Nat.lt_of_lt_of_le V_a.lt (Nat.le_of_eq g46.symm))
    have ne_b45_b46 : b45 ≠ b46 := Nat.ne_of_lt (Nat.lt_of_lt_of_le E_b45.lt (Nat.le_of_eq g46.symm))
    have g_b46 : n0 ≤ b46 := Nat.le_trans Z_ (Nat.le_of_eq g46.symm)
    have sf_b46 : Safe Z own_EL s.vm h45 b46 := Safe.new (Nat.le_of_eq g46.symm)
    have sz_b46 : h0.size ≤ b46 := Nat.le_trans Kp.1 (Nat.le_of_eq g46.symm)
    have V_a := V_a.ext E46
    have E_b45 := E_b45.ext E46
    have F_value_b45 := F_value_b45.ext E46
    have F_coder_b45 := F_coder_b45.ext E46
    have O_ := O_.ext E46
    have Kp := Kp.ext E46
    have sf_b45 := Safe.ext E46 CR.1 sf_b45
    have sf_b46 := Safe.ext E46 CR.1 sf_b46
    have CR := CR.trans (CHr.ext E46 CR.1)
    have hk_ := Nat.le_trans hk_ E46.1
    have Z_ : n0 ≤ h46.size := Nat.le_trans Z_ E46.1
    have V_b46 : Arv Z h46 b46 k46 .char (1 : Int32) [(.int (0 : Int32))] (.int (0 : Int32)) := (Arv.new A46 (by decide)).pad (pad_rep [] (.int (0 : Int32)) 1)
    have E_b46 := Ex46
    refine .st st46 ?_
    show OwnGoW p e below s Z own_EL _ _ _ T46 (mkF m 74 _ [(.ref b46), (.ref b45), (.ref b45)])
    refine .dup X46 hx (hb hby d10_74) rfl ?_
    refine .iconst X46 hx (hb hby d10_75) own_ki0 ?_
    refine .aloadN X46 hx (hb hby d10_76) rfl rfl ?_
    refine .iconst X46 hx (hb hby d10_77) own_ki0 ?_
    obtain ⟨cl47, Ar47, -, S47, -, H47, -⟩ := id V_a
    have hin47 : ¬ ((0 : Int32) < 0 ∨ cl47.slots.size ≤ ((0 : Int32)).toNatClampNeg) := inb_of S47 ⟨by decide, by decide⟩
    refine .st (fun _ => X46.caload hx (j := (0 : Int32)) (v := (.int c0)) (by first | exact Ar47.1 | (rw [e46]; exact Ar47.1)) (State.isArrayOf_alike hZ.alike Ar47.2.1) Ar47.2.2 hin47 (H47.at hin47 rfl) (g := (mkF m 78 #[.val (.int (1 : Int32)), .val (.ref a)] [(.int (0 : Int32)), (.ref a), (.int (0 : Int32)), (.ref b46), (.ref b46), (.ref b45), (.ref b45)])) rfl rfl (hb hby d10_78) _) ?_
    show OwnGoW p e below s Z own_EL _ _ _ T46 (mkF m 79 _ [(.int c0), (.int (0 : Int32)), (.ref b46), (.ref b46), (.ref b45), (.ref b45)])
    obtain ⟨cl48, Ar48, q48, S48, N48, H48, G48⟩ := id V_b46
    have hin48 : ¬ ((0 : Int32) < 0 ∨ cl48.slots.size ≤ ((0 : Int32)).toNatClampNeg) := inb_of S48 ⟨by decide, by decide⟩
    obtain ⟨T48, h48, X48, e48, W48, st48⟩ := stC X46 hx hZ e46 Ar48 (j := (0 : Int32)) hin48 (g := (mkF m 79 #[.val (.int (1 : Int32)), .val (.ref a)] [(.int c0), (.int (0 : Int32)), (.ref b46), (.ref b46), (.ref b45), (.ref b45)])) rfl rfl (hb hby d10_79)
    have V_b46 : Arv Z h48 b46 k46 .char (1 : Int32) [(.int (nar .char c0))] (.int (0 : Int32)) := Arv.set Ar48 q48 S48 N48 H48 G48 (fits_nar_char _) W48 0 rfl (Nat.le_of_ble_eq_true rfl)
    rw [show nar .char c0 = c0 from (own_lnc hp_c0)] at V_b46
    have V_a := V_a.other W48 ne_a_b46
    have E_b45 := E_b45.wr W48
    have F_value_b45 := F_value_b45.other W48 (Or.inl ne_b45_b46)
    have F_coder_b45 := F_coder_b45.other W48 (Or.inl ne_b45_b46)
    have E_b46 := E_b46.wr W48
    have O_ := O_.wr W48 g_b46
    have Kp := Kp.wr W48 (Or.inr sz_b46)
    have sf_ := sf_b46
    have CR0 := CR.1
    have CR := CR.trans (CHr.wr W48 sf_ CR.1)
    have sf_b45 := Safe.wr W48 sf_ CR0 sf_b45
    have sf_b46 := Safe.wr W48 sf_ CR0 sf_b46
    have hk_ := Nat.le_trans hk_ (Nat.le_of_eq W48.size.symm)
    have N48 := Fr.snoc X48 N0 g_b46
    have Z_ : n0 ≤ h48.size := by rw [W48.size]; exact Z_
    refine .st st48 ?_
    show OwnGoW p e below s Z own_EL _ _ _ T48 (mkF m 80 _ [(.ref b46), (.ref b45), (.ref b45)])
    have hp49 : ∀ c ∈ ([c0] : List Int32), ¬ c < 0 ∧ ¬ (255 : Int32) < c := by
      intro c hc
      simp only [List.mem_cons, List.not_mem_nil, or_false] at hc
      rcases hc with rfl
      · exact hp_c0
    obtain ⟨_, _, ⟨T50, L50, k50, n50⟩, -, X50, ⟨Lc50, hQ50, l50, y50, z50⟩, st50⟩ := X48.specialBack hx (y := (⟨"java/lang/String", "<init>", "([C)V"⟩ : MethodName)) rfl hown (mvT hZ (W_ hw 58 rfl)) (mvT hZ (W_ hw 59 rfl)) (mvT hZ (W_ hw 60 rfl)) (by decide) (StrChars.Road.backV (W := 1) hZ (own_ws hw) (kI := 4) (W_ hw 2 rfl) (cs := ([c0] : List Int32)) (bs := ([c0] : List Int32).map (fun c => c.toInt8.toInt32)) (n := 1) g_b45 Z_ E_b45 F_value_b45 F_coder_b45 V_b46 (S_CS.ext O_.2) P_CS rfl rfl (by decide) (by decide) hp49 rfl (by decide) (by decide)) (g := (mkF m 80 #[.val (.int (1 : Int32)), .val (.ref a)] [(.ref b46), (.ref b45), (.ref b45)])) rfl (by rw [hml]; rfl) (Steps.refl _) (a := b45) (argsL := [(.ref b46)]) (rest := [(.ref b45)]) (lenOf pd_10 rfl) rfl (Nat.le_of_eq rfl) (hb hby d10_80) (fun _ _ => ⟨rfl, e48, (by decide : 2 + 1 ≤ _), (by decide : 5 + 1 ≤ _)⟩)
    dsimp only [Pt.U, Pt.locs, Pt.cells, Pt.slots] at X50 l50 y50 z50 st50 hQ50
    subst l50 y50 z50
    obtain ⟨rfl, N50q, K50, Ex50, Fc_b45, t50, kb50, gt50, zz50, nt50, Fv_b45, V50⟩ := hQ50
    have N50 := Fr.app N48 N50q
    have zt50 : h48.size ≤ t50 := zz50
    have ne_a_t50 : a ≠ t50 := Nat.ne_of_lt (Nat.lt_of_lt_of_le V_a.lt zt50)
    have ne_b45_t50 : b45 ≠ t50 := Nat.ne_of_lt (Nat.lt_of_lt_of_le E_b45.lt zt50)
    have ne_b46_t50 : b46 ≠ t50 := Nat.ne_of_lt (Nat.lt_of_lt_of_le V_b46.lt zt50)
    have g_t50 : n0 ≤ t50 := Nat.le_trans Z_ zt50
    have sz_t50 : h0.size ≤ t50 := Nat.le_trans Kp.1 zt50
    have V50 : Arv Z T50.heap t50 kb50 .byte (1 : Int32) [(.int c0.toInt8.toInt32)] (.int (0 : Int32)) := V50
    have Z_ : n0 ≤ T50.heap.size := Nat.le_trans Z_ K50.1
    have V_a := V_a.keep K50 (ninS ne_a_b45 nin0)
    have E_b45 := E_b45.keep K50
    have V_b46 := V_b46.keep K50 (ninS (Ne.symm ne_b45_b46) nin0)
    have E_b46 := E_b46.keep K50
    have O_ := O_.keep K50 (allS g_b45 all0)
    have Kp := Kp.trans K50 (allS (Or.inr sz_b45) all0)
    have sf_b46' := Safe.keep K50 (sfS sf_b45 sf0) CR.1 sf_b46
    have sf_b45' := Safe.keep K50 (sfS sf_b45 sf0) CR.1 sf_b45
    have CR := CR.trans (CHr.keep K50 (sfS sf_b45 sf0) CR.1)
    have hk_ := Nat.le_trans hk_ K50.1
    have sf_b45 := sf_b45'
    have sf_b46 := sf_b46'
    refine .st (fun _ => st50.trans) ?_
    show OwnGoW p e below s Z own_EL _ _ _ T50 (mkF m 83 _ [(.ref b45)])
    exact OwnGoW.ret (s := s) (vm0 := s.vm) X50 hS_ hk_ rfl hZ (own_hEL hw) CR hx hret hlk rfl (Or.inr (Or.inr (Or.inr (Or.inr ⟨rfl, rfl, rfl⟩)))) (hb hby d10_83) (by show Qmk Z (1 : Int32) a ka c0 c1 c2 c3 c4 c5 c6 c7 c8 c9 zc h0 n0 _ T50.heap _; exact ⟨b45, t50, kb50, [c0.toInt8.toInt32], rfl, N50, Kp, E_b45, Fc_b45, Fv_b45, V50, (by show 1 < 2 ^ 31; decide)⟩) (by decide) (by decide)
  · show OwnGoW p e below s Z own_EL _ _ _ s₁ (mkF m 1 _ [(.int (2 : Int32))])
    clear hn hn'
    refine .tswIn (pc := 1) X0 hx 84 (hb hby d10_1) own_ts10_1_2.1 own_ts10_1_2.2 (by decide) (by decide) ?_
    obtain ⟨T51, h51, X51, e51, E51, A51, D51, -, st51⟩ := newO X0 hx hZ hown (W_ hw 57 rfl) (W_ hw 2 rfl) (W_ hw 1 rfl) e0 (g := (mkF m 84 #[.val (.int (2 : Int32)), .val (.ref a)] [])) rfl (hb hby d10_84) (by decide) (by decide)
    obtain ⟨b51, g51⟩ : ∃ z, z = h0.size := ⟨_, rfl⟩
    rw [← g51] at A51 D51 st51
    have ne_a_b51 : a ≠ b51 := Nat.ne_of_lt (Nat.lt_of_lt_of_le V_a.lt (Nat.le_of_eq g51.symm))
    have g_b51 : n0 ≤ b51 := Nat.le_trans Z_ (Nat.le_of_eq g51.symm)
    have sf_b51 : Safe Z own_EL s.vm h0 b51 := Safe.new (Nat.le_of_eq g51.symm)
    have sz_b51 : h0.size ≤ b51 := Nat.le_trans Kp.1 (Nat.le_of_eq g51.symm)
    have V_a := V_a.ext E51
    have O_ := O_.ext E51
    have Kp := Kp.ext E51
    have sf_b51 := Safe.ext E51 CR.1 sf_b51
    have CR := CR.trans (CHr.ext E51 CR.1)
    have hk_ := Nat.le_trans hk_ E51.1
    have Z_ : n0 ≤ h51.size := Nat.le_trans Z_ E51.1
    have E_b51 := A51
    have F_value_b51 : Fld Z h51 b51 "java/lang/String" "value" "[B" .null := D51 (Or.inr (W_ hw 4 rfl)) (ty := (.array .byte)) (by decide)
    have F_coder_b51 : Fld Z h51 b51 "java/lang/String" "coder" "B" (.int (0 : Int32)) := D51 (Or.inr (W_ hw 5 rfl)) (ty := .byte) (by decide)
    refine .st st51 ?_
    show OwnGoW p e below s Z own_EL _ _ _ T51 (mkF m 87 _ [(.ref b51)])
    refine .dup X51 hx (hb hby d10_87) rfl ?_
    refine .iconst X51 hx (hb hby d10_88) own_ki2 ?_
    obtain ⟨T52, h52, k52, X52, e52, E52, A52, Ex52, st52⟩ := newPE X51 hx hZ (W_ hw 23 rfl) e51 (g := (mkF m 89 #[.val (.int (2 : Int32)), .val (.ref a)] [(.int (2 : Int32)), (.ref b51), (.ref b51)])) rfl (hb hby d10_89) rfl (by decide) (cap := 2) (by decide) (by decide) (by decide) (by decide) (ad := "[C") (by decide)
    obtain ⟨b52, g52⟩ : ∃ z, z = h51.size := ⟨_, rfl⟩
    rw [← g52] at A52 Ex52 st52
    have ne_a_b52 : a ≠ b52 := Nat.ne_of_lt (Nat.lt_of_lt_of_le V_a.lt (Nat.le_of_eq g52.symm))
    have ne_b51_b52 : b51 ≠ b52 := Nat.ne_of_lt (Nat.lt_of_lt_of_le E_b51.lt (Nat.le_of_eq g52.symm))
    have g_b52 : n0 ≤ b52 := Nat.le_trans Z_ (Nat.le_of_eq g52.symm)
    have sf_b52 : Safe Z own_EL s.vm h51 b52 := Safe.new (Nat.le_of_eq g52.symm)
    have sz_b52 : h0.size ≤ b52 := Nat.le_trans Kp.1 (Nat.le_of_eq g52.symm)
    have V_a := V_a.ext E52
    have E_b51 := E_b51.ext E52
    have F_value_b51 := F_value_b51.ext E52
    have F_coder_b51 := F_coder_b51.ext E52
    have O_ := O_.ext E52
    have Kp := Kp.ext E52
    have sf_b51 := Safe.ext E52 CR.1 sf_b51
    have sf_b52 := Safe.ext E52 CR.1 sf_b52
    have CR := CR.trans (CHr.ext E52 CR.1)
    have hk_ := Nat.le_trans hk_ E52.1
    have Z_ : n0 ≤ h52.size := Nat.le_trans Z_ E52.1
    have V_b52 : Arv Z h52 b52 k52 .char (2 : Int32) [(.int (0 : Int32)), (.int (0 : Int32))] (.int (0 : Int32)) := (Arv.new A52 (by decide)).pad (pad_rep [] (.int (0 : Int32)) 2)
    have E_b52 := Ex52
    refine .st st52 ?_
    show OwnGoW p e below s Z own_EL _ _ _ T52 (mkF m 91 _ [(.ref b52), (.ref b51), (.ref b51)])
    refine .dup X52 hx (hb hby d10_91) rfl ?_
    refine .iconst X52 hx (hb hby d10_92) own_ki0 ?_
    refine .aloadN X52 hx (hb hby d10_93) rfl rfl ?_
    refine .iconst X52 hx (hb hby d10_94) own_ki0 ?_
    obtain ⟨cl53, Ar53, -, S53, -, H53, -⟩ := id V_a
    have hin53 : ¬ ((0 : Int32) < 0 ∨ cl53.slots.size ≤ ((0 : Int32)).toNatClampNeg) := inb_of S53 ⟨by decide, by decide⟩
    refine .st (fun _ => X52.caload hx (j := (0 : Int32)) (v := (.int c0)) (by first | exact Ar53.1 | (rw [e52]; exact Ar53.1)) (State.isArrayOf_alike hZ.alike Ar53.2.1) Ar53.2.2 hin53 (H53.at hin53 rfl) (g := (mkF m 95 #[.val (.int (2 : Int32)), .val (.ref a)] [(.int (0 : Int32)), (.ref a), (.int (0 : Int32)), (.ref b52), (.ref b52), (.ref b51), (.ref b51)])) rfl rfl (hb hby d10_95) _) ?_
    show OwnGoW p e below s Z own_EL _ _ _ T52 (mkF m 96 _ [(.int c0), (.int (0 : Int32)), (.ref b52), (.ref b52), (.ref b51), (.ref b51)])
    obtain ⟨cl54, Ar54, q54, S54, N54, H54, G54⟩ := id V_b52
    have hin54 : ¬ ((0 : Int32) < 0 ∨ cl54.slots.size ≤ ((0 : Int32)).toNatClampNeg) := inb_of S54 ⟨by decide, by decide⟩
    obtain ⟨T54, h54, X54, e54, W54, st54⟩ := stC X52 hx hZ e52 Ar54 (j := (0 : Int32)) hin54 (g := (mkF m 96 #[.val (.int (2 : Int32)), .val (.ref a)] [(.int c0), (.int (0 : Int32)), (.ref b52), (.ref b52), (.ref b51), (.ref b51)])) rfl rfl (hb hby d10_96)
    have V_b52 : Arv Z h54 b52 k52 .char (2 : Int32) [(.int (nar .char c0)), (.int (0 : Int32))] (.int (0 : Int32)) := Arv.set Ar54 q54 S54 N54 H54 G54 (fits_nar_char _) W54 0 rfl (Nat.le_of_ble_eq_true rfl)
    rw [show nar .char c0 = c0 from (own_lnc hp_c0)] at V_b52
    have V_a := V_a.other W54 ne_a_b52
    have E_b51 := E_b51.wr W54
    have F_value_b51 := F_value_b51.other W54 (Or.inl ne_b51_b52)
    have F_coder_b51 := F_coder_b51.other W54 (Or.inl ne_b51_b52)
    have E_b52 := E_b52.wr W54
    have O_ := O_.wr W54 g_b52
    have Kp := Kp.wr W54 (Or.inr sz_b52)
    have sf_ := sf_b52
    have CR0 := CR.1
    have CR := CR.trans (CHr.wr W54 sf_ CR.1)
    have sf_b51 := Safe.wr W54 sf_ CR0 sf_b51
    have sf_b52 := Safe.wr W54 sf_ CR0 sf_b52
    have hk_ := Nat.le_trans hk_ (Nat.le_of_eq W54.size.symm)
    have N54 := Fr.snoc X54 N0 g_b52
    have Z_ : n0 ≤ h54.size := by rw [W54.size]; exact Z_
    refine .st st54 ?_
    show OwnGoW p e below s Z own_EL _ _ _ T54 (mkF m 97 _ [(.ref b52), (.ref b51), (.ref b51)])
    refine .dup X54 hx (hb hby d10_97) rfl ?_
    refine .iconst X54 hx (hb hby d10_98) own_ki1 ?_
    refine .aloadN X54 hx (hb hby d10_99) rfl rfl ?_
    refine .iconst X54 hx (hb hby d10_100) own_ki1 ?_
    obtain ⟨cl55, Ar55, -, S55, -, H55, -⟩ := id V_a
    have hin55 : ¬ ((1 : Int32) < 0 ∨ cl55.slots.size ≤ ((1 : Int32)).toNatClampNeg) := inb_of S55 ⟨by decide, by decide⟩
    refine .st (fun _ => X54.caload hx (j := (1 : Int32)) (v := (.int c1)) (by first | exact Ar55.1 | (rw [e54]; exact Ar55.1)) (State.isArrayOf_alike hZ.alike Ar55.2.1) Ar55.2.2 hin55 (H55.at hin55 rfl) (g := (mkF m 101 #[.val (.int (2 : Int32)), .val (.ref a)] [(.int (1 : Int32)), (.ref a), (.int (1 : Int32)), (.ref b52), (.ref b52), (.ref b51), (.ref b51)])) rfl rfl (hb hby d10_101) _) ?_
    show OwnGoW p e below s Z own_EL _ _ _ T54 (mkF m 102 _ [(.int c1), (.int (1 : Int32)), (.ref b52), (.ref b52), (.ref b51), (.ref b51)])
    obtain ⟨cl56, Ar56, q56, S56, N56, H56, G56⟩ := id V_b52
    have hin56 : ¬ ((1 : Int32) < 0 ∨ cl56.slots.size ≤ ((1 : Int32)).toNatClampNeg) := inb_of S56 ⟨by decide, by decide⟩
    obtain ⟨T56, h56, X56, e56, W56, st56⟩ := stC X54 hx hZ e54 Ar56 (j := (1 : Int32)) hin56 (g := (mkF m 102 #[.val (.int (2 : Int32)), .val (.ref a)] [(.int c1), (.int (1 : Int32)), (.ref b52), (.ref b52), (.ref b51), (.ref b51)])) rfl rfl (hb hby d10_102)
    have V_b52 : Arv Z h56 b52 k52 .char (2 : Int32) [(.int c0), (.int (nar .char c1))] (.int (0 : Int32)) := Arv.set Ar56 q56 S56 N56 H56 G56 (fits_nar_char _) W56 1 rfl (Nat.le_of_ble_eq_true rfl)
    rw [show nar .char c1 = c1 from (own_lnc hp_c1)] at V_b52
    have V_a := V_a.other W56 ne_a_b52
    have E_b51 := E_b51.wr W56
    have F_value_b51 := F_value_b51.other W56 (Or.inl ne_b51_b52)
    have F_coder_b51 := F_coder_b51.other W56 (Or.inl ne_b51_b52)
    have E_b52 := E_b52.wr W56
    have O_ := O_.wr W56 g_b52
    have Kp := Kp.wr W56 (Or.inr sz_b52)
    have sf_ := sf_b52
    have CR0 := CR.1
    have CR := CR.trans (CHr.wr W56 sf_ CR.1)
    have sf_b51 := Safe.wr W56 sf_ CR0 sf_b51
    have sf_b52 := Safe.wr W56 sf_ CR0 sf_b52
    have hk_ := Nat.le_trans hk_ (Nat.le_of_eq W56.size.symm)
    have N56 := Fr.snoc X56 N54 g_b52
    have Z_ : n0 ≤ h56.size := by rw [W56.size]; exact Z_
    refine .st st56 ?_
    show OwnGoW p e below s Z own_EL _ _ _ T56 (mkF m 103 _ [(.ref b52), (.ref b51), (.ref b51)])
    have hp57 : ∀ c ∈ ([c0, c1] : List Int32), ¬ c < 0 ∧ ¬ (255 : Int32) < c := by
      intro c hc
      simp only [List.mem_cons, List.not_mem_nil, or_false] at hc
      rcases hc with rfl | rfl
      · exact hp_c0
      · exact hp_c1
    obtain ⟨_, _, ⟨T58, L58, k58, n58⟩, -, X58, ⟨Lc58, hQ58, l58, y58, z58⟩, st58⟩ := X56.specialBack hx (y := (⟨"java/lang/String", "<init>", "([C)V"⟩ : MethodName)) rfl hown (mvT hZ (W_ hw 58 rfl)) (mvT hZ (W_ hw 59 rfl)) (mvT hZ (W_ hw 60 rfl)) (by decide) (StrChars.Road.backV (W := 1) hZ (own_ws hw) (kI := 4) (W_ hw 2 rfl) (cs := ([c0, c1] : List Int32)) (bs := ([c0, c1] : List Int32).map (fun c => c.toInt8.toInt32)) (n := 2) g_b51 Z_ E_b51 F_value_b51 F_coder_b51 V_b52 (S_CS.ext O_.2) P_CS rfl rfl (by decide) (by decide) hp57 rfl (by decide) (by decide)) (g := (mkF m 103 #[.val (.int (2 : Int32)), .val (.ref a)] [(.ref b52), (.ref b51), (.ref b51)])) rfl (by rw [hml]; rfl) (Steps.refl _) (a := b51) (argsL := [(.ref b52)]) (rest := [(.ref b51)]) (lenOf pd_10 rfl) rfl (Nat.le_of_eq rfl) (hb hby d10_103) (fun _ _ => ⟨rfl, e56, (by decide : 2 + 1 ≤ _), (by decide : 6 + 2 ≤ _)⟩)
    dsimp only [Pt.U, Pt.locs, Pt.cells, Pt.slots] at X58 l58 y58 z58 st58 hQ58
    subst l58 y58 z58
    obtain ⟨rfl, N58q, K58, Ex58, Fc_b51, t58, kb58, gt58, zz58, nt58, Fv_b51, V58⟩ := hQ58
    have N58 := Fr.app N56 N58q
    have zt58 : h56.size ≤ t58 := zz58
    have ne_a_t58 : a ≠ t58 := Nat.ne_of_lt (Nat.lt_of_lt_of_le V_a.lt zt58)
    have ne_b51_t58 : b51 ≠ t58 := Nat.ne_of_lt (Nat.lt_of_lt_of_le E_b51.lt zt58)
    have ne_b52_t58 : b52 ≠ t58 := Nat.ne_of_lt (Nat.lt_of_lt_of_le V_b52.lt zt58)
    have g_t58 : n0 ≤ t58 := Nat.le_trans Z_ zt58
    have sz_t58 : h0.size ≤ t58 := Nat.le_trans Kp.1 zt58
    have V58 : Arv Z T58.heap t58 kb58 .byte (2 : Int32) [(.int c0.toInt8.toInt32), (.int c1.toInt8.toInt32)] (.int (0 : Int32)) := V58
    have Z_ : n0 ≤ T58.heap.size := Nat.le_trans Z_ K58.1
    have V_a := V_a.keep K58 (ninS ne_a_b51 nin0)
    have E_b51 := E_b51.keep K58
    have V_b52 := V_b52.keep K58 (ninS (Ne.symm ne_b51_b52) nin0)
    have E_b52 := E_b52.keep K58
    have O_ := O_.keep K58 (allS g_b51 all0)
    have Kp := Kp.trans K58 (allS (Or.inr sz_b51) all0)
    have sf_b52' := Safe.keep K58 (sfS sf_b51 sf0) CR.1 sf_b52
    have sf_b51' := Safe.keep K58 (sfS sf_b51 sf0) CR.1 sf_b51
    have CR := CR.trans (CHr.keep K58 (sfS sf_b51 sf0) CR.1)
    have hk_ := Nat.le_trans hk_ K58.1
    have sf_b51 := sf_b51'
    have sf_b52 := sf_b52'
    refine .st (fun _ => st58.trans) ?_
    show OwnGoW p e below s Z own_EL _ _ _ T58 (mkF m 106 _ [(.ref b51)])
    exact OwnGoW.ret (s := s) (vm0 := s.vm) X58 hS_ hk_ rfl hZ (own_hEL hw) CR hx hret hlk rfl (Or.inr (Or.inr (Or.inr (Or.inr ⟨rfl, rfl, rfl⟩)))) (hb hby d10_106) (by show Qmk Z (2 : Int32) a ka c0 c1 c2 c3 c4 c5 c6 c7 c8 c9 zc h0 n0 _ T58.heap _; exact ⟨b51, t58, kb58, [c0.toInt8.toInt32, c1.toInt8.toInt32], rfl, N58, Kp, E_b51, Fc_b51, Fv_b51, V58, (by show 2 < 2 ^ 31; decide)⟩) (by decide) (by decide)
  · show OwnGoW p e below s Z own_EL _ _ _ s₁ (mkF m 1 _ [(.int (3 : Int32))])
    clear hn hn'
    refine .tswIn (pc := 1) X0 hx 107 (hb hby d10_1) own_ts10_1_3.1 own_ts10_1_3.2 (by decide) (by decide) ?_
    obtain ⟨T59, h59, X59, e59, E59, A59, D59, -, st59⟩ := newO X0 hx hZ hown (W_ hw 57 rfl) (W_ hw 2 rfl) (W_ hw 1 rfl) e0 (g := (mkF m 107 #[.val (.int (3 : Int32)), .val (.ref a)] [])) rfl (hb hby d10_107) (by decide) (by decide)
    obtain ⟨b59, g59⟩ : ∃ z, z = h0.size := ⟨_, rfl⟩
    rw [← g59] at A59 D59 st59
    have ne_a_b59 : a ≠ b59 := Nat.ne_of_lt (Nat.lt_of_lt_of_le V_a.lt (Nat.le_of_eq g59.symm))
    have g_b59 : n0 ≤ b59 := Nat.le_trans Z_ (Nat.le_of_eq g59.symm)
    have sf_b59 : Safe Z own_EL s.vm h0 b59 := Safe.new (Nat.le_of_eq g59.symm)
    have sz_b59 : h0.size ≤ b59 := Nat.le_trans Kp.1 (Nat.le_of_eq g59.symm)
    have V_a := V_a.ext E59
    have O_ := O_.ext E59
    have Kp := Kp.ext E59
    have sf_b59 := Safe.ext E59 CR.1 sf_b59
    have CR := CR.trans (CHr.ext E59 CR.1)
    have hk_ := Nat.le_trans hk_ E59.1
    have Z_ : n0 ≤ h59.size := Nat.le_trans Z_ E59.1
    have E_b59 := A59
    have F_value_b59 : Fld Z h59 b59 "java/lang/String" "value" "[B" .null := D59 (Or.inr (W_ hw 4 rfl)) (ty := (.array .byte)) (by decide)
    have F_coder_b59 : Fld Z h59 b59 "java/lang/String" "coder" "B" (.int (0 : Int32)) := D59 (Or.inr (W_ hw 5 rfl)) (ty := .byte) (by decide)
    refine .st st59 ?_
    show OwnGoW p e below s Z own_EL _ _ _ T59 (mkF m 110 _ [(.ref b59)])
    refine .dup X59 hx (hb hby d10_110) rfl ?_
    refine .iconst X59 hx (hb hby d10_111) own_ki3 ?_
    obtain ⟨T60, h60, k60, X60, e60, E60, A60, Ex60, st60⟩ := newPE X59 hx hZ (W_ hw 23 rfl) e59 (g := (mkF m 112 #[.val (.int (3 : Int32)), .val (.ref a)] [(.int (3 : Int32)), (.ref b59), (.ref b59)])) rfl (hb hby d10_112) rfl (by decide) (cap := 3) (by decide) (by decide) (by decide) (by decide) (ad := "[C") (by decide)
    obtain ⟨b60, g60⟩ : ∃ z, z = h59.size := ⟨_, rfl⟩
    rw [← g60] at A60 Ex60 st60
    have ne_a_b60 : a ≠ b60 := Nat.ne_of_lt (Nat.lt_of_lt_of_le V_a.lt (Nat.le_of_eq g60.symm))
    have ne_b59_b60 : b59 ≠ b60 := Nat.ne_of_lt (Nat.lt_of_lt_of_le E_b59.lt (Nat.le_of_eq g60.symm))
    have g_b60 : n0 ≤ b60 := Nat.le_trans Z_ (Nat.le_of_eq g60.symm)
    have sf_b60 : Safe Z own_EL s.vm h59 b60 := Safe.new (Nat.le_of_eq g60.symm)
    have sz_b60 : h0.size ≤ b60 := Nat.le_trans Kp.1 (Nat.le_of_eq g60.symm)
    have V_a := V_a.ext E60
    have E_b59 := E_b59.ext E60
    have F_value_b59 := F_value_b59.ext E60
    have F_coder_b59 := F_coder_b59.ext E60
    have O_ := O_.ext E60
    have Kp := Kp.ext E60
    have sf_b59 := Safe.ext E60 CR.1 sf_b59
    have sf_b60 := Safe.ext E60 CR.1 sf_b60
    have CR := CR.trans (CHr.ext E60 CR.1)
    have hk_ := Nat.le_trans hk_ E60.1
    have Z_ : n0 ≤ h60.size := Nat.le_trans Z_ E60.1
    have V_b60 : Arv Z h60 b60 k60 .char (3 : Int32) [(.int (0 : Int32)), (.int (0 : Int32)), (.int (0 : Int32))] (.int (0 : Int32)) := (Arv.new A60 (by decide)).pad (pad_rep [] (.int (0 : Int32)) 3)
    have E_b60 := Ex60
    refine .st st60 ?_
    show OwnGoW p e below s Z own_EL _ _ _ T60 (mkF m 114 _ [(.ref b60), (.ref b59), (.ref b59)])
    refine .dup X60 hx (hb hby d10_114) rfl ?_
    refine .iconst X60 hx (hb hby d10_115) own_ki0 ?_
    refine .aloadN X60 hx (hb hby d10_116) rfl rfl ?_
    refine .iconst X60 hx (hb hby d10_117) own_ki0 ?_
    obtain ⟨cl61, Ar61, -, S61, -, H61, -⟩ := id V_a
    have hin61 : ¬ ((0 : Int32) < 0 ∨ cl61.slots.size ≤ ((0 : Int32)).toNatClampNeg) := inb_of S61 ⟨by decide, by decide⟩
    refine .st (fun _ => X60.caload hx (j := (0 : Int32)) (v := (.int c0)) (by first | exact Ar61.1 | (rw [e60]; exact Ar61.1)) (State.isArrayOf_alike hZ.alike Ar61.2.1) Ar61.2.2 hin61 (H61.at hin61 rfl) (g := (mkF m 118 #[.val (.int (3 : Int32)), .val (.ref a)] [(.int (0 : Int32)), (.ref a), (.int (0 : Int32)), (.ref b60), (.ref b60), (.ref b59), (.ref b59)])) rfl rfl (hb hby d10_118) _) ?_
    show OwnGoW p e below s Z own_EL _ _ _ T60 (mkF m 119 _ [(.int c0), (.int (0 : Int32)), (.ref b60), (.ref b60), (.ref b59), (.ref b59)])
    obtain ⟨cl62, Ar62, q62, S62, N62, H62, G62⟩ := id V_b60
    have hin62 : ¬ ((0 : Int32) < 0 ∨ cl62.slots.size ≤ ((0 : Int32)).toNatClampNeg) := inb_of S62 ⟨by decide, by decide⟩
    obtain ⟨T62, h62, X62, e62, W62, st62⟩ := stC X60 hx hZ e60 Ar62 (j := (0 : Int32)) hin62 (g := (mkF m 119 #[.val (.int (3 : Int32)), .val (.ref a)] [(.int c0), (.int (0 : Int32)), (.ref b60), (.ref b60), (.ref b59), (.ref b59)])) rfl rfl (hb hby d10_119)
    have V_b60 : Arv Z h62 b60 k60 .char (3 : Int32) [(.int (nar .char c0)), (.int (0 : Int32)), (.int (0 : Int32))] (.int (0 : Int32)) := Arv.set Ar62 q62 S62 N62 H62 G62 (fits_nar_char _) W62 0 rfl (Nat.le_of_ble_eq_true rfl)
    rw [show nar .char c0 = c0 from (own_lnc hp_c0)] at V_b60
    have V_a := V_a.other W62 ne_a_b60
    have E_b59 := E_b59.wr W62
    have F_value_b59 := F_value_b59.other W62 (Or.inl ne_b59_b60)
    have F_coder_b59 := F_coder_b59.other W62 (Or.inl ne_b59_b60)
    have E_b60 := E_b60.wr W62
    have O_ := O_.wr W62 g_b60
    have Kp := Kp.wr W62 (Or.inr sz_b60)
    have sf_ := sf_b60
    have CR0 := CR.1
    have CR := CR.trans (CHr.wr W62 sf_ CR.1)
    have sf_b59 := Safe.wr W62 sf_ CR0 sf_b59
    have sf_b60 := Safe.wr W62 sf_ CR0 sf_b60
    have hk_ := Nat.le_trans hk_ (Nat.le_of_eq W62.size.symm)
    have N62 := Fr.snoc X62 N0 g_b60
    have Z_ : n0 ≤ h62.size := by rw [W62.size]; exact Z_
    refine .st st62 ?_
    show OwnGoW p e below s Z own_EL _ _ _ T62 (mkF m 120 _ [(.ref b60), (.ref b59), (.ref b59)])
    refine .dup X62 hx (hb hby d10_120) rfl ?_
    refine .iconst X62 hx (hb hby d10_121) own_ki1 ?_
    refine .aloadN X62 hx (hb hby d10_122) rfl rfl ?_
    refine .iconst X62 hx (hb hby d10_123) own_ki1 ?_
    obtain ⟨cl63, Ar63, -, S63, -, H63, -⟩ := id V_a
    have hin63 : ¬ ((1 : Int32) < 0 ∨ cl63.slots.size ≤ ((1 : Int32)).toNatClampNeg) := inb_of S63 ⟨by decide, by decide⟩
    refine .st (fun _ => X62.caload hx (j := (1 : Int32)) (v := (.int c1)) (by first | exact Ar63.1 | (rw [e62]; exact Ar63.1)) (State.isArrayOf_alike hZ.alike Ar63.2.1) Ar63.2.2 hin63 (H63.at hin63 rfl) (g := (mkF m 124 #[.val (.int (3 : Int32)), .val (.ref a)] [(.int (1 : Int32)), (.ref a), (.int (1 : Int32)), (.ref b60), (.ref b60), (.ref b59), (.ref b59)])) rfl rfl (hb hby d10_124) _) ?_
    show OwnGoW p e below s Z own_EL _ _ _ T62 (mkF m 125 _ [(.int c1), (.int (1 : Int32)), (.ref b60), (.ref b60), (.ref b59), (.ref b59)])
    obtain ⟨cl64, Ar64, q64, S64, N64, H64, G64⟩ := id V_b60
    have hin64 : ¬ ((1 : Int32) < 0 ∨ cl64.slots.size ≤ ((1 : Int32)).toNatClampNeg) := inb_of S64 ⟨by decide, by decide⟩
    obtain ⟨T64, h64, X64, e64, W64, st64⟩ := stC X62 hx hZ e62 Ar64 (j := (1 : Int32)) hin64 (g := (mkF m 125 #[.val (.int (3 : Int32)), .val (.ref a)] [(.int c1), (.int (1 : Int32)), (.ref b60), (.ref b60), (.ref b59), (.ref b59)])) rfl rfl (hb hby d10_125)
    have V_b60 : Arv Z h64 b60 k60 .char (3 : Int32) [(.int c0), (.int (nar .char c1)), (.int (0 : Int32))] (.int (0 : Int32)) := Arv.set Ar64 q64 S64 N64 H64 G64 (fits_nar_char _) W64 1 rfl (Nat.le_of_ble_eq_true rfl)
    rw [show nar .char c1 = c1 from (own_lnc hp_c1)] at V_b60
    have V_a := V_a.other W64 ne_a_b60
    have E_b59 := E_b59.wr W64
    have F_value_b59 := F_value_b59.other W64 (Or.inl ne_b59_b60)
    have F_coder_b59 := F_coder_b59.other W64 (Or.inl ne_b59_b60)
    have E_b60 := E_b60.wr W64
    have O_ := O_.wr W64 g_b60
    have Kp := Kp.wr W64 (Or.inr sz_b60)
    have sf_ := sf_b60
    have CR0 := CR.1
    have CR := CR.trans (CHr.wr W64 sf_ CR.1)
    have sf_b59 := Safe.wr W64 sf_ CR0 sf_b59
    have sf_b60 := Safe.wr W64 sf_ CR0 sf_b60
    have hk_ := Nat.le_trans hk_ (Nat.le_of_eq W64.size.symm)
    have N64 := Fr.snoc X64 N62 g_b60
    have Z_ : n0 ≤ h64.size := by rw [W64.size]; exact Z_
    refine .st st64 ?_
    show OwnGoW p e below s Z own_EL _ _ _ T64 (mkF m 126 _ [(.ref b60), (.ref b59), (.ref b59)])
    refine .dup X64 hx (hb hby d10_126) rfl ?_
    refine .iconst X64 hx (hb hby d10_127) own_ki2 ?_
    refine .aloadN X64 hx (hb hby d10_128) rfl rfl ?_
    refine .iconst X64 hx (hb hby d10_129) own_ki2 ?_
    obtain ⟨cl65, Ar65, -, S65, -, H65, -⟩ := id V_a
    have hin65 : ¬ ((2 : Int32) < 0 ∨ cl65.slots.size ≤ ((2 : Int32)).toNatClampNeg) := inb_of S65 ⟨by decide, by decide⟩
    refine .st (fun _ => X64.caload hx (j := (2 : Int32)) (v := (.int c2)) (by first | exact Ar65.1 | (rw [e64]; exact Ar65.1)) (State.isArrayOf_alike hZ.alike Ar65.2.1) Ar65.2.2 hin65 (H65.at hin65 rfl) (g := (mkF m 130 #[.val (.int (3 : Int32)), .val (.ref a)] [(.int (2 : Int32)), (.ref a), (.int (2 : Int32)), (.ref b60), (.ref b60), (.ref b59), (.ref b59)])) rfl rfl (hb hby d10_130) _) ?_
    show OwnGoW p e below s Z own_EL _ _ _ T64 (mkF m 131 _ [(.int c2), (.int (2 : Int32)), (.ref b60), (.ref b60), (.ref b59), (.ref b59)])
    obtain ⟨cl66, Ar66, q66, S66, N66, H66, G66⟩ := id V_b60
    have hin66 : ¬ ((2 : Int32) < 0 ∨ cl66.slots.size ≤ ((2 : Int32)).toNatClampNeg) := inb_of S66 ⟨by decide, by decide⟩
    obtain ⟨T66, h66, X66, e66, W66, st66⟩ := stC X64 hx hZ e64 Ar66 (j := (2 : Int32)) hin66 (g := (mkF m 131 #[.val (.int (3 : Int32)), .val (.ref a)] [(.int c2), (.int (2 : Int32)), (.ref b60), (.ref b60), (.ref b59), (.ref b59)])) rfl rfl (hb hby d10_131)
    have V_b60 : Arv Z h66 b60 k60 .char (3 : Int32) [(.int c0), (.int c1), (.int (nar .char c2))] (.int (0 : Int32)) := Arv.set Ar66 q66 S66 N66 H66 G66 (fits_nar_char _) W66 2 rfl (Nat.le_of_ble_eq_true rfl)
    rw [show nar .char c2 = c2 from (own_lnc hp_c2)] at V_b60
    have V_a := V_a.other W66 ne_a_b60
    have E_b59 := E_b59.wr W66
    have F_value_b59 := F_value_b59.other W66 (Or.inl ne_b59_b60)
    have F_coder_b59 := F_coder_b59.other W66 (Or.inl ne_b59_b60)
    have E_b60 := E_b60.wr W66
    have O_ := O_.wr W66 g_b60
    have Kp := Kp.wr W66 (Or.inr sz_b60)
    have sf_ := sf_b60
    have CR0 := CR.1
    have CR := CR.trans (CHr.wr W66 sf_ CR.1)
    have sf_b59 := Safe.wr W66 sf_ CR0 sf_b59
    have sf_b60 := Safe.wr W66 sf_ CR0 sf_b60
    have hk_ := Nat.le_trans hk_ (Nat.le_of_eq W66.size.symm)
    have N66 := Fr.snoc X66 N64 g_b60
    have Z_ : n0 ≤ h66.size := by rw [W66.size]; exact Z_
    refine .st st66 ?_
    show OwnGoW p e below s Z own_EL _ _ _ T66 (mkF m 132 _ [(.ref b60), (.ref b59), (.ref b59)])
    have hp67 : ∀ c ∈ ([c0, c1, c2] : List Int32), ¬ c < 0 ∧ ¬ (255 : Int32) < c := by
      intro c hc
      simp only [List.mem_cons, List.not_mem_nil, or_false] at hc
      rcases hc with rfl | rfl | rfl
      · exact hp_c0
      · exact hp_c1
      · exact hp_c2
    obtain ⟨_, _, ⟨T68, L68, k68, n68⟩, -, X68, ⟨Lc68, hQ68, l68, y68, z68⟩, st68⟩ := X66.specialBack hx (y := (⟨"java/lang/String", "<init>", "([C)V"⟩ : MethodName)) rfl hown (mvT hZ (W_ hw 58 rfl)) (mvT hZ (W_ hw 59 rfl)) (mvT hZ (W_ hw 60 rfl)) (by decide) (StrChars.Road.backV (W := 1) hZ (own_ws hw) (kI := 4) (W_ hw 2 rfl) (cs := ([c0, c1, c2] : List Int32)) (bs := ([c0, c1, c2] : List Int32).map (fun c => c.toInt8.toInt32)) (n := 3) g_b59 Z_ E_b59 F_value_b59 F_coder_b59 V_b60 (S_CS.ext O_.2) P_CS rfl rfl (by decide) (by decide) hp67 rfl (by decide) (by decide)) (g := (mkF m 132 #[.val (.int (3 : Int32)), .val (.ref a)] [(.ref b60), (.ref b59), (.ref b59)])) rfl (by rw [hml]; rfl) (Steps.refl _) (a := b59) (argsL := [(.ref b60)]) (rest := [(.ref b59)]) (lenOf pd_10 rfl) rfl (Nat.le_of_eq rfl) (hb hby d10_132) (fun _ _ => ⟨rfl, e66, (by decide : 2 + 1 ≤ _), (by decide : 7 + 3 ≤ _)⟩)
    dsimp only [Pt.U, Pt.locs, Pt.cells, Pt.slots] at X68 l68 y68 z68 st68 hQ68
    subst l68 y68 z68
    obtain ⟨rfl, N68q, K68, Ex68, Fc_b59, t68, kb68, gt68, zz68, nt68, Fv_b59, V68⟩ := hQ68
    have N68 := Fr.app N66 N68q
    have zt68 : h66.size ≤ t68 := zz68
    have ne_a_t68 : a ≠ t68 := Nat.ne_of_lt (Nat.lt_of_lt_of_le V_a.lt zt68)
    have ne_b59_t68 : b59 ≠ t68 := Nat.ne_of_lt (Nat.lt_of_lt_of_le E_b59.lt zt68)
    have ne_b60_t68 : b60 ≠ t68 := Nat.ne_of_lt (Nat.lt_of_lt_of_le V_b60.lt zt68)
    have g_t68 : n0 ≤ t68 := Nat.le_trans Z_ zt68
    have sz_t68 : h0.size ≤ t68 := Nat.le_trans Kp.1 zt68
    have V68 : Arv Z T68.heap t68 kb68 .byte (3 : Int32) [(.int c0.toInt8.toInt32), (.int c1.toInt8.toInt32), (.int c2.toInt8.toInt32)] (.int (0 : Int32)) := V68
    have Z_ : n0 ≤ T68.heap.size := Nat.le_trans Z_ K68.1
    have V_a := V_a.keep K68 (ninS ne_a_b59 nin0)
    have E_b59 := E_b59.keep K68
    have V_b60 := V_b60.keep K68 (ninS (Ne.symm ne_b59_b60) nin0)
    have E_b60 := E_b60.keep K68
    have O_ := O_.keep K68 (allS g_b59 all0)
    have Kp := Kp.trans K68 (allS (Or.inr sz_b59) all0)
    have sf_b60' := Safe.keep K68 (sfS sf_b59 sf0) CR.1 sf_b60
    have sf_b59' := Safe.keep K68 (sfS sf_b59 sf0) CR.1 sf_b59
    have CR := CR.trans (CHr.keep K68 (sfS sf_b59 sf0) CR.1)
    have hk_ := Nat.le_trans hk_ K68.1
    have sf_b59 := sf_b59'
    have sf_b60 := sf_b60'
    refine .st (fun _ => st68.trans) ?_
    show OwnGoW p e below s Z own_EL _ _ _ T68 (mkF m 135 _ [(.ref b59)])
    exact OwnGoW.ret (s := s) (vm0 := s.vm) X68 hS_ hk_ rfl hZ (own_hEL hw) CR hx hret hlk rfl (Or.inr (Or.inr (Or.inr (Or.inr ⟨rfl, rfl, rfl⟩)))) (hb hby d10_135) (by show Qmk Z (3 : Int32) a ka c0 c1 c2 c3 c4 c5 c6 c7 c8 c9 zc h0 n0 _ T68.heap _; exact ⟨b59, t68, kb68, [c0.toInt8.toInt32, c1.toInt8.toInt32, c2.toInt8.toInt32], rfl, N68, Kp, E_b59, Fc_b59, Fv_b59, V68, (by show 3 < 2 ^ 31; decide)⟩) (by decide) (by decide)
  · show OwnGoW p e below s Z own_EL _ _ _ s₁ (mkF m 1 _ [(.int (4 : Int32))])
    clear hn hn'
    refine .tswIn (pc := 1) X0 hx 136 (hb hby d10_1) own_ts10_1_4.1 own_ts10_1_4.2 (by decide) (by decide) ?_
    obtain ⟨T69, h69, X69, e69, E69, A69, D69, -, st69⟩ := newO X0 hx hZ hown (W_ hw 57 rfl) (W_ hw 2 rfl) (W_ hw 1 rfl) e0 (g := (mkF m 136 #[.val (.int (4 : Int32)), .val (.ref a)] [])) rfl (hb hby d10_136) (by decide) (by decide)
    obtain ⟨b69, g69⟩ : ∃ z, z = h0.size := ⟨_, rfl⟩
    rw [← g69] at A69 D69 st69
    have ne_a_b69 : a ≠ b69 := Nat.ne_of_lt (Nat.lt_of_lt_of_le V_a.lt (Nat.le_of_eq g69.symm))
    have g_b69 : n0 ≤ b69 := Nat.le_trans Z_ (Nat.le_of_eq g69.symm)
    have sf_b69 : Safe Z own_EL s.vm h0 b69 := Safe.new (Nat.le_of_eq g69.symm)
    have sz_b69 : h0.size ≤ b69 := Nat.le_trans Kp.1 (Nat.le_of_eq g69.symm)
    have V_a := V_a.ext E69
    have O_ := O_.ext E69
    have Kp := Kp.ext E69
    have sf_b69 := Safe.ext E69 CR.1 sf_b69
    have CR := CR.trans (CHr.ext E69 CR.1)
    have hk_ := Nat.le_trans hk_ E69.1
    have Z_ : n0 ≤ h69.size := Nat.le_trans Z_ E69.1
    have E_b69 := A69
    have F_value_b69 : Fld Z h69 b69 "java/lang/String" "value" "[B" .null := D69 (Or.inr (W_ hw 4 rfl)) (ty := (.array .byte)) (by decide)
    have F_coder_b69 : Fld Z h69 b69 "java/lang/String" "coder" "B" (.int (0 : Int32)) := D69 (Or.inr (W_ hw 5 rfl)) (ty := .byte) (by decide)
    refine .st st69 ?_
    show OwnGoW p e below s Z own_EL _ _ _ T69 (mkF m 139 _ [(.ref b69)])
    refine .dup X69 hx (hb hby d10_139) rfl ?_
    refine .iconst X69 hx (hb hby d10_140) own_ki4 ?_
    obtain ⟨T70, h70, k70, X70, e70, E70, A70, Ex70, st70⟩ := newPE X69 hx hZ (W_ hw 23 rfl) e69 (g := (mkF m 141 #[.val (.int (4 : Int32)), .val (.ref a)] [(.int (4 : Int32)), (.ref b69), (.ref b69)])) rfl (hb hby d10_141) rfl (by decide) (cap := 4) (by decide) (by decide) (by decide) (by decide) (ad := "[C") (by decide)
    obtain ⟨b70, g70⟩ : ∃ z, z = h69.size := ⟨_, rfl⟩
    rw [← g70] at A70 Ex70 st70
    have ne_a_b70 : a ≠ b70 := Nat.ne_of_lt (Nat.lt_of_lt_of_le V_a.lt (Nat.le_of_eq g70.symm))
    have ne_b69_b70 : b69 ≠ b70 := Nat.ne_of_lt (Nat.lt_of_lt_of_le E_b69.lt (Nat.le_of_eq g70.symm))
    have g_b70 : n0 ≤ b70 := Nat.le_trans Z_ (Nat.le_of_eq g70.symm)
    have sf_b70 : Safe Z own_EL s.vm h69 b70 := Safe.new (Nat.le_of_eq g70.symm)
    have sz_b70 : h0.size ≤ b70 := Nat.le_trans Kp.1 (Nat.le_of_eq g70.symm)
    have V_a := V_a.ext E70
    have E_b69 := E_b69.ext E70
    have F_value_b69 := F_value_b69.ext E70
    have F_coder_b69 := F_coder_b69.ext E70
    have O_ := O_.ext E70
    have Kp := Kp.ext E70
    have sf_b69 := Safe.ext E70 CR.1 sf_b69
    have sf_b70 := Safe.ext E70 CR.1 sf_b70
    have CR := CR.trans (CHr.ext E70 CR.1)
    have hk_ := Nat.le_trans hk_ E70.1
    have Z_ : n0 ≤ h70.size := Nat.le_trans Z_ E70.1
    have V_b70 : Arv Z h70 b70 k70 .char (4 : Int32) [(.int (0 : Int32)), (.int (0 : Int32)), (.int (0 : Int32)), (.int (0 : Int32))] (.int (0 : Int32)) := (Arv.new A70 (by decide)).pad (pad_rep [] (.int (0 : Int32)) 4)
    have E_b70 := Ex70
    refine .st st70 ?_
    show OwnGoW p e below s Z own_EL _ _ _ T70 (mkF m 143 _ [(.ref b70), (.ref b69), (.ref b69)])
    refine .dup X70 hx (hb hby d10_143) rfl ?_
    refine .iconst X70 hx (hb hby d10_144) own_ki0 ?_
    refine .aloadN X70 hx (hb hby d10_145) rfl rfl ?_
    refine .iconst X70 hx (hb hby d10_146) own_ki0 ?_
    obtain ⟨cl71, Ar71, -, S71, -, H71, -⟩ := id V_a
    have hin71 : ¬ ((0 : Int32) < 0 ∨ cl71.slots.size ≤ ((0 : Int32)).toNatClampNeg) := inb_of S71 ⟨by decide, by decide⟩
    refine .st (fun _ => X70.caload hx (j := (0 : Int32)) (v := (.int c0)) (by first | exact Ar71.1 | (rw [e70]; exact Ar71.1)) (State.isArrayOf_alike hZ.alike Ar71.2.1) Ar71.2.2 hin71 (H71.at hin71 rfl) (g := (mkF m 147 #[.val (.int (4 : Int32)), .val (.ref a)] [(.int (0 : Int32)), (.ref a), (.int (0 : Int32)), (.ref b70), (.ref b70), (.ref b69), (.ref b69)])) rfl rfl (hb hby d10_147) _) ?_
    show OwnGoW p e below s Z own_EL _ _ _ T70 (mkF m 148 _ [(.int c0), (.int (0 : Int32)), (.ref b70), (.ref b70), (.ref b69), (.ref b69)])
    obtain ⟨cl72, Ar72, q72, S72, N72, H72, G72⟩ := id V_b70
    have hin72 : ¬ ((0 : Int32) < 0 ∨ cl72.slots.size ≤ ((0 : Int32)).toNatClampNeg) := inb_of S72 ⟨by decide, by decide⟩
    obtain ⟨T72, h72, X72, e72, W72, st72⟩ := stC X70 hx hZ e70 Ar72 (j := (0 : Int32)) hin72 (g := (mkF m 148 #[.val (.int (4 : Int32)), .val (.ref a)] [(.int c0), (.int (0 : Int32)), (.ref b70), (.ref b70), (.ref b69), (.ref b69)])) rfl rfl (hb hby d10_148)
    have V_b70 : Arv Z h72 b70 k70 .char (4 : Int32) [(.int (nar .char c0)), (.int (0 : Int32)), (.int (0 : Int32)), (.int (0 : Int32))] (.int (0 : Int32)) := Arv.set Ar72 q72 S72 N72 H72 G72 (fits_nar_char _) W72 0 rfl (Nat.le_of_ble_eq_true rfl)
    rw [show nar .char c0 = c0 from (own_lnc hp_c0)] at V_b70
    have V_a := V_a.other W72 ne_a_b70
    have E_b69 := E_b69.wr W72
    have F_value_b69 := F_value_b69.other W72 (Or.inl ne_b69_b70)
    have F_coder_b69 := F_coder_b69.other W72 (Or.inl ne_b69_b70)
    have E_b70 := E_b70.wr W72
    have O_ := O_.wr W72 g_b70
    have Kp := Kp.wr W72 (Or.inr sz_b70)
    have sf_ := sf_b70
    have CR0 := CR.1
    have CR := CR.trans (CHr.wr W72 sf_ CR.1)
    have sf_b69 := Safe.wr W72 sf_ CR0 sf_b69
    have sf_b70 := Safe.wr W72 sf_ CR0 sf_b70
    have hk_ := Nat.le_trans hk_ (Nat.le_of_eq W72.size.symm)
    have N72 := Fr.snoc X72 N0 g_b70
    have Z_ : n0 ≤ h72.size := by rw [W72.size]; exact Z_
    refine .st st72 ?_
    show OwnGoW p e below s Z own_EL _ _ _ T72 (mkF m 149 _ [(.ref b70), (.ref b69), (.ref b69)])
    refine .dup X72 hx (hb hby d10_149) rfl ?_
    refine .iconst X72 hx (hb hby d10_150) own_ki1 ?_
    refine .aloadN X72 hx (hb hby d10_151) rfl rfl ?_
    refine .iconst X72 hx (hb hby d10_152) own_ki1 ?_
    obtain ⟨cl73, Ar73, -, S73, -, H73, -⟩ := id V_a
    have hin73 : ¬ ((1 : Int32) < 0 ∨ cl73.slots.size ≤ ((1 : Int32)).toNatClampNeg) := inb_of S73 ⟨by decide, by decide⟩
    refine .st (fun _ => X72.caload hx (j := (1 : Int32)) (v := (.int c1)) (by first | exact Ar73.1 | (rw [e72]; exact Ar73.1)) (State.isArrayOf_alike hZ.alike Ar73.2.1) Ar73.2.2 hin73 (H73.at hin73 rfl) (g := (mkF m 153 #[.val (.int (4 : Int32)), .val (.ref a)] [(.int (1 : Int32)), (.ref a), (.int (1 : Int32)), (.ref b70), (.ref b70), (.ref b69), (.ref b69)])) rfl rfl (hb hby d10_153) _) ?_
    show OwnGoW p e below s Z own_EL _ _ _ T72 (mkF m 154 _ [(.int c1), (.int (1 : Int32)), (.ref b70), (.ref b70), (.ref b69), (.ref b69)])
    obtain ⟨cl74, Ar74, q74, S74, N74, H74, G74⟩ := id V_b70
    have hin74 : ¬ ((1 : Int32) < 0 ∨ cl74.slots.size ≤ ((1 : Int32)).toNatClampNeg) := inb_of S74 ⟨by decide, by decide⟩
    obtain ⟨T74, h74, X74, e74, W74, st74⟩ := stC X72 hx hZ e72 Ar74 (j := (1 : Int32)) hin74 (g := (mkF m 154 #[.val (.int (4 : Int32)), .val (.ref a)] [(.int c1), (.int (1 : Int32)), (.ref b70), (.ref b70), (.ref b69), (.ref b69)])) rfl rfl (hb hby d10_154)
    have V_b70 : Arv Z h74 b70 k70 .char (4 : Int32) [(.int c0), (.int (nar .char c1)), (.int (0 : Int32)), (.int (0 : Int32))] (.int (0 : Int32)) := Arv.set Ar74 q74 S74 N74 H74 G74 (fits_nar_char _) W74 1 rfl (Nat.le_of_ble_eq_true rfl)
    rw [show nar .char c1 = c1 from (own_lnc hp_c1)] at V_b70
    have V_a := V_a.other W74 ne_a_b70
    have E_b69 := E_b69.wr W74
    have F_value_b69 := F_value_b69.other W74 (Or.inl ne_b69_b70)
    have F_coder_b69 := F_coder_b69.other W74 (Or.inl ne_b69_b70)
    have E_b70 := E_b70.wr W74
    have O_ := O_.wr W74 g_b70
    have Kp := Kp.wr W74 (Or.inr sz_b70)
    have sf_ := sf_b70
    have CR0 := CR.1
    have CR := CR.trans (CHr.wr W74 sf_ CR.1)
    have sf_b69 := Safe.wr W74 sf_ CR0 sf_b69
    have sf_b70 := Safe.wr W74 sf_ CR0 sf_b70
    have hk_ := Nat.le_trans hk_ (Nat.le_of_eq W74.size.symm)
    have N74 := Fr.snoc X74 N72 g_b70
    have Z_ : n0 ≤ h74.size := by rw [W74.size]; exact Z_
    refine .st st74 ?_
    show OwnGoW p e below s Z own_EL _ _ _ T74 (mkF m 155 _ [(.ref b70), (.ref b69), (.ref b69)])
    refine .dup X74 hx (hb hby d10_155) rfl ?_
    refine .iconst X74 hx (hb hby d10_156) own_ki2 ?_
    refine .aloadN X74 hx (hb hby d10_157) rfl rfl ?_
    refine .iconst X74 hx (hb hby d10_158) own_ki2 ?_
    obtain ⟨cl75, Ar75, -, S75, -, H75, -⟩ := id V_a
    have hin75 : ¬ ((2 : Int32) < 0 ∨ cl75.slots.size ≤ ((2 : Int32)).toNatClampNeg) := inb_of S75 ⟨by decide, by decide⟩
    refine .st (fun _ => X74.caload hx (j := (2 : Int32)) (v := (.int c2)) (by first | exact Ar75.1 | (rw [e74]; exact Ar75.1)) (State.isArrayOf_alike hZ.alike Ar75.2.1) Ar75.2.2 hin75 (H75.at hin75 rfl) (g := (mkF m 159 #[.val (.int (4 : Int32)), .val (.ref a)] [(.int (2 : Int32)), (.ref a), (.int (2 : Int32)), (.ref b70), (.ref b70), (.ref b69), (.ref b69)])) rfl rfl (hb hby d10_159) _) ?_
    show OwnGoW p e below s Z own_EL _ _ _ T74 (mkF m 160 _ [(.int c2), (.int (2 : Int32)), (.ref b70), (.ref b70), (.ref b69), (.ref b69)])
    obtain ⟨cl76, Ar76, q76, S76, N76, H76, G76⟩ := id V_b70
    have hin76 : ¬ ((2 : Int32) < 0 ∨ cl76.slots.size ≤ ((2 : Int32)).toNatClampNeg) := inb_of S76 ⟨by decide, by decide⟩
    obtain ⟨T76, h76, X76, e76, W76, st76⟩ := stC X74 hx hZ e74 Ar76 (j := (2 : Int32)) hin76 (g := (mkF m 160 #[.val (.int (4 : Int32)), .val (.ref a)] [(.int c2), (.int (2 : Int32)), (.ref b70), (.ref b70), (.ref b69), (.ref b69)])) rfl rfl (hb hby d10_160)
    have V_b70 : Arv Z h76 b70 k70 .char (4 : Int32) [(.int c0), (.int c1), (.int (nar .char c2)), (.int (0 : Int32))] (.int (0 : Int32)) := Arv.set Ar76 q76 S76 N76 H76 G76 (fits_nar_char _) W76 2 rfl (Nat.le_of_ble_eq_true rfl)
    rw [show nar .char c2 = c2 from (own_lnc hp_c2)] at V_b70
    have V_a := V_a.other W76 ne_a_b70
    have E_b69 := E_b69.wr W76
    have F_value_b69 := F_value_b69.other W76 (Or.inl ne_b69_b70)
    have F_coder_b69 := F_coder_b69.other W76 (Or.inl ne_b69_b70)
    have E_b70 := E_b70.wr W76
    have O_ := O_.wr W76 g_b70
    have Kp := Kp.wr W76 (Or.inr sz_b70)
    have sf_ := sf_b70
    have CR0 := CR.1
    have CR := CR.trans (CHr.wr W76 sf_ CR.1)
    have sf_b69 := Safe.wr W76 sf_ CR0 sf_b69
    have sf_b70 := Safe.wr W76 sf_ CR0 sf_b70
    have hk_ := Nat.le_trans hk_ (Nat.le_of_eq W76.size.symm)
    have N76 := Fr.snoc X76 N74 g_b70
    have Z_ : n0 ≤ h76.size := by rw [W76.size]; exact Z_
    refine .st st76 ?_
    show OwnGoW p e below s Z own_EL _ _ _ T76 (mkF m 161 _ [(.ref b70), (.ref b69), (.ref b69)])
    refine .dup X76 hx (hb hby d10_161) rfl ?_
    refine .iconst X76 hx (hb hby d10_162) own_ki3 ?_
    refine .aloadN X76 hx (hb hby d10_163) rfl rfl ?_
    refine .iconst X76 hx (hb hby d10_164) own_ki3 ?_
    obtain ⟨cl77, Ar77, -, S77, -, H77, -⟩ := id V_a
    have hin77 : ¬ ((3 : Int32) < 0 ∨ cl77.slots.size ≤ ((3 : Int32)).toNatClampNeg) := inb_of S77 ⟨by decide, by decide⟩
    refine .st (fun _ => X76.caload hx (j := (3 : Int32)) (v := (.int c3)) (by first | exact Ar77.1 | (rw [e76]; exact Ar77.1)) (State.isArrayOf_alike hZ.alike Ar77.2.1) Ar77.2.2 hin77 (H77.at hin77 rfl) (g := (mkF m 165 #[.val (.int (4 : Int32)), .val (.ref a)] [(.int (3 : Int32)), (.ref a), (.int (3 : Int32)), (.ref b70), (.ref b70), (.ref b69), (.ref b69)])) rfl rfl (hb hby d10_165) _) ?_
    show OwnGoW p e below s Z own_EL _ _ _ T76 (mkF m 166 _ [(.int c3), (.int (3 : Int32)), (.ref b70), (.ref b70), (.ref b69), (.ref b69)])
    obtain ⟨cl78, Ar78, q78, S78, N78, H78, G78⟩ := id V_b70
    have hin78 : ¬ ((3 : Int32) < 0 ∨ cl78.slots.size ≤ ((3 : Int32)).toNatClampNeg) := inb_of S78 ⟨by decide, by decide⟩
    obtain ⟨T78, h78, X78, e78, W78, st78⟩ := stC X76 hx hZ e76 Ar78 (j := (3 : Int32)) hin78 (g := (mkF m 166 #[.val (.int (4 : Int32)), .val (.ref a)] [(.int c3), (.int (3 : Int32)), (.ref b70), (.ref b70), (.ref b69), (.ref b69)])) rfl rfl (hb hby d10_166)
    have V_b70 : Arv Z h78 b70 k70 .char (4 : Int32) [(.int c0), (.int c1), (.int c2), (.int (nar .char c3))] (.int (0 : Int32)) := Arv.set Ar78 q78 S78 N78 H78 G78 (fits_nar_char _) W78 3 rfl (Nat.le_of_ble_eq_true rfl)
    rw [show nar .char c3 = c3 from (own_lnc hp_c3)] at V_b70
    have V_a := V_a.other W78 ne_a_b70
    have E_b69 := E_b69.wr W78
    have F_value_b69 := F_value_b69.other W78 (Or.inl ne_b69_b70)
    have F_coder_b69 := F_coder_b69.other W78 (Or.inl ne_b69_b70)
    have E_b70 := E_b70.wr W78
    have O_ := O_.wr W78 g_b70
    have Kp := Kp.wr W78 (Or.inr sz_b70)
    have sf_ := sf_b70
    have CR0 := CR.1
    have CR := CR.trans (CHr.wr W78 sf_ CR.1)
    have sf_b69 := Safe.wr W78 sf_ CR0 sf_b69
    have sf_b70 := Safe.wr W78 sf_ CR0 sf_b70
    have hk_ := Nat.le_trans hk_ (Nat.le_of_eq W78.size.symm)
    have N78 := Fr.snoc X78 N76 g_b70
    have Z_ : n0 ≤ h78.size := by rw [W78.size]; exact Z_
    refine .st st78 ?_
    show OwnGoW p e below s Z own_EL _ _ _ T78 (mkF m 167 _ [(.ref b70), (.ref b69), (.ref b69)])
    have hp79 : ∀ c ∈ ([c0, c1, c2, c3] : List Int32), ¬ c < 0 ∧ ¬ (255 : Int32) < c := by
      intro c hc
      simp only [List.mem_cons, List.not_mem_nil, or_false] at hc
      rcases hc with rfl | rfl | rfl | rfl
      · exact hp_c0
      · exact hp_c1
      · exact hp_c2
      · exact hp_c3
    obtain ⟨_, _, ⟨T80, L80, k80, n80⟩, -, X80, ⟨Lc80, hQ80, l80, y80, z80⟩, st80⟩ := X78.specialBack hx (y := (⟨"java/lang/String", "<init>", "([C)V"⟩ : MethodName)) rfl hown (mvT hZ (W_ hw 58 rfl)) (mvT hZ (W_ hw 59 rfl)) (mvT hZ (W_ hw 60 rfl)) (by decide) (StrChars.Road.backV (W := 1) hZ (own_ws hw) (kI := 4) (W_ hw 2 rfl) (cs := ([c0, c1, c2, c3] : List Int32)) (bs := ([c0, c1, c2, c3] : List Int32).map (fun c => c.toInt8.toInt32)) (n := 4) g_b69 Z_ E_b69 F_value_b69 F_coder_b69 V_b70 (S_CS.ext O_.2) P_CS rfl rfl (by decide) (by decide) hp79 rfl (by decide) (by decide)) (g := (mkF m 167 #[.val (.int (4 : Int32)), .val (.ref a)] [(.ref b70), (.ref b69), (.ref b69)])) rfl (by rw [hml]; rfl) (Steps.refl _) (a := b69) (argsL := [(.ref b70)]) (rest := [(.ref b69)]) (lenOf pd_10 rfl) rfl (Nat.le_of_eq rfl) (hb hby d10_167) (fun _ _ => ⟨rfl, e78, (by decide : 2 + 1 ≤ _), (by decide : 8 + 4 ≤ _)⟩)
    dsimp only [Pt.U, Pt.locs, Pt.cells, Pt.slots] at X80 l80 y80 z80 st80 hQ80
    subst l80 y80 z80
    obtain ⟨rfl, N80q, K80, Ex80, Fc_b69, t80, kb80, gt80, zz80, nt80, Fv_b69, V80⟩ := hQ80
    have N80 := Fr.app N78 N80q
    have zt80 : h78.size ≤ t80 := zz80
    have ne_a_t80 : a ≠ t80 := Nat.ne_of_lt (Nat.lt_of_lt_of_le V_a.lt zt80)
    have ne_b69_t80 : b69 ≠ t80 := Nat.ne_of_lt (Nat.lt_of_lt_of_le E_b69.lt zt80)
    have ne_b70_t80 : b70 ≠ t80 := Nat.ne_of_lt (Nat.lt_of_lt_of_le V_b70.lt zt80)
    have g_t80 : n0 ≤ t80 := Nat.le_trans Z_ zt80
    have sz_t80 : h0.size ≤ t80 := Nat.le_trans Kp.1 zt80
    have V80 : Arv Z T80.heap t80 kb80 .byte (4 : Int32) [(.int c0.toInt8.toInt32), (.int c1.toInt8.toInt32), (.int c2.toInt8.toInt32), (.int c3.toInt8.toInt32)] (.int (0 : Int32)) := V80
    have Z_ : n0 ≤ T80.heap.size := Nat.le_trans Z_ K80.1
    have V_a := V_a.keep K80 (ninS ne_a_b69 nin0)
    have E_b69 := E_b69.keep K80
    have V_b70 := V_b70.keep K80 (ninS (Ne.symm ne_b69_b70) nin0)
    have E_b70 := E_b70.keep K80
    have O_ := O_.keep K80 (allS g_b69 all0)
    have Kp := Kp.trans K80 (allS (Or.inr sz_b69) all0)
    have sf_b70' := Safe.keep K80 (sfS sf_b69 sf0) CR.1 sf_b70
    have sf_b69' := Safe.keep K80 (sfS sf_b69 sf0) CR.1 sf_b69
    have CR := CR.trans (CHr.keep K80 (sfS sf_b69 sf0) CR.1)
    have hk_ := Nat.le_trans hk_ K80.1
    have sf_b69 := sf_b69'
    have sf_b70 := sf_b70'
    refine .st (fun _ => st80.trans) ?_
    show OwnGoW p e below s Z own_EL _ _ _ T80 (mkF m 170 _ [(.ref b69)])
    exact OwnGoW.ret (s := s) (vm0 := s.vm) X80 hS_ hk_ rfl hZ (own_hEL hw) CR hx hret hlk rfl (Or.inr (Or.inr (Or.inr (Or.inr ⟨rfl, rfl, rfl⟩)))) (hb hby d10_170) (by show Qmk Z (4 : Int32) a ka c0 c1 c2 c3 c4 c5 c6 c7 c8 c9 zc h0 n0 _ T80.heap _; exact ⟨b69, t80, kb80, [c0.toInt8.toInt32, c1.toInt8.toInt32, c2.toInt8.toInt32, c3.toInt8.toInt32], rfl, N80, Kp, E_b69, Fc_b69, Fv_b69, V80, (by show 4 < 2 ^ 31; decide)⟩) (by decide) (by decide)
  · show OwnGoW p e below s Z own_EL _ _ _ s₁ (mkF m 1 _ [(.int (5 : Int32))])
    clear hn hn'
    refine .tswIn (pc := 1) X0 hx 171 (hb hby d10_1) own_ts10_1_5.1 own_ts10_1_5.2 (by decide) (by decide) ?_
    obtain ⟨T81, h81, X81, e81, E81, A81, D81, -, st81⟩ := newO X0 hx hZ hown (W_ hw 57 rfl) (W_ hw 2 rfl) (W_ hw 1 rfl) e0 (g := (mkF m 171 #[.val (.int (5 : Int32)), .val (.ref a)] [])) rfl (hb hby d10_171) (by decide) (by decide)
    obtain ⟨b81, g81⟩ : ∃ z, z = h0.size := ⟨_, rfl⟩
    rw [← g81] at A81 D81 st81
    have ne_a_b81 : a ≠ b81 := Nat.ne_of_lt (Nat.lt_of_lt_of_le V_a.lt (Nat.le_of_eq g81.symm))
    have g_b81 : n0 ≤ b81 := Nat.le_trans Z_ (Nat.le_of_eq g81.symm)
    have sf_b81 : Safe Z own_EL s.vm h0 b81 := Safe.new (Nat.le_of_eq g81.symm)
    have sz_b81 : h0.size ≤ b81 := Nat.le_trans Kp.1 (Nat.le_of_eq g81.symm)
    have V_a := V_a.ext E81
    have O_ := O_.ext E81
    have Kp := Kp.ext E81
    have sf_b81 := Safe.ext E81 CR.1 sf_b81
    have CR := CR.trans (CHr.ext E81 CR.1)
    have hk_ := Nat.le_trans hk_ E81.1
    have Z_ : n0 ≤ h81.size := Nat.le_trans Z_ E81.1
    have E_b81 := A81
    have F_value_b81 : Fld Z h81 b81 "java/lang/String" "value" "[B" .null := D81 (Or.inr (W_ hw 4 rfl)) (ty := (.array .byte)) (by decide)
    have F_coder_b81 : Fld Z h81 b81 "java/lang/String" "coder" "B" (.int (0 : Int32)) := D81 (Or.inr (W_ hw 5 rfl)) (ty := .byte) (by decide)
    refine .st st81 ?_
    show OwnGoW p e below s Z own_EL _ _ _ T81 (mkF m 174 _ [(.ref b81)])
    refine .dup X81 hx (hb hby d10_174) rfl ?_
    refine .iconst X81 hx (hb hby d10_175) own_ki5 ?_
    obtain ⟨T82, h82, k82, X82, e82, E82, A82, Ex82, st82⟩ := newPE X81 hx hZ (W_ hw 23 rfl) e81 (g := (mkF m 176 #[.val (.int (5 : Int32)), .val (.ref a)] [(.int (5 : Int32)), (.ref b81), (.ref b81)])) rfl (hb hby d10_176) rfl (by decide) (cap := 5) (by decide) (by decide) (by decide) (by decide) (ad := "[C") (by decide)
    obtain ⟨b82, g82⟩ : ∃ z, z = h81.size := ⟨_, rfl⟩
    rw [← g82] at A82 Ex82 st82
    have ne_a_b82 : a ≠ b82 := Nat.ne_of_lt (Nat.lt_of_lt_of_le V_a.lt (Nat.le_of_eq g82.symm))
    have ne_b81_b82 : b81 ≠ b82 := Nat.ne_of_lt (Nat.lt_of_lt_of_le E_b81.lt (Nat.le_of_eq g82.symm))
    have g_b82 : n0 ≤ b82 := Nat.le_trans Z_ (Nat.le_of_eq g82.symm)
    have sf_b82 : Safe Z own_EL s.vm h81 b82 := Safe.new (Nat.le_of_eq g82.symm)
    have sz_b82 : h0.size ≤ b82 := Nat.le_trans Kp.1 (Nat.le_of_eq g82.symm)
    have V_a := V_a.ext E82
    have E_b81 := E_b81.ext E82
    have F_value_b81 := F_value_b81.ext E82
    have F_coder_b81 := F_coder_b81.ext E82
    have O_ := O_.ext E82
    have Kp := Kp.ext E82
    have sf_b81 := Safe.ext E82 CR.1 sf_b81
    have sf_b82 := Safe.ext E82 CR.1 sf_b82
    have CR := CR.trans (CHr.ext E82 CR.1)
    have hk_ := Nat.le_trans hk_ E82.1
    have Z_ : n0 ≤ h82.size := Nat.le_trans Z_ E82.1
    have V_b82 : Arv Z h82 b82 k82 .char (5 : Int32) [(.int (0 : Int32)), (.int (0 : Int32)), (.int (0 : Int32)), (.int (0 : Int32)), (.int (0 : Int32))] (.int (0 : Int32)) := (Arv.new A82 (by decide)).pad (pad_rep [] (.int (0 : Int32)) 5)
    have E_b82 := Ex82
    refine .st st82 ?_
    show OwnGoW p e below s Z own_EL _ _ _ T82 (mkF m 178 _ [(.ref b82), (.ref b81), (.ref b81)])
    refine .dup X82 hx (hb hby d10_178) rfl ?_
    refine .iconst X82 hx (hb hby d10_179) own_ki0 ?_
    refine .aloadN X82 hx (hb hby d10_180) rfl rfl ?_
    refine .iconst X82 hx (hb hby d10_181) own_ki0 ?_
    obtain ⟨cl83, Ar83, -, S83, -, H83, -⟩ := id V_a
    have hin83 : ¬ ((0 : Int32) < 0 ∨ cl83.slots.size ≤ ((0 : Int32)).toNatClampNeg) := inb_of S83 ⟨by decide, by decide⟩
    refine .st (fun _ => X82.caload hx (j := (0 : Int32)) (v := (.int c0)) (by first | exact Ar83.1 | (rw [e82]; exact Ar83.1)) (State.isArrayOf_alike hZ.alike Ar83.2.1) Ar83.2.2 hin83 (H83.at hin83 rfl) (g := (mkF m 182 #[.val (.int (5 : Int32)), .val (.ref a)] [(.int (0 : Int32)), (.ref a), (.int (0 : Int32)), (.ref b82), (.ref b82), (.ref b81), (.ref b81)])) rfl rfl (hb hby d10_182) _) ?_
    show OwnGoW p e below s Z own_EL _ _ _ T82 (mkF m 183 _ [(.int c0), (.int (0 : Int32)), (.ref b82), (.ref b82), (.ref b81), (.ref b81)])
    obtain ⟨cl84, Ar84, q84, S84, N84, H84, G84⟩ := id V_b82
    have hin84 : ¬ ((0 : Int32) < 0 ∨ cl84.slots.size ≤ ((0 : Int32)).toNatClampNeg) := inb_of S84 ⟨by decide, by decide⟩
    obtain ⟨T84, h84, X84, e84, W84, st84⟩ := stC X82 hx hZ e82 Ar84 (j := (0 : Int32)) hin84 (g := (mkF m 183 #[.val (.int (5 : Int32)), .val (.ref a)] [(.int c0), (.int (0 : Int32)), (.ref b82), (.ref b82), (.ref b81), (.ref b81)])) rfl rfl (hb hby d10_183)
    have V_b82 : Arv Z h84 b82 k82 .char (5 : Int32) [(.int (nar .char c0)), (.int (0 : Int32)), (.int (0 : Int32)), (.int (0 : Int32)), (.int (0 : Int32))] (.int (0 : Int32)) := Arv.set Ar84 q84 S84 N84 H84 G84 (fits_nar_char _) W84 0 rfl (Nat.le_of_ble_eq_true rfl)
    rw [show nar .char c0 = c0 from (own_lnc hp_c0)] at V_b82
    have V_a := V_a.other W84 ne_a_b82
    have E_b81 := E_b81.wr W84
    have F_value_b81 := F_value_b81.other W84 (Or.inl ne_b81_b82)
    have F_coder_b81 := F_coder_b81.other W84 (Or.inl ne_b81_b82)
    have E_b82 := E_b82.wr W84
    have O_ := O_.wr W84 g_b82
    have Kp := Kp.wr W84 (Or.inr sz_b82)
    have sf_ := sf_b82
    have CR0 := CR.1
    have CR := CR.trans (CHr.wr W84 sf_ CR.1)
    have sf_b81 := Safe.wr W84 sf_ CR0 sf_b81
    have sf_b82 := Safe.wr W84 sf_ CR0 sf_b82
    have hk_ := Nat.le_trans hk_ (Nat.le_of_eq W84.size.symm)
    have N84 := Fr.snoc X84 N0 g_b82
    have Z_ : n0 ≤ h84.size := by rw [W84.size]; exact Z_
    refine .st st84 ?_
    show OwnGoW p e below s Z own_EL _ _ _ T84 (mkF m 184 _ [(.ref b82), (.ref b81), (.ref b81)])
    refine .dup X84 hx (hb hby d10_184) rfl ?_
    refine .iconst X84 hx (hb hby d10_185) own_ki1 ?_
    refine .aloadN X84 hx (hb hby d10_186) rfl rfl ?_
    refine .iconst X84 hx (hb hby d10_187) own_ki1 ?_
    obtain ⟨cl85, Ar85, -, S85, -, H85, -⟩ := id V_a
    have hin85 : ¬ ((1 : Int32) < 0 ∨ cl85.slots.size ≤ ((1 : Int32)).toNatClampNeg) := inb_of S85 ⟨by decide, by decide⟩
    refine .st (fun _ => X84.caload hx (j := (1 : Int32)) (v := (.int c1)) (by first | exact Ar85.1 | (rw [e84]; exact Ar85.1)) (State.isArrayOf_alike hZ.alike Ar85.2.1) Ar85.2.2 hin85 (H85.at hin85 rfl) (g := (mkF m 188 #[.val (.int (5 : Int32)), .val (.ref a)] [(.int (1 : Int32)), (.ref a), (.int (1 : Int32)), (.ref b82), (.ref b82), (.ref b81), (.ref b81)])) rfl rfl (hb hby d10_188) _) ?_
    show OwnGoW p e below s Z own_EL _ _ _ T84 (mkF m 189 _ [(.int c1), (.int (1 : Int32)), (.ref b82), (.ref b82), (.ref b81), (.ref b81)])
    obtain ⟨cl86, Ar86, q86, S86, N86, H86, G86⟩ := id V_b82
    have hin86 : ¬ ((1 : Int32) < 0 ∨ cl86.slots.size ≤ ((1 : Int32)).toNatClampNeg) := inb_of S86 ⟨by decide, by decide⟩
    obtain ⟨T86, h86, X86, e86, W86, st86⟩ := stC X84 hx hZ e84 Ar86 (j := (1 : Int32)) hin86 (g := (mkF m 189 #[.val (.int (5 : Int32)), .val (.ref a)] [(.int c1), (.int (1 : Int32)), (.ref b82), (.ref b82), (.ref b81), (.ref b81)])) rfl rfl (hb hby d10_189)
    have V_b82 : Arv Z h86 b82 k82 .char (5 : Int32) [(.int c0), (.int (nar .char c1)), (.int (0 : Int32)), (.int (0 : Int32)), (.int (0 : Int32))] (.int (0 : Int32)) := Arv.set Ar86 q86 S86 N86 H86 G86 (fits_nar_char _) W86 1 rfl (Nat.le_of_ble_eq_true rfl)
    rw [show nar .char c1 = c1 from (own_lnc hp_c1)] at V_b82
    have V_a := V_a.other W86 ne_a_b82
    have E_b81 := E_b81.wr W86
    have F_value_b81 := F_value_b81.other W86 (Or.inl ne_b81_b82)
    have F_coder_b81 := F_coder_b81.other W86 (Or.inl ne_b81_b82)
    have E_b82 := E_b82.wr W86
    have O_ := O_.wr W86 g_b82
    have Kp := Kp.wr W86 (Or.inr sz_b82)
    have sf_ := sf_b82
    have CR0 := CR.1
    have CR := CR.trans (CHr.wr W86 sf_ CR.1)
    have sf_b81 := Safe.wr W86 sf_ CR0 sf_b81
    have sf_b82 := Safe.wr W86 sf_ CR0 sf_b82
    have hk_ := Nat.le_trans hk_ (Nat.le_of_eq W86.size.symm)
    have N86 := Fr.snoc X86 N84 g_b82
    have Z_ : n0 ≤ h86.size := by rw [W86.size]; exact Z_
    refine .st st86 ?_
    show OwnGoW p e below s Z own_EL _ _ _ T86 (mkF m 190 _ [(.ref b82), (.ref b81), (.ref b81)])
    refine .dup X86 hx (hb hby d10_190) rfl ?_
    refine .iconst X86 hx (hb hby d10_191) own_ki2 ?_
    refine .aloadN X86 hx (hb hby d10_192) rfl rfl ?_
    refine .iconst X86 hx (hb hby d10_193) own_ki2 ?_
    obtain ⟨cl87, Ar87, -, S87, -, H87, -⟩ := id V_a
    have hin87 : ¬ ((2 : Int32) < 0 ∨ cl87.slots.size ≤ ((2 : Int32)).toNatClampNeg) := inb_of S87 ⟨by decide, by decide⟩
    refine .st (fun _ => X86.caload hx (j := (2 : Int32)) (v := (.int c2)) (by first | exact Ar87.1 | (rw [e86]; exact Ar87.1)) (State.isArrayOf_alike hZ.alike Ar87.2.1) Ar87.2.2 hin87 (H87.at hin87 rfl) (g := (mkF m 194 #[.val (.int (5 : Int32)), .val (.ref a)] [(.int (2 : Int32)), (.ref a), (.int (2 : Int32)), (.ref b82), (.ref b82), (.ref b81), (.ref b81)])) rfl rfl (hb hby d10_194) _) ?_
    show OwnGoW p e below s Z own_EL _ _ _ T86 (mkF m 195 _ [(.int c2), (.int (2 : Int32)), (.ref b82), (.ref b82), (.ref b81), (.ref b81)])
    obtain ⟨cl88, Ar88, q88, S88, N88, H88, G88⟩ := id V_b82
    have hin88 : ¬ ((2 : Int32) < 0 ∨ cl88.slots.size ≤ ((2 : Int32)).toNatClampNeg) := inb_of S88 ⟨by decide, by decide⟩
    obtain ⟨T88, h88, X88, e88, W88, st88⟩ := stC X86 hx hZ e86 Ar88 (j := (2 : Int32)) hin88 (g := (mkF m 195 #[.val (.int (5 : Int32)), .val (.ref a)] [(.int c2), (.int (2 : Int32)), (.ref b82), (.ref b82), (.ref b81), (.ref b81)])) rfl rfl (hb hby d10_195)
    have V_b82 : Arv Z h88 b82 k82 .char (5 : Int32) [(.int c0), (.int c1), (.int (nar .char c2)), (.int (0 : Int32)), (.int (0 : Int32))] (.int (0 : Int32)) := Arv.set Ar88 q88 S88 N88 H88 G88 (fits_nar_char _) W88 2 rfl (Nat.le_of_ble_eq_true rfl)
    rw [show nar .char c2 = c2 from (own_lnc hp_c2)] at V_b82
    have V_a := V_a.other W88 ne_a_b82
    have E_b81 := E_b81.wr W88
    have F_value_b81 := F_value_b81.other W88 (Or.inl ne_b81_b82)
    have F_coder_b81 := F_coder_b81.other W88 (Or.inl ne_b81_b82)
    have E_b82 := E_b82.wr W88
    have O_ := O_.wr W88 g_b82
    have Kp := Kp.wr W88 (Or.inr sz_b82)
    have sf_ := sf_b82
    have CR0 := CR.1
    have CR := CR.trans (CHr.wr W88 sf_ CR.1)
    have sf_b81 := Safe.wr W88 sf_ CR0 sf_b81
    have sf_b82 := Safe.wr W88 sf_ CR0 sf_b82
    have hk_ := Nat.le_trans hk_ (Nat.le_of_eq W88.size.symm)
    have N88 := Fr.snoc X88 N86 g_b82
    have Z_ : n0 ≤ h88.size := by rw [W88.size]; exact Z_
    refine .st st88 ?_
    show OwnGoW p e below s Z own_EL _ _ _ T88 (mkF m 196 _ [(.ref b82), (.ref b81), (.ref b81)])
    refine .dup X88 hx (hb hby d10_196) rfl ?_
    refine .iconst X88 hx (hb hby d10_197) own_ki3 ?_
    refine .aloadN X88 hx (hb hby d10_198) rfl rfl ?_
    refine .iconst X88 hx (hb hby d10_199) own_ki3 ?_
    obtain ⟨cl89, Ar89, -, S89, -, H89, -⟩ := id V_a
    have hin89 : ¬ ((3 : Int32) < 0 ∨ cl89.slots.size ≤ ((3 : Int32)).toNatClampNeg) := inb_of S89 ⟨by decide, by decide⟩
    refine .st (fun _ => X88.caload hx (j := (3 : Int32)) (v := (.int c3)) (by first | exact Ar89.1 | (rw [e88]; exact Ar89.1)) (State.isArrayOf_alike hZ.alike Ar89.2.1) Ar89.2.2 hin89 (H89.at hin89 rfl) (g := (mkF m 200 #[.val (.int (5 : Int32)), .val (.ref a)] [(.int (3 : Int32)), (.ref a), (.int (3 : Int32)), (.ref b82), (.ref b82), (.ref b81), (.ref b81)])) rfl rfl (hb hby d10_200) _) ?_
    show OwnGoW p e below s Z own_EL _ _ _ T88 (mkF m 201 _ [(.int c3), (.int (3 : Int32)), (.ref b82), (.ref b82), (.ref b81), (.ref b81)])
    obtain ⟨cl90, Ar90, q90, S90, N90, H90, G90⟩ := id V_b82
    have hin90 : ¬ ((3 : Int32) < 0 ∨ cl90.slots.size ≤ ((3 : Int32)).toNatClampNeg) := inb_of S90 ⟨by decide, by decide⟩
    obtain ⟨T90, h90, X90, e90, W90, st90⟩ := stC X88 hx hZ e88 Ar90 (j := (3 : Int32)) hin90 (g := (mkF m 201 #[.val (.int (5 : Int32)), .val (.ref a)] [(.int c3), (.int (3 : Int32)), (.ref b82), (.ref b82), (.ref b81), (.ref b81)])) rfl rfl (hb hby d10_201)
    have V_b82 : Arv Z h90 b82 k82 .char (5 : Int32) [(.int c0), (.int c1), (.int c2), (.int (nar .char c3)), (.int (0 : Int32))] (.int (0 : Int32)) := Arv.set Ar90 q90 S90 N90 H90 G90 (fits_nar_char _) W90 3 rfl (Nat.le_of_ble_eq_true rfl)
    rw [show nar .char c3 = c3 from (own_lnc hp_c3)] at V_b82
    have V_a := V_a.other W90 ne_a_b82
    have E_b81 := E_b81.wr W90
    have F_value_b81 := F_value_b81.other W90 (Or.inl ne_b81_b82)
    have F_coder_b81 := F_coder_b81.other W90 (Or.inl ne_b81_b82)
    have E_b82 := E_b82.wr W90
    have O_ := O_.wr W90 g_b82
    have Kp := Kp.wr W90 (Or.inr sz_b82)
    have sf_ := sf_b82
    have CR0 := CR.1
    have CR := CR.trans (CHr.wr W90 sf_ CR.1)
    have sf_b81 := Safe.wr W90 sf_ CR0 sf_b81
    have sf_b82 := Safe.wr W90 sf_ CR0 sf_b82
    have hk_ := Nat.le_trans hk_ (Nat.le_of_eq W90.size.symm)
    have N90 := Fr.snoc X90 N88 g_b82
    have Z_ : n0 ≤ h90.size := by rw [W90.size]; exact Z_
    refine .st st90 ?_
    show OwnGoW p e below s Z own_EL _ _ _ T90 (mkF m 202 _ [(.ref b82), (.ref b81), (.ref b81)])
    refine .dup X90 hx (hb hby d10_202) rfl ?_
    refine .iconst X90 hx (hb hby d10_203) own_ki4 ?_
    refine .aloadN X90 hx (hb hby d10_204) rfl rfl ?_
    refine .iconst X90 hx (hb hby d10_205) own_ki4 ?_
    obtain ⟨cl91, Ar91, -, S91, -, H91, -⟩ := id V_a
    have hin91 : ¬ ((4 : Int32) < 0 ∨ cl91.slots.size ≤ ((4 : Int32)).toNatClampNeg) := inb_of S91 ⟨by decide, by decide⟩
    refine .st (fun _ => X90.caload hx (j := (4 : Int32)) (v := (.int c4)) (by first | exact Ar91.1 | (rw [e90]; exact Ar91.1)) (State.isArrayOf_alike hZ.alike Ar91.2.1) Ar91.2.2 hin91 (H91.at hin91 rfl) (g := (mkF m 206 #[.val (.int (5 : Int32)), .val (.ref a)] [(.int (4 : Int32)), (.ref a), (.int (4 : Int32)), (.ref b82), (.ref b82), (.ref b81), (.ref b81)])) rfl rfl (hb hby d10_206) _) ?_
    show OwnGoW p e below s Z own_EL _ _ _ T90 (mkF m 207 _ [(.int c4), (.int (4 : Int32)), (.ref b82), (.ref b82), (.ref b81), (.ref b81)])
    obtain ⟨cl92, Ar92, q92, S92, N92, H92, G92⟩ := id V_b82
    have hin92 : ¬ ((4 : Int32) < 0 ∨ cl92.slots.size ≤ ((4 : Int32)).toNatClampNeg) := inb_of S92 ⟨by decide, by decide⟩
    obtain ⟨T92, h92, X92, e92, W92, st92⟩ := stC X90 hx hZ e90 Ar92 (j := (4 : Int32)) hin92 (g := (mkF m 207 #[.val (.int (5 : Int32)), .val (.ref a)] [(.int c4), (.int (4 : Int32)), (.ref b82), (.ref b82), (.ref b81), (.ref b81)])) rfl rfl (hb hby d10_207)
    have V_b82 : Arv Z h92 b82 k82 .char (5 : Int32) [(.int c0), (.int c1), (.int c2), (.int c3), (.int (nar .char c4))] (.int (0 : Int32)) := Arv.set Ar92 q92 S92 N92 H92 G92 (fits_nar_char _) W92 4 rfl (Nat.le_of_ble_eq_true rfl)
    rw [show nar .char c4 = c4 from (own_lnc hp_c4)] at V_b82
    have V_a := V_a.other W92 ne_a_b82
    have E_b81 := E_b81.wr W92
    have F_value_b81 := F_value_b81.other W92 (Or.inl ne_b81_b82)
    have F_coder_b81 := F_coder_b81.other W92 (Or.inl ne_b81_b82)
    have E_b82 := E_b82.wr W92
    have O_ := O_.wr W92 g_b82
    have Kp := Kp.wr W92 (Or.inr sz_b82)
    have sf_ := sf_b82
    have CR0 := CR.1
    have CR := CR.trans (CHr.wr W92 sf_ CR.1)
    have sf_b81 := Safe.wr W92 sf_ CR0 sf_b81
    have sf_b82 := Safe.wr W92 sf_ CR0 sf_b82
    have hk_ := Nat.le_trans hk_ (Nat.le_of_eq W92.size.symm)
    have N92 := Fr.snoc X92 N90 g_b82
    have Z_ : n0 ≤ h92.size := by rw [W92.size]; exact Z_
    refine .st st92 ?_
    show OwnGoW p e below s Z own_EL _ _ _ T92 (mkF m 208 _ [(.ref b82), (.ref b81), (.ref b81)])
    have hp93 : ∀ c ∈ ([c0, c1, c2, c3, c4] : List Int32), ¬ c < 0 ∧ ¬ (255 : Int32) < c := by
      intro c hc
      simp only [List.mem_cons, List.not_mem_nil, or_false] at hc
      rcases hc with rfl | rfl | rfl | rfl | rfl
      · exact hp_c0
      · exact hp_c1
      · exact hp_c2
      · exact hp_c3
      · exact hp_c4
    obtain ⟨_, _, ⟨T94, L94, k94, n94⟩, -, X94, ⟨Lc94, hQ94, l94, y94, z94⟩, st94⟩ := X92.specialBack hx (y := (⟨"java/lang/String", "<init>", "([C)V"⟩ : MethodName)) rfl hown (mvT hZ (W_ hw 58 rfl)) (mvT hZ (W_ hw 59 rfl)) (mvT hZ (W_ hw 60 rfl)) (by decide) (StrChars.Road.backV (W := 1) hZ (own_ws hw) (kI := 4) (W_ hw 2 rfl) (cs := ([c0, c1, c2, c3, c4] : List Int32)) (bs := ([c0, c1, c2, c3, c4] : List Int32).map (fun c => c.toInt8.toInt32)) (n := 5) g_b81 Z_ E_b81 F_value_b81 F_coder_b81 V_b82 (S_CS.ext O_.2) P_CS rfl rfl (by decide) (by decide) hp93 rfl (by decide) (by decide)) (g := (mkF m 208 #[.val (.int (5 : Int32)), .val (.ref a)] [(.ref b82), (.ref b81), (.ref b81)])) rfl (by rw [hml]; rfl) (Steps.refl _) (a := b81) (argsL := [(.ref b82)]) (rest := [(.ref b81)]) (lenOf pd_10 rfl) rfl (Nat.le_of_eq rfl) (hb hby d10_208) (fun _ _ => ⟨rfl, e92, (by decide : 2 + 1 ≤ _), (by decide : 9 + 5 ≤ _)⟩)
    dsimp only [Pt.U, Pt.locs, Pt.cells, Pt.slots] at X94 l94 y94 z94 st94 hQ94
    subst l94 y94 z94
    obtain ⟨rfl, N94q, K94, Ex94, Fc_b81, t94, kb94, gt94, zz94, nt94, Fv_b81, V94⟩ := hQ94
    have N94 := Fr.app N92 N94q
    have zt94 : h92.size ≤ t94 := zz94
    have ne_a_t94 : a ≠ t94 := Nat.ne_of_lt (Nat.lt_of_lt_of_le V_a.lt zt94)
    have ne_b81_t94 : b81 ≠ t94 := Nat.ne_of_lt (Nat.lt_of_lt_of_le E_b81.lt zt94)
    have ne_b82_t94 : b82 ≠ t94 := Nat.ne_of_lt (Nat.lt_of_lt_of_le V_b82.lt zt94)
    have g_t94 : n0 ≤ t94 := Nat.le_trans Z_ zt94
    have sz_t94 : h0.size ≤ t94 := Nat.le_trans Kp.1 zt94
    have V94 : Arv Z T94.heap t94 kb94 .byte (5 : Int32) [(.int c0.toInt8.toInt32), (.int c1.toInt8.toInt32), (.int c2.toInt8.toInt32), (.int c3.toInt8.toInt32), (.int c4.toInt8.toInt32)] (.int (0 : Int32)) := V94
    have Z_ : n0 ≤ T94.heap.size := Nat.le_trans Z_ K94.1
    have V_a := V_a.keep K94 (ninS ne_a_b81 nin0)
    have E_b81 := E_b81.keep K94
    have V_b82 := V_b82.keep K94 (ninS (Ne.symm ne_b81_b82) nin0)
    have E_b82 := E_b82.keep K94
    have O_ := O_.keep K94 (allS g_b81 all0)
    have Kp := Kp.trans K94 (allS (Or.inr sz_b81) all0)
    have sf_b82' := Safe.keep K94 (sfS sf_b81 sf0) CR.1 sf_b82
    have sf_b81' := Safe.keep K94 (sfS sf_b81 sf0) CR.1 sf_b81
    have CR := CR.trans (CHr.keep K94 (sfS sf_b81 sf0) CR.1)
    have hk_ := Nat.le_trans hk_ K94.1
    have sf_b81 := sf_b81'
    have sf_b82 := sf_b82'
    refine .st (fun _ => st94.trans) ?_
    show OwnGoW p e below s Z own_EL _ _ _ T94 (mkF m 211 _ [(.ref b81)])
    exact OwnGoW.ret (s := s) (vm0 := s.vm) X94 hS_ hk_ rfl hZ (own_hEL hw) CR hx hret hlk rfl (Or.inr (Or.inr (Or.inr (Or.inr ⟨rfl, rfl, rfl⟩)))) (hb hby d10_211) (by show Qmk Z (5 : Int32) a ka c0 c1 c2 c3 c4 c5 c6 c7 c8 c9 zc h0 n0 _ T94.heap _; exact ⟨b81, t94, kb94, [c0.toInt8.toInt32, c1.toInt8.toInt32, c2.toInt8.toInt32, c3.toInt8.toInt32, c4.toInt8.toInt32], rfl, N94, Kp, E_b81, Fc_b81, Fv_b81, V94, (by show 5 < 2 ^ 31; decide)⟩) (by decide) (by decide)
  · show OwnGoW p e below s Z own_EL _ _ _ s₁ (mkF m 1 _ [(.int (6 : Int32))])
    clear hn hn'
    refine .tswIn (pc := 1) X0 hx 212 (hb hby d10_1) own_ts10_1_6.1 own_ts10_1_6.2 (by decide) (by decide) ?_
    obtain ⟨T95, h95, X95, e95, E95, A95, D95, -, st95⟩ := newO X0 hx hZ hown (W_ hw 57 rfl) (W_ hw 2 rfl) (W_ hw 1 rfl) e0 (g := (mkF m 212 #[.val (.int (6 : Int32)), .val (.ref a)] [])) rfl (hb hby d10_212) (by decide) (by decide)
    obtain ⟨b95, g95⟩ : ∃ z, z = h0.size := ⟨_, rfl⟩
    rw [← g95] at A95 D95 st95
    have ne_a_b95 : a ≠ b95 := Nat.ne_of_lt (Nat.lt_of_lt_of_le V_a.lt (Nat.le_of_eq g95.symm))
    have g_b95 : n0 ≤ b95 := Nat.le_trans Z_ (Nat.le_of_eq g95.symm)
    have sf_b95 : Safe Z own_EL s.vm h0 b95 := Safe.new (Nat.le_of_eq g95.symm)
    have sz_b95 : h0.size ≤ b95 := Nat.le_trans Kp.1 (Nat.le_of_eq g95.symm)
    have V_a := V_a.ext E95
    have O_ := O_.ext E95
    have Kp := Kp.ext E95
    have sf_b95 := Safe.ext E95 CR.1 sf_b95
    have CR := CR.trans (CHr.ext E95 CR.1)
    have hk_ := Nat.le_trans hk_ E95.1
    have Z_ : n0 ≤ h95.size := Nat.le_trans Z_ E95.1
    have E_b95 := A95
    have F_value_b95 : Fld Z h95 b95 "java/lang/String" "value" "[B" .null := D95 (Or.inr (W_ hw 4 rfl)) (ty := (.array .byte)) (by decide)
    have F_coder_b95 : Fld Z h95 b95 "java/lang/String" "coder" "B" (.int (0 : Int32)) := D95 (Or.inr (W_ hw 5 rfl)) (ty := .byte) (by decide)
    refine .st st95 ?_
    show OwnGoW p e below s Z own_EL _ _ _ T95 (mkF m 215 _ [(.ref b95)])
    refine .dup X95 hx (hb hby d10_215) rfl ?_
    refine .bipush X95 hx (hb hby d10_216) own_kb6 ?_
    obtain ⟨T96, h96, k96, X96, e96, E96, A96, Ex96, st96⟩ := newPE X95 hx hZ (W_ hw 23 rfl) e95 (g := (mkF m 218 #[.val (.int (6 : Int32)), .val (.ref a)] [(.int (6 : Int32)), (.ref b95), (.ref b95)])) rfl (hb hby d10_218) rfl (by decide) (cap := 6) (by decide) (by decide) (by decide) (by decide) (ad := "[C") (by decide)
    obtain ⟨b96, g96⟩ : ∃ z, z = h95.size := ⟨_, rfl⟩
    rw [← g96] at A96 Ex96 st96
    have ne_a_b96 : a ≠ b96 := Nat.ne_of_lt (Nat.lt_of_lt_of_le V_a.lt (Nat.le_of_eq g96.symm))
    have ne_b95_b96 : b95 ≠ b96 := Nat.ne_of_lt (Nat.lt_of_lt_of_le E_b95.lt (Nat.le_of_eq g96.symm))
    have g_b96 : n0 ≤ b96 := Nat.le_trans Z_ (Nat.le_of_eq g96.symm)
    have sf_b96 : Safe Z own_EL s.vm h95 b96 := Safe.new (Nat.le_of_eq g96.symm)
    have sz_b96 : h0.size ≤ b96 := Nat.le_trans Kp.1 (Nat.le_of_eq g96.symm)
    have V_a := V_a.ext E96
    have E_b95 := E_b95.ext E96
    have F_value_b95 := F_value_b95.ext E96
    have F_coder_b95 := F_coder_b95.ext E96
    have O_ := O_.ext E96
    have Kp := Kp.ext E96
    have sf_b95 := Safe.ext E96 CR.1 sf_b95
    have sf_b96 := Safe.ext E96 CR.1 sf_b96
    have CR := CR.trans (CHr.ext E96 CR.1)
    have hk_ := Nat.le_trans hk_ E96.1
    have Z_ : n0 ≤ h96.size := Nat.le_trans Z_ E96.1
    have V_b96 : Arv Z h96 b96 k96 .char (6 : Int32) [(.int (0 : Int32)), (.int (0 : Int32)), (.int (0 : Int32)), (.int (0 : Int32)), (.int (0 : Int32)), (.int (0 : Int32))] (.int (0 : Int32)) := (Arv.new A96 (by decide)).pad (pad_rep [] (.int (0 : Int32)) 6)
    have E_b96 := Ex96
    refine .st st96 ?_
    show OwnGoW p e below s Z own_EL _ _ _ T96 (mkF m 220 _ [(.ref b96), (.ref b95), (.ref b95)])
    refine .dup X96 hx (hb hby d10_220) rfl ?_
    refine .iconst X96 hx (hb hby d10_221) own_ki0 ?_
    refine .aloadN X96 hx (hb hby d10_222) rfl rfl ?_
    refine .iconst X96 hx (hb hby d10_223) own_ki0 ?_
    obtain ⟨cl97, Ar97, -, S97, -, H97, -⟩ := id V_a
    have hin97 : ¬ ((0 : Int32) < 0 ∨ cl97.slots.size ≤ ((0 : Int32)).toNatClampNeg) := inb_of S97 ⟨by decide, by decide⟩
    refine .st (fun _ => X96.caload hx (j := (0 : Int32)) (v := (.int c0)) (by first | exact Ar97.1 | (rw [e96]; exact Ar97.1)) (State.isArrayOf_alike hZ.alike Ar97.2.1) Ar97.2.2 hin97 (H97.at hin97 rfl) (g := (mkF m 224 #[.val (.int (6 : Int32)), .val (.ref a)] [(.int (0 : Int32)), (.ref a), (.int (0 : Int32)), (.ref b96), (.ref b96), (.ref b95), (.ref b95)])) rfl rfl (hb hby d10_224) _) ?_
    show OwnGoW p e below s Z own_EL _ _ _ T96 (mkF m 225 _ [(.int c0), (.int (0 : Int32)), (.ref b96), (.ref b96), (.ref b95), (.ref b95)])
    obtain ⟨cl98, Ar98, q98, S98, N98, H98, G98⟩ := id V_b96
    have hin98 : ¬ ((0 : Int32) < 0 ∨ cl98.slots.size ≤ ((0 : Int32)).toNatClampNeg) := inb_of S98 ⟨by decide, by decide⟩
    obtain ⟨T98, h98, X98, e98, W98, st98⟩ := stC X96 hx hZ e96 Ar98 (j := (0 : Int32)) hin98 (g := (mkF m 225 #[.val (.int (6 : Int32)), .val (.ref a)] [(.int c0), (.int (0 : Int32)), (.ref b96), (.ref b96), (.ref b95), (.ref b95)])) rfl rfl (hb hby d10_225)
    have V_b96 : Arv Z h98 b96 k96 .char (6 : Int32) [(.int (nar .char c0)), (.int (0 : Int32)), (.int (0 : Int32)), (.int (0 : Int32)), (.int (0 : Int32)), (.int (0 : Int32))] (.int (0 : Int32)) := Arv.set Ar98 q98 S98 N98 H98 G98 (fits_nar_char _) W98 0 rfl (Nat.le_of_ble_eq_true rfl)
    rw [show nar .char c0 = c0 from (own_lnc hp_c0)] at V_b96
    have V_a := V_a.other W98 ne_a_b96
    have E_b95 := E_b95.wr W98
    have F_value_b95 := F_value_b95.other W98 (Or.inl ne_b95_b96)
    have F_coder_b95 := F_coder_b95.other W98 (Or.inl ne_b95_b96)
    have E_b96 := E_b96.wr W98
    have O_ := O_.wr W98 g_b96
    have Kp := Kp.wr W98 (Or.inr sz_b96)
    have sf_ := sf_b96
    have CR0 := CR.1
    have CR := CR.trans (CHr.wr W98 sf_ CR.1)
    have sf_b95 := Safe.wr W98 sf_ CR0 sf_b95
    have sf_b96 := Safe.wr W98 sf_ CR0 sf_b96
    have hk_ := Nat.le_trans hk_ (Nat.le_of_eq W98.size.symm)
    have N98 := Fr.snoc X98 N0 g_b96
    have Z_ : n0 ≤ h98.size := by rw [W98.size]; exact Z_
    refine .st st98 ?_
    show OwnGoW p e below s Z own_EL _ _ _ T98 (mkF m 226 _ [(.ref b96), (.ref b95), (.ref b95)])
    refine .dup X98 hx (hb hby d10_226) rfl ?_
    refine .iconst X98 hx (hb hby d10_227) own_ki1 ?_
    refine .aloadN X98 hx (hb hby d10_228) rfl rfl ?_
    refine .iconst X98 hx (hb hby d10_229) own_ki1 ?_
    obtain ⟨cl99, Ar99, -, S99, -, H99, -⟩ := id V_a
    have hin99 : ¬ ((1 : Int32) < 0 ∨ cl99.slots.size ≤ ((1 : Int32)).toNatClampNeg) := inb_of S99 ⟨by decide, by decide⟩
    refine .st (fun _ => X98.caload hx (j := (1 : Int32)) (v := (.int c1)) (by first | exact Ar99.1 | (rw [e98]; exact Ar99.1)) (State.isArrayOf_alike hZ.alike Ar99.2.1) Ar99.2.2 hin99 (H99.at hin99 rfl) (g := (mkF m 230 #[.val (.int (6 : Int32)), .val (.ref a)] [(.int (1 : Int32)), (.ref a), (.int (1 : Int32)), (.ref b96), (.ref b96), (.ref b95), (.ref b95)])) rfl rfl (hb hby d10_230) _) ?_
    show OwnGoW p e below s Z own_EL _ _ _ T98 (mkF m 231 _ [(.int c1), (.int (1 : Int32)), (.ref b96), (.ref b96), (.ref b95), (.ref b95)])
    obtain ⟨cl100, Ar100, q100, S100, N100, H100, G100⟩ := id V_b96
    have hin100 : ¬ ((1 : Int32) < 0 ∨ cl100.slots.size ≤ ((1 : Int32)).toNatClampNeg) := inb_of S100 ⟨by decide, by decide⟩
    obtain ⟨T100, h100, X100, e100, W100, st100⟩ := stC X98 hx hZ e98 Ar100 (j := (1 : Int32)) hin100 (g := (mkF m 231 #[.val (.int (6 : Int32)), .val (.ref a)] [(.int c1), (.int (1 : Int32)), (.ref b96), (.ref b96), (.ref b95), (.ref b95)])) rfl rfl (hb hby d10_231)
    have V_b96 : Arv Z h100 b96 k96 .char (6 : Int32) [(.int c0), (.int (nar .char c1)), (.int (0 : Int32)), (.int (0 : Int32)), (.int (0 : Int32)), (.int (0 : Int32))] (.int (0 : Int32)) := Arv.set Ar100 q100 S100 N100 H100 G100 (fits_nar_char _) W100 1 rfl (Nat.le_of_ble_eq_true rfl)
    rw [show nar .char c1 = c1 from (own_lnc hp_c1)] at V_b96
    have V_a := V_a.other W100 ne_a_b96
    have E_b95 := E_b95.wr W100
    have F_value_b95 := F_value_b95.other W100 (Or.inl ne_b95_b96)
    have F_coder_b95 := F_coder_b95.other W100 (Or.inl ne_b95_b96)
    have E_b96 := E_b96.wr W100
    have O_ := O_.wr W100 g_b96
    have Kp := Kp.wr W100 (Or.inr sz_b96)
    have sf_ := sf_b96
    have CR0 := CR.1
    have CR := CR.trans (CHr.wr W100 sf_ CR.1)
    have sf_b95 := Safe.wr W100 sf_ CR0 sf_b95
    have sf_b96 := Safe.wr W100 sf_ CR0 sf_b96
    have hk_ := Nat.le_trans hk_ (Nat.le_of_eq W100.size.symm)
    have N100 := Fr.snoc X100 N98 g_b96
    have Z_ : n0 ≤ h100.size := by rw [W100.size]; exact Z_
    refine .st st100 ?_
    show OwnGoW p e below s Z own_EL _ _ _ T100 (mkF m 232 _ [(.ref b96), (.ref b95), (.ref b95)])
    refine .dup X100 hx (hb hby d10_232) rfl ?_
    refine .iconst X100 hx (hb hby d10_233) own_ki2 ?_
    refine .aloadN X100 hx (hb hby d10_234) rfl rfl ?_
    refine .iconst X100 hx (hb hby d10_235) own_ki2 ?_
    obtain ⟨cl101, Ar101, -, S101, -, H101, -⟩ := id V_a
    have hin101 : ¬ ((2 : Int32) < 0 ∨ cl101.slots.size ≤ ((2 : Int32)).toNatClampNeg) := inb_of S101 ⟨by decide, by decide⟩
    refine .st (fun _ => X100.caload hx (j := (2 : Int32)) (v := (.int c2)) (by first | exact Ar101.1 | (rw [e100]; exact Ar101.1)) (State.isArrayOf_alike hZ.alike Ar101.2.1) Ar101.2.2 hin101 (H101.at hin101 rfl) (g := (mkF m 236 #[.val (.int (6 : Int32)), .val (.ref a)] [(.int (2 : Int32)), (.ref a), (.int (2 : Int32)), (.ref b96), (.ref b96), (.ref b95), (.ref b95)])) rfl rfl (hb hby d10_236) _) ?_
    show OwnGoW p e below s Z own_EL _ _ _ T100 (mkF m 237 _ [(.int c2), (.int (2 : Int32)), (.ref b96), (.ref b96), (.ref b95), (.ref b95)])
    obtain ⟨cl102, Ar102, q102, S102, N102, H102, G102⟩ := id V_b96
    have hin102 : ¬ ((2 : Int32) < 0 ∨ cl102.slots.size ≤ ((2 : Int32)).toNatClampNeg) := inb_of S102 ⟨by decide, by decide⟩
    obtain ⟨T102, h102, X102, e102, W102, st102⟩ := stC X100 hx hZ e100 Ar102 (j := (2 : Int32)) hin102 (g := (mkF m 237 #[.val (.int (6 : Int32)), .val (.ref a)] [(.int c2), (.int (2 : Int32)), (.ref b96), (.ref b96), (.ref b95), (.ref b95)])) rfl rfl (hb hby d10_237)
    have V_b96 : Arv Z h102 b96 k96 .char (6 : Int32) [(.int c0), (.int c1), (.int (nar .char c2)), (.int (0 : Int32)), (.int (0 : Int32)), (.int (0 : Int32))] (.int (0 : Int32)) := Arv.set Ar102 q102 S102 N102 H102 G102 (fits_nar_char _) W102 2 rfl (Nat.le_of_ble_eq_true rfl)
    rw [show nar .char c2 = c2 from (own_lnc hp_c2)] at V_b96
    have V_a := V_a.other W102 ne_a_b96
    have E_b95 := E_b95.wr W102
    have F_value_b95 := F_value_b95.other W102 (Or.inl ne_b95_b96)
    have F_coder_b95 := F_coder_b95.other W102 (Or.inl ne_b95_b96)
    have E_b96 := E_b96.wr W102
    have O_ := O_.wr W102 g_b96
    have Kp := Kp.wr W102 (Or.inr sz_b96)
    have sf_ := sf_b96
    have CR0 := CR.1
    have CR := CR.trans (CHr.wr W102 sf_ CR.1)
    have sf_b95 := Safe.wr W102 sf_ CR0 sf_b95
    have sf_b96 := Safe.wr W102 sf_ CR0 sf_b96
    have hk_ := Nat.le_trans hk_ (Nat.le_of_eq W102.size.symm)
    have N102 := Fr.snoc X102 N100 g_b96
    have Z_ : n0 ≤ h102.size := by rw [W102.size]; exact Z_
    refine .st st102 ?_
    show OwnGoW p e below s Z own_EL _ _ _ T102 (mkF m 238 _ [(.ref b96), (.ref b95), (.ref b95)])
    refine .dup X102 hx (hb hby d10_238) rfl ?_
    refine .iconst X102 hx (hb hby d10_239) own_ki3 ?_
    refine .aloadN X102 hx (hb hby d10_240) rfl rfl ?_
    refine .iconst X102 hx (hb hby d10_241) own_ki3 ?_
    obtain ⟨cl103, Ar103, -, S103, -, H103, -⟩ := id V_a
    have hin103 : ¬ ((3 : Int32) < 0 ∨ cl103.slots.size ≤ ((3 : Int32)).toNatClampNeg) := inb_of S103 ⟨by decide, by decide⟩
    refine .st (fun _ => X102.caload hx (j := (3 : Int32)) (v := (.int c3)) (by first | exact Ar103.1 | (rw [e102]; exact Ar103.1)) (State.isArrayOf_alike hZ.alike Ar103.2.1) Ar103.2.2 hin103 (H103.at hin103 rfl) (g := (mkF m 242 #[.val (.int (6 : Int32)), .val (.ref a)] [(.int (3 : Int32)), (.ref a), (.int (3 : Int32)), (.ref b96), (.ref b96), (.ref b95), (.ref b95)])) rfl rfl (hb hby d10_242) _) ?_
    show OwnGoW p e below s Z own_EL _ _ _ T102 (mkF m 243 _ [(.int c3), (.int (3 : Int32)), (.ref b96), (.ref b96), (.ref b95), (.ref b95)])
    obtain ⟨cl104, Ar104, q104, S104, N104, H104, G104⟩ := id V_b96
    have hin104 : ¬ ((3 : Int32) < 0 ∨ cl104.slots.size ≤ ((3 : Int32)).toNatClampNeg) := inb_of S104 ⟨by decide, by decide⟩
    obtain ⟨T104, h104, X104, e104, W104, st104⟩ := stC X102 hx hZ e102 Ar104 (j := (3 : Int32)) hin104 (g := (mkF m 243 #[.val (.int (6 : Int32)), .val (.ref a)] [(.int c3), (.int (3 : Int32)), (.ref b96), (.ref b96), (.ref b95), (.ref b95)])) rfl rfl (hb hby d10_243)
    have V_b96 : Arv Z h104 b96 k96 .char (6 : Int32) [(.int c0), (.int c1), (.int c2), (.int (nar .char c3)), (.int (0 : Int32)), (.int (0 : Int32))] (.int (0 : Int32)) := Arv.set Ar104 q104 S104 N104 H104 G104 (fits_nar_char _) W104 3 rfl (Nat.le_of_ble_eq_true rfl)
    rw [show nar .char c3 = c3 from (own_lnc hp_c3)] at V_b96
    have V_a := V_a.other W104 ne_a_b96
    have E_b95 := E_b95.wr W104
    have F_value_b95 := F_value_b95.other W104 (Or.inl ne_b95_b96)
    have F_coder_b95 := F_coder_b95.other W104 (Or.inl ne_b95_b96)
    have E_b96 := E_b96.wr W104
    have O_ := O_.wr W104 g_b96
    have Kp := Kp.wr W104 (Or.inr sz_b96)
    have sf_ := sf_b96
    have CR0 := CR.1
    have CR := CR.trans (CHr.wr W104 sf_ CR.1)
    have sf_b95 := Safe.wr W104 sf_ CR0 sf_b95
    have sf_b96 := Safe.wr W104 sf_ CR0 sf_b96
    have hk_ := Nat.le_trans hk_ (Nat.le_of_eq W104.size.symm)
    have N104 := Fr.snoc X104 N102 g_b96
    have Z_ : n0 ≤ h104.size := by rw [W104.size]; exact Z_
    refine .st st104 ?_
    show OwnGoW p e below s Z own_EL _ _ _ T104 (mkF m 244 _ [(.ref b96), (.ref b95), (.ref b95)])
    refine .dup X104 hx (hb hby d10_244) rfl ?_
    refine .iconst X104 hx (hb hby d10_245) own_ki4 ?_
    refine .aloadN X104 hx (hb hby d10_246) rfl rfl ?_
    refine .iconst X104 hx (hb hby d10_247) own_ki4 ?_
    obtain ⟨cl105, Ar105, -, S105, -, H105, -⟩ := id V_a
    have hin105 : ¬ ((4 : Int32) < 0 ∨ cl105.slots.size ≤ ((4 : Int32)).toNatClampNeg) := inb_of S105 ⟨by decide, by decide⟩
    refine .st (fun _ => X104.caload hx (j := (4 : Int32)) (v := (.int c4)) (by first | exact Ar105.1 | (rw [e104]; exact Ar105.1)) (State.isArrayOf_alike hZ.alike Ar105.2.1) Ar105.2.2 hin105 (H105.at hin105 rfl) (g := (mkF m 248 #[.val (.int (6 : Int32)), .val (.ref a)] [(.int (4 : Int32)), (.ref a), (.int (4 : Int32)), (.ref b96), (.ref b96), (.ref b95), (.ref b95)])) rfl rfl (hb hby d10_248) _) ?_
    show OwnGoW p e below s Z own_EL _ _ _ T104 (mkF m 249 _ [(.int c4), (.int (4 : Int32)), (.ref b96), (.ref b96), (.ref b95), (.ref b95)])
    obtain ⟨cl106, Ar106, q106, S106, N106, H106, G106⟩ := id V_b96
    have hin106 : ¬ ((4 : Int32) < 0 ∨ cl106.slots.size ≤ ((4 : Int32)).toNatClampNeg) := inb_of S106 ⟨by decide, by decide⟩
    obtain ⟨T106, h106, X106, e106, W106, st106⟩ := stC X104 hx hZ e104 Ar106 (j := (4 : Int32)) hin106 (g := (mkF m 249 #[.val (.int (6 : Int32)), .val (.ref a)] [(.int c4), (.int (4 : Int32)), (.ref b96), (.ref b96), (.ref b95), (.ref b95)])) rfl rfl (hb hby d10_249)
    have V_b96 : Arv Z h106 b96 k96 .char (6 : Int32) [(.int c0), (.int c1), (.int c2), (.int c3), (.int (nar .char c4)), (.int (0 : Int32))] (.int (0 : Int32)) := Arv.set Ar106 q106 S106 N106 H106 G106 (fits_nar_char _) W106 4 rfl (Nat.le_of_ble_eq_true rfl)
    rw [show nar .char c4 = c4 from (own_lnc hp_c4)] at V_b96
    have V_a := V_a.other W106 ne_a_b96
    have E_b95 := E_b95.wr W106
    have F_value_b95 := F_value_b95.other W106 (Or.inl ne_b95_b96)
    have F_coder_b95 := F_coder_b95.other W106 (Or.inl ne_b95_b96)
    have E_b96 := E_b96.wr W106
    have O_ := O_.wr W106 g_b96
    have Kp := Kp.wr W106 (Or.inr sz_b96)
    have sf_ := sf_b96
    have CR0 := CR.1
    have CR := CR.trans (CHr.wr W106 sf_ CR.1)
    have sf_b95 := Safe.wr W106 sf_ CR0 sf_b95
    have sf_b96 := Safe.wr W106 sf_ CR0 sf_b96
    have hk_ := Nat.le_trans hk_ (Nat.le_of_eq W106.size.symm)
    have N106 := Fr.snoc X106 N104 g_b96
    have Z_ : n0 ≤ h106.size := by rw [W106.size]; exact Z_
    refine .st st106 ?_
    show OwnGoW p e below s Z own_EL _ _ _ T106 (mkF m 250 _ [(.ref b96), (.ref b95), (.ref b95)])
    refine .dup X106 hx (hb hby d10_250) rfl ?_
    refine .iconst X106 hx (hb hby d10_251) own_ki5 ?_
    refine .aloadN X106 hx (hb hby d10_252) rfl rfl ?_
    refine .iconst X106 hx (hb hby d10_253) own_ki5 ?_
    obtain ⟨cl107, Ar107, -, S107, -, H107, -⟩ := id V_a
    have hin107 : ¬ ((5 : Int32) < 0 ∨ cl107.slots.size ≤ ((5 : Int32)).toNatClampNeg) := inb_of S107 ⟨by decide, by decide⟩
    refine .st (fun _ => X106.caload hx (j := (5 : Int32)) (v := (.int c5)) (by first | exact Ar107.1 | (rw [e106]; exact Ar107.1)) (State.isArrayOf_alike hZ.alike Ar107.2.1) Ar107.2.2 hin107 (H107.at hin107 rfl) (g := (mkF m 254 #[.val (.int (6 : Int32)), .val (.ref a)] [(.int (5 : Int32)), (.ref a), (.int (5 : Int32)), (.ref b96), (.ref b96), (.ref b95), (.ref b95)])) rfl rfl (hb hby d10_254) _) ?_
    show OwnGoW p e below s Z own_EL _ _ _ T106 (mkF m 255 _ [(.int c5), (.int (5 : Int32)), (.ref b96), (.ref b96), (.ref b95), (.ref b95)])
    obtain ⟨cl108, Ar108, q108, S108, N108, H108, G108⟩ := id V_b96
    have hin108 : ¬ ((5 : Int32) < 0 ∨ cl108.slots.size ≤ ((5 : Int32)).toNatClampNeg) := inb_of S108 ⟨by decide, by decide⟩
    obtain ⟨T108, h108, X108, e108, W108, st108⟩ := stC X106 hx hZ e106 Ar108 (j := (5 : Int32)) hin108 (g := (mkF m 255 #[.val (.int (6 : Int32)), .val (.ref a)] [(.int c5), (.int (5 : Int32)), (.ref b96), (.ref b96), (.ref b95), (.ref b95)])) rfl rfl (hb hby d10_255)
    have V_b96 : Arv Z h108 b96 k96 .char (6 : Int32) [(.int c0), (.int c1), (.int c2), (.int c3), (.int c4), (.int (nar .char c5))] (.int (0 : Int32)) := Arv.set Ar108 q108 S108 N108 H108 G108 (fits_nar_char _) W108 5 rfl (Nat.le_of_ble_eq_true rfl)
    rw [show nar .char c5 = c5 from (own_lnc hp_c5)] at V_b96
    have V_a := V_a.other W108 ne_a_b96
    have E_b95 := E_b95.wr W108
    have F_value_b95 := F_value_b95.other W108 (Or.inl ne_b95_b96)
    have F_coder_b95 := F_coder_b95.other W108 (Or.inl ne_b95_b96)
    have E_b96 := E_b96.wr W108
    have O_ := O_.wr W108 g_b96
    have Kp := Kp.wr W108 (Or.inr sz_b96)
    have sf_ := sf_b96
    have CR0 := CR.1
    have CR := CR.trans (CHr.wr W108 sf_ CR.1)
    have sf_b95 := Safe.wr W108 sf_ CR0 sf_b95
    have sf_b96 := Safe.wr W108 sf_ CR0 sf_b96
    have hk_ := Nat.le_trans hk_ (Nat.le_of_eq W108.size.symm)
    have N108 := Fr.snoc X108 N106 g_b96
    have Z_ : n0 ≤ h108.size := by rw [W108.size]; exact Z_
    refine .st st108 ?_
    show OwnGoW p e below s Z own_EL _ _ _ T108 (mkF m 256 _ [(.ref b96), (.ref b95), (.ref b95)])
    have hp109 : ∀ c ∈ ([c0, c1, c2, c3, c4, c5] : List Int32), ¬ c < 0 ∧ ¬ (255 : Int32) < c := by
      intro c hc
      simp only [List.mem_cons, List.not_mem_nil, or_false] at hc
      rcases hc with rfl | rfl | rfl | rfl | rfl | rfl
      · exact hp_c0
      · exact hp_c1
      · exact hp_c2
      · exact hp_c3
      · exact hp_c4
      · exact hp_c5
    obtain ⟨_, _, ⟨T110, L110, k110, n110⟩, -, X110, ⟨Lc110, hQ110, l110, y110, z110⟩, st110⟩ := X108.specialBack hx (y := (⟨"java/lang/String", "<init>", "([C)V"⟩ : MethodName)) rfl hown (mvT hZ (W_ hw 58 rfl)) (mvT hZ (W_ hw 59 rfl)) (mvT hZ (W_ hw 60 rfl)) (by decide) (StrChars.Road.backV (W := 1) hZ (own_ws hw) (kI := 4) (W_ hw 2 rfl) (cs := ([c0, c1, c2, c3, c4, c5] : List Int32)) (bs := ([c0, c1, c2, c3, c4, c5] : List Int32).map (fun c => c.toInt8.toInt32)) (n := 6) g_b95 Z_ E_b95 F_value_b95 F_coder_b95 V_b96 (S_CS.ext O_.2) P_CS rfl rfl (by decide) (by decide) hp109 rfl (by decide) (by decide)) (g := (mkF m 256 #[.val (.int (6 : Int32)), .val (.ref a)] [(.ref b96), (.ref b95), (.ref b95)])) rfl (by rw [hml]; rfl) (Steps.refl _) (a := b95) (argsL := [(.ref b96)]) (rest := [(.ref b95)]) (lenOf pd_10 rfl) rfl (Nat.le_of_eq rfl) (hb hby d10_256) (fun _ _ => ⟨rfl, e108, (by decide : 2 + 1 ≤ _), (by decide : 10 + 6 ≤ _)⟩)
    dsimp only [Pt.U, Pt.locs, Pt.cells, Pt.slots] at X110 l110 y110 z110 st110 hQ110
    subst l110 y110 z110
    obtain ⟨rfl, N110q, K110, Ex110, Fc_b95, t110, kb110, gt110, zz110, nt110, Fv_b95, V110⟩ := hQ110
    have N110 := Fr.app N108 N110q
    have zt110 : h108.size ≤ t110 := zz110
    have ne_a_t110 : a ≠ t110 := Nat.ne_of_lt (Nat.lt_of_lt_of_le V_a.lt zt110)
    have ne_b95_t110 : b95 ≠ t110 := Nat.ne_of_lt (Nat.lt_of_lt_of_le E_b95.lt zt110)
    have ne_b96_t110 : b96 ≠ t110 := Nat.ne_of_lt (Nat.lt_of_lt_of_le V_b96.lt zt110)
    have g_t110 : n0 ≤ t110 := Nat.le_trans Z_ zt110
    have sz_t110 : h0.size ≤ t110 := Nat.le_trans Kp.1 zt110
    have V110 : Arv Z T110.heap t110 kb110 .byte (6 : Int32) [(.int c0.toInt8.toInt32), (.int c1.toInt8.toInt32), (.int c2.toInt8.toInt32), (.int c3.toInt8.toInt32), (.int c4.toInt8.toInt32), (.int c5.toInt8.toInt32)] (.int (0 : Int32)) := V110
    have Z_ : n0 ≤ T110.heap.size := Nat.le_trans Z_ K110.1
    have V_a := V_a.keep K110 (ninS ne_a_b95 nin0)
    have E_b95 := E_b95.keep K110
    have V_b96 := V_b96.keep K110 (ninS (Ne.symm ne_b95_b96) nin0)
    have E_b96 := E_b96.keep K110
    have O_ := O_.keep K110 (allS g_b95 all0)
    have Kp := Kp.trans K110 (allS (Or.inr sz_b95) all0)
    have sf_b96' := Safe.keep K110 (sfS sf_b95 sf0) CR.1 sf_b96
    have sf_b95' := Safe.keep K110 (sfS sf_b95 sf0) CR.1 sf_b95
    have CR := CR.trans (CHr.keep K110 (sfS sf_b95 sf0) CR.1)
    have hk_ := Nat.le_trans hk_ K110.1
    have sf_b95 := sf_b95'
    have sf_b96 := sf_b96'
    refine .st (fun _ => st110.trans) ?_
    show OwnGoW p e below s Z own_EL _ _ _ T110 (mkF m 259 _ [(.ref b95)])
    exact OwnGoW.ret (s := s) (vm0 := s.vm) X110 hS_ hk_ rfl hZ (own_hEL hw) CR hx hret hlk rfl (Or.inr (Or.inr (Or.inr (Or.inr ⟨rfl, rfl, rfl⟩)))) (hb hby d10_259) (by show Qmk Z (6 : Int32) a ka c0 c1 c2 c3 c4 c5 c6 c7 c8 c9 zc h0 n0 _ T110.heap _; exact ⟨b95, t110, kb110, [c0.toInt8.toInt32, c1.toInt8.toInt32, c2.toInt8.toInt32, c3.toInt8.toInt32, c4.toInt8.toInt32, c5.toInt8.toInt32], rfl, N110, Kp, E_b95, Fc_b95, Fv_b95, V110, (by show 6 < 2 ^ 31; decide)⟩) (by decide) (by decide)
  · show OwnGoW p e below s Z own_EL _ _ _ s₁ (mkF m 1 _ [(.int (7 : Int32))])
    clear hn hn'
    refine .tswIn (pc := 1) X0 hx 260 (hb hby d10_1) own_ts10_1_7.1 own_ts10_1_7.2 (by decide) (by decide) ?_
    obtain ⟨T111, h111, X111, e111, E111, A111, D111, -, st111⟩ := newO X0 hx hZ hown (W_ hw 57 rfl) (W_ hw 2 rfl) (W_ hw 1 rfl) e0 (g := (mkF m 260 #[.val (.int (7 : Int32)), .val (.ref a)] [])) rfl (hb hby d10_260) (by decide) (by decide)
    obtain ⟨b111, g111⟩ : ∃ z, z = h0.size := ⟨_, rfl⟩
    rw [← g111] at A111 D111 st111
    have ne_a_b111 : a ≠ b111 := Nat.ne_of_lt (Nat.lt_of_lt_of_le V_a.lt (Nat.le_of_eq g111.symm))
    have g_b111 : n0 ≤ b111 := Nat.le_trans Z_ (Nat.le_of_eq g111.symm)
    have sf_b111 : Safe Z own_EL s.vm h0 b111 := Safe.new (Nat.le_of_eq g111.symm)
    have sz_b111 : h0.size ≤ b111 := Nat.le_trans Kp.1 (Nat.le_of_eq g111.symm)
    have V_a := V_a.ext E111
    have O_ := O_.ext E111
    have Kp := Kp.ext E111
    have sf_b111 := Safe.ext E111 CR.1 sf_b111
    have CR := CR.trans (CHr.ext E111 CR.1)
    have hk_ := Nat.le_trans hk_ E111.1
    have Z_ : n0 ≤ h111.size := Nat.le_trans Z_ E111.1
    have E_b111 := A111
    have F_value_b111 : Fld Z h111 b111 "java/lang/String" "value" "[B" .null := D111 (Or.inr (W_ hw 4 rfl)) (ty := (.array .byte)) (by decide)
    have F_coder_b111 : Fld Z h111 b111 "java/lang/String" "coder" "B" (.int (0 : Int32)) := D111 (Or.inr (W_ hw 5 rfl)) (ty := .byte) (by decide)
    refine .st st111 ?_
    show OwnGoW p e below s Z own_EL _ _ _ T111 (mkF m 263 _ [(.ref b111)])
    refine .dup X111 hx (hb hby d10_263) rfl ?_
    refine .bipush X111 hx (hb hby d10_264) own_kb7 ?_
    obtain ⟨T112, h112, k112, X112, e112, E112, A112, Ex112, st112⟩ := newPE X111 hx hZ (W_ hw 23 rfl) e111 (g := (mkF m 266 #[.val (.int (7 : Int32)), .val (.ref a)] [(.int (7 : Int32)), (.ref b111), (.ref b111)])) rfl (hb hby d10_266) rfl (by decide) (cap := 7) (by decide) (by decide) (by decide) (by decide) (ad := "[C") (by decide)
    obtain ⟨b112, g112⟩ : ∃ z, z = h111.size := ⟨_, rfl⟩
    rw [← g112] at A112 Ex112 st112
    have ne_a_b112 : a ≠ b112 := Nat.ne_of_lt (Nat.lt_of_lt_of_le V_a.lt (Nat.le_of_eq g112.symm))
    have ne_b111_b112 : b111 ≠ b112 := Nat.ne_of_lt (Nat.lt_of_lt_of_le E_b111.lt (Nat.le_of_eq g112.symm))
    have g_b112 : n0 ≤ b112 := Nat.le_trans Z_ (Nat.le_of_eq g112.symm)
    have sf_b112 : Safe Z own_EL s.vm h111 b112 := Safe.new (Nat.le_of_eq g112.symm)
    have sz_b112 : h0.size ≤ b112 := Nat.le_trans Kp.1 (Nat.le_of_eq g112.symm)
    have V_a := V_a.ext E112
    have E_b111 := E_b111.ext E112
    have F_value_b111 := F_value_b111.ext E112
    have F_coder_b111 := F_coder_b111.ext E112
    have O_ := O_.ext E112
    have Kp := Kp.ext E112
    have sf_b111 := Safe.ext E112 CR.1 sf_b111
    have sf_b112 := Safe.ext E112 CR.1 sf_b112
    have CR := CR.trans (CHr.ext E112 CR.1)
    have hk_ := Nat.le_trans hk_ E112.1
    have Z_ : n0 ≤ h112.size := Nat.le_trans Z_ E112.1
    have V_b112 : Arv Z h112 b112 k112 .char (7 : Int32) [(.int (0 : Int32)), (.int (0 : Int32)), (.int (0 : Int32)), (.int (0 : Int32)), (.int (0 : Int32)), (.int (0 : Int32)), (.int (0 : Int32))] (.int (0 : Int32)) := (Arv.new A112 (by decide)).pad (pad_rep [] (.int (0 : Int32)) 7)
    have E_b112 := Ex112
    refine .st st112 ?_
    show OwnGoW p e below s Z own_EL _ _ _ T112 (mkF m 268 _ [(.ref b112), (.ref b111), (.ref b111)])
    refine .dup X112 hx (hb hby d10_268) rfl ?_
    refine .iconst X112 hx (hb hby d10_269) own_ki0 ?_
    refine .aloadN X112 hx (hb hby d10_270) rfl rfl ?_
    refine .iconst X112 hx (hb hby d10_271) own_ki0 ?_
    obtain ⟨cl113, Ar113, -, S113, -, H113, -⟩ := id V_a
    have hin113 : ¬ ((0 : Int32) < 0 ∨ cl113.slots.size ≤ ((0 : Int32)).toNatClampNeg) := inb_of S113 ⟨by decide, by decide⟩
    refine .st (fun _ => X112.caload hx (j := (0 : Int32)) (v := (.int c0)) (by first | exact Ar113.1 | (rw [e112]; exact Ar113.1)) (State.isArrayOf_alike hZ.alike Ar113.2.1) Ar113.2.2 hin113 (H113.at hin113 rfl) (g := (mkF m 272 #[.val (.int (7 : Int32)), .val (.ref a)] [(.int (0 : Int32)), (.ref a), (.int (0 : Int32)), (.ref b112), (.ref b112), (.ref b111), (.ref b111)])) rfl rfl (hb hby d10_272) _) ?_
    show OwnGoW p e below s Z own_EL _ _ _ T112 (mkF m 273 _ [(.int c0), (.int (0 : Int32)), (.ref b112), (.ref b112), (.ref b111), (.ref b111)])
    obtain ⟨cl114, Ar114, q114, S114, N114, H114, G114⟩ := id V_b112
    have hin114 : ¬ ((0 : Int32) < 0 ∨ cl114.slots.size ≤ ((0 : Int32)).toNatClampNeg) := inb_of S114 ⟨by decide, by decide⟩
    obtain ⟨T114, h114, X114, e114, W114, st114⟩ := stC X112 hx hZ e112 Ar114 (j := (0 : Int32)) hin114 (g := (mkF m 273 #[.val (.int (7 : Int32)), .val (.ref a)] [(.int c0), (.int (0 : Int32)), (.ref b112), (.ref b112), (.ref b111), (.ref b111)])) rfl rfl (hb hby d10_273)
    have V_b112 : Arv Z h114 b112 k112 .char (7 : Int32) [(.int (nar .char c0)), (.int (0 : Int32)), (.int (0 : Int32)), (.int (0 : Int32)), (.int (0 : Int32)), (.int (0 : Int32)), (.int (0 : Int32))] (.int (0 : Int32)) := Arv.set Ar114 q114 S114 N114 H114 G114 (fits_nar_char _) W114 0 rfl (Nat.le_of_ble_eq_true rfl)
    rw [show nar .char c0 = c0 from (own_lnc hp_c0)] at V_b112
    have V_a := V_a.other W114 ne_a_b112
    have E_b111 := E_b111.wr W114
    have F_value_b111 := F_value_b111.other W114 (Or.inl ne_b111_b112)
    have F_coder_b111 := F_coder_b111.other W114 (Or.inl ne_b111_b112)
    have E_b112 := E_b112.wr W114
    have O_ := O_.wr W114 g_b112
    have Kp := Kp.wr W114 (Or.inr sz_b112)
    have sf_ := sf_b112
    have CR0 := CR.1
    have CR := CR.trans (CHr.wr W114 sf_ CR.1)
    have sf_b111 := Safe.wr W114 sf_ CR0 sf_b111
    have sf_b112 := Safe.wr W114 sf_ CR0 sf_b112
    have hk_ := Nat.le_trans hk_ (Nat.le_of_eq W114.size.symm)
    have N114 := Fr.snoc X114 N0 g_b112
    have Z_ : n0 ≤ h114.size := by rw [W114.size]; exact Z_
    refine .st st114 ?_
    show OwnGoW p e below s Z own_EL _ _ _ T114 (mkF m 274 _ [(.ref b112), (.ref b111), (.ref b111)])
    refine .dup X114 hx (hb hby d10_274) rfl ?_
    refine .iconst X114 hx (hb hby d10_275) own_ki1 ?_
    refine .aloadN X114 hx (hb hby d10_276) rfl rfl ?_
    refine .iconst X114 hx (hb hby d10_277) own_ki1 ?_
    obtain ⟨cl115, Ar115, -, S115, -, H115, -⟩ := id V_a
    have hin115 : ¬ ((1 : Int32) < 0 ∨ cl115.slots.size ≤ ((1 : Int32)).toNatClampNeg) := inb_of S115 ⟨by decide, by decide⟩
    refine .st (fun _ => X114.caload hx (j := (1 : Int32)) (v := (.int c1)) (by first | exact Ar115.1 | (rw [e114]; exact Ar115.1)) (State.isArrayOf_alike hZ.alike Ar115.2.1) Ar115.2.2 hin115 (H115.at hin115 rfl) (g := (mkF m 278 #[.val (.int (7 : Int32)), .val (.ref a)] [(.int (1 : Int32)), (.ref a), (.int (1 : Int32)), (.ref b112), (.ref b112), (.ref b111), (.ref b111)])) rfl rfl (hb hby d10_278) _) ?_
    show OwnGoW p e below s Z own_EL _ _ _ T114 (mkF m 279 _ [(.int c1), (.int (1 : Int32)), (.ref b112), (.ref b112), (.ref b111), (.ref b111)])
    obtain ⟨cl116, Ar116, q116, S116, N116, H116, G116⟩ := id V_b112
    have hin116 : ¬ ((1 : Int32) < 0 ∨ cl116.slots.size ≤ ((1 : Int32)).toNatClampNeg) := inb_of S116 ⟨by decide, by decide⟩
    obtain ⟨T116, h116, X116, e116, W116, st116⟩ := stC X114 hx hZ e114 Ar116 (j := (1 : Int32)) hin116 (g := (mkF m 279 #[.val (.int (7 : Int32)), .val (.ref a)] [(.int c1), (.int (1 : Int32)), (.ref b112), (.ref b112), (.ref b111), (.ref b111)])) rfl rfl (hb hby d10_279)
    have V_b112 : Arv Z h116 b112 k112 .char (7 : Int32) [(.int c0), (.int (nar .char c1)), (.int (0 : Int32)), (.int (0 : Int32)), (.int (0 : Int32)), (.int (0 : Int32)), (.int (0 : Int32))] (.int (0 : Int32)) := Arv.set Ar116 q116 S116 N116 H116 G116 (fits_nar_char _) W116 1 rfl (Nat.le_of_ble_eq_true rfl)
    rw [show nar .char c1 = c1 from (own_lnc hp_c1)] at V_b112
    have V_a := V_a.other W116 ne_a_b112
    have E_b111 := E_b111.wr W116
    have F_value_b111 := F_value_b111.other W116 (Or.inl ne_b111_b112)
    have F_coder_b111 := F_coder_b111.other W116 (Or.inl ne_b111_b112)
    have E_b112 := E_b112.wr W116
    have O_ := O_.wr W116 g_b112
    have Kp := Kp.wr W116 (Or.inr sz_b112)
    have sf_ := sf_b112
    have CR0 := CR.1
    have CR := CR.trans (CHr.wr W116 sf_ CR.1)
    have sf_b111 := Safe.wr W116 sf_ CR0 sf_b111
    have sf_b112 := Safe.wr W116 sf_ CR0 sf_b112
    have hk_ := Nat.le_trans hk_ (Nat.le_of_eq W116.size.symm)
    have N116 := Fr.snoc X116 N114 g_b112
    have Z_ : n0 ≤ h116.size := by rw [W116.size]; exact Z_
    refine .st st116 ?_
    show OwnGoW p e below s Z own_EL _ _ _ T116 (mkF m 280 _ [(.ref b112), (.ref b111), (.ref b111)])
    refine .dup X116 hx (hb hby d10_280) rfl ?_
    refine .iconst X116 hx (hb hby d10_281) own_ki2 ?_
    refine .aloadN X116 hx (hb hby d10_282) rfl rfl ?_
    refine .iconst X116 hx (hb hby d10_283) own_ki2 ?_
    obtain ⟨cl117, Ar117, -, S117, -, H117, -⟩ := id V_a
    have hin117 : ¬ ((2 : Int32) < 0 ∨ cl117.slots.size ≤ ((2 : Int32)).toNatClampNeg) := inb_of S117 ⟨by decide, by decide⟩
    refine .st (fun _ => X116.caload hx (j := (2 : Int32)) (v := (.int c2)) (by first | exact Ar117.1 | (rw [e116]; exact Ar117.1)) (State.isArrayOf_alike hZ.alike Ar117.2.1) Ar117.2.2 hin117 (H117.at hin117 rfl) (g := (mkF m 284 #[.val (.int (7 : Int32)), .val (.ref a)] [(.int (2 : Int32)), (.ref a), (.int (2 : Int32)), (.ref b112), (.ref b112), (.ref b111), (.ref b111)])) rfl rfl (hb hby d10_284) _) ?_
    show OwnGoW p e below s Z own_EL _ _ _ T116 (mkF m 285 _ [(.int c2), (.int (2 : Int32)), (.ref b112), (.ref b112), (.ref b111), (.ref b111)])
    obtain ⟨cl118, Ar118, q118, S118, N118, H118, G118⟩ := id V_b112
    have hin118 : ¬ ((2 : Int32) < 0 ∨ cl118.slots.size ≤ ((2 : Int32)).toNatClampNeg) := inb_of S118 ⟨by decide, by decide⟩
    obtain ⟨T118, h118, X118, e118, W118, st118⟩ := stC X116 hx hZ e116 Ar118 (j := (2 : Int32)) hin118 (g := (mkF m 285 #[.val (.int (7 : Int32)), .val (.ref a)] [(.int c2), (.int (2 : Int32)), (.ref b112), (.ref b112), (.ref b111), (.ref b111)])) rfl rfl (hb hby d10_285)
    have V_b112 : Arv Z h118 b112 k112 .char (7 : Int32) [(.int c0), (.int c1), (.int (nar .char c2)), (.int (0 : Int32)), (.int (0 : Int32)), (.int (0 : Int32)), (.int (0 : Int32))] (.int (0 : Int32)) := Arv.set Ar118 q118 S118 N118 H118 G118 (fits_nar_char _) W118 2 rfl (Nat.le_of_ble_eq_true rfl)
    rw [show nar .char c2 = c2 from (own_lnc hp_c2)] at V_b112
    have V_a := V_a.other W118 ne_a_b112
    have E_b111 := E_b111.wr W118
    have F_value_b111 := F_value_b111.other W118 (Or.inl ne_b111_b112)
    have F_coder_b111 := F_coder_b111.other W118 (Or.inl ne_b111_b112)
    have E_b112 := E_b112.wr W118
    have O_ := O_.wr W118 g_b112
    have Kp := Kp.wr W118 (Or.inr sz_b112)
    have sf_ := sf_b112
    have CR0 := CR.1
    have CR := CR.trans (CHr.wr W118 sf_ CR.1)
    have sf_b111 := Safe.wr W118 sf_ CR0 sf_b111
    have sf_b112 := Safe.wr W118 sf_ CR0 sf_b112
    have hk_ := Nat.le_trans hk_ (Nat.le_of_eq W118.size.symm)
    have N118 := Fr.snoc X118 N116 g_b112
    have Z_ : n0 ≤ h118.size := by rw [W118.size]; exact Z_
    refine .st st118 ?_
    show OwnGoW p e below s Z own_EL _ _ _ T118 (mkF m 286 _ [(.ref b112), (.ref b111), (.ref b111)])
    refine .dup X118 hx (hb hby d10_286) rfl ?_
    refine .iconst X118 hx (hb hby d10_287) own_ki3 ?_
    refine .aloadN X118 hx (hb hby d10_288) rfl rfl ?_
    refine .iconst X118 hx (hb hby d10_289) own_ki3 ?_
    obtain ⟨cl119, Ar119, -, S119, -, H119, -⟩ := id V_a
    have hin119 : ¬ ((3 : Int32) < 0 ∨ cl119.slots.size ≤ ((3 : Int32)).toNatClampNeg) := inb_of S119 ⟨by decide, by decide⟩
    refine .st (fun _ => X118.caload hx (j := (3 : Int32)) (v := (.int c3)) (by first | exact Ar119.1 | (rw [e118]; exact Ar119.1)) (State.isArrayOf_alike hZ.alike Ar119.2.1) Ar119.2.2 hin119 (H119.at hin119 rfl) (g := (mkF m 290 #[.val (.int (7 : Int32)), .val (.ref a)] [(.int (3 : Int32)), (.ref a), (.int (3 : Int32)), (.ref b112), (.ref b112), (.ref b111), (.ref b111)])) rfl rfl (hb hby d10_290) _) ?_
    show OwnGoW p e below s Z own_EL _ _ _ T118 (mkF m 291 _ [(.int c3), (.int (3 : Int32)), (.ref b112), (.ref b112), (.ref b111), (.ref b111)])
    obtain ⟨cl120, Ar120, q120, S120, N120, H120, G120⟩ := id V_b112
    have hin120 : ¬ ((3 : Int32) < 0 ∨ cl120.slots.size ≤ ((3 : Int32)).toNatClampNeg) := inb_of S120 ⟨by decide, by decide⟩
    obtain ⟨T120, h120, X120, e120, W120, st120⟩ := stC X118 hx hZ e118 Ar120 (j := (3 : Int32)) hin120 (g := (mkF m 291 #[.val (.int (7 : Int32)), .val (.ref a)] [(.int c3), (.int (3 : Int32)), (.ref b112), (.ref b112), (.ref b111), (.ref b111)])) rfl rfl (hb hby d10_291)
    have V_b112 : Arv Z h120 b112 k112 .char (7 : Int32) [(.int c0), (.int c1), (.int c2), (.int (nar .char c3)), (.int (0 : Int32)), (.int (0 : Int32)), (.int (0 : Int32))] (.int (0 : Int32)) := Arv.set Ar120 q120 S120 N120 H120 G120 (fits_nar_char _) W120 3 rfl (Nat.le_of_ble_eq_true rfl)
    rw [show nar .char c3 = c3 from (own_lnc hp_c3)] at V_b112
    have V_a := V_a.other W120 ne_a_b112
    have E_b111 := E_b111.wr W120
    have F_value_b111 := F_value_b111.other W120 (Or.inl ne_b111_b112)
    have F_coder_b111 := F_coder_b111.other W120 (Or.inl ne_b111_b112)
    have E_b112 := E_b112.wr W120
    have O_ := O_.wr W120 g_b112
    have Kp := Kp.wr W120 (Or.inr sz_b112)
    have sf_ := sf_b112
    have CR0 := CR.1
    have CR := CR.trans (CHr.wr W120 sf_ CR.1)
    have sf_b111 := Safe.wr W120 sf_ CR0 sf_b111
    have sf_b112 := Safe.wr W120 sf_ CR0 sf_b112
    have hk_ := Nat.le_trans hk_ (Nat.le_of_eq W120.size.symm)
    have N120 := Fr.snoc X120 N118 g_b112
    have Z_ : n0 ≤ h120.size := by rw [W120.size]; exact Z_
    refine .st st120 ?_
    show OwnGoW p e below s Z own_EL _ _ _ T120 (mkF m 292 _ [(.ref b112), (.ref b111), (.ref b111)])
    refine .dup X120 hx (hb hby d10_292) rfl ?_
    refine .iconst X120 hx (hb hby d10_293) own_ki4 ?_
    refine .aloadN X120 hx (hb hby d10_294) rfl rfl ?_
    refine .iconst X120 hx (hb hby d10_295) own_ki4 ?_
    obtain ⟨cl121, Ar121, -, S121, -, H121, -⟩ := id V_a
    have hin121 : ¬ ((4 : Int32) < 0 ∨ cl121.slots.size ≤ ((4 : Int32)).toNatClampNeg) := inb_of S121 ⟨by decide, by decide⟩
    refine .st (fun _ => X120.caload hx (j := (4 : Int32)) (v := (.int c4)) (by first | exact Ar121.1 | (rw [e120]; exact Ar121.1)) (State.isArrayOf_alike hZ.alike Ar121.2.1) Ar121.2.2 hin121 (H121.at hin121 rfl) (g := (mkF m 296 #[.val (.int (7 : Int32)), .val (.ref a)] [(.int (4 : Int32)), (.ref a), (.int (4 : Int32)), (.ref b112), (.ref b112), (.ref b111), (.ref b111)])) rfl rfl (hb hby d10_296) _) ?_
    show OwnGoW p e below s Z own_EL _ _ _ T120 (mkF m 297 _ [(.int c4), (.int (4 : Int32)), (.ref b112), (.ref b112), (.ref b111), (.ref b111)])
    obtain ⟨cl122, Ar122, q122, S122, N122, H122, G122⟩ := id V_b112
    have hin122 : ¬ ((4 : Int32) < 0 ∨ cl122.slots.size ≤ ((4 : Int32)).toNatClampNeg) := inb_of S122 ⟨by decide, by decide⟩
    obtain ⟨T122, h122, X122, e122, W122, st122⟩ := stC X120 hx hZ e120 Ar122 (j := (4 : Int32)) hin122 (g := (mkF m 297 #[.val (.int (7 : Int32)), .val (.ref a)] [(.int c4), (.int (4 : Int32)), (.ref b112), (.ref b112), (.ref b111), (.ref b111)])) rfl rfl (hb hby d10_297)
    have V_b112 : Arv Z h122 b112 k112 .char (7 : Int32) [(.int c0), (.int c1), (.int c2), (.int c3), (.int (nar .char c4)), (.int (0 : Int32)), (.int (0 : Int32))] (.int (0 : Int32)) := Arv.set Ar122 q122 S122 N122 H122 G122 (fits_nar_char _) W122 4 rfl (Nat.le_of_ble_eq_true rfl)
    rw [show nar .char c4 = c4 from (own_lnc hp_c4)] at V_b112
    have V_a := V_a.other W122 ne_a_b112
    have E_b111 := E_b111.wr W122
    have F_value_b111 := F_value_b111.other W122 (Or.inl ne_b111_b112)
    have F_coder_b111 := F_coder_b111.other W122 (Or.inl ne_b111_b112)
    have E_b112 := E_b112.wr W122
    have O_ := O_.wr W122 g_b112
    have Kp := Kp.wr W122 (Or.inr sz_b112)
    have sf_ := sf_b112
    have CR0 := CR.1
    have CR := CR.trans (CHr.wr W122 sf_ CR.1)
    have sf_b111 := Safe.wr W122 sf_ CR0 sf_b111
    have sf_b112 := Safe.wr W122 sf_ CR0 sf_b112
    have hk_ := Nat.le_trans hk_ (Nat.le_of_eq W122.size.symm)
    have N122 := Fr.snoc X122 N120 g_b112
    have Z_ : n0 ≤ h122.size := by rw [W122.size]; exact Z_
    refine .st st122 ?_
    show OwnGoW p e below s Z own_EL _ _ _ T122 (mkF m 298 _ [(.ref b112), (.ref b111), (.ref b111)])
    refine .dup X122 hx (hb hby d10_298) rfl ?_
    refine .iconst X122 hx (hb hby d10_299) own_ki5 ?_
    refine .aloadN X122 hx (hb hby d10_300) rfl rfl ?_
    refine .iconst X122 hx (hb hby d10_301) own_ki5 ?_
    obtain ⟨cl123, Ar123, -, S123, -, H123, -⟩ := id V_a
    have hin123 : ¬ ((5 : Int32) < 0 ∨ cl123.slots.size ≤ ((5 : Int32)).toNatClampNeg) := inb_of S123 ⟨by decide, by decide⟩
    refine .st (fun _ => X122.caload hx (j := (5 : Int32)) (v := (.int c5)) (by first | exact Ar123.1 | (rw [e122]; exact Ar123.1)) (State.isArrayOf_alike hZ.alike Ar123.2.1) Ar123.2.2 hin123 (H123.at hin123 rfl) (g := (mkF m 302 #[.val (.int (7 : Int32)), .val (.ref a)] [(.int (5 : Int32)), (.ref a), (.int (5 : Int32)), (.ref b112), (.ref b112), (.ref b111), (.ref b111)])) rfl rfl (hb hby d10_302) _) ?_
    show OwnGoW p e below s Z own_EL _ _ _ T122 (mkF m 303 _ [(.int c5), (.int (5 : Int32)), (.ref b112), (.ref b112), (.ref b111), (.ref b111)])
    obtain ⟨cl124, Ar124, q124, S124, N124, H124, G124⟩ := id V_b112
    have hin124 : ¬ ((5 : Int32) < 0 ∨ cl124.slots.size ≤ ((5 : Int32)).toNatClampNeg) := inb_of S124 ⟨by decide, by decide⟩
    obtain ⟨T124, h124, X124, e124, W124, st124⟩ := stC X122 hx hZ e122 Ar124 (j := (5 : Int32)) hin124 (g := (mkF m 303 #[.val (.int (7 : Int32)), .val (.ref a)] [(.int c5), (.int (5 : Int32)), (.ref b112), (.ref b112), (.ref b111), (.ref b111)])) rfl rfl (hb hby d10_303)
    have V_b112 : Arv Z h124 b112 k112 .char (7 : Int32) [(.int c0), (.int c1), (.int c2), (.int c3), (.int c4), (.int (nar .char c5)), (.int (0 : Int32))] (.int (0 : Int32)) := Arv.set Ar124 q124 S124 N124 H124 G124 (fits_nar_char _) W124 5 rfl (Nat.le_of_ble_eq_true rfl)
    rw [show nar .char c5 = c5 from (own_lnc hp_c5)] at V_b112
    have V_a := V_a.other W124 ne_a_b112
    have E_b111 := E_b111.wr W124
    have F_value_b111 := F_value_b111.other W124 (Or.inl ne_b111_b112)
    have F_coder_b111 := F_coder_b111.other W124 (Or.inl ne_b111_b112)
    have E_b112 := E_b112.wr W124
    have O_ := O_.wr W124 g_b112
    have Kp := Kp.wr W124 (Or.inr sz_b112)
    have sf_ := sf_b112
    have CR0 := CR.1
    have CR := CR.trans (CHr.wr W124 sf_ CR.1)
    have sf_b111 := Safe.wr W124 sf_ CR0 sf_b111
    have sf_b112 := Safe.wr W124 sf_ CR0 sf_b112
    have hk_ := Nat.le_trans hk_ (Nat.le_of_eq W124.size.symm)
    have N124 := Fr.snoc X124 N122 g_b112
    have Z_ : n0 ≤ h124.size := by rw [W124.size]; exact Z_
    refine .st st124 ?_
    show OwnGoW p e below s Z own_EL _ _ _ T124 (mkF m 304 _ [(.ref b112), (.ref b111), (.ref b111)])
    refine .dup X124 hx (hb hby d10_304) rfl ?_
    refine .bipush X124 hx (hb hby d10_305) own_kb6 ?_
    refine .aloadN X124 hx (hb hby d10_307) rfl rfl ?_
    refine .bipush X124 hx (hb hby d10_308) own_kb6 ?_
    obtain ⟨cl125, Ar125, -, S125, -, H125, -⟩ := id V_a
    have hin125 : ¬ ((6 : Int32) < 0 ∨ cl125.slots.size ≤ ((6 : Int32)).toNatClampNeg) := inb_of S125 ⟨by decide, by decide⟩
    refine .st (fun _ => X124.caload hx (j := (6 : Int32)) (v := (.int c6)) (by first | exact Ar125.1 | (rw [e124]; exact Ar125.1)) (State.isArrayOf_alike hZ.alike Ar125.2.1) Ar125.2.2 hin125 (H125.at hin125 rfl) (g := (mkF m 310 #[.val (.int (7 : Int32)), .val (.ref a)] [(.int (6 : Int32)), (.ref a), (.int (6 : Int32)), (.ref b112), (.ref b112), (.ref b111), (.ref b111)])) rfl rfl (hb hby d10_310) _) ?_
    show OwnGoW p e below s Z own_EL _ _ _ T124 (mkF m 311 _ [(.int c6), (.int (6 : Int32)), (.ref b112), (.ref b112), (.ref b111), (.ref b111)])
    obtain ⟨cl126, Ar126, q126, S126, N126, H126, G126⟩ := id V_b112
    have hin126 : ¬ ((6 : Int32) < 0 ∨ cl126.slots.size ≤ ((6 : Int32)).toNatClampNeg) := inb_of S126 ⟨by decide, by decide⟩
    obtain ⟨T126, h126, X126, e126, W126, st126⟩ := stC X124 hx hZ e124 Ar126 (j := (6 : Int32)) hin126 (g := (mkF m 311 #[.val (.int (7 : Int32)), .val (.ref a)] [(.int c6), (.int (6 : Int32)), (.ref b112), (.ref b112), (.ref b111), (.ref b111)])) rfl rfl (hb hby d10_311)
    have V_b112 : Arv Z h126 b112 k112 .char (7 : Int32) [(.int c0), (.int c1), (.int c2), (.int c3), (.int c4), (.int c5), (.int (nar .char c6))] (.int (0 : Int32)) := Arv.set Ar126 q126 S126 N126 H126 G126 (fits_nar_char _) W126 6 rfl (Nat.le_of_ble_eq_true rfl)
    rw [show nar .char c6 = c6 from (own_lnc hp_c6)] at V_b112
    have V_a := V_a.other W126 ne_a_b112
    have E_b111 := E_b111.wr W126
    have F_value_b111 := F_value_b111.other W126 (Or.inl ne_b111_b112)
    have F_coder_b111 := F_coder_b111.other W126 (Or.inl ne_b111_b112)
    have E_b112 := E_b112.wr W126
    have O_ := O_.wr W126 g_b112
    have Kp := Kp.wr W126 (Or.inr sz_b112)
    have sf_ := sf_b112
    have CR0 := CR.1
    have CR := CR.trans (CHr.wr W126 sf_ CR.1)
    have sf_b111 := Safe.wr W126 sf_ CR0 sf_b111
    have sf_b112 := Safe.wr W126 sf_ CR0 sf_b112
    have hk_ := Nat.le_trans hk_ (Nat.le_of_eq W126.size.symm)
    have N126 := Fr.snoc X126 N124 g_b112
    have Z_ : n0 ≤ h126.size := by rw [W126.size]; exact Z_
    refine .st st126 ?_
    show OwnGoW p e below s Z own_EL _ _ _ T126 (mkF m 312 _ [(.ref b112), (.ref b111), (.ref b111)])
    have hp127 : ∀ c ∈ ([c0, c1, c2, c3, c4, c5, c6] : List Int32), ¬ c < 0 ∧ ¬ (255 : Int32) < c := by
      intro c hc
      simp only [List.mem_cons, List.not_mem_nil, or_false] at hc
      rcases hc with rfl | rfl | rfl | rfl | rfl | rfl | rfl
      · exact hp_c0
      · exact hp_c1
      · exact hp_c2
      · exact hp_c3
      · exact hp_c4
      · exact hp_c5
      · exact hp_c6
    obtain ⟨_, _, ⟨T128, L128, k128, n128⟩, -, X128, ⟨Lc128, hQ128, l128, y128, z128⟩, st128⟩ := X126.specialBack hx (y := (⟨"java/lang/String", "<init>", "([C)V"⟩ : MethodName)) rfl hown (mvT hZ (W_ hw 58 rfl)) (mvT hZ (W_ hw 59 rfl)) (mvT hZ (W_ hw 60 rfl)) (by decide) (StrChars.Road.backV (W := 1) hZ (own_ws hw) (kI := 4) (W_ hw 2 rfl) (cs := ([c0, c1, c2, c3, c4, c5, c6] : List Int32)) (bs := ([c0, c1, c2, c3, c4, c5, c6] : List Int32).map (fun c => c.toInt8.toInt32)) (n := 7) g_b111 Z_ E_b111 F_value_b111 F_coder_b111 V_b112 (S_CS.ext O_.2) P_CS rfl rfl (by decide) (by decide) hp127 rfl (by decide) (by decide)) (g := (mkF m 312 #[.val (.int (7 : Int32)), .val (.ref a)] [(.ref b112), (.ref b111), (.ref b111)])) rfl (by rw [hml]; rfl) (Steps.refl _) (a := b111) (argsL := [(.ref b112)]) (rest := [(.ref b111)]) (lenOf pd_10 rfl) rfl (Nat.le_of_eq rfl) (hb hby d10_312) (fun _ _ => ⟨rfl, e126, (by decide : 2 + 1 ≤ _), (by decide : 11 + 7 ≤ _)⟩)
    dsimp only [Pt.U, Pt.locs, Pt.cells, Pt.slots] at X128 l128 y128 z128 st128 hQ128
    subst l128 y128 z128
    obtain ⟨rfl, N128q, K128, Ex128, Fc_b111, t128, kb128, gt128, zz128, nt128, Fv_b111, V128⟩ := hQ128
    have N128 := Fr.app N126 N128q
    have zt128 : h126.size ≤ t128 := zz128
    have ne_a_t128 : a ≠ t128 := Nat.ne_of_lt (Nat.lt_of_lt_of_le V_a.lt zt128)
    have ne_b111_t128 : b111 ≠ t128 := Nat.ne_of_lt (Nat.lt_of_lt_of_le E_b111.lt zt128)
    have ne_b112_t128 : b112 ≠ t128 := Nat.ne_of_lt (Nat.lt_of_lt_of_le V_b112.lt zt128)
    have g_t128 : n0 ≤ t128 := Nat.le_trans Z_ zt128
    have sz_t128 : h0.size ≤ t128 := Nat.le_trans Kp.1 zt128
    have V128 : Arv Z T128.heap t128 kb128 .byte (7 : Int32) [(.int c0.toInt8.toInt32), (.int c1.toInt8.toInt32), (.int c2.toInt8.toInt32), (.int c3.toInt8.toInt32), (.int c4.toInt8.toInt32), (.int c5.toInt8.toInt32), (.int c6.toInt8.toInt32)] (.int (0 : Int32)) := V128
    have Z_ : n0 ≤ T128.heap.size := Nat.le_trans Z_ K128.1
    have V_a := V_a.keep K128 (ninS ne_a_b111 nin0)
    have E_b111 := E_b111.keep K128
    have V_b112 := V_b112.keep K128 (ninS (Ne.symm ne_b111_b112) nin0)
    have E_b112 := E_b112.keep K128
    have O_ := O_.keep K128 (allS g_b111 all0)
    have Kp := Kp.trans K128 (allS (Or.inr sz_b111) all0)
    have sf_b112' := Safe.keep K128 (sfS sf_b111 sf0) CR.1 sf_b112
    have sf_b111' := Safe.keep K128 (sfS sf_b111 sf0) CR.1 sf_b111
    have CR := CR.trans (CHr.keep K128 (sfS sf_b111 sf0) CR.1)
    have hk_ := Nat.le_trans hk_ K128.1
    have sf_b111 := sf_b111'
    have sf_b112 := sf_b112'
    refine .st (fun _ => st128.trans) ?_
    show OwnGoW p e below s Z own_EL _ _ _ T128 (mkF m 315 _ [(.ref b111)])
    exact OwnGoW.ret (s := s) (vm0 := s.vm) X128 hS_ hk_ rfl hZ (own_hEL hw) CR hx hret hlk rfl (Or.inr (Or.inr (Or.inr (Or.inr ⟨rfl, rfl, rfl⟩)))) (hb hby d10_315) (by show Qmk Z (7 : Int32) a ka c0 c1 c2 c3 c4 c5 c6 c7 c8 c9 zc h0 n0 _ T128.heap _; exact ⟨b111, t128, kb128, [c0.toInt8.toInt32, c1.toInt8.toInt32, c2.toInt8.toInt32, c3.toInt8.toInt32, c4.toInt8.toInt32, c5.toInt8.toInt32, c6.toInt8.toInt32], rfl, N128, Kp, E_b111, Fc_b111, Fv_b111, V128, (by show 7 < 2 ^ 31; decide)⟩) (by decide) (by decide)
  · show OwnGoW p e below s Z own_EL _ _ _ s₁ (mkF m 1 _ [(.int (8 : Int32))])
    clear hn hn'
    refine .tswIn (pc := 1) X0 hx 316 (hb hby d10_1) own_ts10_1_8.1 own_ts10_1_8.2 (by decide) (by decide) ?_
    obtain ⟨T129, h129, X129, e129, E129, A129, D129, -, st129⟩ := newO X0 hx hZ hown (W_ hw 57 rfl) (W_ hw 2 rfl) (W_ hw 1 rfl) e0 (g := (mkF m 316 #[.val (.int (8 : Int32)), .val (.ref a)] [])) rfl (hb hby d10_316) (by decide) (by decide)
    obtain ⟨b129, g129⟩ : ∃ z, z = h0.size := ⟨_, rfl⟩
    rw [← g129] at A129 D129 st129
    have ne_a_b129 : a ≠ b129 := Nat.ne_of_lt (Nat.lt_of_lt_of_le V_a.lt (Nat.le_of_eq g129.symm))
    have g_b129 : n0 ≤ b129 := Nat.le_trans Z_ (Nat.le_of_eq g129.symm)
    have sf_b129 : Safe Z own_EL s.vm h0 b129 := Safe.new (Nat.le_of_eq g129.symm)
    have sz_b129 : h0.size ≤ b129 := Nat.le_trans Kp.1 (Nat.le_of_eq g129.symm)
    have V_a := V_a.ext E129
    have O_ := O_.ext E129
    have Kp := Kp.ext E129
    have sf_b129 := Safe.ext E129 CR.1 sf_b129
    have CR := CR.trans (CHr.ext E129 CR.1)
    have hk_ := Nat.le_trans hk_ E129.1
    have Z_ : n0 ≤ h129.size := Nat.le_trans Z_ E129.1
    have E_b129 := A129
    have F_value_b129 : Fld Z h129 b129 "java/lang/String" "value" "[B" .null := D129 (Or.inr (W_ hw 4 rfl)) (ty := (.array .byte)) (by decide)
    have F_coder_b129 : Fld Z h129 b129 "java/lang/String" "coder" "B" (.int (0 : Int32)) := D129 (Or.inr (W_ hw 5 rfl)) (ty := .byte) (by decide)
    refine .st st129 ?_
    show OwnGoW p e below s Z own_EL _ _ _ T129 (mkF m 319 _ [(.ref b129)])
    refine .dup X129 hx (hb hby d10_319) rfl ?_
    refine .bipush X129 hx (hb hby d10_320) own_kb8 ?_
    obtain ⟨T130, h130, k130, X130, e130, E130, A130, Ex130, st130⟩ := newPE X129 hx hZ (W_ hw 23 rfl) e129 (g := (mkF m 322 #[.val (.int (8 : Int32)), .val (.ref a)] [(.int (8 : Int32)), (.ref b129), (.ref b129)])) rfl (hb hby d10_322) rfl (by decide) (cap := 8) (by decide) (by decide) (by decide) (by decide) (ad := "[C") (by decide)
    obtain ⟨b130, g130⟩ : ∃ z, z = h129.size := ⟨_, rfl⟩
    rw [← g130] at A130 Ex130 st130
    have ne_a_b130 : a ≠ b130 := Nat.ne_of_lt (Nat.lt_of_lt_of_le V_a.lt (Nat.le_of_eq g130.symm))
    have ne_b129_b130 : b129 ≠ b130 := Nat.ne_of_lt (Nat.lt_of_lt_of_le E_b129.lt (Nat.le_of_eq g130.symm))
    have g_b130 : n0 ≤ b130 := Nat.le_trans Z_ (Nat.le_of_eq g130.symm)
    have sf_b130 : Safe Z own_EL s.vm h129 b130 := Safe.new (Nat.le_of_eq g130.symm)
    have sz_b130 : h0.size ≤ b130 := Nat.le_trans Kp.1 (Nat.le_of_eq g130.symm)
    have V_a := V_a.ext E130
    have E_b129 := E_b129.ext E130
    have F_value_b129 := F_value_b129.ext E130
    have F_coder_b129 := F_coder_b129.ext E130
    have O_ := O_.ext E130
    have Kp := Kp.ext E130
    have sf_b129 := Safe.ext E130 CR.1 sf_b129
    have sf_b130 := Safe.ext E130 CR.1 sf_b130
    have CR := CR.trans (CHr.ext E130 CR.1)
    have hk_ := Nat.le_trans hk_ E130.1
    have Z_ : n0 ≤ h130.size := Nat.le_trans Z_ E130.1
    have V_b130 : Arv Z h130 b130 k130 .char (8 : Int32) [(.int (0 : Int32)), (.int (0 : Int32)), (.int (0 : Int32)), (.int (0 : Int32)), (.int (0 : Int32)), (.int (0 : Int32)), (.int (0 : Int32)), (.int (0 : Int32))] (.int (0 : Int32)) := (Arv.new A130 (by decide)).pad (pad_rep [] (.int (0 : Int32)) 8)
    have E_b130 := Ex130
    refine .st st130 ?_
    show OwnGoW p e below s Z own_EL _ _ _ T130 (mkF m 324 _ [(.ref b130), (.ref b129), (.ref b129)])
    refine .dup X130 hx (hb hby d10_324) rfl ?_
    refine .iconst X130 hx (hb hby d10_325) own_ki0 ?_
    refine .aloadN X130 hx (hb hby d10_326) rfl rfl ?_
    refine .iconst X130 hx (hb hby d10_327) own_ki0 ?_
    obtain ⟨cl131, Ar131, -, S131, -, H131, -⟩ := id V_a
    have hin131 : ¬ ((0 : Int32) < 0 ∨ cl131.slots.size ≤ ((0 : Int32)).toNatClampNeg) := inb_of S131 ⟨by decide, by decide⟩
    refine .st (fun _ => X130.caload hx (j := (0 : Int32)) (v := (.int c0)) (by first | exact Ar131.1 | (rw [e130]; exact Ar131.1)) (State.isArrayOf_alike hZ.alike Ar131.2.1) Ar131.2.2 hin131 (H131.at hin131 rfl) (g := (mkF m 328 #[.val (.int (8 : Int32)), .val (.ref a)] [(.int (0 : Int32)), (.ref a), (.int (0 : Int32)), (.ref b130), (.ref b130), (.ref b129), (.ref b129)])) rfl rfl (hb hby d10_328) _) ?_
    show OwnGoW p e below s Z own_EL _ _ _ T130 (mkF m 329 _ [(.int c0), (.int (0 : Int32)), (.ref b130), (.ref b130), (.ref b129), (.ref b129)])
    obtain ⟨cl132, Ar132, q132, S132, N132, H132, G132⟩ := id V_b130
    have hin132 : ¬ ((0 : Int32) < 0 ∨ cl132.slots.size ≤ ((0 : Int32)).toNatClampNeg) := inb_of S132 ⟨by decide, by decide⟩
    obtain ⟨T132, h132, X132, e132, W132, st132⟩ := stC X130 hx hZ e130 Ar132 (j := (0 : Int32)) hin132 (g := (mkF m 329 #[.val (.int (8 : Int32)), .val (.ref a)] [(.int c0), (.int (0 : Int32)), (.ref b130), (.ref b130), (.ref b129), (.ref b129)])) rfl rfl (hb hby d10_329)
    have V_b130 : Arv Z h132 b130 k130 .char (8 : Int32) [(.int (nar .char c0)), (.int (0 : Int32)), (.int (0 : Int32)), (.int (0 : Int32)), (.int (0 : Int32)), (.int (0 : Int32)), (.int (0 : Int32)), (.int (0 : Int32))] (.int (0 : Int32)) := Arv.set Ar132 q132 S132 N132 H132 G132 (fits_nar_char _) W132 0 rfl (Nat.le_of_ble_eq_true rfl)
    rw [show nar .char c0 = c0 from (own_lnc hp_c0)] at V_b130
    have V_a := V_a.other W132 ne_a_b130
    have E_b129 := E_b129.wr W132
    have F_value_b129 := F_value_b129.other W132 (Or.inl ne_b129_b130)
    have F_coder_b129 := F_coder_b129.other W132 (Or.inl ne_b129_b130)
    have E_b130 := E_b130.wr W132
    have O_ := O_.wr W132 g_b130
    have Kp := Kp.wr W132 (Or.inr sz_b130)
    have sf_ := sf_b130
    have CR0 := CR.1
    have CR := CR.trans (CHr.wr W132 sf_ CR.1)
    have sf_b129 := Safe.wr W132 sf_ CR0 sf_b129
    have sf_b130 := Safe.wr W132 sf_ CR0 sf_b130
    have hk_ := Nat.le_trans hk_ (Nat.le_of_eq W132.size.symm)
    have N132 := Fr.snoc X132 N0 g_b130
    have Z_ : n0 ≤ h132.size := by rw [W132.size]; exact Z_
    refine .st st132 ?_
    show OwnGoW p e below s Z own_EL _ _ _ T132 (mkF m 330 _ [(.ref b130), (.ref b129), (.ref b129)])
    refine .dup X132 hx (hb hby d10_330) rfl ?_
    refine .iconst X132 hx (hb hby d10_331) own_ki1 ?_
    refine .aloadN X132 hx (hb hby d10_332) rfl rfl ?_
    refine .iconst X132 hx (hb hby d10_333) own_ki1 ?_
    obtain ⟨cl133, Ar133, -, S133, -, H133, -⟩ := id V_a
    have hin133 : ¬ ((1 : Int32) < 0 ∨ cl133.slots.size ≤ ((1 : Int32)).toNatClampNeg) := inb_of S133 ⟨by decide, by decide⟩
    refine .st (fun _ => X132.caload hx (j := (1 : Int32)) (v := (.int c1)) (by first | exact Ar133.1 | (rw [e132]; exact Ar133.1)) (State.isArrayOf_alike hZ.alike Ar133.2.1) Ar133.2.2 hin133 (H133.at hin133 rfl) (g := (mkF m 334 #[.val (.int (8 : Int32)), .val (.ref a)] [(.int (1 : Int32)), (.ref a), (.int (1 : Int32)), (.ref b130), (.ref b130), (.ref b129), (.ref b129)])) rfl rfl (hb hby d10_334) _) ?_
    show OwnGoW p e below s Z own_EL _ _ _ T132 (mkF m 335 _ [(.int c1), (.int (1 : Int32)), (.ref b130), (.ref b130), (.ref b129), (.ref b129)])
    obtain ⟨cl134, Ar134, q134, S134, N134, H134, G134⟩ := id V_b130
    have hin134 : ¬ ((1 : Int32) < 0 ∨ cl134.slots.size ≤ ((1 : Int32)).toNatClampNeg) := inb_of S134 ⟨by decide, by decide⟩
    obtain ⟨T134, h134, X134, e134, W134, st134⟩ := stC X132 hx hZ e132 Ar134 (j := (1 : Int32)) hin134 (g := (mkF m 335 #[.val (.int (8 : Int32)), .val (.ref a)] [(.int c1), (.int (1 : Int32)), (.ref b130), (.ref b130), (.ref b129), (.ref b129)])) rfl rfl (hb hby d10_335)
    have V_b130 : Arv Z h134 b130 k130 .char (8 : Int32) [(.int c0), (.int (nar .char c1)), (.int (0 : Int32)), (.int (0 : Int32)), (.int (0 : Int32)), (.int (0 : Int32)), (.int (0 : Int32)), (.int (0 : Int32))] (.int (0 : Int32)) := Arv.set Ar134 q134 S134 N134 H134 G134 (fits_nar_char _) W134 1 rfl (Nat.le_of_ble_eq_true rfl)
    rw [show nar .char c1 = c1 from (own_lnc hp_c1)] at V_b130
    have V_a := V_a.other W134 ne_a_b130
    have E_b129 := E_b129.wr W134
    have F_value_b129 := F_value_b129.other W134 (Or.inl ne_b129_b130)
    have F_coder_b129 := F_coder_b129.other W134 (Or.inl ne_b129_b130)
    have E_b130 := E_b130.wr W134
    have O_ := O_.wr W134 g_b130
    have Kp := Kp.wr W134 (Or.inr sz_b130)
    have sf_ := sf_b130
    have CR0 := CR.1
    have CR := CR.trans (CHr.wr W134 sf_ CR.1)
    have sf_b129 := Safe.wr W134 sf_ CR0 sf_b129
    have sf_b130 := Safe.wr W134 sf_ CR0 sf_b130
    have hk_ := Nat.le_trans hk_ (Nat.le_of_eq W134.size.symm)
    have N134 := Fr.snoc X134 N132 g_b130
    have Z_ : n0 ≤ h134.size := by rw [W134.size]; exact Z_
    refine .st st134 ?_
    show OwnGoW p e below s Z own_EL _ _ _ T134 (mkF m 336 _ [(.ref b130), (.ref b129), (.ref b129)])
    refine .dup X134 hx (hb hby d10_336) rfl ?_
    refine .iconst X134 hx (hb hby d10_337) own_ki2 ?_
    refine .aloadN X134 hx (hb hby d10_338) rfl rfl ?_
    refine .iconst X134 hx (hb hby d10_339) own_ki2 ?_
    obtain ⟨cl135, Ar135, -, S135, -, H135, -⟩ := id V_a
    have hin135 : ¬ ((2 : Int32) < 0 ∨ cl135.slots.size ≤ ((2 : Int32)).toNatClampNeg) := inb_of S135 ⟨by decide, by decide⟩
    refine .st (fun _ => X134.caload hx (j := (2 : Int32)) (v := (.int c2)) (by first | exact Ar135.1 | (rw [e134]; exact Ar135.1)) (State.isArrayOf_alike hZ.alike Ar135.2.1) Ar135.2.2 hin135 (H135.at hin135 rfl) (g := (mkF m 340 #[.val (.int (8 : Int32)), .val (.ref a)] [(.int (2 : Int32)), (.ref a), (.int (2 : Int32)), (.ref b130), (.ref b130), (.ref b129), (.ref b129)])) rfl rfl (hb hby d10_340) _) ?_
    show OwnGoW p e below s Z own_EL _ _ _ T134 (mkF m 341 _ [(.int c2), (.int (2 : Int32)), (.ref b130), (.ref b130), (.ref b129), (.ref b129)])
    obtain ⟨cl136, Ar136, q136, S136, N136, H136, G136⟩ := id V_b130
    have hin136 : ¬ ((2 : Int32) < 0 ∨ cl136.slots.size ≤ ((2 : Int32)).toNatClampNeg) := inb_of S136 ⟨by decide, by decide⟩
    obtain ⟨T136, h136, X136, e136, W136, st136⟩ := stC X134 hx hZ e134 Ar136 (j := (2 : Int32)) hin136 (g := (mkF m 341 #[.val (.int (8 : Int32)), .val (.ref a)] [(.int c2), (.int (2 : Int32)), (.ref b130), (.ref b130), (.ref b129), (.ref b129)])) rfl rfl (hb hby d10_341)
    have V_b130 : Arv Z h136 b130 k130 .char (8 : Int32) [(.int c0), (.int c1), (.int (nar .char c2)), (.int (0 : Int32)), (.int (0 : Int32)), (.int (0 : Int32)), (.int (0 : Int32)), (.int (0 : Int32))] (.int (0 : Int32)) := Arv.set Ar136 q136 S136 N136 H136 G136 (fits_nar_char _) W136 2 rfl (Nat.le_of_ble_eq_true rfl)
    rw [show nar .char c2 = c2 from (own_lnc hp_c2)] at V_b130
    have V_a := V_a.other W136 ne_a_b130
    have E_b129 := E_b129.wr W136
    have F_value_b129 := F_value_b129.other W136 (Or.inl ne_b129_b130)
    have F_coder_b129 := F_coder_b129.other W136 (Or.inl ne_b129_b130)
    have E_b130 := E_b130.wr W136
    have O_ := O_.wr W136 g_b130
    have Kp := Kp.wr W136 (Or.inr sz_b130)
    have sf_ := sf_b130
    have CR0 := CR.1
    have CR := CR.trans (CHr.wr W136 sf_ CR.1)
    have sf_b129 := Safe.wr W136 sf_ CR0 sf_b129
    have sf_b130 := Safe.wr W136 sf_ CR0 sf_b130
    have hk_ := Nat.le_trans hk_ (Nat.le_of_eq W136.size.symm)
    have N136 := Fr.snoc X136 N134 g_b130
    have Z_ : n0 ≤ h136.size := by rw [W136.size]; exact Z_
    refine .st st136 ?_
    show OwnGoW p e below s Z own_EL _ _ _ T136 (mkF m 342 _ [(.ref b130), (.ref b129), (.ref b129)])
    refine .dup X136 hx (hb hby d10_342) rfl ?_
    refine .iconst X136 hx (hb hby d10_343) own_ki3 ?_
    refine .aloadN X136 hx (hb hby d10_344) rfl rfl ?_
    refine .iconst X136 hx (hb hby d10_345) own_ki3 ?_
    obtain ⟨cl137, Ar137, -, S137, -, H137, -⟩ := id V_a
    have hin137 : ¬ ((3 : Int32) < 0 ∨ cl137.slots.size ≤ ((3 : Int32)).toNatClampNeg) := inb_of S137 ⟨by decide, by decide⟩
    refine .st (fun _ => X136.caload hx (j := (3 : Int32)) (v := (.int c3)) (by first | exact Ar137.1 | (rw [e136]; exact Ar137.1)) (State.isArrayOf_alike hZ.alike Ar137.2.1) Ar137.2.2 hin137 (H137.at hin137 rfl) (g := (mkF m 346 #[.val (.int (8 : Int32)), .val (.ref a)] [(.int (3 : Int32)), (.ref a), (.int (3 : Int32)), (.ref b130), (.ref b130), (.ref b129), (.ref b129)])) rfl rfl (hb hby d10_346) _) ?_
    show OwnGoW p e below s Z own_EL _ _ _ T136 (mkF m 347 _ [(.int c3), (.int (3 : Int32)), (.ref b130), (.ref b130), (.ref b129), (.ref b129)])
    obtain ⟨cl138, Ar138, q138, S138, N138, H138, G138⟩ := id V_b130
    have hin138 : ¬ ((3 : Int32) < 0 ∨ cl138.slots.size ≤ ((3 : Int32)).toNatClampNeg) := inb_of S138 ⟨by decide, by decide⟩
    obtain ⟨T138, h138, X138, e138, W138, st138⟩ := stC X136 hx hZ e136 Ar138 (j := (3 : Int32)) hin138 (g := (mkF m 347 #[.val (.int (8 : Int32)), .val (.ref a)] [(.int c3), (.int (3 : Int32)), (.ref b130), (.ref b130), (.ref b129), (.ref b129)])) rfl rfl (hb hby d10_347)
    have V_b130 : Arv Z h138 b130 k130 .char (8 : Int32) [(.int c0), (.int c1), (.int c2), (.int (nar .char c3)), (.int (0 : Int32)), (.int (0 : Int32)), (.int (0 : Int32)), (.int (0 : Int32))] (.int (0 : Int32)) := Arv.set Ar138 q138 S138 N138 H138 G138 (fits_nar_char _) W138 3 rfl (Nat.le_of_ble_eq_true rfl)
    rw [show nar .char c3 = c3 from (own_lnc hp_c3)] at V_b130
    have V_a := V_a.other W138 ne_a_b130
    have E_b129 := E_b129.wr W138
    have F_value_b129 := F_value_b129.other W138 (Or.inl ne_b129_b130)
    have F_coder_b129 := F_coder_b129.other W138 (Or.inl ne_b129_b130)
    have E_b130 := E_b130.wr W138
    have O_ := O_.wr W138 g_b130
    have Kp := Kp.wr W138 (Or.inr sz_b130)
    have sf_ := sf_b130
    have CR0 := CR.1
    have CR := CR.trans (CHr.wr W138 sf_ CR.1)
    have sf_b129 := Safe.wr W138 sf_ CR0 sf_b129
    have sf_b130 := Safe.wr W138 sf_ CR0 sf_b130
    have hk_ := Nat.le_trans hk_ (Nat.le_of_eq W138.size.symm)
    have N138 := Fr.snoc X138 N136 g_b130
    have Z_ : n0 ≤ h138.size := by rw [W138.size]; exact Z_
    refine .st st138 ?_
    show OwnGoW p e below s Z own_EL _ _ _ T138 (mkF m 348 _ [(.ref b130), (.ref b129), (.ref b129)])
    refine .dup X138 hx (hb hby d10_348) rfl ?_
    refine .iconst X138 hx (hb hby d10_349) own_ki4 ?_
    refine .aloadN X138 hx (hb hby d10_350) rfl rfl ?_
    refine .iconst X138 hx (hb hby d10_351) own_ki4 ?_
    obtain ⟨cl139, Ar139, -, S139, -, H139, -⟩ := id V_a
    have hin139 : ¬ ((4 : Int32) < 0 ∨ cl139.slots.size ≤ ((4 : Int32)).toNatClampNeg) := inb_of S139 ⟨by decide, by decide⟩
    refine .st (fun _ => X138.caload hx (j := (4 : Int32)) (v := (.int c4)) (by first | exact Ar139.1 | (rw [e138]; exact Ar139.1)) (State.isArrayOf_alike hZ.alike Ar139.2.1) Ar139.2.2 hin139 (H139.at hin139 rfl) (g := (mkF m 352 #[.val (.int (8 : Int32)), .val (.ref a)] [(.int (4 : Int32)), (.ref a), (.int (4 : Int32)), (.ref b130), (.ref b130), (.ref b129), (.ref b129)])) rfl rfl (hb hby d10_352) _) ?_
    show OwnGoW p e below s Z own_EL _ _ _ T138 (mkF m 353 _ [(.int c4), (.int (4 : Int32)), (.ref b130), (.ref b130), (.ref b129), (.ref b129)])
    obtain ⟨cl140, Ar140, q140, S140, N140, H140, G140⟩ := id V_b130
    have hin140 : ¬ ((4 : Int32) < 0 ∨ cl140.slots.size ≤ ((4 : Int32)).toNatClampNeg) := inb_of S140 ⟨by decide, by decide⟩
    obtain ⟨T140, h140, X140, e140, W140, st140⟩ := stC X138 hx hZ e138 Ar140 (j := (4 : Int32)) hin140 (g := (mkF m 353 #[.val (.int (8 : Int32)), .val (.ref a)] [(.int c4), (.int (4 : Int32)), (.ref b130), (.ref b130), (.ref b129), (.ref b129)])) rfl rfl (hb hby d10_353)
    have V_b130 : Arv Z h140 b130 k130 .char (8 : Int32) [(.int c0), (.int c1), (.int c2), (.int c3), (.int (nar .char c4)), (.int (0 : Int32)), (.int (0 : Int32)), (.int (0 : Int32))] (.int (0 : Int32)) := Arv.set Ar140 q140 S140 N140 H140 G140 (fits_nar_char _) W140 4 rfl (Nat.le_of_ble_eq_true rfl)
    rw [show nar .char c4 = c4 from (own_lnc hp_c4)] at V_b130
    have V_a := V_a.other W140 ne_a_b130
    have E_b129 := E_b129.wr W140
    have F_value_b129 := F_value_b129.other W140 (Or.inl ne_b129_b130)
    have F_coder_b129 := F_coder_b129.other W140 (Or.inl ne_b129_b130)
    have E_b130 := E_b130.wr W140
    have O_ := O_.wr W140 g_b130
    have Kp := Kp.wr W140 (Or.inr sz_b130)
    have sf_ := sf_b130
    have CR0 := CR.1
    have CR := CR.trans (CHr.wr W140 sf_ CR.1)
    have sf_b129 := Safe.wr W140 sf_ CR0 sf_b129
    have sf_b130 := Safe.wr W140 sf_ CR0 sf_b130
    have hk_ := Nat.le_trans hk_ (Nat.le_of_eq W140.size.symm)
    have N140 := Fr.snoc X140 N138 g_b130
    have Z_ : n0 ≤ h140.size := by rw [W140.size]; exact Z_
    refine .st st140 ?_
    show OwnGoW p e below s Z own_EL _ _ _ T140 (mkF m 354 _ [(.ref b130), (.ref b129), (.ref b129)])
    refine .dup X140 hx (hb hby d10_354) rfl ?_
    refine .iconst X140 hx (hb hby d10_355) own_ki5 ?_
    refine .aloadN X140 hx (hb hby d10_356) rfl rfl ?_
    refine .iconst X140 hx (hb hby d10_357) own_ki5 ?_
    obtain ⟨cl141, Ar141, -, S141, -, H141, -⟩ := id V_a
    have hin141 : ¬ ((5 : Int32) < 0 ∨ cl141.slots.size ≤ ((5 : Int32)).toNatClampNeg) := inb_of S141 ⟨by decide, by decide⟩
    refine .st (fun _ => X140.caload hx (j := (5 : Int32)) (v := (.int c5)) (by first | exact Ar141.1 | (rw [e140]; exact Ar141.1)) (State.isArrayOf_alike hZ.alike Ar141.2.1) Ar141.2.2 hin141 (H141.at hin141 rfl) (g := (mkF m 358 #[.val (.int (8 : Int32)), .val (.ref a)] [(.int (5 : Int32)), (.ref a), (.int (5 : Int32)), (.ref b130), (.ref b130), (.ref b129), (.ref b129)])) rfl rfl (hb hby d10_358) _) ?_
    show OwnGoW p e below s Z own_EL _ _ _ T140 (mkF m 359 _ [(.int c5), (.int (5 : Int32)), (.ref b130), (.ref b130), (.ref b129), (.ref b129)])
    obtain ⟨cl142, Ar142, q142, S142, N142, H142, G142⟩ := id V_b130
    have hin142 : ¬ ((5 : Int32) < 0 ∨ cl142.slots.size ≤ ((5 : Int32)).toNatClampNeg) := inb_of S142 ⟨by decide, by decide⟩
    obtain ⟨T142, h142, X142, e142, W142, st142⟩ := stC X140 hx hZ e140 Ar142 (j := (5 : Int32)) hin142 (g := (mkF m 359 #[.val (.int (8 : Int32)), .val (.ref a)] [(.int c5), (.int (5 : Int32)), (.ref b130), (.ref b130), (.ref b129), (.ref b129)])) rfl rfl (hb hby d10_359)
    have V_b130 : Arv Z h142 b130 k130 .char (8 : Int32) [(.int c0), (.int c1), (.int c2), (.int c3), (.int c4), (.int (nar .char c5)), (.int (0 : Int32)), (.int (0 : Int32))] (.int (0 : Int32)) := Arv.set Ar142 q142 S142 N142 H142 G142 (fits_nar_char _) W142 5 rfl (Nat.le_of_ble_eq_true rfl)
    rw [show nar .char c5 = c5 from (own_lnc hp_c5)] at V_b130
    have V_a := V_a.other W142 ne_a_b130
    have E_b129 := E_b129.wr W142
    have F_value_b129 := F_value_b129.other W142 (Or.inl ne_b129_b130)
    have F_coder_b129 := F_coder_b129.other W142 (Or.inl ne_b129_b130)
    have E_b130 := E_b130.wr W142
    have O_ := O_.wr W142 g_b130
    have Kp := Kp.wr W142 (Or.inr sz_b130)
    have sf_ := sf_b130
    have CR0 := CR.1
    have CR := CR.trans (CHr.wr W142 sf_ CR.1)
    have sf_b129 := Safe.wr W142 sf_ CR0 sf_b129
    have sf_b130 := Safe.wr W142 sf_ CR0 sf_b130
    have hk_ := Nat.le_trans hk_ (Nat.le_of_eq W142.size.symm)
    have N142 := Fr.snoc X142 N140 g_b130
    have Z_ : n0 ≤ h142.size := by rw [W142.size]; exact Z_
    refine .st st142 ?_
    show OwnGoW p e below s Z own_EL _ _ _ T142 (mkF m 360 _ [(.ref b130), (.ref b129), (.ref b129)])
    refine .dup X142 hx (hb hby d10_360) rfl ?_
    refine .bipush X142 hx (hb hby d10_361) own_kb6 ?_
    refine .aloadN X142 hx (hb hby d10_363) rfl rfl ?_
    refine .bipush X142 hx (hb hby d10_364) own_kb6 ?_
    obtain ⟨cl143, Ar143, -, S143, -, H143, -⟩ := id V_a
    have hin143 : ¬ ((6 : Int32) < 0 ∨ cl143.slots.size ≤ ((6 : Int32)).toNatClampNeg) := inb_of S143 ⟨by decide, by decide⟩
    refine .st (fun _ => X142.caload hx (j := (6 : Int32)) (v := (.int c6)) (by first | exact Ar143.1 | (rw [e142]; exact Ar143.1)) (State.isArrayOf_alike hZ.alike Ar143.2.1) Ar143.2.2 hin143 (H143.at hin143 rfl) (g := (mkF m 366 #[.val (.int (8 : Int32)), .val (.ref a)] [(.int (6 : Int32)), (.ref a), (.int (6 : Int32)), (.ref b130), (.ref b130), (.ref b129), (.ref b129)])) rfl rfl (hb hby d10_366) _) ?_
    show OwnGoW p e below s Z own_EL _ _ _ T142 (mkF m 367 _ [(.int c6), (.int (6 : Int32)), (.ref b130), (.ref b130), (.ref b129), (.ref b129)])
    obtain ⟨cl144, Ar144, q144, S144, N144, H144, G144⟩ := id V_b130
    have hin144 : ¬ ((6 : Int32) < 0 ∨ cl144.slots.size ≤ ((6 : Int32)).toNatClampNeg) := inb_of S144 ⟨by decide, by decide⟩
    obtain ⟨T144, h144, X144, e144, W144, st144⟩ := stC X142 hx hZ e142 Ar144 (j := (6 : Int32)) hin144 (g := (mkF m 367 #[.val (.int (8 : Int32)), .val (.ref a)] [(.int c6), (.int (6 : Int32)), (.ref b130), (.ref b130), (.ref b129), (.ref b129)])) rfl rfl (hb hby d10_367)
    have V_b130 : Arv Z h144 b130 k130 .char (8 : Int32) [(.int c0), (.int c1), (.int c2), (.int c3), (.int c4), (.int c5), (.int (nar .char c6)), (.int (0 : Int32))] (.int (0 : Int32)) := Arv.set Ar144 q144 S144 N144 H144 G144 (fits_nar_char _) W144 6 rfl (Nat.le_of_ble_eq_true rfl)
    rw [show nar .char c6 = c6 from (own_lnc hp_c6)] at V_b130
    have V_a := V_a.other W144 ne_a_b130
    have E_b129 := E_b129.wr W144
    have F_value_b129 := F_value_b129.other W144 (Or.inl ne_b129_b130)
    have F_coder_b129 := F_coder_b129.other W144 (Or.inl ne_b129_b130)
    have E_b130 := E_b130.wr W144
    have O_ := O_.wr W144 g_b130
    have Kp := Kp.wr W144 (Or.inr sz_b130)
    have sf_ := sf_b130
    have CR0 := CR.1
    have CR := CR.trans (CHr.wr W144 sf_ CR.1)
    have sf_b129 := Safe.wr W144 sf_ CR0 sf_b129
    have sf_b130 := Safe.wr W144 sf_ CR0 sf_b130
    have hk_ := Nat.le_trans hk_ (Nat.le_of_eq W144.size.symm)
    have N144 := Fr.snoc X144 N142 g_b130
    have Z_ : n0 ≤ h144.size := by rw [W144.size]; exact Z_
    refine .st st144 ?_
    show OwnGoW p e below s Z own_EL _ _ _ T144 (mkF m 368 _ [(.ref b130), (.ref b129), (.ref b129)])
    refine .dup X144 hx (hb hby d10_368) rfl ?_
    refine .bipush X144 hx (hb hby d10_369) own_kb7 ?_
    refine .aloadN X144 hx (hb hby d10_371) rfl rfl ?_
    refine .bipush X144 hx (hb hby d10_372) own_kb7 ?_
    obtain ⟨cl145, Ar145, -, S145, -, H145, -⟩ := id V_a
    have hin145 : ¬ ((7 : Int32) < 0 ∨ cl145.slots.size ≤ ((7 : Int32)).toNatClampNeg) := inb_of S145 ⟨by decide, by decide⟩
    refine .st (fun _ => X144.caload hx (j := (7 : Int32)) (v := (.int c7)) (by first | exact Ar145.1 | (rw [e144]; exact Ar145.1)) (State.isArrayOf_alike hZ.alike Ar145.2.1) Ar145.2.2 hin145 (H145.at hin145 rfl) (g := (mkF m 374 #[.val (.int (8 : Int32)), .val (.ref a)] [(.int (7 : Int32)), (.ref a), (.int (7 : Int32)), (.ref b130), (.ref b130), (.ref b129), (.ref b129)])) rfl rfl (hb hby d10_374) _) ?_
    show OwnGoW p e below s Z own_EL _ _ _ T144 (mkF m 375 _ [(.int c7), (.int (7 : Int32)), (.ref b130), (.ref b130), (.ref b129), (.ref b129)])
    obtain ⟨cl146, Ar146, q146, S146, N146, H146, G146⟩ := id V_b130
    have hin146 : ¬ ((7 : Int32) < 0 ∨ cl146.slots.size ≤ ((7 : Int32)).toNatClampNeg) := inb_of S146 ⟨by decide, by decide⟩
    obtain ⟨T146, h146, X146, e146, W146, st146⟩ := stC X144 hx hZ e144 Ar146 (j := (7 : Int32)) hin146 (g := (mkF m 375 #[.val (.int (8 : Int32)), .val (.ref a)] [(.int c7), (.int (7 : Int32)), (.ref b130), (.ref b130), (.ref b129), (.ref b129)])) rfl rfl (hb hby d10_375)
    have V_b130 : Arv Z h146 b130 k130 .char (8 : Int32) [(.int c0), (.int c1), (.int c2), (.int c3), (.int c4), (.int c5), (.int c6), (.int (nar .char c7))] (.int (0 : Int32)) := Arv.set Ar146 q146 S146 N146 H146 G146 (fits_nar_char _) W146 7 rfl (Nat.le_of_ble_eq_true rfl)
    rw [show nar .char c7 = c7 from (own_lnc hp_c7)] at V_b130
    have V_a := V_a.other W146 ne_a_b130
    have E_b129 := E_b129.wr W146
    have F_value_b129 := F_value_b129.other W146 (Or.inl ne_b129_b130)
    have F_coder_b129 := F_coder_b129.other W146 (Or.inl ne_b129_b130)
    have E_b130 := E_b130.wr W146
    have O_ := O_.wr W146 g_b130
    have Kp := Kp.wr W146 (Or.inr sz_b130)
    have sf_ := sf_b130
    have CR0 := CR.1
    have CR := CR.trans (CHr.wr W146 sf_ CR.1)
    have sf_b129 := Safe.wr W146 sf_ CR0 sf_b129
    have sf_b130 := Safe.wr W146 sf_ CR0 sf_b130
    have hk_ := Nat.le_trans hk_ (Nat.le_of_eq W146.size.symm)
    have N146 := Fr.snoc X146 N144 g_b130
    have Z_ : n0 ≤ h146.size := by rw [W146.size]; exact Z_
    refine .st st146 ?_
    show OwnGoW p e below s Z own_EL _ _ _ T146 (mkF m 376 _ [(.ref b130), (.ref b129), (.ref b129)])
    have hp147 : ∀ c ∈ ([c0, c1, c2, c3, c4, c5, c6, c7] : List Int32), ¬ c < 0 ∧ ¬ (255 : Int32) < c := by
      intro c hc
      simp only [List.mem_cons, List.not_mem_nil, or_false] at hc
      rcases hc with rfl | rfl | rfl | rfl | rfl | rfl | rfl | rfl
      · exact hp_c0
      · exact hp_c1
      · exact hp_c2
      · exact hp_c3
      · exact hp_c4
      · exact hp_c5
      · exact hp_c6
      · exact hp_c7
    obtain ⟨_, _, ⟨T148, L148, k148, n148⟩, -, X148, ⟨Lc148, hQ148, l148, y148, z148⟩, st148⟩ := X146.specialBack hx (y := (⟨"java/lang/String", "<init>", "([C)V"⟩ : MethodName)) rfl hown (mvT hZ (W_ hw 58 rfl)) (mvT hZ (W_ hw 59 rfl)) (mvT hZ (W_ hw 60 rfl)) (by decide) (StrChars.Road.backV (W := 1) hZ (own_ws hw) (kI := 4) (W_ hw 2 rfl) (cs := ([c0, c1, c2, c3, c4, c5, c6, c7] : List Int32)) (bs := ([c0, c1, c2, c3, c4, c5, c6, c7] : List Int32).map (fun c => c.toInt8.toInt32)) (n := 8) g_b129 Z_ E_b129 F_value_b129 F_coder_b129 V_b130 (S_CS.ext O_.2) P_CS rfl rfl (by decide) (by decide) hp147 rfl (by decide) (by decide)) (g := (mkF m 376 #[.val (.int (8 : Int32)), .val (.ref a)] [(.ref b130), (.ref b129), (.ref b129)])) rfl (by rw [hml]; rfl) (Steps.refl _) (a := b129) (argsL := [(.ref b130)]) (rest := [(.ref b129)]) (lenOf pd_10 rfl) rfl (Nat.le_of_eq rfl) (hb hby d10_376) (fun _ _ => ⟨rfl, e146, (by decide : 2 + 1 ≤ _), (by decide : 12 + 8 ≤ _)⟩)
    dsimp only [Pt.U, Pt.locs, Pt.cells, Pt.slots] at X148 l148 y148 z148 st148 hQ148
    subst l148 y148 z148
    obtain ⟨rfl, N148q, K148, Ex148, Fc_b129, t148, kb148, gt148, zz148, nt148, Fv_b129, V148⟩ := hQ148
    have N148 := Fr.app N146 N148q
    have zt148 : h146.size ≤ t148 := zz148
    have ne_a_t148 : a ≠ t148 := Nat.ne_of_lt (Nat.lt_of_lt_of_le V_a.lt zt148)
    have ne_b129_t148 : b129 ≠ t148 := Nat.ne_of_lt (Nat.lt_of_lt_of_le E_b129.lt zt148)
    have ne_b130_t148 : b130 ≠ t148 := Nat.ne_of_lt (Nat.lt_of_lt_of_le V_b130.lt zt148)
    have g_t148 : n0 ≤ t148 := Nat.le_trans Z_ zt148
    have sz_t148 : h0.size ≤ t148 := Nat.le_trans Kp.1 zt148
    have V148 : Arv Z T148.heap t148 kb148 .byte (8 : Int32) [(.int c0.toInt8.toInt32), (.int c1.toInt8.toInt32), (.int c2.toInt8.toInt32), (.int c3.toInt8.toInt32), (.int c4.toInt8.toInt32), (.int c5.toInt8.toInt32), (.int c6.toInt8.toInt32), (.int c7.toInt8.toInt32)] (.int (0 : Int32)) := V148
    have Z_ : n0 ≤ T148.heap.size := Nat.le_trans Z_ K148.1
    have V_a := V_a.keep K148 (ninS ne_a_b129 nin0)
    have E_b129 := E_b129.keep K148
    have V_b130 := V_b130.keep K148 (ninS (Ne.symm ne_b129_b130) nin0)
    have E_b130 := E_b130.keep K148
    have O_ := O_.keep K148 (allS g_b129 all0)
    have Kp := Kp.trans K148 (allS (Or.inr sz_b129) all0)
    have sf_b130' := Safe.keep K148 (sfS sf_b129 sf0) CR.1 sf_b130
    have sf_b129' := Safe.keep K148 (sfS sf_b129 sf0) CR.1 sf_b129
    have CR := CR.trans (CHr.keep K148 (sfS sf_b129 sf0) CR.1)
    have hk_ := Nat.le_trans hk_ K148.1
    have sf_b129 := sf_b129'
    have sf_b130 := sf_b130'
    refine .st (fun _ => st148.trans) ?_
    show OwnGoW p e below s Z own_EL _ _ _ T148 (mkF m 379 _ [(.ref b129)])
    exact OwnGoW.ret (s := s) (vm0 := s.vm) X148 hS_ hk_ rfl hZ (own_hEL hw) CR hx hret hlk rfl (Or.inr (Or.inr (Or.inr (Or.inr ⟨rfl, rfl, rfl⟩)))) (hb hby d10_379) (by show Qmk Z (8 : Int32) a ka c0 c1 c2 c3 c4 c5 c6 c7 c8 c9 zc h0 n0 _ T148.heap _; exact ⟨b129, t148, kb148, [c0.toInt8.toInt32, c1.toInt8.toInt32, c2.toInt8.toInt32, c3.toInt8.toInt32, c4.toInt8.toInt32, c5.toInt8.toInt32, c6.toInt8.toInt32, c7.toInt8.toInt32], rfl, N148, Kp, E_b129, Fc_b129, Fv_b129, V148, (by show 8 < 2 ^ 31; decide)⟩) (by decide) (by decide)
  · show OwnGoW p e below s Z own_EL _ _ _ s₁ (mkF m 1 _ [(.int (9 : Int32))])
    clear hn hn'
    refine .tswIn (pc := 1) X0 hx 380 (hb hby d10_1) own_ts10_1_9.1 own_ts10_1_9.2 (by decide) (by decide) ?_
    obtain ⟨T149, h149, X149, e149, E149, A149, D149, -, st149⟩ := newO X0 hx hZ hown (W_ hw 57 rfl) (W_ hw 2 rfl) (W_ hw 1 rfl) e0 (g := (mkF m 380 #[.val (.int (9 : Int32)), .val (.ref a)] [])) rfl (hb hby d10_380) (by decide) (by decide)
    obtain ⟨b149, g149⟩ : ∃ z, z = h0.size := ⟨_, rfl⟩
    rw [← g149] at A149 D149 st149
    have ne_a_b149 : a ≠ b149 := Nat.ne_of_lt (Nat.lt_of_lt_of_le V_a.lt (Nat.le_of_eq g149.symm))
    have g_b149 : n0 ≤ b149 := Nat.le_trans Z_ (Nat.le_of_eq g149.symm)
    have sf_b149 : Safe Z own_EL s.vm h0 b149 := Safe.new (Nat.le_of_eq g149.symm)
    have sz_b149 : h0.size ≤ b149 := Nat.le_trans Kp.1 (Nat.le_of_eq g149.symm)
    have V_a := V_a.ext E149
    have O_ := O_.ext E149
    have Kp := Kp.ext E149
    have sf_b149 := Safe.ext E149 CR.1 sf_b149
    have CR := CR.trans (CHr.ext E149 CR.1)
    have hk_ := Nat.le_trans hk_ E149.1
    have Z_ : n0 ≤ h149.size := Nat.le_trans Z_ E149.1
    have E_b149 := A149
    have F_value_b149 : Fld Z h149 b149 "java/lang/String" "value" "[B" .null := D149 (Or.inr (W_ hw 4 rfl)) (ty := (.array .byte)) (by decide)
    have F_coder_b149 : Fld Z h149 b149 "java/lang/String" "coder" "B" (.int (0 : Int32)) := D149 (Or.inr (W_ hw 5 rfl)) (ty := .byte) (by decide)
    refine .st st149 ?_
    show OwnGoW p e below s Z own_EL _ _ _ T149 (mkF m 383 _ [(.ref b149)])
    refine .dup X149 hx (hb hby d10_383) rfl ?_
    refine .bipush X149 hx (hb hby d10_384) own_kb9 ?_
    obtain ⟨T150, h150, k150, X150, e150, E150, A150, Ex150, st150⟩ := newPE X149 hx hZ (W_ hw 23 rfl) e149 (g := (mkF m 386 #[.val (.int (9 : Int32)), .val (.ref a)] [(.int (9 : Int32)), (.ref b149), (.ref b149)])) rfl (hb hby d10_386) rfl (by decide) (cap := 9) (by decide) (by decide) (by decide) (by decide) (ad := "[C") (by decide)
    obtain ⟨b150, g150⟩ : ∃ z, z = h149.size := ⟨_, rfl⟩
    rw [← g150] at A150 Ex150 st150
    have ne_a_b150 : a ≠ b150 := Nat.ne_of_lt (Nat.lt_of_lt_of_le V_a.lt (Nat.le_of_eq g150.symm))
    have ne_b149_b150 : b149 ≠ b150 := Nat.ne_of_lt (Nat.lt_of_lt_of_le E_b149.lt (Nat.le_of_eq g150.symm))
    have g_b150 : n0 ≤ b150 := Nat.le_trans Z_ (Nat.le_of_eq g150.symm)
    have sf_b150 : Safe Z own_EL s.vm h149 b150 := Safe.new (Nat.le_of_eq g150.symm)
    have sz_b150 : h0.size ≤ b150 := Nat.le_trans Kp.1 (Nat.le_of_eq g150.symm)
    have V_a := V_a.ext E150
    have E_b149 := E_b149.ext E150
    have F_value_b149 := F_value_b149.ext E150
    have F_coder_b149 := F_coder_b149.ext E150
    have O_ := O_.ext E150
    have Kp := Kp.ext E150
    have sf_b149 := Safe.ext E150 CR.1 sf_b149
    have sf_b150 := Safe.ext E150 CR.1 sf_b150
    have CR := CR.trans (CHr.ext E150 CR.1)
    have hk_ := Nat.le_trans hk_ E150.1
    have Z_ : n0 ≤ h150.size := Nat.le_trans Z_ E150.1
    have V_b150 : Arv Z h150 b150 k150 .char (9 : Int32) [(.int (0 : Int32)), (.int (0 : Int32)), (.int (0 : Int32)), (.int (0 : Int32)), (.int (0 : Int32)), (.int (0 : Int32)), (.int (0 : Int32)), (.int (0 : Int32)), (.int (0 : Int32))] (.int (0 : Int32)) := (Arv.new A150 (by decide)).pad (pad_rep [] (.int (0 : Int32)) 9)
    have E_b150 := Ex150
    refine .st st150 ?_
    show OwnGoW p e below s Z own_EL _ _ _ T150 (mkF m 388 _ [(.ref b150), (.ref b149), (.ref b149)])
    refine .dup X150 hx (hb hby d10_388) rfl ?_
    refine .iconst X150 hx (hb hby d10_389) own_ki0 ?_
    refine .aloadN X150 hx (hb hby d10_390) rfl rfl ?_
    refine .iconst X150 hx (hb hby d10_391) own_ki0 ?_
    obtain ⟨cl151, Ar151, -, S151, -, H151, -⟩ := id V_a
    have hin151 : ¬ ((0 : Int32) < 0 ∨ cl151.slots.size ≤ ((0 : Int32)).toNatClampNeg) := inb_of S151 ⟨by decide, by decide⟩
    refine .st (fun _ => X150.caload hx (j := (0 : Int32)) (v := (.int c0)) (by first | exact Ar151.1 | (rw [e150]; exact Ar151.1)) (State.isArrayOf_alike hZ.alike Ar151.2.1) Ar151.2.2 hin151 (H151.at hin151 rfl) (g := (mkF m 392 #[.val (.int (9 : Int32)), .val (.ref a)] [(.int (0 : Int32)), (.ref a), (.int (0 : Int32)), (.ref b150), (.ref b150), (.ref b149), (.ref b149)])) rfl rfl (hb hby d10_392) _) ?_
    show OwnGoW p e below s Z own_EL _ _ _ T150 (mkF m 393 _ [(.int c0), (.int (0 : Int32)), (.ref b150), (.ref b150), (.ref b149), (.ref b149)])
    obtain ⟨cl152, Ar152, q152, S152, N152, H152, G152⟩ := id V_b150
    have hin152 : ¬ ((0 : Int32) < 0 ∨ cl152.slots.size ≤ ((0 : Int32)).toNatClampNeg) := inb_of S152 ⟨by decide, by decide⟩
    obtain ⟨T152, h152, X152, e152, W152, st152⟩ := stC X150 hx hZ e150 Ar152 (j := (0 : Int32)) hin152 (g := (mkF m 393 #[.val (.int (9 : Int32)), .val (.ref a)] [(.int c0), (.int (0 : Int32)), (.ref b150), (.ref b150), (.ref b149), (.ref b149)])) rfl rfl (hb hby d10_393)
    have V_b150 : Arv Z h152 b150 k150 .char (9 : Int32) [(.int (nar .char c0)), (.int (0 : Int32)), (.int (0 : Int32)), (.int (0 : Int32)), (.int (0 : Int32)), (.int (0 : Int32)), (.int (0 : Int32)), (.int (0 : Int32)), (.int (0 : Int32))] (.int (0 : Int32)) := Arv.set Ar152 q152 S152 N152 H152 G152 (fits_nar_char _) W152 0 rfl (Nat.le_of_ble_eq_true rfl)
    rw [show nar .char c0 = c0 from (own_lnc hp_c0)] at V_b150
    have V_a := V_a.other W152 ne_a_b150
    have E_b149 := E_b149.wr W152
    have F_value_b149 := F_value_b149.other W152 (Or.inl ne_b149_b150)
    have F_coder_b149 := F_coder_b149.other W152 (Or.inl ne_b149_b150)
    have E_b150 := E_b150.wr W152
    have O_ := O_.wr W152 g_b150
    have Kp := Kp.wr W152 (Or.inr sz_b150)
    have sf_ := sf_b150
    have CR0 := CR.1
    have CR := CR.trans (CHr.wr W152 sf_ CR.1)
    have sf_b149 := Safe.wr W152 sf_ CR0 sf_b149
    have sf_b150 := Safe.wr W152 sf_ CR0 sf_b150
    have hk_ := Nat.le_trans hk_ (Nat.le_of_eq W152.size.symm)
    have N152 := Fr.snoc X152 N0 g_b150
    have Z_ : n0 ≤ h152.size := by rw [W152.size]; exact Z_
    refine .st st152 ?_
    show OwnGoW p e below s Z own_EL _ _ _ T152 (mkF m 394 _ [(.ref b150), (.ref b149), (.ref b149)])
    refine .dup X152 hx (hb hby d10_394) rfl ?_
    refine .iconst X152 hx (hb hby d10_395) own_ki1 ?_
    refine .aloadN X152 hx (hb hby d10_396) rfl rfl ?_
    refine .iconst X152 hx (hb hby d10_397) own_ki1 ?_
    obtain ⟨cl153, Ar153, -, S153, -, H153, -⟩ := id V_a
    have hin153 : ¬ ((1 : Int32) < 0 ∨ cl153.slots.size ≤ ((1 : Int32)).toNatClampNeg) := inb_of S153 ⟨by decide, by decide⟩
    refine .st (fun _ => X152.caload hx (j := (1 : Int32)) (v := (.int c1)) (by first | exact Ar153.1 | (rw [e152]; exact Ar153.1)) (State.isArrayOf_alike hZ.alike Ar153.2.1) Ar153.2.2 hin153 (H153.at hin153 rfl) (g := (mkF m 398 #[.val (.int (9 : Int32)), .val (.ref a)] [(.int (1 : Int32)), (.ref a), (.int (1 : Int32)), (.ref b150), (.ref b150), (.ref b149), (.ref b149)])) rfl rfl (hb hby d10_398) _) ?_
    show OwnGoW p e below s Z own_EL _ _ _ T152 (mkF m 399 _ [(.int c1), (.int (1 : Int32)), (.ref b150), (.ref b150), (.ref b149), (.ref b149)])
    obtain ⟨cl154, Ar154, q154, S154, N154, H154, G154⟩ := id V_b150
    have hin154 : ¬ ((1 : Int32) < 0 ∨ cl154.slots.size ≤ ((1 : Int32)).toNatClampNeg) := inb_of S154 ⟨by decide, by decide⟩
    obtain ⟨T154, h154, X154, e154, W154, st154⟩ := stC X152 hx hZ e152 Ar154 (j := (1 : Int32)) hin154 (g := (mkF m 399 #[.val (.int (9 : Int32)), .val (.ref a)] [(.int c1), (.int (1 : Int32)), (.ref b150), (.ref b150), (.ref b149), (.ref b149)])) rfl rfl (hb hby d10_399)
    have V_b150 : Arv Z h154 b150 k150 .char (9 : Int32) [(.int c0), (.int (nar .char c1)), (.int (0 : Int32)), (.int (0 : Int32)), (.int (0 : Int32)), (.int (0 : Int32)), (.int (0 : Int32)), (.int (0 : Int32)), (.int (0 : Int32))] (.int (0 : Int32)) := Arv.set Ar154 q154 S154 N154 H154 G154 (fits_nar_char _) W154 1 rfl (Nat.le_of_ble_eq_true rfl)
    rw [show nar .char c1 = c1 from (own_lnc hp_c1)] at V_b150
    have V_a := V_a.other W154 ne_a_b150
    have E_b149 := E_b149.wr W154
    have F_value_b149 := F_value_b149.other W154 (Or.inl ne_b149_b150)
    have F_coder_b149 := F_coder_b149.other W154 (Or.inl ne_b149_b150)
    have E_b150 := E_b150.wr W154
    have O_ := O_.wr W154 g_b150
    have Kp := Kp.wr W154 (Or.inr sz_b150)
    have sf_ := sf_b150
    have CR0 := CR.1
    have CR := CR.trans (CHr.wr W154 sf_ CR.1)
    have sf_b149 := Safe.wr W154 sf_ CR0 sf_b149
    have sf_b150 := Safe.wr W154 sf_ CR0 sf_b150
    have hk_ := Nat.le_trans hk_ (Nat.le_of_eq W154.size.symm)
    have N154 := Fr.snoc X154 N152 g_b150
    have Z_ : n0 ≤ h154.size := by rw [W154.size]; exact Z_
    refine .st st154 ?_
    show OwnGoW p e below s Z own_EL _ _ _ T154 (mkF m 400 _ [(.ref b150), (.ref b149), (.ref b149)])
    refine .dup X154 hx (hb hby d10_400) rfl ?_
    refine .iconst X154 hx (hb hby d10_401) own_ki2 ?_
    refine .aloadN X154 hx (hb hby d10_402) rfl rfl ?_
    refine .iconst X154 hx (hb hby d10_403) own_ki2 ?_
    obtain ⟨cl155, Ar155, -, S155, -, H155, -⟩ := id V_a
    have hin155 : ¬ ((2 : Int32) < 0 ∨ cl155.slots.size ≤ ((2 : Int32)).toNatClampNeg) := inb_of S155 ⟨by decide, by decide⟩
    refine .st (fun _ => X154.caload hx (j := (2 : Int32)) (v := (.int c2)) (by first | exact Ar155.1 | (rw [e154]; exact Ar155.1)) (State.isArrayOf_alike hZ.alike Ar155.2.1) Ar155.2.2 hin155 (H155.at hin155 rfl) (g := (mkF m 404 #[.val (.int (9 : Int32)), .val (.ref a)] [(.int (2 : Int32)), (.ref a), (.int (2 : Int32)), (.ref b150), (.ref b150), (.ref b149), (.ref b149)])) rfl rfl (hb hby d10_404) _) ?_
    show OwnGoW p e below s Z own_EL _ _ _ T154 (mkF m 405 _ [(.int c2), (.int (2 : Int32)), (.ref b150), (.ref b150), (.ref b149), (.ref b149)])
    obtain ⟨cl156, Ar156, q156, S156, N156, H156, G156⟩ := id V_b150
    have hin156 : ¬ ((2 : Int32) < 0 ∨ cl156.slots.size ≤ ((2 : Int32)).toNatClampNeg) := inb_of S156 ⟨by decide, by decide⟩
    obtain ⟨T156, h156, X156, e156, W156, st156⟩ := stC X154 hx hZ e154 Ar156 (j := (2 : Int32)) hin156 (g := (mkF m 405 #[.val (.int (9 : Int32)), .val (.ref a)] [(.int c2), (.int (2 : Int32)), (.ref b150), (.ref b150), (.ref b149), (.ref b149)])) rfl rfl (hb hby d10_405)
    have V_b150 : Arv Z h156 b150 k150 .char (9 : Int32) [(.int c0), (.int c1), (.int (nar .char c2)), (.int (0 : Int32)), (.int (0 : Int32)), (.int (0 : Int32)), (.int (0 : Int32)), (.int (0 : Int32)), (.int (0 : Int32))] (.int (0 : Int32)) := Arv.set Ar156 q156 S156 N156 H156 G156 (fits_nar_char _) W156 2 rfl (Nat.le_of_ble_eq_true rfl)
    rw [show nar .char c2 = c2 from (own_lnc hp_c2)] at V_b150
    have V_a := V_a.other W156 ne_a_b150
    have E_b149 := E_b149.wr W156
    have F_value_b149 := F_value_b149.other W156 (Or.inl ne_b149_b150)
    have F_coder_b149 := F_coder_b149.other W156 (Or.inl ne_b149_b150)
    have E_b150 := E_b150.wr W156
    have O_ := O_.wr W156 g_b150
    have Kp := Kp.wr W156 (Or.inr sz_b150)
    have sf_ := sf_b150
    have CR0 := CR.1
    have CR := CR.trans (CHr.wr W156 sf_ CR.1)
    have sf_b149 := Safe.wr W156 sf_ CR0 sf_b149
    have sf_b150 := Safe.wr W156 sf_ CR0 sf_b150
    have hk_ := Nat.le_trans hk_ (Nat.le_of_eq W156.size.symm)
    have N156 := Fr.snoc X156 N154 g_b150
    have Z_ : n0 ≤ h156.size := by rw [W156.size]; exact Z_
    refine .st st156 ?_
    show OwnGoW p e below s Z own_EL _ _ _ T156 (mkF m 406 _ [(.ref b150), (.ref b149), (.ref b149)])
    refine .dup X156 hx (hb hby d10_406) rfl ?_
    refine .iconst X156 hx (hb hby d10_407) own_ki3 ?_
    refine .aloadN X156 hx (hb hby d10_408) rfl rfl ?_
    refine .iconst X156 hx (hb hby d10_409) own_ki3 ?_
    obtain ⟨cl157, Ar157, -, S157, -, H157, -⟩ := id V_a
    have hin157 : ¬ ((3 : Int32) < 0 ∨ cl157.slots.size ≤ ((3 : Int32)).toNatClampNeg) := inb_of S157 ⟨by decide, by decide⟩
    refine .st (fun _ => X156.caload hx (j := (3 : Int32)) (v := (.int c3)) (by first | exact Ar157.1 | (rw [e156]; exact Ar157.1)) (State.isArrayOf_alike hZ.alike Ar157.2.1) Ar157.2.2 hin157 (H157.at hin157 rfl) (g := (mkF m 410 #[.val (.int (9 : Int32)), .val (.ref a)] [(.int (3 : Int32)), (.ref a), (.int (3 : Int32)), (.ref b150), (.ref b150), (.ref b149), (.ref b149)])) rfl rfl (hb hby d10_410) _) ?_
    show OwnGoW p e below s Z own_EL _ _ _ T156 (mkF m 411 _ [(.int c3), (.int (3 : Int32)), (.ref b150), (.ref b150), (.ref b149), (.ref b149)])
    obtain ⟨cl158, Ar158, q158, S158, N158, H158, G158⟩ := id V_b150
    have hin158 : ¬ ((3 : Int32) < 0 ∨ cl158.slots.size ≤ ((3 : Int32)).toNatClampNeg) := inb_of S158 ⟨by decide, by decide⟩
    obtain ⟨T158, h158, X158, e158, W158, st158⟩ := stC X156 hx hZ e156 Ar158 (j := (3 : Int32)) hin158 (g := (mkF m 411 #[.val (.int (9 : Int32)), .val (.ref a)] [(.int c3), (.int (3 : Int32)), (.ref b150), (.ref b150), (.ref b149), (.ref b149)])) rfl rfl (hb hby d10_411)
    have V_b150 : Arv Z h158 b150 k150 .char (9 : Int32) [(.int c0), (.int c1), (.int c2), (.int (nar .char c3)), (.int (0 : Int32)), (.int (0 : Int32)), (.int (0 : Int32)), (.int (0 : Int32)), (.int (0 : Int32))] (.int (0 : Int32)) := Arv.set Ar158 q158 S158 N158 H158 G158 (fits_nar_char _) W158 3 rfl (Nat.le_of_ble_eq_true rfl)
    rw [show nar .char c3 = c3 from (own_lnc hp_c3)] at V_b150
    have V_a := V_a.other W158 ne_a_b150
    have E_b149 := E_b149.wr W158
    have F_value_b149 := F_value_b149.other W158 (Or.inl ne_b149_b150)
    have F_coder_b149 := F_coder_b149.other W158 (Or.inl ne_b149_b150)
    have E_b150 := E_b150.wr W158
    have O_ := O_.wr W158 g_b150
    have Kp := Kp.wr W158 (Or.inr sz_b150)
    have sf_ := sf_b150
    have CR0 := CR.1
    have CR := CR.trans (CHr.wr W158 sf_ CR.1)
    have sf_b149 := Safe.wr W158 sf_ CR0 sf_b149
    have sf_b150 := Safe.wr W158 sf_ CR0 sf_b150
    have hk_ := Nat.le_trans hk_ (Nat.le_of_eq W158.size.symm)
    have N158 := Fr.snoc X158 N156 g_b150
    have Z_ : n0 ≤ h158.size := by rw [W158.size]; exact Z_
    refine .st st158 ?_
    show OwnGoW p e below s Z own_EL _ _ _ T158 (mkF m 412 _ [(.ref b150), (.ref b149), (.ref b149)])
    refine .dup X158 hx (hb hby d10_412) rfl ?_
    refine .iconst X158 hx (hb hby d10_413) own_ki4 ?_
    refine .aloadN X158 hx (hb hby d10_414) rfl rfl ?_
    refine .iconst X158 hx (hb hby d10_415) own_ki4 ?_
    obtain ⟨cl159, Ar159, -, S159, -, H159, -⟩ := id V_a
    have hin159 : ¬ ((4 : Int32) < 0 ∨ cl159.slots.size ≤ ((4 : Int32)).toNatClampNeg) := inb_of S159 ⟨by decide, by decide⟩
    refine .st (fun _ => X158.caload hx (j := (4 : Int32)) (v := (.int c4)) (by first | exact Ar159.1 | (rw [e158]; exact Ar159.1)) (State.isArrayOf_alike hZ.alike Ar159.2.1) Ar159.2.2 hin159 (H159.at hin159 rfl) (g := (mkF m 416 #[.val (.int (9 : Int32)), .val (.ref a)] [(.int (4 : Int32)), (.ref a), (.int (4 : Int32)), (.ref b150), (.ref b150), (.ref b149), (.ref b149)])) rfl rfl (hb hby d10_416) _) ?_
    show OwnGoW p e below s Z own_EL _ _ _ T158 (mkF m 417 _ [(.int c4), (.int (4 : Int32)), (.ref b150), (.ref b150), (.ref b149), (.ref b149)])
    obtain ⟨cl160, Ar160, q160, S160, N160, H160, G160⟩ := id V_b150
    have hin160 : ¬ ((4 : Int32) < 0 ∨ cl160.slots.size ≤ ((4 : Int32)).toNatClampNeg) := inb_of S160 ⟨by decide, by decide⟩
    obtain ⟨T160, h160, X160, e160, W160, st160⟩ := stC X158 hx hZ e158 Ar160 (j := (4 : Int32)) hin160 (g := (mkF m 417 #[.val (.int (9 : Int32)), .val (.ref a)] [(.int c4), (.int (4 : Int32)), (.ref b150), (.ref b150), (.ref b149), (.ref b149)])) rfl rfl (hb hby d10_417)
    have V_b150 : Arv Z h160 b150 k150 .char (9 : Int32) [(.int c0), (.int c1), (.int c2), (.int c3), (.int (nar .char c4)), (.int (0 : Int32)), (.int (0 : Int32)), (.int (0 : Int32)), (.int (0 : Int32))] (.int (0 : Int32)) := Arv.set Ar160 q160 S160 N160 H160 G160 (fits_nar_char _) W160 4 rfl (Nat.le_of_ble_eq_true rfl)
    rw [show nar .char c4 = c4 from (own_lnc hp_c4)] at V_b150
    have V_a := V_a.other W160 ne_a_b150
    have E_b149 := E_b149.wr W160
    have F_value_b149 := F_value_b149.other W160 (Or.inl ne_b149_b150)
    have F_coder_b149 := F_coder_b149.other W160 (Or.inl ne_b149_b150)
    have E_b150 := E_b150.wr W160
    have O_ := O_.wr W160 g_b150
    have Kp := Kp.wr W160 (Or.inr sz_b150)
    have sf_ := sf_b150
    have CR0 := CR.1
    have CR := CR.trans (CHr.wr W160 sf_ CR.1)
    have sf_b149 := Safe.wr W160 sf_ CR0 sf_b149
    have sf_b150 := Safe.wr W160 sf_ CR0 sf_b150
    have hk_ := Nat.le_trans hk_ (Nat.le_of_eq W160.size.symm)
    have N160 := Fr.snoc X160 N158 g_b150
    have Z_ : n0 ≤ h160.size := by rw [W160.size]; exact Z_
    refine .st st160 ?_
    show OwnGoW p e below s Z own_EL _ _ _ T160 (mkF m 418 _ [(.ref b150), (.ref b149), (.ref b149)])
    refine .dup X160 hx (hb hby d10_418) rfl ?_
    refine .iconst X160 hx (hb hby d10_419) own_ki5 ?_
    refine .aloadN X160 hx (hb hby d10_420) rfl rfl ?_
    refine .iconst X160 hx (hb hby d10_421) own_ki5 ?_
    obtain ⟨cl161, Ar161, -, S161, -, H161, -⟩ := id V_a
    have hin161 : ¬ ((5 : Int32) < 0 ∨ cl161.slots.size ≤ ((5 : Int32)).toNatClampNeg) := inb_of S161 ⟨by decide, by decide⟩
    refine .st (fun _ => X160.caload hx (j := (5 : Int32)) (v := (.int c5)) (by first | exact Ar161.1 | (rw [e160]; exact Ar161.1)) (State.isArrayOf_alike hZ.alike Ar161.2.1) Ar161.2.2 hin161 (H161.at hin161 rfl) (g := (mkF m 422 #[.val (.int (9 : Int32)), .val (.ref a)] [(.int (5 : Int32)), (.ref a), (.int (5 : Int32)), (.ref b150), (.ref b150), (.ref b149), (.ref b149)])) rfl rfl (hb hby d10_422) _) ?_
    show OwnGoW p e below s Z own_EL _ _ _ T160 (mkF m 423 _ [(.int c5), (.int (5 : Int32)), (.ref b150), (.ref b150), (.ref b149), (.ref b149)])
    obtain ⟨cl162, Ar162, q162, S162, N162, H162, G162⟩ := id V_b150
    have hin162 : ¬ ((5 : Int32) < 0 ∨ cl162.slots.size ≤ ((5 : Int32)).toNatClampNeg) := inb_of S162 ⟨by decide, by decide⟩
    obtain ⟨T162, h162, X162, e162, W162, st162⟩ := stC X160 hx hZ e160 Ar162 (j := (5 : Int32)) hin162 (g := (mkF m 423 #[.val (.int (9 : Int32)), .val (.ref a)] [(.int c5), (.int (5 : Int32)), (.ref b150), (.ref b150), (.ref b149), (.ref b149)])) rfl rfl (hb hby d10_423)
    have V_b150 : Arv Z h162 b150 k150 .char (9 : Int32) [(.int c0), (.int c1), (.int c2), (.int c3), (.int c4), (.int (nar .char c5)), (.int (0 : Int32)), (.int (0 : Int32)), (.int (0 : Int32))] (.int (0 : Int32)) := Arv.set Ar162 q162 S162 N162 H162 G162 (fits_nar_char _) W162 5 rfl (Nat.le_of_ble_eq_true rfl)
    rw [show nar .char c5 = c5 from (own_lnc hp_c5)] at V_b150
    have V_a := V_a.other W162 ne_a_b150
    have E_b149 := E_b149.wr W162
    have F_value_b149 := F_value_b149.other W162 (Or.inl ne_b149_b150)
    have F_coder_b149 := F_coder_b149.other W162 (Or.inl ne_b149_b150)
    have E_b150 := E_b150.wr W162
    have O_ := O_.wr W162 g_b150
    have Kp := Kp.wr W162 (Or.inr sz_b150)
    have sf_ := sf_b150
    have CR0 := CR.1
    have CR := CR.trans (CHr.wr W162 sf_ CR.1)
    have sf_b149 := Safe.wr W162 sf_ CR0 sf_b149
    have sf_b150 := Safe.wr W162 sf_ CR0 sf_b150
    have hk_ := Nat.le_trans hk_ (Nat.le_of_eq W162.size.symm)
    have N162 := Fr.snoc X162 N160 g_b150
    have Z_ : n0 ≤ h162.size := by rw [W162.size]; exact Z_
    refine .st st162 ?_
    show OwnGoW p e below s Z own_EL _ _ _ T162 (mkF m 424 _ [(.ref b150), (.ref b149), (.ref b149)])
    refine .dup X162 hx (hb hby d10_424) rfl ?_
    refine .bipush X162 hx (hb hby d10_425) own_kb6 ?_
    refine .aloadN X162 hx (hb hby d10_427) rfl rfl ?_
    refine .bipush X162 hx (hb hby d10_428) own_kb6 ?_
    obtain ⟨cl163, Ar163, -, S163, -, H163, -⟩ := id V_a
    have hin163 : ¬ ((6 : Int32) < 0 ∨ cl163.slots.size ≤ ((6 : Int32)).toNatClampNeg) := inb_of S163 ⟨by decide, by decide⟩
    refine .st (fun _ => X162.caload hx (j := (6 : Int32)) (v := (.int c6)) (by first | exact Ar163.1 | (rw [e162]; exact Ar163.1)) (State.isArrayOf_alike hZ.alike Ar163.2.1) Ar163.2.2 hin163 (H163.at hin163 rfl) (g := (mkF m 430 #[.val (.int (9 : Int32)), .val (.ref a)] [(.int (6 : Int32)), (.ref a), (.int (6 : Int32)), (.ref b150), (.ref b150), (.ref b149), (.ref b149)])) rfl rfl (hb hby d10_430) _) ?_
    show OwnGoW p e below s Z own_EL _ _ _ T162 (mkF m 431 _ [(.int c6), (.int (6 : Int32)), (.ref b150), (.ref b150), (.ref b149), (.ref b149)])
    obtain ⟨cl164, Ar164, q164, S164, N164, H164, G164⟩ := id V_b150
    have hin164 : ¬ ((6 : Int32) < 0 ∨ cl164.slots.size ≤ ((6 : Int32)).toNatClampNeg) := inb_of S164 ⟨by decide, by decide⟩
    obtain ⟨T164, h164, X164, e164, W164, st164⟩ := stC X162 hx hZ e162 Ar164 (j := (6 : Int32)) hin164 (g := (mkF m 431 #[.val (.int (9 : Int32)), .val (.ref a)] [(.int c6), (.int (6 : Int32)), (.ref b150), (.ref b150), (.ref b149), (.ref b149)])) rfl rfl (hb hby d10_431)
    have V_b150 : Arv Z h164 b150 k150 .char (9 : Int32) [(.int c0), (.int c1), (.int c2), (.int c3), (.int c4), (.int c5), (.int (nar .char c6)), (.int (0 : Int32)), (.int (0 : Int32))] (.int (0 : Int32)) := Arv.set Ar164 q164 S164 N164 H164 G164 (fits_nar_char _) W164 6 rfl (Nat.le_of_ble_eq_true rfl)
    rw [show nar .char c6 = c6 from (own_lnc hp_c6)] at V_b150
    have V_a := V_a.other W164 ne_a_b150
    have E_b149 := E_b149.wr W164
    have F_value_b149 := F_value_b149.other W164 (Or.inl ne_b149_b150)
    have F_coder_b149 := F_coder_b149.other W164 (Or.inl ne_b149_b150)
    have E_b150 := E_b150.wr W164
    have O_ := O_.wr W164 g_b150
    have Kp := Kp.wr W164 (Or.inr sz_b150)
    have sf_ := sf_b150
    have CR0 := CR.1
    have CR := CR.trans (CHr.wr W164 sf_ CR.1)
    have sf_b149 := Safe.wr W164 sf_ CR0 sf_b149
    have sf_b150 := Safe.wr W164 sf_ CR0 sf_b150
    have hk_ := Nat.le_trans hk_ (Nat.le_of_eq W164.size.symm)
    have N164 := Fr.snoc X164 N162 g_b150
    have Z_ : n0 ≤ h164.size := by rw [W164.size]; exact Z_
    refine .st st164 ?_
    show OwnGoW p e below s Z own_EL _ _ _ T164 (mkF m 432 _ [(.ref b150), (.ref b149), (.ref b149)])
    refine .dup X164 hx (hb hby d10_432) rfl ?_
    refine .bipush X164 hx (hb hby d10_433) own_kb7 ?_
    refine .aloadN X164 hx (hb hby d10_435) rfl rfl ?_
    refine .bipush X164 hx (hb hby d10_436) own_kb7 ?_
    obtain ⟨cl165, Ar165, -, S165, -, H165, -⟩ := id V_a
    have hin165 : ¬ ((7 : Int32) < 0 ∨ cl165.slots.size ≤ ((7 : Int32)).toNatClampNeg) := inb_of S165 ⟨by decide, by decide⟩
    refine .st (fun _ => X164.caload hx (j := (7 : Int32)) (v := (.int c7)) (by first | exact Ar165.1 | (rw [e164]; exact Ar165.1)) (State.isArrayOf_alike hZ.alike Ar165.2.1) Ar165.2.2 hin165 (H165.at hin165 rfl) (g := (mkF m 438 #[.val (.int (9 : Int32)), .val (.ref a)] [(.int (7 : Int32)), (.ref a), (.int (7 : Int32)), (.ref b150), (.ref b150), (.ref b149), (.ref b149)])) rfl rfl (hb hby d10_438) _) ?_
    show OwnGoW p e below s Z own_EL _ _ _ T164 (mkF m 439 _ [(.int c7), (.int (7 : Int32)), (.ref b150), (.ref b150), (.ref b149), (.ref b149)])
    obtain ⟨cl166, Ar166, q166, S166, N166, H166, G166⟩ := id V_b150
    have hin166 : ¬ ((7 : Int32) < 0 ∨ cl166.slots.size ≤ ((7 : Int32)).toNatClampNeg) := inb_of S166 ⟨by decide, by decide⟩
    obtain ⟨T166, h166, X166, e166, W166, st166⟩ := stC X164 hx hZ e164 Ar166 (j := (7 : Int32)) hin166 (g := (mkF m 439 #[.val (.int (9 : Int32)), .val (.ref a)] [(.int c7), (.int (7 : Int32)), (.ref b150), (.ref b150), (.ref b149), (.ref b149)])) rfl rfl (hb hby d10_439)
    have V_b150 : Arv Z h166 b150 k150 .char (9 : Int32) [(.int c0), (.int c1), (.int c2), (.int c3), (.int c4), (.int c5), (.int c6), (.int (nar .char c7)), (.int (0 : Int32))] (.int (0 : Int32)) := Arv.set Ar166 q166 S166 N166 H166 G166 (fits_nar_char _) W166 7 rfl (Nat.le_of_ble_eq_true rfl)
    rw [show nar .char c7 = c7 from (own_lnc hp_c7)] at V_b150
    have V_a := V_a.other W166 ne_a_b150
    have E_b149 := E_b149.wr W166
    have F_value_b149 := F_value_b149.other W166 (Or.inl ne_b149_b150)
    have F_coder_b149 := F_coder_b149.other W166 (Or.inl ne_b149_b150)
    have E_b150 := E_b150.wr W166
    have O_ := O_.wr W166 g_b150
    have Kp := Kp.wr W166 (Or.inr sz_b150)
    have sf_ := sf_b150
    have CR0 := CR.1
    have CR := CR.trans (CHr.wr W166 sf_ CR.1)
    have sf_b149 := Safe.wr W166 sf_ CR0 sf_b149
    have sf_b150 := Safe.wr W166 sf_ CR0 sf_b150
    have hk_ := Nat.le_trans hk_ (Nat.le_of_eq W166.size.symm)
    have N166 := Fr.snoc X166 N164 g_b150
    have Z_ : n0 ≤ h166.size := by rw [W166.size]; exact Z_
    refine .st st166 ?_
    show OwnGoW p e below s Z own_EL _ _ _ T166 (mkF m 440 _ [(.ref b150), (.ref b149), (.ref b149)])
    refine .dup X166 hx (hb hby d10_440) rfl ?_
    refine .bipush X166 hx (hb hby d10_441) own_kb8 ?_
    refine .aloadN X166 hx (hb hby d10_443) rfl rfl ?_
    refine .bipush X166 hx (hb hby d10_444) own_kb8 ?_
    obtain ⟨cl167, Ar167, -, S167, -, H167, -⟩ := id V_a
    have hin167 : ¬ ((8 : Int32) < 0 ∨ cl167.slots.size ≤ ((8 : Int32)).toNatClampNeg) := inb_of S167 ⟨by decide, by decide⟩
    refine .st (fun _ => X166.caload hx (j := (8 : Int32)) (v := (.int c8)) (by first | exact Ar167.1 | (rw [e166]; exact Ar167.1)) (State.isArrayOf_alike hZ.alike Ar167.2.1) Ar167.2.2 hin167 (H167.at hin167 rfl) (g := (mkF m 446 #[.val (.int (9 : Int32)), .val (.ref a)] [(.int (8 : Int32)), (.ref a), (.int (8 : Int32)), (.ref b150), (.ref b150), (.ref b149), (.ref b149)])) rfl rfl (hb hby d10_446) _) ?_
    show OwnGoW p e below s Z own_EL _ _ _ T166 (mkF m 447 _ [(.int c8), (.int (8 : Int32)), (.ref b150), (.ref b150), (.ref b149), (.ref b149)])
    obtain ⟨cl168, Ar168, q168, S168, N168, H168, G168⟩ := id V_b150
    have hin168 : ¬ ((8 : Int32) < 0 ∨ cl168.slots.size ≤ ((8 : Int32)).toNatClampNeg) := inb_of S168 ⟨by decide, by decide⟩
    obtain ⟨T168, h168, X168, e168, W168, st168⟩ := stC X166 hx hZ e166 Ar168 (j := (8 : Int32)) hin168 (g := (mkF m 447 #[.val (.int (9 : Int32)), .val (.ref a)] [(.int c8), (.int (8 : Int32)), (.ref b150), (.ref b150), (.ref b149), (.ref b149)])) rfl rfl (hb hby d10_447)
    have V_b150 : Arv Z h168 b150 k150 .char (9 : Int32) [(.int c0), (.int c1), (.int c2), (.int c3), (.int c4), (.int c5), (.int c6), (.int c7), (.int (nar .char c8))] (.int (0 : Int32)) := Arv.set Ar168 q168 S168 N168 H168 G168 (fits_nar_char _) W168 8 rfl (Nat.le_of_ble_eq_true rfl)
    rw [show nar .char c8 = c8 from (own_lnc hp_c8)] at V_b150
    have V_a := V_a.other W168 ne_a_b150
    have E_b149 := E_b149.wr W168
    have F_value_b149 := F_value_b149.other W168 (Or.inl ne_b149_b150)
    have F_coder_b149 := F_coder_b149.other W168 (Or.inl ne_b149_b150)
    have E_b150 := E_b150.wr W168
    have O_ := O_.wr W168 g_b150
    have Kp := Kp.wr W168 (Or.inr sz_b150)
    have sf_ := sf_b150
    have CR0 := CR.1
    have CR := CR.trans (CHr.wr W168 sf_ CR.1)
    have sf_b149 := Safe.wr W168 sf_ CR0 sf_b149
    have sf_b150 := Safe.wr W168 sf_ CR0 sf_b150
    have hk_ := Nat.le_trans hk_ (Nat.le_of_eq W168.size.symm)
    have N168 := Fr.snoc X168 N166 g_b150
    have Z_ : n0 ≤ h168.size := by rw [W168.size]; exact Z_
    refine .st st168 ?_
    show OwnGoW p e below s Z own_EL _ _ _ T168 (mkF m 448 _ [(.ref b150), (.ref b149), (.ref b149)])
    have hp169 : ∀ c ∈ ([c0, c1, c2, c3, c4, c5, c6, c7, c8] : List Int32), ¬ c < 0 ∧ ¬ (255 : Int32) < c := by
      intro c hc
      simp only [List.mem_cons, List.not_mem_nil, or_false] at hc
      rcases hc with rfl | rfl | rfl | rfl | rfl | rfl | rfl | rfl | rfl
      · exact hp_c0
      · exact hp_c1
      · exact hp_c2
      · exact hp_c3
      · exact hp_c4
      · exact hp_c5
      · exact hp_c6
      · exact hp_c7
      · exact hp_c8
    obtain ⟨_, _, ⟨T170, L170, k170, n170⟩, -, X170, ⟨Lc170, hQ170, l170, y170, z170⟩, st170⟩ := X168.specialBack hx (y := (⟨"java/lang/String", "<init>", "([C)V"⟩ : MethodName)) rfl hown (mvT hZ (W_ hw 58 rfl)) (mvT hZ (W_ hw 59 rfl)) (mvT hZ (W_ hw 60 rfl)) (by decide) (StrChars.Road.backV (W := 1) hZ (own_ws hw) (kI := 4) (W_ hw 2 rfl) (cs := ([c0, c1, c2, c3, c4, c5, c6, c7, c8] : List Int32)) (bs := ([c0, c1, c2, c3, c4, c5, c6, c7, c8] : List Int32).map (fun c => c.toInt8.toInt32)) (n := 9) g_b149 Z_ E_b149 F_value_b149 F_coder_b149 V_b150 (S_CS.ext O_.2) P_CS rfl rfl (by decide) (by decide) hp169 rfl (by decide) (by decide)) (g := (mkF m 448 #[.val (.int (9 : Int32)), .val (.ref a)] [(.ref b150), (.ref b149), (.ref b149)])) rfl (by rw [hml]; rfl) (Steps.refl _) (a := b149) (argsL := [(.ref b150)]) (rest := [(.ref b149)]) (lenOf pd_10 rfl) rfl (Nat.le_of_eq rfl) (hb hby d10_448) (fun _ _ => ⟨rfl, e168, (by decide : 2 + 1 ≤ _), (by decide : 13 + 9 ≤ _)⟩)
    dsimp only [Pt.U, Pt.locs, Pt.cells, Pt.slots] at X170 l170 y170 z170 st170 hQ170
    subst l170 y170 z170
    obtain ⟨rfl, N170q, K170, Ex170, Fc_b149, t170, kb170, gt170, zz170, nt170, Fv_b149, V170⟩ := hQ170
    have N170 := Fr.app N168 N170q
    have zt170 : h168.size ≤ t170 := zz170
    have ne_a_t170 : a ≠ t170 := Nat.ne_of_lt (Nat.lt_of_lt_of_le V_a.lt zt170)
    have ne_b149_t170 : b149 ≠ t170 := Nat.ne_of_lt (Nat.lt_of_lt_of_le E_b149.lt zt170)
    have ne_b150_t170 : b150 ≠ t170 := Nat.ne_of_lt (Nat.lt_of_lt_of_le V_b150.lt zt170)
    have g_t170 : n0 ≤ t170 := Nat.le_trans Z_ zt170
    have sz_t170 : h0.size ≤ t170 := Nat.le_trans Kp.1 zt170
    have V170 : Arv Z T170.heap t170 kb170 .byte (9 : Int32) [(.int c0.toInt8.toInt32), (.int c1.toInt8.toInt32), (.int c2.toInt8.toInt32), (.int c3.toInt8.toInt32), (.int c4.toInt8.toInt32), (.int c5.toInt8.toInt32), (.int c6.toInt8.toInt32), (.int c7.toInt8.toInt32), (.int c8.toInt8.toInt32)] (.int (0 : Int32)) := V170
    have Z_ : n0 ≤ T170.heap.size := Nat.le_trans Z_ K170.1
    have V_a := V_a.keep K170 (ninS ne_a_b149 nin0)
    have E_b149 := E_b149.keep K170
    have V_b150 := V_b150.keep K170 (ninS (Ne.symm ne_b149_b150) nin0)
    have E_b150 := E_b150.keep K170
    have O_ := O_.keep K170 (allS g_b149 all0)
    have Kp := Kp.trans K170 (allS (Or.inr sz_b149) all0)
    have sf_b150' := Safe.keep K170 (sfS sf_b149 sf0) CR.1 sf_b150
    have sf_b149' := Safe.keep K170 (sfS sf_b149 sf0) CR.1 sf_b149
    have CR := CR.trans (CHr.keep K170 (sfS sf_b149 sf0) CR.1)
    have hk_ := Nat.le_trans hk_ K170.1
    have sf_b149 := sf_b149'
    have sf_b150 := sf_b150'
    refine .st (fun _ => st170.trans) ?_
    show OwnGoW p e below s Z own_EL _ _ _ T170 (mkF m 451 _ [(.ref b149)])
    exact OwnGoW.ret (s := s) (vm0 := s.vm) X170 hS_ hk_ rfl hZ (own_hEL hw) CR hx hret hlk rfl (Or.inr (Or.inr (Or.inr (Or.inr ⟨rfl, rfl, rfl⟩)))) (hb hby d10_451) (by show Qmk Z (9 : Int32) a ka c0 c1 c2 c3 c4 c5 c6 c7 c8 c9 zc h0 n0 _ T170.heap _; exact ⟨b149, t170, kb170, [c0.toInt8.toInt32, c1.toInt8.toInt32, c2.toInt8.toInt32, c3.toInt8.toInt32, c4.toInt8.toInt32, c5.toInt8.toInt32, c6.toInt8.toInt32, c7.toInt8.toInt32, c8.toInt8.toInt32], rfl, N170, Kp, E_b149, Fc_b149, Fv_b149, V170, (by show 9 < 2 ^ 31; decide)⟩) (by decide) (by decide)
  · show OwnGoW p e below s Z own_EL _ _ _ s₁ (mkF m 1 _ [(.int (10 : Int32))])
    clear hn hn'
    refine .tswOut (pc := 1) X0 hx 452 (hb hby d10_1) own_ts10_1_10 (by decide) (by decide) ?_
    obtain ⟨T171, h171, X171, e171, E171, A171, D171, -, st171⟩ := newO X0 hx hZ hown (W_ hw 57 rfl) (W_ hw 2 rfl) (W_ hw 1 rfl) e0 (g := (mkF m 452 #[.val (.int (10 : Int32)), .val (.ref a)] [])) rfl (hb hby d10_452) (by decide) (by decide)
    obtain ⟨b171, g171⟩ : ∃ z, z = h0.size := ⟨_, rfl⟩
    rw [← g171] at A171 D171 st171
    have ne_a_b171 : a ≠ b171 := Nat.ne_of_lt (Nat.lt_of_lt_of_le V_a.lt (Nat.le_of_eq g171.symm))
    have g_b171 : n0 ≤ b171 := Nat.le_trans Z_ (Nat.le_of_eq g171.symm)
    have sf_b171 : Safe Z own_EL s.vm h0 b171 := Safe.new (Nat.le_of_eq g171.symm)
    have sz_b171 : h0.size ≤ b171 := Nat.le_trans Kp.1 (Nat.le_of_eq g171.symm)
    have V_a := V_a.ext E171
    have O_ := O_.ext E171
    have Kp := Kp.ext E171
    have sf_b171 := Safe.ext E171 CR.1 sf_b171
    have CR := CR.trans (CHr.ext E171 CR.1)
    have hk_ := Nat.le_trans hk_ E171.1
    have Z_ : n0 ≤ h171.size := Nat.le_trans Z_ E171.1
    have E_b171 := A171
    have F_value_b171 : Fld Z h171 b171 "java/lang/String" "value" "[B" .null := D171 (Or.inr (W_ hw 4 rfl)) (ty := (.array .byte)) (by decide)
    have F_coder_b171 : Fld Z h171 b171 "java/lang/String" "coder" "B" (.int (0 : Int32)) := D171 (Or.inr (W_ hw 5 rfl)) (ty := .byte) (by decide)
    refine .st st171 ?_
    show OwnGoW p e below s Z own_EL _ _ _ T171 (mkF m 455 _ [(.ref b171)])
    refine .dup X171 hx (hb hby d10_455) rfl ?_
    refine .aloadN X171 hx (hb hby d10_456) rfl rfl ?_
    have hp172 : ∀ c ∈ ([c0, c1, c2, c3, c4, c5, c6, c7, c8, c9] : List Int32), ¬ c < 0 ∧ ¬ (255 : Int32) < c := by
      intro c hc
      simp only [List.mem_cons, List.not_mem_nil, or_false] at hc
      rcases hc with rfl | rfl | rfl | rfl | rfl | rfl | rfl | rfl | rfl | rfl
      · exact hp_c0
      · exact hp_c1
      · exact hp_c2
      · exact hp_c3
      · exact hp_c4
      · exact hp_c5
      · exact hp_c6
      · exact hp_c7
      · exact hp_c8
      · exact hp_c9
    obtain ⟨_, _, ⟨T173, L173, k173, n173⟩, -, X173, ⟨Lc173, hQ173, l173, y173, z173⟩, st173⟩ := X171.specialBack hx (y := (⟨"java/lang/String", "<init>", "([C)V"⟩ : MethodName)) rfl hown (mvT hZ (W_ hw 58 rfl)) (mvT hZ (W_ hw 59 rfl)) (mvT hZ (W_ hw 60 rfl)) (by decide) (StrChars.Road.backV (W := 1) hZ (own_ws hw) (kI := 4) (W_ hw 2 rfl) (cs := ([c0, c1, c2, c3, c4, c5, c6, c7, c8, c9] : List Int32)) (bs := ([c0, c1, c2, c3, c4, c5, c6, c7, c8, c9] : List Int32).map (fun c => c.toInt8.toInt32)) (n := 10) g_b171 Z_ E_b171 F_value_b171 F_coder_b171 V_a (S_CS.ext O_.2) P_CS rfl rfl (by decide) (by decide) hp172 rfl (by decide) (by decide)) (g := (mkF m 457 #[.val (.int (10 : Int32)), .val (.ref a)] [(.ref a), (.ref b171), (.ref b171)])) rfl (by rw [hml]; rfl) (Steps.refl _) (a := b171) (argsL := [(.ref a)]) (rest := [(.ref b171)]) (lenOf pd_10 rfl) rfl (Nat.le_of_eq rfl) (hb hby d10_457) (fun _ _ => ⟨rfl, e171, (by decide : 1 + 1 ≤ _), (by decide : 4 + 10 ≤ _)⟩)
    dsimp only [Pt.U, Pt.locs, Pt.cells, Pt.slots] at X173 l173 y173 z173 st173 hQ173
    subst l173 y173 z173
    obtain ⟨rfl, N173q, K173, Ex173, Fc_b171, t173, kb173, gt173, zz173, nt173, Fv_b171, V173⟩ := hQ173
    have N173 := Fr.app N0 N173q
    have zt173 : h171.size ≤ t173 := zz173
    have ne_a_t173 : a ≠ t173 := Nat.ne_of_lt (Nat.lt_of_lt_of_le V_a.lt zt173)
    have ne_b171_t173 : b171 ≠ t173 := Nat.ne_of_lt (Nat.lt_of_lt_of_le E_b171.lt zt173)
    have g_t173 : n0 ≤ t173 := Nat.le_trans Z_ zt173
    have sz_t173 : h0.size ≤ t173 := Nat.le_trans Kp.1 zt173
    have V173 : Arv Z T173.heap t173 kb173 .byte (10 : Int32) [(.int c0.toInt8.toInt32), (.int c1.toInt8.toInt32), (.int c2.toInt8.toInt32), (.int c3.toInt8.toInt32), (.int c4.toInt8.toInt32), (.int c5.toInt8.toInt32), (.int c6.toInt8.toInt32), (.int c7.toInt8.toInt32), (.int c8.toInt8.toInt32), (.int c9.toInt8.toInt32)] (.int (0 : Int32)) := V173
    have Z_ : n0 ≤ T173.heap.size := Nat.le_trans Z_ K173.1
    have V_a := V_a.keep K173 (ninS ne_a_b171 nin0)
    have E_b171 := E_b171.keep K173
    have O_ := O_.keep K173 (allS g_b171 all0)
    have Kp := Kp.trans K173 (allS (Or.inr sz_b171) all0)
    have sf_b171' := Safe.keep K173 (sfS sf_b171 sf0) CR.1 sf_b171
    have CR := CR.trans (CHr.keep K173 (sfS sf_b171 sf0) CR.1)
    have hk_ := Nat.le_trans hk_ K173.1
    have sf_b171 := sf_b171'
    refine .st (fun _ => st173.trans) ?_
    show OwnGoW p e below s Z own_EL _ _ _ T173 (mkF m 460 _ [(.ref b171)])
    exact OwnGoW.ret (s := s) (vm0 := s.vm) X173 hS_ hk_ rfl hZ (own_hEL hw) CR hx hret hlk rfl (Or.inr (Or.inr (Or.inr (Or.inr ⟨rfl, rfl, rfl⟩)))) (hb hby d10_460) (by show Qmk Z (10 : Int32) a ka c0 c1 c2 c3 c4 c5 c6 c7 c8 c9 zc h0 n0 _ T173.heap _; exact ⟨b171, t173, kb173, [c0.toInt8.toInt32, c1.toInt8.toInt32, c2.toInt8.toInt32, c3.toInt8.toInt32, c4.toInt8.toInt32, c5.toInt8.toInt32, c6.toInt8.toInt32, c7.toInt8.toInt32, c8.toInt8.toInt32, c9.toInt8.toInt32], rfl, N173, Kp, E_b171, Fc_b171, Fv_b171, V173, (by show 10 < 2 ^ 31; decide)⟩) (by decide) (by decide)
def Qva (Z : State) (u_Outcome__VALUES : Addr) (u_Outcome_PASSED : Addr) (u_Outcome_FAILED : Addr) (u_Outcome_ABORTED : Addr) (u_Outcome_NOT_FOUND : Addr) (u_Outcome_PASSED_text : Addr) (u_Outcome_PASSED_text_value : Addr) (u_Outcome_FAILED_text : Addr) (u_Outcome_FAILED_text_value : Addr) (u_Outcome_ABORTED_text : Addr) (u_Outcome_ABORTED_text_value : Addr) (u_Outcome_NOT_FOUND_text : Addr) (u_Outcome_NOT_FOUND_text_value : Addr) (kc_u_Outcome__VALUES : ClassId) (kc_u_Outcome_PASSED_text_value : ClassId) (kc_u_Outcome_FAILED_text_value : ClassId) (kc_u_Outcome_ABORTED_text_value : ClassId) (kc_u_Outcome_NOT_FOUND_text_value : ClassId) (zc : Int32) (fmv : Value) (h0 : Heap) (n0 : Nat) (v : Option Value) (h : Heap) (L : List Loc) : Prop := ∃ b : Addr, v = some (.ref b) ∧ Fr n0 L ∧ Keep h0 h [] ∧ Arv Z h b kc_u_Outcome__VALUES (Jvm.ClassFile.FieldType.object "com/example/tightrope/tightrope/junit/Outcome") (4 : Int32) [(.ref u_Outcome_PASSED), (.ref u_Outcome_FAILED), (.ref u_Outcome_ABORTED), (.ref u_Outcome_NOT_FOUND)] .null ∧ h0.size ≤ b
theorem rmva (l : Launch) (Z : State) (a0 : Array Value) (hw : own_tb a0 Z) (ws : List Jvm.Cond) (u_Outcome__VALUES : Addr) (u_Outcome_PASSED : Addr) (u_Outcome_FAILED : Addr) (u_Outcome_ABORTED : Addr) (u_Outcome_NOT_FOUND : Addr) (u_Outcome_PASSED_text : Addr) (u_Outcome_PASSED_text_value : Addr) (u_Outcome_FAILED_text : Addr) (u_Outcome_FAILED_text_value : Addr) (u_Outcome_ABORTED_text : Addr) (u_Outcome_ABORTED_text_value : Addr) (u_Outcome_NOT_FOUND_text : Addr) (u_Outcome_NOT_FOUND_text_value : Addr) (kc_u_Outcome__VALUES : ClassId) (kc_u_Outcome_PASSED_text_value : ClassId) (kc_u_Outcome_FAILED_text_value : ClassId) (kc_u_Outcome_ABORTED_text_value : ClassId) (kc_u_Outcome_NOT_FOUND_text_value : ClassId) (zc : Int32) (fmv : Value) (h0 : Heap) (n0 : Nat) (Z0 : n0 ≤ h0.size) (O_ : Old Z n0 h0) (S_u_Outcome__VALUES : Sta Z Z.heap "com/example/tightrope/tightrope/junit/Outcome" "$VALUES" "[Lcom/example/tightrope/tightrope/junit/Outcome;" (.ref u_Outcome__VALUES)) (E_u_Outcome__VALUES : Exa Z Z.heap u_Outcome__VALUES "[Lcom/example/tightrope/tightrope/junit/Outcome;") (S_u_Outcome_PASSED : Sta Z Z.heap "com/example/tightrope/tightrope/junit/Outcome" "PASSED" "Lcom/example/tightrope/tightrope/junit/Outcome;" (.ref u_Outcome_PASSED)) (E_u_Outcome_PASSED : Exa Z Z.heap u_Outcome_PASSED "com/example/tightrope/tightrope/junit/Outcome") (S_u_Outcome_FAILED : Sta Z Z.heap "com/example/tightrope/tightrope/junit/Outcome" "FAILED" "Lcom/example/tightrope/tightrope/junit/Outcome;" (.ref u_Outcome_FAILED)) (E_u_Outcome_FAILED : Exa Z Z.heap u_Outcome_FAILED "com/example/tightrope/tightrope/junit/Outcome") (S_u_Outcome_ABORTED : Sta Z Z.heap "com/example/tightrope/tightrope/junit/Outcome" "ABORTED" "Lcom/example/tightrope/tightrope/junit/Outcome;" (.ref u_Outcome_ABORTED)) (E_u_Outcome_ABORTED : Exa Z Z.heap u_Outcome_ABORTED "com/example/tightrope/tightrope/junit/Outcome") (S_u_Outcome_NOT_FOUND : Sta Z Z.heap "com/example/tightrope/tightrope/junit/Outcome" "NOT_FOUND" "Lcom/example/tightrope/tightrope/junit/Outcome;" (.ref u_Outcome_NOT_FOUND)) (E_u_Outcome_NOT_FOUND : Exa Z Z.heap u_Outcome_NOT_FOUND "com/example/tightrope/tightrope/junit/Outcome") (F_u_Outcome_PASSED_text : Fld Z Z.heap u_Outcome_PASSED "com/example/tightrope/tightrope/junit/Outcome" "text" "Ljava/lang/String;" (.ref u_Outcome_PASSED_text)) (E_u_Outcome_PASSED_text : Exa Z Z.heap u_Outcome_PASSED_text "java/lang/String") (F_u_Outcome_PASSED_text_coder : Fld Z Z.heap u_Outcome_PASSED_text "java/lang/String" "coder" "B" (.int (0 : Int32))) (F_u_Outcome_PASSED_text_value : Fld Z Z.heap u_Outcome_PASSED_text "java/lang/String" "value" "[B" (.ref u_Outcome_PASSED_text_value)) (F_u_Outcome_FAILED_text : Fld Z Z.heap u_Outcome_FAILED "com/example/tightrope/tightrope/junit/Outcome" "text" "Ljava/lang/String;" (.ref u_Outcome_FAILED_text)) (E_u_Outcome_FAILED_text : Exa Z Z.heap u_Outcome_FAILED_text "java/lang/String") (F_u_Outcome_FAILED_text_coder : Fld Z Z.heap u_Outcome_FAILED_text "java/lang/String" "coder" "B" (.int (0 : Int32))) (F_u_Outcome_FAILED_text_value : Fld Z Z.heap u_Outcome_FAILED_text "java/lang/String" "value" "[B" (.ref u_Outcome_FAILED_text_value)) (F_u_Outcome_ABORTED_text : Fld Z Z.heap u_Outcome_ABORTED "com/example/tightrope/tightrope/junit/Outcome" "text" "Ljava/lang/String;" (.ref u_Outcome_ABORTED_text)) (E_u_Outcome_ABORTED_text : Exa Z Z.heap u_Outcome_ABORTED_text "java/lang/String") (F_u_Outcome_ABORTED_text_coder : Fld Z Z.heap u_Outcome_ABORTED_text "java/lang/String" "coder" "B" (.int (0 : Int32))) (F_u_Outcome_ABORTED_text_value : Fld Z Z.heap u_Outcome_ABORTED_text "java/lang/String" "value" "[B" (.ref u_Outcome_ABORTED_text_value)) (F_u_Outcome_NOT_FOUND_text : Fld Z Z.heap u_Outcome_NOT_FOUND "com/example/tightrope/tightrope/junit/Outcome" "text" "Ljava/lang/String;" (.ref u_Outcome_NOT_FOUND_text)) (E_u_Outcome_NOT_FOUND_text : Exa Z Z.heap u_Outcome_NOT_FOUND_text "java/lang/String") (F_u_Outcome_NOT_FOUND_text_coder : Fld Z Z.heap u_Outcome_NOT_FOUND_text "java/lang/String" "coder" "B" (.int (0 : Int32))) (F_u_Outcome_NOT_FOUND_text_value : Fld Z Z.heap u_Outcome_NOT_FOUND_text "java/lang/String" "value" "[B" (.ref u_Outcome_NOT_FOUND_text_value)) (V_u_Outcome__VALUES : Arv Z Z.heap u_Outcome__VALUES kc_u_Outcome__VALUES (Jvm.ClassFile.FieldType.object "com/example/tightrope/tightrope/junit/Outcome") (4 : Int32) [(.ref u_Outcome_PASSED), (.ref u_Outcome_FAILED), (.ref u_Outcome_ABORTED), (.ref u_Outcome_NOT_FOUND)] .null) (V_u_Outcome_PASSED_text_value : Arv Z Z.heap u_Outcome_PASSED_text_value kc_u_Outcome_PASSED_text_value Jvm.ClassFile.FieldType.byte (6 : Int32) [(.int (112 : Int32)), (.int (97 : Int32)), (.int (115 : Int32)), (.int (115 : Int32)), (.int (101 : Int32)), (.int (100 : Int32))] (.int (0 : Int32))) (V_u_Outcome_FAILED_text_value : Arv Z Z.heap u_Outcome_FAILED_text_value kc_u_Outcome_FAILED_text_value Jvm.ClassFile.FieldType.byte (6 : Int32) [(.int (102 : Int32)), (.int (97 : Int32)), (.int (105 : Int32)), (.int (108 : Int32)), (.int (101 : Int32)), (.int (100 : Int32))] (.int (0 : Int32))) (V_u_Outcome_ABORTED_text_value : Arv Z Z.heap u_Outcome_ABORTED_text_value kc_u_Outcome_ABORTED_text_value Jvm.ClassFile.FieldType.byte (7 : Int32) [(.int (97 : Int32)), (.int (98 : Int32)), (.int (111 : Int32)), (.int (114 : Int32)), (.int (116 : Int32)), (.int (101 : Int32)), (.int (100 : Int32))] (.int (0 : Int32))) (V_u_Outcome_NOT_FOUND_text_value : Arv Z Z.heap u_Outcome_NOT_FOUND_text_value kc_u_Outcome_NOT_FOUND_text_value Jvm.ClassFile.FieldType.byte (9 : Int32) [(.int (110 : Int32)), (.int (111 : Int32)), (.int (116 : Int32)), (.int (45 : Int32)), (.int (102 : Int32)), (.int (111 : Int32)), (.int (117 : Int32)), (.int (110 : Int32)), (.int (100 : Int32))] (.int (0 : Int32))) (S_CS : Sta Z Z.heap "java/lang/String" "COMPACT_STRINGS" "Z" (.int zc)) (P_CS : ¬ zc = (0 : Int32)) (S_SF : Sta Z Z.heap "jdk/internal/util/Preconditions" "SIOOBE_FORMATTER" "Ljava/util/function/BiFunction;" fmv) (rf_fmv : fmv.isRef = true) :
    OwnMet l (⟨"com/example/tightrope/tightrope/junit/Outcome", "values", "()[Lcom/example/tightrope/tightrope/junit/Outcome;"⟩ : MethodName) prog_31_method_1_code 0 (some (.array (.object "com/example/tightrope/tightrope/junit/Outcome"))) ws ({ frames := 1, cells := 1, slots := 4, locals := 14 } : Room) #[] Z h0 (Qva Z u_Outcome__VALUES u_Outcome_PASSED u_Outcome_FAILED u_Outcome_ABORTED u_Outcome_NOT_FOUND u_Outcome_PASSED_text u_Outcome_PASSED_text_value u_Outcome_FAILED_text u_Outcome_FAILED_text_value u_Outcome_ABORTED_text u_Outcome_ABORTED_text_value u_Outcome_NOT_FOUND_text u_Outcome_NOT_FOUND_text_value kc_u_Outcome__VALUES kc_u_Outcome_PASSED_text_value kc_u_Outcome_FAILED_text_value kc_u_Outcome_ABORTED_text_value kc_u_Outcome_NOT_FOUND_text_value zc fmv h0 n0) := by
  refine own_met (plainFor_of_name pn_18) ?_
  intro p e s m below meth c s₁ X0 hx hby hml hret hlk hown hnm hZ e0
  have N0 := Fr.nil n0
  have Z_ := Z0
  refine OwnGo.cast (ef_va m ) ?_
  show OwnGo p e below s _ _ _ s₁ (mkF m 0 _ [])
  have Kp : Keep h0 h0 [] := Keep.refl h0 []
  obtain ⟨T174, X174, e174, st174⟩ := getS2 X0 hx hZ hown (host := "") (Or.inl (W_ hw 85 rfl)) Via.refl e0 (S_u_Outcome__VALUES.ext O_.2) (g := (mkF m 0 #[] [])) rfl (hb hby d18_0)
  refine .st st174 ?_
  show OwnGo p e below s _ _ _ T174 (mkF m 3 _ [(.ref u_Outcome__VALUES)])
  obtain ⟨T175, h175, X175, e175, E175, Vn175, Ex175, st175⟩ := cloneH X174 hx hZ hown (W_ hw 87 rfl) (W_ hw 88 rfl) (W_ hw 92 rfl) (W_ hw 90 rfl) (W_ hw 91 rfl) (W_ hw 93 rfl) e174 (V_u_Outcome__VALUES.ext O_.2).arh (E_u_Outcome__VALUES.ext O_.2) (g := (mkF m 3 #[] [(.ref u_Outcome__VALUES)])) rfl (by rw [hml]; rfl) rfl (hb hby d18_3) (by decide) (W := 0) (Nat.le_of_eq rfl) (by decide) (cap := 4) (by decide) (by decide) (by decide)
  obtain ⟨b175, g175⟩ : ∃ z, z = h0.size := ⟨_, rfl⟩
  rw [← g175] at Vn175 Ex175 st175
  have g_b175 : n0 ≤ b175 := Nat.le_trans Z_ (Nat.le_of_eq g175.symm)
  have sz_b175 : h0.size ≤ b175 := Nat.le_trans Kp.1 (Nat.le_of_eq g175.symm)
  have O_ := O_.ext E175
  have Kp := Kp.ext E175
  have Z_ : n0 ≤ h175.size := Nat.le_trans Z_ E175.1
  have V_b175 : Arv Z h175 b175 kc_u_Outcome__VALUES .(Jvm.ClassFile.FieldType.object "com/example/tightrope/tightrope/junit/Outcome") (4 : Int32) [(.ref u_Outcome_PASSED), (.ref u_Outcome_FAILED), (.ref u_Outcome_ABORTED), (.ref u_Outcome_NOT_FOUND)] .null := Vn175
  have E_b175 := Ex175
  refine .st st175 ?_
  show OwnGo p e below s _ _ _ T175 (mkF m 6 _ [(.ref b175)])
  obtain ⟨T176, X176, e176, st176⟩ := castY X175 hx hZ hown (W_ hw 99 rfl) e175 (Ins.self E_b175) (g := (mkF m 6 #[] [(.ref b175)])) rfl rfl (hb hby d18_6)
  refine .st st176 ?_
  show OwnGo p e below s _ _ _ T176 (mkF m 9 _ [(.ref b175)])
  exact OwnGo.ret X176 hx hret hlk rfl (Or.inr (Or.inr (Or.inr (Or.inr ⟨rfl, rfl, rfl⟩)))) (hb hby d18_9) (by show Qva Z u_Outcome__VALUES u_Outcome_PASSED u_Outcome_FAILED u_Outcome_ABORTED u_Outcome_NOT_FOUND u_Outcome_PASSED_text u_Outcome_PASSED_text_value u_Outcome_FAILED_text u_Outcome_FAILED_text_value u_Outcome_ABORTED_text u_Outcome_ABORTED_text_value u_Outcome_NOT_FOUND_text u_Outcome_NOT_FOUND_text_value kc_u_Outcome__VALUES kc_u_Outcome_PASSED_text_value kc_u_Outcome_FAILED_text_value kc_u_Outcome_ABORTED_text_value kc_u_Outcome_NOT_FOUND_text_value zc fmv h0 n0 _ T176.heap _; rw [e176]; exact ⟨b175, rfl, N0, Kp, V_b175, sz_b175⟩) (by decide) (by decide)
def Qof (Z : State) (x : Addr) (t : Addr) (kt : ClassId) (vs : List Int32) (u_Outcome__VALUES : Addr) (u_Outcome_PASSED : Addr) (u_Outcome_FAILED : Addr) (u_Outcome_ABORTED : Addr) (u_Outcome_NOT_FOUND : Addr) (u_Outcome_PASSED_text : Addr) (u_Outcome_PASSED_text_value : Addr) (u_Outcome_FAILED_text : Addr) (u_Outcome_FAILED_text_value : Addr) (u_Outcome_ABORTED_text : Addr) (u_Outcome_ABORTED_text_value : Addr) (u_Outcome_NOT_FOUND_text : Addr) (u_Outcome_NOT_FOUND_text_value : Addr) (kc_u_Outcome__VALUES : ClassId) (kc_u_Outcome_PASSED_text_value : ClassId) (kc_u_Outcome_FAILED_text_value : ClassId) (kc_u_Outcome_ABORTED_text_value : ClassId) (kc_u_Outcome_NOT_FOUND_text_value : ClassId) (zc : Int32) (fmv : Value) (h0 : Heap) (n0 : Nat) (v : Option Value) (h : Heap) (L : List Loc) : Prop := v = some (own_res vs u_Outcome_PASSED u_Outcome_FAILED u_Outcome_ABORTED u_Outcome_NOT_FOUND) ∧ Fr n0 L ∧ Keep h0 h []
theorem rmof (l : Launch) (Z : State) (a0 : Array Value) (hw : own_tb a0 Z) (ws : List Jvm.Cond) (x : Addr) (t : Addr) (kt : ClassId) (vs : List Int32) (u_Outcome__VALUES : Addr) (u_Outcome_PASSED : Addr) (u_Outcome_FAILED : Addr) (u_Outcome_ABORTED : Addr) (u_Outcome_NOT_FOUND : Addr) (u_Outcome_PASSED_text : Addr) (u_Outcome_PASSED_text_value : Addr) (u_Outcome_FAILED_text : Addr) (u_Outcome_FAILED_text_value : Addr) (u_Outcome_ABORTED_text : Addr) (u_Outcome_ABORTED_text_value : Addr) (u_Outcome_NOT_FOUND_text : Addr) (u_Outcome_NOT_FOUND_text_value : Addr) (kc_u_Outcome__VALUES : ClassId) (kc_u_Outcome_PASSED_text_value : ClassId) (kc_u_Outcome_FAILED_text_value : ClassId) (kc_u_Outcome_ABORTED_text_value : ClassId) (kc_u_Outcome_NOT_FOUND_text_value : ClassId) (zc : Int32) (fmv : Value) (h0 : Heap) (n0 : Nat) (Z0 : n0 ≤ h0.size) (O_ : Old Z n0 h0) (S_u_Outcome__VALUES : Sta Z Z.heap "com/example/tightrope/tightrope/junit/Outcome" "$VALUES" "[Lcom/example/tightrope/tightrope/junit/Outcome;" (.ref u_Outcome__VALUES)) (E_u_Outcome__VALUES : Exa Z Z.heap u_Outcome__VALUES "[Lcom/example/tightrope/tightrope/junit/Outcome;") (S_u_Outcome_PASSED : Sta Z Z.heap "com/example/tightrope/tightrope/junit/Outcome" "PASSED" "Lcom/example/tightrope/tightrope/junit/Outcome;" (.ref u_Outcome_PASSED)) (E_u_Outcome_PASSED : Exa Z Z.heap u_Outcome_PASSED "com/example/tightrope/tightrope/junit/Outcome") (S_u_Outcome_FAILED : Sta Z Z.heap "com/example/tightrope/tightrope/junit/Outcome" "FAILED" "Lcom/example/tightrope/tightrope/junit/Outcome;" (.ref u_Outcome_FAILED)) (E_u_Outcome_FAILED : Exa Z Z.heap u_Outcome_FAILED "com/example/tightrope/tightrope/junit/Outcome") (S_u_Outcome_ABORTED : Sta Z Z.heap "com/example/tightrope/tightrope/junit/Outcome" "ABORTED" "Lcom/example/tightrope/tightrope/junit/Outcome;" (.ref u_Outcome_ABORTED)) (E_u_Outcome_ABORTED : Exa Z Z.heap u_Outcome_ABORTED "com/example/tightrope/tightrope/junit/Outcome") (S_u_Outcome_NOT_FOUND : Sta Z Z.heap "com/example/tightrope/tightrope/junit/Outcome" "NOT_FOUND" "Lcom/example/tightrope/tightrope/junit/Outcome;" (.ref u_Outcome_NOT_FOUND)) (E_u_Outcome_NOT_FOUND : Exa Z Z.heap u_Outcome_NOT_FOUND "com/example/tightrope/tightrope/junit/Outcome") (F_u_Outcome_PASSED_text : Fld Z Z.heap u_Outcome_PASSED "com/example/tightrope/tightrope/junit/Outcome" "text" "Ljava/lang/String;" (.ref u_Outcome_PASSED_text)) (E_u_Outcome_PASSED_text : Exa Z Z.heap u_Outcome_PASSED_text "java/lang/String") (F_u_Outcome_PASSED_text_coder : Fld Z Z.heap u_Outcome_PASSED_text "java/lang/String" "coder" "B" (.int (0 : Int32))) (F_u_Outcome_PASSED_text_value : Fld Z Z.heap u_Outcome_PASSED_text "java/lang/String" "value" "[B" (.ref u_Outcome_PASSED_text_value)) (F_u_Outcome_FAILED_text : Fld Z Z.heap u_Outcome_FAILED "com/example/tightrope/tightrope/junit/Outcome" "text" "Ljava/lang/String;" (.ref u_Outcome_FAILED_text)) (E_u_Outcome_FAILED_text : Exa Z Z.heap u_Outcome_FAILED_text "java/lang/String") (F_u_Outcome_FAILED_text_coder : Fld Z Z.heap u_Outcome_FAILED_text "java/lang/String" "coder" "B" (.int (0 : Int32))) (F_u_Outcome_FAILED_text_value : Fld Z Z.heap u_Outcome_FAILED_text "java/lang/String" "value" "[B" (.ref u_Outcome_FAILED_text_value)) (F_u_Outcome_ABORTED_text : Fld Z Z.heap u_Outcome_ABORTED "com/example/tightrope/tightrope/junit/Outcome" "text" "Ljava/lang/String;" (.ref u_Outcome_ABORTED_text)) (E_u_Outcome_ABORTED_text : Exa Z Z.heap u_Outcome_ABORTED_text "java/lang/String") (F_u_Outcome_ABORTED_text_coder : Fld Z Z.heap u_Outcome_ABORTED_text "java/lang/String" "coder" "B" (.int (0 : Int32))) (F_u_Outcome_ABORTED_text_value : Fld Z Z.heap u_Outcome_ABORTED_text "java/lang/String" "value" "[B" (.ref u_Outcome_ABORTED_text_value)) (F_u_Outcome_NOT_FOUND_text : Fld Z Z.heap u_Outcome_NOT_FOUND "com/example/tightrope/tightrope/junit/Outcome" "text" "Ljava/lang/String;" (.ref u_Outcome_NOT_FOUND_text)) (E_u_Outcome_NOT_FOUND_text : Exa Z Z.heap u_Outcome_NOT_FOUND_text "java/lang/String") (F_u_Outcome_NOT_FOUND_text_coder : Fld Z Z.heap u_Outcome_NOT_FOUND_text "java/lang/String" "coder" "B" (.int (0 : Int32))) (F_u_Outcome_NOT_FOUND_text_value : Fld Z Z.heap u_Outcome_NOT_FOUND_text "java/lang/String" "value" "[B" (.ref u_Outcome_NOT_FOUND_text_value)) (V_u_Outcome__VALUES : Arv Z Z.heap u_Outcome__VALUES kc_u_Outcome__VALUES (Jvm.ClassFile.FieldType.object "com/example/tightrope/tightrope/junit/Outcome") (4 : Int32) [(.ref u_Outcome_PASSED), (.ref u_Outcome_FAILED), (.ref u_Outcome_ABORTED), (.ref u_Outcome_NOT_FOUND)] .null) (V_u_Outcome_PASSED_text_value : Arv Z Z.heap u_Outcome_PASSED_text_value kc_u_Outcome_PASSED_text_value Jvm.ClassFile.FieldType.byte (6 : Int32) [(.int (112 : Int32)), (.int (97 : Int32)), (.int (115 : Int32)), (.int (115 : Int32)), (.int (101 : Int32)), (.int (100 : Int32))] (.int (0 : Int32))) (V_u_Outcome_FAILED_text_value : Arv Z Z.heap u_Outcome_FAILED_text_value kc_u_Outcome_FAILED_text_value Jvm.ClassFile.FieldType.byte (6 : Int32) [(.int (102 : Int32)), (.int (97 : Int32)), (.int (105 : Int32)), (.int (108 : Int32)), (.int (101 : Int32)), (.int (100 : Int32))] (.int (0 : Int32))) (V_u_Outcome_ABORTED_text_value : Arv Z Z.heap u_Outcome_ABORTED_text_value kc_u_Outcome_ABORTED_text_value Jvm.ClassFile.FieldType.byte (7 : Int32) [(.int (97 : Int32)), (.int (98 : Int32)), (.int (111 : Int32)), (.int (114 : Int32)), (.int (116 : Int32)), (.int (101 : Int32)), (.int (100 : Int32))] (.int (0 : Int32))) (V_u_Outcome_NOT_FOUND_text_value : Arv Z Z.heap u_Outcome_NOT_FOUND_text_value kc_u_Outcome_NOT_FOUND_text_value Jvm.ClassFile.FieldType.byte (9 : Int32) [(.int (110 : Int32)), (.int (111 : Int32)), (.int (116 : Int32)), (.int (45 : Int32)), (.int (102 : Int32)), (.int (111 : Int32)), (.int (117 : Int32)), (.int (110 : Int32)), (.int (100 : Int32))] (.int (0 : Int32))) (S_CS : Sta Z Z.heap "java/lang/String" "COMPACT_STRINGS" "Z" (.int zc)) (P_CS : ¬ zc = (0 : Int32)) (S_SF : Sta Z Z.heap "jdk/internal/util/Preconditions" "SIOOBE_FORMATTER" "Ljava/util/function/BiFunction;" fmv) (rf_fmv : fmv.isRef = true) (E_x : Exa Z h0 x "java/lang/String") (Fc_x : Fld Z h0 x "java/lang/String" "coder" "B" (.int (0 : Int32))) (Fv_x : Fld Z h0 x "java/lang/String" "value" "[B" (.ref t)) (V_t : Arv Z h0 t kt .byte (Int32.ofNat (List.length vs)) (List.map Value.int vs) (.int (0 : Int32))) (l_vs : List.length vs < 2 ^ 31) :
    OwnMet l (⟨"com/example/tightrope/tightrope/junit/Outcome", "ofText", "(Ljava/lang/String;)Lcom/example/tightrope/tightrope/junit/Outcome;"⟩ : MethodName) prog_31_method_5_code 6 (some (.object "com/example/tightrope/tightrope/junit/Outcome")) ws ({ frames := 2, cells := 1, slots := 4, locals := 28 } : Room) #[(.ref x)] Z h0 (Qof Z x t kt vs u_Outcome__VALUES u_Outcome_PASSED u_Outcome_FAILED u_Outcome_ABORTED u_Outcome_NOT_FOUND u_Outcome_PASSED_text u_Outcome_PASSED_text_value u_Outcome_FAILED_text u_Outcome_FAILED_text_value u_Outcome_ABORTED_text u_Outcome_ABORTED_text_value u_Outcome_NOT_FOUND_text u_Outcome_NOT_FOUND_text_value kc_u_Outcome__VALUES kc_u_Outcome_PASSED_text_value kc_u_Outcome_FAILED_text_value kc_u_Outcome_ABORTED_text_value kc_u_Outcome_NOT_FOUND_text_value zc fmv h0 n0) := by
  refine own_met (plainFor_of_name pn_18) ?_
  intro p e s m below meth c s₁ X0 hx hby hml hret hlk hown hnm hZ e0
  have N0 := Fr.nil n0
  have Z_ := Z0
  refine OwnGo.cast (ef_of m x) ?_
  show OwnGo p e below s _ _ _ s₁ (mkF m 0 _ [])
  have Kp : Keep h0 h0 [] := Keep.refl h0 []
  refine .aconstNull X0 hx (hb hby d17_0)  ?_
  refine .astoreN X0 hx (hb hby d17_1) rfl (L' := #[.val (.ref x), .val .null, .unset, .unset, .unset, .unset]) rfl ?_
  obtain ⟨_, _, ⟨T177, L177, k177, n177⟩, -, X177, ⟨Lc177, hQ177, l177, y177, z177⟩, st177⟩ := Jvm.LawKit.callS X0 hx (y := (⟨"com/example/tightrope/tightrope/junit/Outcome", "values", "()[Lcom/example/tightrope/tightrope/junit/Outcome;"⟩ : MethodName)) hown (mvT hZ (W_ hw 82 rfl)) (mvT hZ (W_ hw 83 rfl)) (mvT hZ (W_ hw 80 rfl)) (mvT hZ (W_ hw 84 rfl)) (by decide) (backOf (W := 0) (rmva l Z a0 hw [] u_Outcome__VALUES u_Outcome_PASSED u_Outcome_FAILED u_Outcome_ABORTED u_Outcome_NOT_FOUND u_Outcome_PASSED_text u_Outcome_PASSED_text_value u_Outcome_FAILED_text u_Outcome_FAILED_text_value u_Outcome_ABORTED_text u_Outcome_ABORTED_text_value u_Outcome_NOT_FOUND_text u_Outcome_NOT_FOUND_text_value kc_u_Outcome__VALUES kc_u_Outcome_PASSED_text_value kc_u_Outcome_FAILED_text_value kc_u_Outcome_ABORTED_text_value kc_u_Outcome_NOT_FOUND_text_value zc fmv h0 n0 Z_ O_ S_u_Outcome__VALUES E_u_Outcome__VALUES S_u_Outcome_PASSED E_u_Outcome_PASSED S_u_Outcome_FAILED E_u_Outcome_FAILED S_u_Outcome_ABORTED E_u_Outcome_ABORTED S_u_Outcome_NOT_FOUND E_u_Outcome_NOT_FOUND F_u_Outcome_PASSED_text E_u_Outcome_PASSED_text F_u_Outcome_PASSED_text_coder F_u_Outcome_PASSED_text_value F_u_Outcome_FAILED_text E_u_Outcome_FAILED_text F_u_Outcome_FAILED_text_coder F_u_Outcome_FAILED_text_value F_u_Outcome_ABORTED_text E_u_Outcome_ABORTED_text F_u_Outcome_ABORTED_text_coder F_u_Outcome_ABORTED_text_value F_u_Outcome_NOT_FOUND_text E_u_Outcome_NOT_FOUND_text F_u_Outcome_NOT_FOUND_text_coder F_u_Outcome_NOT_FOUND_text_value V_u_Outcome__VALUES V_u_Outcome_PASSED_text_value V_u_Outcome_FAILED_text_value V_u_Outcome_ABORTED_text_value V_u_Outcome_NOT_FOUND_text_value S_CS P_CS S_SF rf_fmv) hZ (W_ hw 84 rfl) (W_ hw 80 rfl) (by decide) (by decide)) (g := (mkF m 2 #[.val (.ref x), .val .null, .unset, .unset, .unset, .unset] [])) rfl (by rw [hml]; rfl) (argsL := []) (rest := []) (lenOf pd_11 rfl) rfl (Nat.le_of_eq rfl) (hb hby d17_2) (fun _ _ => ⟨rfl, e0, (by decide : 0 + 1 ≤ _), (by decide : 0 + 4 ≤ _)⟩)
  dsimp only [Pt.U, Pt.locs, Pt.cells, Pt.slots] at X177 l177 y177 z177 st177 hQ177
  subst l177 y177 z177
  obtain ⟨b177, rfl, N177q, K177, V177, zb177⟩ := hQ177
  have N177 := Fr.app N0 N177q
  have ne_x_b177 : x ≠ b177 := Nat.ne_of_lt (Nat.lt_of_lt_of_le E_x.lt zb177)
  have ne_t_b177 : t ≠ b177 := Nat.ne_of_lt (Nat.lt_of_lt_of_le V_t.lt zb177)
  have g_b177 : n0 ≤ b177 := Nat.le_trans Z_ zb177
  have sz_b177 : h0.size ≤ b177 := Nat.le_trans Kp.1 zb177
  have Z_ : n0 ≤ T177.heap.size := Nat.le_trans Z_ K177.1
  have E_x := E_x.keep K177
  have Fc_x := Fc_x.keep K177 nin0
  have Fv_x := Fv_x.keep K177 nin0
  have V_t := V_t.keep K177 nin0
  have O_ := O_.keep K177 all0
  have Kp := Kp.trans K177 all0
  refine .st st177 ?_
  show OwnGo p e below s _ _ _ T177 (mkF m 5 _ [(.ref b177)])
  refine .astoreN X177 hx (hb hby d17_5) rfl (L' := #[.val (.ref x), .val .null, .val (.ref b177), .unset, .unset, .unset]) rfl ?_
  refine .aloadN X177 hx (hb hby d17_6) rfl rfl ?_
  obtain ⟨cl178, Ar178, -, S178, N178, -, -⟩ := id V177
  refine .st (fun _ => own_len hZ (len_of S178 N178) Ar178 X177 rfl hx (g := (mkF m 7 #[.val (.ref x), .val .null, .val (.ref b177), .unset, .unset, .unset] [(.ref b177)])) rfl rfl (hb hby d17_7) _) ?_
  show OwnGo p e below s _ _ _ T177 (mkF m 8 _ [(.int (4 : Int32))])
  refine .istoreN X177 hx (hb hby d17_8) (L' := #[.val (.ref x), .val .null, .val (.ref b177), .val (.int (4 : Int32)), .unset, .unset]) rfl ?_
  refine .iconst X177 hx (hb hby d17_9) own_ki0 ?_
  refine .istore X177 hx (hb hby d17_10) (L' := #[.val (.ref x), .val .null, .val (.ref b177), .val (.int (4 : Int32)), .val (.int (0 : Int32)), .unset]) rfl ?_
  refine .iload X177 hx (hb hby d17_12) rfl ?_
  refine .iloadN X177 hx (hb hby d17_14) rfl ?_
  refine .icmpNo X177 hx (hb hby d17_15) (tlt ((by decide) : (0 : Int32) < (4 : Int32))).2.1 ?_
  refine .aloadN X177 hx (hb hby d17_18) rfl rfl ?_
  refine .iload X177 hx (hb hby d17_19) rfl ?_
  obtain ⟨cl179, Ar179, -, S179, -, H179, -⟩ := id V177
  have hin179 : ¬ ((0 : Int32) < 0 ∨ cl179.slots.size ≤ ((0 : Int32)).toNatClampNeg) := inb_of S179 ⟨by decide, by decide⟩
  refine .st (fun _ => X177.aaload hx (j := (0 : Int32)) (v := (.ref u_Outcome_PASSED)) (by first | exact Ar179.1 | (rw [rfl]; exact Ar179.1)) (State.isArrayOf_alike hZ.alike Ar179.2.1) rfl Ar179.2.2 hin179 (H179.at hin179 rfl) (g := (mkF m 21 #[.val (.ref x), .val .null, .val (.ref b177), .val (.int (4 : Int32)), .val (.int (0 : Int32)), .unset] [(.int (0 : Int32)), (.ref b177)])) rfl rfl (hb hby d17_21) _) ?_
  show OwnGo p e below s _ _ _ T177 (mkF m 22 _ [(.ref u_Outcome_PASSED)])
  refine .astore X177 hx (hb hby d17_22) rfl (L' := #[.val (.ref x), .val .null, .val (.ref b177), .val (.int (4 : Int32)), .val (.int (0 : Int32)), .val (.ref u_Outcome_PASSED)]) rfl ?_
  refine .aload X177 hx (hb hby d17_24) rfl rfl ?_
  obtain ⟨T180, X180, e180, st180⟩ := getF X177 hx hZ hown (host := "") (Or.inl (W_ hw 101 rfl)) Via.refl rfl (F_u_Outcome_PASSED_text.ext O_.2) (g := (mkF m 26 #[.val (.ref x), .val .null, .val (.ref b177), .val (.int (4 : Int32)), .val (.int (0 : Int32)), .val (.ref u_Outcome_PASSED)] [(.ref u_Outcome_PASSED)])) rfl rfl (hb hby d17_26)
  refine .st st180 ?_
  show OwnGo p e below s _ _ _ T180 (mkF m 29 _ [(.ref u_Outcome_PASSED_text)])
  refine .aloadN X180 hx (hb hby d17_29) rfl rfl ?_
  obtain ⟨cq181, kq181, q181a, q181b, q181c⟩ := isOf hZ e180 (E_u_Outcome_PASSED_text.ext O_.2)
  obtain ⟨_, _, ⟨T181, L181, k181, n181⟩, -, X181, ⟨Lc181, hQ181, l181, y181, z181⟩, st181⟩ := X180.virtualBack hx (y := (⟨"java/lang/String", "equals", "(Ljava/lang/Object;)Z"⟩ : MethodName)) (z := (⟨"java/lang/String", "equals", "(Ljava/lang/Object;)Z"⟩ : MethodName)) hown (mvT hZ (W_ hw 103 rfl)) (mvT hZ (W_ hw 104 rfl)) (notFace_of_selects (args := #[]) (mvT hZ (W_ hw 106 rfl))) (mvT hZ (W_ hw 106 rfl)) (mvT hZ (W_ hw 105 rfl)) (by decide) (backOf (W := 0) (rmse l Z a0 hw [] u_Outcome_PASSED_text u_Outcome_PASSED_text_value kc_u_Outcome_PASSED_text_value ([112, 97, 115, 115, 101, 100] : List Int32) x t kt vs zc T177.heap n0 Z_ O_ S_CS P_CS (E_u_Outcome_PASSED_text.ext O_.2) (F_u_Outcome_PASSED_text_coder.ext O_.2) (F_u_Outcome_PASSED_text_value.ext O_.2) (V_u_Outcome_PASSED_text_value.ext O_.2) (by decide) E_x Fc_x Fv_x V_t l_vs) hZ (W_ hw 107 rfl) (W_ hw 1 rfl) (by decide) (by decide)) q181a q181c (g := (mkF m 30 #[.val (.ref x), .val .null, .val (.ref b177), .val (.int (4 : Int32)), .val (.int (0 : Int32)), .val (.ref u_Outcome_PASSED)] [(.ref x), (.ref u_Outcome_PASSED_text)])) rfl (by rw [hml]; rfl) (Steps.refl _) (argsL := [(.ref x)]) (rest := []) (lenOf pd_12 rfl) rfl (Nat.le_of_eq rfl) (hb hby d17_30) (fun _ _ => ⟨rfl, e180, (by decide : 1 + 0 ≤ _), (by decide : 4 + 0 ≤ _)⟩)
  dsimp only [Pt.U, Pt.locs, Pt.cells, Pt.slots] at X181 l181 y181 z181 st181 hQ181
  subst l181 y181 z181
  obtain ⟨r181, rfl, N181q, e181, hr181⟩ := hQ181
  have N181 := Fr.app N177 N181q
  refine .st (fun _ => st181.trans) ?_
  show OwnGo p e below s _ _ _ T181 (mkF m 33 _ [(.int r181)])
  rcases hr181 with ⟨rfl, hs0⟩ | ⟨rfl, hs0⟩
  · have hs0 := hs0.symm
    show OwnGo p e below s _ _ _ T181 (mkF m 33 _ [(.int (1 : Int32))])
    refine .ifNo X181 hx (hb hby d17_33) ((if0 _ _).trans (feq ((by decide) : ¬ ((1 : Int32) = (0 : Int32)))).1) ?_
    refine .aload X181 hx (hb hby d17_36) rfl rfl ?_
    refine .astoreN X181 hx (hb hby d17_38) rfl (L' := #[.val (.ref x), .val (.ref u_Outcome_PASSED), .val (.ref b177), .val (.int (4 : Int32)), .val (.int (0 : Int32)), .val (.ref u_Outcome_PASSED)]) rfl ?_
    refine .iinc X181 hx (hb hby d17_39) rfl own_ka0_1 (L' := #[.val (.ref x), .val (.ref u_Outcome_PASSED), .val (.ref b177), .val (.int (4 : Int32)), .val (.int (1 : Int32)), .val (.ref u_Outcome_PASSED)]) rfl ?_
    refine .goto (pc := 42) X181 hx 12 (hb hby d17_42) (by decide) (by decide) ?_
    refine .iload X181 hx (hb hby d17_12) rfl ?_
    refine .iloadN X181 hx (hb hby d17_14) rfl ?_
    refine .icmpNo X181 hx (hb hby d17_15) (tlt ((by decide) : (1 : Int32) < (4 : Int32))).2.1 ?_
    refine .aloadN X181 hx (hb hby d17_18) rfl rfl ?_
    refine .iload X181 hx (hb hby d17_19) rfl ?_
    obtain ⟨cl182, Ar182, -, S182, -, H182, -⟩ := id V177
    have hin182 : ¬ ((1 : Int32) < 0 ∨ cl182.slots.size ≤ ((1 : Int32)).toNatClampNeg) := inb_of S182 ⟨by decide, by decide⟩
    refine .st (fun _ => X181.aaload hx (j := (1 : Int32)) (v := (.ref u_Outcome_FAILED)) (by first | exact Ar182.1 | (rw [e181]; exact Ar182.1)) (State.isArrayOf_alike hZ.alike Ar182.2.1) rfl Ar182.2.2 hin182 (H182.at hin182 rfl) (g := (mkF m 21 #[.val (.ref x), .val (.ref u_Outcome_PASSED), .val (.ref b177), .val (.int (4 : Int32)), .val (.int (1 : Int32)), .val (.ref u_Outcome_PASSED)] [(.int (1 : Int32)), (.ref b177)])) rfl rfl (hb hby d17_21) _) ?_
    show OwnGo p e below s _ _ _ T181 (mkF m 22 _ [(.ref u_Outcome_FAILED)])
    refine .astore X181 hx (hb hby d17_22) rfl (L' := #[.val (.ref x), .val (.ref u_Outcome_PASSED), .val (.ref b177), .val (.int (4 : Int32)), .val (.int (1 : Int32)), .val (.ref u_Outcome_FAILED)]) rfl ?_
    refine .aload X181 hx (hb hby d17_24) rfl rfl ?_
    obtain ⟨T183, X183, e183, st183⟩ := getF X181 hx hZ hown (host := "") (Or.inl (W_ hw 101 rfl)) Via.refl e181 (F_u_Outcome_FAILED_text.ext O_.2) (g := (mkF m 26 #[.val (.ref x), .val (.ref u_Outcome_PASSED), .val (.ref b177), .val (.int (4 : Int32)), .val (.int (1 : Int32)), .val (.ref u_Outcome_FAILED)] [(.ref u_Outcome_FAILED)])) rfl rfl (hb hby d17_26)
    refine .st st183 ?_
    show OwnGo p e below s _ _ _ T183 (mkF m 29 _ [(.ref u_Outcome_FAILED_text)])
    refine .aloadN X183 hx (hb hby d17_29) rfl rfl ?_
    obtain ⟨cq184, kq184, q184a, q184b, q184c⟩ := isOf hZ e183 (E_u_Outcome_FAILED_text.ext O_.2)
    obtain ⟨_, _, ⟨T184, L184, k184, n184⟩, -, X184, ⟨Lc184, hQ184, l184, y184, z184⟩, st184⟩ := X183.virtualBack hx (y := (⟨"java/lang/String", "equals", "(Ljava/lang/Object;)Z"⟩ : MethodName)) (z := (⟨"java/lang/String", "equals", "(Ljava/lang/Object;)Z"⟩ : MethodName)) hown (mvT hZ (W_ hw 103 rfl)) (mvT hZ (W_ hw 104 rfl)) (notFace_of_selects (args := #[]) (mvT hZ (W_ hw 106 rfl))) (mvT hZ (W_ hw 106 rfl)) (mvT hZ (W_ hw 105 rfl)) (by decide) (backOf (W := 0) (rmse l Z a0 hw [] u_Outcome_FAILED_text u_Outcome_FAILED_text_value kc_u_Outcome_FAILED_text_value ([102, 97, 105, 108, 101, 100] : List Int32) x t kt vs zc T177.heap n0 Z_ O_ S_CS P_CS (E_u_Outcome_FAILED_text.ext O_.2) (F_u_Outcome_FAILED_text_coder.ext O_.2) (F_u_Outcome_FAILED_text_value.ext O_.2) (V_u_Outcome_FAILED_text_value.ext O_.2) (by decide) E_x Fc_x Fv_x V_t l_vs) hZ (W_ hw 107 rfl) (W_ hw 1 rfl) (by decide) (by decide)) q184a q184c (g := (mkF m 30 #[.val (.ref x), .val (.ref u_Outcome_PASSED), .val (.ref b177), .val (.int (4 : Int32)), .val (.int (1 : Int32)), .val (.ref u_Outcome_FAILED)] [(.ref x), (.ref u_Outcome_FAILED_text)])) rfl (by rw [hml]; rfl) (Steps.refl _) (argsL := [(.ref x)]) (rest := []) (lenOf pd_12 rfl) rfl (Nat.le_of_eq rfl) (hb hby d17_30) (fun _ _ => ⟨rfl, e183, (by decide : 1 + 0 ≤ _), (by decide : 4 + 0 ≤ _)⟩)
    dsimp only [Pt.U, Pt.locs, Pt.cells, Pt.slots] at X184 l184 y184 z184 st184 hQ184
    subst l184 y184 z184
    obtain ⟨r184, rfl, N184q, e184, hr184⟩ := hQ184
    have N184 := Fr.app N181 N184q
    refine .st (fun _ => st184.trans) ?_
    show OwnGo p e below s _ _ _ T184 (mkF m 33 _ [(.int r184)])
    rcases hr184 with ⟨rfl, hs1⟩ | ⟨rfl, hs1⟩
    · exact absurd (hs1.trans hs0) (by decide)
    · have hs1 := fun q => hs1 (Eq.symm q)
      show OwnGo p e below s _ _ _ T184 (mkF m 33 _ [(.int (0 : Int32))])
      refine .ifYes (pc := 33) X184 hx 39 (hb hby d17_33) ((if0 _ _).trans (teq ((by decide) : (0 : Int32) = (0 : Int32))).1) (by decide) (by decide) ?_
      refine .iinc X184 hx (hb hby d17_39) rfl own_ka1_1 (L' := #[.val (.ref x), .val (.ref u_Outcome_PASSED), .val (.ref b177), .val (.int (4 : Int32)), .val (.int (2 : Int32)), .val (.ref u_Outcome_FAILED)]) rfl ?_
      refine .goto (pc := 42) X184 hx 12 (hb hby d17_42) (by decide) (by decide) ?_
      refine .iload X184 hx (hb hby d17_12) rfl ?_
      refine .iloadN X184 hx (hb hby d17_14) rfl ?_
      refine .icmpNo X184 hx (hb hby d17_15) (tlt ((by decide) : (2 : Int32) < (4 : Int32))).2.1 ?_
      refine .aloadN X184 hx (hb hby d17_18) rfl rfl ?_
      refine .iload X184 hx (hb hby d17_19) rfl ?_
      obtain ⟨cl185, Ar185, -, S185, -, H185, -⟩ := id V177
      have hin185 : ¬ ((2 : Int32) < 0 ∨ cl185.slots.size ≤ ((2 : Int32)).toNatClampNeg) := inb_of S185 ⟨by decide, by decide⟩
      refine .st (fun _ => X184.aaload hx (j := (2 : Int32)) (v := (.ref u_Outcome_ABORTED)) (by first | exact Ar185.1 | (rw [e184]; exact Ar185.1)) (State.isArrayOf_alike hZ.alike Ar185.2.1) rfl Ar185.2.2 hin185 (H185.at hin185 rfl) (g := (mkF m 21 #[.val (.ref x), .val (.ref u_Outcome_PASSED), .val (.ref b177), .val (.int (4 : Int32)), .val (.int (2 : Int32)), .val (.ref u_Outcome_FAILED)] [(.int (2 : Int32)), (.ref b177)])) rfl rfl (hb hby d17_21) _) ?_
      show OwnGo p e below s _ _ _ T184 (mkF m 22 _ [(.ref u_Outcome_ABORTED)])
      refine .astore X184 hx (hb hby d17_22) rfl (L' := #[.val (.ref x), .val (.ref u_Outcome_PASSED), .val (.ref b177), .val (.int (4 : Int32)), .val (.int (2 : Int32)), .val (.ref u_Outcome_ABORTED)]) rfl ?_
      refine .aload X184 hx (hb hby d17_24) rfl rfl ?_
      obtain ⟨T186, X186, e186, st186⟩ := getF X184 hx hZ hown (host := "") (Or.inl (W_ hw 101 rfl)) Via.refl e184 (F_u_Outcome_ABORTED_text.ext O_.2) (g := (mkF m 26 #[.val (.ref x), .val (.ref u_Outcome_PASSED), .val (.ref b177), .val (.int (4 : Int32)), .val (.int (2 : Int32)), .val (.ref u_Outcome_ABORTED)] [(.ref u_Outcome_ABORTED)])) rfl rfl (hb hby d17_26)
      refine .st st186 ?_
      show OwnGo p e below s _ _ _ T186 (mkF m 29 _ [(.ref u_Outcome_ABORTED_text)])
      refine .aloadN X186 hx (hb hby d17_29) rfl rfl ?_
      obtain ⟨cq187, kq187, q187a, q187b, q187c⟩ := isOf hZ e186 (E_u_Outcome_ABORTED_text.ext O_.2)
      obtain ⟨_, _, ⟨T187, L187, k187, n187⟩, -, X187, ⟨Lc187, hQ187, l187, y187, z187⟩, st187⟩ := X186.virtualBack hx (y := (⟨"java/lang/String", "equals", "(Ljava/lang/Object;)Z"⟩ : MethodName)) (z := (⟨"java/lang/String", "equals", "(Ljava/lang/Object;)Z"⟩ : MethodName)) hown (mvT hZ (W_ hw 103 rfl)) (mvT hZ (W_ hw 104 rfl)) (notFace_of_selects (args := #[]) (mvT hZ (W_ hw 106 rfl))) (mvT hZ (W_ hw 106 rfl)) (mvT hZ (W_ hw 105 rfl)) (by decide) (backOf (W := 0) (rmse l Z a0 hw [] u_Outcome_ABORTED_text u_Outcome_ABORTED_text_value kc_u_Outcome_ABORTED_text_value ([97, 98, 111, 114, 116, 101, 100] : List Int32) x t kt vs zc T177.heap n0 Z_ O_ S_CS P_CS (E_u_Outcome_ABORTED_text.ext O_.2) (F_u_Outcome_ABORTED_text_coder.ext O_.2) (F_u_Outcome_ABORTED_text_value.ext O_.2) (V_u_Outcome_ABORTED_text_value.ext O_.2) (by decide) E_x Fc_x Fv_x V_t l_vs) hZ (W_ hw 107 rfl) (W_ hw 1 rfl) (by decide) (by decide)) q187a q187c (g := (mkF m 30 #[.val (.ref x), .val (.ref u_Outcome_PASSED), .val (.ref b177), .val (.int (4 : Int32)), .val (.int (2 : Int32)), .val (.ref u_Outcome_ABORTED)] [(.ref x), (.ref u_Outcome_ABORTED_text)])) rfl (by rw [hml]; rfl) (Steps.refl _) (argsL := [(.ref x)]) (rest := []) (lenOf pd_12 rfl) rfl (Nat.le_of_eq rfl) (hb hby d17_30) (fun _ _ => ⟨rfl, e186, (by decide : 1 + 0 ≤ _), (by decide : 4 + 0 ≤ _)⟩)
      dsimp only [Pt.U, Pt.locs, Pt.cells, Pt.slots] at X187 l187 y187 z187 st187 hQ187
      subst l187 y187 z187
      obtain ⟨r187, rfl, N187q, e187, hr187⟩ := hQ187
      have N187 := Fr.app N184 N187q
      refine .st (fun _ => st187.trans) ?_
      show OwnGo p e below s _ _ _ T187 (mkF m 33 _ [(.int r187)])
      rcases hr187 with ⟨rfl, hs2⟩ | ⟨rfl, hs2⟩
      · exact absurd (hs2.trans hs0) (by decide)
      · have hs2 := fun q => hs2 (Eq.symm q)
        show OwnGo p e below s _ _ _ T187 (mkF m 33 _ [(.int (0 : Int32))])
        refine .ifYes (pc := 33) X187 hx 39 (hb hby d17_33) ((if0 _ _).trans (teq ((by decide) : (0 : Int32) = (0 : Int32))).1) (by decide) (by decide) ?_
        refine .iinc X187 hx (hb hby d17_39) rfl own_ka2_1 (L' := #[.val (.ref x), .val (.ref u_Outcome_PASSED), .val (.ref b177), .val (.int (4 : Int32)), .val (.int (3 : Int32)), .val (.ref u_Outcome_ABORTED)]) rfl ?_
        refine .goto (pc := 42) X187 hx 12 (hb hby d17_42) (by decide) (by decide) ?_
        refine .iload X187 hx (hb hby d17_12) rfl ?_
        refine .iloadN X187 hx (hb hby d17_14) rfl ?_
        refine .icmpNo X187 hx (hb hby d17_15) (tlt ((by decide) : (3 : Int32) < (4 : Int32))).2.1 ?_
        refine .aloadN X187 hx (hb hby d17_18) rfl rfl ?_
        refine .iload X187 hx (hb hby d17_19) rfl ?_
        obtain ⟨cl188, Ar188, -, S188, -, H188, -⟩ := id V177
        have hin188 : ¬ ((3 : Int32) < 0 ∨ cl188.slots.size ≤ ((3 : Int32)).toNatClampNeg) := inb_of S188 ⟨by decide, by decide⟩
        refine .st (fun _ => X187.aaload hx (j := (3 : Int32)) (v := (.ref u_Outcome_NOT_FOUND)) (by first | exact Ar188.1 | (rw [e187]; exact Ar188.1)) (State.isArrayOf_alike hZ.alike Ar188.2.1) rfl Ar188.2.2 hin188 (H188.at hin188 rfl) (g := (mkF m 21 #[.val (.ref x), .val (.ref u_Outcome_PASSED), .val (.ref b177), .val (.int (4 : Int32)), .val (.int (3 : Int32)), .val (.ref u_Outcome_ABORTED)] [(.int (3 : Int32)), (.ref b177)])) rfl rfl (hb hby d17_21) _) ?_
        show OwnGo p e below s _ _ _ T187 (mkF m 22 _ [(.ref u_Outcome_NOT_FOUND)])
        refine .astore X187 hx (hb hby d17_22) rfl (L' := #[.val (.ref x), .val (.ref u_Outcome_PASSED), .val (.ref b177), .val (.int (4 : Int32)), .val (.int (3 : Int32)), .val (.ref u_Outcome_NOT_FOUND)]) rfl ?_
        refine .aload X187 hx (hb hby d17_24) rfl rfl ?_
        obtain ⟨T189, X189, e189, st189⟩ := getF X187 hx hZ hown (host := "") (Or.inl (W_ hw 101 rfl)) Via.refl e187 (F_u_Outcome_NOT_FOUND_text.ext O_.2) (g := (mkF m 26 #[.val (.ref x), .val (.ref u_Outcome_PASSED), .val (.ref b177), .val (.int (4 : Int32)), .val (.int (3 : Int32)), .val (.ref u_Outcome_NOT_FOUND)] [(.ref u_Outcome_NOT_FOUND)])) rfl rfl (hb hby d17_26)
        refine .st st189 ?_
        show OwnGo p e below s _ _ _ T189 (mkF m 29 _ [(.ref u_Outcome_NOT_FOUND_text)])
        refine .aloadN X189 hx (hb hby d17_29) rfl rfl ?_
        obtain ⟨cq190, kq190, q190a, q190b, q190c⟩ := isOf hZ e189 (E_u_Outcome_NOT_FOUND_text.ext O_.2)
        obtain ⟨_, _, ⟨T190, L190, k190, n190⟩, -, X190, ⟨Lc190, hQ190, l190, y190, z190⟩, st190⟩ := X189.virtualBack hx (y := (⟨"java/lang/String", "equals", "(Ljava/lang/Object;)Z"⟩ : MethodName)) (z := (⟨"java/lang/String", "equals", "(Ljava/lang/Object;)Z"⟩ : MethodName)) hown (mvT hZ (W_ hw 103 rfl)) (mvT hZ (W_ hw 104 rfl)) (notFace_of_selects (args := #[]) (mvT hZ (W_ hw 106 rfl))) (mvT hZ (W_ hw 106 rfl)) (mvT hZ (W_ hw 105 rfl)) (by decide) (backOf (W := 0) (rmse l Z a0 hw [] u_Outcome_NOT_FOUND_text u_Outcome_NOT_FOUND_text_value kc_u_Outcome_NOT_FOUND_text_value ([110, 111, 116, 45, 102, 111, 117, 110, 100] : List Int32) x t kt vs zc T177.heap n0 Z_ O_ S_CS P_CS (E_u_Outcome_NOT_FOUND_text.ext O_.2) (F_u_Outcome_NOT_FOUND_text_coder.ext O_.2) (F_u_Outcome_NOT_FOUND_text_value.ext O_.2) (V_u_Outcome_NOT_FOUND_text_value.ext O_.2) (by decide) E_x Fc_x Fv_x V_t l_vs) hZ (W_ hw 107 rfl) (W_ hw 1 rfl) (by decide) (by decide)) q190a q190c (g := (mkF m 30 #[.val (.ref x), .val (.ref u_Outcome_PASSED), .val (.ref b177), .val (.int (4 : Int32)), .val (.int (3 : Int32)), .val (.ref u_Outcome_NOT_FOUND)] [(.ref x), (.ref u_Outcome_NOT_FOUND_text)])) rfl (by rw [hml]; rfl) (Steps.refl _) (argsL := [(.ref x)]) (rest := []) (lenOf pd_12 rfl) rfl (Nat.le_of_eq rfl) (hb hby d17_30) (fun _ _ => ⟨rfl, e189, (by decide : 1 + 0 ≤ _), (by decide : 4 + 0 ≤ _)⟩)
        dsimp only [Pt.U, Pt.locs, Pt.cells, Pt.slots] at X190 l190 y190 z190 st190 hQ190
        subst l190 y190 z190
        obtain ⟨r190, rfl, N190q, e190, hr190⟩ := hQ190
        have N190 := Fr.app N187 N190q
        refine .st (fun _ => st190.trans) ?_
        show OwnGo p e below s _ _ _ T190 (mkF m 33 _ [(.int r190)])
        rcases hr190 with ⟨rfl, hs3⟩ | ⟨rfl, hs3⟩
        · exact absurd (hs3.trans hs0) (by decide)
        · have hs3 := fun q => hs3 (Eq.symm q)
          show OwnGo p e below s _ _ _ T190 (mkF m 33 _ [(.int (0 : Int32))])
          refine .ifYes (pc := 33) X190 hx 39 (hb hby d17_33) ((if0 _ _).trans (teq ((by decide) : (0 : Int32) = (0 : Int32))).1) (by decide) (by decide) ?_
          refine .iinc X190 hx (hb hby d17_39) rfl own_ka3_1 (L' := #[.val (.ref x), .val (.ref u_Outcome_PASSED), .val (.ref b177), .val (.int (4 : Int32)), .val (.int (4 : Int32)), .val (.ref u_Outcome_NOT_FOUND)]) rfl ?_
          refine .goto (pc := 42) X190 hx 12 (hb hby d17_42) (by decide) (by decide) ?_
          refine .iload X190 hx (hb hby d17_12) rfl ?_
          refine .iloadN X190 hx (hb hby d17_14) rfl ?_
          refine .icmpYes (pc := 15) X190 hx 45 (hb hby d17_15) (flt ((by decide) : ¬ ((4 : Int32) < (4 : Int32)))).2.1 (by decide) (by decide) ?_
          refine .aloadN X190 hx (hb hby d17_45) rfl rfl ?_
          exact OwnGo.ret X190 hx hret hlk rfl (Or.inr (Or.inr (Or.inr (Or.inr ⟨rfl, rfl, rfl⟩)))) (hb hby d17_46) (by show Qof Z x t kt vs u_Outcome__VALUES u_Outcome_PASSED u_Outcome_FAILED u_Outcome_ABORTED u_Outcome_NOT_FOUND u_Outcome_PASSED_text u_Outcome_PASSED_text_value u_Outcome_FAILED_text u_Outcome_FAILED_text_value u_Outcome_ABORTED_text u_Outcome_ABORTED_text_value u_Outcome_NOT_FOUND_text u_Outcome_NOT_FOUND_text_value kc_u_Outcome__VALUES kc_u_Outcome_PASSED_text_value kc_u_Outcome_FAILED_text_value kc_u_Outcome_ABORTED_text_value kc_u_Outcome_NOT_FOUND_text_value zc fmv h0 n0 _ T190.heap _; rw [e190]; exact ⟨by rw [hs0, own_r0], N190, Kp⟩) (by decide) (by decide)
  · have hs0 := fun q => hs0 (Eq.symm q)
    show OwnGo p e below s _ _ _ T181 (mkF m 33 _ [(.int (0 : Int32))])
    refine .ifYes (pc := 33) X181 hx 39 (hb hby d17_33) ((if0 _ _).trans (teq ((by decide) : (0 : Int32) = (0 : Int32))).1) (by decide) (by decide) ?_
    refine .iinc X181 hx (hb hby d17_39) rfl own_ka0_1 (L' := #[.val (.ref x), .val .null, .val (.ref b177), .val (.int (4 : Int32)), .val (.int (1 : Int32)), .val (.ref u_Outcome_PASSED)]) rfl ?_
    refine .goto (pc := 42) X181 hx 12 (hb hby d17_42) (by decide) (by decide) ?_
    refine .iload X181 hx (hb hby d17_12) rfl ?_
    refine .iloadN X181 hx (hb hby d17_14) rfl ?_
    refine .icmpNo X181 hx (hb hby d17_15) (tlt ((by decide) : (1 : Int32) < (4 : Int32))).2.1 ?_
    refine .aloadN X181 hx (hb hby d17_18) rfl rfl ?_
    refine .iload X181 hx (hb hby d17_19) rfl ?_
    obtain ⟨cl191, Ar191, -, S191, -, H191, -⟩ := id V177
    have hin191 : ¬ ((1 : Int32) < 0 ∨ cl191.slots.size ≤ ((1 : Int32)).toNatClampNeg) := inb_of S191 ⟨by decide, by decide⟩
    refine .st (fun _ => X181.aaload hx (j := (1 : Int32)) (v := (.ref u_Outcome_FAILED)) (by first | exact Ar191.1 | (rw [e181]; exact Ar191.1)) (State.isArrayOf_alike hZ.alike Ar191.2.1) rfl Ar191.2.2 hin191 (H191.at hin191 rfl) (g := (mkF m 21 #[.val (.ref x), .val .null, .val (.ref b177), .val (.int (4 : Int32)), .val (.int (1 : Int32)), .val (.ref u_Outcome_PASSED)] [(.int (1 : Int32)), (.ref b177)])) rfl rfl (hb hby d17_21) _) ?_
    show OwnGo p e below s _ _ _ T181 (mkF m 22 _ [(.ref u_Outcome_FAILED)])
    refine .astore X181 hx (hb hby d17_22) rfl (L' := #[.val (.ref x), .val .null, .val (.ref b177), .val (.int (4 : Int32)), .val (.int (1 : Int32)), .val (.ref u_Outcome_FAILED)]) rfl ?_
    refine .aload X181 hx (hb hby d17_24) rfl rfl ?_
    obtain ⟨T192, X192, e192, st192⟩ := getF X181 hx hZ hown (host := "") (Or.inl (W_ hw 101 rfl)) Via.refl e181 (F_u_Outcome_FAILED_text.ext O_.2) (g := (mkF m 26 #[.val (.ref x), .val .null, .val (.ref b177), .val (.int (4 : Int32)), .val (.int (1 : Int32)), .val (.ref u_Outcome_FAILED)] [(.ref u_Outcome_FAILED)])) rfl rfl (hb hby d17_26)
    refine .st st192 ?_
    show OwnGo p e below s _ _ _ T192 (mkF m 29 _ [(.ref u_Outcome_FAILED_text)])
    refine .aloadN X192 hx (hb hby d17_29) rfl rfl ?_
    obtain ⟨cq193, kq193, q193a, q193b, q193c⟩ := isOf hZ e192 (E_u_Outcome_FAILED_text.ext O_.2)
    obtain ⟨_, _, ⟨T193, L193, k193, n193⟩, -, X193, ⟨Lc193, hQ193, l193, y193, z193⟩, st193⟩ := X192.virtualBack hx (y := (⟨"java/lang/String", "equals", "(Ljava/lang/Object;)Z"⟩ : MethodName)) (z := (⟨"java/lang/String", "equals", "(Ljava/lang/Object;)Z"⟩ : MethodName)) hown (mvT hZ (W_ hw 103 rfl)) (mvT hZ (W_ hw 104 rfl)) (notFace_of_selects (args := #[]) (mvT hZ (W_ hw 106 rfl))) (mvT hZ (W_ hw 106 rfl)) (mvT hZ (W_ hw 105 rfl)) (by decide) (backOf (W := 0) (rmse l Z a0 hw [] u_Outcome_FAILED_text u_Outcome_FAILED_text_value kc_u_Outcome_FAILED_text_value ([102, 97, 105, 108, 101, 100] : List Int32) x t kt vs zc T177.heap n0 Z_ O_ S_CS P_CS (E_u_Outcome_FAILED_text.ext O_.2) (F_u_Outcome_FAILED_text_coder.ext O_.2) (F_u_Outcome_FAILED_text_value.ext O_.2) (V_u_Outcome_FAILED_text_value.ext O_.2) (by decide) E_x Fc_x Fv_x V_t l_vs) hZ (W_ hw 107 rfl) (W_ hw 1 rfl) (by decide) (by decide)) q193a q193c (g := (mkF m 30 #[.val (.ref x), .val .null, .val (.ref b177), .val (.int (4 : Int32)), .val (.int (1 : Int32)), .val (.ref u_Outcome_FAILED)] [(.ref x), (.ref u_Outcome_FAILED_text)])) rfl (by rw [hml]; rfl) (Steps.refl _) (argsL := [(.ref x)]) (rest := []) (lenOf pd_12 rfl) rfl (Nat.le_of_eq rfl) (hb hby d17_30) (fun _ _ => ⟨rfl, e192, (by decide : 1 + 0 ≤ _), (by decide : 4 + 0 ≤ _)⟩)
    dsimp only [Pt.U, Pt.locs, Pt.cells, Pt.slots] at X193 l193 y193 z193 st193 hQ193
    subst l193 y193 z193
    obtain ⟨r193, rfl, N193q, e193, hr193⟩ := hQ193
    have N193 := Fr.app N181 N193q
    refine .st (fun _ => st193.trans) ?_
    show OwnGo p e below s _ _ _ T193 (mkF m 33 _ [(.int r193)])
    rcases hr193 with ⟨rfl, hs1⟩ | ⟨rfl, hs1⟩
    · have hs1 := hs1.symm
      show OwnGo p e below s _ _ _ T193 (mkF m 33 _ [(.int (1 : Int32))])
      refine .ifNo X193 hx (hb hby d17_33) ((if0 _ _).trans (feq ((by decide) : ¬ ((1 : Int32) = (0 : Int32)))).1) ?_
      refine .aload X193 hx (hb hby d17_36) rfl rfl ?_
      refine .astoreN X193 hx (hb hby d17_38) rfl (L' := #[.val (.ref x), .val (.ref u_Outcome_FAILED), .val (.ref b177), .val (.int (4 : Int32)), .val (.int (1 : Int32)), .val (.ref u_Outcome_FAILED)]) rfl ?_
      refine .iinc X193 hx (hb hby d17_39) rfl own_ka1_1 (L' := #[.val (.ref x), .val (.ref u_Outcome_FAILED), .val (.ref b177), .val (.int (4 : Int32)), .val (.int (2 : Int32)), .val (.ref u_Outcome_FAILED)]) rfl ?_
      refine .goto (pc := 42) X193 hx 12 (hb hby d17_42) (by decide) (by decide) ?_
      refine .iload X193 hx (hb hby d17_12) rfl ?_
      refine .iloadN X193 hx (hb hby d17_14) rfl ?_
      refine .icmpNo X193 hx (hb hby d17_15) (tlt ((by decide) : (2 : Int32) < (4 : Int32))).2.1 ?_
      refine .aloadN X193 hx (hb hby d17_18) rfl rfl ?_
      refine .iload X193 hx (hb hby d17_19) rfl ?_
      obtain ⟨cl194, Ar194, -, S194, -, H194, -⟩ := id V177
      have hin194 : ¬ ((2 : Int32) < 0 ∨ cl194.slots.size ≤ ((2 : Int32)).toNatClampNeg) := inb_of S194 ⟨by decide, by decide⟩
      refine .st (fun _ => X193.aaload hx (j := (2 : Int32)) (v := (.ref u_Outcome_ABORTED)) (by first | exact Ar194.1 | (rw [e193]; exact Ar194.1)) (State.isArrayOf_alike hZ.alike Ar194.2.1) rfl Ar194.2.2 hin194 (H194.at hin194 rfl) (g := (mkF m 21 #[.val (.ref x), .val (.ref u_Outcome_FAILED), .val (.ref b177), .val (.int (4 : Int32)), .val (.int (2 : Int32)), .val (.ref u_Outcome_FAILED)] [(.int (2 : Int32)), (.ref b177)])) rfl rfl (hb hby d17_21) _) ?_
      show OwnGo p e below s _ _ _ T193 (mkF m 22 _ [(.ref u_Outcome_ABORTED)])
      refine .astore X193 hx (hb hby d17_22) rfl (L' := #[.val (.ref x), .val (.ref u_Outcome_FAILED), .val (.ref b177), .val (.int (4 : Int32)), .val (.int (2 : Int32)), .val (.ref u_Outcome_ABORTED)]) rfl ?_
      refine .aload X193 hx (hb hby d17_24) rfl rfl ?_
      obtain ⟨T195, X195, e195, st195⟩ := getF X193 hx hZ hown (host := "") (Or.inl (W_ hw 101 rfl)) Via.refl e193 (F_u_Outcome_ABORTED_text.ext O_.2) (g := (mkF m 26 #[.val (.ref x), .val (.ref u_Outcome_FAILED), .val (.ref b177), .val (.int (4 : Int32)), .val (.int (2 : Int32)), .val (.ref u_Outcome_ABORTED)] [(.ref u_Outcome_ABORTED)])) rfl rfl (hb hby d17_26)
      refine .st st195 ?_
      show OwnGo p e below s _ _ _ T195 (mkF m 29 _ [(.ref u_Outcome_ABORTED_text)])
      refine .aloadN X195 hx (hb hby d17_29) rfl rfl ?_
      obtain ⟨cq196, kq196, q196a, q196b, q196c⟩ := isOf hZ e195 (E_u_Outcome_ABORTED_text.ext O_.2)
      obtain ⟨_, _, ⟨T196, L196, k196, n196⟩, -, X196, ⟨Lc196, hQ196, l196, y196, z196⟩, st196⟩ := X195.virtualBack hx (y := (⟨"java/lang/String", "equals", "(Ljava/lang/Object;)Z"⟩ : MethodName)) (z := (⟨"java/lang/String", "equals", "(Ljava/lang/Object;)Z"⟩ : MethodName)) hown (mvT hZ (W_ hw 103 rfl)) (mvT hZ (W_ hw 104 rfl)) (notFace_of_selects (args := #[]) (mvT hZ (W_ hw 106 rfl))) (mvT hZ (W_ hw 106 rfl)) (mvT hZ (W_ hw 105 rfl)) (by decide) (backOf (W := 0) (rmse l Z a0 hw [] u_Outcome_ABORTED_text u_Outcome_ABORTED_text_value kc_u_Outcome_ABORTED_text_value ([97, 98, 111, 114, 116, 101, 100] : List Int32) x t kt vs zc T177.heap n0 Z_ O_ S_CS P_CS (E_u_Outcome_ABORTED_text.ext O_.2) (F_u_Outcome_ABORTED_text_coder.ext O_.2) (F_u_Outcome_ABORTED_text_value.ext O_.2) (V_u_Outcome_ABORTED_text_value.ext O_.2) (by decide) E_x Fc_x Fv_x V_t l_vs) hZ (W_ hw 107 rfl) (W_ hw 1 rfl) (by decide) (by decide)) q196a q196c (g := (mkF m 30 #[.val (.ref x), .val (.ref u_Outcome_FAILED), .val (.ref b177), .val (.int (4 : Int32)), .val (.int (2 : Int32)), .val (.ref u_Outcome_ABORTED)] [(.ref x), (.ref u_Outcome_ABORTED_text)])) rfl (by rw [hml]; rfl) (Steps.refl _) (argsL := [(.ref x)]) (rest := []) (lenOf pd_12 rfl) rfl (Nat.le_of_eq rfl) (hb hby d17_30) (fun _ _ => ⟨rfl, e195, (by decide : 1 + 0 ≤ _), (by decide : 4 + 0 ≤ _)⟩)
      dsimp only [Pt.U, Pt.locs, Pt.cells, Pt.slots] at X196 l196 y196 z196 st196 hQ196
      subst l196 y196 z196
      obtain ⟨r196, rfl, N196q, e196, hr196⟩ := hQ196
      have N196 := Fr.app N193 N196q
      refine .st (fun _ => st196.trans) ?_
      show OwnGo p e below s _ _ _ T196 (mkF m 33 _ [(.int r196)])
      rcases hr196 with ⟨rfl, hs2⟩ | ⟨rfl, hs2⟩
      · exact absurd (hs2.trans hs1) (by decide)
      · have hs2 := fun q => hs2 (Eq.symm q)
        show OwnGo p e below s _ _ _ T196 (mkF m 33 _ [(.int (0 : Int32))])
        refine .ifYes (pc := 33) X196 hx 39 (hb hby d17_33) ((if0 _ _).trans (teq ((by decide) : (0 : Int32) = (0 : Int32))).1) (by decide) (by decide) ?_
        refine .iinc X196 hx (hb hby d17_39) rfl own_ka2_1 (L' := #[.val (.ref x), .val (.ref u_Outcome_FAILED), .val (.ref b177), .val (.int (4 : Int32)), .val (.int (3 : Int32)), .val (.ref u_Outcome_ABORTED)]) rfl ?_
        refine .goto (pc := 42) X196 hx 12 (hb hby d17_42) (by decide) (by decide) ?_
        refine .iload X196 hx (hb hby d17_12) rfl ?_
        refine .iloadN X196 hx (hb hby d17_14) rfl ?_
        refine .icmpNo X196 hx (hb hby d17_15) (tlt ((by decide) : (3 : Int32) < (4 : Int32))).2.1 ?_
        refine .aloadN X196 hx (hb hby d17_18) rfl rfl ?_
        refine .iload X196 hx (hb hby d17_19) rfl ?_
        obtain ⟨cl197, Ar197, -, S197, -, H197, -⟩ := id V177
        have hin197 : ¬ ((3 : Int32) < 0 ∨ cl197.slots.size ≤ ((3 : Int32)).toNatClampNeg) := inb_of S197 ⟨by decide, by decide⟩
        refine .st (fun _ => X196.aaload hx (j := (3 : Int32)) (v := (.ref u_Outcome_NOT_FOUND)) (by first | exact Ar197.1 | (rw [e196]; exact Ar197.1)) (State.isArrayOf_alike hZ.alike Ar197.2.1) rfl Ar197.2.2 hin197 (H197.at hin197 rfl) (g := (mkF m 21 #[.val (.ref x), .val (.ref u_Outcome_FAILED), .val (.ref b177), .val (.int (4 : Int32)), .val (.int (3 : Int32)), .val (.ref u_Outcome_ABORTED)] [(.int (3 : Int32)), (.ref b177)])) rfl rfl (hb hby d17_21) _) ?_
        show OwnGo p e below s _ _ _ T196 (mkF m 22 _ [(.ref u_Outcome_NOT_FOUND)])
        refine .astore X196 hx (hb hby d17_22) rfl (L' := #[.val (.ref x), .val (.ref u_Outcome_FAILED), .val (.ref b177), .val (.int (4 : Int32)), .val (.int (3 : Int32)), .val (.ref u_Outcome_NOT_FOUND)]) rfl ?_
        refine .aload X196 hx (hb hby d17_24) rfl rfl ?_
        obtain ⟨T198, X198, e198, st198⟩ := getF X196 hx hZ hown (host := "") (Or.inl (W_ hw 101 rfl)) Via.refl e196 (F_u_Outcome_NOT_FOUND_text.ext O_.2) (g := (mkF m 26 #[.val (.ref x), .val (.ref u_Outcome_FAILED), .val (.ref b177), .val (.int (4 : Int32)), .val (.int (3 : Int32)), .val (.ref u_Outcome_NOT_FOUND)] [(.ref u_Outcome_NOT_FOUND)])) rfl rfl (hb hby d17_26)
        refine .st st198 ?_
        show OwnGo p e below s _ _ _ T198 (mkF m 29 _ [(.ref u_Outcome_NOT_FOUND_text)])
        refine .aloadN X198 hx (hb hby d17_29) rfl rfl ?_
        obtain ⟨cq199, kq199, q199a, q199b, q199c⟩ := isOf hZ e198 (E_u_Outcome_NOT_FOUND_text.ext O_.2)
        obtain ⟨_, _, ⟨T199, L199, k199, n199⟩, -, X199, ⟨Lc199, hQ199, l199, y199, z199⟩, st199⟩ := X198.virtualBack hx (y := (⟨"java/lang/String", "equals", "(Ljava/lang/Object;)Z"⟩ : MethodName)) (z := (⟨"java/lang/String", "equals", "(Ljava/lang/Object;)Z"⟩ : MethodName)) hown (mvT hZ (W_ hw 103 rfl)) (mvT hZ (W_ hw 104 rfl)) (notFace_of_selects (args := #[]) (mvT hZ (W_ hw 106 rfl))) (mvT hZ (W_ hw 106 rfl)) (mvT hZ (W_ hw 105 rfl)) (by decide) (backOf (W := 0) (rmse l Z a0 hw [] u_Outcome_NOT_FOUND_text u_Outcome_NOT_FOUND_text_value kc_u_Outcome_NOT_FOUND_text_value ([110, 111, 116, 45, 102, 111, 117, 110, 100] : List Int32) x t kt vs zc T177.heap n0 Z_ O_ S_CS P_CS (E_u_Outcome_NOT_FOUND_text.ext O_.2) (F_u_Outcome_NOT_FOUND_text_coder.ext O_.2) (F_u_Outcome_NOT_FOUND_text_value.ext O_.2) (V_u_Outcome_NOT_FOUND_text_value.ext O_.2) (by decide) E_x Fc_x Fv_x V_t l_vs) hZ (W_ hw 107 rfl) (W_ hw 1 rfl) (by decide) (by decide)) q199a q199c (g := (mkF m 30 #[.val (.ref x), .val (.ref u_Outcome_FAILED), .val (.ref b177), .val (.int (4 : Int32)), .val (.int (3 : Int32)), .val (.ref u_Outcome_NOT_FOUND)] [(.ref x), (.ref u_Outcome_NOT_FOUND_text)])) rfl (by rw [hml]; rfl) (Steps.refl _) (argsL := [(.ref x)]) (rest := []) (lenOf pd_12 rfl) rfl (Nat.le_of_eq rfl) (hb hby d17_30) (fun _ _ => ⟨rfl, e198, (by decide : 1 + 0 ≤ _), (by decide : 4 + 0 ≤ _)⟩)
        dsimp only [Pt.U, Pt.locs, Pt.cells, Pt.slots] at X199 l199 y199 z199 st199 hQ199
        subst l199 y199 z199
        obtain ⟨r199, rfl, N199q, e199, hr199⟩ := hQ199
        have N199 := Fr.app N196 N199q
        refine .st (fun _ => st199.trans) ?_
        show OwnGo p e below s _ _ _ T199 (mkF m 33 _ [(.int r199)])
        rcases hr199 with ⟨rfl, hs3⟩ | ⟨rfl, hs3⟩
        · exact absurd (hs3.trans hs1) (by decide)
        · have hs3 := fun q => hs3 (Eq.symm q)
          show OwnGo p e below s _ _ _ T199 (mkF m 33 _ [(.int (0 : Int32))])
          refine .ifYes (pc := 33) X199 hx 39 (hb hby d17_33) ((if0 _ _).trans (teq ((by decide) : (0 : Int32) = (0 : Int32))).1) (by decide) (by decide) ?_
          refine .iinc X199 hx (hb hby d17_39) rfl own_ka3_1 (L' := #[.val (.ref x), .val (.ref u_Outcome_FAILED), .val (.ref b177), .val (.int (4 : Int32)), .val (.int (4 : Int32)), .val (.ref u_Outcome_NOT_FOUND)]) rfl ?_
          refine .goto (pc := 42) X199 hx 12 (hb hby d17_42) (by decide) (by decide) ?_
          refine .iload X199 hx (hb hby d17_12) rfl ?_
          refine .iloadN X199 hx (hb hby d17_14) rfl ?_
          refine .icmpYes (pc := 15) X199 hx 45 (hb hby d17_15) (flt ((by decide) : ¬ ((4 : Int32) < (4 : Int32)))).2.1 (by decide) (by decide) ?_
          refine .aloadN X199 hx (hb hby d17_45) rfl rfl ?_
          exact OwnGo.ret X199 hx hret hlk rfl (Or.inr (Or.inr (Or.inr (Or.inr ⟨rfl, rfl, rfl⟩)))) (hb hby d17_46) (by show Qof Z x t kt vs u_Outcome__VALUES u_Outcome_PASSED u_Outcome_FAILED u_Outcome_ABORTED u_Outcome_NOT_FOUND u_Outcome_PASSED_text u_Outcome_PASSED_text_value u_Outcome_FAILED_text u_Outcome_FAILED_text_value u_Outcome_ABORTED_text u_Outcome_ABORTED_text_value u_Outcome_NOT_FOUND_text u_Outcome_NOT_FOUND_text_value kc_u_Outcome__VALUES kc_u_Outcome_PASSED_text_value kc_u_Outcome_FAILED_text_value kc_u_Outcome_ABORTED_text_value kc_u_Outcome_NOT_FOUND_text_value zc fmv h0 n0 _ T199.heap _; rw [e199]; exact ⟨by rw [hs1, own_r1], N199, Kp⟩) (by decide) (by decide)
    · have hs1 := fun q => hs1 (Eq.symm q)
      show OwnGo p e below s _ _ _ T193 (mkF m 33 _ [(.int (0 : Int32))])
      refine .ifYes (pc := 33) X193 hx 39 (hb hby d17_33) ((if0 _ _).trans (teq ((by decide) : (0 : Int32) = (0 : Int32))).1) (by decide) (by decide) ?_
      refine .iinc X193 hx (hb hby d17_39) rfl own_ka1_1 (L' := #[.val (.ref x), .val .null, .val (.ref b177), .val (.int (4 : Int32)), .val (.int (2 : Int32)), .val (.ref u_Outcome_FAILED)]) rfl ?_
      refine .goto (pc := 42) X193 hx 12 (hb hby d17_42) (by decide) (by decide) ?_
      refine .iload X193 hx (hb hby d17_12) rfl ?_
      refine .iloadN X193 hx (hb hby d17_14) rfl ?_
      refine .icmpNo X193 hx (hb hby d17_15) (tlt ((by decide) : (2 : Int32) < (4 : Int32))).2.1 ?_
      refine .aloadN X193 hx (hb hby d17_18) rfl rfl ?_
      refine .iload X193 hx (hb hby d17_19) rfl ?_
      obtain ⟨cl200, Ar200, -, S200, -, H200, -⟩ := id V177
      have hin200 : ¬ ((2 : Int32) < 0 ∨ cl200.slots.size ≤ ((2 : Int32)).toNatClampNeg) := inb_of S200 ⟨by decide, by decide⟩
      refine .st (fun _ => X193.aaload hx (j := (2 : Int32)) (v := (.ref u_Outcome_ABORTED)) (by first | exact Ar200.1 | (rw [e193]; exact Ar200.1)) (State.isArrayOf_alike hZ.alike Ar200.2.1) rfl Ar200.2.2 hin200 (H200.at hin200 rfl) (g := (mkF m 21 #[.val (.ref x), .val .null, .val (.ref b177), .val (.int (4 : Int32)), .val (.int (2 : Int32)), .val (.ref u_Outcome_FAILED)] [(.int (2 : Int32)), (.ref b177)])) rfl rfl (hb hby d17_21) _) ?_
      show OwnGo p e below s _ _ _ T193 (mkF m 22 _ [(.ref u_Outcome_ABORTED)])
      refine .astore X193 hx (hb hby d17_22) rfl (L' := #[.val (.ref x), .val .null, .val (.ref b177), .val (.int (4 : Int32)), .val (.int (2 : Int32)), .val (.ref u_Outcome_ABORTED)]) rfl ?_
      refine .aload X193 hx (hb hby d17_24) rfl rfl ?_
      obtain ⟨T201, X201, e201, st201⟩ := getF X193 hx hZ hown (host := "") (Or.inl (W_ hw 101 rfl)) Via.refl e193 (F_u_Outcome_ABORTED_text.ext O_.2) (g := (mkF m 26 #[.val (.ref x), .val .null, .val (.ref b177), .val (.int (4 : Int32)), .val (.int (2 : Int32)), .val (.ref u_Outcome_ABORTED)] [(.ref u_Outcome_ABORTED)])) rfl rfl (hb hby d17_26)
      refine .st st201 ?_
      show OwnGo p e below s _ _ _ T201 (mkF m 29 _ [(.ref u_Outcome_ABORTED_text)])
      refine .aloadN X201 hx (hb hby d17_29) rfl rfl ?_
      obtain ⟨cq202, kq202, q202a, q202b, q202c⟩ := isOf hZ e201 (E_u_Outcome_ABORTED_text.ext O_.2)
      obtain ⟨_, _, ⟨T202, L202, k202, n202⟩, -, X202, ⟨Lc202, hQ202, l202, y202, z202⟩, st202⟩ := X201.virtualBack hx (y := (⟨"java/lang/String", "equals", "(Ljava/lang/Object;)Z"⟩ : MethodName)) (z := (⟨"java/lang/String", "equals", "(Ljava/lang/Object;)Z"⟩ : MethodName)) hown (mvT hZ (W_ hw 103 rfl)) (mvT hZ (W_ hw 104 rfl)) (notFace_of_selects (args := #[]) (mvT hZ (W_ hw 106 rfl))) (mvT hZ (W_ hw 106 rfl)) (mvT hZ (W_ hw 105 rfl)) (by decide) (backOf (W := 0) (rmse l Z a0 hw [] u_Outcome_ABORTED_text u_Outcome_ABORTED_text_value kc_u_Outcome_ABORTED_text_value ([97, 98, 111, 114, 116, 101, 100] : List Int32) x t kt vs zc T177.heap n0 Z_ O_ S_CS P_CS (E_u_Outcome_ABORTED_text.ext O_.2) (F_u_Outcome_ABORTED_text_coder.ext O_.2) (F_u_Outcome_ABORTED_text_value.ext O_.2) (V_u_Outcome_ABORTED_text_value.ext O_.2) (by decide) E_x Fc_x Fv_x V_t l_vs) hZ (W_ hw 107 rfl) (W_ hw 1 rfl) (by decide) (by decide)) q202a q202c (g := (mkF m 30 #[.val (.ref x), .val .null, .val (.ref b177), .val (.int (4 : Int32)), .val (.int (2 : Int32)), .val (.ref u_Outcome_ABORTED)] [(.ref x), (.ref u_Outcome_ABORTED_text)])) rfl (by rw [hml]; rfl) (Steps.refl _) (argsL := [(.ref x)]) (rest := []) (lenOf pd_12 rfl) rfl (Nat.le_of_eq rfl) (hb hby d17_30) (fun _ _ => ⟨rfl, e201, (by decide : 1 + 0 ≤ _), (by decide : 4 + 0 ≤ _)⟩)
      dsimp only [Pt.U, Pt.locs, Pt.cells, Pt.slots] at X202 l202 y202 z202 st202 hQ202
      subst l202 y202 z202
      obtain ⟨r202, rfl, N202q, e202, hr202⟩ := hQ202
      have N202 := Fr.app N193 N202q
      refine .st (fun _ => st202.trans) ?_
      show OwnGo p e below s _ _ _ T202 (mkF m 33 _ [(.int r202)])
      rcases hr202 with ⟨rfl, hs2⟩ | ⟨rfl, hs2⟩
      · have hs2 := hs2.symm
        show OwnGo p e below s _ _ _ T202 (mkF m 33 _ [(.int (1 : Int32))])
        refine .ifNo X202 hx (hb hby d17_33) ((if0 _ _).trans (feq ((by decide) : ¬ ((1 : Int32) = (0 : Int32)))).1) ?_
        refine .aload X202 hx (hb hby d17_36) rfl rfl ?_
        refine .astoreN X202 hx (hb hby d17_38) rfl (L' := #[.val (.ref x), .val (.ref u_Outcome_ABORTED), .val (.ref b177), .val (.int (4 : Int32)), .val (.int (2 : Int32)), .val (.ref u_Outcome_ABORTED)]) rfl ?_
        refine .iinc X202 hx (hb hby d17_39) rfl own_ka2_1 (L' := #[.val (.ref x), .val (.ref u_Outcome_ABORTED), .val (.ref b177), .val (.int (4 : Int32)), .val (.int (3 : Int32)), .val (.ref u_Outcome_ABORTED)]) rfl ?_
        refine .goto (pc := 42) X202 hx 12 (hb hby d17_42) (by decide) (by decide) ?_
        refine .iload X202 hx (hb hby d17_12) rfl ?_
        refine .iloadN X202 hx (hb hby d17_14) rfl ?_
        refine .icmpNo X202 hx (hb hby d17_15) (tlt ((by decide) : (3 : Int32) < (4 : Int32))).2.1 ?_
        refine .aloadN X202 hx (hb hby d17_18) rfl rfl ?_
        refine .iload X202 hx (hb hby d17_19) rfl ?_
        obtain ⟨cl203, Ar203, -, S203, -, H203, -⟩ := id V177
        have hin203 : ¬ ((3 : Int32) < 0 ∨ cl203.slots.size ≤ ((3 : Int32)).toNatClampNeg) := inb_of S203 ⟨by decide, by decide⟩
        refine .st (fun _ => X202.aaload hx (j := (3 : Int32)) (v := (.ref u_Outcome_NOT_FOUND)) (by first | exact Ar203.1 | (rw [e202]; exact Ar203.1)) (State.isArrayOf_alike hZ.alike Ar203.2.1) rfl Ar203.2.2 hin203 (H203.at hin203 rfl) (g := (mkF m 21 #[.val (.ref x), .val (.ref u_Outcome_ABORTED), .val (.ref b177), .val (.int (4 : Int32)), .val (.int (3 : Int32)), .val (.ref u_Outcome_ABORTED)] [(.int (3 : Int32)), (.ref b177)])) rfl rfl (hb hby d17_21) _) ?_
        show OwnGo p e below s _ _ _ T202 (mkF m 22 _ [(.ref u_Outcome_NOT_FOUND)])
        refine .astore X202 hx (hb hby d17_22) rfl (L' := #[.val (.ref x), .val (.ref u_Outcome_ABORTED), .val (.ref b177), .val (.int (4 : Int32)), .val (.int (3 : Int32)), .val (.ref u_Outcome_NOT_FOUND)]) rfl ?_
        refine .aload X202 hx (hb hby d17_24) rfl rfl ?_
        obtain ⟨T204, X204, e204, st204⟩ := getF X202 hx hZ hown (host := "") (Or.inl (W_ hw 101 rfl)) Via.refl e202 (F_u_Outcome_NOT_FOUND_text.ext O_.2) (g := (mkF m 26 #[.val (.ref x), .val (.ref u_Outcome_ABORTED), .val (.ref b177), .val (.int (4 : Int32)), .val (.int (3 : Int32)), .val (.ref u_Outcome_NOT_FOUND)] [(.ref u_Outcome_NOT_FOUND)])) rfl rfl (hb hby d17_26)
        refine .st st204 ?_
        show OwnGo p e below s _ _ _ T204 (mkF m 29 _ [(.ref u_Outcome_NOT_FOUND_text)])
        refine .aloadN X204 hx (hb hby d17_29) rfl rfl ?_
        obtain ⟨cq205, kq205, q205a, q205b, q205c⟩ := isOf hZ e204 (E_u_Outcome_NOT_FOUND_text.ext O_.2)
        obtain ⟨_, _, ⟨T205, L205, k205, n205⟩, -, X205, ⟨Lc205, hQ205, l205, y205, z205⟩, st205⟩ := X204.virtualBack hx (y := (⟨"java/lang/String", "equals", "(Ljava/lang/Object;)Z"⟩ : MethodName)) (z := (⟨"java/lang/String", "equals", "(Ljava/lang/Object;)Z"⟩ : MethodName)) hown (mvT hZ (W_ hw 103 rfl)) (mvT hZ (W_ hw 104 rfl)) (notFace_of_selects (args := #[]) (mvT hZ (W_ hw 106 rfl))) (mvT hZ (W_ hw 106 rfl)) (mvT hZ (W_ hw 105 rfl)) (by decide) (backOf (W := 0) (rmse l Z a0 hw [] u_Outcome_NOT_FOUND_text u_Outcome_NOT_FOUND_text_value kc_u_Outcome_NOT_FOUND_text_value ([110, 111, 116, 45, 102, 111, 117, 110, 100] : List Int32) x t kt vs zc T177.heap n0 Z_ O_ S_CS P_CS (E_u_Outcome_NOT_FOUND_text.ext O_.2) (F_u_Outcome_NOT_FOUND_text_coder.ext O_.2) (F_u_Outcome_NOT_FOUND_text_value.ext O_.2) (V_u_Outcome_NOT_FOUND_text_value.ext O_.2) (by decide) E_x Fc_x Fv_x V_t l_vs) hZ (W_ hw 107 rfl) (W_ hw 1 rfl) (by decide) (by decide)) q205a q205c (g := (mkF m 30 #[.val (.ref x), .val (.ref u_Outcome_ABORTED), .val (.ref b177), .val (.int (4 : Int32)), .val (.int (3 : Int32)), .val (.ref u_Outcome_NOT_FOUND)] [(.ref x), (.ref u_Outcome_NOT_FOUND_text)])) rfl (by rw [hml]; rfl) (Steps.refl _) (argsL := [(.ref x)]) (rest := []) (lenOf pd_12 rfl) rfl (Nat.le_of_eq rfl) (hb hby d17_30) (fun _ _ => ⟨rfl, e204, (by decide : 1 + 0 ≤ _), (by decide : 4 + 0 ≤ _)⟩)
        dsimp only [Pt.U, Pt.locs, Pt.cells, Pt.slots] at X205 l205 y205 z205 st205 hQ205
        subst l205 y205 z205
        obtain ⟨r205, rfl, N205q, e205, hr205⟩ := hQ205
        have N205 := Fr.app N202 N205q
        refine .st (fun _ => st205.trans) ?_
        show OwnGo p e below s _ _ _ T205 (mkF m 33 _ [(.int r205)])
        rcases hr205 with ⟨rfl, hs3⟩ | ⟨rfl, hs3⟩
        · exact absurd (hs3.trans hs2) (by decide)
        · have hs3 := fun q => hs3 (Eq.symm q)
          show OwnGo p e below s _ _ _ T205 (mkF m 33 _ [(.int (0 : Int32))])
          refine .ifYes (pc := 33) X205 hx 39 (hb hby d17_33) ((if0 _ _).trans (teq ((by decide) : (0 : Int32) = (0 : Int32))).1) (by decide) (by decide) ?_
          refine .iinc X205 hx (hb hby d17_39) rfl own_ka3_1 (L' := #[.val (.ref x), .val (.ref u_Outcome_ABORTED), .val (.ref b177), .val (.int (4 : Int32)), .val (.int (4 : Int32)), .val (.ref u_Outcome_NOT_FOUND)]) rfl ?_
          refine .goto (pc := 42) X205 hx 12 (hb hby d17_42) (by decide) (by decide) ?_
          refine .iload X205 hx (hb hby d17_12) rfl ?_
          refine .iloadN X205 hx (hb hby d17_14) rfl ?_
          refine .icmpYes (pc := 15) X205 hx 45 (hb hby d17_15) (flt ((by decide) : ¬ ((4 : Int32) < (4 : Int32)))).2.1 (by decide) (by decide) ?_
          refine .aloadN X205 hx (hb hby d17_45) rfl rfl ?_
          exact OwnGo.ret X205 hx hret hlk rfl (Or.inr (Or.inr (Or.inr (Or.inr ⟨rfl, rfl, rfl⟩)))) (hb hby d17_46) (by show Qof Z x t kt vs u_Outcome__VALUES u_Outcome_PASSED u_Outcome_FAILED u_Outcome_ABORTED u_Outcome_NOT_FOUND u_Outcome_PASSED_text u_Outcome_PASSED_text_value u_Outcome_FAILED_text u_Outcome_FAILED_text_value u_Outcome_ABORTED_text u_Outcome_ABORTED_text_value u_Outcome_NOT_FOUND_text u_Outcome_NOT_FOUND_text_value kc_u_Outcome__VALUES kc_u_Outcome_PASSED_text_value kc_u_Outcome_FAILED_text_value kc_u_Outcome_ABORTED_text_value kc_u_Outcome_NOT_FOUND_text_value zc fmv h0 n0 _ T205.heap _; rw [e205]; exact ⟨by rw [hs2, own_r2], N205, Kp⟩) (by decide) (by decide)
      · have hs2 := fun q => hs2 (Eq.symm q)
        show OwnGo p e below s _ _ _ T202 (mkF m 33 _ [(.int (0 : Int32))])
        refine .ifYes (pc := 33) X202 hx 39 (hb hby d17_33) ((if0 _ _).trans (teq ((by decide) : (0 : Int32) = (0 : Int32))).1) (by decide) (by decide) ?_
        refine .iinc X202 hx (hb hby d17_39) rfl own_ka2_1 (L' := #[.val (.ref x), .val .null, .val (.ref b177), .val (.int (4 : Int32)), .val (.int (3 : Int32)), .val (.ref u_Outcome_ABORTED)]) rfl ?_
        refine .goto (pc := 42) X202 hx 12 (hb hby d17_42) (by decide) (by decide) ?_
        refine .iload X202 hx (hb hby d17_12) rfl ?_
        refine .iloadN X202 hx (hb hby d17_14) rfl ?_
        refine .icmpNo X202 hx (hb hby d17_15) (tlt ((by decide) : (3 : Int32) < (4 : Int32))).2.1 ?_
        refine .aloadN X202 hx (hb hby d17_18) rfl rfl ?_
        refine .iload X202 hx (hb hby d17_19) rfl ?_
        obtain ⟨cl206, Ar206, -, S206, -, H206, -⟩ := id V177
        have hin206 : ¬ ((3 : Int32) < 0 ∨ cl206.slots.size ≤ ((3 : Int32)).toNatClampNeg) := inb_of S206 ⟨by decide, by decide⟩
        refine .st (fun _ => X202.aaload hx (j := (3 : Int32)) (v := (.ref u_Outcome_NOT_FOUND)) (by first | exact Ar206.1 | (rw [e202]; exact Ar206.1)) (State.isArrayOf_alike hZ.alike Ar206.2.1) rfl Ar206.2.2 hin206 (H206.at hin206 rfl) (g := (mkF m 21 #[.val (.ref x), .val .null, .val (.ref b177), .val (.int (4 : Int32)), .val (.int (3 : Int32)), .val (.ref u_Outcome_ABORTED)] [(.int (3 : Int32)), (.ref b177)])) rfl rfl (hb hby d17_21) _) ?_
        show OwnGo p e below s _ _ _ T202 (mkF m 22 _ [(.ref u_Outcome_NOT_FOUND)])
        refine .astore X202 hx (hb hby d17_22) rfl (L' := #[.val (.ref x), .val .null, .val (.ref b177), .val (.int (4 : Int32)), .val (.int (3 : Int32)), .val (.ref u_Outcome_NOT_FOUND)]) rfl ?_
        refine .aload X202 hx (hb hby d17_24) rfl rfl ?_
        obtain ⟨T207, X207, e207, st207⟩ := getF X202 hx hZ hown (host := "") (Or.inl (W_ hw 101 rfl)) Via.refl e202 (F_u_Outcome_NOT_FOUND_text.ext O_.2) (g := (mkF m 26 #[.val (.ref x), .val .null, .val (.ref b177), .val (.int (4 : Int32)), .val (.int (3 : Int32)), .val (.ref u_Outcome_NOT_FOUND)] [(.ref u_Outcome_NOT_FOUND)])) rfl rfl (hb hby d17_26)
        refine .st st207 ?_
        show OwnGo p e below s _ _ _ T207 (mkF m 29 _ [(.ref u_Outcome_NOT_FOUND_text)])
        refine .aloadN X207 hx (hb hby d17_29) rfl rfl ?_
        obtain ⟨cq208, kq208, q208a, q208b, q208c⟩ := isOf hZ e207 (E_u_Outcome_NOT_FOUND_text.ext O_.2)
        obtain ⟨_, _, ⟨T208, L208, k208, n208⟩, -, X208, ⟨Lc208, hQ208, l208, y208, z208⟩, st208⟩ := X207.virtualBack hx (y := (⟨"java/lang/String", "equals", "(Ljava/lang/Object;)Z"⟩ : MethodName)) (z := (⟨"java/lang/String", "equals", "(Ljava/lang/Object;)Z"⟩ : MethodName)) hown (mvT hZ (W_ hw 103 rfl)) (mvT hZ (W_ hw 104 rfl)) (notFace_of_selects (args := #[]) (mvT hZ (W_ hw 106 rfl))) (mvT hZ (W_ hw 106 rfl)) (mvT hZ (W_ hw 105 rfl)) (by decide) (backOf (W := 0) (rmse l Z a0 hw [] u_Outcome_NOT_FOUND_text u_Outcome_NOT_FOUND_text_value kc_u_Outcome_NOT_FOUND_text_value ([110, 111, 116, 45, 102, 111, 117, 110, 100] : List Int32) x t kt vs zc T177.heap n0 Z_ O_ S_CS P_CS (E_u_Outcome_NOT_FOUND_text.ext O_.2) (F_u_Outcome_NOT_FOUND_text_coder.ext O_.2) (F_u_Outcome_NOT_FOUND_text_value.ext O_.2) (V_u_Outcome_NOT_FOUND_text_value.ext O_.2) (by decide) E_x Fc_x Fv_x V_t l_vs) hZ (W_ hw 107 rfl) (W_ hw 1 rfl) (by decide) (by decide)) q208a q208c (g := (mkF m 30 #[.val (.ref x), .val .null, .val (.ref b177), .val (.int (4 : Int32)), .val (.int (3 : Int32)), .val (.ref u_Outcome_NOT_FOUND)] [(.ref x), (.ref u_Outcome_NOT_FOUND_text)])) rfl (by rw [hml]; rfl) (Steps.refl _) (argsL := [(.ref x)]) (rest := []) (lenOf pd_12 rfl) rfl (Nat.le_of_eq rfl) (hb hby d17_30) (fun _ _ => ⟨rfl, e207, (by decide : 1 + 0 ≤ _), (by decide : 4 + 0 ≤ _)⟩)
        dsimp only [Pt.U, Pt.locs, Pt.cells, Pt.slots] at X208 l208 y208 z208 st208 hQ208
        subst l208 y208 z208
        obtain ⟨r208, rfl, N208q, e208, hr208⟩ := hQ208
        have N208 := Fr.app N202 N208q
        refine .st (fun _ => st208.trans) ?_
        show OwnGo p e below s _ _ _ T208 (mkF m 33 _ [(.int r208)])
        rcases hr208 with ⟨rfl, hs3⟩ | ⟨rfl, hs3⟩
        · have hs3 := hs3.symm
          show OwnGo p e below s _ _ _ T208 (mkF m 33 _ [(.int (1 : Int32))])
          refine .ifNo X208 hx (hb hby d17_33) ((if0 _ _).trans (feq ((by decide) : ¬ ((1 : Int32) = (0 : Int32)))).1) ?_
          refine .aload X208 hx (hb hby d17_36) rfl rfl ?_
          refine .astoreN X208 hx (hb hby d17_38) rfl (L' := #[.val (.ref x), .val (.ref u_Outcome_NOT_FOUND), .val (.ref b177), .val (.int (4 : Int32)), .val (.int (3 : Int32)), .val (.ref u_Outcome_NOT_FOUND)]) rfl ?_
          refine .iinc X208 hx (hb hby d17_39) rfl own_ka3_1 (L' := #[.val (.ref x), .val (.ref u_Outcome_NOT_FOUND), .val (.ref b177), .val (.int (4 : Int32)), .val (.int (4 : Int32)), .val (.ref u_Outcome_NOT_FOUND)]) rfl ?_
          refine .goto (pc := 42) X208 hx 12 (hb hby d17_42) (by decide) (by decide) ?_
          refine .iload X208 hx (hb hby d17_12) rfl ?_
          refine .iloadN X208 hx (hb hby d17_14) rfl ?_
          refine .icmpYes (pc := 15) X208 hx 45 (hb hby d17_15) (flt ((by decide) : ¬ ((4 : Int32) < (4 : Int32)))).2.1 (by decide) (by decide) ?_
          refine .aloadN X208 hx (hb hby d17_45) rfl rfl ?_
          exact OwnGo.ret X208 hx hret hlk rfl (Or.inr (Or.inr (Or.inr (Or.inr ⟨rfl, rfl, rfl⟩)))) (hb hby d17_46) (by show Qof Z x t kt vs u_Outcome__VALUES u_Outcome_PASSED u_Outcome_FAILED u_Outcome_ABORTED u_Outcome_NOT_FOUND u_Outcome_PASSED_text u_Outcome_PASSED_text_value u_Outcome_FAILED_text u_Outcome_FAILED_text_value u_Outcome_ABORTED_text u_Outcome_ABORTED_text_value u_Outcome_NOT_FOUND_text u_Outcome_NOT_FOUND_text_value kc_u_Outcome__VALUES kc_u_Outcome_PASSED_text_value kc_u_Outcome_FAILED_text_value kc_u_Outcome_ABORTED_text_value kc_u_Outcome_NOT_FOUND_text_value zc fmv h0 n0 _ T208.heap _; rw [e208]; exact ⟨by rw [hs3, own_r3], N208, Kp⟩) (by decide) (by decide)
        · have hs3 := fun q => hs3 (Eq.symm q)
          show OwnGo p e below s _ _ _ T208 (mkF m 33 _ [(.int (0 : Int32))])
          refine .ifYes (pc := 33) X208 hx 39 (hb hby d17_33) ((if0 _ _).trans (teq ((by decide) : (0 : Int32) = (0 : Int32))).1) (by decide) (by decide) ?_
          refine .iinc X208 hx (hb hby d17_39) rfl own_ka3_1 (L' := #[.val (.ref x), .val .null, .val (.ref b177), .val (.int (4 : Int32)), .val (.int (4 : Int32)), .val (.ref u_Outcome_NOT_FOUND)]) rfl ?_
          refine .goto (pc := 42) X208 hx 12 (hb hby d17_42) (by decide) (by decide) ?_
          refine .iload X208 hx (hb hby d17_12) rfl ?_
          refine .iloadN X208 hx (hb hby d17_14) rfl ?_
          refine .icmpYes (pc := 15) X208 hx 45 (hb hby d17_15) (flt ((by decide) : ¬ ((4 : Int32) < (4 : Int32)))).2.1 (by decide) (by decide) ?_
          refine .aloadN X208 hx (hb hby d17_45) rfl rfl ?_
          exact OwnGo.ret X208 hx hret hlk rfl (Or.inr (Or.inr (Or.inr (Or.inr ⟨rfl, rfl, rfl⟩)))) (hb hby d17_46) (by show Qof Z x t kt vs u_Outcome__VALUES u_Outcome_PASSED u_Outcome_FAILED u_Outcome_ABORTED u_Outcome_NOT_FOUND u_Outcome_PASSED_text u_Outcome_PASSED_text_value u_Outcome_FAILED_text u_Outcome_FAILED_text_value u_Outcome_ABORTED_text u_Outcome_ABORTED_text_value u_Outcome_NOT_FOUND_text u_Outcome_NOT_FOUND_text_value kc_u_Outcome__VALUES kc_u_Outcome_PASSED_text_value kc_u_Outcome_FAILED_text_value kc_u_Outcome_ABORTED_text_value kc_u_Outcome_NOT_FOUND_text_value zc fmv h0 n0 _ T208.heap _; rw [e208]; exact ⟨by rw [own_rn hs0 hs1 hs2 hs3], N208, Kp⟩) (by decide) (by decide)
def Qon (Z : State) (u_Outcome__VALUES : Addr) (u_Outcome_PASSED : Addr) (u_Outcome_FAILED : Addr) (u_Outcome_ABORTED : Addr) (u_Outcome_NOT_FOUND : Addr) (u_Outcome_PASSED_text : Addr) (u_Outcome_PASSED_text_value : Addr) (u_Outcome_FAILED_text : Addr) (u_Outcome_FAILED_text_value : Addr) (u_Outcome_ABORTED_text : Addr) (u_Outcome_ABORTED_text_value : Addr) (u_Outcome_NOT_FOUND_text : Addr) (u_Outcome_NOT_FOUND_text_value : Addr) (kc_u_Outcome__VALUES : ClassId) (kc_u_Outcome_PASSED_text_value : ClassId) (kc_u_Outcome_FAILED_text_value : ClassId) (kc_u_Outcome_ABORTED_text_value : ClassId) (kc_u_Outcome_NOT_FOUND_text_value : ClassId) (zc : Int32) (fmv : Value) (h0 : Heap) (n0 : Nat) (v : Option Value) (h : Heap) (L : List Loc) : Prop := v = some .null ∧ Fr n0 L ∧ Keep h0 h []
theorem rmon (l : Launch) (Z : State) (a0 : Array Value) (hw : own_tb a0 Z) (ws : List Jvm.Cond) (u_Outcome__VALUES : Addr) (u_Outcome_PASSED : Addr) (u_Outcome_FAILED : Addr) (u_Outcome_ABORTED : Addr) (u_Outcome_NOT_FOUND : Addr) (u_Outcome_PASSED_text : Addr) (u_Outcome_PASSED_text_value : Addr) (u_Outcome_FAILED_text : Addr) (u_Outcome_FAILED_text_value : Addr) (u_Outcome_ABORTED_text : Addr) (u_Outcome_ABORTED_text_value : Addr) (u_Outcome_NOT_FOUND_text : Addr) (u_Outcome_NOT_FOUND_text_value : Addr) (kc_u_Outcome__VALUES : ClassId) (kc_u_Outcome_PASSED_text_value : ClassId) (kc_u_Outcome_FAILED_text_value : ClassId) (kc_u_Outcome_ABORTED_text_value : ClassId) (kc_u_Outcome_NOT_FOUND_text_value : ClassId) (zc : Int32) (fmv : Value) (h0 : Heap) (n0 : Nat) (Z0 : n0 ≤ h0.size) (O_ : Old Z n0 h0) (S_u_Outcome__VALUES : Sta Z Z.heap "com/example/tightrope/tightrope/junit/Outcome" "$VALUES" "[Lcom/example/tightrope/tightrope/junit/Outcome;" (.ref u_Outcome__VALUES)) (E_u_Outcome__VALUES : Exa Z Z.heap u_Outcome__VALUES "[Lcom/example/tightrope/tightrope/junit/Outcome;") (S_u_Outcome_PASSED : Sta Z Z.heap "com/example/tightrope/tightrope/junit/Outcome" "PASSED" "Lcom/example/tightrope/tightrope/junit/Outcome;" (.ref u_Outcome_PASSED)) (E_u_Outcome_PASSED : Exa Z Z.heap u_Outcome_PASSED "com/example/tightrope/tightrope/junit/Outcome") (S_u_Outcome_FAILED : Sta Z Z.heap "com/example/tightrope/tightrope/junit/Outcome" "FAILED" "Lcom/example/tightrope/tightrope/junit/Outcome;" (.ref u_Outcome_FAILED)) (E_u_Outcome_FAILED : Exa Z Z.heap u_Outcome_FAILED "com/example/tightrope/tightrope/junit/Outcome") (S_u_Outcome_ABORTED : Sta Z Z.heap "com/example/tightrope/tightrope/junit/Outcome" "ABORTED" "Lcom/example/tightrope/tightrope/junit/Outcome;" (.ref u_Outcome_ABORTED)) (E_u_Outcome_ABORTED : Exa Z Z.heap u_Outcome_ABORTED "com/example/tightrope/tightrope/junit/Outcome") (S_u_Outcome_NOT_FOUND : Sta Z Z.heap "com/example/tightrope/tightrope/junit/Outcome" "NOT_FOUND" "Lcom/example/tightrope/tightrope/junit/Outcome;" (.ref u_Outcome_NOT_FOUND)) (E_u_Outcome_NOT_FOUND : Exa Z Z.heap u_Outcome_NOT_FOUND "com/example/tightrope/tightrope/junit/Outcome") (F_u_Outcome_PASSED_text : Fld Z Z.heap u_Outcome_PASSED "com/example/tightrope/tightrope/junit/Outcome" "text" "Ljava/lang/String;" (.ref u_Outcome_PASSED_text)) (E_u_Outcome_PASSED_text : Exa Z Z.heap u_Outcome_PASSED_text "java/lang/String") (F_u_Outcome_PASSED_text_coder : Fld Z Z.heap u_Outcome_PASSED_text "java/lang/String" "coder" "B" (.int (0 : Int32))) (F_u_Outcome_PASSED_text_value : Fld Z Z.heap u_Outcome_PASSED_text "java/lang/String" "value" "[B" (.ref u_Outcome_PASSED_text_value)) (F_u_Outcome_FAILED_text : Fld Z Z.heap u_Outcome_FAILED "com/example/tightrope/tightrope/junit/Outcome" "text" "Ljava/lang/String;" (.ref u_Outcome_FAILED_text)) (E_u_Outcome_FAILED_text : Exa Z Z.heap u_Outcome_FAILED_text "java/lang/String") (F_u_Outcome_FAILED_text_coder : Fld Z Z.heap u_Outcome_FAILED_text "java/lang/String" "coder" "B" (.int (0 : Int32))) (F_u_Outcome_FAILED_text_value : Fld Z Z.heap u_Outcome_FAILED_text "java/lang/String" "value" "[B" (.ref u_Outcome_FAILED_text_value)) (F_u_Outcome_ABORTED_text : Fld Z Z.heap u_Outcome_ABORTED "com/example/tightrope/tightrope/junit/Outcome" "text" "Ljava/lang/String;" (.ref u_Outcome_ABORTED_text)) (E_u_Outcome_ABORTED_text : Exa Z Z.heap u_Outcome_ABORTED_text "java/lang/String") (F_u_Outcome_ABORTED_text_coder : Fld Z Z.heap u_Outcome_ABORTED_text "java/lang/String" "coder" "B" (.int (0 : Int32))) (F_u_Outcome_ABORTED_text_value : Fld Z Z.heap u_Outcome_ABORTED_text "java/lang/String" "value" "[B" (.ref u_Outcome_ABORTED_text_value)) (F_u_Outcome_NOT_FOUND_text : Fld Z Z.heap u_Outcome_NOT_FOUND "com/example/tightrope/tightrope/junit/Outcome" "text" "Ljava/lang/String;" (.ref u_Outcome_NOT_FOUND_text)) (E_u_Outcome_NOT_FOUND_text : Exa Z Z.heap u_Outcome_NOT_FOUND_text "java/lang/String") (F_u_Outcome_NOT_FOUND_text_coder : Fld Z Z.heap u_Outcome_NOT_FOUND_text "java/lang/String" "coder" "B" (.int (0 : Int32))) (F_u_Outcome_NOT_FOUND_text_value : Fld Z Z.heap u_Outcome_NOT_FOUND_text "java/lang/String" "value" "[B" (.ref u_Outcome_NOT_FOUND_text_value)) (V_u_Outcome__VALUES : Arv Z Z.heap u_Outcome__VALUES kc_u_Outcome__VALUES (Jvm.ClassFile.FieldType.object "com/example/tightrope/tightrope/junit/Outcome") (4 : Int32) [(.ref u_Outcome_PASSED), (.ref u_Outcome_FAILED), (.ref u_Outcome_ABORTED), (.ref u_Outcome_NOT_FOUND)] .null) (V_u_Outcome_PASSED_text_value : Arv Z Z.heap u_Outcome_PASSED_text_value kc_u_Outcome_PASSED_text_value Jvm.ClassFile.FieldType.byte (6 : Int32) [(.int (112 : Int32)), (.int (97 : Int32)), (.int (115 : Int32)), (.int (115 : Int32)), (.int (101 : Int32)), (.int (100 : Int32))] (.int (0 : Int32))) (V_u_Outcome_FAILED_text_value : Arv Z Z.heap u_Outcome_FAILED_text_value kc_u_Outcome_FAILED_text_value Jvm.ClassFile.FieldType.byte (6 : Int32) [(.int (102 : Int32)), (.int (97 : Int32)), (.int (105 : Int32)), (.int (108 : Int32)), (.int (101 : Int32)), (.int (100 : Int32))] (.int (0 : Int32))) (V_u_Outcome_ABORTED_text_value : Arv Z Z.heap u_Outcome_ABORTED_text_value kc_u_Outcome_ABORTED_text_value Jvm.ClassFile.FieldType.byte (7 : Int32) [(.int (97 : Int32)), (.int (98 : Int32)), (.int (111 : Int32)), (.int (114 : Int32)), (.int (116 : Int32)), (.int (101 : Int32)), (.int (100 : Int32))] (.int (0 : Int32))) (V_u_Outcome_NOT_FOUND_text_value : Arv Z Z.heap u_Outcome_NOT_FOUND_text_value kc_u_Outcome_NOT_FOUND_text_value Jvm.ClassFile.FieldType.byte (9 : Int32) [(.int (110 : Int32)), (.int (111 : Int32)), (.int (116 : Int32)), (.int (45 : Int32)), (.int (102 : Int32)), (.int (111 : Int32)), (.int (117 : Int32)), (.int (110 : Int32)), (.int (100 : Int32))] (.int (0 : Int32))) (S_CS : Sta Z Z.heap "java/lang/String" "COMPACT_STRINGS" "Z" (.int zc)) (P_CS : ¬ zc = (0 : Int32)) (S_SF : Sta Z Z.heap "jdk/internal/util/Preconditions" "SIOOBE_FORMATTER" "Ljava/util/function/BiFunction;" fmv) (rf_fmv : fmv.isRef = true) :
    OwnMet l (⟨"com/example/tightrope/tightrope/junit/Outcome", "ofText", "(Ljava/lang/String;)Lcom/example/tightrope/tightrope/junit/Outcome;"⟩ : MethodName) prog_31_method_5_code 6 (some (.object "com/example/tightrope/tightrope/junit/Outcome")) ws ({ frames := 2, cells := 1, slots := 4, locals := 25 } : Room) #[.null] Z h0 (Qon Z u_Outcome__VALUES u_Outcome_PASSED u_Outcome_FAILED u_Outcome_ABORTED u_Outcome_NOT_FOUND u_Outcome_PASSED_text u_Outcome_PASSED_text_value u_Outcome_FAILED_text u_Outcome_FAILED_text_value u_Outcome_ABORTED_text u_Outcome_ABORTED_text_value u_Outcome_NOT_FOUND_text u_Outcome_NOT_FOUND_text_value kc_u_Outcome__VALUES kc_u_Outcome_PASSED_text_value kc_u_Outcome_FAILED_text_value kc_u_Outcome_ABORTED_text_value kc_u_Outcome_NOT_FOUND_text_value zc fmv h0 n0) := by
  refine own_met (plainFor_of_name pn_18) ?_
  intro p e s m below meth c s₁ X0 hx hby hml hret hlk hown hnm hZ e0
  have N0 := Fr.nil n0
  have Z_ := Z0
  refine OwnGo.cast (ef_on m ) ?_
  show OwnGo p e below s _ _ _ s₁ (mkF m 0 _ [])
  have Kp : Keep h0 h0 [] := Keep.refl h0 []
  refine .aconstNull X0 hx (hb hby d17_0)  ?_
  refine .astoreN X0 hx (hb hby d17_1) rfl (L' := #[.val .null, .val .null, .unset, .unset, .unset, .unset]) rfl ?_
  obtain ⟨_, _, ⟨T209, L209, k209, n209⟩, -, X209, ⟨Lc209, hQ209, l209, y209, z209⟩, st209⟩ := Jvm.LawKit.callS X0 hx (y := (⟨"com/example/tightrope/tightrope/junit/Outcome", "values", "()[Lcom/example/tightrope/tightrope/junit/Outcome;"⟩ : MethodName)) hown (mvT hZ (W_ hw 82 rfl)) (mvT hZ (W_ hw 83 rfl)) (mvT hZ (W_ hw 80 rfl)) (mvT hZ (W_ hw 84 rfl)) (by decide) (backOf (W := 0) (rmva l Z a0 hw [] u_Outcome__VALUES u_Outcome_PASSED u_Outcome_FAILED u_Outcome_ABORTED u_Outcome_NOT_FOUND u_Outcome_PASSED_text u_Outcome_PASSED_text_value u_Outcome_FAILED_text u_Outcome_FAILED_text_value u_Outcome_ABORTED_text u_Outcome_ABORTED_text_value u_Outcome_NOT_FOUND_text u_Outcome_NOT_FOUND_text_value kc_u_Outcome__VALUES kc_u_Outcome_PASSED_text_value kc_u_Outcome_FAILED_text_value kc_u_Outcome_ABORTED_text_value kc_u_Outcome_NOT_FOUND_text_value zc fmv h0 n0 Z_ O_ S_u_Outcome__VALUES E_u_Outcome__VALUES S_u_Outcome_PASSED E_u_Outcome_PASSED S_u_Outcome_FAILED E_u_Outcome_FAILED S_u_Outcome_ABORTED E_u_Outcome_ABORTED S_u_Outcome_NOT_FOUND E_u_Outcome_NOT_FOUND F_u_Outcome_PASSED_text E_u_Outcome_PASSED_text F_u_Outcome_PASSED_text_coder F_u_Outcome_PASSED_text_value F_u_Outcome_FAILED_text E_u_Outcome_FAILED_text F_u_Outcome_FAILED_text_coder F_u_Outcome_FAILED_text_value F_u_Outcome_ABORTED_text E_u_Outcome_ABORTED_text F_u_Outcome_ABORTED_text_coder F_u_Outcome_ABORTED_text_value F_u_Outcome_NOT_FOUND_text E_u_Outcome_NOT_FOUND_text F_u_Outcome_NOT_FOUND_text_coder F_u_Outcome_NOT_FOUND_text_value V_u_Outcome__VALUES V_u_Outcome_PASSED_text_value V_u_Outcome_FAILED_text_value V_u_Outcome_ABORTED_text_value V_u_Outcome_NOT_FOUND_text_value S_CS P_CS S_SF rf_fmv) hZ (W_ hw 84 rfl) (W_ hw 80 rfl) (by decide) (by decide)) (g := (mkF m 2 #[.val .null, .val .null, .unset, .unset, .unset, .unset] [])) rfl (by rw [hml]; rfl) (argsL := []) (rest := []) (lenOf pd_11 rfl) rfl (Nat.le_of_eq rfl) (hb hby d17_2) (fun _ _ => ⟨rfl, e0, (by decide : 0 + 1 ≤ _), (by decide : 0 + 4 ≤ _)⟩)
  dsimp only [Pt.U, Pt.locs, Pt.cells, Pt.slots] at X209 l209 y209 z209 st209 hQ209
  subst l209 y209 z209
  obtain ⟨b209, rfl, N209q, K209, V209, zb209⟩ := hQ209
  have N209 := Fr.app N0 N209q
  have g_b209 : n0 ≤ b209 := Nat.le_trans Z_ zb209
  have sz_b209 : h0.size ≤ b209 := Nat.le_trans Kp.1 zb209
  have Z_ : n0 ≤ T209.heap.size := Nat.le_trans Z_ K209.1
  have O_ := O_.keep K209 all0
  have Kp := Kp.trans K209 all0
  refine .st st209 ?_
  show OwnGo p e below s _ _ _ T209 (mkF m 5 _ [(.ref b209)])
  refine .astoreN X209 hx (hb hby d17_5) rfl (L' := #[.val .null, .val .null, .val (.ref b209), .unset, .unset, .unset]) rfl ?_
  refine .aloadN X209 hx (hb hby d17_6) rfl rfl ?_
  obtain ⟨cl210, Ar210, -, S210, N210, -, -⟩ := id V209
  refine .st (fun _ => own_len hZ (len_of S210 N210) Ar210 X209 rfl hx (g := (mkF m 7 #[.val .null, .val .null, .val (.ref b209), .unset, .unset, .unset] [(.ref b209)])) rfl rfl (hb hby d17_7) _) ?_
  show OwnGo p e below s _ _ _ T209 (mkF m 8 _ [(.int (4 : Int32))])
  refine .istoreN X209 hx (hb hby d17_8) (L' := #[.val .null, .val .null, .val (.ref b209), .val (.int (4 : Int32)), .unset, .unset]) rfl ?_
  refine .iconst X209 hx (hb hby d17_9) own_ki0 ?_
  refine .istore X209 hx (hb hby d17_10) (L' := #[.val .null, .val .null, .val (.ref b209), .val (.int (4 : Int32)), .val (.int (0 : Int32)), .unset]) rfl ?_
  refine .iload X209 hx (hb hby d17_12) rfl ?_
  refine .iloadN X209 hx (hb hby d17_14) rfl ?_
  refine .icmpNo X209 hx (hb hby d17_15) (tlt ((by decide) : (0 : Int32) < (4 : Int32))).2.1 ?_
  refine .aloadN X209 hx (hb hby d17_18) rfl rfl ?_
  refine .iload X209 hx (hb hby d17_19) rfl ?_
  obtain ⟨cl211, Ar211, -, S211, -, H211, -⟩ := id V209
  have hin211 : ¬ ((0 : Int32) < 0 ∨ cl211.slots.size ≤ ((0 : Int32)).toNatClampNeg) := inb_of S211 ⟨by decide, by decide⟩
  refine .st (fun _ => X209.aaload hx (j := (0 : Int32)) (v := (.ref u_Outcome_PASSED)) (by first | exact Ar211.1 | (rw [rfl]; exact Ar211.1)) (State.isArrayOf_alike hZ.alike Ar211.2.1) rfl Ar211.2.2 hin211 (H211.at hin211 rfl) (g := (mkF m 21 #[.val .null, .val .null, .val (.ref b209), .val (.int (4 : Int32)), .val (.int (0 : Int32)), .unset] [(.int (0 : Int32)), (.ref b209)])) rfl rfl (hb hby d17_21) _) ?_
  show OwnGo p e below s _ _ _ T209 (mkF m 22 _ [(.ref u_Outcome_PASSED)])
  refine .astore X209 hx (hb hby d17_22) rfl (L' := #[.val .null, .val .null, .val (.ref b209), .val (.int (4 : Int32)), .val (.int (0 : Int32)), .val (.ref u_Outcome_PASSED)]) rfl ?_
  refine .aload X209 hx (hb hby d17_24) rfl rfl ?_
  obtain ⟨T212, X212, e212, st212⟩ := getF X209 hx hZ hown (host := "") (Or.inl (W_ hw 101 rfl)) Via.refl rfl (F_u_Outcome_PASSED_text.ext O_.2) (g := (mkF m 26 #[.val .null, .val .null, .val (.ref b209), .val (.int (4 : Int32)), .val (.int (0 : Int32)), .val (.ref u_Outcome_PASSED)] [(.ref u_Outcome_PASSED)])) rfl rfl (hb hby d17_26)
  refine .st st212 ?_
  show OwnGo p e below s _ _ _ T212 (mkF m 29 _ [(.ref u_Outcome_PASSED_text)])
  refine .aloadN X212 hx (hb hby d17_29) rfl rfl ?_
  obtain ⟨cq213, kq213, q213a, q213b, q213c⟩ := isOf hZ e212 (E_u_Outcome_PASSED_text.ext O_.2)
  obtain ⟨_, _, ⟨T213, L213, k213, n213⟩, -, X213, ⟨Lc213, hQ213, l213, y213, z213⟩, st213⟩ := X212.virtualBack hx (y := (⟨"java/lang/String", "equals", "(Ljava/lang/Object;)Z"⟩ : MethodName)) (z := (⟨"java/lang/String", "equals", "(Ljava/lang/Object;)Z"⟩ : MethodName)) hown (mvT hZ (W_ hw 103 rfl)) (mvT hZ (W_ hw 104 rfl)) (notFace_of_selects (args := #[]) (mvT hZ (W_ hw 106 rfl))) (mvT hZ (W_ hw 106 rfl)) (mvT hZ (W_ hw 105 rfl)) (by decide) (backOf (W := 0) (rmsn l Z a0 hw [] u_Outcome_PASSED_text T209.heap n0 Z_ ) hZ (W_ hw 107 rfl) (W_ hw 1 rfl) (by decide) (by decide)) q213a q213c (g := (mkF m 30 #[.val .null, .val .null, .val (.ref b209), .val (.int (4 : Int32)), .val (.int (0 : Int32)), .val (.ref u_Outcome_PASSED)] [.null, (.ref u_Outcome_PASSED_text)])) rfl (by rw [hml]; rfl) (Steps.refl _) (argsL := [.null]) (rest := []) (lenOf pd_12 rfl) rfl (Nat.le_of_eq rfl) (hb hby d17_30) (fun _ _ => ⟨rfl, e212, (by decide : 1 + 0 ≤ _), (by decide : 4 + 0 ≤ _)⟩)
  dsimp only [Pt.U, Pt.locs, Pt.cells, Pt.slots] at X213 l213 y213 z213 st213 hQ213
  subst l213 y213 z213
  obtain ⟨rfl, N213q, e213⟩ := hQ213
  have N213 := Fr.app N209 N213q
  refine .st (fun _ => st213.trans) ?_
  show OwnGo p e below s _ _ _ T213 (mkF m 33 _ [(.int (0 : Int32))])
  refine .ifYes (pc := 33) X213 hx 39 (hb hby d17_33) ((if0 _ _).trans (teq ((by decide) : (0 : Int32) = (0 : Int32))).1) (by decide) (by decide) ?_
  refine .iinc X213 hx (hb hby d17_39) rfl own_ka0_1 (L' := #[.val .null, .val .null, .val (.ref b209), .val (.int (4 : Int32)), .val (.int (1 : Int32)), .val (.ref u_Outcome_PASSED)]) rfl ?_
  refine .goto (pc := 42) X213 hx 12 (hb hby d17_42) (by decide) (by decide) ?_
  refine .iload X213 hx (hb hby d17_12) rfl ?_
  refine .iloadN X213 hx (hb hby d17_14) rfl ?_
  refine .icmpNo X213 hx (hb hby d17_15) (tlt ((by decide) : (1 : Int32) < (4 : Int32))).2.1 ?_
  refine .aloadN X213 hx (hb hby d17_18) rfl rfl ?_
  refine .iload X213 hx (hb hby d17_19) rfl ?_
  obtain ⟨cl214, Ar214, -, S214, -, H214, -⟩ := id V209
  have hin214 : ¬ ((1 : Int32) < 0 ∨ cl214.slots.size ≤ ((1 : Int32)).toNatClampNeg) := inb_of S214 ⟨by decide, by decide⟩
  refine .st (fun _ => X213.aaload hx (j := (1 : Int32)) (v := (.ref u_Outcome_FAILED)) (by first | exact Ar214.1 | (rw [e213]; exact Ar214.1)) (State.isArrayOf_alike hZ.alike Ar214.2.1) rfl Ar214.2.2 hin214 (H214.at hin214 rfl) (g := (mkF m 21 #[.val .null, .val .null, .val (.ref b209), .val (.int (4 : Int32)), .val (.int (1 : Int32)), .val (.ref u_Outcome_PASSED)] [(.int (1 : Int32)), (.ref b209)])) rfl rfl (hb hby d17_21) _) ?_
  show OwnGo p e below s _ _ _ T213 (mkF m 22 _ [(.ref u_Outcome_FAILED)])
  refine .astore X213 hx (hb hby d17_22) rfl (L' := #[.val .null, .val .null, .val (.ref b209), .val (.int (4 : Int32)), .val (.int (1 : Int32)), .val (.ref u_Outcome_FAILED)]) rfl ?_
  refine .aload X213 hx (hb hby d17_24) rfl rfl ?_
  obtain ⟨T215, X215, e215, st215⟩ := getF X213 hx hZ hown (host := "") (Or.inl (W_ hw 101 rfl)) Via.refl e213 (F_u_Outcome_FAILED_text.ext O_.2) (g := (mkF m 26 #[.val .null, .val .null, .val (.ref b209), .val (.int (4 : Int32)), .val (.int (1 : Int32)), .val (.ref u_Outcome_FAILED)] [(.ref u_Outcome_FAILED)])) rfl rfl (hb hby d17_26)
  refine .st st215 ?_
  show OwnGo p e below s _ _ _ T215 (mkF m 29 _ [(.ref u_Outcome_FAILED_text)])
  refine .aloadN X215 hx (hb hby d17_29) rfl rfl ?_
  obtain ⟨cq216, kq216, q216a, q216b, q216c⟩ := isOf hZ e215 (E_u_Outcome_FAILED_text.ext O_.2)
  obtain ⟨_, _, ⟨T216, L216, k216, n216⟩, -, X216, ⟨Lc216, hQ216, l216, y216, z216⟩, st216⟩ := X215.virtualBack hx (y := (⟨"java/lang/String", "equals", "(Ljava/lang/Object;)Z"⟩ : MethodName)) (z := (⟨"java/lang/String", "equals", "(Ljava/lang/Object;)Z"⟩ : MethodName)) hown (mvT hZ (W_ hw 103 rfl)) (mvT hZ (W_ hw 104 rfl)) (notFace_of_selects (args := #[]) (mvT hZ (W_ hw 106 rfl))) (mvT hZ (W_ hw 106 rfl)) (mvT hZ (W_ hw 105 rfl)) (by decide) (backOf (W := 0) (rmsn l Z a0 hw [] u_Outcome_FAILED_text T209.heap n0 Z_ ) hZ (W_ hw 107 rfl) (W_ hw 1 rfl) (by decide) (by decide)) q216a q216c (g := (mkF m 30 #[.val .null, .val .null, .val (.ref b209), .val (.int (4 : Int32)), .val (.int (1 : Int32)), .val (.ref u_Outcome_FAILED)] [.null, (.ref u_Outcome_FAILED_text)])) rfl (by rw [hml]; rfl) (Steps.refl _) (argsL := [.null]) (rest := []) (lenOf pd_12 rfl) rfl (Nat.le_of_eq rfl) (hb hby d17_30) (fun _ _ => ⟨rfl, e215, (by decide : 1 + 0 ≤ _), (by decide : 4 + 0 ≤ _)⟩)
  dsimp only [Pt.U, Pt.locs, Pt.cells, Pt.slots] at X216 l216 y216 z216 st216 hQ216
  subst l216 y216 z216
  obtain ⟨rfl, N216q, e216⟩ := hQ216
  have N216 := Fr.app N213 N216q
  refine .st (fun _ => st216.trans) ?_
  show OwnGo p e below s _ _ _ T216 (mkF m 33 _ [(.int (0 : Int32))])
  refine .ifYes (pc := 33) X216 hx 39 (hb hby d17_33) ((if0 _ _).trans (teq ((by decide) : (0 : Int32) = (0 : Int32))).1) (by decide) (by decide) ?_
  refine .iinc X216 hx (hb hby d17_39) rfl own_ka1_1 (L' := #[.val .null, .val .null, .val (.ref b209), .val (.int (4 : Int32)), .val (.int (2 : Int32)), .val (.ref u_Outcome_FAILED)]) rfl ?_
  refine .goto (pc := 42) X216 hx 12 (hb hby d17_42) (by decide) (by decide) ?_
  refine .iload X216 hx (hb hby d17_12) rfl ?_
  refine .iloadN X216 hx (hb hby d17_14) rfl ?_
  refine .icmpNo X216 hx (hb hby d17_15) (tlt ((by decide) : (2 : Int32) < (4 : Int32))).2.1 ?_
  refine .aloadN X216 hx (hb hby d17_18) rfl rfl ?_
  refine .iload X216 hx (hb hby d17_19) rfl ?_
  obtain ⟨cl217, Ar217, -, S217, -, H217, -⟩ := id V209
  have hin217 : ¬ ((2 : Int32) < 0 ∨ cl217.slots.size ≤ ((2 : Int32)).toNatClampNeg) := inb_of S217 ⟨by decide, by decide⟩
  refine .st (fun _ => X216.aaload hx (j := (2 : Int32)) (v := (.ref u_Outcome_ABORTED)) (by first | exact Ar217.1 | (rw [e216]; exact Ar217.1)) (State.isArrayOf_alike hZ.alike Ar217.2.1) rfl Ar217.2.2 hin217 (H217.at hin217 rfl) (g := (mkF m 21 #[.val .null, .val .null, .val (.ref b209), .val (.int (4 : Int32)), .val (.int (2 : Int32)), .val (.ref u_Outcome_FAILED)] [(.int (2 : Int32)), (.ref b209)])) rfl rfl (hb hby d17_21) _) ?_
  show OwnGo p e below s _ _ _ T216 (mkF m 22 _ [(.ref u_Outcome_ABORTED)])
  refine .astore X216 hx (hb hby d17_22) rfl (L' := #[.val .null, .val .null, .val (.ref b209), .val (.int (4 : Int32)), .val (.int (2 : Int32)), .val (.ref u_Outcome_ABORTED)]) rfl ?_
  refine .aload X216 hx (hb hby d17_24) rfl rfl ?_
  obtain ⟨T218, X218, e218, st218⟩ := getF X216 hx hZ hown (host := "") (Or.inl (W_ hw 101 rfl)) Via.refl e216 (F_u_Outcome_ABORTED_text.ext O_.2) (g := (mkF m 26 #[.val .null, .val .null, .val (.ref b209), .val (.int (4 : Int32)), .val (.int (2 : Int32)), .val (.ref u_Outcome_ABORTED)] [(.ref u_Outcome_ABORTED)])) rfl rfl (hb hby d17_26)
  refine .st st218 ?_
  show OwnGo p e below s _ _ _ T218 (mkF m 29 _ [(.ref u_Outcome_ABORTED_text)])
  refine .aloadN X218 hx (hb hby d17_29) rfl rfl ?_
  obtain ⟨cq219, kq219, q219a, q219b, q219c⟩ := isOf hZ e218 (E_u_Outcome_ABORTED_text.ext O_.2)
  obtain ⟨_, _, ⟨T219, L219, k219, n219⟩, -, X219, ⟨Lc219, hQ219, l219, y219, z219⟩, st219⟩ := X218.virtualBack hx (y := (⟨"java/lang/String", "equals", "(Ljava/lang/Object;)Z"⟩ : MethodName)) (z := (⟨"java/lang/String", "equals", "(Ljava/lang/Object;)Z"⟩ : MethodName)) hown (mvT hZ (W_ hw 103 rfl)) (mvT hZ (W_ hw 104 rfl)) (notFace_of_selects (args := #[]) (mvT hZ (W_ hw 106 rfl))) (mvT hZ (W_ hw 106 rfl)) (mvT hZ (W_ hw 105 rfl)) (by decide) (backOf (W := 0) (rmsn l Z a0 hw [] u_Outcome_ABORTED_text T209.heap n0 Z_ ) hZ (W_ hw 107 rfl) (W_ hw 1 rfl) (by decide) (by decide)) q219a q219c (g := (mkF m 30 #[.val .null, .val .null, .val (.ref b209), .val (.int (4 : Int32)), .val (.int (2 : Int32)), .val (.ref u_Outcome_ABORTED)] [.null, (.ref u_Outcome_ABORTED_text)])) rfl (by rw [hml]; rfl) (Steps.refl _) (argsL := [.null]) (rest := []) (lenOf pd_12 rfl) rfl (Nat.le_of_eq rfl) (hb hby d17_30) (fun _ _ => ⟨rfl, e218, (by decide : 1 + 0 ≤ _), (by decide : 4 + 0 ≤ _)⟩)
  dsimp only [Pt.U, Pt.locs, Pt.cells, Pt.slots] at X219 l219 y219 z219 st219 hQ219
  subst l219 y219 z219
  obtain ⟨rfl, N219q, e219⟩ := hQ219
  have N219 := Fr.app N216 N219q
  refine .st (fun _ => st219.trans) ?_
  show OwnGo p e below s _ _ _ T219 (mkF m 33 _ [(.int (0 : Int32))])
  refine .ifYes (pc := 33) X219 hx 39 (hb hby d17_33) ((if0 _ _).trans (teq ((by decide) : (0 : Int32) = (0 : Int32))).1) (by decide) (by decide) ?_
  refine .iinc X219 hx (hb hby d17_39) rfl own_ka2_1 (L' := #[.val .null, .val .null, .val (.ref b209), .val (.int (4 : Int32)), .val (.int (3 : Int32)), .val (.ref u_Outcome_ABORTED)]) rfl ?_
  refine .goto (pc := 42) X219 hx 12 (hb hby d17_42) (by decide) (by decide) ?_
  refine .iload X219 hx (hb hby d17_12) rfl ?_
  refine .iloadN X219 hx (hb hby d17_14) rfl ?_
  refine .icmpNo X219 hx (hb hby d17_15) (tlt ((by decide) : (3 : Int32) < (4 : Int32))).2.1 ?_
  refine .aloadN X219 hx (hb hby d17_18) rfl rfl ?_
  refine .iload X219 hx (hb hby d17_19) rfl ?_
  obtain ⟨cl220, Ar220, -, S220, -, H220, -⟩ := id V209
  have hin220 : ¬ ((3 : Int32) < 0 ∨ cl220.slots.size ≤ ((3 : Int32)).toNatClampNeg) := inb_of S220 ⟨by decide, by decide⟩
  refine .st (fun _ => X219.aaload hx (j := (3 : Int32)) (v := (.ref u_Outcome_NOT_FOUND)) (by first | exact Ar220.1 | (rw [e219]; exact Ar220.1)) (State.isArrayOf_alike hZ.alike Ar220.2.1) rfl Ar220.2.2 hin220 (H220.at hin220 rfl) (g := (mkF m 21 #[.val .null, .val .null, .val (.ref b209), .val (.int (4 : Int32)), .val (.int (3 : Int32)), .val (.ref u_Outcome_ABORTED)] [(.int (3 : Int32)), (.ref b209)])) rfl rfl (hb hby d17_21) _) ?_
  show OwnGo p e below s _ _ _ T219 (mkF m 22 _ [(.ref u_Outcome_NOT_FOUND)])
  refine .astore X219 hx (hb hby d17_22) rfl (L' := #[.val .null, .val .null, .val (.ref b209), .val (.int (4 : Int32)), .val (.int (3 : Int32)), .val (.ref u_Outcome_NOT_FOUND)]) rfl ?_
  refine .aload X219 hx (hb hby d17_24) rfl rfl ?_
  obtain ⟨T221, X221, e221, st221⟩ := getF X219 hx hZ hown (host := "") (Or.inl (W_ hw 101 rfl)) Via.refl e219 (F_u_Outcome_NOT_FOUND_text.ext O_.2) (g := (mkF m 26 #[.val .null, .val .null, .val (.ref b209), .val (.int (4 : Int32)), .val (.int (3 : Int32)), .val (.ref u_Outcome_NOT_FOUND)] [(.ref u_Outcome_NOT_FOUND)])) rfl rfl (hb hby d17_26)
  refine .st st221 ?_
  show OwnGo p e below s _ _ _ T221 (mkF m 29 _ [(.ref u_Outcome_NOT_FOUND_text)])
  refine .aloadN X221 hx (hb hby d17_29) rfl rfl ?_
  obtain ⟨cq222, kq222, q222a, q222b, q222c⟩ := isOf hZ e221 (E_u_Outcome_NOT_FOUND_text.ext O_.2)
  obtain ⟨_, _, ⟨T222, L222, k222, n222⟩, -, X222, ⟨Lc222, hQ222, l222, y222, z222⟩, st222⟩ := X221.virtualBack hx (y := (⟨"java/lang/String", "equals", "(Ljava/lang/Object;)Z"⟩ : MethodName)) (z := (⟨"java/lang/String", "equals", "(Ljava/lang/Object;)Z"⟩ : MethodName)) hown (mvT hZ (W_ hw 103 rfl)) (mvT hZ (W_ hw 104 rfl)) (notFace_of_selects (args := #[]) (mvT hZ (W_ hw 106 rfl))) (mvT hZ (W_ hw 106 rfl)) (mvT hZ (W_ hw 105 rfl)) (by decide) (backOf (W := 0) (rmsn l Z a0 hw [] u_Outcome_NOT_FOUND_text T209.heap n0 Z_ ) hZ (W_ hw 107 rfl) (W_ hw 1 rfl) (by decide) (by decide)) q222a q222c (g := (mkF m 30 #[.val .null, .val .null, .val (.ref b209), .val (.int (4 : Int32)), .val (.int (3 : Int32)), .val (.ref u_Outcome_NOT_FOUND)] [.null, (.ref u_Outcome_NOT_FOUND_text)])) rfl (by rw [hml]; rfl) (Steps.refl _) (argsL := [.null]) (rest := []) (lenOf pd_12 rfl) rfl (Nat.le_of_eq rfl) (hb hby d17_30) (fun _ _ => ⟨rfl, e221, (by decide : 1 + 0 ≤ _), (by decide : 4 + 0 ≤ _)⟩)
  dsimp only [Pt.U, Pt.locs, Pt.cells, Pt.slots] at X222 l222 y222 z222 st222 hQ222
  subst l222 y222 z222
  obtain ⟨rfl, N222q, e222⟩ := hQ222
  have N222 := Fr.app N219 N222q
  refine .st (fun _ => st222.trans) ?_
  show OwnGo p e below s _ _ _ T222 (mkF m 33 _ [(.int (0 : Int32))])
  refine .ifYes (pc := 33) X222 hx 39 (hb hby d17_33) ((if0 _ _).trans (teq ((by decide) : (0 : Int32) = (0 : Int32))).1) (by decide) (by decide) ?_
  refine .iinc X222 hx (hb hby d17_39) rfl own_ka3_1 (L' := #[.val .null, .val .null, .val (.ref b209), .val (.int (4 : Int32)), .val (.int (4 : Int32)), .val (.ref u_Outcome_NOT_FOUND)]) rfl ?_
  refine .goto (pc := 42) X222 hx 12 (hb hby d17_42) (by decide) (by decide) ?_
  refine .iload X222 hx (hb hby d17_12) rfl ?_
  refine .iloadN X222 hx (hb hby d17_14) rfl ?_
  refine .icmpYes (pc := 15) X222 hx 45 (hb hby d17_15) (flt ((by decide) : ¬ ((4 : Int32) < (4 : Int32)))).2.1 (by decide) (by decide) ?_
  refine .aloadN X222 hx (hb hby d17_45) rfl rfl ?_
  exact OwnGo.ret X222 hx hret hlk rfl (Or.inr (Or.inr (Or.inr (Or.inr ⟨rfl, rfl, rfl⟩)))) (hb hby d17_46) (by show Qon Z u_Outcome__VALUES u_Outcome_PASSED u_Outcome_FAILED u_Outcome_ABORTED u_Outcome_NOT_FOUND u_Outcome_PASSED_text u_Outcome_PASSED_text_value u_Outcome_FAILED_text u_Outcome_FAILED_text_value u_Outcome_ABORTED_text u_Outcome_ABORTED_text_value u_Outcome_NOT_FOUND_text u_Outcome_NOT_FOUND_text_value kc_u_Outcome__VALUES kc_u_Outcome_PASSED_text_value kc_u_Outcome_FAILED_text_value kc_u_Outcome_ABORTED_text_value kc_u_Outcome_NOT_FOUND_text_value zc fmv h0 n0 _ T222.heap _; rw [e222]; exact ⟨rfl, N222, Kp⟩) (by decide) (by decide)
def Qrf (Z : State) (x : Addr) (t : Addr) (kt : ClassId) (vs : List Int32) (u_Outcome__VALUES : Addr) (u_Outcome_PASSED : Addr) (u_Outcome_FAILED : Addr) (u_Outcome_ABORTED : Addr) (u_Outcome_NOT_FOUND : Addr) (u_Outcome_PASSED_text : Addr) (u_Outcome_PASSED_text_value : Addr) (u_Outcome_FAILED_text : Addr) (u_Outcome_FAILED_text_value : Addr) (u_Outcome_ABORTED_text : Addr) (u_Outcome_ABORTED_text_value : Addr) (u_Outcome_NOT_FOUND_text : Addr) (u_Outcome_NOT_FOUND_text_value : Addr) (kc_u_Outcome__VALUES : ClassId) (kc_u_Outcome_PASSED_text_value : ClassId) (kc_u_Outcome_FAILED_text_value : ClassId) (kc_u_Outcome_ABORTED_text_value : ClassId) (kc_u_Outcome_NOT_FOUND_text_value : ClassId) (zc : Int32) (fmv : Value) (h0 : Heap) (n0 : Nat) (v : Option Value) (h : Heap) (L : List Loc) : Prop := v = some (own_res vs u_Outcome_PASSED u_Outcome_FAILED u_Outcome_ABORTED u_Outcome_NOT_FOUND) ∧ Fr n0 L ∧ Keep h0 h []
theorem rmrf (l : Launch) (Z : State) (a0 : Array Value) (hw : own_tb a0 Z) (ws : List Jvm.Cond) (x : Addr) (t : Addr) (kt : ClassId) (vs : List Int32) (u_Outcome__VALUES : Addr) (u_Outcome_PASSED : Addr) (u_Outcome_FAILED : Addr) (u_Outcome_ABORTED : Addr) (u_Outcome_NOT_FOUND : Addr) (u_Outcome_PASSED_text : Addr) (u_Outcome_PASSED_text_value : Addr) (u_Outcome_FAILED_text : Addr) (u_Outcome_FAILED_text_value : Addr) (u_Outcome_ABORTED_text : Addr) (u_Outcome_ABORTED_text_value : Addr) (u_Outcome_NOT_FOUND_text : Addr) (u_Outcome_NOT_FOUND_text_value : Addr) (kc_u_Outcome__VALUES : ClassId) (kc_u_Outcome_PASSED_text_value : ClassId) (kc_u_Outcome_FAILED_text_value : ClassId) (kc_u_Outcome_ABORTED_text_value : ClassId) (kc_u_Outcome_NOT_FOUND_text_value : ClassId) (zc : Int32) (fmv : Value) (h0 : Heap) (n0 : Nat) (Z0 : n0 ≤ h0.size) (O_ : Old Z n0 h0) (S_u_Outcome__VALUES : Sta Z Z.heap "com/example/tightrope/tightrope/junit/Outcome" "$VALUES" "[Lcom/example/tightrope/tightrope/junit/Outcome;" (.ref u_Outcome__VALUES)) (E_u_Outcome__VALUES : Exa Z Z.heap u_Outcome__VALUES "[Lcom/example/tightrope/tightrope/junit/Outcome;") (S_u_Outcome_PASSED : Sta Z Z.heap "com/example/tightrope/tightrope/junit/Outcome" "PASSED" "Lcom/example/tightrope/tightrope/junit/Outcome;" (.ref u_Outcome_PASSED)) (E_u_Outcome_PASSED : Exa Z Z.heap u_Outcome_PASSED "com/example/tightrope/tightrope/junit/Outcome") (S_u_Outcome_FAILED : Sta Z Z.heap "com/example/tightrope/tightrope/junit/Outcome" "FAILED" "Lcom/example/tightrope/tightrope/junit/Outcome;" (.ref u_Outcome_FAILED)) (E_u_Outcome_FAILED : Exa Z Z.heap u_Outcome_FAILED "com/example/tightrope/tightrope/junit/Outcome") (S_u_Outcome_ABORTED : Sta Z Z.heap "com/example/tightrope/tightrope/junit/Outcome" "ABORTED" "Lcom/example/tightrope/tightrope/junit/Outcome;" (.ref u_Outcome_ABORTED)) (E_u_Outcome_ABORTED : Exa Z Z.heap u_Outcome_ABORTED "com/example/tightrope/tightrope/junit/Outcome") (S_u_Outcome_NOT_FOUND : Sta Z Z.heap "com/example/tightrope/tightrope/junit/Outcome" "NOT_FOUND" "Lcom/example/tightrope/tightrope/junit/Outcome;" (.ref u_Outcome_NOT_FOUND)) (E_u_Outcome_NOT_FOUND : Exa Z Z.heap u_Outcome_NOT_FOUND "com/example/tightrope/tightrope/junit/Outcome") (F_u_Outcome_PASSED_text : Fld Z Z.heap u_Outcome_PASSED "com/example/tightrope/tightrope/junit/Outcome" "text" "Ljava/lang/String;" (.ref u_Outcome_PASSED_text)) (E_u_Outcome_PASSED_text : Exa Z Z.heap u_Outcome_PASSED_text "java/lang/String") (F_u_Outcome_PASSED_text_coder : Fld Z Z.heap u_Outcome_PASSED_text "java/lang/String" "coder" "B" (.int (0 : Int32))) (F_u_Outcome_PASSED_text_value : Fld Z Z.heap u_Outcome_PASSED_text "java/lang/String" "value" "[B" (.ref u_Outcome_PASSED_text_value)) (F_u_Outcome_FAILED_text : Fld Z Z.heap u_Outcome_FAILED "com/example/tightrope/tightrope/junit/Outcome" "text" "Ljava/lang/String;" (.ref u_Outcome_FAILED_text)) (E_u_Outcome_FAILED_text : Exa Z Z.heap u_Outcome_FAILED_text "java/lang/String") (F_u_Outcome_FAILED_text_coder : Fld Z Z.heap u_Outcome_FAILED_text "java/lang/String" "coder" "B" (.int (0 : Int32))) (F_u_Outcome_FAILED_text_value : Fld Z Z.heap u_Outcome_FAILED_text "java/lang/String" "value" "[B" (.ref u_Outcome_FAILED_text_value)) (F_u_Outcome_ABORTED_text : Fld Z Z.heap u_Outcome_ABORTED "com/example/tightrope/tightrope/junit/Outcome" "text" "Ljava/lang/String;" (.ref u_Outcome_ABORTED_text)) (E_u_Outcome_ABORTED_text : Exa Z Z.heap u_Outcome_ABORTED_text "java/lang/String") (F_u_Outcome_ABORTED_text_coder : Fld Z Z.heap u_Outcome_ABORTED_text "java/lang/String" "coder" "B" (.int (0 : Int32))) (F_u_Outcome_ABORTED_text_value : Fld Z Z.heap u_Outcome_ABORTED_text "java/lang/String" "value" "[B" (.ref u_Outcome_ABORTED_text_value)) (F_u_Outcome_NOT_FOUND_text : Fld Z Z.heap u_Outcome_NOT_FOUND "com/example/tightrope/tightrope/junit/Outcome" "text" "Ljava/lang/String;" (.ref u_Outcome_NOT_FOUND_text)) (E_u_Outcome_NOT_FOUND_text : Exa Z Z.heap u_Outcome_NOT_FOUND_text "java/lang/String") (F_u_Outcome_NOT_FOUND_text_coder : Fld Z Z.heap u_Outcome_NOT_FOUND_text "java/lang/String" "coder" "B" (.int (0 : Int32))) (F_u_Outcome_NOT_FOUND_text_value : Fld Z Z.heap u_Outcome_NOT_FOUND_text "java/lang/String" "value" "[B" (.ref u_Outcome_NOT_FOUND_text_value)) (V_u_Outcome__VALUES : Arv Z Z.heap u_Outcome__VALUES kc_u_Outcome__VALUES (Jvm.ClassFile.FieldType.object "com/example/tightrope/tightrope/junit/Outcome") (4 : Int32) [(.ref u_Outcome_PASSED), (.ref u_Outcome_FAILED), (.ref u_Outcome_ABORTED), (.ref u_Outcome_NOT_FOUND)] .null) (V_u_Outcome_PASSED_text_value : Arv Z Z.heap u_Outcome_PASSED_text_value kc_u_Outcome_PASSED_text_value Jvm.ClassFile.FieldType.byte (6 : Int32) [(.int (112 : Int32)), (.int (97 : Int32)), (.int (115 : Int32)), (.int (115 : Int32)), (.int (101 : Int32)), (.int (100 : Int32))] (.int (0 : Int32))) (V_u_Outcome_FAILED_text_value : Arv Z Z.heap u_Outcome_FAILED_text_value kc_u_Outcome_FAILED_text_value Jvm.ClassFile.FieldType.byte (6 : Int32) [(.int (102 : Int32)), (.int (97 : Int32)), (.int (105 : Int32)), (.int (108 : Int32)), (.int (101 : Int32)), (.int (100 : Int32))] (.int (0 : Int32))) (V_u_Outcome_ABORTED_text_value : Arv Z Z.heap u_Outcome_ABORTED_text_value kc_u_Outcome_ABORTED_text_value Jvm.ClassFile.FieldType.byte (7 : Int32) [(.int (97 : Int32)), (.int (98 : Int32)), (.int (111 : Int32)), (.int (114 : Int32)), (.int (116 : Int32)), (.int (101 : Int32)), (.int (100 : Int32))] (.int (0 : Int32))) (V_u_Outcome_NOT_FOUND_text_value : Arv Z Z.heap u_Outcome_NOT_FOUND_text_value kc_u_Outcome_NOT_FOUND_text_value Jvm.ClassFile.FieldType.byte (9 : Int32) [(.int (110 : Int32)), (.int (111 : Int32)), (.int (116 : Int32)), (.int (45 : Int32)), (.int (102 : Int32)), (.int (111 : Int32)), (.int (117 : Int32)), (.int (110 : Int32)), (.int (100 : Int32))] (.int (0 : Int32))) (S_CS : Sta Z Z.heap "java/lang/String" "COMPACT_STRINGS" "Z" (.int zc)) (P_CS : ¬ zc = (0 : Int32)) (S_SF : Sta Z Z.heap "jdk/internal/util/Preconditions" "SIOOBE_FORMATTER" "Ljava/util/function/BiFunction;" fmv) (rf_fmv : fmv.isRef = true) (E_x : Exa Z h0 x "java/lang/String") (Fc_x : Fld Z h0 x "java/lang/String" "coder" "B" (.int (0 : Int32))) (Fv_x : Fld Z h0 x "java/lang/String" "value" "[B" (.ref t)) (V_t : Arv Z h0 t kt .byte (Int32.ofNat (List.length vs)) (List.map Value.int vs) (.int (0 : Int32))) (l_vs : List.length vs < 2 ^ 31) :
    OwnMetW l (⟨"com/example/tightrope/tightrope/junit/OutcomeOfTextPinLaw", "ref", "(Ljava/lang/String;)Lcom/example/tightrope/tightrope/junit/Outcome;"⟩ : MethodName) method_3_code 1 (some (.object "com/example/tightrope/tightrope/junit/Outcome")) ws ({ frames := 2, cells := 8, slots := 200, locals := 28 } : Room) #[(.ref x)] Z h0 (Qrf Z x t kt vs u_Outcome__VALUES u_Outcome_PASSED u_Outcome_FAILED u_Outcome_ABORTED u_Outcome_NOT_FOUND u_Outcome_PASSED_text u_Outcome_PASSED_text_value u_Outcome_FAILED_text u_Outcome_FAILED_text_value u_Outcome_ABORTED_text u_Outcome_ABORTED_text_value u_Outcome_NOT_FOUND_text u_Outcome_NOT_FOUND_text_value kc_u_Outcome__VALUES kc_u_Outcome_PASSED_text_value kc_u_Outcome_FAILED_text_value kc_u_Outcome_ABORTED_text_value kc_u_Outcome_NOT_FOUND_text_value zc fmv h0 n0) := by
  refine own_metW (EL := own_EL) (plainFor_of_name pn_9) ?_
  intro p e s m below meth c s₁ X0 hx hby hml hret hlk hown hnm hZ e0 hS_ CR
  have hk_ := Nat.le_refl h0.size
  have N0 := Fr.nil n0
  have Z_ := Z0
  refine OwnGoW.cast (ef_rf m x) ?_
  show OwnGoW p e below s Z own_EL _ _ _ s₁ (mkF m 0 _ [])
  have Kp : Keep h0 h0 [] := Keep.refl h0 []
  obtain ⟨a223, T223, h223, k1_223, b223, kc223, X223, e223, E223, hS_, hkN, hZ, hown, Ea_, Fc_, Fv_, Vb_, -, -, CN, -, sN, st223⟩ := ldcCH (s := s) (vm0 := s.vm) X0 hx hZ hown (W_ hw 8 rfl) (own_wS hw) e0 hS_ hk_ (own_hEL hw) (by decide) CR.1 (vs := [(.int (112 : Int32)), (.int (97 : Int32)), (.int (115 : Int32)), (.int (115 : Int32)), (.int (101 : Int32)), (.int (100 : Int32))]) (z := (6 : Int32)) ⟨by decide, rfl⟩ (by decide) (by decide) (g := (mkF m 0 #[.val (.ref x)] [])) rfl (hb hby d21_0) (n := 24) (by decide) (by decide) (by decide) (by decide)
  have E_x := E_x.ext E223
  have Fc_x := Fc_x.ext E223
  have Fv_x := Fv_x.ext E223
  have V_t := V_t.ext E223
  have O_ := O_.ext E223
  have Kp := Kp.ext E223
  have CR := CR.trans CN
  have hk_ := hkN
  have Z_ : n0 ≤ h223.size := Nat.le_trans Z_ E223.1
  have E_a223 := Ea_
  have Fc_a223 := Fc_
  have Fv_a223 := Fv_
  have V_b223 := Vb_
  refine .st st223 ?_
  show OwnGoW p e below s Z own_EL _ _ _ T223 (mkF m 2 _ [(.ref a223)])
  refine .aloadN X223 hx (hb hby d21_2) rfl rfl ?_
  obtain ⟨cq224, kq224, q224a, q224b, q224c⟩ := isOf hZ e223 E_a223
  obtain ⟨_, _, ⟨T224, L224, k224, n224⟩, -, X224, ⟨Lc224, hQ224, l224, y224, z224⟩, st224⟩ := X223.virtualBack hx (y := (⟨"java/lang/String", "equals", "(Ljava/lang/Object;)Z"⟩ : MethodName)) (z := (⟨"java/lang/String", "equals", "(Ljava/lang/Object;)Z"⟩ : MethodName)) hown (mvT hZ (W_ hw 115 rfl)) (mvT hZ (W_ hw 104 rfl)) (notFace_of_selects (args := #[]) (mvT hZ (W_ hw 106 rfl))) (mvT hZ (W_ hw 106 rfl)) (mvT hZ (W_ hw 105 rfl)) (by decide) (backOf (W := 0) (rmse l Z a0 hw [] a223 b223 kc223 ([112, 97, 115, 115, 101, 100] : List Int32) x t kt vs zc h223 n0 Z_ O_ S_CS P_CS E_a223 Fc_a223 Fv_a223 V_b223 (by decide) E_x Fc_x Fv_x V_t l_vs) hZ (W_ hw 107 rfl) (W_ hw 1 rfl) (by decide) (by decide)) q224a q224c (g := (mkF m 3 #[.val (.ref x)] [(.ref x), (.ref a223)])) rfl (by rw [hml]; rfl) (Steps.refl _) (argsL := [(.ref x)]) (rest := []) (lenOf pd_12 rfl) rfl (Nat.le_of_eq rfl) (hb hby d21_3) (fun _ _ => ⟨rfl, e223, (by decide : 2 + 0 ≤ _), (by decide : 28 + 0 ≤ _)⟩)
  dsimp only [Pt.U, Pt.locs, Pt.cells, Pt.slots] at X224 l224 y224 z224 st224 hQ224
  subst l224 y224 z224
  obtain ⟨r224, rfl, N224q, e224, hr224⟩ := hQ224
  have N224 := Fr.app N0 N224q
  refine .st (fun _ => st224.trans) ?_
  show OwnGoW p e below s Z own_EL _ _ _ T224 (mkF m 6 _ [(.int r224)])
  rcases hr224 with ⟨rfl, hs0⟩ | ⟨rfl, hs0⟩
  · show OwnGoW p e below s Z own_EL _ _ _ T224 (mkF m 6 _ [(.int (1 : Int32))])
    refine .ifNo X224 hx (hb hby d21_6) ((if0 _ _).trans (feq ((by decide) : ¬ ((1 : Int32) = (0 : Int32)))).1) ?_
    obtain ⟨T225, X225, e225, st225⟩ := getS2 X224 hx hZ hown (host := "") (Or.inl (W_ hw 116 rfl)) Via.refl e224 (S_u_Outcome_PASSED.ext O_.2) (g := (mkF m 9 #[.val (.ref x)] [])) rfl (hb hby d21_9)
    refine .st st225 ?_
    show OwnGoW p e below s Z own_EL _ _ _ T225 (mkF m 12 _ [(.ref u_Outcome_PASSED)])
    exact OwnGoW.ret (s := s) (vm0 := T223.vm) X225 hS_ hk_ e225 hZ (own_hEL hw) CR hx hret hlk rfl (Or.inr (Or.inr (Or.inr (Or.inr ⟨rfl, rfl, rfl⟩)))) (hb hby d21_12) (by show Qrf Z x t kt vs u_Outcome__VALUES u_Outcome_PASSED u_Outcome_FAILED u_Outcome_ABORTED u_Outcome_NOT_FOUND u_Outcome_PASSED_text u_Outcome_PASSED_text_value u_Outcome_FAILED_text u_Outcome_FAILED_text_value u_Outcome_ABORTED_text u_Outcome_ABORTED_text_value u_Outcome_NOT_FOUND_text u_Outcome_NOT_FOUND_text_value kc_u_Outcome__VALUES kc_u_Outcome_PASSED_text_value kc_u_Outcome_FAILED_text_value kc_u_Outcome_ABORTED_text_value kc_u_Outcome_NOT_FOUND_text_value zc fmv h0 n0 _ T225.heap _; rw [e225]; exact ⟨by rw [← hs0, own_r0], N224, Kp⟩) (by decide) (by decide)
  · have hs0 := fun q => hs0 (Eq.symm q)
    show OwnGoW p e below s Z own_EL _ _ _ T224 (mkF m 6 _ [(.int (0 : Int32))])
    refine .ifYes (pc := 6) X224 hx 13 (hb hby d21_6) ((if0 _ _).trans (teq ((by decide) : (0 : Int32) = (0 : Int32))).1) (by decide) (by decide) ?_
    obtain ⟨a226, T226, h226, k1_226, b226, kc226, X226, e226, E226, hS_, hkN, hZ, hown, Ea_, Fc_, Fv_, Vb_, -, -, CN, -, sN, st226⟩ := ldcCH (s := s) (vm0 := T223.vm) X224 hx hZ hown (W_ hw 117 rfl) (own_wS hw) e224 hS_ hk_ (own_hEL hw) (by decide) CR.1 (vs := [(.int (102 : Int32)), (.int (97 : Int32)), (.int (105 : Int32)), (.int (108 : Int32)), (.int (101 : Int32)), (.int (100 : Int32))]) (z := (6 : Int32)) ⟨by decide, rfl⟩ (by decide) (by decide) (g := (mkF m 13 #[.val (.ref x)] [])) rfl (hb hby d21_13) (n := 24) (by decide) (by decide) (by decide) (by decide)
    have E_x := E_x.ext E226
    have Fc_x := Fc_x.ext E226
    have Fv_x := Fv_x.ext E226
    have V_t := V_t.ext E226
    have O_ := O_.ext E226
    have Kp := Kp.ext E226
    have CR := CR.trans CN
    have hk_ := hkN
    have Z_ : n0 ≤ h226.size := Nat.le_trans Z_ E226.1
    have E_a226 := Ea_
    have Fc_a226 := Fc_
    have Fv_a226 := Fv_
    have V_b226 := Vb_
    refine .st st226 ?_
    show OwnGoW p e below s Z own_EL _ _ _ T226 (mkF m 15 _ [(.ref a226)])
    refine .aloadN X226 hx (hb hby d21_15) rfl rfl ?_
    obtain ⟨cq227, kq227, q227a, q227b, q227c⟩ := isOf hZ e226 E_a226
    obtain ⟨_, _, ⟨T227, L227, k227, n227⟩, -, X227, ⟨Lc227, hQ227, l227, y227, z227⟩, st227⟩ := X226.virtualBack hx (y := (⟨"java/lang/String", "equals", "(Ljava/lang/Object;)Z"⟩ : MethodName)) (z := (⟨"java/lang/String", "equals", "(Ljava/lang/Object;)Z"⟩ : MethodName)) hown (mvT hZ (W_ hw 115 rfl)) (mvT hZ (W_ hw 104 rfl)) (notFace_of_selects (args := #[]) (mvT hZ (W_ hw 106 rfl))) (mvT hZ (W_ hw 106 rfl)) (mvT hZ (W_ hw 105 rfl)) (by decide) (backOf (W := 0) (rmse l Z a0 hw [] a226 b226 kc226 ([102, 97, 105, 108, 101, 100] : List Int32) x t kt vs zc h226 n0 Z_ O_ S_CS P_CS E_a226 Fc_a226 Fv_a226 V_b226 (by decide) E_x Fc_x Fv_x V_t l_vs) hZ (W_ hw 107 rfl) (W_ hw 1 rfl) (by decide) (by decide)) q227a q227c (g := (mkF m 16 #[.val (.ref x)] [(.ref x), (.ref a226)])) rfl (by rw [hml]; rfl) (Steps.refl _) (argsL := [(.ref x)]) (rest := []) (lenOf pd_12 rfl) rfl (Nat.le_of_eq rfl) (hb hby d21_16) (fun _ _ => ⟨rfl, e226, (by decide : 4 + 0 ≤ _), (by decide : 56 + 0 ≤ _)⟩)
    dsimp only [Pt.U, Pt.locs, Pt.cells, Pt.slots] at X227 l227 y227 z227 st227 hQ227
    subst l227 y227 z227
    obtain ⟨r227, rfl, N227q, e227, hr227⟩ := hQ227
    have N227 := Fr.app N224 N227q
    refine .st (fun _ => st227.trans) ?_
    show OwnGoW p e below s Z own_EL _ _ _ T227 (mkF m 19 _ [(.int r227)])
    rcases hr227 with ⟨rfl, hs1⟩ | ⟨rfl, hs1⟩
    · show OwnGoW p e below s Z own_EL _ _ _ T227 (mkF m 19 _ [(.int (1 : Int32))])
      refine .ifNo X227 hx (hb hby d21_19) ((if0 _ _).trans (feq ((by decide) : ¬ ((1 : Int32) = (0 : Int32)))).1) ?_
      obtain ⟨T228, X228, e228, st228⟩ := getS2 X227 hx hZ hown (host := "") (Or.inl (W_ hw 122 rfl)) Via.refl e227 (S_u_Outcome_FAILED.ext O_.2) (g := (mkF m 22 #[.val (.ref x)] [])) rfl (hb hby d21_22)
      refine .st st228 ?_
      show OwnGoW p e below s Z own_EL _ _ _ T228 (mkF m 25 _ [(.ref u_Outcome_FAILED)])
      exact OwnGoW.ret (s := s) (vm0 := T226.vm) X228 hS_ hk_ e228 hZ (own_hEL hw) CR hx hret hlk rfl (Or.inr (Or.inr (Or.inr (Or.inr ⟨rfl, rfl, rfl⟩)))) (hb hby d21_25) (by show Qrf Z x t kt vs u_Outcome__VALUES u_Outcome_PASSED u_Outcome_FAILED u_Outcome_ABORTED u_Outcome_NOT_FOUND u_Outcome_PASSED_text u_Outcome_PASSED_text_value u_Outcome_FAILED_text u_Outcome_FAILED_text_value u_Outcome_ABORTED_text u_Outcome_ABORTED_text_value u_Outcome_NOT_FOUND_text u_Outcome_NOT_FOUND_text_value kc_u_Outcome__VALUES kc_u_Outcome_PASSED_text_value kc_u_Outcome_FAILED_text_value kc_u_Outcome_ABORTED_text_value kc_u_Outcome_NOT_FOUND_text_value zc fmv h0 n0 _ T228.heap _; rw [e228]; exact ⟨by rw [← hs1, own_r1], N227, Kp⟩) (by decide) (by decide)
    · have hs1 := fun q => hs1 (Eq.symm q)
      show OwnGoW p e below s Z own_EL _ _ _ T227 (mkF m 19 _ [(.int (0 : Int32))])
      refine .ifYes (pc := 19) X227 hx 26 (hb hby d21_19) ((if0 _ _).trans (teq ((by decide) : (0 : Int32) = (0 : Int32))).1) (by decide) (by decide) ?_
      obtain ⟨a229, T229, h229, k1_229, b229, kc229, X229, e229, E229, hS_, hkN, hZ, hown, Ea_, Fc_, Fv_, Vb_, -, -, CN, -, sN, st229⟩ := ldcCH (s := s) (vm0 := T226.vm) X227 hx hZ hown (W_ hw 118 rfl) (own_wS hw) e227 hS_ hk_ (own_hEL hw) (by decide) CR.1 (vs := [(.int (97 : Int32)), (.int (98 : Int32)), (.int (111 : Int32)), (.int (114 : Int32)), (.int (116 : Int32)), (.int (101 : Int32)), (.int (100 : Int32))]) (z := (7 : Int32)) ⟨by decide, rfl⟩ (by decide) (by decide) (g := (mkF m 26 #[.val (.ref x)] [])) rfl (hb hby d21_26) (n := 28) (by decide) (by decide) (by decide) (by decide)
      have E_x := E_x.ext E229
      have Fc_x := Fc_x.ext E229
      have Fv_x := Fv_x.ext E229
      have V_t := V_t.ext E229
      have O_ := O_.ext E229
      have Kp := Kp.ext E229
      have CR := CR.trans CN
      have hk_ := hkN
      have Z_ : n0 ≤ h229.size := Nat.le_trans Z_ E229.1
      have E_a229 := Ea_
      have Fc_a229 := Fc_
      have Fv_a229 := Fv_
      have V_b229 := Vb_
      refine .st st229 ?_
      show OwnGoW p e below s Z own_EL _ _ _ T229 (mkF m 28 _ [(.ref a229)])
      refine .aloadN X229 hx (hb hby d21_28) rfl rfl ?_
      obtain ⟨cq230, kq230, q230a, q230b, q230c⟩ := isOf hZ e229 E_a229
      obtain ⟨_, _, ⟨T230, L230, k230, n230⟩, -, X230, ⟨Lc230, hQ230, l230, y230, z230⟩, st230⟩ := X229.virtualBack hx (y := (⟨"java/lang/String", "equals", "(Ljava/lang/Object;)Z"⟩ : MethodName)) (z := (⟨"java/lang/String", "equals", "(Ljava/lang/Object;)Z"⟩ : MethodName)) hown (mvT hZ (W_ hw 115 rfl)) (mvT hZ (W_ hw 104 rfl)) (notFace_of_selects (args := #[]) (mvT hZ (W_ hw 106 rfl))) (mvT hZ (W_ hw 106 rfl)) (mvT hZ (W_ hw 105 rfl)) (by decide) (backOf (W := 0) (rmse l Z a0 hw [] a229 b229 kc229 ([97, 98, 111, 114, 116, 101, 100] : List Int32) x t kt vs zc h229 n0 Z_ O_ S_CS P_CS E_a229 Fc_a229 Fv_a229 V_b229 (by decide) E_x Fc_x Fv_x V_t l_vs) hZ (W_ hw 107 rfl) (W_ hw 1 rfl) (by decide) (by decide)) q230a q230c (g := (mkF m 29 #[.val (.ref x)] [(.ref x), (.ref a229)])) rfl (by rw [hml]; rfl) (Steps.refl _) (argsL := [(.ref x)]) (rest := []) (lenOf pd_12 rfl) rfl (Nat.le_of_eq rfl) (hb hby d21_29) (fun _ _ => ⟨rfl, e229, (by decide : 6 + 0 ≤ _), (by decide : 88 + 0 ≤ _)⟩)
      dsimp only [Pt.U, Pt.locs, Pt.cells, Pt.slots] at X230 l230 y230 z230 st230 hQ230
      subst l230 y230 z230
      obtain ⟨r230, rfl, N230q, e230, hr230⟩ := hQ230
      have N230 := Fr.app N227 N230q
      refine .st (fun _ => st230.trans) ?_
      show OwnGoW p e below s Z own_EL _ _ _ T230 (mkF m 32 _ [(.int r230)])
      rcases hr230 with ⟨rfl, hs2⟩ | ⟨rfl, hs2⟩
      · show OwnGoW p e below s Z own_EL _ _ _ T230 (mkF m 32 _ [(.int (1 : Int32))])
        refine .ifNo X230 hx (hb hby d21_32) ((if0 _ _).trans (feq ((by decide) : ¬ ((1 : Int32) = (0 : Int32)))).1) ?_
        obtain ⟨T231, X231, e231, st231⟩ := getS2 X230 hx hZ hown (host := "") (Or.inl (W_ hw 121 rfl)) Via.refl e230 (S_u_Outcome_ABORTED.ext O_.2) (g := (mkF m 35 #[.val (.ref x)] [])) rfl (hb hby d21_35)
        refine .st st231 ?_
        show OwnGoW p e below s Z own_EL _ _ _ T231 (mkF m 38 _ [(.ref u_Outcome_ABORTED)])
        exact OwnGoW.ret (s := s) (vm0 := T229.vm) X231 hS_ hk_ e231 hZ (own_hEL hw) CR hx hret hlk rfl (Or.inr (Or.inr (Or.inr (Or.inr ⟨rfl, rfl, rfl⟩)))) (hb hby d21_38) (by show Qrf Z x t kt vs u_Outcome__VALUES u_Outcome_PASSED u_Outcome_FAILED u_Outcome_ABORTED u_Outcome_NOT_FOUND u_Outcome_PASSED_text u_Outcome_PASSED_text_value u_Outcome_FAILED_text u_Outcome_FAILED_text_value u_Outcome_ABORTED_text u_Outcome_ABORTED_text_value u_Outcome_NOT_FOUND_text u_Outcome_NOT_FOUND_text_value kc_u_Outcome__VALUES kc_u_Outcome_PASSED_text_value kc_u_Outcome_FAILED_text_value kc_u_Outcome_ABORTED_text_value kc_u_Outcome_NOT_FOUND_text_value zc fmv h0 n0 _ T231.heap _; rw [e231]; exact ⟨by rw [← hs2, own_r2], N230, Kp⟩) (by decide) (by decide)
      · have hs2 := fun q => hs2 (Eq.symm q)
        show OwnGoW p e below s Z own_EL _ _ _ T230 (mkF m 32 _ [(.int (0 : Int32))])
        refine .ifYes (pc := 32) X230 hx 39 (hb hby d21_32) ((if0 _ _).trans (teq ((by decide) : (0 : Int32) = (0 : Int32))).1) (by decide) (by decide) ?_
        obtain ⟨a232, T232, h232, k1_232, b232, kc232, X232, e232, E232, hS_, hkN, hZ, hown, Ea_, Fc_, Fv_, Vb_, -, -, CN, -, sN, st232⟩ := ldcCH (s := s) (vm0 := T229.vm) X230 hx hZ hown (W_ hw 119 rfl) (own_wS hw) e230 hS_ hk_ (own_hEL hw) (by decide) CR.1 (vs := [(.int (110 : Int32)), (.int (111 : Int32)), (.int (116 : Int32)), (.int (45 : Int32)), (.int (102 : Int32)), (.int (111 : Int32)), (.int (117 : Int32)), (.int (110 : Int32)), (.int (100 : Int32))]) (z := (9 : Int32)) ⟨by decide, rfl⟩ (by decide) (by decide) (g := (mkF m 39 #[.val (.ref x)] [])) rfl (hb hby d21_39) (n := 36) (by decide) (by decide) (by decide) (by decide)
        have E_x := E_x.ext E232
        have Fc_x := Fc_x.ext E232
        have Fv_x := Fv_x.ext E232
        have V_t := V_t.ext E232
        have O_ := O_.ext E232
        have Kp := Kp.ext E232
        have CR := CR.trans CN
        have hk_ := hkN
        have Z_ : n0 ≤ h232.size := Nat.le_trans Z_ E232.1
        have E_a232 := Ea_
        have Fc_a232 := Fc_
        have Fv_a232 := Fv_
        have V_b232 := Vb_
        refine .st st232 ?_
        show OwnGoW p e below s Z own_EL _ _ _ T232 (mkF m 41 _ [(.ref a232)])
        refine .aloadN X232 hx (hb hby d21_41) rfl rfl ?_
        obtain ⟨cq233, kq233, q233a, q233b, q233c⟩ := isOf hZ e232 E_a232
        obtain ⟨_, _, ⟨T233, L233, k233, n233⟩, -, X233, ⟨Lc233, hQ233, l233, y233, z233⟩, st233⟩ := X232.virtualBack hx (y := (⟨"java/lang/String", "equals", "(Ljava/lang/Object;)Z"⟩ : MethodName)) (z := (⟨"java/lang/String", "equals", "(Ljava/lang/Object;)Z"⟩ : MethodName)) hown (mvT hZ (W_ hw 115 rfl)) (mvT hZ (W_ hw 104 rfl)) (notFace_of_selects (args := #[]) (mvT hZ (W_ hw 106 rfl))) (mvT hZ (W_ hw 106 rfl)) (mvT hZ (W_ hw 105 rfl)) (by decide) (backOf (W := 0) (rmse l Z a0 hw [] a232 b232 kc232 ([110, 111, 116, 45, 102, 111, 117, 110, 100] : List Int32) x t kt vs zc h232 n0 Z_ O_ S_CS P_CS E_a232 Fc_a232 Fv_a232 V_b232 (by decide) E_x Fc_x Fv_x V_t l_vs) hZ (W_ hw 107 rfl) (W_ hw 1 rfl) (by decide) (by decide)) q233a q233c (g := (mkF m 42 #[.val (.ref x)] [(.ref x), (.ref a232)])) rfl (by rw [hml]; rfl) (Steps.refl _) (argsL := [(.ref x)]) (rest := []) (lenOf pd_12 rfl) rfl (Nat.le_of_eq rfl) (hb hby d21_42) (fun _ _ => ⟨rfl, e232, (by decide : 8 + 0 ≤ _), (by decide : 128 + 0 ≤ _)⟩)
        dsimp only [Pt.U, Pt.locs, Pt.cells, Pt.slots] at X233 l233 y233 z233 st233 hQ233
        subst l233 y233 z233
        obtain ⟨r233, rfl, N233q, e233, hr233⟩ := hQ233
        have N233 := Fr.app N230 N233q
        refine .st (fun _ => st233.trans) ?_
        show OwnGoW p e below s Z own_EL _ _ _ T233 (mkF m 45 _ [(.int r233)])
        rcases hr233 with ⟨rfl, hs3⟩ | ⟨rfl, hs3⟩
        · show OwnGoW p e below s Z own_EL _ _ _ T233 (mkF m 45 _ [(.int (1 : Int32))])
          refine .ifNo X233 hx (hb hby d21_45) ((if0 _ _).trans (feq ((by decide) : ¬ ((1 : Int32) = (0 : Int32)))).1) ?_
          obtain ⟨T234, X234, e234, st234⟩ := getS2 X233 hx hZ hown (host := "") (Or.inl (W_ hw 123 rfl)) Via.refl e233 (S_u_Outcome_NOT_FOUND.ext O_.2) (g := (mkF m 48 #[.val (.ref x)] [])) rfl (hb hby d21_48)
          refine .st st234 ?_
          show OwnGoW p e below s Z own_EL _ _ _ T234 (mkF m 51 _ [(.ref u_Outcome_NOT_FOUND)])
          exact OwnGoW.ret (s := s) (vm0 := T232.vm) X234 hS_ hk_ e234 hZ (own_hEL hw) CR hx hret hlk rfl (Or.inr (Or.inr (Or.inr (Or.inr ⟨rfl, rfl, rfl⟩)))) (hb hby d21_51) (by show Qrf Z x t kt vs u_Outcome__VALUES u_Outcome_PASSED u_Outcome_FAILED u_Outcome_ABORTED u_Outcome_NOT_FOUND u_Outcome_PASSED_text u_Outcome_PASSED_text_value u_Outcome_FAILED_text u_Outcome_FAILED_text_value u_Outcome_ABORTED_text u_Outcome_ABORTED_text_value u_Outcome_NOT_FOUND_text u_Outcome_NOT_FOUND_text_value kc_u_Outcome__VALUES kc_u_Outcome_PASSED_text_value kc_u_Outcome_FAILED_text_value kc_u_Outcome_ABORTED_text_value kc_u_Outcome_NOT_FOUND_text_value zc fmv h0 n0 _ T234.heap _; rw [e234]; exact ⟨by rw [← hs3, own_r3], N233, Kp⟩) (by decide) (by decide)
        · have hs3 := fun q => hs3 (Eq.symm q)
          show OwnGoW p e below s Z own_EL _ _ _ T233 (mkF m 45 _ [(.int (0 : Int32))])
          refine .ifYes (pc := 45) X233 hx 52 (hb hby d21_45) ((if0 _ _).trans (teq ((by decide) : (0 : Int32) = (0 : Int32))).1) (by decide) (by decide) ?_
          refine .aconstNull X233 hx (hb hby d21_52)  ?_
          exact OwnGoW.ret (s := s) (vm0 := T232.vm) X233 hS_ hk_ e233 hZ (own_hEL hw) CR hx hret hlk rfl (Or.inr (Or.inr (Or.inr (Or.inr ⟨rfl, rfl, rfl⟩)))) (hb hby d21_53) (by show Qrf Z x t kt vs u_Outcome__VALUES u_Outcome_PASSED u_Outcome_FAILED u_Outcome_ABORTED u_Outcome_NOT_FOUND u_Outcome_PASSED_text u_Outcome_PASSED_text_value u_Outcome_FAILED_text u_Outcome_FAILED_text_value u_Outcome_ABORTED_text u_Outcome_ABORTED_text_value u_Outcome_NOT_FOUND_text u_Outcome_NOT_FOUND_text_value kc_u_Outcome__VALUES kc_u_Outcome_PASSED_text_value kc_u_Outcome_FAILED_text_value kc_u_Outcome_ABORTED_text_value kc_u_Outcome_NOT_FOUND_text_value zc fmv h0 n0 _ T233.heap _; rw [e233]; exact ⟨by rw [own_rn hs0 hs1 hs2 hs3], N233, Kp⟩) (by decide) (by decide)
def Qrn (Z : State) (u_Outcome__VALUES : Addr) (u_Outcome_PASSED : Addr) (u_Outcome_FAILED : Addr) (u_Outcome_ABORTED : Addr) (u_Outcome_NOT_FOUND : Addr) (u_Outcome_PASSED_text : Addr) (u_Outcome_PASSED_text_value : Addr) (u_Outcome_FAILED_text : Addr) (u_Outcome_FAILED_text_value : Addr) (u_Outcome_ABORTED_text : Addr) (u_Outcome_ABORTED_text_value : Addr) (u_Outcome_NOT_FOUND_text : Addr) (u_Outcome_NOT_FOUND_text_value : Addr) (kc_u_Outcome__VALUES : ClassId) (kc_u_Outcome_PASSED_text_value : ClassId) (kc_u_Outcome_FAILED_text_value : ClassId) (kc_u_Outcome_ABORTED_text_value : ClassId) (kc_u_Outcome_NOT_FOUND_text_value : ClassId) (zc : Int32) (fmv : Value) (h0 : Heap) (n0 : Nat) (v : Option Value) (h : Heap) (L : List Loc) : Prop := v = some .null ∧ Fr n0 L ∧ Keep h0 h []
theorem rmrn (l : Launch) (Z : State) (a0 : Array Value) (hw : own_tb a0 Z) (ws : List Jvm.Cond) (u_Outcome__VALUES : Addr) (u_Outcome_PASSED : Addr) (u_Outcome_FAILED : Addr) (u_Outcome_ABORTED : Addr) (u_Outcome_NOT_FOUND : Addr) (u_Outcome_PASSED_text : Addr) (u_Outcome_PASSED_text_value : Addr) (u_Outcome_FAILED_text : Addr) (u_Outcome_FAILED_text_value : Addr) (u_Outcome_ABORTED_text : Addr) (u_Outcome_ABORTED_text_value : Addr) (u_Outcome_NOT_FOUND_text : Addr) (u_Outcome_NOT_FOUND_text_value : Addr) (kc_u_Outcome__VALUES : ClassId) (kc_u_Outcome_PASSED_text_value : ClassId) (kc_u_Outcome_FAILED_text_value : ClassId) (kc_u_Outcome_ABORTED_text_value : ClassId) (kc_u_Outcome_NOT_FOUND_text_value : ClassId) (zc : Int32) (fmv : Value) (h0 : Heap) (n0 : Nat) (Z0 : n0 ≤ h0.size) (O_ : Old Z n0 h0) (S_u_Outcome__VALUES : Sta Z Z.heap "com/example/tightrope/tightrope/junit/Outcome" "$VALUES" "[Lcom/example/tightrope/tightrope/junit/Outcome;" (.ref u_Outcome__VALUES)) (E_u_Outcome__VALUES : Exa Z Z.heap u_Outcome__VALUES "[Lcom/example/tightrope/tightrope/junit/Outcome;") (S_u_Outcome_PASSED : Sta Z Z.heap "com/example/tightrope/tightrope/junit/Outcome" "PASSED" "Lcom/example/tightrope/tightrope/junit/Outcome;" (.ref u_Outcome_PASSED)) (E_u_Outcome_PASSED : Exa Z Z.heap u_Outcome_PASSED "com/example/tightrope/tightrope/junit/Outcome") (S_u_Outcome_FAILED : Sta Z Z.heap "com/example/tightrope/tightrope/junit/Outcome" "FAILED" "Lcom/example/tightrope/tightrope/junit/Outcome;" (.ref u_Outcome_FAILED)) (E_u_Outcome_FAILED : Exa Z Z.heap u_Outcome_FAILED "com/example/tightrope/tightrope/junit/Outcome") (S_u_Outcome_ABORTED : Sta Z Z.heap "com/example/tightrope/tightrope/junit/Outcome" "ABORTED" "Lcom/example/tightrope/tightrope/junit/Outcome;" (.ref u_Outcome_ABORTED)) (E_u_Outcome_ABORTED : Exa Z Z.heap u_Outcome_ABORTED "com/example/tightrope/tightrope/junit/Outcome") (S_u_Outcome_NOT_FOUND : Sta Z Z.heap "com/example/tightrope/tightrope/junit/Outcome" "NOT_FOUND" "Lcom/example/tightrope/tightrope/junit/Outcome;" (.ref u_Outcome_NOT_FOUND)) (E_u_Outcome_NOT_FOUND : Exa Z Z.heap u_Outcome_NOT_FOUND "com/example/tightrope/tightrope/junit/Outcome") (F_u_Outcome_PASSED_text : Fld Z Z.heap u_Outcome_PASSED "com/example/tightrope/tightrope/junit/Outcome" "text" "Ljava/lang/String;" (.ref u_Outcome_PASSED_text)) (E_u_Outcome_PASSED_text : Exa Z Z.heap u_Outcome_PASSED_text "java/lang/String") (F_u_Outcome_PASSED_text_coder : Fld Z Z.heap u_Outcome_PASSED_text "java/lang/String" "coder" "B" (.int (0 : Int32))) (F_u_Outcome_PASSED_text_value : Fld Z Z.heap u_Outcome_PASSED_text "java/lang/String" "value" "[B" (.ref u_Outcome_PASSED_text_value)) (F_u_Outcome_FAILED_text : Fld Z Z.heap u_Outcome_FAILED "com/example/tightrope/tightrope/junit/Outcome" "text" "Ljava/lang/String;" (.ref u_Outcome_FAILED_text)) (E_u_Outcome_FAILED_text : Exa Z Z.heap u_Outcome_FAILED_text "java/lang/String") (F_u_Outcome_FAILED_text_coder : Fld Z Z.heap u_Outcome_FAILED_text "java/lang/String" "coder" "B" (.int (0 : Int32))) (F_u_Outcome_FAILED_text_value : Fld Z Z.heap u_Outcome_FAILED_text "java/lang/String" "value" "[B" (.ref u_Outcome_FAILED_text_value)) (F_u_Outcome_ABORTED_text : Fld Z Z.heap u_Outcome_ABORTED "com/example/tightrope/tightrope/junit/Outcome" "text" "Ljava/lang/String;" (.ref u_Outcome_ABORTED_text)) (E_u_Outcome_ABORTED_text : Exa Z Z.heap u_Outcome_ABORTED_text "java/lang/String") (F_u_Outcome_ABORTED_text_coder : Fld Z Z.heap u_Outcome_ABORTED_text "java/lang/String" "coder" "B" (.int (0 : Int32))) (F_u_Outcome_ABORTED_text_value : Fld Z Z.heap u_Outcome_ABORTED_text "java/lang/String" "value" "[B" (.ref u_Outcome_ABORTED_text_value)) (F_u_Outcome_NOT_FOUND_text : Fld Z Z.heap u_Outcome_NOT_FOUND "com/example/tightrope/tightrope/junit/Outcome" "text" "Ljava/lang/String;" (.ref u_Outcome_NOT_FOUND_text)) (E_u_Outcome_NOT_FOUND_text : Exa Z Z.heap u_Outcome_NOT_FOUND_text "java/lang/String") (F_u_Outcome_NOT_FOUND_text_coder : Fld Z Z.heap u_Outcome_NOT_FOUND_text "java/lang/String" "coder" "B" (.int (0 : Int32))) (F_u_Outcome_NOT_FOUND_text_value : Fld Z Z.heap u_Outcome_NOT_FOUND_text "java/lang/String" "value" "[B" (.ref u_Outcome_NOT_FOUND_text_value)) (V_u_Outcome__VALUES : Arv Z Z.heap u_Outcome__VALUES kc_u_Outcome__VALUES (Jvm.ClassFile.FieldType.object "com/example/tightrope/tightrope/junit/Outcome") (4 : Int32) [(.ref u_Outcome_PASSED), (.ref u_Outcome_FAILED), (.ref u_Outcome_ABORTED), (.ref u_Outcome_NOT_FOUND)] .null) (V_u_Outcome_PASSED_text_value : Arv Z Z.heap u_Outcome_PASSED_text_value kc_u_Outcome_PASSED_text_value Jvm.ClassFile.FieldType.byte (6 : Int32) [(.int (112 : Int32)), (.int (97 : Int32)), (.int (115 : Int32)), (.int (115 : Int32)), (.int (101 : Int32)), (.int (100 : Int32))] (.int (0 : Int32))) (V_u_Outcome_FAILED_text_value : Arv Z Z.heap u_Outcome_FAILED_text_value kc_u_Outcome_FAILED_text_value Jvm.ClassFile.FieldType.byte (6 : Int32) [(.int (102 : Int32)), (.int (97 : Int32)), (.int (105 : Int32)), (.int (108 : Int32)), (.int (101 : Int32)), (.int (100 : Int32))] (.int (0 : Int32))) (V_u_Outcome_ABORTED_text_value : Arv Z Z.heap u_Outcome_ABORTED_text_value kc_u_Outcome_ABORTED_text_value Jvm.ClassFile.FieldType.byte (7 : Int32) [(.int (97 : Int32)), (.int (98 : Int32)), (.int (111 : Int32)), (.int (114 : Int32)), (.int (116 : Int32)), (.int (101 : Int32)), (.int (100 : Int32))] (.int (0 : Int32))) (V_u_Outcome_NOT_FOUND_text_value : Arv Z Z.heap u_Outcome_NOT_FOUND_text_value kc_u_Outcome_NOT_FOUND_text_value Jvm.ClassFile.FieldType.byte (9 : Int32) [(.int (110 : Int32)), (.int (111 : Int32)), (.int (116 : Int32)), (.int (45 : Int32)), (.int (102 : Int32)), (.int (111 : Int32)), (.int (117 : Int32)), (.int (110 : Int32)), (.int (100 : Int32))] (.int (0 : Int32))) (S_CS : Sta Z Z.heap "java/lang/String" "COMPACT_STRINGS" "Z" (.int zc)) (P_CS : ¬ zc = (0 : Int32)) (S_SF : Sta Z Z.heap "jdk/internal/util/Preconditions" "SIOOBE_FORMATTER" "Ljava/util/function/BiFunction;" fmv) (rf_fmv : fmv.isRef = true) :
    OwnMetW l (⟨"com/example/tightrope/tightrope/junit/OutcomeOfTextPinLaw", "ref", "(Ljava/lang/String;)Lcom/example/tightrope/tightrope/junit/Outcome;"⟩ : MethodName) method_3_code 1 (some (.object "com/example/tightrope/tightrope/junit/Outcome")) ws ({ frames := 1, cells := 8, slots := 200, locals := 14 } : Room) #[.null] Z h0 (Qrn Z u_Outcome__VALUES u_Outcome_PASSED u_Outcome_FAILED u_Outcome_ABORTED u_Outcome_NOT_FOUND u_Outcome_PASSED_text u_Outcome_PASSED_text_value u_Outcome_FAILED_text u_Outcome_FAILED_text_value u_Outcome_ABORTED_text u_Outcome_ABORTED_text_value u_Outcome_NOT_FOUND_text u_Outcome_NOT_FOUND_text_value kc_u_Outcome__VALUES kc_u_Outcome_PASSED_text_value kc_u_Outcome_FAILED_text_value kc_u_Outcome_ABORTED_text_value kc_u_Outcome_NOT_FOUND_text_value zc fmv h0 n0) := by
  refine own_metW (EL := own_EL) (plainFor_of_name pn_9) ?_
  intro p e s m below meth c s₁ X0 hx hby hml hret hlk hown hnm hZ e0 hS_ CR
  have hk_ := Nat.le_refl h0.size
  have N0 := Fr.nil n0
  have Z_ := Z0
  refine OwnGoW.cast (ef_rn m ) ?_
  show OwnGoW p e below s Z own_EL _ _ _ s₁ (mkF m 0 _ [])
  have Kp : Keep h0 h0 [] := Keep.refl h0 []
  obtain ⟨a235, T235, h235, k1_235, b235, kc235, X235, e235, E235, hS_, hkN, hZ, hown, Ea_, Fc_, Fv_, Vb_, -, -, CN, -, sN, st235⟩ := ldcCH (s := s) (vm0 := s.vm) X0 hx hZ hown (W_ hw 8 rfl) (own_wS hw) e0 hS_ hk_ (own_hEL hw) (by decide) CR.1 (vs := [(.int (112 : Int32)), (.int (97 : Int32)), (.int (115 : Int32)), (.int (115 : Int32)), (.int (101 : Int32)), (.int (100 : Int32))]) (z := (6 : Int32)) ⟨by decide, rfl⟩ (by decide) (by decide) (g := (mkF m 0 #[.val .null] [])) rfl (hb hby d21_0) (n := 24) (by decide) (by decide) (by decide) (by decide)
  have O_ := O_.ext E235
  have Kp := Kp.ext E235
  have CR := CR.trans CN
  have hk_ := hkN
  have Z_ : n0 ≤ h235.size := Nat.le_trans Z_ E235.1
  have E_a235 := Ea_
  have Fc_a235 := Fc_
  have Fv_a235 := Fv_
  have V_b235 := Vb_
  refine .st st235 ?_
  show OwnGoW p e below s Z own_EL _ _ _ T235 (mkF m 2 _ [(.ref a235)])
  refine .aloadN X235 hx (hb hby d21_2) rfl rfl ?_
  obtain ⟨cq236, kq236, q236a, q236b, q236c⟩ := isOf hZ e235 E_a235
  obtain ⟨_, _, ⟨T236, L236, k236, n236⟩, -, X236, ⟨Lc236, hQ236, l236, y236, z236⟩, st236⟩ := X235.virtualBack hx (y := (⟨"java/lang/String", "equals", "(Ljava/lang/Object;)Z"⟩ : MethodName)) (z := (⟨"java/lang/String", "equals", "(Ljava/lang/Object;)Z"⟩ : MethodName)) hown (mvT hZ (W_ hw 115 rfl)) (mvT hZ (W_ hw 104 rfl)) (notFace_of_selects (args := #[]) (mvT hZ (W_ hw 106 rfl))) (mvT hZ (W_ hw 106 rfl)) (mvT hZ (W_ hw 105 rfl)) (by decide) (backOf (W := 0) (rmsn l Z a0 hw [] a235 h235 n0 Z_ ) hZ (W_ hw 107 rfl) (W_ hw 1 rfl) (by decide) (by decide)) q236a q236c (g := (mkF m 3 #[.val .null] [.null, (.ref a235)])) rfl (by rw [hml]; rfl) (Steps.refl _) (argsL := [.null]) (rest := []) (lenOf pd_12 rfl) rfl (Nat.le_of_eq rfl) (hb hby d21_3) (fun _ _ => ⟨rfl, e235, (by decide : 2 + 0 ≤ _), (by decide : 28 + 0 ≤ _)⟩)
  dsimp only [Pt.U, Pt.locs, Pt.cells, Pt.slots] at X236 l236 y236 z236 st236 hQ236
  subst l236 y236 z236
  obtain ⟨rfl, N236q, e236⟩ := hQ236
  have N236 := Fr.app N0 N236q
  refine .st (fun _ => st236.trans) ?_
  show OwnGoW p e below s Z own_EL _ _ _ T236 (mkF m 6 _ [(.int (0 : Int32))])
  refine .ifYes (pc := 6) X236 hx 13 (hb hby d21_6) ((if0 _ _).trans (teq ((by decide) : (0 : Int32) = (0 : Int32))).1) (by decide) (by decide) ?_
  obtain ⟨a237, T237, h237, k1_237, b237, kc237, X237, e237, E237, hS_, hkN, hZ, hown, Ea_, Fc_, Fv_, Vb_, -, -, CN, -, sN, st237⟩ := ldcCH (s := s) (vm0 := T235.vm) X236 hx hZ hown (W_ hw 117 rfl) (own_wS hw) e236 hS_ hk_ (own_hEL hw) (by decide) CR.1 (vs := [(.int (102 : Int32)), (.int (97 : Int32)), (.int (105 : Int32)), (.int (108 : Int32)), (.int (101 : Int32)), (.int (100 : Int32))]) (z := (6 : Int32)) ⟨by decide, rfl⟩ (by decide) (by decide) (g := (mkF m 13 #[.val .null] [])) rfl (hb hby d21_13) (n := 24) (by decide) (by decide) (by decide) (by decide)
  have E_a235 := E_a235.ext E237
  have Fc_a235 := Fc_a235.ext E237
  have Fv_a235 := Fv_a235.ext E237
  have V_b235 := V_b235.ext E237
  have O_ := O_.ext E237
  have Kp := Kp.ext E237
  have CR := CR.trans CN
  have hk_ := hkN
  have Z_ : n0 ≤ h237.size := Nat.le_trans Z_ E237.1
  have E_a237 := Ea_
  have Fc_a237 := Fc_
  have Fv_a237 := Fv_
  have V_b237 := Vb_
  refine .st st237 ?_
  show OwnGoW p e below s Z own_EL _ _ _ T237 (mkF m 15 _ [(.ref a237)])
  refine .aloadN X237 hx (hb hby d21_15) rfl rfl ?_
  obtain ⟨cq238, kq238, q238a, q238b, q238c⟩ := isOf hZ e237 E_a237
  obtain ⟨_, _, ⟨T238, L238, k238, n238⟩, -, X238, ⟨Lc238, hQ238, l238, y238, z238⟩, st238⟩ := X237.virtualBack hx (y := (⟨"java/lang/String", "equals", "(Ljava/lang/Object;)Z"⟩ : MethodName)) (z := (⟨"java/lang/String", "equals", "(Ljava/lang/Object;)Z"⟩ : MethodName)) hown (mvT hZ (W_ hw 115 rfl)) (mvT hZ (W_ hw 104 rfl)) (notFace_of_selects (args := #[]) (mvT hZ (W_ hw 106 rfl))) (mvT hZ (W_ hw 106 rfl)) (mvT hZ (W_ hw 105 rfl)) (by decide) (backOf (W := 0) (rmsn l Z a0 hw [] a237 h237 n0 Z_ ) hZ (W_ hw 107 rfl) (W_ hw 1 rfl) (by decide) (by decide)) q238a q238c (g := (mkF m 16 #[.val .null] [.null, (.ref a237)])) rfl (by rw [hml]; rfl) (Steps.refl _) (argsL := [.null]) (rest := []) (lenOf pd_12 rfl) rfl (Nat.le_of_eq rfl) (hb hby d21_16) (fun _ _ => ⟨rfl, e237, (by decide : 4 + 0 ≤ _), (by decide : 56 + 0 ≤ _)⟩)
  dsimp only [Pt.U, Pt.locs, Pt.cells, Pt.slots] at X238 l238 y238 z238 st238 hQ238
  subst l238 y238 z238
  obtain ⟨rfl, N238q, e238⟩ := hQ238
  have N238 := Fr.app N236 N238q
  refine .st (fun _ => st238.trans) ?_
  show OwnGoW p e below s Z own_EL _ _ _ T238 (mkF m 19 _ [(.int (0 : Int32))])
  refine .ifYes (pc := 19) X238 hx 26 (hb hby d21_19) ((if0 _ _).trans (teq ((by decide) : (0 : Int32) = (0 : Int32))).1) (by decide) (by decide) ?_
  obtain ⟨a239, T239, h239, k1_239, b239, kc239, X239, e239, E239, hS_, hkN, hZ, hown, Ea_, Fc_, Fv_, Vb_, -, -, CN, -, sN, st239⟩ := ldcCH (s := s) (vm0 := T237.vm) X238 hx hZ hown (W_ hw 118 rfl) (own_wS hw) e238 hS_ hk_ (own_hEL hw) (by decide) CR.1 (vs := [(.int (97 : Int32)), (.int (98 : Int32)), (.int (111 : Int32)), (.int (114 : Int32)), (.int (116 : Int32)), (.int (101 : Int32)), (.int (100 : Int32))]) (z := (7 : Int32)) ⟨by decide, rfl⟩ (by decide) (by decide) (g := (mkF m 26 #[.val .null] [])) rfl (hb hby d21_26) (n := 28) (by decide) (by decide) (by decide) (by decide)
  have E_a235 := E_a235.ext E239
  have Fc_a235 := Fc_a235.ext E239
  have Fv_a235 := Fv_a235.ext E239
  have V_b235 := V_b235.ext E239
  have E_a237 := E_a237.ext E239
  have Fc_a237 := Fc_a237.ext E239
  have Fv_a237 := Fv_a237.ext E239
  have V_b237 := V_b237.ext E239
  have O_ := O_.ext E239
  have Kp := Kp.ext E239
  have CR := CR.trans CN
  have hk_ := hkN
  have Z_ : n0 ≤ h239.size := Nat.le_trans Z_ E239.1
  have E_a239 := Ea_
  have Fc_a239 := Fc_
  have Fv_a239 := Fv_
  have V_b239 := Vb_
  refine .st st239 ?_
  show OwnGoW p e below s Z own_EL _ _ _ T239 (mkF m 28 _ [(.ref a239)])
  refine .aloadN X239 hx (hb hby d21_28) rfl rfl ?_
  obtain ⟨cq240, kq240, q240a, q240b, q240c⟩ := isOf hZ e239 E_a239
  obtain ⟨_, _, ⟨T240, L240, k240, n240⟩, -, X240, ⟨Lc240, hQ240, l240, y240, z240⟩, st240⟩ := X239.virtualBack hx (y := (⟨"java/lang/String", "equals", "(Ljava/lang/Object;)Z"⟩ : MethodName)) (z := (⟨"java/lang/String", "equals", "(Ljava/lang/Object;)Z"⟩ : MethodName)) hown (mvT hZ (W_ hw 115 rfl)) (mvT hZ (W_ hw 104 rfl)) (notFace_of_selects (args := #[]) (mvT hZ (W_ hw 106 rfl))) (mvT hZ (W_ hw 106 rfl)) (mvT hZ (W_ hw 105 rfl)) (by decide) (backOf (W := 0) (rmsn l Z a0 hw [] a239 h239 n0 Z_ ) hZ (W_ hw 107 rfl) (W_ hw 1 rfl) (by decide) (by decide)) q240a q240c (g := (mkF m 29 #[.val .null] [.null, (.ref a239)])) rfl (by rw [hml]; rfl) (Steps.refl _) (argsL := [.null]) (rest := []) (lenOf pd_12 rfl) rfl (Nat.le_of_eq rfl) (hb hby d21_29) (fun _ _ => ⟨rfl, e239, (by decide : 6 + 0 ≤ _), (by decide : 88 + 0 ≤ _)⟩)
  dsimp only [Pt.U, Pt.locs, Pt.cells, Pt.slots] at X240 l240 y240 z240 st240 hQ240
  subst l240 y240 z240
  obtain ⟨rfl, N240q, e240⟩ := hQ240
  have N240 := Fr.app N238 N240q
  refine .st (fun _ => st240.trans) ?_
  show OwnGoW p e below s Z own_EL _ _ _ T240 (mkF m 32 _ [(.int (0 : Int32))])
  refine .ifYes (pc := 32) X240 hx 39 (hb hby d21_32) ((if0 _ _).trans (teq ((by decide) : (0 : Int32) = (0 : Int32))).1) (by decide) (by decide) ?_
  obtain ⟨a241, T241, h241, k1_241, b241, kc241, X241, e241, E241, hS_, hkN, hZ, hown, Ea_, Fc_, Fv_, Vb_, -, -, CN, -, sN, st241⟩ := ldcCH (s := s) (vm0 := T239.vm) X240 hx hZ hown (W_ hw 119 rfl) (own_wS hw) e240 hS_ hk_ (own_hEL hw) (by decide) CR.1 (vs := [(.int (110 : Int32)), (.int (111 : Int32)), (.int (116 : Int32)), (.int (45 : Int32)), (.int (102 : Int32)), (.int (111 : Int32)), (.int (117 : Int32)), (.int (110 : Int32)), (.int (100 : Int32))]) (z := (9 : Int32)) ⟨by decide, rfl⟩ (by decide) (by decide) (g := (mkF m 39 #[.val .null] [])) rfl (hb hby d21_39) (n := 36) (by decide) (by decide) (by decide) (by decide)
  have E_a235 := E_a235.ext E241
  have Fc_a235 := Fc_a235.ext E241
  have Fv_a235 := Fv_a235.ext E241
  have V_b235 := V_b235.ext E241
  have E_a237 := E_a237.ext E241
  have Fc_a237 := Fc_a237.ext E241
  have Fv_a237 := Fv_a237.ext E241
  have V_b237 := V_b237.ext E241
  have E_a239 := E_a239.ext E241
  have Fc_a239 := Fc_a239.ext E241
  have Fv_a239 := Fv_a239.ext E241
  have V_b239 := V_b239.ext E241
  have O_ := O_.ext E241
  have Kp := Kp.ext E241
  have CR := CR.trans CN
  have hk_ := hkN
  have Z_ : n0 ≤ h241.size := Nat.le_trans Z_ E241.1
  have E_a241 := Ea_
  have Fc_a241 := Fc_
  have Fv_a241 := Fv_
  have V_b241 := Vb_
  refine .st st241 ?_
  show OwnGoW p e below s Z own_EL _ _ _ T241 (mkF m 41 _ [(.ref a241)])
  refine .aloadN X241 hx (hb hby d21_41) rfl rfl ?_
  obtain ⟨cq242, kq242, q242a, q242b, q242c⟩ := isOf hZ e241 E_a241
  obtain ⟨_, _, ⟨T242, L242, k242, n242⟩, -, X242, ⟨Lc242, hQ242, l242, y242, z242⟩, st242⟩ := X241.virtualBack hx (y := (⟨"java/lang/String", "equals", "(Ljava/lang/Object;)Z"⟩ : MethodName)) (z := (⟨"java/lang/String", "equals", "(Ljava/lang/Object;)Z"⟩ : MethodName)) hown (mvT hZ (W_ hw 115 rfl)) (mvT hZ (W_ hw 104 rfl)) (notFace_of_selects (args := #[]) (mvT hZ (W_ hw 106 rfl))) (mvT hZ (W_ hw 106 rfl)) (mvT hZ (W_ hw 105 rfl)) (by decide) (backOf (W := 0) (rmsn l Z a0 hw [] a241 h241 n0 Z_ ) hZ (W_ hw 107 rfl) (W_ hw 1 rfl) (by decide) (by decide)) q242a q242c (g := (mkF m 42 #[.val .null] [.null, (.ref a241)])) rfl (by rw [hml]; rfl) (Steps.refl _) (argsL := [.null]) (rest := []) (lenOf pd_12 rfl) rfl (Nat.le_of_eq rfl) (hb hby d21_42) (fun _ _ => ⟨rfl, e241, (by decide : 8 + 0 ≤ _), (by decide : 128 + 0 ≤ _)⟩)
  dsimp only [Pt.U, Pt.locs, Pt.cells, Pt.slots] at X242 l242 y242 z242 st242 hQ242
  subst l242 y242 z242
  obtain ⟨rfl, N242q, e242⟩ := hQ242
  have N242 := Fr.app N240 N242q
  refine .st (fun _ => st242.trans) ?_
  show OwnGoW p e below s Z own_EL _ _ _ T242 (mkF m 45 _ [(.int (0 : Int32))])
  refine .ifYes (pc := 45) X242 hx 52 (hb hby d21_45) ((if0 _ _).trans (teq ((by decide) : (0 : Int32) = (0 : Int32))).1) (by decide) (by decide) ?_
  refine .aconstNull X242 hx (hb hby d21_52)  ?_
  exact OwnGoW.ret (s := s) (vm0 := T241.vm) X242 hS_ hk_ e242 hZ (own_hEL hw) CR hx hret hlk rfl (Or.inr (Or.inr (Or.inr (Or.inr ⟨rfl, rfl, rfl⟩)))) (hb hby d21_53) (by show Qrn Z u_Outcome__VALUES u_Outcome_PASSED u_Outcome_FAILED u_Outcome_ABORTED u_Outcome_NOT_FOUND u_Outcome_PASSED_text u_Outcome_PASSED_text_value u_Outcome_FAILED_text u_Outcome_FAILED_text_value u_Outcome_ABORTED_text u_Outcome_ABORTED_text_value u_Outcome_NOT_FOUND_text u_Outcome_NOT_FOUND_text_value kc_u_Outcome__VALUES kc_u_Outcome_PASSED_text_value kc_u_Outcome_FAILED_text_value kc_u_Outcome_ABORTED_text_value kc_u_Outcome_NOT_FOUND_text_value zc fmv h0 n0 _ T242.heap _; rw [e242]; exact ⟨rfl, N242, Kp⟩) (by decide) (by decide)
def Q0 (Z : State) (p1 : Int32) (p2 : Int32) (p3 : Int32) (p4 : Int32) (p5 : Int64) (p6 : Int64) (u_Outcome__VALUES : Addr) (u_Outcome_PASSED : Addr) (u_Outcome_FAILED : Addr) (u_Outcome_ABORTED : Addr) (u_Outcome_NOT_FOUND : Addr) (u_Outcome_PASSED_text : Addr) (u_Outcome_PASSED_text_value : Addr) (u_Outcome_FAILED_text : Addr) (u_Outcome_FAILED_text_value : Addr) (u_Outcome_ABORTED_text : Addr) (u_Outcome_ABORTED_text_value : Addr) (u_Outcome_NOT_FOUND_text : Addr) (u_Outcome_NOT_FOUND_text_value : Addr) (kc_u_Outcome__VALUES : ClassId) (kc_u_Outcome_PASSED_text_value : ClassId) (kc_u_Outcome_FAILED_text_value : ClassId) (kc_u_Outcome_ABORTED_text_value : ClassId) (kc_u_Outcome_NOT_FOUND_text_value : ClassId) (zc : Int32) (fmv : Value) (h0 : Heap) (n0 : Nat) (v : Option Value) (h : Heap) (L : List Loc) : Prop := v = some (.int (1 : Int32)) ∧ Fr n0 L
theorem sgE {p : Program} {l : Launch} {e : Env} {s : State} {m : MethodId} {below : List Frame} {meth : Method} {c : Code} {Z : State} {a0 : Array Value} {T0 : State} {locs : List Loc} {vm1 : Vm} {k1 : Nat} {h1 : Heap} (p1 : Int32) (p2 : Int32) (p3 : Int32) (p4 : Int32) (p5 : Int64) (p6 : Int64) (u_Outcome__VALUES : Addr) (u_Outcome_PASSED : Addr) (u_Outcome_FAILED : Addr) (u_Outcome_ABORTED : Addr) (u_Outcome_NOT_FOUND : Addr) (u_Outcome_PASSED_text : Addr) (u_Outcome_PASSED_text_value : Addr) (u_Outcome_FAILED_text : Addr) (u_Outcome_FAILED_text_value : Addr) (u_Outcome_ABORTED_text : Addr) (u_Outcome_ABORTED_text_value : Addr) (u_Outcome_NOT_FOUND_text : Addr) (u_Outcome_NOT_FOUND_text_value : Addr) (kc_u_Outcome__VALUES : ClassId) (kc_u_Outcome_PASSED_text_value : ClassId) (kc_u_Outcome_FAILED_text_value : ClassId) (kc_u_Outcome_ABORTED_text_value : ClassId) (kc_u_Outcome_NOT_FOUND_text_value : ClassId) (zc : Int32) (fmv : Value) (mo : Int32) (x : Addr) (ln : Int32) (a : Addr) (y : Addr) (ty : Addr) (ky : ClassId) (bl : List Int32) (h0 : Heap) (n0 : Nat) (hw : ∀ d ∈ tables_1, d.before a0 Z = true)
    (X0 : Stand p l e room_1 (s.setVm vm1) m #[(.int p1), (.int p2), (.int p3), (.int p4), (.long p5), (.long p6)] below meth c T0 locs 11 94) (hx : p.tables.exec = Jvm.exec) (hby : c.code = code) (hml : c.maxLocals = 15) (hret : meth.sig.returnType = ret) (hlk : meth.locks = false) (hown : (s.setVm vm1).vm.findClass "com/example/tightrope/tightrope/junit/OutcomeOfTextPinLaw" = some m.cls) (hnm : meth.name = "law") (hZ : Z.Warmed39 (s.setVm vm1).vm) (e0 : T0.heap = h1) (N0 : Fr n0 locs) (Z_ : n0 ≤ h1.size) (hS_ : s.Since vm1 k1) (hk_ : k1 ≤ h1.size) (CR : CHr Z own_EL s.vm s.heap vm1 h1) (S_u_Outcome__VALUES : Sta Z Z.heap "com/example/tightrope/tightrope/junit/Outcome" "$VALUES" "[Lcom/example/tightrope/tightrope/junit/Outcome;" (.ref u_Outcome__VALUES)) (E_u_Outcome__VALUES : Exa Z Z.heap u_Outcome__VALUES "[Lcom/example/tightrope/tightrope/junit/Outcome;") (S_u_Outcome_PASSED : Sta Z Z.heap "com/example/tightrope/tightrope/junit/Outcome" "PASSED" "Lcom/example/tightrope/tightrope/junit/Outcome;" (.ref u_Outcome_PASSED)) (E_u_Outcome_PASSED : Exa Z Z.heap u_Outcome_PASSED "com/example/tightrope/tightrope/junit/Outcome") (S_u_Outcome_FAILED : Sta Z Z.heap "com/example/tightrope/tightrope/junit/Outcome" "FAILED" "Lcom/example/tightrope/tightrope/junit/Outcome;" (.ref u_Outcome_FAILED)) (E_u_Outcome_FAILED : Exa Z Z.heap u_Outcome_FAILED "com/example/tightrope/tightrope/junit/Outcome") (S_u_Outcome_ABORTED : Sta Z Z.heap "com/example/tightrope/tightrope/junit/Outcome" "ABORTED" "Lcom/example/tightrope/tightrope/junit/Outcome;" (.ref u_Outcome_ABORTED)) (E_u_Outcome_ABORTED : Exa Z Z.heap u_Outcome_ABORTED "com/example/tightrope/tightrope/junit/Outcome") (S_u_Outcome_NOT_FOUND : Sta Z Z.heap "com/example/tightrope/tightrope/junit/Outcome" "NOT_FOUND" "Lcom/example/tightrope/tightrope/junit/Outcome;" (.ref u_Outcome_NOT_FOUND)) (E_u_Outcome_NOT_FOUND : Exa Z Z.heap u_Outcome_NOT_FOUND "com/example/tightrope/tightrope/junit/Outcome") (F_u_Outcome_PASSED_text : Fld Z Z.heap u_Outcome_PASSED "com/example/tightrope/tightrope/junit/Outcome" "text" "Ljava/lang/String;" (.ref u_Outcome_PASSED_text)) (E_u_Outcome_PASSED_text : Exa Z Z.heap u_Outcome_PASSED_text "java/lang/String") (F_u_Outcome_PASSED_text_coder : Fld Z Z.heap u_Outcome_PASSED_text "java/lang/String" "coder" "B" (.int (0 : Int32))) (F_u_Outcome_PASSED_text_value : Fld Z Z.heap u_Outcome_PASSED_text "java/lang/String" "value" "[B" (.ref u_Outcome_PASSED_text_value)) (F_u_Outcome_FAILED_text : Fld Z Z.heap u_Outcome_FAILED "com/example/tightrope/tightrope/junit/Outcome" "text" "Ljava/lang/String;" (.ref u_Outcome_FAILED_text)) (E_u_Outcome_FAILED_text : Exa Z Z.heap u_Outcome_FAILED_text "java/lang/String") (F_u_Outcome_FAILED_text_coder : Fld Z Z.heap u_Outcome_FAILED_text "java/lang/String" "coder" "B" (.int (0 : Int32))) (F_u_Outcome_FAILED_text_value : Fld Z Z.heap u_Outcome_FAILED_text "java/lang/String" "value" "[B" (.ref u_Outcome_FAILED_text_value)) (F_u_Outcome_ABORTED_text : Fld Z Z.heap u_Outcome_ABORTED "com/example/tightrope/tightrope/junit/Outcome" "text" "Ljava/lang/String;" (.ref u_Outcome_ABORTED_text)) (E_u_Outcome_ABORTED_text : Exa Z Z.heap u_Outcome_ABORTED_text "java/lang/String") (F_u_Outcome_ABORTED_text_coder : Fld Z Z.heap u_Outcome_ABORTED_text "java/lang/String" "coder" "B" (.int (0 : Int32))) (F_u_Outcome_ABORTED_text_value : Fld Z Z.heap u_Outcome_ABORTED_text "java/lang/String" "value" "[B" (.ref u_Outcome_ABORTED_text_value)) (F_u_Outcome_NOT_FOUND_text : Fld Z Z.heap u_Outcome_NOT_FOUND "com/example/tightrope/tightrope/junit/Outcome" "text" "Ljava/lang/String;" (.ref u_Outcome_NOT_FOUND_text)) (E_u_Outcome_NOT_FOUND_text : Exa Z Z.heap u_Outcome_NOT_FOUND_text "java/lang/String") (F_u_Outcome_NOT_FOUND_text_coder : Fld Z Z.heap u_Outcome_NOT_FOUND_text "java/lang/String" "coder" "B" (.int (0 : Int32))) (F_u_Outcome_NOT_FOUND_text_value : Fld Z Z.heap u_Outcome_NOT_FOUND_text "java/lang/String" "value" "[B" (.ref u_Outcome_NOT_FOUND_text_value)) (V_u_Outcome__VALUES : Arv Z Z.heap u_Outcome__VALUES kc_u_Outcome__VALUES (Jvm.ClassFile.FieldType.object "com/example/tightrope/tightrope/junit/Outcome") (4 : Int32) [(.ref u_Outcome_PASSED), (.ref u_Outcome_FAILED), (.ref u_Outcome_ABORTED), (.ref u_Outcome_NOT_FOUND)] .null) (V_u_Outcome_PASSED_text_value : Arv Z Z.heap u_Outcome_PASSED_text_value kc_u_Outcome_PASSED_text_value Jvm.ClassFile.FieldType.byte (6 : Int32) [(.int (112 : Int32)), (.int (97 : Int32)), (.int (115 : Int32)), (.int (115 : Int32)), (.int (101 : Int32)), (.int (100 : Int32))] (.int (0 : Int32))) (V_u_Outcome_FAILED_text_value : Arv Z Z.heap u_Outcome_FAILED_text_value kc_u_Outcome_FAILED_text_value Jvm.ClassFile.FieldType.byte (6 : Int32) [(.int (102 : Int32)), (.int (97 : Int32)), (.int (105 : Int32)), (.int (108 : Int32)), (.int (101 : Int32)), (.int (100 : Int32))] (.int (0 : Int32))) (V_u_Outcome_ABORTED_text_value : Arv Z Z.heap u_Outcome_ABORTED_text_value kc_u_Outcome_ABORTED_text_value Jvm.ClassFile.FieldType.byte (7 : Int32) [(.int (97 : Int32)), (.int (98 : Int32)), (.int (111 : Int32)), (.int (114 : Int32)), (.int (116 : Int32)), (.int (101 : Int32)), (.int (100 : Int32))] (.int (0 : Int32))) (V_u_Outcome_NOT_FOUND_text_value : Arv Z Z.heap u_Outcome_NOT_FOUND_text_value kc_u_Outcome_NOT_FOUND_text_value Jvm.ClassFile.FieldType.byte (9 : Int32) [(.int (110 : Int32)), (.int (111 : Int32)), (.int (116 : Int32)), (.int (45 : Int32)), (.int (102 : Int32)), (.int (111 : Int32)), (.int (117 : Int32)), (.int (110 : Int32)), (.int (100 : Int32))] (.int (0 : Int32))) (S_CS : Sta Z Z.heap "java/lang/String" "COMPACT_STRINGS" "Z" (.int zc)) (P_CS : ¬ zc = (0 : Int32)) (S_SF : Sta Z Z.heap "jdk/internal/util/Preconditions" "SIOOBE_FORMATTER" "Ljava/util/function/BiFunction;" fmv) (rf_fmv : fmv.isRef = true) (O_ : Old Z n0 h1) (E_y : Exa Z h1 y "java/lang/String") (Fc_y : Fld Z h1 y "java/lang/String" "coder" "B" (.int (0 : Int32))) (Fv_y : Fld Z h1 y "java/lang/String" "value" "[B" (.ref ty)) (V_ty : Arv Z h1 ty ky .byte (Int32.ofNat (List.length bl)) (List.map Value.int bl) (.int (0 : Int32))) (l_bl : List.length bl < 2 ^ 31) :
    OwnGoW p e below s Z own_EL room_1.cells room_1.slots (Q0 Z p1 p2 p3 p4 p5 p6 u_Outcome__VALUES u_Outcome_PASSED u_Outcome_FAILED u_Outcome_ABORTED u_Outcome_NOT_FOUND u_Outcome_PASSED_text u_Outcome_PASSED_text_value u_Outcome_FAILED_text u_Outcome_FAILED_text_value u_Outcome_ABORTED_text u_Outcome_ABORTED_text_value u_Outcome_NOT_FOUND_text u_Outcome_NOT_FOUND_text_value kc_u_Outcome__VALUES kc_u_Outcome_PASSED_text_value kc_u_Outcome_FAILED_text_value kc_u_Outcome_ABORTED_text_value kc_u_Outcome_NOT_FOUND_text_value zc fmv h0 n0) T0 (mkF m 295 #[.val (.int p1), .val (.int p2), .val (.int p3), .val (.int p4), .val (.long p5), .second, .val (.long p6), .second, .val (.int mo), .val (.ref x), .val (.int ln), .val (.ref a), .val (.ref y), .unset, .unset] []) := by
  show OwnGoW p e below s Z own_EL _ _ _ T0 (mkF m 295 _ [])
  refine .aload X0 hx (hb hby at_295) rfl rfl ?_
  obtain ⟨wv, hwv⟩ : ∃ z : Value, z = (own_res bl u_Outcome_PASSED u_Outcome_FAILED u_Outcome_ABORTED u_Outcome_NOT_FOUND) := ⟨_, rfl⟩
  have rf_wv : wv.isRef = true := hwv ▸ own_rr _ _ _ _ _
  obtain ⟨_, _, ⟨T274, L274, k274, n274⟩, -, X274, ⟨Lc274, hQ274, l274, y274, z274⟩, st274⟩ := Jvm.LawKit.callS X0 hx (y := (⟨"com/example/tightrope/tightrope/junit/Outcome", "ofText", "(Ljava/lang/String;)Lcom/example/tightrope/tightrope/junit/Outcome;"⟩ : MethodName)) hown (mvT hZ (W_ hw 78 rfl)) (mvT hZ (W_ hw 79 rfl)) (mvT hZ (W_ hw 80 rfl)) (mvT hZ (W_ hw 81 rfl)) (by decide) (backOf (W := 0) (rmof l Z a0 hw [] y ty ky bl u_Outcome__VALUES u_Outcome_PASSED u_Outcome_FAILED u_Outcome_ABORTED u_Outcome_NOT_FOUND u_Outcome_PASSED_text u_Outcome_PASSED_text_value u_Outcome_FAILED_text u_Outcome_FAILED_text_value u_Outcome_ABORTED_text u_Outcome_ABORTED_text_value u_Outcome_NOT_FOUND_text u_Outcome_NOT_FOUND_text_value kc_u_Outcome__VALUES kc_u_Outcome_PASSED_text_value kc_u_Outcome_FAILED_text_value kc_u_Outcome_ABORTED_text_value kc_u_Outcome_NOT_FOUND_text_value zc fmv h1 n0 Z_ O_ S_u_Outcome__VALUES E_u_Outcome__VALUES S_u_Outcome_PASSED E_u_Outcome_PASSED S_u_Outcome_FAILED E_u_Outcome_FAILED S_u_Outcome_ABORTED E_u_Outcome_ABORTED S_u_Outcome_NOT_FOUND E_u_Outcome_NOT_FOUND F_u_Outcome_PASSED_text E_u_Outcome_PASSED_text F_u_Outcome_PASSED_text_coder F_u_Outcome_PASSED_text_value F_u_Outcome_FAILED_text E_u_Outcome_FAILED_text F_u_Outcome_FAILED_text_coder F_u_Outcome_FAILED_text_value F_u_Outcome_ABORTED_text E_u_Outcome_ABORTED_text F_u_Outcome_ABORTED_text_coder F_u_Outcome_ABORTED_text_value F_u_Outcome_NOT_FOUND_text E_u_Outcome_NOT_FOUND_text F_u_Outcome_NOT_FOUND_text_coder F_u_Outcome_NOT_FOUND_text_value V_u_Outcome__VALUES V_u_Outcome_PASSED_text_value V_u_Outcome_FAILED_text_value V_u_Outcome_ABORTED_text_value V_u_Outcome_NOT_FOUND_text_value S_CS P_CS S_SF rf_fmv E_y Fc_y Fv_y V_ty l_bl) hZ (W_ hw 81 rfl) (W_ hw 80 rfl) (by decide) (by decide)) (g := (mkF m 297 #[.val (.int p1), .val (.int p2), .val (.int p3), .val (.int p4), .val (.long p5), .second, .val (.long p6), .second, .val (.int mo), .val (.ref x), .val (.int ln), .val (.ref a), .val (.ref y), .unset, .unset] [(.ref y)])) rfl (by rw [hml]; rfl) (argsL := [(.ref y)]) (rest := []) (lenOf pd_15 rfl) rfl (Nat.le_of_eq rfl) (hb hby at_297) (fun _ _ => ⟨rfl, e0, (by decide : 11 + 1 ≤ _), (by decide : 94 + 4 ≤ _)⟩)
  dsimp only [Pt.U, Pt.locs, Pt.cells, Pt.slots] at X274 l274 y274 z274 st274 hQ274
  subst l274 y274 z274
  obtain ⟨hv274, N274q, K274⟩ := hQ274
  have N274 := Fr.app N0 N274q
  rw [← hwv] at hv274
  subst hv274
  have Z_ : n0 ≤ T274.heap.size := Nat.le_trans Z_ K274.1
  have E_y := E_y.keep K274
  have Fc_y := Fc_y.keep K274 nin0
  have Fv_y := Fv_y.keep K274 nin0
  have V_ty := V_ty.keep K274 nin0
  have O_ := O_.keep K274 all0
  have CR := CR.trans (CHr.keep K274 sf0 CR.1)
  have hk_ := Nat.le_trans hk_ K274.1
  refine .st st274 ?_
  show OwnGoW p e below s Z own_EL _ _ _ T274 (mkF m 300 _ [wv])
  refine .astore X274 hx (hb hby at_300) rf_wv (L' := #[.val (.int p1), .val (.int p2), .val (.int p3), .val (.int p4), .val (.long p5), .second, .val (.long p6), .second, .val (.int mo), .val (.ref x), .val (.int ln), .val (.ref a), .val (.ref y), .val wv, .unset]) (by cases wv <;> first | rfl | ((simp [Value.isRef] at rf_wv; done))) ?_
  refine .aload X274 hx (hb hby at_302) rfl rfl ?_
  obtain ⟨_, _, ⟨T275, L275, k275, n275⟩, -, X275, hS275, hg275, ⟨Lc275, hQ275, l275, y275, z275, CN275⟩, st275⟩ := callSS (s := s.setVm vm1) X274 hx (y := (⟨"com/example/tightrope/tightrope/junit/OutcomeOfTextPinLaw", "ref", "(Ljava/lang/String;)Lcom/example/tightrope/tightrope/junit/Outcome;"⟩ : MethodName)) hown (mvT hZ (W_ hw 112 rfl)) (mvT hZ (W_ hw 113 rfl)) (mvT hZ (W_ hw 26 rfl)) (mvT hZ (W_ hw 114 rfl)) (by decide) (backOfSH (s := s) (vm0 := vm1) (W := 0) (rmrf l Z a0 hw [] y ty ky bl u_Outcome__VALUES u_Outcome_PASSED u_Outcome_FAILED u_Outcome_ABORTED u_Outcome_NOT_FOUND u_Outcome_PASSED_text u_Outcome_PASSED_text_value u_Outcome_FAILED_text u_Outcome_FAILED_text_value u_Outcome_ABORTED_text u_Outcome_ABORTED_text_value u_Outcome_NOT_FOUND_text u_Outcome_NOT_FOUND_text_value kc_u_Outcome__VALUES kc_u_Outcome_PASSED_text_value kc_u_Outcome_FAILED_text_value kc_u_Outcome_ABORTED_text_value kc_u_Outcome_NOT_FOUND_text_value zc fmv T274.heap n0 Z_ O_ S_u_Outcome__VALUES E_u_Outcome__VALUES S_u_Outcome_PASSED E_u_Outcome_PASSED S_u_Outcome_FAILED E_u_Outcome_FAILED S_u_Outcome_ABORTED E_u_Outcome_ABORTED S_u_Outcome_NOT_FOUND E_u_Outcome_NOT_FOUND F_u_Outcome_PASSED_text E_u_Outcome_PASSED_text F_u_Outcome_PASSED_text_coder F_u_Outcome_PASSED_text_value F_u_Outcome_FAILED_text E_u_Outcome_FAILED_text F_u_Outcome_FAILED_text_coder F_u_Outcome_FAILED_text_value F_u_Outcome_ABORTED_text E_u_Outcome_ABORTED_text F_u_Outcome_ABORTED_text_coder F_u_Outcome_ABORTED_text_value F_u_Outcome_NOT_FOUND_text E_u_Outcome_NOT_FOUND_text F_u_Outcome_NOT_FOUND_text_coder F_u_Outcome_NOT_FOUND_text_value V_u_Outcome__VALUES V_u_Outcome_PASSED_text_value V_u_Outcome_FAILED_text_value V_u_Outcome_ABORTED_text_value V_u_Outcome_NOT_FOUND_text_value S_CS P_CS S_SF rf_fmv E_y Fc_y Fv_y V_ty l_bl) hZ (W_ hw 114 rfl) (W_ hw 26 rfl) (by decide) (by decide) (own_hEL hw) CR.1) (g := (mkF m 304 #[.val (.int p1), .val (.int p2), .val (.int p3), .val (.int p4), .val (.long p5), .second, .val (.long p6), .second, .val (.int mo), .val (.ref x), .val (.int ln), .val (.ref a), .val (.ref y), .val wv, .unset] [(.ref y)])) rfl (by rw [hml]; rfl) (argsL := [(.ref y)]) (rest := []) (lenOf pd_15 rfl) rfl (Nat.le_of_eq rfl) (hb hby at_304) (fun _ _ => ⟨rfl, rfl, (by decide : 12 + 8 ≤ _), (by decide : 98 + 200 ≤ _)⟩)
  dsimp only [Pt.U, Pt.locs, Pt.cells, Pt.slots] at X275 hS275 hg275 l275 y275 z275 CN275 st275 hQ275
  subst l275 y275 z275
  obtain ⟨X275, hS_, hZ, hown⟩ := rebS hS_ (show _ ≤ T274.heap.size by rw [(rfl : T274.heap = T274.heap)]; exact hk_) X275 hS275 hg275 hZ hown
  obtain ⟨hv275, N275q, K275⟩ := hQ275
  have N275 := Fr.app N274 N275q
  rw [← hwv] at hv275
  subst hv275
  have Z_ : n0 ≤ T275.heap.size := Nat.le_trans Z_ K275.1
  have E_y := E_y.keep K275
  have Fc_y := Fc_y.keep K275 nin0
  have Fv_y := Fv_y.keep K275 nin0
  have V_ty := V_ty.keep K275 nin0
  have O_ := O_.keep K275 all0
  have CR := CR.trans CN275
  have hk_ := Nat.le_refl T275.heap.size
  refine .st (fun _ => st275.trans) ?_
  show OwnGoW p e below s Z own_EL _ _ _ T275 (mkF m 307 _ [wv])
  refine .astore X275 hx (hb hby at_307) rf_wv (L' := #[.val (.int p1), .val (.int p2), .val (.int p3), .val (.int p4), .val (.long p5), .second, .val (.long p6), .second, .val (.int mo), .val (.ref x), .val (.int ln), .val (.ref a), .val (.ref y), .val wv, .val wv]) (by cases wv <;> first | rfl | ((simp [Value.isRef] at rf_wv; done))) ?_
  refine .aload X275 hx (hb hby at_309) rfl rf_wv ?_
  refine .aload X275 hx (hb hby at_311) rfl rf_wv ?_
  refine .st (fun _ => Jvm.RoadKit.acmp (g := (mkF m 313 #[.val (.int p1), .val (.int p2), .val (.int p3), .val (.int p4), .val (.long p5), .second, .val (.long p6), .second, .val (.int mo), .val (.ref x), .val (.int ln), .val (.ref a), .val (.ref y), .val wv, .val wv] [wv, wv])) X275 hx rfl rf_wv rf_wv (pc0 := 313) (pc' := 316) (same := true) rfl (hb hby at_313) rfl (decide_eq_true rfl) (by decide) (by decide)) ?_
  show OwnGoW p e below s Z own_EL _ _ _ T275 (mkF m 316 _ [])
  refine .iconst X275 hx (hb hby at_316) own_ki1 ?_
  refine .goto (pc := 317) X275 hx 321 (hb hby at_317) (by decide) (by decide) ?_
  exact OwnGoW.retN (s := s) (vm0 := T275.vm) X275 hS_ hk_ rfl hZ (own_hEL hw) CR hx (t := .boolean) hret hlk (by simp) (hb hby at_321) (by show Q0 Z p1 p2 p3 p4 p5 p6 u_Outcome__VALUES u_Outcome_PASSED u_Outcome_FAILED u_Outcome_ABORTED u_Outcome_NOT_FOUND u_Outcome_PASSED_text u_Outcome_PASSED_text_value u_Outcome_FAILED_text u_Outcome_FAILED_text_value u_Outcome_ABORTED_text u_Outcome_ABORTED_text_value u_Outcome_NOT_FOUND_text u_Outcome_NOT_FOUND_text_value kc_u_Outcome__VALUES kc_u_Outcome_PASSED_text_value kc_u_Outcome_FAILED_text_value kc_u_Outcome_ABORTED_text_value kc_u_Outcome_NOT_FOUND_text_value zc fmv h0 n0 _ T275.heap _; exact ⟨rfl, N275⟩) (by decide) (by decide)
theorem sgD {p : Program} {l : Launch} {e : Env} {s : State} {m : MethodId} {below : List Frame} {meth : Method} {c : Code} {Z : State} {a0 : Array Value} {T0 : State} {locs : List Loc} {vm1 : Vm} {k1 : Nat} {h1 : Heap} (p1 : Int32) (p2 : Int32) (p3 : Int32) (p4 : Int32) (p5 : Int64) (p6 : Int64) (u_Outcome__VALUES : Addr) (u_Outcome_PASSED : Addr) (u_Outcome_FAILED : Addr) (u_Outcome_ABORTED : Addr) (u_Outcome_NOT_FOUND : Addr) (u_Outcome_PASSED_text : Addr) (u_Outcome_PASSED_text_value : Addr) (u_Outcome_FAILED_text : Addr) (u_Outcome_FAILED_text_value : Addr) (u_Outcome_ABORTED_text : Addr) (u_Outcome_ABORTED_text_value : Addr) (u_Outcome_NOT_FOUND_text : Addr) (u_Outcome_NOT_FOUND_text_value : Addr) (kc_u_Outcome__VALUES : ClassId) (kc_u_Outcome_PASSED_text_value : ClassId) (kc_u_Outcome_FAILED_text_value : ClassId) (kc_u_Outcome_ABORTED_text_value : ClassId) (kc_u_Outcome_NOT_FOUND_text_value : ClassId) (zc : Int32) (fmv : Value) (mo : Int32) (x : Addr) (ln : Int32) (a : Addr) (ka : ClassId) (c0 : Int32) (c1 : Int32) (c2 : Int32) (c3 : Int32) (c4 : Int32) (c5 : Int32) (c6 : Int32) (c7 : Int32) (c8 : Int32) (c9 : Int32) (h0 : Heap) (n0 : Nat) (hw : ∀ d ∈ tables_1, d.before a0 Z = true)
    (X0 : Stand p l e room_1 (s.setVm vm1) m #[(.int p1), (.int p2), (.int p3), (.int p4), (.long p5), (.long p6)] below meth c T0 locs 5 54) (hx : p.tables.exec = Jvm.exec) (hby : c.code = code) (hml : c.maxLocals = 15) (hret : meth.sig.returnType = ret) (hlk : meth.locks = false) (hown : (s.setVm vm1).vm.findClass "com/example/tightrope/tightrope/junit/OutcomeOfTextPinLaw" = some m.cls) (hnm : meth.name = "law") (hZ : Z.Warmed39 (s.setVm vm1).vm) (e0 : T0.heap = h1) (N0 : Fr n0 locs) (Z_ : n0 ≤ h1.size) (hS_ : s.Since vm1 k1) (hk_ : k1 ≤ h1.size) (CR : CHr Z own_EL s.vm s.heap vm1 h1) (S_u_Outcome__VALUES : Sta Z Z.heap "com/example/tightrope/tightrope/junit/Outcome" "$VALUES" "[Lcom/example/tightrope/tightrope/junit/Outcome;" (.ref u_Outcome__VALUES)) (E_u_Outcome__VALUES : Exa Z Z.heap u_Outcome__VALUES "[Lcom/example/tightrope/tightrope/junit/Outcome;") (S_u_Outcome_PASSED : Sta Z Z.heap "com/example/tightrope/tightrope/junit/Outcome" "PASSED" "Lcom/example/tightrope/tightrope/junit/Outcome;" (.ref u_Outcome_PASSED)) (E_u_Outcome_PASSED : Exa Z Z.heap u_Outcome_PASSED "com/example/tightrope/tightrope/junit/Outcome") (S_u_Outcome_FAILED : Sta Z Z.heap "com/example/tightrope/tightrope/junit/Outcome" "FAILED" "Lcom/example/tightrope/tightrope/junit/Outcome;" (.ref u_Outcome_FAILED)) (E_u_Outcome_FAILED : Exa Z Z.heap u_Outcome_FAILED "com/example/tightrope/tightrope/junit/Outcome") (S_u_Outcome_ABORTED : Sta Z Z.heap "com/example/tightrope/tightrope/junit/Outcome" "ABORTED" "Lcom/example/tightrope/tightrope/junit/Outcome;" (.ref u_Outcome_ABORTED)) (E_u_Outcome_ABORTED : Exa Z Z.heap u_Outcome_ABORTED "com/example/tightrope/tightrope/junit/Outcome") (S_u_Outcome_NOT_FOUND : Sta Z Z.heap "com/example/tightrope/tightrope/junit/Outcome" "NOT_FOUND" "Lcom/example/tightrope/tightrope/junit/Outcome;" (.ref u_Outcome_NOT_FOUND)) (E_u_Outcome_NOT_FOUND : Exa Z Z.heap u_Outcome_NOT_FOUND "com/example/tightrope/tightrope/junit/Outcome") (F_u_Outcome_PASSED_text : Fld Z Z.heap u_Outcome_PASSED "com/example/tightrope/tightrope/junit/Outcome" "text" "Ljava/lang/String;" (.ref u_Outcome_PASSED_text)) (E_u_Outcome_PASSED_text : Exa Z Z.heap u_Outcome_PASSED_text "java/lang/String") (F_u_Outcome_PASSED_text_coder : Fld Z Z.heap u_Outcome_PASSED_text "java/lang/String" "coder" "B" (.int (0 : Int32))) (F_u_Outcome_PASSED_text_value : Fld Z Z.heap u_Outcome_PASSED_text "java/lang/String" "value" "[B" (.ref u_Outcome_PASSED_text_value)) (F_u_Outcome_FAILED_text : Fld Z Z.heap u_Outcome_FAILED "com/example/tightrope/tightrope/junit/Outcome" "text" "Ljava/lang/String;" (.ref u_Outcome_FAILED_text)) (E_u_Outcome_FAILED_text : Exa Z Z.heap u_Outcome_FAILED_text "java/lang/String") (F_u_Outcome_FAILED_text_coder : Fld Z Z.heap u_Outcome_FAILED_text "java/lang/String" "coder" "B" (.int (0 : Int32))) (F_u_Outcome_FAILED_text_value : Fld Z Z.heap u_Outcome_FAILED_text "java/lang/String" "value" "[B" (.ref u_Outcome_FAILED_text_value)) (F_u_Outcome_ABORTED_text : Fld Z Z.heap u_Outcome_ABORTED "com/example/tightrope/tightrope/junit/Outcome" "text" "Ljava/lang/String;" (.ref u_Outcome_ABORTED_text)) (E_u_Outcome_ABORTED_text : Exa Z Z.heap u_Outcome_ABORTED_text "java/lang/String") (F_u_Outcome_ABORTED_text_coder : Fld Z Z.heap u_Outcome_ABORTED_text "java/lang/String" "coder" "B" (.int (0 : Int32))) (F_u_Outcome_ABORTED_text_value : Fld Z Z.heap u_Outcome_ABORTED_text "java/lang/String" "value" "[B" (.ref u_Outcome_ABORTED_text_value)) (F_u_Outcome_NOT_FOUND_text : Fld Z Z.heap u_Outcome_NOT_FOUND "com/example/tightrope/tightrope/junit/Outcome" "text" "Ljava/lang/String;" (.ref u_Outcome_NOT_FOUND_text)) (E_u_Outcome_NOT_FOUND_text : Exa Z Z.heap u_Outcome_NOT_FOUND_text "java/lang/String") (F_u_Outcome_NOT_FOUND_text_coder : Fld Z Z.heap u_Outcome_NOT_FOUND_text "java/lang/String" "coder" "B" (.int (0 : Int32))) (F_u_Outcome_NOT_FOUND_text_value : Fld Z Z.heap u_Outcome_NOT_FOUND_text "java/lang/String" "value" "[B" (.ref u_Outcome_NOT_FOUND_text_value)) (V_u_Outcome__VALUES : Arv Z Z.heap u_Outcome__VALUES kc_u_Outcome__VALUES (Jvm.ClassFile.FieldType.object "com/example/tightrope/tightrope/junit/Outcome") (4 : Int32) [(.ref u_Outcome_PASSED), (.ref u_Outcome_FAILED), (.ref u_Outcome_ABORTED), (.ref u_Outcome_NOT_FOUND)] .null) (V_u_Outcome_PASSED_text_value : Arv Z Z.heap u_Outcome_PASSED_text_value kc_u_Outcome_PASSED_text_value Jvm.ClassFile.FieldType.byte (6 : Int32) [(.int (112 : Int32)), (.int (97 : Int32)), (.int (115 : Int32)), (.int (115 : Int32)), (.int (101 : Int32)), (.int (100 : Int32))] (.int (0 : Int32))) (V_u_Outcome_FAILED_text_value : Arv Z Z.heap u_Outcome_FAILED_text_value kc_u_Outcome_FAILED_text_value Jvm.ClassFile.FieldType.byte (6 : Int32) [(.int (102 : Int32)), (.int (97 : Int32)), (.int (105 : Int32)), (.int (108 : Int32)), (.int (101 : Int32)), (.int (100 : Int32))] (.int (0 : Int32))) (V_u_Outcome_ABORTED_text_value : Arv Z Z.heap u_Outcome_ABORTED_text_value kc_u_Outcome_ABORTED_text_value Jvm.ClassFile.FieldType.byte (7 : Int32) [(.int (97 : Int32)), (.int (98 : Int32)), (.int (111 : Int32)), (.int (114 : Int32)), (.int (116 : Int32)), (.int (101 : Int32)), (.int (100 : Int32))] (.int (0 : Int32))) (V_u_Outcome_NOT_FOUND_text_value : Arv Z Z.heap u_Outcome_NOT_FOUND_text_value kc_u_Outcome_NOT_FOUND_text_value Jvm.ClassFile.FieldType.byte (9 : Int32) [(.int (110 : Int32)), (.int (111 : Int32)), (.int (116 : Int32)), (.int (45 : Int32)), (.int (102 : Int32)), (.int (111 : Int32)), (.int (117 : Int32)), (.int (110 : Int32)), (.int (100 : Int32))] (.int (0 : Int32))) (S_CS : Sta Z Z.heap "java/lang/String" "COMPACT_STRINGS" "Z" (.int zc)) (P_CS : ¬ zc = (0 : Int32)) (S_SF : Sta Z Z.heap "jdk/internal/util/Preconditions" "SIOOBE_FORMATTER" "Ljava/util/function/BiFunction;" fmv) (rf_fmv : fmv.isRef = true) (V_a : Arv Z h1 a ka .char (10 : Int32) [(.int c0), (.int c1), (.int c2), (.int c3), (.int c4), (.int c5), (.int c6), (.int c7), (.int c8), (.int c9)] (.int (0 : Int32))) (O_ : Old Z n0 h1) (hn : ¬ ln < (0 : Int32)) (hn' : ln < (11 : Int32)) (hp_c0 : ¬ c0 < 0 ∧ ¬ (255 : Int32) < c0) (hp_c1 : ¬ c1 < 0 ∧ ¬ (255 : Int32) < c1) (hp_c2 : ¬ c2 < 0 ∧ ¬ (255 : Int32) < c2) (hp_c3 : ¬ c3 < 0 ∧ ¬ (255 : Int32) < c3) (hp_c4 : ¬ c4 < 0 ∧ ¬ (255 : Int32) < c4) (hp_c5 : ¬ c5 < 0 ∧ ¬ (255 : Int32) < c5) (hp_c6 : ¬ c6 < 0 ∧ ¬ (255 : Int32) < c6) (hp_c7 : ¬ c7 < 0 ∧ ¬ (255 : Int32) < c7) (hp_c8 : ¬ c8 < 0 ∧ ¬ (255 : Int32) < c8) (hp_c9 : ¬ c9 < 0 ∧ ¬ (255 : Int32) < c9) :
    OwnGoW p e below s Z own_EL room_1.cells room_1.slots (Q0 Z p1 p2 p3 p4 p5 p6 u_Outcome__VALUES u_Outcome_PASSED u_Outcome_FAILED u_Outcome_ABORTED u_Outcome_NOT_FOUND u_Outcome_PASSED_text u_Outcome_PASSED_text_value u_Outcome_FAILED_text u_Outcome_FAILED_text_value u_Outcome_ABORTED_text u_Outcome_ABORTED_text_value u_Outcome_NOT_FOUND_text u_Outcome_NOT_FOUND_text_value kc_u_Outcome__VALUES kc_u_Outcome_PASSED_text_value kc_u_Outcome_FAILED_text_value kc_u_Outcome_ABORTED_text_value kc_u_Outcome_NOT_FOUND_text_value zc fmv h0 n0) T0 (mkF m 269 #[.val (.int p1), .val (.int p2), .val (.int p3), .val (.int p4), .val (.long p5), .second, .val (.long p6), .second, .val (.int mo), .val (.ref x), .val (.int ln), .val (.ref a), .unset, .unset, .unset] []) := by
  show OwnGoW p e below s Z own_EL _ _ _ T0 (mkF m 269 _ [])
  refine .iload X0 hx (hb hby at_269) rfl ?_
  refine .aload X0 hx (hb hby at_271) rfl rfl ?_
  obtain ⟨_, _, ⟨T271, L271, k271, n271⟩, -, X271, hS271, hg271, ⟨Lc271, hQ271, l271, y271, z271, CN271⟩, st271⟩ := callSS (s := s.setVm vm1) X0 hx (y := (⟨"com/example/tightrope/tightrope/junit/OutcomeOfTextPinLaw", "make", "(I[C)Ljava/lang/String;"⟩ : MethodName)) hown (mvT hZ (W_ hw 54 rfl)) (mvT hZ (W_ hw 55 rfl)) (mvT hZ (W_ hw 26 rfl)) (mvT hZ (W_ hw 56 rfl)) (by decide) (backOfSH (s := s) (vm0 := vm1) (W := 0) (rmmk l Z a0 hw [] ln a ka c0 c1 c2 c3 c4 c5 c6 c7 c8 c9 zc h1 n0 Z_ O_ S_CS P_CS hn hn' V_a hp_c0 hp_c1 hp_c2 hp_c3 hp_c4 hp_c5 hp_c6 hp_c7 hp_c8 hp_c9) hZ (W_ hw 56 rfl) (W_ hw 26 rfl) (by decide) (by decide) (own_hEL hw) CR.1) (g := (mkF m 273 #[.val (.int p1), .val (.int p2), .val (.int p3), .val (.int p4), .val (.long p5), .second, .val (.long p6), .second, .val (.int mo), .val (.ref x), .val (.int ln), .val (.ref a), .unset, .unset, .unset] [(.ref a), (.int ln)])) rfl (by rw [hml]; rfl) (argsL := [(.int ln), (.ref a)]) (rest := []) (lenOf pd_14 rfl) rfl (Nat.le_of_eq rfl) (hb hby at_273) (fun _ _ => ⟨rfl, e0, (by decide : 5 + 6 ≤ _), (by decide : 54 + 40 ≤ _)⟩)
  dsimp only [Pt.U, Pt.locs, Pt.cells, Pt.slots] at X271 hS271 hg271 l271 y271 z271 CN271 st271 hQ271
  subst l271 y271 z271
  obtain ⟨X271, hS_, hZ, hown⟩ := rebS hS_ (show _ ≤ T0.heap.size by rw [(e0 : T0.heap = h1)]; exact hk_) X271 hS271 hg271 hZ hown
  obtain ⟨y271, t271, kb271, bl271, rfl, N271q, K271, E271, Fc271, Fv271, V271, lb271⟩ := hQ271
  have N271 := Fr.app N0 N271q
  have Z_ : n0 ≤ T271.heap.size := Nat.le_trans Z_ K271.1
  have V_a := V_a.keep K271 nin0
  have O_ := O_.keep K271 all0
  have CR := CR.trans CN271
  have hk_ := Nat.le_refl T271.heap.size
  refine .st (fun _ => st271.trans) ?_
  show OwnGoW p e below s Z own_EL _ _ _ T271 (mkF m 276 _ [(.ref y271)])
  refine .astore X271 hx (hb hby at_276) rfl (L' := #[.val (.int p1), .val (.int p2), .val (.int p3), .val (.int p4), .val (.long p5), .second, .val (.long p6), .second, .val (.int mo), .val (.ref x), .val (.int ln), .val (.ref a), .val (.ref y271), .unset, .unset]) rfl ?_
  refine .iload X271 hx (hb hby at_278) rfl ?_
  refine .bipush X271 hx (hb hby at_280) own_kb7 ?_
  by_cases h7 : mo = (7 : Int32)
  · refine .icmpNo X271 hx (hb hby at_282) (teq (h7 : mo = (7 : Int32))).2 ?_
    refine .iloadN X271 hx (hb hby at_285) rfl ?_
    refine .bipush X271 hx (hb hby at_286) own_kb32 ?_
    refine .st (fun _ => XS.iand X271.here hx rfl (hb hby at_288) rfl) ?_
    show OwnGoW p e below s Z own_EL _ _ _ T271 (mkF m 289 _ [(.int (p1 &&& (32 : Int32)))])
    by_cases h32 : (p1 &&& (32 : Int32)) = (0 : Int32)
    · refine .ifYes (pc := 289) X271 hx 295 (hb hby at_289) ((if0 _ _).trans (teq (h32 : (p1 &&& (32 : Int32)) = (0 : Int32))).1) (by decide) (by decide) ?_
      exact sgE p1 p2 p3 p4 p5 p6 u_Outcome__VALUES u_Outcome_PASSED u_Outcome_FAILED u_Outcome_ABORTED u_Outcome_NOT_FOUND u_Outcome_PASSED_text u_Outcome_PASSED_text_value u_Outcome_FAILED_text u_Outcome_FAILED_text_value u_Outcome_ABORTED_text u_Outcome_ABORTED_text_value u_Outcome_NOT_FOUND_text u_Outcome_NOT_FOUND_text_value kc_u_Outcome__VALUES kc_u_Outcome_PASSED_text_value kc_u_Outcome_FAILED_text_value kc_u_Outcome_ABORTED_text_value kc_u_Outcome_NOT_FOUND_text_value zc fmv mo x ln a y271 t271 kb271 bl271 h0 n0 hw X271 hx hby hml hret hlk hown hnm hZ rfl N271 Z_ hS_ hk_ CR S_u_Outcome__VALUES E_u_Outcome__VALUES S_u_Outcome_PASSED E_u_Outcome_PASSED S_u_Outcome_FAILED E_u_Outcome_FAILED S_u_Outcome_ABORTED E_u_Outcome_ABORTED S_u_Outcome_NOT_FOUND E_u_Outcome_NOT_FOUND F_u_Outcome_PASSED_text E_u_Outcome_PASSED_text F_u_Outcome_PASSED_text_coder F_u_Outcome_PASSED_text_value F_u_Outcome_FAILED_text E_u_Outcome_FAILED_text F_u_Outcome_FAILED_text_coder F_u_Outcome_FAILED_text_value F_u_Outcome_ABORTED_text E_u_Outcome_ABORTED_text F_u_Outcome_ABORTED_text_coder F_u_Outcome_ABORTED_text_value F_u_Outcome_NOT_FOUND_text E_u_Outcome_NOT_FOUND_text F_u_Outcome_NOT_FOUND_text_coder F_u_Outcome_NOT_FOUND_text_value V_u_Outcome__VALUES V_u_Outcome_PASSED_text_value V_u_Outcome_FAILED_text_value V_u_Outcome_ABORTED_text_value V_u_Outcome_NOT_FOUND_text_value S_CS P_CS S_SF rf_fmv O_ E271 Fc271 Fv271 V271 lb271
    · refine .ifNo X271 hx (hb hby at_289) ((if0 _ _).trans (feq (h32 : ¬ ((p1 &&& (32 : Int32)) = (0 : Int32)))).1) ?_
      refine .aconstNull X271 hx (hb hby at_292)  ?_
      refine .astore X271 hx (hb hby at_293) rfl (L' := #[.val (.int p1), .val (.int p2), .val (.int p3), .val (.int p4), .val (.long p5), .second, .val (.long p6), .second, .val (.int mo), .val (.ref x), .val (.int ln), .val (.ref a), .val .null, .unset, .unset]) rfl ?_
      refine .aload X271 hx (hb hby at_295) rfl rfl ?_
      obtain ⟨_, _, ⟨T272, L272, k272, n272⟩, -, X272, ⟨Lc272, hQ272, l272, y272, z272⟩, st272⟩ := Jvm.LawKit.callS X271 hx (y := (⟨"com/example/tightrope/tightrope/junit/Outcome", "ofText", "(Ljava/lang/String;)Lcom/example/tightrope/tightrope/junit/Outcome;"⟩ : MethodName)) hown (mvT hZ (W_ hw 78 rfl)) (mvT hZ (W_ hw 79 rfl)) (mvT hZ (W_ hw 80 rfl)) (mvT hZ (W_ hw 81 rfl)) (by decide) (backOf (W := 0) (rmon l Z a0 hw [] u_Outcome__VALUES u_Outcome_PASSED u_Outcome_FAILED u_Outcome_ABORTED u_Outcome_NOT_FOUND u_Outcome_PASSED_text u_Outcome_PASSED_text_value u_Outcome_FAILED_text u_Outcome_FAILED_text_value u_Outcome_ABORTED_text u_Outcome_ABORTED_text_value u_Outcome_NOT_FOUND_text u_Outcome_NOT_FOUND_text_value kc_u_Outcome__VALUES kc_u_Outcome_PASSED_text_value kc_u_Outcome_FAILED_text_value kc_u_Outcome_ABORTED_text_value kc_u_Outcome_NOT_FOUND_text_value zc fmv T271.heap n0 Z_ O_ S_u_Outcome__VALUES E_u_Outcome__VALUES S_u_Outcome_PASSED E_u_Outcome_PASSED S_u_Outcome_FAILED E_u_Outcome_FAILED S_u_Outcome_ABORTED E_u_Outcome_ABORTED S_u_Outcome_NOT_FOUND E_u_Outcome_NOT_FOUND F_u_Outcome_PASSED_text E_u_Outcome_PASSED_text F_u_Outcome_PASSED_text_coder F_u_Outcome_PASSED_text_value F_u_Outcome_FAILED_text E_u_Outcome_FAILED_text F_u_Outcome_FAILED_text_coder F_u_Outcome_FAILED_text_value F_u_Outcome_ABORTED_text E_u_Outcome_ABORTED_text F_u_Outcome_ABORTED_text_coder F_u_Outcome_ABORTED_text_value F_u_Outcome_NOT_FOUND_text E_u_Outcome_NOT_FOUND_text F_u_Outcome_NOT_FOUND_text_coder F_u_Outcome_NOT_FOUND_text_value V_u_Outcome__VALUES V_u_Outcome_PASSED_text_value V_u_Outcome_FAILED_text_value V_u_Outcome_ABORTED_text_value V_u_Outcome_NOT_FOUND_text_value S_CS P_CS S_SF rf_fmv) hZ (W_ hw 81 rfl) (W_ hw 80 rfl) (by decide) (by decide)) (g := (mkF m 297 #[.val (.int p1), .val (.int p2), .val (.int p3), .val (.int p4), .val (.long p5), .second, .val (.long p6), .second, .val (.int mo), .val (.ref x), .val (.int ln), .val (.ref a), .val .null, .unset, .unset] [.null])) rfl (by rw [hml]; rfl) (argsL := [.null]) (rest := []) (lenOf pd_15 rfl) rfl (Nat.le_of_eq rfl) (hb hby at_297) (fun _ _ => ⟨rfl, rfl, (by decide : 11 + 1 ≤ _), (by decide : 94 + 4 ≤ _)⟩)
      dsimp only [Pt.U, Pt.locs, Pt.cells, Pt.slots] at X272 l272 y272 z272 st272 hQ272
      subst l272 y272 z272
      obtain ⟨rfl, N272q, K272⟩ := hQ272
      have N272 := Fr.app N271 N272q
      have Z_ : n0 ≤ T272.heap.size := Nat.le_trans Z_ K272.1
      have O_ := O_.keep K272 all0
      have CR := CR.trans (CHr.keep K272 sf0 CR.1)
      have hk_ := Nat.le_trans hk_ K272.1
      refine .st st272 ?_
      show OwnGoW p e below s Z own_EL _ _ _ T272 (mkF m 300 _ [.null])
      refine .astore X272 hx (hb hby at_300) rfl (L' := #[.val (.int p1), .val (.int p2), .val (.int p3), .val (.int p4), .val (.long p5), .second, .val (.long p6), .second, .val (.int mo), .val (.ref x), .val (.int ln), .val (.ref a), .val .null, .val .null, .unset]) rfl ?_
      refine .aload X272 hx (hb hby at_302) rfl rfl ?_
      obtain ⟨_, _, ⟨T273, L273, k273, n273⟩, -, X273, hS273, hg273, ⟨Lc273, hQ273, l273, y273, z273, CN273⟩, st273⟩ := callSS (s := s.setVm T271.vm) X272 hx (y := (⟨"com/example/tightrope/tightrope/junit/OutcomeOfTextPinLaw", "ref", "(Ljava/lang/String;)Lcom/example/tightrope/tightrope/junit/Outcome;"⟩ : MethodName)) hown (mvT hZ (W_ hw 112 rfl)) (mvT hZ (W_ hw 113 rfl)) (mvT hZ (W_ hw 26 rfl)) (mvT hZ (W_ hw 114 rfl)) (by decide) (backOfSH (s := s) (vm0 := T271.vm) (W := 0) (rmrn l Z a0 hw [] u_Outcome__VALUES u_Outcome_PASSED u_Outcome_FAILED u_Outcome_ABORTED u_Outcome_NOT_FOUND u_Outcome_PASSED_text u_Outcome_PASSED_text_value u_Outcome_FAILED_text u_Outcome_FAILED_text_value u_Outcome_ABORTED_text u_Outcome_ABORTED_text_value u_Outcome_NOT_FOUND_text u_Outcome_NOT_FOUND_text_value kc_u_Outcome__VALUES kc_u_Outcome_PASSED_text_value kc_u_Outcome_FAILED_text_value kc_u_Outcome_ABORTED_text_value kc_u_Outcome_NOT_FOUND_text_value zc fmv T272.heap n0 Z_ O_ S_u_Outcome__VALUES E_u_Outcome__VALUES S_u_Outcome_PASSED E_u_Outcome_PASSED S_u_Outcome_FAILED E_u_Outcome_FAILED S_u_Outcome_ABORTED E_u_Outcome_ABORTED S_u_Outcome_NOT_FOUND E_u_Outcome_NOT_FOUND F_u_Outcome_PASSED_text E_u_Outcome_PASSED_text F_u_Outcome_PASSED_text_coder F_u_Outcome_PASSED_text_value F_u_Outcome_FAILED_text E_u_Outcome_FAILED_text F_u_Outcome_FAILED_text_coder F_u_Outcome_FAILED_text_value F_u_Outcome_ABORTED_text E_u_Outcome_ABORTED_text F_u_Outcome_ABORTED_text_coder F_u_Outcome_ABORTED_text_value F_u_Outcome_NOT_FOUND_text E_u_Outcome_NOT_FOUND_text F_u_Outcome_NOT_FOUND_text_coder F_u_Outcome_NOT_FOUND_text_value V_u_Outcome__VALUES V_u_Outcome_PASSED_text_value V_u_Outcome_FAILED_text_value V_u_Outcome_ABORTED_text_value V_u_Outcome_NOT_FOUND_text_value S_CS P_CS S_SF rf_fmv) hZ (W_ hw 114 rfl) (W_ hw 26 rfl) (by decide) (by decide) (own_hEL hw) CR.1) (g := (mkF m 304 #[.val (.int p1), .val (.int p2), .val (.int p3), .val (.int p4), .val (.long p5), .second, .val (.long p6), .second, .val (.int mo), .val (.ref x), .val (.int ln), .val (.ref a), .val .null, .val .null, .unset] [.null])) rfl (by rw [hml]; rfl) (argsL := [.null]) (rest := []) (lenOf pd_15 rfl) rfl (Nat.le_of_eq rfl) (hb hby at_304) (fun _ _ => ⟨rfl, rfl, (by decide : 12 + 8 ≤ _), (by decide : 98 + 200 ≤ _)⟩)
      dsimp only [Pt.U, Pt.locs, Pt.cells, Pt.slots] at X273 hS273 hg273 l273 y273 z273 CN273 st273 hQ273
      subst l273 y273 z273
      obtain ⟨X273, hS_, hZ, hown⟩ := rebS hS_ (show _ ≤ T272.heap.size by rw [(rfl : T272.heap = T272.heap)]; exact hk_) X273 hS273 hg273 hZ hown
      obtain ⟨rfl, N273q, K273⟩ := hQ273
      have N273 := Fr.app N272 N273q
      have Z_ : n0 ≤ T273.heap.size := Nat.le_trans Z_ K273.1
      have O_ := O_.keep K273 all0
      have CR := CR.trans CN273
      have hk_ := Nat.le_refl T273.heap.size
      refine .st (fun _ => st273.trans) ?_
      show OwnGoW p e below s Z own_EL _ _ _ T273 (mkF m 307 _ [.null])
      refine .astore X273 hx (hb hby at_307) rfl (L' := #[.val (.int p1), .val (.int p2), .val (.int p3), .val (.int p4), .val (.long p5), .second, .val (.long p6), .second, .val (.int mo), .val (.ref x), .val (.int ln), .val (.ref a), .val .null, .val .null, .val .null]) rfl ?_
      refine .aload X273 hx (hb hby at_309) rfl rfl ?_
      refine .aload X273 hx (hb hby at_311) rfl rfl ?_
      refine .st (fun _ => Jvm.RoadKit.acmp (g := (mkF m 313 #[.val (.int p1), .val (.int p2), .val (.int p3), .val (.int p4), .val (.long p5), .second, .val (.long p6), .second, .val (.int mo), .val (.ref x), .val (.int ln), .val (.ref a), .val .null, .val .null, .val .null] [.null, .null])) X273 hx rfl rfl rfl (pc0 := 313) (pc' := 316) (same := true) rfl (hb hby at_313) rfl (decide_eq_true rfl) (by decide) (by decide)) ?_
      show OwnGoW p e below s Z own_EL _ _ _ T273 (mkF m 316 _ [])
      refine .iconst X273 hx (hb hby at_316) own_ki1 ?_
      refine .goto (pc := 317) X273 hx 321 (hb hby at_317) (by decide) (by decide) ?_
      exact OwnGoW.retN (s := s) (vm0 := T273.vm) X273 hS_ hk_ rfl hZ (own_hEL hw) CR hx (t := .boolean) hret hlk (by simp) (hb hby at_321) (by show Q0 Z p1 p2 p3 p4 p5 p6 u_Outcome__VALUES u_Outcome_PASSED u_Outcome_FAILED u_Outcome_ABORTED u_Outcome_NOT_FOUND u_Outcome_PASSED_text u_Outcome_PASSED_text_value u_Outcome_FAILED_text u_Outcome_FAILED_text_value u_Outcome_ABORTED_text u_Outcome_ABORTED_text_value u_Outcome_NOT_FOUND_text u_Outcome_NOT_FOUND_text_value kc_u_Outcome__VALUES kc_u_Outcome_PASSED_text_value kc_u_Outcome_FAILED_text_value kc_u_Outcome_ABORTED_text_value kc_u_Outcome_NOT_FOUND_text_value zc fmv h0 n0 _ T273.heap _; exact ⟨rfl, N273⟩) (by decide) (by decide)
  · refine .icmpYes (pc := 282) X271 hx 295 (hb hby at_282) (feq (h7 : ¬ (mo = (7 : Int32)))).2 (by decide) (by decide) ?_
    exact sgE p1 p2 p3 p4 p5 p6 u_Outcome__VALUES u_Outcome_PASSED u_Outcome_FAILED u_Outcome_ABORTED u_Outcome_NOT_FOUND u_Outcome_PASSED_text u_Outcome_PASSED_text_value u_Outcome_FAILED_text u_Outcome_FAILED_text_value u_Outcome_ABORTED_text u_Outcome_ABORTED_text_value u_Outcome_NOT_FOUND_text u_Outcome_NOT_FOUND_text_value kc_u_Outcome__VALUES kc_u_Outcome_PASSED_text_value kc_u_Outcome_FAILED_text_value kc_u_Outcome_ABORTED_text_value kc_u_Outcome_NOT_FOUND_text_value zc fmv mo x ln a y271 t271 kb271 bl271 h0 n0 hw X271 hx hby hml hret hlk hown hnm hZ rfl N271 Z_ hS_ hk_ CR S_u_Outcome__VALUES E_u_Outcome__VALUES S_u_Outcome_PASSED E_u_Outcome_PASSED S_u_Outcome_FAILED E_u_Outcome_FAILED S_u_Outcome_ABORTED E_u_Outcome_ABORTED S_u_Outcome_NOT_FOUND E_u_Outcome_NOT_FOUND F_u_Outcome_PASSED_text E_u_Outcome_PASSED_text F_u_Outcome_PASSED_text_coder F_u_Outcome_PASSED_text_value F_u_Outcome_FAILED_text E_u_Outcome_FAILED_text F_u_Outcome_FAILED_text_coder F_u_Outcome_FAILED_text_value F_u_Outcome_ABORTED_text E_u_Outcome_ABORTED_text F_u_Outcome_ABORTED_text_coder F_u_Outcome_ABORTED_text_value F_u_Outcome_NOT_FOUND_text E_u_Outcome_NOT_FOUND_text F_u_Outcome_NOT_FOUND_text_coder F_u_Outcome_NOT_FOUND_text_value V_u_Outcome__VALUES V_u_Outcome_PASSED_text_value V_u_Outcome_FAILED_text_value V_u_Outcome_ABORTED_text_value V_u_Outcome_NOT_FOUND_text_value S_CS P_CS S_SF rf_fmv O_ E271 Fc271 Fv271 V271 lb271
theorem sgB {p : Program} {l : Launch} {e : Env} {s : State} {m : MethodId} {below : List Frame} {meth : Method} {c : Code} {Z : State} {a0 : Array Value} {T0 : State} {locs : List Loc} {vm1 : Vm} {k1 : Nat} {h1 : Heap} (p1 : Int32) (p2 : Int32) (p3 : Int32) (p4 : Int32) (p5 : Int64) (p6 : Int64) (u_Outcome__VALUES : Addr) (u_Outcome_PASSED : Addr) (u_Outcome_FAILED : Addr) (u_Outcome_ABORTED : Addr) (u_Outcome_NOT_FOUND : Addr) (u_Outcome_PASSED_text : Addr) (u_Outcome_PASSED_text_value : Addr) (u_Outcome_FAILED_text : Addr) (u_Outcome_FAILED_text_value : Addr) (u_Outcome_ABORTED_text : Addr) (u_Outcome_ABORTED_text_value : Addr) (u_Outcome_NOT_FOUND_text : Addr) (u_Outcome_NOT_FOUND_text_value : Addr) (kc_u_Outcome__VALUES : ClassId) (kc_u_Outcome_PASSED_text_value : ClassId) (kc_u_Outcome_FAILED_text_value : ClassId) (kc_u_Outcome_ABORTED_text_value : ClassId) (kc_u_Outcome_NOT_FOUND_text_value : ClassId) (zc : Int32) (fmv : Value) (mo : Int32) (x : Addr) (t : Addr) (kt : ClassId) (vs : List Int32) (ln : Int32) (h0 : Heap) (n0 : Nat) (hw : ∀ d ∈ tables_1, d.before a0 Z = true)
    (X0 : Stand p l e room_1 (s.setVm vm1) m #[(.int p1), (.int p2), (.int p3), (.int p4), (.long p5), (.long p6)] below meth c T0 locs 4 44) (hx : p.tables.exec = Jvm.exec) (hby : c.code = code) (hml : c.maxLocals = 15) (hret : meth.sig.returnType = ret) (hlk : meth.locks = false) (hown : (s.setVm vm1).vm.findClass "com/example/tightrope/tightrope/junit/OutcomeOfTextPinLaw" = some m.cls) (hnm : meth.name = "law") (hZ : Z.Warmed39 (s.setVm vm1).vm) (e0 : T0.heap = h1) (N0 : Fr n0 locs) (Z_ : n0 ≤ h1.size) (hS_ : s.Since vm1 k1) (hk_ : k1 ≤ h1.size) (CR : CHr Z own_EL s.vm s.heap vm1 h1) (S_u_Outcome__VALUES : Sta Z Z.heap "com/example/tightrope/tightrope/junit/Outcome" "$VALUES" "[Lcom/example/tightrope/tightrope/junit/Outcome;" (.ref u_Outcome__VALUES)) (E_u_Outcome__VALUES : Exa Z Z.heap u_Outcome__VALUES "[Lcom/example/tightrope/tightrope/junit/Outcome;") (S_u_Outcome_PASSED : Sta Z Z.heap "com/example/tightrope/tightrope/junit/Outcome" "PASSED" "Lcom/example/tightrope/tightrope/junit/Outcome;" (.ref u_Outcome_PASSED)) (E_u_Outcome_PASSED : Exa Z Z.heap u_Outcome_PASSED "com/example/tightrope/tightrope/junit/Outcome") (S_u_Outcome_FAILED : Sta Z Z.heap "com/example/tightrope/tightrope/junit/Outcome" "FAILED" "Lcom/example/tightrope/tightrope/junit/Outcome;" (.ref u_Outcome_FAILED)) (E_u_Outcome_FAILED : Exa Z Z.heap u_Outcome_FAILED "com/example/tightrope/tightrope/junit/Outcome") (S_u_Outcome_ABORTED : Sta Z Z.heap "com/example/tightrope/tightrope/junit/Outcome" "ABORTED" "Lcom/example/tightrope/tightrope/junit/Outcome;" (.ref u_Outcome_ABORTED)) (E_u_Outcome_ABORTED : Exa Z Z.heap u_Outcome_ABORTED "com/example/tightrope/tightrope/junit/Outcome") (S_u_Outcome_NOT_FOUND : Sta Z Z.heap "com/example/tightrope/tightrope/junit/Outcome" "NOT_FOUND" "Lcom/example/tightrope/tightrope/junit/Outcome;" (.ref u_Outcome_NOT_FOUND)) (E_u_Outcome_NOT_FOUND : Exa Z Z.heap u_Outcome_NOT_FOUND "com/example/tightrope/tightrope/junit/Outcome") (F_u_Outcome_PASSED_text : Fld Z Z.heap u_Outcome_PASSED "com/example/tightrope/tightrope/junit/Outcome" "text" "Ljava/lang/String;" (.ref u_Outcome_PASSED_text)) (E_u_Outcome_PASSED_text : Exa Z Z.heap u_Outcome_PASSED_text "java/lang/String") (F_u_Outcome_PASSED_text_coder : Fld Z Z.heap u_Outcome_PASSED_text "java/lang/String" "coder" "B" (.int (0 : Int32))) (F_u_Outcome_PASSED_text_value : Fld Z Z.heap u_Outcome_PASSED_text "java/lang/String" "value" "[B" (.ref u_Outcome_PASSED_text_value)) (F_u_Outcome_FAILED_text : Fld Z Z.heap u_Outcome_FAILED "com/example/tightrope/tightrope/junit/Outcome" "text" "Ljava/lang/String;" (.ref u_Outcome_FAILED_text)) (E_u_Outcome_FAILED_text : Exa Z Z.heap u_Outcome_FAILED_text "java/lang/String") (F_u_Outcome_FAILED_text_coder : Fld Z Z.heap u_Outcome_FAILED_text "java/lang/String" "coder" "B" (.int (0 : Int32))) (F_u_Outcome_FAILED_text_value : Fld Z Z.heap u_Outcome_FAILED_text "java/lang/String" "value" "[B" (.ref u_Outcome_FAILED_text_value)) (F_u_Outcome_ABORTED_text : Fld Z Z.heap u_Outcome_ABORTED "com/example/tightrope/tightrope/junit/Outcome" "text" "Ljava/lang/String;" (.ref u_Outcome_ABORTED_text)) (E_u_Outcome_ABORTED_text : Exa Z Z.heap u_Outcome_ABORTED_text "java/lang/String") (F_u_Outcome_ABORTED_text_coder : Fld Z Z.heap u_Outcome_ABORTED_text "java/lang/String" "coder" "B" (.int (0 : Int32))) (F_u_Outcome_ABORTED_text_value : Fld Z Z.heap u_Outcome_ABORTED_text "java/lang/String" "value" "[B" (.ref u_Outcome_ABORTED_text_value)) (F_u_Outcome_NOT_FOUND_text : Fld Z Z.heap u_Outcome_NOT_FOUND "com/example/tightrope/tightrope/junit/Outcome" "text" "Ljava/lang/String;" (.ref u_Outcome_NOT_FOUND_text)) (E_u_Outcome_NOT_FOUND_text : Exa Z Z.heap u_Outcome_NOT_FOUND_text "java/lang/String") (F_u_Outcome_NOT_FOUND_text_coder : Fld Z Z.heap u_Outcome_NOT_FOUND_text "java/lang/String" "coder" "B" (.int (0 : Int32))) (F_u_Outcome_NOT_FOUND_text_value : Fld Z Z.heap u_Outcome_NOT_FOUND_text "java/lang/String" "value" "[B" (.ref u_Outcome_NOT_FOUND_text_value)) (V_u_Outcome__VALUES : Arv Z Z.heap u_Outcome__VALUES kc_u_Outcome__VALUES (Jvm.ClassFile.FieldType.object "com/example/tightrope/tightrope/junit/Outcome") (4 : Int32) [(.ref u_Outcome_PASSED), (.ref u_Outcome_FAILED), (.ref u_Outcome_ABORTED), (.ref u_Outcome_NOT_FOUND)] .null) (V_u_Outcome_PASSED_text_value : Arv Z Z.heap u_Outcome_PASSED_text_value kc_u_Outcome_PASSED_text_value Jvm.ClassFile.FieldType.byte (6 : Int32) [(.int (112 : Int32)), (.int (97 : Int32)), (.int (115 : Int32)), (.int (115 : Int32)), (.int (101 : Int32)), (.int (100 : Int32))] (.int (0 : Int32))) (V_u_Outcome_FAILED_text_value : Arv Z Z.heap u_Outcome_FAILED_text_value kc_u_Outcome_FAILED_text_value Jvm.ClassFile.FieldType.byte (6 : Int32) [(.int (102 : Int32)), (.int (97 : Int32)), (.int (105 : Int32)), (.int (108 : Int32)), (.int (101 : Int32)), (.int (100 : Int32))] (.int (0 : Int32))) (V_u_Outcome_ABORTED_text_value : Arv Z Z.heap u_Outcome_ABORTED_text_value kc_u_Outcome_ABORTED_text_value Jvm.ClassFile.FieldType.byte (7 : Int32) [(.int (97 : Int32)), (.int (98 : Int32)), (.int (111 : Int32)), (.int (114 : Int32)), (.int (116 : Int32)), (.int (101 : Int32)), (.int (100 : Int32))] (.int (0 : Int32))) (V_u_Outcome_NOT_FOUND_text_value : Arv Z Z.heap u_Outcome_NOT_FOUND_text_value kc_u_Outcome_NOT_FOUND_text_value Jvm.ClassFile.FieldType.byte (9 : Int32) [(.int (110 : Int32)), (.int (111 : Int32)), (.int (116 : Int32)), (.int (45 : Int32)), (.int (102 : Int32)), (.int (111 : Int32)), (.int (117 : Int32)), (.int (110 : Int32)), (.int (100 : Int32))] (.int (0 : Int32))) (S_CS : Sta Z Z.heap "java/lang/String" "COMPACT_STRINGS" "Z" (.int zc)) (P_CS : ¬ zc = (0 : Int32)) (S_SF : Sta Z Z.heap "jdk/internal/util/Preconditions" "SIOOBE_FORMATTER" "Ljava/util/function/BiFunction;" fmv) (rf_fmv : fmv.isRef = true) (E_x : Exa Z h1 x "java/lang/String") (Fc_x : Fld Z h1 x "java/lang/String" "coder" "B" (.int (0 : Int32))) (Fv_x : Fld Z h1 x "java/lang/String" "value" "[B" (.ref t)) (O_ : Old Z n0 h1) (V_t : Arv Z h1 t kt .byte (Int32.ofNat (List.length vs)) (List.map Value.int vs) (.int (0 : Int32))) (l_vs : List.length vs < 2 ^ 31) (hn : ¬ ln < (0 : Int32)) (hn' : ln < (11 : Int32)) :
    OwnGoW p e below s Z own_EL room_1.cells room_1.slots (Q0 Z p1 p2 p3 p4 p5 p6 u_Outcome__VALUES u_Outcome_PASSED u_Outcome_FAILED u_Outcome_ABORTED u_Outcome_NOT_FOUND u_Outcome_PASSED_text u_Outcome_PASSED_text_value u_Outcome_FAILED_text u_Outcome_FAILED_text_value u_Outcome_ABORTED_text u_Outcome_ABORTED_text_value u_Outcome_NOT_FOUND_text u_Outcome_NOT_FOUND_text_value kc_u_Outcome__VALUES kc_u_Outcome_PASSED_text_value kc_u_Outcome_FAILED_text_value kc_u_Outcome_ABORTED_text_value kc_u_Outcome_NOT_FOUND_text_value zc fmv h0 n0) T0 (mkF m 87 #[.val (.int p1), .val (.int p2), .val (.int p3), .val (.int p4), .val (.long p5), .second, .val (.long p6), .second, .val (.int mo), .val (.ref x), .val (.int ln), .unset, .unset, .unset, .unset] []) := by
  show OwnGoW p e below s Z own_EL _ _ _ T0 (mkF m 87 _ [])
  refine .bipush X0 hx (hb hby at_87) own_kb10 ?_
  obtain ⟨T249, h249, k249, X249, e249, E249, A249, Ex249, st249⟩ := newPE X0 hx hZ (W_ hw 23 rfl) e0 (g := (mkF m 89 #[.val (.int p1), .val (.int p2), .val (.int p3), .val (.int p4), .val (.long p5), .second, .val (.long p6), .second, .val (.int mo), .val (.ref x), .val (.int ln), .unset, .unset, .unset, .unset] [(.int (10 : Int32))])) rfl (hb hby at_89) rfl (by decide) (cap := 10) (by decide) (by decide) (by decide) (by decide) (ad := "[C") (by decide)
  obtain ⟨b249, g249⟩ : ∃ z, z = h1.size := ⟨_, rfl⟩
  rw [← g249] at A249 Ex249 st249
  have ne_x_b249 : x ≠ b249 := Nat.ne_of_lt (Nat.lt_of_lt_of_le E_x.lt (Nat.le_of_eq g249.symm))
  have ne_t_b249 : t ≠ b249 := Nat.ne_of_lt (Nat.lt_of_lt_of_le V_t.lt (Nat.le_of_eq g249.symm))
  have g_b249 : n0 ≤ b249 := Nat.le_trans Z_ (Nat.le_of_eq g249.symm)
  have sf_b249 : Safe Z own_EL vm1 h1 b249 := Safe.new (Nat.le_of_eq g249.symm)
  have E_x := E_x.ext E249
  have Fc_x := Fc_x.ext E249
  have Fv_x := Fv_x.ext E249
  have V_t := V_t.ext E249
  have O_ := O_.ext E249
  have sf_b249 := Safe.ext E249 CR.1 sf_b249
  have CR := CR.trans (CHr.ext E249 CR.1)
  have hk_ := Nat.le_trans hk_ E249.1
  have Z_ : n0 ≤ h249.size := Nat.le_trans Z_ E249.1
  have V_b249 : Arv Z h249 b249 k249 .char (10 : Int32) [(.int (0 : Int32)), (.int (0 : Int32)), (.int (0 : Int32)), (.int (0 : Int32)), (.int (0 : Int32)), (.int (0 : Int32)), (.int (0 : Int32)), (.int (0 : Int32)), (.int (0 : Int32)), (.int (0 : Int32))] (.int (0 : Int32)) := (Arv.new A249 (by decide)).pad (pad_rep [] (.int (0 : Int32)) 10)
  have E_b249 := Ex249
  refine .st st249 ?_
  show OwnGoW p e below s Z own_EL _ _ _ T249 (mkF m 91 _ [(.ref b249)])
  refine .astore X249 hx (hb hby at_91) rfl (L' := #[.val (.int p1), .val (.int p2), .val (.int p3), .val (.int p4), .val (.long p5), .second, .val (.long p6), .second, .val (.int mo), .val (.ref x), .val (.int ln), .val (.ref b249), .unset, .unset, .unset]) rfl ?_
  refine .aload X249 hx (hb hby at_93) rfl rfl ?_
  refine .iconst X249 hx (hb hby at_95) own_ki0 ?_
  refine .iconst X249 hx (hb hby at_96) own_ki0 ?_
  refine .aload X249 hx (hb hby at_97) rfl rfl ?_
  refine .st (fun _ => XS.lload X249.here hx rfl (hb hby at_99) rfl) ?_
  show OwnGoW p e below s Z own_EL _ _ _ T249 (mkF m 101 _ [(.long p5), (.ref x), (.int (0 : Int32)), (.int (0 : Int32)), (.ref b249)])
  refine .st (fun _ => XS.lload X249.here hx rfl (hb hby at_101) rfl) ?_
  show OwnGoW p e below s Z own_EL _ _ _ T249 (mkF m 103 _ [(.long p6), (.long p5), (.ref x), (.int (0 : Int32)), (.int (0 : Int32)), (.ref b249)])
  obtain ⟨_, _, ⟨T250, L250, k250, n250⟩, -, X250, ⟨Lc250, hQ250, l250, y250, z250⟩, st250⟩ := Jvm.LawKit.callS X249 hx (y := (⟨"com/example/tightrope/tightrope/junit/OutcomeOfTextPinLaw", "pick", "(ILjava/lang/String;JJ)C"⟩ : MethodName)) hown (mvT hZ (W_ hw 24 rfl)) (mvT hZ (W_ hw 25 rfl)) (mvT hZ (W_ hw 26 rfl)) (mvT hZ (W_ hw 27 rfl)) (by decide) (backOf (W := 2) (rmpk l Z a0 hw [] (0 : Int32) x t kt vs p5 p6 zc fmv h249 n0 Z_ O_ S_CS P_CS S_SF rf_fmv (by decide) E_x Fc_x Fv_x V_t l_vs) hZ (W_ hw 27 rfl) (W_ hw 26 rfl) (by decide) (by decide)) (g := (mkF m 103 #[.val (.int p1), .val (.int p2), .val (.int p3), .val (.int p4), .val (.long p5), .second, .val (.long p6), .second, .val (.int mo), .val (.ref x), .val (.int ln), .val (.ref b249), .unset, .unset, .unset] [(.long p6), (.long p5), (.ref x), (.int (0 : Int32)), (.int (0 : Int32)), (.ref b249)])) rfl (by rw [hml]; rfl) (argsL := [(.int (0 : Int32)), (.ref x), (.long p5), (.long p6)]) (rest := [(.int (0 : Int32)), (.ref b249)]) (lenOf pd_13 rfl) rfl (Nat.le_of_eq rfl) (hb hby at_103) (fun _ _ => ⟨rfl, e249, (by decide : 5 + 0 ≤ _), (by decide : 54 + 0 ≤ _)⟩)
  dsimp only [Pt.U, Pt.locs, Pt.cells, Pt.slots] at X250 l250 y250 z250 st250 hQ250
  subst l250 y250 z250
  obtain ⟨ch250, rfl, N250q, e250, hp_ch250⟩ := hQ250
  have N250 := Fr.app N0 N250q
  refine .st st250 ?_
  show OwnGoW p e below s Z own_EL _ _ _ T250 (mkF m 106 _ [(.int ch250), (.int (0 : Int32)), (.ref b249)])
  obtain ⟨cl251, Ar251, q251, S251, N251, H251, G251⟩ := id V_b249
  have hin251 : ¬ ((0 : Int32) < 0 ∨ cl251.slots.size ≤ ((0 : Int32)).toNatClampNeg) := inb_of S251 ⟨by decide, by decide⟩
  obtain ⟨T251, h251, X251, e251, W251, st251⟩ := stC X250 hx hZ e250 Ar251 (j := (0 : Int32)) hin251 (g := (mkF m 106 #[.val (.int p1), .val (.int p2), .val (.int p3), .val (.int p4), .val (.long p5), .second, .val (.long p6), .second, .val (.int mo), .val (.ref x), .val (.int ln), .val (.ref b249), .unset, .unset, .unset] [(.int ch250), (.int (0 : Int32)), (.ref b249)])) rfl rfl (hb hby at_106)
  have V_b249 : Arv Z h251 b249 k249 .char (10 : Int32) [(.int (nar .char ch250)), (.int (0 : Int32)), (.int (0 : Int32)), (.int (0 : Int32)), (.int (0 : Int32)), (.int (0 : Int32)), (.int (0 : Int32)), (.int (0 : Int32)), (.int (0 : Int32)), (.int (0 : Int32))] (.int (0 : Int32)) := Arv.set Ar251 q251 S251 N251 H251 G251 (fits_nar_char _) W251 0 rfl (Nat.le_of_ble_eq_true rfl)
  rw [show nar .char ch250 = ch250 from (own_lnc hp_ch250)] at V_b249
  have E_x := E_x.wr W251
  have Fc_x := Fc_x.other W251 (Or.inl ne_x_b249)
  have Fv_x := Fv_x.other W251 (Or.inl ne_x_b249)
  have V_t := V_t.other W251 ne_t_b249
  have E_b249 := E_b249.wr W251
  have O_ := O_.wr W251 g_b249
  have sf_ := sf_b249
  have CR0 := CR.1
  have CR := CR.trans (CHr.wr W251 sf_ CR.1)
  have sf_b249 := Safe.wr W251 sf_ CR0 sf_b249
  have hk_ := Nat.le_trans hk_ (Nat.le_of_eq W251.size.symm)
  have N251 := Fr.snoc X251 N250 g_b249
  have Z_ : n0 ≤ h251.size := by rw [W251.size]; exact Z_
  refine .st st251 ?_
  show OwnGoW p e below s Z own_EL _ _ _ T251 (mkF m 107 _ [])
  refine .aload X251 hx (hb hby at_107) rfl rfl ?_
  refine .iconst X251 hx (hb hby at_109) own_ki1 ?_
  refine .iconst X251 hx (hb hby at_110) own_ki1 ?_
  refine .aload X251 hx (hb hby at_111) rfl rfl ?_
  refine .st (fun _ => XS.lload X251.here hx rfl (hb hby at_113) rfl) ?_
  show OwnGoW p e below s Z own_EL _ _ _ T251 (mkF m 115 _ [(.long p5), (.ref x), (.int (1 : Int32)), (.int (1 : Int32)), (.ref b249)])
  refine .st (fun _ => XS.lload X251.here hx rfl (hb hby at_115) rfl) ?_
  show OwnGoW p e below s Z own_EL _ _ _ T251 (mkF m 117 _ [(.long p6), (.long p5), (.ref x), (.int (1 : Int32)), (.int (1 : Int32)), (.ref b249)])
  obtain ⟨_, _, ⟨T252, L252, k252, n252⟩, -, X252, ⟨Lc252, hQ252, l252, y252, z252⟩, st252⟩ := Jvm.LawKit.callS X251 hx (y := (⟨"com/example/tightrope/tightrope/junit/OutcomeOfTextPinLaw", "pick", "(ILjava/lang/String;JJ)C"⟩ : MethodName)) hown (mvT hZ (W_ hw 24 rfl)) (mvT hZ (W_ hw 25 rfl)) (mvT hZ (W_ hw 26 rfl)) (mvT hZ (W_ hw 27 rfl)) (by decide) (backOf (W := 2) (rmpk l Z a0 hw [] (1 : Int32) x t kt vs p5 p6 zc fmv h251 n0 Z_ O_ S_CS P_CS S_SF rf_fmv (by decide) E_x Fc_x Fv_x V_t l_vs) hZ (W_ hw 27 rfl) (W_ hw 26 rfl) (by decide) (by decide)) (g := (mkF m 117 #[.val (.int p1), .val (.int p2), .val (.int p3), .val (.int p4), .val (.long p5), .second, .val (.long p6), .second, .val (.int mo), .val (.ref x), .val (.int ln), .val (.ref b249), .unset, .unset, .unset] [(.long p6), (.long p5), (.ref x), (.int (1 : Int32)), (.int (1 : Int32)), (.ref b249)])) rfl (by rw [hml]; rfl) (argsL := [(.int (1 : Int32)), (.ref x), (.long p5), (.long p6)]) (rest := [(.int (1 : Int32)), (.ref b249)]) (lenOf pd_13 rfl) rfl (Nat.le_of_eq rfl) (hb hby at_117) (fun _ _ => ⟨rfl, e251, (by decide : 5 + 0 ≤ _), (by decide : 54 + 0 ≤ _)⟩)
  dsimp only [Pt.U, Pt.locs, Pt.cells, Pt.slots] at X252 l252 y252 z252 st252 hQ252
  subst l252 y252 z252
  obtain ⟨ch252, rfl, N252q, e252, hp_ch252⟩ := hQ252
  have N252 := Fr.app N251 N252q
  refine .st st252 ?_
  show OwnGoW p e below s Z own_EL _ _ _ T252 (mkF m 120 _ [(.int ch252), (.int (1 : Int32)), (.ref b249)])
  obtain ⟨cl253, Ar253, q253, S253, N253, H253, G253⟩ := id V_b249
  have hin253 : ¬ ((1 : Int32) < 0 ∨ cl253.slots.size ≤ ((1 : Int32)).toNatClampNeg) := inb_of S253 ⟨by decide, by decide⟩
  obtain ⟨T253, h253, X253, e253, W253, st253⟩ := stC X252 hx hZ e252 Ar253 (j := (1 : Int32)) hin253 (g := (mkF m 120 #[.val (.int p1), .val (.int p2), .val (.int p3), .val (.int p4), .val (.long p5), .second, .val (.long p6), .second, .val (.int mo), .val (.ref x), .val (.int ln), .val (.ref b249), .unset, .unset, .unset] [(.int ch252), (.int (1 : Int32)), (.ref b249)])) rfl rfl (hb hby at_120)
  have V_b249 : Arv Z h253 b249 k249 .char (10 : Int32) [(.int ch250), (.int (nar .char ch252)), (.int (0 : Int32)), (.int (0 : Int32)), (.int (0 : Int32)), (.int (0 : Int32)), (.int (0 : Int32)), (.int (0 : Int32)), (.int (0 : Int32)), (.int (0 : Int32))] (.int (0 : Int32)) := Arv.set Ar253 q253 S253 N253 H253 G253 (fits_nar_char _) W253 1 rfl (Nat.le_of_ble_eq_true rfl)
  rw [show nar .char ch252 = ch252 from (own_lnc hp_ch252)] at V_b249
  have E_x := E_x.wr W253
  have Fc_x := Fc_x.other W253 (Or.inl ne_x_b249)
  have Fv_x := Fv_x.other W253 (Or.inl ne_x_b249)
  have V_t := V_t.other W253 ne_t_b249
  have E_b249 := E_b249.wr W253
  have O_ := O_.wr W253 g_b249
  have sf_ := sf_b249
  have CR0 := CR.1
  have CR := CR.trans (CHr.wr W253 sf_ CR.1)
  have sf_b249 := Safe.wr W253 sf_ CR0 sf_b249
  have hk_ := Nat.le_trans hk_ (Nat.le_of_eq W253.size.symm)
  have N253 := Fr.snoc X253 N252 g_b249
  have Z_ : n0 ≤ h253.size := by rw [W253.size]; exact Z_
  refine .st st253 ?_
  show OwnGoW p e below s Z own_EL _ _ _ T253 (mkF m 121 _ [])
  refine .aload X253 hx (hb hby at_121) rfl rfl ?_
  refine .iconst X253 hx (hb hby at_123) own_ki2 ?_
  refine .iconst X253 hx (hb hby at_124) own_ki2 ?_
  refine .aload X253 hx (hb hby at_125) rfl rfl ?_
  refine .st (fun _ => XS.lload X253.here hx rfl (hb hby at_127) rfl) ?_
  show OwnGoW p e below s Z own_EL _ _ _ T253 (mkF m 129 _ [(.long p5), (.ref x), (.int (2 : Int32)), (.int (2 : Int32)), (.ref b249)])
  refine .st (fun _ => XS.lload X253.here hx rfl (hb hby at_129) rfl) ?_
  show OwnGoW p e below s Z own_EL _ _ _ T253 (mkF m 131 _ [(.long p6), (.long p5), (.ref x), (.int (2 : Int32)), (.int (2 : Int32)), (.ref b249)])
  obtain ⟨_, _, ⟨T254, L254, k254, n254⟩, -, X254, ⟨Lc254, hQ254, l254, y254, z254⟩, st254⟩ := Jvm.LawKit.callS X253 hx (y := (⟨"com/example/tightrope/tightrope/junit/OutcomeOfTextPinLaw", "pick", "(ILjava/lang/String;JJ)C"⟩ : MethodName)) hown (mvT hZ (W_ hw 24 rfl)) (mvT hZ (W_ hw 25 rfl)) (mvT hZ (W_ hw 26 rfl)) (mvT hZ (W_ hw 27 rfl)) (by decide) (backOf (W := 2) (rmpk l Z a0 hw [] (2 : Int32) x t kt vs p5 p6 zc fmv h253 n0 Z_ O_ S_CS P_CS S_SF rf_fmv (by decide) E_x Fc_x Fv_x V_t l_vs) hZ (W_ hw 27 rfl) (W_ hw 26 rfl) (by decide) (by decide)) (g := (mkF m 131 #[.val (.int p1), .val (.int p2), .val (.int p3), .val (.int p4), .val (.long p5), .second, .val (.long p6), .second, .val (.int mo), .val (.ref x), .val (.int ln), .val (.ref b249), .unset, .unset, .unset] [(.long p6), (.long p5), (.ref x), (.int (2 : Int32)), (.int (2 : Int32)), (.ref b249)])) rfl (by rw [hml]; rfl) (argsL := [(.int (2 : Int32)), (.ref x), (.long p5), (.long p6)]) (rest := [(.int (2 : Int32)), (.ref b249)]) (lenOf pd_13 rfl) rfl (Nat.le_of_eq rfl) (hb hby at_131) (fun _ _ => ⟨rfl, e253, (by decide : 5 + 0 ≤ _), (by decide : 54 + 0 ≤ _)⟩)
  dsimp only [Pt.U, Pt.locs, Pt.cells, Pt.slots] at X254 l254 y254 z254 st254 hQ254
  subst l254 y254 z254
  obtain ⟨ch254, rfl, N254q, e254, hp_ch254⟩ := hQ254
  have N254 := Fr.app N253 N254q
  refine .st st254 ?_
  show OwnGoW p e below s Z own_EL _ _ _ T254 (mkF m 134 _ [(.int ch254), (.int (2 : Int32)), (.ref b249)])
  obtain ⟨cl255, Ar255, q255, S255, N255, H255, G255⟩ := id V_b249
  have hin255 : ¬ ((2 : Int32) < 0 ∨ cl255.slots.size ≤ ((2 : Int32)).toNatClampNeg) := inb_of S255 ⟨by decide, by decide⟩
  obtain ⟨T255, h255, X255, e255, W255, st255⟩ := stC X254 hx hZ e254 Ar255 (j := (2 : Int32)) hin255 (g := (mkF m 134 #[.val (.int p1), .val (.int p2), .val (.int p3), .val (.int p4), .val (.long p5), .second, .val (.long p6), .second, .val (.int mo), .val (.ref x), .val (.int ln), .val (.ref b249), .unset, .unset, .unset] [(.int ch254), (.int (2 : Int32)), (.ref b249)])) rfl rfl (hb hby at_134)
  have V_b249 : Arv Z h255 b249 k249 .char (10 : Int32) [(.int ch250), (.int ch252), (.int (nar .char ch254)), (.int (0 : Int32)), (.int (0 : Int32)), (.int (0 : Int32)), (.int (0 : Int32)), (.int (0 : Int32)), (.int (0 : Int32)), (.int (0 : Int32))] (.int (0 : Int32)) := Arv.set Ar255 q255 S255 N255 H255 G255 (fits_nar_char _) W255 2 rfl (Nat.le_of_ble_eq_true rfl)
  rw [show nar .char ch254 = ch254 from (own_lnc hp_ch254)] at V_b249
  have E_x := E_x.wr W255
  have Fc_x := Fc_x.other W255 (Or.inl ne_x_b249)
  have Fv_x := Fv_x.other W255 (Or.inl ne_x_b249)
  have V_t := V_t.other W255 ne_t_b249
  have E_b249 := E_b249.wr W255
  have O_ := O_.wr W255 g_b249
  have sf_ := sf_b249
  have CR0 := CR.1
  have CR := CR.trans (CHr.wr W255 sf_ CR.1)
  have sf_b249 := Safe.wr W255 sf_ CR0 sf_b249
  have hk_ := Nat.le_trans hk_ (Nat.le_of_eq W255.size.symm)
  have N255 := Fr.snoc X255 N254 g_b249
  have Z_ : n0 ≤ h255.size := by rw [W255.size]; exact Z_
  refine .st st255 ?_
  show OwnGoW p e below s Z own_EL _ _ _ T255 (mkF m 135 _ [])
  refine .aload X255 hx (hb hby at_135) rfl rfl ?_
  refine .iconst X255 hx (hb hby at_137) own_ki3 ?_
  refine .iconst X255 hx (hb hby at_138) own_ki3 ?_
  refine .aload X255 hx (hb hby at_139) rfl rfl ?_
  refine .st (fun _ => XS.lload X255.here hx rfl (hb hby at_141) rfl) ?_
  show OwnGoW p e below s Z own_EL _ _ _ T255 (mkF m 143 _ [(.long p5), (.ref x), (.int (3 : Int32)), (.int (3 : Int32)), (.ref b249)])
  refine .st (fun _ => XS.lload X255.here hx rfl (hb hby at_143) rfl) ?_
  show OwnGoW p e below s Z own_EL _ _ _ T255 (mkF m 145 _ [(.long p6), (.long p5), (.ref x), (.int (3 : Int32)), (.int (3 : Int32)), (.ref b249)])
  obtain ⟨_, _, ⟨T256, L256, k256, n256⟩, -, X256, ⟨Lc256, hQ256, l256, y256, z256⟩, st256⟩ := Jvm.LawKit.callS X255 hx (y := (⟨"com/example/tightrope/tightrope/junit/OutcomeOfTextPinLaw", "pick", "(ILjava/lang/String;JJ)C"⟩ : MethodName)) hown (mvT hZ (W_ hw 24 rfl)) (mvT hZ (W_ hw 25 rfl)) (mvT hZ (W_ hw 26 rfl)) (mvT hZ (W_ hw 27 rfl)) (by decide) (backOf (W := 2) (rmpk l Z a0 hw [] (3 : Int32) x t kt vs p5 p6 zc fmv h255 n0 Z_ O_ S_CS P_CS S_SF rf_fmv (by decide) E_x Fc_x Fv_x V_t l_vs) hZ (W_ hw 27 rfl) (W_ hw 26 rfl) (by decide) (by decide)) (g := (mkF m 145 #[.val (.int p1), .val (.int p2), .val (.int p3), .val (.int p4), .val (.long p5), .second, .val (.long p6), .second, .val (.int mo), .val (.ref x), .val (.int ln), .val (.ref b249), .unset, .unset, .unset] [(.long p6), (.long p5), (.ref x), (.int (3 : Int32)), (.int (3 : Int32)), (.ref b249)])) rfl (by rw [hml]; rfl) (argsL := [(.int (3 : Int32)), (.ref x), (.long p5), (.long p6)]) (rest := [(.int (3 : Int32)), (.ref b249)]) (lenOf pd_13 rfl) rfl (Nat.le_of_eq rfl) (hb hby at_145) (fun _ _ => ⟨rfl, e255, (by decide : 5 + 0 ≤ _), (by decide : 54 + 0 ≤ _)⟩)
  dsimp only [Pt.U, Pt.locs, Pt.cells, Pt.slots] at X256 l256 y256 z256 st256 hQ256
  subst l256 y256 z256
  obtain ⟨ch256, rfl, N256q, e256, hp_ch256⟩ := hQ256
  have N256 := Fr.app N255 N256q
  refine .st st256 ?_
  show OwnGoW p e below s Z own_EL _ _ _ T256 (mkF m 148 _ [(.int ch256), (.int (3 : Int32)), (.ref b249)])
  obtain ⟨cl257, Ar257, q257, S257, N257, H257, G257⟩ := id V_b249
  have hin257 : ¬ ((3 : Int32) < 0 ∨ cl257.slots.size ≤ ((3 : Int32)).toNatClampNeg) := inb_of S257 ⟨by decide, by decide⟩
  obtain ⟨T257, h257, X257, e257, W257, st257⟩ := stC X256 hx hZ e256 Ar257 (j := (3 : Int32)) hin257 (g := (mkF m 148 #[.val (.int p1), .val (.int p2), .val (.int p3), .val (.int p4), .val (.long p5), .second, .val (.long p6), .second, .val (.int mo), .val (.ref x), .val (.int ln), .val (.ref b249), .unset, .unset, .unset] [(.int ch256), (.int (3 : Int32)), (.ref b249)])) rfl rfl (hb hby at_148)
  have V_b249 : Arv Z h257 b249 k249 .char (10 : Int32) [(.int ch250), (.int ch252), (.int ch254), (.int (nar .char ch256)), (.int (0 : Int32)), (.int (0 : Int32)), (.int (0 : Int32)), (.int (0 : Int32)), (.int (0 : Int32)), (.int (0 : Int32))] (.int (0 : Int32)) := Arv.set Ar257 q257 S257 N257 H257 G257 (fits_nar_char _) W257 3 rfl (Nat.le_of_ble_eq_true rfl)
  rw [show nar .char ch256 = ch256 from (own_lnc hp_ch256)] at V_b249
  have E_x := E_x.wr W257
  have Fc_x := Fc_x.other W257 (Or.inl ne_x_b249)
  have Fv_x := Fv_x.other W257 (Or.inl ne_x_b249)
  have V_t := V_t.other W257 ne_t_b249
  have E_b249 := E_b249.wr W257
  have O_ := O_.wr W257 g_b249
  have sf_ := sf_b249
  have CR0 := CR.1
  have CR := CR.trans (CHr.wr W257 sf_ CR.1)
  have sf_b249 := Safe.wr W257 sf_ CR0 sf_b249
  have hk_ := Nat.le_trans hk_ (Nat.le_of_eq W257.size.symm)
  have N257 := Fr.snoc X257 N256 g_b249
  have Z_ : n0 ≤ h257.size := by rw [W257.size]; exact Z_
  refine .st st257 ?_
  show OwnGoW p e below s Z own_EL _ _ _ T257 (mkF m 149 _ [])
  refine .aload X257 hx (hb hby at_149) rfl rfl ?_
  refine .iconst X257 hx (hb hby at_151) own_ki4 ?_
  refine .iconst X257 hx (hb hby at_152) own_ki4 ?_
  refine .aload X257 hx (hb hby at_153) rfl rfl ?_
  refine .st (fun _ => XS.lload X257.here hx rfl (hb hby at_155) rfl) ?_
  show OwnGoW p e below s Z own_EL _ _ _ T257 (mkF m 157 _ [(.long p5), (.ref x), (.int (4 : Int32)), (.int (4 : Int32)), (.ref b249)])
  refine .st (fun _ => XS.lload X257.here hx rfl (hb hby at_157) rfl) ?_
  show OwnGoW p e below s Z own_EL _ _ _ T257 (mkF m 159 _ [(.long p6), (.long p5), (.ref x), (.int (4 : Int32)), (.int (4 : Int32)), (.ref b249)])
  obtain ⟨_, _, ⟨T258, L258, k258, n258⟩, -, X258, ⟨Lc258, hQ258, l258, y258, z258⟩, st258⟩ := Jvm.LawKit.callS X257 hx (y := (⟨"com/example/tightrope/tightrope/junit/OutcomeOfTextPinLaw", "pick", "(ILjava/lang/String;JJ)C"⟩ : MethodName)) hown (mvT hZ (W_ hw 24 rfl)) (mvT hZ (W_ hw 25 rfl)) (mvT hZ (W_ hw 26 rfl)) (mvT hZ (W_ hw 27 rfl)) (by decide) (backOf (W := 2) (rmpk l Z a0 hw [] (4 : Int32) x t kt vs p5 p6 zc fmv h257 n0 Z_ O_ S_CS P_CS S_SF rf_fmv (by decide) E_x Fc_x Fv_x V_t l_vs) hZ (W_ hw 27 rfl) (W_ hw 26 rfl) (by decide) (by decide)) (g := (mkF m 159 #[.val (.int p1), .val (.int p2), .val (.int p3), .val (.int p4), .val (.long p5), .second, .val (.long p6), .second, .val (.int mo), .val (.ref x), .val (.int ln), .val (.ref b249), .unset, .unset, .unset] [(.long p6), (.long p5), (.ref x), (.int (4 : Int32)), (.int (4 : Int32)), (.ref b249)])) rfl (by rw [hml]; rfl) (argsL := [(.int (4 : Int32)), (.ref x), (.long p5), (.long p6)]) (rest := [(.int (4 : Int32)), (.ref b249)]) (lenOf pd_13 rfl) rfl (Nat.le_of_eq rfl) (hb hby at_159) (fun _ _ => ⟨rfl, e257, (by decide : 5 + 0 ≤ _), (by decide : 54 + 0 ≤ _)⟩)
  dsimp only [Pt.U, Pt.locs, Pt.cells, Pt.slots] at X258 l258 y258 z258 st258 hQ258
  subst l258 y258 z258
  obtain ⟨ch258, rfl, N258q, e258, hp_ch258⟩ := hQ258
  have N258 := Fr.app N257 N258q
  refine .st st258 ?_
  show OwnGoW p e below s Z own_EL _ _ _ T258 (mkF m 162 _ [(.int ch258), (.int (4 : Int32)), (.ref b249)])
  obtain ⟨cl259, Ar259, q259, S259, N259, H259, G259⟩ := id V_b249
  have hin259 : ¬ ((4 : Int32) < 0 ∨ cl259.slots.size ≤ ((4 : Int32)).toNatClampNeg) := inb_of S259 ⟨by decide, by decide⟩
  obtain ⟨T259, h259, X259, e259, W259, st259⟩ := stC X258 hx hZ e258 Ar259 (j := (4 : Int32)) hin259 (g := (mkF m 162 #[.val (.int p1), .val (.int p2), .val (.int p3), .val (.int p4), .val (.long p5), .second, .val (.long p6), .second, .val (.int mo), .val (.ref x), .val (.int ln), .val (.ref b249), .unset, .unset, .unset] [(.int ch258), (.int (4 : Int32)), (.ref b249)])) rfl rfl (hb hby at_162)
  have V_b249 : Arv Z h259 b249 k249 .char (10 : Int32) [(.int ch250), (.int ch252), (.int ch254), (.int ch256), (.int (nar .char ch258)), (.int (0 : Int32)), (.int (0 : Int32)), (.int (0 : Int32)), (.int (0 : Int32)), (.int (0 : Int32))] (.int (0 : Int32)) := Arv.set Ar259 q259 S259 N259 H259 G259 (fits_nar_char _) W259 4 rfl (Nat.le_of_ble_eq_true rfl)
  rw [show nar .char ch258 = ch258 from (own_lnc hp_ch258)] at V_b249
  have E_x := E_x.wr W259
  have Fc_x := Fc_x.other W259 (Or.inl ne_x_b249)
  have Fv_x := Fv_x.other W259 (Or.inl ne_x_b249)
  have V_t := V_t.other W259 ne_t_b249
  have E_b249 := E_b249.wr W259
  have O_ := O_.wr W259 g_b249
  have sf_ := sf_b249
  have CR0 := CR.1
  have CR := CR.trans (CHr.wr W259 sf_ CR.1)
  have sf_b249 := Safe.wr W259 sf_ CR0 sf_b249
  have hk_ := Nat.le_trans hk_ (Nat.le_of_eq W259.size.symm)
  have N259 := Fr.snoc X259 N258 g_b249
  have Z_ : n0 ≤ h259.size := by rw [W259.size]; exact Z_
  refine .st st259 ?_
  show OwnGoW p e below s Z own_EL _ _ _ T259 (mkF m 163 _ [])
  refine .aload X259 hx (hb hby at_163) rfl rfl ?_
  refine .iconst X259 hx (hb hby at_165) own_ki5 ?_
  refine .iconst X259 hx (hb hby at_166) own_ki5 ?_
  refine .aload X259 hx (hb hby at_167) rfl rfl ?_
  refine .st (fun _ => XS.lload X259.here hx rfl (hb hby at_169) rfl) ?_
  show OwnGoW p e below s Z own_EL _ _ _ T259 (mkF m 171 _ [(.long p5), (.ref x), (.int (5 : Int32)), (.int (5 : Int32)), (.ref b249)])
  refine .st (fun _ => XS.lload X259.here hx rfl (hb hby at_171) rfl) ?_
  show OwnGoW p e below s Z own_EL _ _ _ T259 (mkF m 173 _ [(.long p6), (.long p5), (.ref x), (.int (5 : Int32)), (.int (5 : Int32)), (.ref b249)])
  obtain ⟨_, _, ⟨T260, L260, k260, n260⟩, -, X260, ⟨Lc260, hQ260, l260, y260, z260⟩, st260⟩ := Jvm.LawKit.callS X259 hx (y := (⟨"com/example/tightrope/tightrope/junit/OutcomeOfTextPinLaw", "pick", "(ILjava/lang/String;JJ)C"⟩ : MethodName)) hown (mvT hZ (W_ hw 24 rfl)) (mvT hZ (W_ hw 25 rfl)) (mvT hZ (W_ hw 26 rfl)) (mvT hZ (W_ hw 27 rfl)) (by decide) (backOf (W := 2) (rmpk l Z a0 hw [] (5 : Int32) x t kt vs p5 p6 zc fmv h259 n0 Z_ O_ S_CS P_CS S_SF rf_fmv (by decide) E_x Fc_x Fv_x V_t l_vs) hZ (W_ hw 27 rfl) (W_ hw 26 rfl) (by decide) (by decide)) (g := (mkF m 173 #[.val (.int p1), .val (.int p2), .val (.int p3), .val (.int p4), .val (.long p5), .second, .val (.long p6), .second, .val (.int mo), .val (.ref x), .val (.int ln), .val (.ref b249), .unset, .unset, .unset] [(.long p6), (.long p5), (.ref x), (.int (5 : Int32)), (.int (5 : Int32)), (.ref b249)])) rfl (by rw [hml]; rfl) (argsL := [(.int (5 : Int32)), (.ref x), (.long p5), (.long p6)]) (rest := [(.int (5 : Int32)), (.ref b249)]) (lenOf pd_13 rfl) rfl (Nat.le_of_eq rfl) (hb hby at_173) (fun _ _ => ⟨rfl, e259, (by decide : 5 + 0 ≤ _), (by decide : 54 + 0 ≤ _)⟩)
  dsimp only [Pt.U, Pt.locs, Pt.cells, Pt.slots] at X260 l260 y260 z260 st260 hQ260
  subst l260 y260 z260
  obtain ⟨ch260, rfl, N260q, e260, hp_ch260⟩ := hQ260
  have N260 := Fr.app N259 N260q
  refine .st st260 ?_
  show OwnGoW p e below s Z own_EL _ _ _ T260 (mkF m 176 _ [(.int ch260), (.int (5 : Int32)), (.ref b249)])
  obtain ⟨cl261, Ar261, q261, S261, N261, H261, G261⟩ := id V_b249
  have hin261 : ¬ ((5 : Int32) < 0 ∨ cl261.slots.size ≤ ((5 : Int32)).toNatClampNeg) := inb_of S261 ⟨by decide, by decide⟩
  obtain ⟨T261, h261, X261, e261, W261, st261⟩ := stC X260 hx hZ e260 Ar261 (j := (5 : Int32)) hin261 (g := (mkF m 176 #[.val (.int p1), .val (.int p2), .val (.int p3), .val (.int p4), .val (.long p5), .second, .val (.long p6), .second, .val (.int mo), .val (.ref x), .val (.int ln), .val (.ref b249), .unset, .unset, .unset] [(.int ch260), (.int (5 : Int32)), (.ref b249)])) rfl rfl (hb hby at_176)
  have V_b249 : Arv Z h261 b249 k249 .char (10 : Int32) [(.int ch250), (.int ch252), (.int ch254), (.int ch256), (.int ch258), (.int (nar .char ch260)), (.int (0 : Int32)), (.int (0 : Int32)), (.int (0 : Int32)), (.int (0 : Int32))] (.int (0 : Int32)) := Arv.set Ar261 q261 S261 N261 H261 G261 (fits_nar_char _) W261 5 rfl (Nat.le_of_ble_eq_true rfl)
  rw [show nar .char ch260 = ch260 from (own_lnc hp_ch260)] at V_b249
  have E_x := E_x.wr W261
  have Fc_x := Fc_x.other W261 (Or.inl ne_x_b249)
  have Fv_x := Fv_x.other W261 (Or.inl ne_x_b249)
  have V_t := V_t.other W261 ne_t_b249
  have E_b249 := E_b249.wr W261
  have O_ := O_.wr W261 g_b249
  have sf_ := sf_b249
  have CR0 := CR.1
  have CR := CR.trans (CHr.wr W261 sf_ CR.1)
  have sf_b249 := Safe.wr W261 sf_ CR0 sf_b249
  have hk_ := Nat.le_trans hk_ (Nat.le_of_eq W261.size.symm)
  have N261 := Fr.snoc X261 N260 g_b249
  have Z_ : n0 ≤ h261.size := by rw [W261.size]; exact Z_
  refine .st st261 ?_
  show OwnGoW p e below s Z own_EL _ _ _ T261 (mkF m 177 _ [])
  refine .aload X261 hx (hb hby at_177) rfl rfl ?_
  refine .bipush X261 hx (hb hby at_179) own_kb6 ?_
  refine .bipush X261 hx (hb hby at_181) own_kb6 ?_
  refine .aload X261 hx (hb hby at_183) rfl rfl ?_
  refine .st (fun _ => XS.lload X261.here hx rfl (hb hby at_185) rfl) ?_
  show OwnGoW p e below s Z own_EL _ _ _ T261 (mkF m 187 _ [(.long p5), (.ref x), (.int (6 : Int32)), (.int (6 : Int32)), (.ref b249)])
  refine .st (fun _ => XS.lload X261.here hx rfl (hb hby at_187) rfl) ?_
  show OwnGoW p e below s Z own_EL _ _ _ T261 (mkF m 189 _ [(.long p6), (.long p5), (.ref x), (.int (6 : Int32)), (.int (6 : Int32)), (.ref b249)])
  obtain ⟨_, _, ⟨T262, L262, k262, n262⟩, -, X262, ⟨Lc262, hQ262, l262, y262, z262⟩, st262⟩ := Jvm.LawKit.callS X261 hx (y := (⟨"com/example/tightrope/tightrope/junit/OutcomeOfTextPinLaw", "pick", "(ILjava/lang/String;JJ)C"⟩ : MethodName)) hown (mvT hZ (W_ hw 24 rfl)) (mvT hZ (W_ hw 25 rfl)) (mvT hZ (W_ hw 26 rfl)) (mvT hZ (W_ hw 27 rfl)) (by decide) (backOf (W := 2) (rmpk l Z a0 hw [] (6 : Int32) x t kt vs p5 p6 zc fmv h261 n0 Z_ O_ S_CS P_CS S_SF rf_fmv (by decide) E_x Fc_x Fv_x V_t l_vs) hZ (W_ hw 27 rfl) (W_ hw 26 rfl) (by decide) (by decide)) (g := (mkF m 189 #[.val (.int p1), .val (.int p2), .val (.int p3), .val (.int p4), .val (.long p5), .second, .val (.long p6), .second, .val (.int mo), .val (.ref x), .val (.int ln), .val (.ref b249), .unset, .unset, .unset] [(.long p6), (.long p5), (.ref x), (.int (6 : Int32)), (.int (6 : Int32)), (.ref b249)])) rfl (by rw [hml]; rfl) (argsL := [(.int (6 : Int32)), (.ref x), (.long p5), (.long p6)]) (rest := [(.int (6 : Int32)), (.ref b249)]) (lenOf pd_13 rfl) rfl (Nat.le_of_eq rfl) (hb hby at_189) (fun _ _ => ⟨rfl, e261, (by decide : 5 + 0 ≤ _), (by decide : 54 + 0 ≤ _)⟩)
  dsimp only [Pt.U, Pt.locs, Pt.cells, Pt.slots] at X262 l262 y262 z262 st262 hQ262
  subst l262 y262 z262
  obtain ⟨ch262, rfl, N262q, e262, hp_ch262⟩ := hQ262
  have N262 := Fr.app N261 N262q
  refine .st st262 ?_
  show OwnGoW p e below s Z own_EL _ _ _ T262 (mkF m 192 _ [(.int ch262), (.int (6 : Int32)), (.ref b249)])
  obtain ⟨cl263, Ar263, q263, S263, N263, H263, G263⟩ := id V_b249
  have hin263 : ¬ ((6 : Int32) < 0 ∨ cl263.slots.size ≤ ((6 : Int32)).toNatClampNeg) := inb_of S263 ⟨by decide, by decide⟩
  obtain ⟨T263, h263, X263, e263, W263, st263⟩ := stC X262 hx hZ e262 Ar263 (j := (6 : Int32)) hin263 (g := (mkF m 192 #[.val (.int p1), .val (.int p2), .val (.int p3), .val (.int p4), .val (.long p5), .second, .val (.long p6), .second, .val (.int mo), .val (.ref x), .val (.int ln), .val (.ref b249), .unset, .unset, .unset] [(.int ch262), (.int (6 : Int32)), (.ref b249)])) rfl rfl (hb hby at_192)
  have V_b249 : Arv Z h263 b249 k249 .char (10 : Int32) [(.int ch250), (.int ch252), (.int ch254), (.int ch256), (.int ch258), (.int ch260), (.int (nar .char ch262)), (.int (0 : Int32)), (.int (0 : Int32)), (.int (0 : Int32))] (.int (0 : Int32)) := Arv.set Ar263 q263 S263 N263 H263 G263 (fits_nar_char _) W263 6 rfl (Nat.le_of_ble_eq_true rfl)
  rw [show nar .char ch262 = ch262 from (own_lnc hp_ch262)] at V_b249
  have E_x := E_x.wr W263
  have Fc_x := Fc_x.other W263 (Or.inl ne_x_b249)
  have Fv_x := Fv_x.other W263 (Or.inl ne_x_b249)
  have V_t := V_t.other W263 ne_t_b249
  have E_b249 := E_b249.wr W263
  have O_ := O_.wr W263 g_b249
  have sf_ := sf_b249
  have CR0 := CR.1
  have CR := CR.trans (CHr.wr W263 sf_ CR.1)
  have sf_b249 := Safe.wr W263 sf_ CR0 sf_b249
  have hk_ := Nat.le_trans hk_ (Nat.le_of_eq W263.size.symm)
  have N263 := Fr.snoc X263 N262 g_b249
  have Z_ : n0 ≤ h263.size := by rw [W263.size]; exact Z_
  refine .st st263 ?_
  show OwnGoW p e below s Z own_EL _ _ _ T263 (mkF m 193 _ [])
  refine .aload X263 hx (hb hby at_193) rfl rfl ?_
  refine .bipush X263 hx (hb hby at_195) own_kb7 ?_
  refine .bipush X263 hx (hb hby at_197) own_kb7 ?_
  refine .aload X263 hx (hb hby at_199) rfl rfl ?_
  refine .st (fun _ => XS.lload X263.here hx rfl (hb hby at_201) rfl) ?_
  show OwnGoW p e below s Z own_EL _ _ _ T263 (mkF m 203 _ [(.long p5), (.ref x), (.int (7 : Int32)), (.int (7 : Int32)), (.ref b249)])
  refine .st (fun _ => XS.lload X263.here hx rfl (hb hby at_203) rfl) ?_
  show OwnGoW p e below s Z own_EL _ _ _ T263 (mkF m 205 _ [(.long p6), (.long p5), (.ref x), (.int (7 : Int32)), (.int (7 : Int32)), (.ref b249)])
  obtain ⟨_, _, ⟨T264, L264, k264, n264⟩, -, X264, ⟨Lc264, hQ264, l264, y264, z264⟩, st264⟩ := Jvm.LawKit.callS X263 hx (y := (⟨"com/example/tightrope/tightrope/junit/OutcomeOfTextPinLaw", "pick", "(ILjava/lang/String;JJ)C"⟩ : MethodName)) hown (mvT hZ (W_ hw 24 rfl)) (mvT hZ (W_ hw 25 rfl)) (mvT hZ (W_ hw 26 rfl)) (mvT hZ (W_ hw 27 rfl)) (by decide) (backOf (W := 2) (rmpk l Z a0 hw [] (7 : Int32) x t kt vs p5 p6 zc fmv h263 n0 Z_ O_ S_CS P_CS S_SF rf_fmv (by decide) E_x Fc_x Fv_x V_t l_vs) hZ (W_ hw 27 rfl) (W_ hw 26 rfl) (by decide) (by decide)) (g := (mkF m 205 #[.val (.int p1), .val (.int p2), .val (.int p3), .val (.int p4), .val (.long p5), .second, .val (.long p6), .second, .val (.int mo), .val (.ref x), .val (.int ln), .val (.ref b249), .unset, .unset, .unset] [(.long p6), (.long p5), (.ref x), (.int (7 : Int32)), (.int (7 : Int32)), (.ref b249)])) rfl (by rw [hml]; rfl) (argsL := [(.int (7 : Int32)), (.ref x), (.long p5), (.long p6)]) (rest := [(.int (7 : Int32)), (.ref b249)]) (lenOf pd_13 rfl) rfl (Nat.le_of_eq rfl) (hb hby at_205) (fun _ _ => ⟨rfl, e263, (by decide : 5 + 0 ≤ _), (by decide : 54 + 0 ≤ _)⟩)
  dsimp only [Pt.U, Pt.locs, Pt.cells, Pt.slots] at X264 l264 y264 z264 st264 hQ264
  subst l264 y264 z264
  obtain ⟨ch264, rfl, N264q, e264, hp_ch264⟩ := hQ264
  have N264 := Fr.app N263 N264q
  refine .st st264 ?_
  show OwnGoW p e below s Z own_EL _ _ _ T264 (mkF m 208 _ [(.int ch264), (.int (7 : Int32)), (.ref b249)])
  obtain ⟨cl265, Ar265, q265, S265, N265, H265, G265⟩ := id V_b249
  have hin265 : ¬ ((7 : Int32) < 0 ∨ cl265.slots.size ≤ ((7 : Int32)).toNatClampNeg) := inb_of S265 ⟨by decide, by decide⟩
  obtain ⟨T265, h265, X265, e265, W265, st265⟩ := stC X264 hx hZ e264 Ar265 (j := (7 : Int32)) hin265 (g := (mkF m 208 #[.val (.int p1), .val (.int p2), .val (.int p3), .val (.int p4), .val (.long p5), .second, .val (.long p6), .second, .val (.int mo), .val (.ref x), .val (.int ln), .val (.ref b249), .unset, .unset, .unset] [(.int ch264), (.int (7 : Int32)), (.ref b249)])) rfl rfl (hb hby at_208)
  have V_b249 : Arv Z h265 b249 k249 .char (10 : Int32) [(.int ch250), (.int ch252), (.int ch254), (.int ch256), (.int ch258), (.int ch260), (.int ch262), (.int (nar .char ch264)), (.int (0 : Int32)), (.int (0 : Int32))] (.int (0 : Int32)) := Arv.set Ar265 q265 S265 N265 H265 G265 (fits_nar_char _) W265 7 rfl (Nat.le_of_ble_eq_true rfl)
  rw [show nar .char ch264 = ch264 from (own_lnc hp_ch264)] at V_b249
  have E_x := E_x.wr W265
  have Fc_x := Fc_x.other W265 (Or.inl ne_x_b249)
  have Fv_x := Fv_x.other W265 (Or.inl ne_x_b249)
  have V_t := V_t.other W265 ne_t_b249
  have E_b249 := E_b249.wr W265
  have O_ := O_.wr W265 g_b249
  have sf_ := sf_b249
  have CR0 := CR.1
  have CR := CR.trans (CHr.wr W265 sf_ CR.1)
  have sf_b249 := Safe.wr W265 sf_ CR0 sf_b249
  have hk_ := Nat.le_trans hk_ (Nat.le_of_eq W265.size.symm)
  have N265 := Fr.snoc X265 N264 g_b249
  have Z_ : n0 ≤ h265.size := by rw [W265.size]; exact Z_
  refine .st st265 ?_
  show OwnGoW p e below s Z own_EL _ _ _ T265 (mkF m 209 _ [])
  refine .aload X265 hx (hb hby at_209) rfl rfl ?_
  refine .bipush X265 hx (hb hby at_211) own_kb8 ?_
  refine .bipush X265 hx (hb hby at_213) own_kb8 ?_
  refine .aload X265 hx (hb hby at_215) rfl rfl ?_
  refine .st (fun _ => XS.lload X265.here hx rfl (hb hby at_217) rfl) ?_
  show OwnGoW p e below s Z own_EL _ _ _ T265 (mkF m 219 _ [(.long p5), (.ref x), (.int (8 : Int32)), (.int (8 : Int32)), (.ref b249)])
  refine .st (fun _ => XS.lload X265.here hx rfl (hb hby at_219) rfl) ?_
  show OwnGoW p e below s Z own_EL _ _ _ T265 (mkF m 221 _ [(.long p6), (.long p5), (.ref x), (.int (8 : Int32)), (.int (8 : Int32)), (.ref b249)])
  obtain ⟨_, _, ⟨T266, L266, k266, n266⟩, -, X266, ⟨Lc266, hQ266, l266, y266, z266⟩, st266⟩ := Jvm.LawKit.callS X265 hx (y := (⟨"com/example/tightrope/tightrope/junit/OutcomeOfTextPinLaw", "pick", "(ILjava/lang/String;JJ)C"⟩ : MethodName)) hown (mvT hZ (W_ hw 24 rfl)) (mvT hZ (W_ hw 25 rfl)) (mvT hZ (W_ hw 26 rfl)) (mvT hZ (W_ hw 27 rfl)) (by decide) (backOf (W := 2) (rmpk l Z a0 hw [] (8 : Int32) x t kt vs p5 p6 zc fmv h265 n0 Z_ O_ S_CS P_CS S_SF rf_fmv (by decide) E_x Fc_x Fv_x V_t l_vs) hZ (W_ hw 27 rfl) (W_ hw 26 rfl) (by decide) (by decide)) (g := (mkF m 221 #[.val (.int p1), .val (.int p2), .val (.int p3), .val (.int p4), .val (.long p5), .second, .val (.long p6), .second, .val (.int mo), .val (.ref x), .val (.int ln), .val (.ref b249), .unset, .unset, .unset] [(.long p6), (.long p5), (.ref x), (.int (8 : Int32)), (.int (8 : Int32)), (.ref b249)])) rfl (by rw [hml]; rfl) (argsL := [(.int (8 : Int32)), (.ref x), (.long p5), (.long p6)]) (rest := [(.int (8 : Int32)), (.ref b249)]) (lenOf pd_13 rfl) rfl (Nat.le_of_eq rfl) (hb hby at_221) (fun _ _ => ⟨rfl, e265, (by decide : 5 + 0 ≤ _), (by decide : 54 + 0 ≤ _)⟩)
  dsimp only [Pt.U, Pt.locs, Pt.cells, Pt.slots] at X266 l266 y266 z266 st266 hQ266
  subst l266 y266 z266
  obtain ⟨ch266, rfl, N266q, e266, hp_ch266⟩ := hQ266
  have N266 := Fr.app N265 N266q
  refine .st st266 ?_
  show OwnGoW p e below s Z own_EL _ _ _ T266 (mkF m 224 _ [(.int ch266), (.int (8 : Int32)), (.ref b249)])
  obtain ⟨cl267, Ar267, q267, S267, N267, H267, G267⟩ := id V_b249
  have hin267 : ¬ ((8 : Int32) < 0 ∨ cl267.slots.size ≤ ((8 : Int32)).toNatClampNeg) := inb_of S267 ⟨by decide, by decide⟩
  obtain ⟨T267, h267, X267, e267, W267, st267⟩ := stC X266 hx hZ e266 Ar267 (j := (8 : Int32)) hin267 (g := (mkF m 224 #[.val (.int p1), .val (.int p2), .val (.int p3), .val (.int p4), .val (.long p5), .second, .val (.long p6), .second, .val (.int mo), .val (.ref x), .val (.int ln), .val (.ref b249), .unset, .unset, .unset] [(.int ch266), (.int (8 : Int32)), (.ref b249)])) rfl rfl (hb hby at_224)
  have V_b249 : Arv Z h267 b249 k249 .char (10 : Int32) [(.int ch250), (.int ch252), (.int ch254), (.int ch256), (.int ch258), (.int ch260), (.int ch262), (.int ch264), (.int (nar .char ch266)), (.int (0 : Int32))] (.int (0 : Int32)) := Arv.set Ar267 q267 S267 N267 H267 G267 (fits_nar_char _) W267 8 rfl (Nat.le_of_ble_eq_true rfl)
  rw [show nar .char ch266 = ch266 from (own_lnc hp_ch266)] at V_b249
  have E_x := E_x.wr W267
  have Fc_x := Fc_x.other W267 (Or.inl ne_x_b249)
  have Fv_x := Fv_x.other W267 (Or.inl ne_x_b249)
  have V_t := V_t.other W267 ne_t_b249
  have E_b249 := E_b249.wr W267
  have O_ := O_.wr W267 g_b249
  have sf_ := sf_b249
  have CR0 := CR.1
  have CR := CR.trans (CHr.wr W267 sf_ CR.1)
  have sf_b249 := Safe.wr W267 sf_ CR0 sf_b249
  have hk_ := Nat.le_trans hk_ (Nat.le_of_eq W267.size.symm)
  have N267 := Fr.snoc X267 N266 g_b249
  have Z_ : n0 ≤ h267.size := by rw [W267.size]; exact Z_
  refine .st st267 ?_
  show OwnGoW p e below s Z own_EL _ _ _ T267 (mkF m 225 _ [])
  refine .aload X267 hx (hb hby at_225) rfl rfl ?_
  refine .bipush X267 hx (hb hby at_227) own_kb9 ?_
  refine .bipush X267 hx (hb hby at_229) own_kb9 ?_
  refine .aload X267 hx (hb hby at_231) rfl rfl ?_
  refine .st (fun _ => XS.lload X267.here hx rfl (hb hby at_233) rfl) ?_
  show OwnGoW p e below s Z own_EL _ _ _ T267 (mkF m 235 _ [(.long p5), (.ref x), (.int (9 : Int32)), (.int (9 : Int32)), (.ref b249)])
  refine .st (fun _ => XS.lload X267.here hx rfl (hb hby at_235) rfl) ?_
  show OwnGoW p e below s Z own_EL _ _ _ T267 (mkF m 237 _ [(.long p6), (.long p5), (.ref x), (.int (9 : Int32)), (.int (9 : Int32)), (.ref b249)])
  obtain ⟨_, _, ⟨T268, L268, k268, n268⟩, -, X268, ⟨Lc268, hQ268, l268, y268, z268⟩, st268⟩ := Jvm.LawKit.callS X267 hx (y := (⟨"com/example/tightrope/tightrope/junit/OutcomeOfTextPinLaw", "pick", "(ILjava/lang/String;JJ)C"⟩ : MethodName)) hown (mvT hZ (W_ hw 24 rfl)) (mvT hZ (W_ hw 25 rfl)) (mvT hZ (W_ hw 26 rfl)) (mvT hZ (W_ hw 27 rfl)) (by decide) (backOf (W := 2) (rmpk l Z a0 hw [] (9 : Int32) x t kt vs p5 p6 zc fmv h267 n0 Z_ O_ S_CS P_CS S_SF rf_fmv (by decide) E_x Fc_x Fv_x V_t l_vs) hZ (W_ hw 27 rfl) (W_ hw 26 rfl) (by decide) (by decide)) (g := (mkF m 237 #[.val (.int p1), .val (.int p2), .val (.int p3), .val (.int p4), .val (.long p5), .second, .val (.long p6), .second, .val (.int mo), .val (.ref x), .val (.int ln), .val (.ref b249), .unset, .unset, .unset] [(.long p6), (.long p5), (.ref x), (.int (9 : Int32)), (.int (9 : Int32)), (.ref b249)])) rfl (by rw [hml]; rfl) (argsL := [(.int (9 : Int32)), (.ref x), (.long p5), (.long p6)]) (rest := [(.int (9 : Int32)), (.ref b249)]) (lenOf pd_13 rfl) rfl (Nat.le_of_eq rfl) (hb hby at_237) (fun _ _ => ⟨rfl, e267, (by decide : 5 + 0 ≤ _), (by decide : 54 + 0 ≤ _)⟩)
  dsimp only [Pt.U, Pt.locs, Pt.cells, Pt.slots] at X268 l268 y268 z268 st268 hQ268
  subst l268 y268 z268
  obtain ⟨ch268, rfl, N268q, e268, hp_ch268⟩ := hQ268
  have N268 := Fr.app N267 N268q
  refine .st st268 ?_
  show OwnGoW p e below s Z own_EL _ _ _ T268 (mkF m 240 _ [(.int ch268), (.int (9 : Int32)), (.ref b249)])
  obtain ⟨cl269, Ar269, q269, S269, N269, H269, G269⟩ := id V_b249
  have hin269 : ¬ ((9 : Int32) < 0 ∨ cl269.slots.size ≤ ((9 : Int32)).toNatClampNeg) := inb_of S269 ⟨by decide, by decide⟩
  obtain ⟨T269, h269, X269, e269, W269, st269⟩ := stC X268 hx hZ e268 Ar269 (j := (9 : Int32)) hin269 (g := (mkF m 240 #[.val (.int p1), .val (.int p2), .val (.int p3), .val (.int p4), .val (.long p5), .second, .val (.long p6), .second, .val (.int mo), .val (.ref x), .val (.int ln), .val (.ref b249), .unset, .unset, .unset] [(.int ch268), (.int (9 : Int32)), (.ref b249)])) rfl rfl (hb hby at_240)
  have V_b249 : Arv Z h269 b249 k249 .char (10 : Int32) [(.int ch250), (.int ch252), (.int ch254), (.int ch256), (.int ch258), (.int ch260), (.int ch262), (.int ch264), (.int ch266), (.int (nar .char ch268))] (.int (0 : Int32)) := Arv.set Ar269 q269 S269 N269 H269 G269 (fits_nar_char _) W269 9 rfl (Nat.le_of_ble_eq_true rfl)
  rw [show nar .char ch268 = ch268 from (own_lnc hp_ch268)] at V_b249
  have E_x := E_x.wr W269
  have Fc_x := Fc_x.other W269 (Or.inl ne_x_b249)
  have Fv_x := Fv_x.other W269 (Or.inl ne_x_b249)
  have V_t := V_t.other W269 ne_t_b249
  have E_b249 := E_b249.wr W269
  have O_ := O_.wr W269 g_b249
  have sf_ := sf_b249
  have CR0 := CR.1
  have CR := CR.trans (CHr.wr W269 sf_ CR.1)
  have sf_b249 := Safe.wr W269 sf_ CR0 sf_b249
  have hk_ := Nat.le_trans hk_ (Nat.le_of_eq W269.size.symm)
  have N269 := Fr.snoc X269 N268 g_b249
  have Z_ : n0 ≤ h269.size := by rw [W269.size]; exact Z_
  refine .st st269 ?_
  show OwnGoW p e below s Z own_EL _ _ _ T269 (mkF m 241 _ [])
  refine .iloadN X269 hx (hb hby at_241) rfl ?_
  refine .bipush X269 hx (hb hby at_242) own_kb16 ?_
  refine .st (fun _ => XS.iand X269.here hx rfl (hb hby at_244) rfl) ?_
  show OwnGoW p e below s Z own_EL _ _ _ T269 (mkF m 245 _ [(.int (p1 &&& (16 : Int32)))])
  by_cases h16 : (p1 &&& (16 : Int32)) = (0 : Int32)
  · refine .ifYes (pc := 245) X269 hx 269 (hb hby at_245) ((if0 _ _).trans (teq (h16 : (p1 &&& (16 : Int32)) = (0 : Int32))).1) (by decide) (by decide) ?_
    exact sgD p1 p2 p3 p4 p5 p6 u_Outcome__VALUES u_Outcome_PASSED u_Outcome_FAILED u_Outcome_ABORTED u_Outcome_NOT_FOUND u_Outcome_PASSED_text u_Outcome_PASSED_text_value u_Outcome_FAILED_text u_Outcome_FAILED_text_value u_Outcome_ABORTED_text u_Outcome_ABORTED_text_value u_Outcome_NOT_FOUND_text u_Outcome_NOT_FOUND_text_value kc_u_Outcome__VALUES kc_u_Outcome_PASSED_text_value kc_u_Outcome_FAILED_text_value kc_u_Outcome_ABORTED_text_value kc_u_Outcome_NOT_FOUND_text_value zc fmv mo x ln b249 k249 ch250 ch252 ch254 ch256 ch258 ch260 ch262 ch264 ch266 ch268 h0 n0 hw X269 hx hby hml hret hlk hown hnm hZ e269 N269 Z_ hS_ hk_ CR S_u_Outcome__VALUES E_u_Outcome__VALUES S_u_Outcome_PASSED E_u_Outcome_PASSED S_u_Outcome_FAILED E_u_Outcome_FAILED S_u_Outcome_ABORTED E_u_Outcome_ABORTED S_u_Outcome_NOT_FOUND E_u_Outcome_NOT_FOUND F_u_Outcome_PASSED_text E_u_Outcome_PASSED_text F_u_Outcome_PASSED_text_coder F_u_Outcome_PASSED_text_value F_u_Outcome_FAILED_text E_u_Outcome_FAILED_text F_u_Outcome_FAILED_text_coder F_u_Outcome_FAILED_text_value F_u_Outcome_ABORTED_text E_u_Outcome_ABORTED_text F_u_Outcome_ABORTED_text_coder F_u_Outcome_ABORTED_text_value F_u_Outcome_NOT_FOUND_text E_u_Outcome_NOT_FOUND_text F_u_Outcome_NOT_FOUND_text_coder F_u_Outcome_NOT_FOUND_text_value V_u_Outcome__VALUES V_u_Outcome_PASSED_text_value V_u_Outcome_FAILED_text_value V_u_Outcome_ABORTED_text_value V_u_Outcome_NOT_FOUND_text_value S_CS P_CS S_SF rf_fmv V_b249 O_ hn hn' hp_ch250 hp_ch252 hp_ch254 hp_ch256 hp_ch258 hp_ch260 hp_ch262 hp_ch264 hp_ch266 hp_ch268
  · refine .ifNo X269 hx (hb hby at_245) ((if0 _ _).trans (feq (h16 : ¬ ((p1 &&& (16 : Int32)) = (0 : Int32)))).1) ?_
    refine .iload X269 hx (hb hby at_248) rfl ?_
    by_cases h0n : (0 : Int32) < ln
    · refine .ifNo X269 hx (hb hby at_250) ((if0 _ _).trans (tlt (h0n : (0 : Int32) < ln)).2.2.2) ?_
      refine .aload X269 hx (hb hby at_253) rfl rfl ?_
      refine .iloadN X269 hx (hb hby at_255) rfl ?_
      refine .st (fun _ => X269.ldcInt hx hown (mvT hZ (W_ hw 9 rfl)) (g := (mkF m 256 #[.val (.int p1), .val (.int p2), .val (.int p3), .val (.int p4), .val (.long p5), .second, .val (.long p6), .second, .val (.int mo), .val (.ref x), .val (.int ln), .val (.ref b249), .unset, .unset, .unset] [(.int p3), (.ref b249)])) rfl (hb hby at_256) _) ?_
      show OwnGoW p e below s Z own_EL _ _ _ T269 (mkF m 258 _ [(.int (2147483647 : Int32)), (.int p3), (.ref b249)])
      refine .st (fun _ => XS.iand X269.here hx rfl (hb hby at_258) rfl) ?_
      show OwnGoW p e below s Z own_EL _ _ _ T269 (mkF m 259 _ [(.int (p3 &&& (2147483647 : Int32))), (.ref b249)])
      refine .iload X269 hx (hb hby at_259) rfl ?_
      refine .st (fun _ => iremM (g := (mkF m 261 #[.val (.int p1), .val (.int p2), .val (.int p3), .val (.int p4), .val (.long p5), .second, .val (.long p6), .second, .val (.int mo), .val (.ref x), .val (.int ln), .val (.ref b249), .unset, .unset, .unset] [(.int ln), (.int (p3 &&& (2147483647 : Int32))), (.ref b249)])) X269 hx rfl (hb hby at_261) rfl (own_pos0 h0n)) ?_
      show OwnGoW p e below s Z own_EL _ _ _ T269 (mkF m 262 _ [(.int ((p3 &&& (2147483647 : Int32)) % ln)), (.ref b249)])
      refine .iloadN X269 hx (hb hby at_262) rfl ?_
      refine .sipush X269 hx (hb hby at_263) own_ks255 ?_
      refine .st (fun _ => XS.iand X269.here hx rfl (hb hby at_266) rfl) ?_
      show OwnGoW p e below s Z own_EL _ _ _ T269 (mkF m 267 _ [(.int (p4 &&& (255 : Int32))), (.int ((p3 &&& (2147483647 : Int32)) % ln)), (.ref b249)])
      refine .st (fun _ => XS.i2c X269.here hx rfl (hb hby at_267) rfl) ?_
      show OwnGoW p e below s Z own_EL _ _ _ T269 (mkF m 268 _ [(.int ((p4 &&& (255 : Int32)).toUInt32.toUInt16.toUInt32.toInt32)), (.int ((p3 &&& (2147483647 : Int32)) % ln)), (.ref b249)])
      obtain ⟨cc, hcc⟩ : ∃ z : Int32, z = ((p4 &&& (255 : Int32)).toUInt32.toUInt16.toUInt32.toInt32) := ⟨_, rfl⟩
      rw [← hcc]
      show OwnGoW p e below s Z own_EL _ _ _ T269 (mkF m 268 _ [(.int cc), (.int ((p3 &&& (2147483647 : Int32)) % ln)), (.ref b249)])
      have hp_cc : ¬ cc < 0 ∧ ¬ (255 : Int32) < cc := by rw [hcc]; exact own_lmk _
      obtain ⟨ix, hix⟩ : ∃ z : Int32, z = ((p3 &&& (2147483647 : Int32)) % ln) := ⟨_, rfl⟩
      rw [← hix]
      show OwnGoW p e below s Z own_EL _ _ _ T269 (mkF m 268 _ [(.int cc), (.int ix), (.ref b249)])
      have hix := own_ix h0n hn' hix
      obtain ⟨cl270, Ar270, q270, S270, N270, H270, G270⟩ := id V_b249
      obtain ⟨T270, h270, X270, e270, W270, st270⟩ := stC X269 hx hZ e269 Ar270 (j := ix) (inb_of S270 hix) (g := (mkF m 268 #[.val (.int p1), .val (.int p2), .val (.int p3), .val (.int p4), .val (.long p5), .second, .val (.long p6), .second, .val (.int mo), .val (.ref x), .val (.int ln), .val (.ref b249), .unset, .unset, .unset] [(.int cc), (.int ix), (.ref b249)])) rfl rfl (hb hby at_268)
      have V' := Arv.set Ar270 q270 S270 N270 H270 G270 (fits_nar_char _) W270 ix.toNatClampNeg rfl (own_ix10 hix)
      rw [show nar .char cc = cc from own_lnc hp_cc] at V'
      have E_b249 := E_b249.wr W270
      have O_ := O_.wr W270 g_b249
      have sf_ := sf_b249
      have CR0 := CR.1
      have CR := CR.trans (CHr.wr W270 sf_ CR.1)
      have sf_b249 := Safe.wr W270 sf_ CR0 sf_b249
      have hk_ := Nat.le_trans hk_ (Nat.le_of_eq W270.size.symm)
      have N270 := Fr.snoc X270 N269 g_b249
      have Z_ : n0 ≤ h270.size := by rw [W270.size]; exact Z_
      obtain ⟨c0, c1, c2, c3, c4, c5, c6, c7, c8, c9, hset, hp_c0, hp_c1, hp_c2, hp_c3, hp_c4, hp_c5, hp_c6, hp_c7, hp_c8, hp_c9⟩ := own_set10 ix.toNatClampNeg hp_cc hp_ch250 hp_ch252 hp_ch254 hp_ch256 hp_ch258 hp_ch260 hp_ch262 hp_ch264 hp_ch266 hp_ch268
      rw [hset] at V'
      have V_b249 := V'
      refine .st st270 ?_
      show OwnGoW p e below s Z own_EL _ _ _ T270 (mkF m 269 _ [])
      exact sgD p1 p2 p3 p4 p5 p6 u_Outcome__VALUES u_Outcome_PASSED u_Outcome_FAILED u_Outcome_ABORTED u_Outcome_NOT_FOUND u_Outcome_PASSED_text u_Outcome_PASSED_text_value u_Outcome_FAILED_text u_Outcome_FAILED_text_value u_Outcome_ABORTED_text u_Outcome_ABORTED_text_value u_Outcome_NOT_FOUND_text u_Outcome_NOT_FOUND_text_value kc_u_Outcome__VALUES kc_u_Outcome_PASSED_text_value kc_u_Outcome_FAILED_text_value kc_u_Outcome_ABORTED_text_value kc_u_Outcome_NOT_FOUND_text_value zc fmv mo x ln b249 k249 c0 c1 c2 c3 c4 c5 c6 c7 c8 c9 h0 n0 hw X270 hx hby hml hret hlk hown hnm hZ e270 N270 Z_ hS_ hk_ CR S_u_Outcome__VALUES E_u_Outcome__VALUES S_u_Outcome_PASSED E_u_Outcome_PASSED S_u_Outcome_FAILED E_u_Outcome_FAILED S_u_Outcome_ABORTED E_u_Outcome_ABORTED S_u_Outcome_NOT_FOUND E_u_Outcome_NOT_FOUND F_u_Outcome_PASSED_text E_u_Outcome_PASSED_text F_u_Outcome_PASSED_text_coder F_u_Outcome_PASSED_text_value F_u_Outcome_FAILED_text E_u_Outcome_FAILED_text F_u_Outcome_FAILED_text_coder F_u_Outcome_FAILED_text_value F_u_Outcome_ABORTED_text E_u_Outcome_ABORTED_text F_u_Outcome_ABORTED_text_coder F_u_Outcome_ABORTED_text_value F_u_Outcome_NOT_FOUND_text E_u_Outcome_NOT_FOUND_text F_u_Outcome_NOT_FOUND_text_coder F_u_Outcome_NOT_FOUND_text_value V_u_Outcome__VALUES V_u_Outcome_PASSED_text_value V_u_Outcome_FAILED_text_value V_u_Outcome_ABORTED_text_value V_u_Outcome_NOT_FOUND_text_value S_CS P_CS S_SF rf_fmv V_b249 O_ hn hn' hp_c0 hp_c1 hp_c2 hp_c3 hp_c4 hp_c5 hp_c6 hp_c7 hp_c8 hp_c9
    · refine .ifYes (pc := 250) X269 hx 269 (hb hby at_250) ((if0 _ _).trans (flt (h0n : ¬ ((0 : Int32) < ln))).2.2.2) (by decide) (by decide) ?_
      exact sgD p1 p2 p3 p4 p5 p6 u_Outcome__VALUES u_Outcome_PASSED u_Outcome_FAILED u_Outcome_ABORTED u_Outcome_NOT_FOUND u_Outcome_PASSED_text u_Outcome_PASSED_text_value u_Outcome_FAILED_text u_Outcome_FAILED_text_value u_Outcome_ABORTED_text u_Outcome_ABORTED_text_value u_Outcome_NOT_FOUND_text u_Outcome_NOT_FOUND_text_value kc_u_Outcome__VALUES kc_u_Outcome_PASSED_text_value kc_u_Outcome_FAILED_text_value kc_u_Outcome_ABORTED_text_value kc_u_Outcome_NOT_FOUND_text_value zc fmv mo x ln b249 k249 ch250 ch252 ch254 ch256 ch258 ch260 ch262 ch264 ch266 ch268 h0 n0 hw X269 hx hby hml hret hlk hown hnm hZ e269 N269 Z_ hS_ hk_ CR S_u_Outcome__VALUES E_u_Outcome__VALUES S_u_Outcome_PASSED E_u_Outcome_PASSED S_u_Outcome_FAILED E_u_Outcome_FAILED S_u_Outcome_ABORTED E_u_Outcome_ABORTED S_u_Outcome_NOT_FOUND E_u_Outcome_NOT_FOUND F_u_Outcome_PASSED_text E_u_Outcome_PASSED_text F_u_Outcome_PASSED_text_coder F_u_Outcome_PASSED_text_value F_u_Outcome_FAILED_text E_u_Outcome_FAILED_text F_u_Outcome_FAILED_text_coder F_u_Outcome_FAILED_text_value F_u_Outcome_ABORTED_text E_u_Outcome_ABORTED_text F_u_Outcome_ABORTED_text_coder F_u_Outcome_ABORTED_text_value F_u_Outcome_NOT_FOUND_text E_u_Outcome_NOT_FOUND_text F_u_Outcome_NOT_FOUND_text_coder F_u_Outcome_NOT_FOUND_text_value V_u_Outcome__VALUES V_u_Outcome_PASSED_text_value V_u_Outcome_FAILED_text_value V_u_Outcome_ABORTED_text_value V_u_Outcome_NOT_FOUND_text_value S_CS P_CS S_SF rf_fmv V_b249 O_ hn hn' hp_ch250 hp_ch252 hp_ch254 hp_ch256 hp_ch258 hp_ch260 hp_ch262 hp_ch264 hp_ch266 hp_ch268
theorem sgA {p : Program} {l : Launch} {e : Env} {s : State} {m : MethodId} {below : List Frame} {meth : Method} {c : Code} {Z : State} {a0 : Array Value} {T0 : State} {locs : List Loc} {vm1 : Vm} {k1 : Nat} {h1 : Heap} (p1 : Int32) (p2 : Int32) (p3 : Int32) (p4 : Int32) (p5 : Int64) (p6 : Int64) (u_Outcome__VALUES : Addr) (u_Outcome_PASSED : Addr) (u_Outcome_FAILED : Addr) (u_Outcome_ABORTED : Addr) (u_Outcome_NOT_FOUND : Addr) (u_Outcome_PASSED_text : Addr) (u_Outcome_PASSED_text_value : Addr) (u_Outcome_FAILED_text : Addr) (u_Outcome_FAILED_text_value : Addr) (u_Outcome_ABORTED_text : Addr) (u_Outcome_ABORTED_text_value : Addr) (u_Outcome_NOT_FOUND_text : Addr) (u_Outcome_NOT_FOUND_text_value : Addr) (kc_u_Outcome__VALUES : ClassId) (kc_u_Outcome_PASSED_text_value : ClassId) (kc_u_Outcome_FAILED_text_value : ClassId) (kc_u_Outcome_ABORTED_text_value : ClassId) (kc_u_Outcome_NOT_FOUND_text_value : ClassId) (zc : Int32) (fmv : Value) (mo : Int32) (x : Addr) (t : Addr) (kt : ClassId) (vs : List Int32) (h0 : Heap) (n0 : Nat) (hw : ∀ d ∈ tables_1, d.before a0 Z = true)
    (X0 : Stand p l e room_1 (s.setVm vm1) m #[(.int p1), (.int p2), (.int p3), (.int p4), (.long p5), (.long p6)] below meth c T0 locs 4 44) (hx : p.tables.exec = Jvm.exec) (hby : c.code = code) (hml : c.maxLocals = 15) (hret : meth.sig.returnType = ret) (hlk : meth.locks = false) (hown : (s.setVm vm1).vm.findClass "com/example/tightrope/tightrope/junit/OutcomeOfTextPinLaw" = some m.cls) (hnm : meth.name = "law") (hZ : Z.Warmed39 (s.setVm vm1).vm) (e0 : T0.heap = h1) (N0 : Fr n0 locs) (Z_ : n0 ≤ h1.size) (hS_ : s.Since vm1 k1) (hk_ : k1 ≤ h1.size) (CR : CHr Z own_EL s.vm s.heap vm1 h1) (S_u_Outcome__VALUES : Sta Z Z.heap "com/example/tightrope/tightrope/junit/Outcome" "$VALUES" "[Lcom/example/tightrope/tightrope/junit/Outcome;" (.ref u_Outcome__VALUES)) (E_u_Outcome__VALUES : Exa Z Z.heap u_Outcome__VALUES "[Lcom/example/tightrope/tightrope/junit/Outcome;") (S_u_Outcome_PASSED : Sta Z Z.heap "com/example/tightrope/tightrope/junit/Outcome" "PASSED" "Lcom/example/tightrope/tightrope/junit/Outcome;" (.ref u_Outcome_PASSED)) (E_u_Outcome_PASSED : Exa Z Z.heap u_Outcome_PASSED "com/example/tightrope/tightrope/junit/Outcome") (S_u_Outcome_FAILED : Sta Z Z.heap "com/example/tightrope/tightrope/junit/Outcome" "FAILED" "Lcom/example/tightrope/tightrope/junit/Outcome;" (.ref u_Outcome_FAILED)) (E_u_Outcome_FAILED : Exa Z Z.heap u_Outcome_FAILED "com/example/tightrope/tightrope/junit/Outcome") (S_u_Outcome_ABORTED : Sta Z Z.heap "com/example/tightrope/tightrope/junit/Outcome" "ABORTED" "Lcom/example/tightrope/tightrope/junit/Outcome;" (.ref u_Outcome_ABORTED)) (E_u_Outcome_ABORTED : Exa Z Z.heap u_Outcome_ABORTED "com/example/tightrope/tightrope/junit/Outcome") (S_u_Outcome_NOT_FOUND : Sta Z Z.heap "com/example/tightrope/tightrope/junit/Outcome" "NOT_FOUND" "Lcom/example/tightrope/tightrope/junit/Outcome;" (.ref u_Outcome_NOT_FOUND)) (E_u_Outcome_NOT_FOUND : Exa Z Z.heap u_Outcome_NOT_FOUND "com/example/tightrope/tightrope/junit/Outcome") (F_u_Outcome_PASSED_text : Fld Z Z.heap u_Outcome_PASSED "com/example/tightrope/tightrope/junit/Outcome" "text" "Ljava/lang/String;" (.ref u_Outcome_PASSED_text)) (E_u_Outcome_PASSED_text : Exa Z Z.heap u_Outcome_PASSED_text "java/lang/String") (F_u_Outcome_PASSED_text_coder : Fld Z Z.heap u_Outcome_PASSED_text "java/lang/String" "coder" "B" (.int (0 : Int32))) (F_u_Outcome_PASSED_text_value : Fld Z Z.heap u_Outcome_PASSED_text "java/lang/String" "value" "[B" (.ref u_Outcome_PASSED_text_value)) (F_u_Outcome_FAILED_text : Fld Z Z.heap u_Outcome_FAILED "com/example/tightrope/tightrope/junit/Outcome" "text" "Ljava/lang/String;" (.ref u_Outcome_FAILED_text)) (E_u_Outcome_FAILED_text : Exa Z Z.heap u_Outcome_FAILED_text "java/lang/String") (F_u_Outcome_FAILED_text_coder : Fld Z Z.heap u_Outcome_FAILED_text "java/lang/String" "coder" "B" (.int (0 : Int32))) (F_u_Outcome_FAILED_text_value : Fld Z Z.heap u_Outcome_FAILED_text "java/lang/String" "value" "[B" (.ref u_Outcome_FAILED_text_value)) (F_u_Outcome_ABORTED_text : Fld Z Z.heap u_Outcome_ABORTED "com/example/tightrope/tightrope/junit/Outcome" "text" "Ljava/lang/String;" (.ref u_Outcome_ABORTED_text)) (E_u_Outcome_ABORTED_text : Exa Z Z.heap u_Outcome_ABORTED_text "java/lang/String") (F_u_Outcome_ABORTED_text_coder : Fld Z Z.heap u_Outcome_ABORTED_text "java/lang/String" "coder" "B" (.int (0 : Int32))) (F_u_Outcome_ABORTED_text_value : Fld Z Z.heap u_Outcome_ABORTED_text "java/lang/String" "value" "[B" (.ref u_Outcome_ABORTED_text_value)) (F_u_Outcome_NOT_FOUND_text : Fld Z Z.heap u_Outcome_NOT_FOUND "com/example/tightrope/tightrope/junit/Outcome" "text" "Ljava/lang/String;" (.ref u_Outcome_NOT_FOUND_text)) (E_u_Outcome_NOT_FOUND_text : Exa Z Z.heap u_Outcome_NOT_FOUND_text "java/lang/String") (F_u_Outcome_NOT_FOUND_text_coder : Fld Z Z.heap u_Outcome_NOT_FOUND_text "java/lang/String" "coder" "B" (.int (0 : Int32))) (F_u_Outcome_NOT_FOUND_text_value : Fld Z Z.heap u_Outcome_NOT_FOUND_text "java/lang/String" "value" "[B" (.ref u_Outcome_NOT_FOUND_text_value)) (V_u_Outcome__VALUES : Arv Z Z.heap u_Outcome__VALUES kc_u_Outcome__VALUES (Jvm.ClassFile.FieldType.object "com/example/tightrope/tightrope/junit/Outcome") (4 : Int32) [(.ref u_Outcome_PASSED), (.ref u_Outcome_FAILED), (.ref u_Outcome_ABORTED), (.ref u_Outcome_NOT_FOUND)] .null) (V_u_Outcome_PASSED_text_value : Arv Z Z.heap u_Outcome_PASSED_text_value kc_u_Outcome_PASSED_text_value Jvm.ClassFile.FieldType.byte (6 : Int32) [(.int (112 : Int32)), (.int (97 : Int32)), (.int (115 : Int32)), (.int (115 : Int32)), (.int (101 : Int32)), (.int (100 : Int32))] (.int (0 : Int32))) (V_u_Outcome_FAILED_text_value : Arv Z Z.heap u_Outcome_FAILED_text_value kc_u_Outcome_FAILED_text_value Jvm.ClassFile.FieldType.byte (6 : Int32) [(.int (102 : Int32)), (.int (97 : Int32)), (.int (105 : Int32)), (.int (108 : Int32)), (.int (101 : Int32)), (.int (100 : Int32))] (.int (0 : Int32))) (V_u_Outcome_ABORTED_text_value : Arv Z Z.heap u_Outcome_ABORTED_text_value kc_u_Outcome_ABORTED_text_value Jvm.ClassFile.FieldType.byte (7 : Int32) [(.int (97 : Int32)), (.int (98 : Int32)), (.int (111 : Int32)), (.int (114 : Int32)), (.int (116 : Int32)), (.int (101 : Int32)), (.int (100 : Int32))] (.int (0 : Int32))) (V_u_Outcome_NOT_FOUND_text_value : Arv Z Z.heap u_Outcome_NOT_FOUND_text_value kc_u_Outcome_NOT_FOUND_text_value Jvm.ClassFile.FieldType.byte (9 : Int32) [(.int (110 : Int32)), (.int (111 : Int32)), (.int (116 : Int32)), (.int (45 : Int32)), (.int (102 : Int32)), (.int (111 : Int32)), (.int (117 : Int32)), (.int (110 : Int32)), (.int (100 : Int32))] (.int (0 : Int32))) (S_CS : Sta Z Z.heap "java/lang/String" "COMPACT_STRINGS" "Z" (.int zc)) (P_CS : ¬ zc = (0 : Int32)) (S_SF : Sta Z Z.heap "jdk/internal/util/Preconditions" "SIOOBE_FORMATTER" "Ljava/util/function/BiFunction;" fmv) (rf_fmv : fmv.isRef = true) (O_ : Old Z n0 h1) (E_x : Exa Z h1 x "java/lang/String") (Fc_x : Fld Z h1 x "java/lang/String" "coder" "B" (.int (0 : Int32))) (Fv_x : Fld Z h1 x "java/lang/String" "value" "[B" (.ref t)) (V_t : Arv Z h1 t kt .byte (Int32.ofNat (List.length vs)) (List.map Value.int vs) (.int (0 : Int32))) (hl : List.length vs < 11) :
    OwnGoW p e below s Z own_EL room_1.cells room_1.slots (Q0 Z p1 p2 p3 p4 p5 p6 u_Outcome__VALUES u_Outcome_PASSED u_Outcome_FAILED u_Outcome_ABORTED u_Outcome_NOT_FOUND u_Outcome_PASSED_text u_Outcome_PASSED_text_value u_Outcome_FAILED_text u_Outcome_FAILED_text_value u_Outcome_ABORTED_text u_Outcome_ABORTED_text_value u_Outcome_NOT_FOUND_text u_Outcome_NOT_FOUND_text_value kc_u_Outcome__VALUES kc_u_Outcome_PASSED_text_value kc_u_Outcome_FAILED_text_value kc_u_Outcome_ABORTED_text_value kc_u_Outcome_NOT_FOUND_text_value zc fmv h0 n0) T0 (mkF m 58 #[.val (.int p1), .val (.int p2), .val (.int p3), .val (.int p4), .val (.long p5), .second, .val (.long p6), .second, .val (.int mo), .val (.ref x), .unset, .unset, .unset, .unset, .unset] []) := by
  show OwnGoW p e below s Z own_EL _ _ _ T0 (mkF m 58 _ [])
  have l_vs : List.length vs < 2 ^ 31 := by omega
  refine .iloadN X0 hx (hb hby at_58) rfl ?_
  refine .st (fun _ => X0.ldcInt hx hown (mvT hZ (W_ hw 9 rfl)) (g := (mkF m 59 #[.val (.int p1), .val (.int p2), .val (.int p3), .val (.int p4), .val (.long p5), .second, .val (.long p6), .second, .val (.int mo), .val (.ref x), .unset, .unset, .unset, .unset, .unset] [(.int p2)])) rfl (hb hby at_59) _) ?_
  show OwnGoW p e below s Z own_EL _ _ _ T0 (mkF m 61 _ [(.int (2147483647 : Int32)), (.int p2)])
  refine .st (fun _ => XS.iand X0.here hx rfl (hb hby at_61) rfl) ?_
  show OwnGoW p e below s Z own_EL _ _ _ T0 (mkF m 62 _ [(.int (p2 &&& (2147483647 : Int32)))])
  refine .bipush X0 hx (hb hby at_62) own_kb11 ?_
  refine .st (fun _ => iremM (g := (mkF m 64 #[.val (.int p1), .val (.int p2), .val (.int p3), .val (.int p4), .val (.long p5), .second, .val (.long p6), .second, .val (.int mo), .val (.ref x), .unset, .unset, .unset, .unset, .unset] [(.int (11 : Int32)), (.int (p2 &&& (2147483647 : Int32)))])) X0 hx rfl (hb hby at_64) rfl (by decide)) ?_
  show OwnGoW p e below s Z own_EL _ _ _ T0 (mkF m 65 _ [(.int ((p2 &&& (2147483647 : Int32)) % (11 : Int32)))])
  obtain ⟨ln, hln⟩ : ∃ z : Int32, z = ((p2 &&& (2147483647 : Int32)) % (11 : Int32)) := ⟨_, rfl⟩
  rw [← hln]
  show OwnGoW p e below s Z own_EL _ _ _ T0 (mkF m 65 _ [(.int ln)])
  have hln := own_m11 _ _ hln
  have hn : ¬ ln < (0 : Int32) := hln.1
  have hn' : ln < (11 : Int32) := hln.2
  refine .istore X0 hx (hb hby at_65) (L' := #[.val (.int p1), .val (.int p2), .val (.int p3), .val (.int p4), .val (.long p5), .second, .val (.long p6), .second, .val (.int mo), .val (.ref x), .val (.int ln), .unset, .unset, .unset, .unset]) rfl ?_
  refine .iload X0 hx (hb hby at_67) rfl ?_
  refine .iconst X0 hx (hb hby at_69) own_ki4 ?_
  by_cases h4 : mo < (4 : Int32)
  · refine .icmpNo X0 hx (hb hby at_70) (tlt (h4 : mo < (4 : Int32))).2.1 ?_
    refine .iloadN X0 hx (hb hby at_73) rfl ?_
    refine .bipush X0 hx (hb hby at_74) own_kb8 ?_
    refine .st (fun _ => XS.iand X0.here hx rfl (hb hby at_76) rfl) ?_
    show OwnGoW p e below s Z own_EL _ _ _ T0 (mkF m 77 _ [(.int (p1 &&& (8 : Int32)))])
    by_cases h8 : (p1 &&& (8 : Int32)) = (0 : Int32)
    · refine .ifNo X0 hx (hb hby at_77) ((if0 _ _).trans (teq (h8 : (p1 &&& (8 : Int32)) = (0 : Int32))).2) ?_
      refine .aload X0 hx (hb hby at_80) rfl rfl ?_
      obtain ⟨cq248, kq248, q248a, q248b, q248c⟩ := isOf hZ e0 E_x
      obtain ⟨_, _, ⟨T248, L248, k248, n248⟩, -, X248, ⟨Lc248, hQ248, l248, y248, z248⟩, st248⟩ := X0.virtualBack hx (y := (⟨"java/lang/String", "length", "()I"⟩ : MethodName)) (z := (⟨"java/lang/String", "length", "()I"⟩ : MethodName)) hown (mvT hZ (W_ hw 10 rfl)) (mvT hZ (W_ hw 11 rfl)) (notFace_of_selects (args := #[]) (mvT hZ (W_ hw 13 rfl))) (mvT hZ (W_ hw 13 rfl)) (mvT hZ (W_ hw 12 rfl)) (by decide) (backOf (W := 0) (rmlength l Z a0 hw [] x t kt (Int32.ofNat (List.length vs)) (List.map Value.int vs) zc h1 n0 Z_ O_ S_CS P_CS E_x Fc_x Fv_x V_t) hZ (W_ hw 14 rfl) (W_ hw 1 rfl) (by decide) (by decide)) q248a q248c (g := (mkF m 82 #[.val (.int p1), .val (.int p2), .val (.int p3), .val (.int p4), .val (.long p5), .second, .val (.long p6), .second, .val (.int mo), .val (.ref x), .val (.int ln), .unset, .unset, .unset, .unset] [(.ref x)])) rfl (by rw [hml]; rfl) (Steps.refl _) (argsL := []) (rest := []) (lenOf pd_6 rfl) rfl (Nat.le_of_eq rfl) (hb hby at_82) (fun _ _ => ⟨rfl, e0, (by decide : 4 + 0 ≤ _), (by decide : 44 + 0 ≤ _)⟩)
      dsimp only [Pt.U, Pt.locs, Pt.cells, Pt.slots] at X248 l248 y248 z248 st248 hQ248
      subst l248 y248 z248
      obtain ⟨rfl, N248q, e248⟩ := hQ248
      have N248 := Fr.app N0 N248q
      refine .st (fun _ => st248.trans) ?_
      show OwnGoW p e below s Z own_EL _ _ _ T248 (mkF m 85 _ [(.int (Int32.ofNat (List.length vs)))])
      refine .istore X248 hx (hb hby at_85) (L' := #[.val (.int p1), .val (.int p2), .val (.int p3), .val (.int p4), .val (.long p5), .second, .val (.long p6), .second, .val (.int mo), .val (.ref x), .val (.int (Int32.ofNat (List.length vs))), .unset, .unset, .unset, .unset]) rfl ?_
      exact sgB p1 p2 p3 p4 p5 p6 u_Outcome__VALUES u_Outcome_PASSED u_Outcome_FAILED u_Outcome_ABORTED u_Outcome_NOT_FOUND u_Outcome_PASSED_text u_Outcome_PASSED_text_value u_Outcome_FAILED_text u_Outcome_FAILED_text_value u_Outcome_ABORTED_text u_Outcome_ABORTED_text_value u_Outcome_NOT_FOUND_text u_Outcome_NOT_FOUND_text_value kc_u_Outcome__VALUES kc_u_Outcome_PASSED_text_value kc_u_Outcome_FAILED_text_value kc_u_Outcome_ABORTED_text_value kc_u_Outcome_NOT_FOUND_text_value zc fmv mo x t kt vs (Int32.ofNat (List.length vs)) h0 n0 hw X248 hx hby hml hret hlk hown hnm hZ e248 N248 Z_ hS_ hk_ CR S_u_Outcome__VALUES E_u_Outcome__VALUES S_u_Outcome_PASSED E_u_Outcome_PASSED S_u_Outcome_FAILED E_u_Outcome_FAILED S_u_Outcome_ABORTED E_u_Outcome_ABORTED S_u_Outcome_NOT_FOUND E_u_Outcome_NOT_FOUND F_u_Outcome_PASSED_text E_u_Outcome_PASSED_text F_u_Outcome_PASSED_text_coder F_u_Outcome_PASSED_text_value F_u_Outcome_FAILED_text E_u_Outcome_FAILED_text F_u_Outcome_FAILED_text_coder F_u_Outcome_FAILED_text_value F_u_Outcome_ABORTED_text E_u_Outcome_ABORTED_text F_u_Outcome_ABORTED_text_coder F_u_Outcome_ABORTED_text_value F_u_Outcome_NOT_FOUND_text E_u_Outcome_NOT_FOUND_text F_u_Outcome_NOT_FOUND_text_coder F_u_Outcome_NOT_FOUND_text_value V_u_Outcome__VALUES V_u_Outcome_PASSED_text_value V_u_Outcome_FAILED_text_value V_u_Outcome_ABORTED_text_value V_u_Outcome_NOT_FOUND_text_value S_CS P_CS S_SF rf_fmv E_x Fc_x Fv_x O_ V_t l_vs (own_nn l_vs) (own_lt11 hl)
    · refine .ifYes (pc := 77) X0 hx 87 (hb hby at_77) ((if0 _ _).trans (feq (h8 : ¬ ((p1 &&& (8 : Int32)) = (0 : Int32)))).2) (by decide) (by decide) ?_
      exact sgB p1 p2 p3 p4 p5 p6 u_Outcome__VALUES u_Outcome_PASSED u_Outcome_FAILED u_Outcome_ABORTED u_Outcome_NOT_FOUND u_Outcome_PASSED_text u_Outcome_PASSED_text_value u_Outcome_FAILED_text u_Outcome_FAILED_text_value u_Outcome_ABORTED_text u_Outcome_ABORTED_text_value u_Outcome_NOT_FOUND_text u_Outcome_NOT_FOUND_text_value kc_u_Outcome__VALUES kc_u_Outcome_PASSED_text_value kc_u_Outcome_FAILED_text_value kc_u_Outcome_ABORTED_text_value kc_u_Outcome_NOT_FOUND_text_value zc fmv mo x t kt vs ln h0 n0 hw X0 hx hby hml hret hlk hown hnm hZ e0 N0 Z_ hS_ hk_ CR S_u_Outcome__VALUES E_u_Outcome__VALUES S_u_Outcome_PASSED E_u_Outcome_PASSED S_u_Outcome_FAILED E_u_Outcome_FAILED S_u_Outcome_ABORTED E_u_Outcome_ABORTED S_u_Outcome_NOT_FOUND E_u_Outcome_NOT_FOUND F_u_Outcome_PASSED_text E_u_Outcome_PASSED_text F_u_Outcome_PASSED_text_coder F_u_Outcome_PASSED_text_value F_u_Outcome_FAILED_text E_u_Outcome_FAILED_text F_u_Outcome_FAILED_text_coder F_u_Outcome_FAILED_text_value F_u_Outcome_ABORTED_text E_u_Outcome_ABORTED_text F_u_Outcome_ABORTED_text_coder F_u_Outcome_ABORTED_text_value F_u_Outcome_NOT_FOUND_text E_u_Outcome_NOT_FOUND_text F_u_Outcome_NOT_FOUND_text_coder F_u_Outcome_NOT_FOUND_text_value V_u_Outcome__VALUES V_u_Outcome_PASSED_text_value V_u_Outcome_FAILED_text_value V_u_Outcome_ABORTED_text_value V_u_Outcome_NOT_FOUND_text_value S_CS P_CS S_SF rf_fmv E_x Fc_x Fv_x O_ V_t l_vs hn hn'
  · refine .icmpYes (pc := 70) X0 hx 87 (hb hby at_70) (flt (h4 : ¬ (mo < (4 : Int32)))).2.1 (by decide) (by decide) ?_
    exact sgB p1 p2 p3 p4 p5 p6 u_Outcome__VALUES u_Outcome_PASSED u_Outcome_FAILED u_Outcome_ABORTED u_Outcome_NOT_FOUND u_Outcome_PASSED_text u_Outcome_PASSED_text_value u_Outcome_FAILED_text u_Outcome_FAILED_text_value u_Outcome_ABORTED_text u_Outcome_ABORTED_text_value u_Outcome_NOT_FOUND_text u_Outcome_NOT_FOUND_text_value kc_u_Outcome__VALUES kc_u_Outcome_PASSED_text_value kc_u_Outcome_FAILED_text_value kc_u_Outcome_ABORTED_text_value kc_u_Outcome_NOT_FOUND_text_value zc fmv mo x t kt vs ln h0 n0 hw X0 hx hby hml hret hlk hown hnm hZ e0 N0 Z_ hS_ hk_ CR S_u_Outcome__VALUES E_u_Outcome__VALUES S_u_Outcome_PASSED E_u_Outcome_PASSED S_u_Outcome_FAILED E_u_Outcome_FAILED S_u_Outcome_ABORTED E_u_Outcome_ABORTED S_u_Outcome_NOT_FOUND E_u_Outcome_NOT_FOUND F_u_Outcome_PASSED_text E_u_Outcome_PASSED_text F_u_Outcome_PASSED_text_coder F_u_Outcome_PASSED_text_value F_u_Outcome_FAILED_text E_u_Outcome_FAILED_text F_u_Outcome_FAILED_text_coder F_u_Outcome_FAILED_text_value F_u_Outcome_ABORTED_text E_u_Outcome_ABORTED_text F_u_Outcome_ABORTED_text_coder F_u_Outcome_ABORTED_text_value F_u_Outcome_NOT_FOUND_text E_u_Outcome_NOT_FOUND_text F_u_Outcome_NOT_FOUND_text_coder F_u_Outcome_NOT_FOUND_text_value V_u_Outcome__VALUES V_u_Outcome_PASSED_text_value V_u_Outcome_FAILED_text_value V_u_Outcome_ABORTED_text_value V_u_Outcome_NOT_FOUND_text_value S_CS P_CS S_SF rf_fmv E_x Fc_x Fv_x O_ V_t l_vs hn hn'
theorem rm0 (l : Launch) (Z : State) (a0 : Array Value) (hw : own_tb a0 Z) (ws : List Jvm.Cond) (p1 : Int32) (p2 : Int32) (p3 : Int32) (p4 : Int32) (p5 : Int64) (p6 : Int64) (u_Outcome__VALUES : Addr) (u_Outcome_PASSED : Addr) (u_Outcome_FAILED : Addr) (u_Outcome_ABORTED : Addr) (u_Outcome_NOT_FOUND : Addr) (u_Outcome_PASSED_text : Addr) (u_Outcome_PASSED_text_value : Addr) (u_Outcome_FAILED_text : Addr) (u_Outcome_FAILED_text_value : Addr) (u_Outcome_ABORTED_text : Addr) (u_Outcome_ABORTED_text_value : Addr) (u_Outcome_NOT_FOUND_text : Addr) (u_Outcome_NOT_FOUND_text_value : Addr) (kc_u_Outcome__VALUES : ClassId) (kc_u_Outcome_PASSED_text_value : ClassId) (kc_u_Outcome_FAILED_text_value : ClassId) (kc_u_Outcome_ABORTED_text_value : ClassId) (kc_u_Outcome_NOT_FOUND_text_value : ClassId) (zc : Int32) (fmv : Value) (h0 : Heap) (n0 : Nat) (Z0 : n0 ≤ h0.size) (O_ : Old Z n0 h0) (S_u_Outcome__VALUES : Sta Z Z.heap "com/example/tightrope/tightrope/junit/Outcome" "$VALUES" "[Lcom/example/tightrope/tightrope/junit/Outcome;" (.ref u_Outcome__VALUES)) (E_u_Outcome__VALUES : Exa Z Z.heap u_Outcome__VALUES "[Lcom/example/tightrope/tightrope/junit/Outcome;") (S_u_Outcome_PASSED : Sta Z Z.heap "com/example/tightrope/tightrope/junit/Outcome" "PASSED" "Lcom/example/tightrope/tightrope/junit/Outcome;" (.ref u_Outcome_PASSED)) (E_u_Outcome_PASSED : Exa Z Z.heap u_Outcome_PASSED "com/example/tightrope/tightrope/junit/Outcome") (S_u_Outcome_FAILED : Sta Z Z.heap "com/example/tightrope/tightrope/junit/Outcome" "FAILED" "Lcom/example/tightrope/tightrope/junit/Outcome;" (.ref u_Outcome_FAILED)) (E_u_Outcome_FAILED : Exa Z Z.heap u_Outcome_FAILED "com/example/tightrope/tightrope/junit/Outcome") (S_u_Outcome_ABORTED : Sta Z Z.heap "com/example/tightrope/tightrope/junit/Outcome" "ABORTED" "Lcom/example/tightrope/tightrope/junit/Outcome;" (.ref u_Outcome_ABORTED)) (E_u_Outcome_ABORTED : Exa Z Z.heap u_Outcome_ABORTED "com/example/tightrope/tightrope/junit/Outcome") (S_u_Outcome_NOT_FOUND : Sta Z Z.heap "com/example/tightrope/tightrope/junit/Outcome" "NOT_FOUND" "Lcom/example/tightrope/tightrope/junit/Outcome;" (.ref u_Outcome_NOT_FOUND)) (E_u_Outcome_NOT_FOUND : Exa Z Z.heap u_Outcome_NOT_FOUND "com/example/tightrope/tightrope/junit/Outcome") (F_u_Outcome_PASSED_text : Fld Z Z.heap u_Outcome_PASSED "com/example/tightrope/tightrope/junit/Outcome" "text" "Ljava/lang/String;" (.ref u_Outcome_PASSED_text)) (E_u_Outcome_PASSED_text : Exa Z Z.heap u_Outcome_PASSED_text "java/lang/String") (F_u_Outcome_PASSED_text_coder : Fld Z Z.heap u_Outcome_PASSED_text "java/lang/String" "coder" "B" (.int (0 : Int32))) (F_u_Outcome_PASSED_text_value : Fld Z Z.heap u_Outcome_PASSED_text "java/lang/String" "value" "[B" (.ref u_Outcome_PASSED_text_value)) (F_u_Outcome_FAILED_text : Fld Z Z.heap u_Outcome_FAILED "com/example/tightrope/tightrope/junit/Outcome" "text" "Ljava/lang/String;" (.ref u_Outcome_FAILED_text)) (E_u_Outcome_FAILED_text : Exa Z Z.heap u_Outcome_FAILED_text "java/lang/String") (F_u_Outcome_FAILED_text_coder : Fld Z Z.heap u_Outcome_FAILED_text "java/lang/String" "coder" "B" (.int (0 : Int32))) (F_u_Outcome_FAILED_text_value : Fld Z Z.heap u_Outcome_FAILED_text "java/lang/String" "value" "[B" (.ref u_Outcome_FAILED_text_value)) (F_u_Outcome_ABORTED_text : Fld Z Z.heap u_Outcome_ABORTED "com/example/tightrope/tightrope/junit/Outcome" "text" "Ljava/lang/String;" (.ref u_Outcome_ABORTED_text)) (E_u_Outcome_ABORTED_text : Exa Z Z.heap u_Outcome_ABORTED_text "java/lang/String") (F_u_Outcome_ABORTED_text_coder : Fld Z Z.heap u_Outcome_ABORTED_text "java/lang/String" "coder" "B" (.int (0 : Int32))) (F_u_Outcome_ABORTED_text_value : Fld Z Z.heap u_Outcome_ABORTED_text "java/lang/String" "value" "[B" (.ref u_Outcome_ABORTED_text_value)) (F_u_Outcome_NOT_FOUND_text : Fld Z Z.heap u_Outcome_NOT_FOUND "com/example/tightrope/tightrope/junit/Outcome" "text" "Ljava/lang/String;" (.ref u_Outcome_NOT_FOUND_text)) (E_u_Outcome_NOT_FOUND_text : Exa Z Z.heap u_Outcome_NOT_FOUND_text "java/lang/String") (F_u_Outcome_NOT_FOUND_text_coder : Fld Z Z.heap u_Outcome_NOT_FOUND_text "java/lang/String" "coder" "B" (.int (0 : Int32))) (F_u_Outcome_NOT_FOUND_text_value : Fld Z Z.heap u_Outcome_NOT_FOUND_text "java/lang/String" "value" "[B" (.ref u_Outcome_NOT_FOUND_text_value)) (V_u_Outcome__VALUES : Arv Z Z.heap u_Outcome__VALUES kc_u_Outcome__VALUES (Jvm.ClassFile.FieldType.object "com/example/tightrope/tightrope/junit/Outcome") (4 : Int32) [(.ref u_Outcome_PASSED), (.ref u_Outcome_FAILED), (.ref u_Outcome_ABORTED), (.ref u_Outcome_NOT_FOUND)] .null) (V_u_Outcome_PASSED_text_value : Arv Z Z.heap u_Outcome_PASSED_text_value kc_u_Outcome_PASSED_text_value Jvm.ClassFile.FieldType.byte (6 : Int32) [(.int (112 : Int32)), (.int (97 : Int32)), (.int (115 : Int32)), (.int (115 : Int32)), (.int (101 : Int32)), (.int (100 : Int32))] (.int (0 : Int32))) (V_u_Outcome_FAILED_text_value : Arv Z Z.heap u_Outcome_FAILED_text_value kc_u_Outcome_FAILED_text_value Jvm.ClassFile.FieldType.byte (6 : Int32) [(.int (102 : Int32)), (.int (97 : Int32)), (.int (105 : Int32)), (.int (108 : Int32)), (.int (101 : Int32)), (.int (100 : Int32))] (.int (0 : Int32))) (V_u_Outcome_ABORTED_text_value : Arv Z Z.heap u_Outcome_ABORTED_text_value kc_u_Outcome_ABORTED_text_value Jvm.ClassFile.FieldType.byte (7 : Int32) [(.int (97 : Int32)), (.int (98 : Int32)), (.int (111 : Int32)), (.int (114 : Int32)), (.int (116 : Int32)), (.int (101 : Int32)), (.int (100 : Int32))] (.int (0 : Int32))) (V_u_Outcome_NOT_FOUND_text_value : Arv Z Z.heap u_Outcome_NOT_FOUND_text_value kc_u_Outcome_NOT_FOUND_text_value Jvm.ClassFile.FieldType.byte (9 : Int32) [(.int (110 : Int32)), (.int (111 : Int32)), (.int (116 : Int32)), (.int (45 : Int32)), (.int (102 : Int32)), (.int (111 : Int32)), (.int (117 : Int32)), (.int (110 : Int32)), (.int (100 : Int32))] (.int (0 : Int32))) (S_CS : Sta Z Z.heap "java/lang/String" "COMPACT_STRINGS" "Z" (.int zc)) (P_CS : ¬ zc = (0 : Int32)) (S_SF : Sta Z Z.heap "jdk/internal/util/Preconditions" "SIOOBE_FORMATTER" "Ljava/util/function/BiFunction;" fmv) (rf_fmv : fmv.isRef = true) :
    OwnMetW l x code maxLocals ret ws room_1 #[(.int p1), (.int p2), (.int p3), (.int p4), (.long p5), (.long p6)] Z h0 (Q0 Z p1 p2 p3 p4 p5 p6 u_Outcome__VALUES u_Outcome_PASSED u_Outcome_FAILED u_Outcome_ABORTED u_Outcome_NOT_FOUND u_Outcome_PASSED_text u_Outcome_PASSED_text_value u_Outcome_FAILED_text u_Outcome_FAILED_text_value u_Outcome_ABORTED_text u_Outcome_ABORTED_text_value u_Outcome_NOT_FOUND_text u_Outcome_NOT_FOUND_text_value kc_u_Outcome__VALUES kc_u_Outcome_PASSED_text_value kc_u_Outcome_FAILED_text_value kc_u_Outcome_ABORTED_text_value kc_u_Outcome_NOT_FOUND_text_value zc fmv h0 n0) := by
  refine own_metW (EL := own_EL) (plainFor_of_name pn_9) ?_
  intro p e s m below meth c s₁ X0 hx hby hml hret hlk hown hnm hZ e0 hS_ CR
  have hk_ := Nat.le_refl h0.size
  have N0 := Fr.nil n0
  have Z_ := Z0
  refine OwnGoW.cast (ef_0 m p1 p2 p3 p4 p5 p6) ?_
  have hml : c.maxLocals = 15 := hml
  show OwnGoW p e below s Z own_EL _ _ _ s₁ (mkF m 0 _ [])
  refine .iloadN X0 hx (hb hby at_0) rfl ?_
  refine .bipush X0 hx (hb hby at_1) own_kb7 ?_
  refine .st (fun _ => XS.iand X0.here hx rfl (hb hby at_3) rfl) ?_
  show OwnGoW p e below s Z own_EL _ _ _ s₁ (mkF m 4 _ [(.int (p1 &&& (7 : Int32)))])
  obtain ⟨mo, hmo⟩ : ∃ z : Int32, z = (p1 &&& (7 : Int32)) := ⟨_, rfl⟩
  rw [← hmo]
  show OwnGoW p e below s Z own_EL _ _ _ s₁ (mkF m 4 _ [(.int mo)])
  refine .istore X0 hx (hb hby at_4) (L' := #[.val (.int p1), .val (.int p2), .val (.int p3), .val (.int p4), .val (.long p5), .second, .val (.long p6), .second, .val (.int mo), .unset, .unset, .unset, .unset, .unset, .unset]) rfl ?_
  obtain ⟨a243, T243, h243, k1_243, b243, kc243, X243, e243, E243, hS_, hkN, hZ, hown, Ea_, Fc_, Fv_, Vb_, -, -, CN, -, sN, st243⟩ := ldcCH (s := s) (vm0 := s.vm) X0 hx hZ hown (W_ hw 0 rfl) (own_wS hw) e0 hS_ hk_ (own_hEL hw) (by decide) CR.1 (vs := []) (z := (0 : Int32)) ⟨by decide, rfl⟩ (by decide) (by decide) (g := (mkF m 6 #[.val (.int p1), .val (.int p2), .val (.int p3), .val (.int p4), .val (.long p5), .second, .val (.long p6), .second, .val (.int mo), .unset, .unset, .unset, .unset, .unset, .unset] [])) rfl (hb hby at_6) (n := 0) (by decide) (by decide) (by decide) (by decide)
  have O_ := O_.ext E243
  have CR := CR.trans CN
  have hk_ := hkN
  have Z_ : n0 ≤ h243.size := Nat.le_trans Z_ E243.1
  have E_a243 := Ea_
  have Fc_a243 := Fc_
  have Fv_a243 := Fv_
  have V_b243 := Vb_
  refine .st st243 ?_
  show OwnGoW p e below s Z own_EL _ _ _ T243 (mkF m 8 _ [(.ref a243)])
  refine .astore X243 hx (hb hby at_8) rfl (L' := #[.val (.int p1), .val (.int p2), .val (.int p3), .val (.int p4), .val (.long p5), .second, .val (.long p6), .second, .val (.int mo), .val (.ref a243), .unset, .unset, .unset, .unset, .unset]) rfl ?_
  refine .iload X243 hx (hb hby at_10) rfl ?_
  by_cases hm0 : mo = (0 : Int32)
  · refine .ifNo X243 hx (hb hby at_12) ((if0 _ _).trans (teq (hm0 : mo = (0 : Int32))).2) ?_
    obtain ⟨a244, T244, h244, k1_244, b244, kc244, X244, e244, E244, hS_, hkN, hZ, hown, Ea_, Fc_, Fv_, Vb_, -, -, CN, -, sN, st244⟩ := ldcCH (s := s) (vm0 := T243.vm) X243 hx hZ hown (W_ hw 8 rfl) (own_wS hw) e243 hS_ hk_ (own_hEL hw) (by decide) CR.1 (vs := [(.int (112 : Int32)), (.int (97 : Int32)), (.int (115 : Int32)), (.int (115 : Int32)), (.int (101 : Int32)), (.int (100 : Int32))]) (z := (6 : Int32)) ⟨by decide, rfl⟩ (by decide) (by decide) (g := (mkF m 15 #[.val (.int p1), .val (.int p2), .val (.int p3), .val (.int p4), .val (.long p5), .second, .val (.long p6), .second, .val (.int mo), .val (.ref a243), .unset, .unset, .unset, .unset, .unset] [])) rfl (hb hby at_15) (n := 24) (by decide) (by decide) (by decide) (by decide)
    have E_a243 := E_a243.ext E244
    have Fc_a243 := Fc_a243.ext E244
    have Fv_a243 := Fv_a243.ext E244
    have V_b243 := V_b243.ext E244
    have O_ := O_.ext E244
    have CR := CR.trans CN
    have hk_ := hkN
    have Z_ : n0 ≤ h244.size := Nat.le_trans Z_ E244.1
    have E_a244 := Ea_
    have Fc_a244 := Fc_
    have Fv_a244 := Fv_
    have V_b244 := Vb_
    refine .st st244 ?_
    show OwnGoW p e below s Z own_EL _ _ _ T244 (mkF m 17 _ [(.ref a244)])
    refine .astore X244 hx (hb hby at_17) rfl (L' := #[.val (.int p1), .val (.int p2), .val (.int p3), .val (.int p4), .val (.long p5), .second, .val (.long p6), .second, .val (.int mo), .val (.ref a244), .unset, .unset, .unset, .unset, .unset]) rfl ?_
    refine .goto (pc := 19) X244 hx 58 (hb hby at_19) (by decide) (by decide) ?_
    exact sgA p1 p2 p3 p4 p5 p6 u_Outcome__VALUES u_Outcome_PASSED u_Outcome_FAILED u_Outcome_ABORTED u_Outcome_NOT_FOUND u_Outcome_PASSED_text u_Outcome_PASSED_text_value u_Outcome_FAILED_text u_Outcome_FAILED_text_value u_Outcome_ABORTED_text u_Outcome_ABORTED_text_value u_Outcome_NOT_FOUND_text u_Outcome_NOT_FOUND_text_value kc_u_Outcome__VALUES kc_u_Outcome_PASSED_text_value kc_u_Outcome_FAILED_text_value kc_u_Outcome_ABORTED_text_value kc_u_Outcome_NOT_FOUND_text_value zc fmv mo a244 b244 kc244 ([112, 97, 115, 115, 101, 100] : List Int32) h0 n0 hw (X244.mono (by decide) (by decide)) hx hby hml hret hlk hown hnm hZ e244 N0 Z_ hS_ hk_ CR S_u_Outcome__VALUES E_u_Outcome__VALUES S_u_Outcome_PASSED E_u_Outcome_PASSED S_u_Outcome_FAILED E_u_Outcome_FAILED S_u_Outcome_ABORTED E_u_Outcome_ABORTED S_u_Outcome_NOT_FOUND E_u_Outcome_NOT_FOUND F_u_Outcome_PASSED_text E_u_Outcome_PASSED_text F_u_Outcome_PASSED_text_coder F_u_Outcome_PASSED_text_value F_u_Outcome_FAILED_text E_u_Outcome_FAILED_text F_u_Outcome_FAILED_text_coder F_u_Outcome_FAILED_text_value F_u_Outcome_ABORTED_text E_u_Outcome_ABORTED_text F_u_Outcome_ABORTED_text_coder F_u_Outcome_ABORTED_text_value F_u_Outcome_NOT_FOUND_text E_u_Outcome_NOT_FOUND_text F_u_Outcome_NOT_FOUND_text_coder F_u_Outcome_NOT_FOUND_text_value V_u_Outcome__VALUES V_u_Outcome_PASSED_text_value V_u_Outcome_FAILED_text_value V_u_Outcome_ABORTED_text_value V_u_Outcome_NOT_FOUND_text_value S_CS P_CS S_SF rf_fmv O_ E_a244 Fc_a244 Fv_a244 V_b244 (by decide)
  · refine .ifYes (pc := 12) X243 hx 22 (hb hby at_12) ((if0 _ _).trans (feq (hm0 : ¬ (mo = (0 : Int32)))).2) (by decide) (by decide) ?_
    refine .iload X243 hx (hb hby at_22) rfl ?_
    refine .iconst X243 hx (hb hby at_24) own_ki1 ?_
    by_cases hm1 : mo = (1 : Int32)
    · refine .icmpNo X243 hx (hb hby at_25) (teq (hm1 : mo = (1 : Int32))).2 ?_
      obtain ⟨a245, T245, h245, k1_245, b245, kc245, X245, e245, E245, hS_, hkN, hZ, hown, Ea_, Fc_, Fv_, Vb_, -, -, CN, -, sN, st245⟩ := ldcCH (s := s) (vm0 := T243.vm) X243 hx hZ hown (W_ hw 117 rfl) (own_wS hw) e243 hS_ hk_ (own_hEL hw) (by decide) CR.1 (vs := [(.int (102 : Int32)), (.int (97 : Int32)), (.int (105 : Int32)), (.int (108 : Int32)), (.int (101 : Int32)), (.int (100 : Int32))]) (z := (6 : Int32)) ⟨by decide, rfl⟩ (by decide) (by decide) (g := (mkF m 28 #[.val (.int p1), .val (.int p2), .val (.int p3), .val (.int p4), .val (.long p5), .second, .val (.long p6), .second, .val (.int mo), .val (.ref a243), .unset, .unset, .unset, .unset, .unset] [])) rfl (hb hby at_28) (n := 24) (by decide) (by decide) (by decide) (by decide)
      have E_a243 := E_a243.ext E245
      have Fc_a243 := Fc_a243.ext E245
      have Fv_a243 := Fv_a243.ext E245
      have V_b243 := V_b243.ext E245
      have O_ := O_.ext E245
      have CR := CR.trans CN
      have hk_ := hkN
      have Z_ : n0 ≤ h245.size := Nat.le_trans Z_ E245.1
      have E_a245 := Ea_
      have Fc_a245 := Fc_
      have Fv_a245 := Fv_
      have V_b245 := Vb_
      refine .st st245 ?_
      show OwnGoW p e below s Z own_EL _ _ _ T245 (mkF m 30 _ [(.ref a245)])
      refine .astore X245 hx (hb hby at_30) rfl (L' := #[.val (.int p1), .val (.int p2), .val (.int p3), .val (.int p4), .val (.long p5), .second, .val (.long p6), .second, .val (.int mo), .val (.ref a245), .unset, .unset, .unset, .unset, .unset]) rfl ?_
      refine .goto (pc := 32) X245 hx 58 (hb hby at_32) (by decide) (by decide) ?_
      exact sgA p1 p2 p3 p4 p5 p6 u_Outcome__VALUES u_Outcome_PASSED u_Outcome_FAILED u_Outcome_ABORTED u_Outcome_NOT_FOUND u_Outcome_PASSED_text u_Outcome_PASSED_text_value u_Outcome_FAILED_text u_Outcome_FAILED_text_value u_Outcome_ABORTED_text u_Outcome_ABORTED_text_value u_Outcome_NOT_FOUND_text u_Outcome_NOT_FOUND_text_value kc_u_Outcome__VALUES kc_u_Outcome_PASSED_text_value kc_u_Outcome_FAILED_text_value kc_u_Outcome_ABORTED_text_value kc_u_Outcome_NOT_FOUND_text_value zc fmv mo a245 b245 kc245 ([102, 97, 105, 108, 101, 100] : List Int32) h0 n0 hw (X245.mono (by decide) (by decide)) hx hby hml hret hlk hown hnm hZ e245 N0 Z_ hS_ hk_ CR S_u_Outcome__VALUES E_u_Outcome__VALUES S_u_Outcome_PASSED E_u_Outcome_PASSED S_u_Outcome_FAILED E_u_Outcome_FAILED S_u_Outcome_ABORTED E_u_Outcome_ABORTED S_u_Outcome_NOT_FOUND E_u_Outcome_NOT_FOUND F_u_Outcome_PASSED_text E_u_Outcome_PASSED_text F_u_Outcome_PASSED_text_coder F_u_Outcome_PASSED_text_value F_u_Outcome_FAILED_text E_u_Outcome_FAILED_text F_u_Outcome_FAILED_text_coder F_u_Outcome_FAILED_text_value F_u_Outcome_ABORTED_text E_u_Outcome_ABORTED_text F_u_Outcome_ABORTED_text_coder F_u_Outcome_ABORTED_text_value F_u_Outcome_NOT_FOUND_text E_u_Outcome_NOT_FOUND_text F_u_Outcome_NOT_FOUND_text_coder F_u_Outcome_NOT_FOUND_text_value V_u_Outcome__VALUES V_u_Outcome_PASSED_text_value V_u_Outcome_FAILED_text_value V_u_Outcome_ABORTED_text_value V_u_Outcome_NOT_FOUND_text_value S_CS P_CS S_SF rf_fmv O_ E_a245 Fc_a245 Fv_a245 V_b245 (by decide)
    · refine .icmpYes (pc := 25) X243 hx 35 (hb hby at_25) (feq (hm1 : ¬ (mo = (1 : Int32)))).2 (by decide) (by decide) ?_
      refine .iload X243 hx (hb hby at_35) rfl ?_
      refine .iconst X243 hx (hb hby at_37) own_ki2 ?_
      by_cases hm2 : mo = (2 : Int32)
      · refine .icmpNo X243 hx (hb hby at_38) (teq (hm2 : mo = (2 : Int32))).2 ?_
        obtain ⟨a246, T246, h246, k1_246, b246, kc246, X246, e246, E246, hS_, hkN, hZ, hown, Ea_, Fc_, Fv_, Vb_, -, -, CN, -, sN, st246⟩ := ldcCH (s := s) (vm0 := T243.vm) X243 hx hZ hown (W_ hw 118 rfl) (own_wS hw) e243 hS_ hk_ (own_hEL hw) (by decide) CR.1 (vs := [(.int (97 : Int32)), (.int (98 : Int32)), (.int (111 : Int32)), (.int (114 : Int32)), (.int (116 : Int32)), (.int (101 : Int32)), (.int (100 : Int32))]) (z := (7 : Int32)) ⟨by decide, rfl⟩ (by decide) (by decide) (g := (mkF m 41 #[.val (.int p1), .val (.int p2), .val (.int p3), .val (.int p4), .val (.long p5), .second, .val (.long p6), .second, .val (.int mo), .val (.ref a243), .unset, .unset, .unset, .unset, .unset] [])) rfl (hb hby at_41) (n := 28) (by decide) (by decide) (by decide) (by decide)
        have E_a243 := E_a243.ext E246
        have Fc_a243 := Fc_a243.ext E246
        have Fv_a243 := Fv_a243.ext E246
        have V_b243 := V_b243.ext E246
        have O_ := O_.ext E246
        have CR := CR.trans CN
        have hk_ := hkN
        have Z_ : n0 ≤ h246.size := Nat.le_trans Z_ E246.1
        have E_a246 := Ea_
        have Fc_a246 := Fc_
        have Fv_a246 := Fv_
        have V_b246 := Vb_
        refine .st st246 ?_
        show OwnGoW p e below s Z own_EL _ _ _ T246 (mkF m 43 _ [(.ref a246)])
        refine .astore X246 hx (hb hby at_43) rfl (L' := #[.val (.int p1), .val (.int p2), .val (.int p3), .val (.int p4), .val (.long p5), .second, .val (.long p6), .second, .val (.int mo), .val (.ref a246), .unset, .unset, .unset, .unset, .unset]) rfl ?_
        refine .goto (pc := 45) X246 hx 58 (hb hby at_45) (by decide) (by decide) ?_
        exact sgA p1 p2 p3 p4 p5 p6 u_Outcome__VALUES u_Outcome_PASSED u_Outcome_FAILED u_Outcome_ABORTED u_Outcome_NOT_FOUND u_Outcome_PASSED_text u_Outcome_PASSED_text_value u_Outcome_FAILED_text u_Outcome_FAILED_text_value u_Outcome_ABORTED_text u_Outcome_ABORTED_text_value u_Outcome_NOT_FOUND_text u_Outcome_NOT_FOUND_text_value kc_u_Outcome__VALUES kc_u_Outcome_PASSED_text_value kc_u_Outcome_FAILED_text_value kc_u_Outcome_ABORTED_text_value kc_u_Outcome_NOT_FOUND_text_value zc fmv mo a246 b246 kc246 ([97, 98, 111, 114, 116, 101, 100] : List Int32) h0 n0 hw (X246.mono (by decide) (by decide)) hx hby hml hret hlk hown hnm hZ e246 N0 Z_ hS_ hk_ CR S_u_Outcome__VALUES E_u_Outcome__VALUES S_u_Outcome_PASSED E_u_Outcome_PASSED S_u_Outcome_FAILED E_u_Outcome_FAILED S_u_Outcome_ABORTED E_u_Outcome_ABORTED S_u_Outcome_NOT_FOUND E_u_Outcome_NOT_FOUND F_u_Outcome_PASSED_text E_u_Outcome_PASSED_text F_u_Outcome_PASSED_text_coder F_u_Outcome_PASSED_text_value F_u_Outcome_FAILED_text E_u_Outcome_FAILED_text F_u_Outcome_FAILED_text_coder F_u_Outcome_FAILED_text_value F_u_Outcome_ABORTED_text E_u_Outcome_ABORTED_text F_u_Outcome_ABORTED_text_coder F_u_Outcome_ABORTED_text_value F_u_Outcome_NOT_FOUND_text E_u_Outcome_NOT_FOUND_text F_u_Outcome_NOT_FOUND_text_coder F_u_Outcome_NOT_FOUND_text_value V_u_Outcome__VALUES V_u_Outcome_PASSED_text_value V_u_Outcome_FAILED_text_value V_u_Outcome_ABORTED_text_value V_u_Outcome_NOT_FOUND_text_value S_CS P_CS S_SF rf_fmv O_ E_a246 Fc_a246 Fv_a246 V_b246 (by decide)
      · refine .icmpYes (pc := 38) X243 hx 48 (hb hby at_38) (feq (hm2 : ¬ (mo = (2 : Int32)))).2 (by decide) (by decide) ?_
        refine .iload X243 hx (hb hby at_48) rfl ?_
        refine .iconst X243 hx (hb hby at_50) own_ki3 ?_
        by_cases hm3 : mo = (3 : Int32)
        · refine .icmpNo X243 hx (hb hby at_51) (teq (hm3 : mo = (3 : Int32))).2 ?_
          obtain ⟨a247, T247, h247, k1_247, b247, kc247, X247, e247, E247, hS_, hkN, hZ, hown, Ea_, Fc_, Fv_, Vb_, -, -, CN, -, sN, st247⟩ := ldcCH (s := s) (vm0 := T243.vm) X243 hx hZ hown (W_ hw 119 rfl) (own_wS hw) e243 hS_ hk_ (own_hEL hw) (by decide) CR.1 (vs := [(.int (110 : Int32)), (.int (111 : Int32)), (.int (116 : Int32)), (.int (45 : Int32)), (.int (102 : Int32)), (.int (111 : Int32)), (.int (117 : Int32)), (.int (110 : Int32)), (.int (100 : Int32))]) (z := (9 : Int32)) ⟨by decide, rfl⟩ (by decide) (by decide) (g := (mkF m 54 #[.val (.int p1), .val (.int p2), .val (.int p3), .val (.int p4), .val (.long p5), .second, .val (.long p6), .second, .val (.int mo), .val (.ref a243), .unset, .unset, .unset, .unset, .unset] [])) rfl (hb hby at_54) (n := 36) (by decide) (by decide) (by decide) (by decide)
          have E_a243 := E_a243.ext E247
          have Fc_a243 := Fc_a243.ext E247
          have Fv_a243 := Fv_a243.ext E247
          have V_b243 := V_b243.ext E247
          have O_ := O_.ext E247
          have CR := CR.trans CN
          have hk_ := hkN
          have Z_ : n0 ≤ h247.size := Nat.le_trans Z_ E247.1
          have E_a247 := Ea_
          have Fc_a247 := Fc_
          have Fv_a247 := Fv_
          have V_b247 := Vb_
          refine .st st247 ?_
          show OwnGoW p e below s Z own_EL _ _ _ T247 (mkF m 56 _ [(.ref a247)])
          refine .astore X247 hx (hb hby at_56) rfl (L' := #[.val (.int p1), .val (.int p2), .val (.int p3), .val (.int p4), .val (.long p5), .second, .val (.long p6), .second, .val (.int mo), .val (.ref a247), .unset, .unset, .unset, .unset, .unset]) rfl ?_
          exact sgA p1 p2 p3 p4 p5 p6 u_Outcome__VALUES u_Outcome_PASSED u_Outcome_FAILED u_Outcome_ABORTED u_Outcome_NOT_FOUND u_Outcome_PASSED_text u_Outcome_PASSED_text_value u_Outcome_FAILED_text u_Outcome_FAILED_text_value u_Outcome_ABORTED_text u_Outcome_ABORTED_text_value u_Outcome_NOT_FOUND_text u_Outcome_NOT_FOUND_text_value kc_u_Outcome__VALUES kc_u_Outcome_PASSED_text_value kc_u_Outcome_FAILED_text_value kc_u_Outcome_ABORTED_text_value kc_u_Outcome_NOT_FOUND_text_value zc fmv mo a247 b247 kc247 ([110, 111, 116, 45, 102, 111, 117, 110, 100] : List Int32) h0 n0 hw X247 hx hby hml hret hlk hown hnm hZ e247 N0 Z_ hS_ hk_ CR S_u_Outcome__VALUES E_u_Outcome__VALUES S_u_Outcome_PASSED E_u_Outcome_PASSED S_u_Outcome_FAILED E_u_Outcome_FAILED S_u_Outcome_ABORTED E_u_Outcome_ABORTED S_u_Outcome_NOT_FOUND E_u_Outcome_NOT_FOUND F_u_Outcome_PASSED_text E_u_Outcome_PASSED_text F_u_Outcome_PASSED_text_coder F_u_Outcome_PASSED_text_value F_u_Outcome_FAILED_text E_u_Outcome_FAILED_text F_u_Outcome_FAILED_text_coder F_u_Outcome_FAILED_text_value F_u_Outcome_ABORTED_text E_u_Outcome_ABORTED_text F_u_Outcome_ABORTED_text_coder F_u_Outcome_ABORTED_text_value F_u_Outcome_NOT_FOUND_text E_u_Outcome_NOT_FOUND_text F_u_Outcome_NOT_FOUND_text_coder F_u_Outcome_NOT_FOUND_text_value V_u_Outcome__VALUES V_u_Outcome_PASSED_text_value V_u_Outcome_FAILED_text_value V_u_Outcome_ABORTED_text_value V_u_Outcome_NOT_FOUND_text_value S_CS P_CS S_SF rf_fmv O_ E_a247 Fc_a247 Fv_a247 V_b247 (by decide)
        · refine .icmpYes (pc := 51) X243 hx 58 (hb hby at_51) (feq (hm3 : ¬ (mo = (3 : Int32)))).2 (by decide) (by decide) ?_
          exact sgA p1 p2 p3 p4 p5 p6 u_Outcome__VALUES u_Outcome_PASSED u_Outcome_FAILED u_Outcome_ABORTED u_Outcome_NOT_FOUND u_Outcome_PASSED_text u_Outcome_PASSED_text_value u_Outcome_FAILED_text u_Outcome_FAILED_text_value u_Outcome_ABORTED_text u_Outcome_ABORTED_text_value u_Outcome_NOT_FOUND_text u_Outcome_NOT_FOUND_text_value kc_u_Outcome__VALUES kc_u_Outcome_PASSED_text_value kc_u_Outcome_FAILED_text_value kc_u_Outcome_ABORTED_text_value kc_u_Outcome_NOT_FOUND_text_value zc fmv mo a243 b243 kc243 ([] : List Int32) h0 n0 hw (X243.mono (by decide) (by decide)) hx hby hml hret hlk hown hnm hZ e243 N0 Z_ hS_ hk_ CR S_u_Outcome__VALUES E_u_Outcome__VALUES S_u_Outcome_PASSED E_u_Outcome_PASSED S_u_Outcome_FAILED E_u_Outcome_FAILED S_u_Outcome_ABORTED E_u_Outcome_ABORTED S_u_Outcome_NOT_FOUND E_u_Outcome_NOT_FOUND F_u_Outcome_PASSED_text E_u_Outcome_PASSED_text F_u_Outcome_PASSED_text_coder F_u_Outcome_PASSED_text_value F_u_Outcome_FAILED_text E_u_Outcome_FAILED_text F_u_Outcome_FAILED_text_coder F_u_Outcome_FAILED_text_value F_u_Outcome_ABORTED_text E_u_Outcome_ABORTED_text F_u_Outcome_ABORTED_text_coder F_u_Outcome_ABORTED_text_value F_u_Outcome_NOT_FOUND_text E_u_Outcome_NOT_FOUND_text F_u_Outcome_NOT_FOUND_text_coder F_u_Outcome_NOT_FOUND_text_value V_u_Outcome__VALUES V_u_Outcome_PASSED_text_value V_u_Outcome_FAILED_text_value V_u_Outcome_ABORTED_text_value V_u_Outcome_NOT_FOUND_text_value S_CS P_CS S_SF rf_fmv O_ E_a243 Fc_a243 Fv_a243 V_b243 (by decide)
theorem comes_1 {Post : Tables → Env → Array Value → State → Outcome → State → Prop} (hpost : ∀ tb e args s v u, (limb_1_1.after args s (.returned v) u = true ∧ limb_1_2.after args s (.returned v) u = true ∧ True) → ReturnedEndW s (.returned v) u (Jvm.fieldLocs frame_1_writes args s ++ Jvm.arrayLocs frame_1_arrays args s ++ Jvm.staticLocs frame_1_statics s) 32 6336 → Post tb e args s (.returned v) u) :
    ArmFor flags0 classFile x code maxLocals ret World_1 tables_1 room_1 Calls_1 rest_1 Pre_1 Post := by
  intro l hfl _ _ p e ha hc hk s m args below hf hA hF happ hP
  obtain ⟨hcalls, hrest, hpre⟩ := hP
  obtain ⟨-, -, -, hnamed, -, -, -, hat⟩ := (Spec.applies_iff hf).mp happ
  obtain ⟨hg, hn⟩ := and_e (Cond.before_iff.mp (show (Jvm.Cond.and given_1 narrow_1).before args s = true from hpre))
  obtain ⟨hcnt, hg⟩ := and_e hg
  obtain ⟨hg0, hg⟩ := and_e hg
  obtain ⟨hg1, hg⟩ := and_e hg
  obtain ⟨hg2, hg⟩ := and_e hg
  obtain ⟨hg3, hg⟩ := and_e hg
  obtain ⟨hg4, hg⟩ := and_e hg
  have hg5 := hg
  obtain ⟨w0, w1, w2, w3, w4, w5, rfl⟩ : ∃ w0 w1 w2 w3 w4 w5 : Value, args = #[w0, w1, w2, w3, w4, w5] := by
    have hs : args.size = 6 := by simpa [Cond.value, given_1] using hcnt
    obtain ⟨L⟩ := args
    match L, hs with
    | [w0, w1, w2, w3, w4, w5], _ => exact ⟨w0, w1, w2, w3, w4, w5, rfl⟩
  have hw := fun d (hd : d ∈ tables_1) => atoms_spec (ws := Jvm.Cond.code x code maxLocals ret :: tables_1) hat d (List.mem_cons_of_mem _ hd)
  have hfit : Fit s := fun {y c} hc i hi => by
    obtain ⟨ha, rfl⟩ := Array.getElem?_eq_some_iff.mp hc
    have q := List.all_eq_true.mp ((Array.all_eq_true_iff_forall_mem.mp hF) _ (Array.getElem_mem ha)) i (List.mem_range.mpr hi)
    simpa [Array.getElem?_eq_getElem hi] using q
  obtain ⟨i0, ei0⟩ := is_v hg0
  obtain rfl : w0 = (.int i0) := Option.some.inj ei0
  obtain ⟨i1, ei1⟩ := is_v hg1
  obtain rfl : w1 = (.int i1) := Option.some.inj ei1
  obtain ⟨i2, ei2⟩ := is_v hg2
  obtain rfl : w2 = (.int i2) := Option.some.inj ei2
  obtain ⟨i3, ei3⟩ := is_v hg3
  obtain rfl : w3 = (.int i3) := Option.some.inj ei3
  obtain ⟨i4, ei4⟩ := isL_v hg4
  obtain rfl : w4 = (.long i4) := Option.some.inj ei4
  obtain ⟨i5, ei5⟩ := isL_v hg5
  obtain rfl : w5 = (.long i5) := Option.some.inj ei5
  obtain ⟨nr0, hn⟩ := and_e hn
  obtain ⟨nr1, hn⟩ := and_e hn
  obtain ⟨nr2, hn⟩ := and_e hn
  obtain ⟨nr3, hn⟩ := and_e hn
  obtain ⟨nr4, hn⟩ := and_e hn
  obtain ⟨nr5, hn⟩ := and_e hn
  obtain ⟨nr6, hn⟩ := and_e hn
  obtain ⟨nr7, hn⟩ := and_e hn
  obtain ⟨nr8, hn⟩ := and_e hn
  obtain ⟨nr9, hn⟩ := and_e hn
  obtain ⟨nr10, hn⟩ := and_e hn
  obtain ⟨nr11, hn⟩ := and_e hn
  obtain ⟨nr12, hn⟩ := and_e hn
  obtain ⟨nr13, hn⟩ := and_e hn
  obtain ⟨nr14, hn⟩ := and_e hn
  obtain ⟨nr15, hn⟩ := and_e hn
  obtain ⟨nr16, hn⟩ := and_e hn
  obtain ⟨nr17, hn⟩ := and_e hn
  obtain ⟨nr18, hn⟩ := and_e hn
  obtain ⟨nr19, hn⟩ := and_e hn
  obtain ⟨nr20, hn⟩ := and_e hn
  obtain ⟨nr21, hn⟩ := and_e hn
  obtain ⟨nr22, hn⟩ := and_e hn
  obtain ⟨nr23, hn⟩ := and_e hn
  obtain ⟨nr24, hn⟩ := and_e hn
  obtain ⟨nr25, hn⟩ := and_e hn
  obtain ⟨nr26, hn⟩ := and_e hn
  obtain ⟨nr27, hn⟩ := and_e hn
  obtain ⟨nr28, hn⟩ := and_e hn
  obtain ⟨nr29, hn⟩ := and_e hn
  obtain ⟨nr30, hn⟩ := and_e hn
  obtain ⟨nr31, hn⟩ := and_e hn
  obtain ⟨nr32, hn⟩ := and_e hn
  obtain ⟨nr33, hn⟩ := and_e hn
  obtain ⟨nr34, hn⟩ := and_e hn
  obtain ⟨nr35, hn⟩ := and_e hn
  obtain ⟨nr36, hn⟩ := and_e hn
  obtain ⟨nr37, hn⟩ := and_e hn
  obtain ⟨nr38, hn⟩ := and_e hn
  obtain ⟨nr39, hn⟩ := and_e hn
  obtain ⟨nr40, hn⟩ := and_e hn
  obtain ⟨nr41, hn⟩ := and_e hn
  obtain ⟨nr42, hn⟩ := and_e hn
  obtain ⟨nr43, hn⟩ := and_e hn
  obtain ⟨nr44, hn⟩ := and_e hn
  obtain ⟨nr45, hn⟩ := and_e hn
  obtain ⟨nr46, hn⟩ := and_e hn
  obtain ⟨nr47, hn⟩ := and_e hn
  obtain ⟨nr48, hn⟩ := and_e hn
  obtain ⟨nr49, hn⟩ := and_e hn
  obtain ⟨nr50, hn⟩ := and_e hn
  obtain ⟨nr51, hn⟩ := and_e hn
  obtain ⟨nr52, hn⟩ := and_e hn
  obtain ⟨nr53, hn⟩ := and_e hn
  have nr54 := hn
  obtain ⟨u_Outcome__VALUES, ev_u_Outcome__VALUES⟩ := arr_v nr0
  have S_u_Outcome__VALUES := Sta.start ev_u_Outcome__VALUES (Or.inr ⟨(W_ hw 80 rfl), (W_ hw 86 rfl)⟩)
  obtain ⟨cl_u_Outcome__VALUES, A_u_Outcome__VALUES⟩ := Arr.start ev_u_Outcome__VALUES nr0
  have E_u_Outcome__VALUES := Exa.start ev_u_Outcome__VALUES nr1
  obtain ⟨u_Outcome_PASSED, ev_u_Outcome_PASSED⟩ := exa_v nr3
  have S_u_Outcome_PASSED := Sta.start ev_u_Outcome_PASSED (Or.inr ⟨(W_ hw 80 rfl), (W_ hw 94 rfl)⟩)
  have E_u_Outcome_PASSED := Exa.start ev_u_Outcome_PASSED nr3
  obtain ⟨u_Outcome_FAILED, ev_u_Outcome_FAILED⟩ := exa_v nr5
  have S_u_Outcome_FAILED := Sta.start ev_u_Outcome_FAILED (Or.inr ⟨(W_ hw 80 rfl), (W_ hw 95 rfl)⟩)
  have E_u_Outcome_FAILED := Exa.start ev_u_Outcome_FAILED nr5
  obtain ⟨u_Outcome_ABORTED, ev_u_Outcome_ABORTED⟩ := exa_v nr7
  have S_u_Outcome_ABORTED := Sta.start ev_u_Outcome_ABORTED (Or.inr ⟨(W_ hw 80 rfl), (W_ hw 96 rfl)⟩)
  have E_u_Outcome_ABORTED := Exa.start ev_u_Outcome_ABORTED nr7
  obtain ⟨u_Outcome_NOT_FOUND, ev_u_Outcome_NOT_FOUND⟩ := exa_v nr9
  have S_u_Outcome_NOT_FOUND := Sta.start ev_u_Outcome_NOT_FOUND (Or.inr ⟨(W_ hw 80 rfl), (W_ hw 97 rfl)⟩)
  have E_u_Outcome_NOT_FOUND := Exa.start ev_u_Outcome_NOT_FOUND nr9
  obtain ⟨u_Outcome_PASSED_text, ev_u_Outcome_PASSED_text⟩ := exa_v nr11
  have F_u_Outcome_PASSED_text := Fld.start (C := "com/example/tightrope/tightrope/junit/Outcome") (n := "text") (d := "Ljava/lang/String;") ((fld_at ev_u_Outcome_PASSED).symm.trans ev_u_Outcome_PASSED_text)
  have E_u_Outcome_PASSED_text := Exa.start ev_u_Outcome_PASSED_text nr11
  have ev_nr12 := own_eqi nr12
  have F_u_Outcome_PASSED_text_coder := Fld.start (C := "java/lang/String") (n := "coder") (d := "B") ((fld_at ev_u_Outcome_PASSED_text).symm.trans ev_nr12)
  obtain ⟨u_Outcome_PASSED_text_value, ev_u_Outcome_PASSED_text_value⟩ := arr_v nr13
  have F_u_Outcome_PASSED_text_value := Fld.start (C := "java/lang/String") (n := "value") (d := "[B") ((fld_at ev_u_Outcome_PASSED_text).symm.trans ev_u_Outcome_PASSED_text_value)
  obtain ⟨cl_u_Outcome_PASSED_text_value, A_u_Outcome_PASSED_text_value⟩ := Arr.start ev_u_Outcome_PASSED_text_value nr13
  obtain ⟨u_Outcome_FAILED_text, ev_u_Outcome_FAILED_text⟩ := exa_v nr15
  have F_u_Outcome_FAILED_text := Fld.start (C := "com/example/tightrope/tightrope/junit/Outcome") (n := "text") (d := "Ljava/lang/String;") ((fld_at ev_u_Outcome_FAILED).symm.trans ev_u_Outcome_FAILED_text)
  have E_u_Outcome_FAILED_text := Exa.start ev_u_Outcome_FAILED_text nr15
  have ev_nr16 := own_eqi nr16
  have F_u_Outcome_FAILED_text_coder := Fld.start (C := "java/lang/String") (n := "coder") (d := "B") ((fld_at ev_u_Outcome_FAILED_text).symm.trans ev_nr16)
  obtain ⟨u_Outcome_FAILED_text_value, ev_u_Outcome_FAILED_text_value⟩ := arr_v nr17
  have F_u_Outcome_FAILED_text_value := Fld.start (C := "java/lang/String") (n := "value") (d := "[B") ((fld_at ev_u_Outcome_FAILED_text).symm.trans ev_u_Outcome_FAILED_text_value)
  obtain ⟨cl_u_Outcome_FAILED_text_value, A_u_Outcome_FAILED_text_value⟩ := Arr.start ev_u_Outcome_FAILED_text_value nr17
  obtain ⟨u_Outcome_ABORTED_text, ev_u_Outcome_ABORTED_text⟩ := exa_v nr19
  have F_u_Outcome_ABORTED_text := Fld.start (C := "com/example/tightrope/tightrope/junit/Outcome") (n := "text") (d := "Ljava/lang/String;") ((fld_at ev_u_Outcome_ABORTED).symm.trans ev_u_Outcome_ABORTED_text)
  have E_u_Outcome_ABORTED_text := Exa.start ev_u_Outcome_ABORTED_text nr19
  have ev_nr20 := own_eqi nr20
  have F_u_Outcome_ABORTED_text_coder := Fld.start (C := "java/lang/String") (n := "coder") (d := "B") ((fld_at ev_u_Outcome_ABORTED_text).symm.trans ev_nr20)
  obtain ⟨u_Outcome_ABORTED_text_value, ev_u_Outcome_ABORTED_text_value⟩ := arr_v nr21
  have F_u_Outcome_ABORTED_text_value := Fld.start (C := "java/lang/String") (n := "value") (d := "[B") ((fld_at ev_u_Outcome_ABORTED_text).symm.trans ev_u_Outcome_ABORTED_text_value)
  obtain ⟨cl_u_Outcome_ABORTED_text_value, A_u_Outcome_ABORTED_text_value⟩ := Arr.start ev_u_Outcome_ABORTED_text_value nr21
  obtain ⟨u_Outcome_NOT_FOUND_text, ev_u_Outcome_NOT_FOUND_text⟩ := exa_v nr23
  have F_u_Outcome_NOT_FOUND_text := Fld.start (C := "com/example/tightrope/tightrope/junit/Outcome") (n := "text") (d := "Ljava/lang/String;") ((fld_at ev_u_Outcome_NOT_FOUND).symm.trans ev_u_Outcome_NOT_FOUND_text)
  have E_u_Outcome_NOT_FOUND_text := Exa.start ev_u_Outcome_NOT_FOUND_text nr23
  have ev_nr24 := own_eqi nr24
  have F_u_Outcome_NOT_FOUND_text_coder := Fld.start (C := "java/lang/String") (n := "coder") (d := "B") ((fld_at ev_u_Outcome_NOT_FOUND_text).symm.trans ev_nr24)
  obtain ⟨u_Outcome_NOT_FOUND_text_value, ev_u_Outcome_NOT_FOUND_text_value⟩ := arr_v nr25
  have F_u_Outcome_NOT_FOUND_text_value := Fld.start (C := "java/lang/String") (n := "value") (d := "[B") ((fld_at ev_u_Outcome_NOT_FOUND_text).symm.trans ev_u_Outcome_NOT_FOUND_text_value)
  obtain ⟨cl_u_Outcome_NOT_FOUND_text_value, A_u_Outcome_NOT_FOUND_text_value⟩ := Arr.start ev_u_Outcome_NOT_FOUND_text_value nr25
  have V_u_Outcome__VALUES := Arv.start (dv := .null) (vs := [(.ref u_Outcome_PASSED), (.ref u_Outcome_FAILED), (.ref u_Outcome_ABORTED), (.ref u_Outcome_NOT_FOUND)]) hfit A_u_Outcome__VALUES (own_lenv ev_u_Outcome__VALUES A_u_Outcome__VALUES nr2).1 (own_lenv ev_u_Outcome__VALUES A_u_Outcome__VALUES nr2).2 (by decide) rfl ⟨(own_elem ev_u_Outcome__VALUES A_u_Outcome__VALUES (own_eqv nr4 ev_u_Outcome_PASSED rfl)), (own_elem ev_u_Outcome__VALUES A_u_Outcome__VALUES (own_eqv nr6 ev_u_Outcome_FAILED rfl)), (own_elem ev_u_Outcome__VALUES A_u_Outcome__VALUES (own_eqv nr8 ev_u_Outcome_ABORTED rfl)), (own_elem ev_u_Outcome__VALUES A_u_Outcome__VALUES (own_eqv nr10 ev_u_Outcome_NOT_FOUND rfl)), trivial⟩
  obtain ⟨kc_u_Outcome__VALUES, V_u_Outcome__VALUES⟩ : ∃ k, Arv s s.heap u_Outcome__VALUES k (Jvm.ClassFile.FieldType.object "com/example/tightrope/tightrope/junit/Outcome") (4 : Int32) [(.ref u_Outcome_PASSED), (.ref u_Outcome_FAILED), (.ref u_Outcome_ABORTED), (.ref u_Outcome_NOT_FOUND)] .null := ⟨_, V_u_Outcome__VALUES⟩
  have V_u_Outcome_PASSED_text_value := Arv.start (dv := (.int (0 : Int32))) (vs := [(.int (112 : Int32)), (.int (97 : Int32)), (.int (115 : Int32)), (.int (115 : Int32)), (.int (101 : Int32)), (.int (100 : Int32))]) hfit A_u_Outcome_PASSED_text_value (own_lenv ev_u_Outcome_PASSED_text_value A_u_Outcome_PASSED_text_value nr14).1 (own_lenv ev_u_Outcome_PASSED_text_value A_u_Outcome_PASSED_text_value nr14).2 (by decide) rfl ⟨(own_elem ev_u_Outcome_PASSED_text_value A_u_Outcome_PASSED_text_value (own_eqi nr27)), (own_elem ev_u_Outcome_PASSED_text_value A_u_Outcome_PASSED_text_value (own_eqi nr28)), (own_elem ev_u_Outcome_PASSED_text_value A_u_Outcome_PASSED_text_value (own_eqi nr29)), (own_elem ev_u_Outcome_PASSED_text_value A_u_Outcome_PASSED_text_value (own_eqi nr30)), (own_elem ev_u_Outcome_PASSED_text_value A_u_Outcome_PASSED_text_value (own_eqi nr31)), (own_elem ev_u_Outcome_PASSED_text_value A_u_Outcome_PASSED_text_value (own_eqi nr32)), trivial⟩
  obtain ⟨kc_u_Outcome_PASSED_text_value, V_u_Outcome_PASSED_text_value⟩ : ∃ k, Arv s s.heap u_Outcome_PASSED_text_value k Jvm.ClassFile.FieldType.byte (6 : Int32) [(.int (112 : Int32)), (.int (97 : Int32)), (.int (115 : Int32)), (.int (115 : Int32)), (.int (101 : Int32)), (.int (100 : Int32))] (.int (0 : Int32)) := ⟨_, V_u_Outcome_PASSED_text_value⟩
  have V_u_Outcome_FAILED_text_value := Arv.start (dv := (.int (0 : Int32))) (vs := [(.int (102 : Int32)), (.int (97 : Int32)), (.int (105 : Int32)), (.int (108 : Int32)), (.int (101 : Int32)), (.int (100 : Int32))]) hfit A_u_Outcome_FAILED_text_value (own_lenv ev_u_Outcome_FAILED_text_value A_u_Outcome_FAILED_text_value nr18).1 (own_lenv ev_u_Outcome_FAILED_text_value A_u_Outcome_FAILED_text_value nr18).2 (by decide) rfl ⟨(own_elem ev_u_Outcome_FAILED_text_value A_u_Outcome_FAILED_text_value (own_eqi nr33)), (own_elem ev_u_Outcome_FAILED_text_value A_u_Outcome_FAILED_text_value (own_eqi nr34)), (own_elem ev_u_Outcome_FAILED_text_value A_u_Outcome_FAILED_text_value (own_eqi nr35)), (own_elem ev_u_Outcome_FAILED_text_value A_u_Outcome_FAILED_text_value (own_eqi nr36)), (own_elem ev_u_Outcome_FAILED_text_value A_u_Outcome_FAILED_text_value (own_eqi nr37)), (own_elem ev_u_Outcome_FAILED_text_value A_u_Outcome_FAILED_text_value (own_eqi nr38)), trivial⟩
  obtain ⟨kc_u_Outcome_FAILED_text_value, V_u_Outcome_FAILED_text_value⟩ : ∃ k, Arv s s.heap u_Outcome_FAILED_text_value k Jvm.ClassFile.FieldType.byte (6 : Int32) [(.int (102 : Int32)), (.int (97 : Int32)), (.int (105 : Int32)), (.int (108 : Int32)), (.int (101 : Int32)), (.int (100 : Int32))] (.int (0 : Int32)) := ⟨_, V_u_Outcome_FAILED_text_value⟩
  have V_u_Outcome_ABORTED_text_value := Arv.start (dv := (.int (0 : Int32))) (vs := [(.int (97 : Int32)), (.int (98 : Int32)), (.int (111 : Int32)), (.int (114 : Int32)), (.int (116 : Int32)), (.int (101 : Int32)), (.int (100 : Int32))]) hfit A_u_Outcome_ABORTED_text_value (own_lenv ev_u_Outcome_ABORTED_text_value A_u_Outcome_ABORTED_text_value nr22).1 (own_lenv ev_u_Outcome_ABORTED_text_value A_u_Outcome_ABORTED_text_value nr22).2 (by decide) rfl ⟨(own_elem ev_u_Outcome_ABORTED_text_value A_u_Outcome_ABORTED_text_value (own_eqi nr39)), (own_elem ev_u_Outcome_ABORTED_text_value A_u_Outcome_ABORTED_text_value (own_eqi nr40)), (own_elem ev_u_Outcome_ABORTED_text_value A_u_Outcome_ABORTED_text_value (own_eqi nr41)), (own_elem ev_u_Outcome_ABORTED_text_value A_u_Outcome_ABORTED_text_value (own_eqi nr42)), (own_elem ev_u_Outcome_ABORTED_text_value A_u_Outcome_ABORTED_text_value (own_eqi nr43)), (own_elem ev_u_Outcome_ABORTED_text_value A_u_Outcome_ABORTED_text_value (own_eqi nr44)), (own_elem ev_u_Outcome_ABORTED_text_value A_u_Outcome_ABORTED_text_value (own_eqi nr45)), trivial⟩
  obtain ⟨kc_u_Outcome_ABORTED_text_value, V_u_Outcome_ABORTED_text_value⟩ : ∃ k, Arv s s.heap u_Outcome_ABORTED_text_value k Jvm.ClassFile.FieldType.byte (7 : Int32) [(.int (97 : Int32)), (.int (98 : Int32)), (.int (111 : Int32)), (.int (114 : Int32)), (.int (116 : Int32)), (.int (101 : Int32)), (.int (100 : Int32))] (.int (0 : Int32)) := ⟨_, V_u_Outcome_ABORTED_text_value⟩
  have V_u_Outcome_NOT_FOUND_text_value := Arv.start (dv := (.int (0 : Int32))) (vs := [(.int (110 : Int32)), (.int (111 : Int32)), (.int (116 : Int32)), (.int (45 : Int32)), (.int (102 : Int32)), (.int (111 : Int32)), (.int (117 : Int32)), (.int (110 : Int32)), (.int (100 : Int32))]) hfit A_u_Outcome_NOT_FOUND_text_value (own_lenv ev_u_Outcome_NOT_FOUND_text_value A_u_Outcome_NOT_FOUND_text_value nr26).1 (own_lenv ev_u_Outcome_NOT_FOUND_text_value A_u_Outcome_NOT_FOUND_text_value nr26).2 (by decide) rfl ⟨(own_elem ev_u_Outcome_NOT_FOUND_text_value A_u_Outcome_NOT_FOUND_text_value (own_eqi nr46)), (own_elem ev_u_Outcome_NOT_FOUND_text_value A_u_Outcome_NOT_FOUND_text_value (own_eqi nr47)), (own_elem ev_u_Outcome_NOT_FOUND_text_value A_u_Outcome_NOT_FOUND_text_value (own_eqi nr48)), (own_elem ev_u_Outcome_NOT_FOUND_text_value A_u_Outcome_NOT_FOUND_text_value (own_eqi nr49)), (own_elem ev_u_Outcome_NOT_FOUND_text_value A_u_Outcome_NOT_FOUND_text_value (own_eqi nr50)), (own_elem ev_u_Outcome_NOT_FOUND_text_value A_u_Outcome_NOT_FOUND_text_value (own_eqi nr51)), (own_elem ev_u_Outcome_NOT_FOUND_text_value A_u_Outcome_NOT_FOUND_text_value (own_eqi nr52)), (own_elem ev_u_Outcome_NOT_FOUND_text_value A_u_Outcome_NOT_FOUND_text_value (own_eqi nr53)), (own_elem ev_u_Outcome_NOT_FOUND_text_value A_u_Outcome_NOT_FOUND_text_value (own_eqi nr54)), trivial⟩
  obtain ⟨kc_u_Outcome_NOT_FOUND_text_value, V_u_Outcome_NOT_FOUND_text_value⟩ : ∃ k, Arv s s.heap u_Outcome_NOT_FOUND_text_value k Jvm.ClassFile.FieldType.byte (9 : Int32) [(.int (110 : Int32)), (.int (111 : Int32)), (.int (116 : Int32)), (.int (45 : Int32)), (.int (102 : Int32)), (.int (111 : Int32)), (.int (117 : Int32)), (.int (110 : Int32)), (.int (100 : Int32))] (.int (0 : Int32)) := ⟨_, V_u_Outcome_NOT_FOUND_text_value⟩
  obtain ⟨hsets, hown0⟩ := atoms_of _ (rest_1_c_eq ▸ (show rest_1_c.before _ s = true from hrest))
  obtain ⟨zc, ev_zc⟩ := is_v (Cond.before_iff.mp (hsets _ (List.mem_of_getElem? (i := 1) rfl)))
  have S_CS := Sta.start ev_zc (Or.inl (hsets _ (List.mem_of_getElem? (i := 0) rfl)))
  have P_CS : ¬ zc = (0 : Int32) := gotF (Cond.eq_ints ev_zc (Term.int_eval (0))) (not_v (Cond.before_iff.mp (hsets _ (List.mem_of_getElem? (i := 2) rfl))))
  obtain ⟨fmv, ev_fm, rf_fmv⟩ := isR_v (Cond.before_iff.mp (hsets _ (List.mem_of_getElem? (i := 8) rfl)))
  have S_SF := Sta.start ev_fm (Or.inl (hsets _ (List.mem_of_getElem? (i := 7) rfl)))
  obtain ⟨n, o, h1, h2, h3, _, L, rfl, ⟨rfl, N⟩, -, hq⟩ := rm0 l s _ hw tables_1 i0 i1 i2 i3 i4 i5 u_Outcome__VALUES u_Outcome_PASSED u_Outcome_FAILED u_Outcome_ABORTED u_Outcome_NOT_FOUND u_Outcome_PASSED_text u_Outcome_PASSED_text_value u_Outcome_FAILED_text u_Outcome_FAILED_text_value u_Outcome_ABORTED_text u_Outcome_ABORTED_text_value u_Outcome_NOT_FOUND_text u_Outcome_NOT_FOUND_text_value kc_u_Outcome__VALUES kc_u_Outcome_PASSED_text_value kc_u_Outcome_FAILED_text_value kc_u_Outcome_ABORTED_text_value kc_u_Outcome_NOT_FOUND_text_value zc fmv s.heap s.heap.size (Nat.le_refl _) (Old.start s) S_u_Outcome__VALUES E_u_Outcome__VALUES S_u_Outcome_PASSED E_u_Outcome_PASSED S_u_Outcome_FAILED E_u_Outcome_FAILED S_u_Outcome_ABORTED E_u_Outcome_ABORTED S_u_Outcome_NOT_FOUND E_u_Outcome_NOT_FOUND F_u_Outcome_PASSED_text E_u_Outcome_PASSED_text F_u_Outcome_PASSED_text_coder F_u_Outcome_PASSED_text_value F_u_Outcome_FAILED_text E_u_Outcome_FAILED_text F_u_Outcome_FAILED_text_coder F_u_Outcome_FAILED_text_value F_u_Outcome_ABORTED_text E_u_Outcome_ABORTED_text F_u_Outcome_ABORTED_text_coder F_u_Outcome_ABORTED_text_value F_u_Outcome_NOT_FOUND_text E_u_Outcome_NOT_FOUND_text F_u_Outcome_NOT_FOUND_text_coder F_u_Outcome_NOT_FOUND_text_value V_u_Outcome__VALUES V_u_Outcome_PASSED_text_value V_u_Outcome_FAILED_text_value V_u_Outcome_ABORTED_text_value V_u_Outcome_NOT_FOUND_text_value S_CS P_CS S_SF rf_fmv  p e ha hc hk s m _ below hf ((Spec.applies_iff_loose hf).mp happ).1 ⟨rfl, State.Warmed39.refl s, rfl, (CHv.start (own_hEL hw) (fun q hq => (hcalls.1 : Jvm.Lit.constsHeld consts_1 s) q ((by decide : ∀ q ∈ own_EL, q ∈ consts_1) q hq)) (hsets _ (List.mem_of_getElem? (i := 2) rfl)) (W_ hw 3 rfl) (W_ hw 2 rfl))⟩ trivial
  refine ⟨n, _, h1, h2, h3, hpost _ _ _ _ _ _ ⟨Cond.after_iff.mpr rfl, Cond.after_iff.mpr (eq_i res_at (Term.int_eval (1)) rfl), trivial⟩ ⟨hq.1, hq.2.1, hq.2.2.1, (hq.2.2.2.sift fun y hy => Or.inr (N y hy)).mono (by decide) (by decide)⟩⟩
theorem main_1_1 : Claimed_1_1 := comes_1 fun _ _ _ _ _ _ h hF => ⟨h.1, hF⟩
theorem main_1_2 : Claimed_1_2 := comes_1 fun _ _ _ _ _ _ h hF => ⟨h.2.1, hF⟩
end Jvm.Pilot.@@N@@
namespace Jvm.Pilot.@@N@@
open Jvm Jvm.ClassFile Sem Op Lib Jvm.Free Jvm.Stand Jvm.Pilot.@@N@@.Jvm.D
/-! MADE BY PROGRAM (witnessworld.py) out of the Statement's table words and the real class files: 22 classes; the members and pool entries that the words name. The judged class is class 1, her method 1. -/
namespace start1
open Jvm.ClassFile
def u (s : String) : CpInfo := .utf8 (stringToUtf16 s)
/-- a pool by its gaps: so many unusable entries, then the entry; so many at the end -/
def gap : Nat → List CpInfo → List CpInfo
  | 0, r => r
  | n + 1, r => .unusable :: gap n r
def poolList (es : List (Nat × CpInfo)) (last : Nat) : List CpInfo := es.foldr (fun e r => gap e.1 (e.2 :: r)) (gap last [])
def pool (es : List (Nat × CpInfo)) (last : Nat) : Array CpInfo := ⟨poolList es last⟩
def fileOf (pool : Array CpInfo) (this : Nat) (attrs : Array Attribute := #[]) (ms : Array MethodInfo := #[]) (fl : Nat := 33) (sup : Nat := 0) (ifs : Array Nat := #[]) (fds : Array FieldInfo := #[]) : ClassFile where
  minorVersion := 0
  majorVersion := 65
  constantPool := pool
  accessFlags := fl
  thisClass := this
  superClass := sup
  interfaces := ifs
  fields := fds
  methods := ms
  attributes := attrs
def plain (name : String) (sup : Option ClassId) : Class where
  name := name
  kind := .ordinary
  loader := none
  accessFlags := 33
  super := sup
  interfaces := #[]
  cf := none
  fields := #[]
  methods := #[]
  instanceTypes := #[]
  staticTypes := #[]
  resolved := #[]
  callSites := []
  init := .initialized
  statics := none
  mirror := none

def pool0 : Array CpInfo := pool [(5, u "<init>"), (0, u "()V"), (1, .class_ 10), (1, u "java/lang/Object"), (85, u "clone"), (0, u "()Ljava/lang/Object;")] 26

def k0c0 : Code := { maxStack := 0, maxLocals := 1, code := object_method_1_code, exceptionTable := #[], attributes := #[] }
def k0m0 : Method := { name := "<init>", desc := "()V", sig := { parameters := [], returnType := none }, accessFlags := 1, code := some k0c0 }
def k0m1 : Method := { name := "clone", desc := "()Ljava/lang/Object;", sig := { parameters := [], returnType := some (.object "java/lang/Object") }, accessFlags := 260, code := none }
/-- java/lang/Object -/
def k0 : Class := { plain "java/lang/Object" none with
  accessFlags := 33
  interfaces := #[]
  cf := some (fileOf pool0 8 #[] #[{ accessFlags := 1, nameIndex := 5, descriptorIndex := 6, attributes := #[] }, { accessFlags := 260, nameIndex := 96, descriptorIndex := 97, attributes := #[] }] 33 0 #[] #[])
  fields := #[]
  methods := #[k0m0, k0m1]
  instanceTypes := #[]
  staticTypes := #[]
  resolved := Array.replicate 124 none
  statics := none }

def pool1 : Array CpInfo := pool [(2, .class_ 4), (1, u "java/lang/Object"), (0, u "<init>"), (0, u "()V"), (0, .string 8), (0, u ""), (0, .string 10), (0, u "passed"), (0, .string 12), (0, u "failed"), (0, .string 14), (0, u "aborted"), (0, .string 16), (0, u "not-found"), (0, .integer 2147483647), (0, .methodref 19 20), (0, .class_ 21), (0, .nameAndType 22 23), (0, u "java/lang/String"), (0, u "length"), (0, u "()I"), (0, .methodref 25 26), (0, .class_ 27), (0, .nameAndType 28 29), (0, u "com/example/tightrope/tightrope/junit/OutcomeOfTextPinLaw"), (0, u "pick"), (0, u "(ILjava/lang/String;JJ)C"), (0, .methodref 25 31), (0, .nameAndType 32 33), (0, u "make"), (0, u "(I[C)Ljava/lang/String;"), (0, .methodref 35 36), (0, .class_ 37), (0, .nameAndType 38 39), (0, u "com/example/tightrope/tightrope/junit/Outcome"), (0, u "ofText"), (0, u "(Ljava/lang/String;)Lcom/example/tightrope/tightrope/junit/Outcome;"), (0, .methodref 25 41), (0, .nameAndType 42 39), (0, u "ref"), (0, .methodref 19 44), (0, .nameAndType 45 46), (0, u "equals"), (0, u "(Ljava/lang/Object;)Z"), (0, .fieldref 35 48), (0, .nameAndType 49 50), (0, u "PASSED"), (0, u "Lcom/example/tightrope/tightrope/junit/Outcome;"), (0, .fieldref 35 52), (0, .nameAndType 53 50), (0, u "FAILED"), (0, .fieldref 35 55), (0, .nameAndType 56 50), (0, u "ABORTED"), (0, .fieldref 35 58), (0, .nameAndType 59 50), (0, u "NOT_FOUND"), (0, .long 255), (1, .methodref 19 63), (0, .nameAndType 64 65), (0, u "charAt"), (0, u "(I)C"), (0, .methodref 25 67), (0, .nameAndType 68 69), (0, u "drawn"), (0, u "(IJJ)C"), (0, .methodref 19 71), (0, .nameAndType 5 72), (0, u "([C)V"), (2, u "law"), (0, u "(IIIIJJ)Z")] 5

def k1m0 : Method := { name := "<init>", desc := "()V", sig := { parameters := [], returnType := none }, accessFlags := 1, code := none }
def k1c1 : Code := { maxStack := 8, maxLocals := 15, code := code, exceptionTable := #[], attributes := #[] }
def k1m1 : Method := { name := "law", desc := "(IIIIJJ)Z", sig := { parameters := [.int, .int, .int, .int, .long, .long], returnType := some .boolean }, accessFlags := 9, code := some k1c1 }
def k1c2 : Code := { maxStack := 2, maxLocals := 1, code := method_3_code, exceptionTable := #[], attributes := #[] }
def k1m2 : Method := { name := "ref", desc := "(Ljava/lang/String;)Lcom/example/tightrope/tightrope/junit/Outcome;", sig := { parameters := [(.object "java/lang/String")], returnType := some (.object "com/example/tightrope/tightrope/junit/Outcome") }, accessFlags := 10, code := some k1c2 }
def k1c3 : Code := { maxStack := 4, maxLocals := 8, code := method_4_code, exceptionTable := #[], attributes := #[] }
def k1m3 : Method := { name := "drawn", desc := "(IJJ)C", sig := { parameters := [.int, .long, .long], returnType := some .char }, accessFlags := 10, code := some k1c3 }
def k1c4 : Code := { maxStack := 5, maxLocals := 6, code := method_5_code, exceptionTable := #[], attributes := #[] }
def k1m4 : Method := { name := "pick", desc := "(ILjava/lang/String;JJ)C", sig := { parameters := [.int, (.object "java/lang/String"), .long, .long], returnType := some .char }, accessFlags := 10, code := some k1c4 }
def k1c5 : Code := { maxStack := 7, maxLocals := 2, code := method_6_code, exceptionTable := #[], attributes := #[] }
def k1m5 : Method := { name := "make", desc := "(I[C)Ljava/lang/String;", sig := { parameters := [.int, (.array .char)], returnType := some (.object "java/lang/String") }, accessFlags := 10, code := some k1c5 }
/-- com/example/tightrope/tightrope/junit/OutcomeOfTextPinLaw -/
def k1 : Class := { plain "com/example/tightrope/tightrope/junit/OutcomeOfTextPinLaw" (some 0) with
  accessFlags := 49
  interfaces := #[]
  cf := some (fileOf pool1 25 #[] #[{ accessFlags := 1, nameIndex := 5, descriptorIndex := 6, attributes := #[] }, { accessFlags := 9, nameIndex := 75, descriptorIndex := 76, attributes := #[] }, { accessFlags := 10, nameIndex := 42, descriptorIndex := 39, attributes := #[] }, { accessFlags := 10, nameIndex := 68, descriptorIndex := 69, attributes := #[] }, { accessFlags := 10, nameIndex := 28, descriptorIndex := 29, attributes := #[] }, { accessFlags := 10, nameIndex := 32, descriptorIndex := 33, attributes := #[] }] 49 2 #[] #[])
  fields := #[]
  methods := #[k1m0, k1m1, k1m2, k1m3, k1m4, k1m5]
  instanceTypes := #[]
  staticTypes := #[]
  resolved := Array.replicate 82 none
  statics := none }

def pool2 : Array CpInfo := pool [(1, .class_ 2), (0, u "java/io/Serializable"), (0, .class_ 4), (0, u "java/lang/Object")] 2

/-- java/io/Serializable -/
def k2 : Class := { plain "java/io/Serializable" (some 0) with
  accessFlags := 1537
  interfaces := #[]
  cf := some (fileOf pool2 1 #[] #[] 1537 3 #[] #[])
  fields := #[]
  methods := #[]
  instanceTypes := #[]
  staticTypes := #[]
  resolved := Array.replicate 7 none
  statics := none }

def pool3 : Array CpInfo := pool [(1, .class_ 2), (0, u "java/lang/Comparable"), (0, .class_ 4), (0, u "java/lang/Object")] 7

/-- java/lang/Comparable -/
def k3 : Class := { plain "java/lang/Comparable" (some 0) with
  accessFlags := 1537
  interfaces := #[]
  cf := some (fileOf pool3 1 #[] #[] 1537 3 #[] #[])
  fields := #[]
  methods := #[]
  instanceTypes := #[]
  staticTypes := #[]
  resolved := Array.replicate 12 none
  statics := none }

def pool4 : Array CpInfo := pool [(2, .class_ 4), (1, u "java/lang/CharSequence"), (42, .class_ 48), (0, u "java/lang/CharSequence$1CodePointIterator"), (10, .class_ 60), (0, u "java/lang/CharSequence$1CharIterator"), (5, .class_ 67), (0, u "java/lang/Object")] 63

/-- java/lang/CharSequence -/
def k4 : Class := { plain "java/lang/CharSequence" (some 0) with
  accessFlags := 1537
  interfaces := #[]
  cf := some (fileOf pool4 2 #[.nestMembers #[47, 59]] #[] 1537 66 #[] #[])
  fields := #[]
  methods := #[]
  instanceTypes := #[]
  staticTypes := #[]
  resolved := Array.replicate 131 none
  statics := none }

def pool5 : Array CpInfo := pool [(1, .class_ 2), (0, u "java/lang/constant/Constable"), (0, .class_ 4), (0, u "java/lang/Object")] 6

/-- java/lang/constant/Constable -/
def k5 : Class := { plain "java/lang/constant/Constable" (some 0) with
  accessFlags := 1537
  interfaces := #[]
  cf := some (fileOf pool5 1 #[] #[] 1537 3 #[] #[])
  fields := #[]
  methods := #[]
  instanceTypes := #[]
  staticTypes := #[]
  resolved := Array.replicate 11 none
  statics := none }

def pool6 : Array CpInfo := pool [(1, .class_ 2), (0, u "java/lang/constant/ConstantDesc"), (0, .class_ 4), (0, u "java/lang/Object")] 32

/-- java/lang/constant/ConstantDesc -/
def k6 : Class := { plain "java/lang/constant/ConstantDesc" (some 0) with
  accessFlags := 1537
  interfaces := #[]
  cf := some (fileOf pool6 1 #[] #[] 1537 3 #[] #[])
  fields := #[]
  methods := #[]
  instanceTypes := #[]
  staticTypes := #[]
  resolved := Array.replicate 37 none
  statics := none }

def pool7 : Array CpInfo := pool [(1, .methodref 2 3), (0, .class_ 4), (0, .nameAndType 5 6), (0, u "java/lang/Object"), (0, u "<init>"), (0, u "()V"), (0, .string 8), (0, u ""), (0, .fieldref 10 11), (0, .class_ 12), (0, .nameAndType 13 14), (0, u "java/lang/String"), (0, u "value"), (0, u "[B"), (0, .fieldref 10 16), (0, .nameAndType 17 18), (0, u "coder"), (0, u "B"), (2, u "hash"), (0, u "I"), (2, u "hashIsZero"), (0, u "Z"), (0, .methodref 10 28), (0, .nameAndType 5 29), (0, u "([CIILjava/lang/Void;)V"), (8, .fieldref 10 39), (0, .nameAndType 40 26), (0, u "COMPACT_STRINGS"), (1, .class_ 44), (1, u "java/lang/StringUTF16"), (0, u "compress"), (1, .methodref 42 48), (0, .nameAndType 49 50), (0, u "coderFromArrayLen"), (0, u "([BI)B"), (56, .class_ 109), (1, u "java/lang/StringLatin1"), (32, u "()Z"), (34, .methodref 42 178), (0, .nameAndType 45 179), (0, u "([CII)[B"), (154, u "()I"), (0, .methodref 10 336), (0, .nameAndType 17 337), (0, u "()B"), (25, u "([BI)C"), (27, u "(II)V"), (35, u "(I)C"), (64, .methodref 10 493), (0, .nameAndType 494 142), (0, u "isLatin1"), (0, .methodref 107 496), (0, .nameAndType 497 363), (0, u "charAt"), (3, u "checkIndex"), (5, u "length"), (33, .methodref 107 542), (0, .nameAndType 543 544), (0, u "equals"), (0, u "([B[B)Z"), (28, u "(Ljava/lang/Object;)Z"), (1, .class_ 576), (0, u "java/lang/CharSequence"), (22, u "CASE_INSENSITIVE_ORDER"), (0, u "Ljava/util/Comparator;"), (409, u "([C)V"), (42, .fieldref 1054 1055), (0, .class_ 1056), (0, .nameAndType 1057 1058), (0, u "jdk/internal/util/Preconditions"), (0, u "SIOOBE_FORMATTER"), (0, u "Ljava/util/function/BiFunction;"), (0, .methodref 1054 1060), (0, .nameAndType 501 1061), (0, u "(IILjava/util/function/BiFunction;)I"), (39, u "serialPersistentFields"), (0, u "[Ljava/io/ObjectStreamField;"), (0, .class_ 1104), (0, u "java/lang/String$CaseInsensitiveComparator"), (1, .class_ 1107), (0, u "java/io/Serializable"), (0, .class_ 1109), (0, u "java/lang/Comparable"), (0, .class_ 1111), (0, u "java/lang/constant/Constable"), (0, .class_ 1113), (0, u "java/lang/constant/ConstantDesc"), (2, u "serialVersionUID"), (0, u "J"), (3, u "REPL"), (0, u "C"), (2, u "LATIN1"), (1, u "UTF16")] 323

def k7m0 : Method := { name := "<init>", desc := "()V", sig := { parameters := [], returnType := none }, accessFlags := 1, code := none }
def k7c1 : Code := { maxStack := 5, maxLocals := 2, code := jdk_42_method_3_code, exceptionTable := #[], attributes := #[] }
def k7m1 : Method := { name := "<init>", desc := "([C)V", sig := { parameters := [(.array .char)], returnType := none }, accessFlags := 1, code := some k7c1 }
def k7c2 : Code := { maxStack := 2, maxLocals := 1, code := jdk_42_method_54_code, exceptionTable := #[], attributes := #[] }
def k7m2 : Method := { name := "length", desc := "()I", sig := { parameters := [], returnType := some .int }, accessFlags := 1, code := some k7c2 }
def k7c3 : Code := { maxStack := 2, maxLocals := 2, code := jdk_42_method_56_code, exceptionTable := #[], attributes := #[] }
def k7m3 : Method := { name := "charAt", desc := "(I)C", sig := { parameters := [.int], returnType := some .char }, accessFlags := 1, code := some k7c3 }
def k7c4 : Code := { maxStack := 2, maxLocals := 3, code := jdk_42_method_66_code, exceptionTable := #[], attributes := #[] }
def k7m4 : Method := { name := "equals", desc := "(Ljava/lang/Object;)Z", sig := { parameters := [(.object "java/lang/Object")], returnType := some .boolean }, accessFlags := 1, code := some k7c4 }
def k7c5 : Code := { maxStack := 4, maxLocals := 6, code := jdk_42_method_149_code, exceptionTable := #[], attributes := #[] }
def k7m5 : Method := { name := "<init>", desc := "([CIILjava/lang/Void;)V", sig := { parameters := [(.array .char), .int, .int, (.object "java/lang/Void")], returnType := none }, accessFlags := 2, code := some k7c5 }
def k7c6 : Code := { maxStack := 1, maxLocals := 1, code := jdk_42_method_152_code, exceptionTable := #[], attributes := #[] }
def k7m6 : Method := { name := "coder", desc := "()B", sig := { parameters := [], returnType := some .byte }, accessFlags := 0, code := some k7c6 }
def k7c7 : Code := { maxStack := 1, maxLocals := 1, code := jdk_42_method_154_code, exceptionTable := #[], attributes := #[] }
def k7m7 : Method := { name := "isLatin1", desc := "()Z", sig := { parameters := [], returnType := some .boolean }, accessFlags := 0, code := some k7c7 }
def k7c8 : Code := { maxStack := 3, maxLocals := 2, code := jdk_42_method_155_code, exceptionTable := #[], attributes := #[] }
def k7m8 : Method := { name := "checkIndex", desc := "(II)V", sig := { parameters := [.int, .int], returnType := none }, accessFlags := 8, code := some k7c8 }
/-- java/lang/String -/
def k7 : Class := { plain "java/lang/String" (some 0) with
  accessFlags := 49
  interfaces := #[2, 3, 4, 5, 6]
  cf := some (fileOf pool7 10 #[.nestMembers #[1103]] #[{ accessFlags := 1, nameIndex := 5, descriptorIndex := 6, attributes := #[] }, { accessFlags := 1, nameIndex := 5, descriptorIndex := 1010, attributes := #[] }, { accessFlags := 1, nameIndex := 507, descriptorIndex := 334, attributes := #[] }, { accessFlags := 1, nameIndex := 497, descriptorIndex := 427, attributes := #[] }, { accessFlags := 1, nameIndex := 543, descriptorIndex := 573, attributes := #[] }, { accessFlags := 2, nameIndex := 5, descriptorIndex := 29, attributes := #[] }, { accessFlags := 0, nameIndex := 17, descriptorIndex := 337, attributes := #[] }, { accessFlags := 0, nameIndex := 494, descriptorIndex := 142, attributes := #[] }, { accessFlags := 8, nameIndex := 501, descriptorIndex := 391, attributes := #[] }] 49 2 #[1106, 1108, 575, 1110, 1112] #[{ accessFlags := 18, nameIndex := 13, descriptorIndex := 14, attributes := #[] }, { accessFlags := 18, nameIndex := 17, descriptorIndex := 18, attributes := #[] }, { accessFlags := 2, nameIndex := 21, descriptorIndex := 22, attributes := #[] }, { accessFlags := 2, nameIndex := 25, descriptorIndex := 26, attributes := #[] }, { accessFlags := 26, nameIndex := 1116, descriptorIndex := 1117, attributes := #[] }, { accessFlags := 24, nameIndex := 40, descriptorIndex := 26, attributes := #[] }, { accessFlags := 26, nameIndex := 1101, descriptorIndex := 1102, attributes := #[] }, { accessFlags := 26, nameIndex := 1121, descriptorIndex := 1122, attributes := #[] }, { accessFlags := 25, nameIndex := 599, descriptorIndex := 600, attributes := #[] }, { accessFlags := 24, nameIndex := 1125, descriptorIndex := 18, attributes := #[] }, { accessFlags := 24, nameIndex := 1127, descriptorIndex := 18, attributes := #[] }])
  fields := #[{ name := "value", type := (.array .byte), accessFlags := 18, slot := 0, constantValue := 0 }, { name := "coder", type := .byte, accessFlags := 18, slot := 1, constantValue := 0 }, { name := "hash", type := .int, accessFlags := 2, slot := 2, constantValue := 0 }, { name := "hashIsZero", type := .boolean, accessFlags := 2, slot := 3, constantValue := 0 }, { name := "serialVersionUID", type := .long, accessFlags := 26, slot := 0, constantValue := 0 }, { name := "COMPACT_STRINGS", type := .boolean, accessFlags := 24, slot := 1, constantValue := 0 }, { name := "serialPersistentFields", type := (.array (.object "java/io/ObjectStreamField")), accessFlags := 26, slot := 2, constantValue := 0 }, { name := "REPL", type := .char, accessFlags := 26, slot := 3, constantValue := 0 }, { name := "CASE_INSENSITIVE_ORDER", type := (.object "java/util/Comparator"), accessFlags := 25, slot := 4, constantValue := 0 }, { name := "LATIN1", type := .byte, accessFlags := 24, slot := 5, constantValue := 0 }, { name := "UTF16", type := .byte, accessFlags := 24, slot := 6, constantValue := 0 }]
  methods := #[k7m0, k7m1, k7m2, k7m3, k7m4, k7m5, k7m6, k7m7, k7m8]
  instanceTypes := #[(.array .byte), .byte, .int, .boolean]
  staticTypes := #[.long, .boolean, (.array (.object "java/io/ObjectStreamField")), .char, (.object "java/util/Comparator"), .byte, .byte]
  resolved := Array.replicate 1451 none
  statics := some 0 }

def pool8 : Array CpInfo := pool [(1, .class_ 2), (0, u "java/lang/String"), (1, .class_ 6), (1, u "java/lang/Object"), (0, u "<init>"), (0, u "()V"), (0, .methodref 1 10), (0, .nameAndType 11 12), (0, u "checkIndex"), (0, u "(II)V"), (1, .class_ 16), (1, u "java/lang/StringLatin1"), (36, u "([BI)C"), (67, u "$assertionsDisabled"), (0, u "Z"), (98, .class_ 223), (1, u "java/lang/StringLatin1$LinesSpliterator"), (28, u "charAt"), (28, u "equals"), (0, u "([B[B)Z"), (107, .class_ 391), (0, u "java/lang/StringLatin1$CharsSpliterator")] 3

def k8m0 : Method := { name := "<init>", desc := "()V", sig := { parameters := [], returnType := none }, accessFlags := 0, code := none }
def k8c1 : Code := { maxStack := 2, maxLocals := 2, code := jdk_43_method_2_code, exceptionTable := #[], attributes := #[] }
def k8m1 : Method := { name := "charAt", desc := "([BI)C", sig := { parameters := [(.array .byte), .int], returnType := some .char }, accessFlags := 9, code := some k8c1 }
def k8c2 : Code := { maxStack := 3, maxLocals := 3, code := jdk_43_method_13_code, exceptionTable := #[], attributes := #[] }
def k8m2 : Method := { name := "equals", desc := "([B[B)Z", sig := { parameters := [(.array .byte), (.array .byte)], returnType := some .boolean }, accessFlags := 9, code := some k8c2 }
/-- java/lang/StringLatin1 -/
def k8 : Class := { plain "java/lang/StringLatin1" (some 0) with
  accessFlags := 48
  interfaces := #[]
  cf := some (fileOf pool8 14 #[.nestMembers #[390, 221]] #[{ accessFlags := 0, nameIndex := 7, descriptorIndex := 8, attributes := #[] }, { accessFlags := 9, nameIndex := 252, descriptorIndex := 53, attributes := #[] }, { accessFlags := 9, nameIndex := 281, descriptorIndex := 282, attributes := #[] }] 48 4 #[] #[{ accessFlags := 4120, nameIndex := 121, descriptorIndex := 122, attributes := #[] }])
  fields := #[{ name := "$assertionsDisabled", type := .boolean, accessFlags := 4120, slot := 0, constantValue := 0 }]
  methods := #[k8m0, k8m1, k8m2]
  instanceTypes := #[]
  staticTypes := #[.boolean]
  resolved := Array.replicate 395 none
  statics := none }

def pool9 : Array CpInfo := pool [(2, .class_ 4), (1, u "java/lang/Object"), (0, u "<init>"), (0, u "()V"), (17, .class_ 26), (1, u "jdk/internal/util/Preconditions"), (6, u "checkIndex"), (21, .class_ 56), (0, u "jdk/internal/util/Preconditions$4"), (57, .class_ 115), (0, u "jdk/internal/util/Preconditions$1"), (7, u "SIOOBE_FORMATTER"), (0, u "Ljava/util/function/BiFunction;"), (0, .class_ 126), (0, u "jdk/internal/util/Preconditions$2"), (3, u "AIOOBE_FORMATTER"), (0, .class_ 132), (0, u "jdk/internal/util/Preconditions$3"), (3, u "IOOBE_FORMATTER"), (41, u "(IILjava/util/function/BiFunction;)I")] 15

def k9m0 : Method := { name := "<init>", desc := "()V", sig := { parameters := [], returnType := none }, accessFlags := 1, code := none }
def k9c1 : Code := { maxStack := 3, maxLocals := 3, code := jdk_41_method_11_code, exceptionTable := #[], attributes := #[] }
def k9m1 : Method := { name := "checkIndex", desc := "(IILjava/util/function/BiFunction;)I", sig := { parameters := [.int, .int, (.object "java/util/function/BiFunction")], returnType := some .int }, accessFlags := 9, code := some k9c1 }
/-- jdk/internal/util/Preconditions -/
def k9 : Class := { plain "jdk/internal/util/Preconditions" (some 0) with
  accessFlags := 33
  interfaces := #[]
  cf := some (fileOf pool9 24 #[.nestMembers #[55, 131, 125, 114]] #[{ accessFlags := 1, nameIndex := 5, descriptorIndex := 6, attributes := #[] }, { accessFlags := 9, nameIndex := 33, descriptorIndex := 178, attributes := #[] }] 33 2 #[] #[{ accessFlags := 25, nameIndex := 123, descriptorIndex := 124, attributes := #[] }, { accessFlags := 25, nameIndex := 130, descriptorIndex := 124, attributes := #[] }, { accessFlags := 25, nameIndex := 136, descriptorIndex := 124, attributes := #[] }])
  fields := #[{ name := "SIOOBE_FORMATTER", type := (.object "java/util/function/BiFunction"), accessFlags := 25, slot := 0, constantValue := 0 }, { name := "AIOOBE_FORMATTER", type := (.object "java/util/function/BiFunction"), accessFlags := 25, slot := 1, constantValue := 0 }, { name := "IOOBE_FORMATTER", type := (.object "java/util/function/BiFunction"), accessFlags := 25, slot := 2, constantValue := 0 }]
  methods := #[k9m0, k9m1]
  instanceTypes := #[]
  staticTypes := #[(.object "java/util/function/BiFunction"), (.object "java/util/function/BiFunction"), (.object "java/util/function/BiFunction")]
  resolved := Array.replicate 194 none
  statics := some 1 }

def pool10 : Array CpInfo := pool [(6, .class_ 8), (1, u "java/lang/Object"), (0, u "<init>"), (0, u "()V"), (1, .class_ 14), (1, u "java/lang/StringUTF16"), (31, u "$assertionsDisabled"), (0, u "Z"), (13, u "HI_BYTE_SHIFT"), (0, u "I"), (2, u "LO_BYTE_SHIFT"), (49, .methodref 12 116), (0, .nameAndType 117 118), (0, u "compress"), (0, u "([CI[BII)I"), (3, u "([CII)[B"), (138, u "coderFromArrayLen"), (0, u "([BI)B"), (106, .class_ 371), (1, u "java/lang/StringUTF16$LinesSpliterator"), (58, u "MAX_LENGTH"), (196, .class_ 628), (0, u "java/lang/StringUTF16$CodePointsSpliterator"), (0, .class_ 630), (0, u "java/lang/StringUTF16$CharsSpliterator")] 4

def k10m0 : Method := { name := "<init>", desc := "()V", sig := { parameters := [], returnType := none }, accessFlags := 0, code := none }
def k10c1 : Code := { maxStack := 2, maxLocals := 2, code := jdk_52_method_15_code, exceptionTable := #[], attributes := #[] }
def k10m1 : Method := { name := "coderFromArrayLen", desc := "([BI)B", sig := { parameters := [(.array .byte), .int], returnType := some .byte }, accessFlags := 8, code := some k10c1 }
def k10c2 : Code := { maxStack := 5, maxLocals := 6, code := jdk_52_method_16_code, exceptionTable := #[], attributes := #[] }
def k10m2 : Method := { name := "compress", desc := "([CII)[B", sig := { parameters := [(.array .char), .int, .int], returnType := some (.array .byte) }, accessFlags := 9, code := some k10c2 }
def k10c3 : Code := { maxStack := 3, maxLocals := 7, code := jdk_52_method_21_code, exceptionTable := #[], attributes := #[] }
def k10m3 : Method := { name := "compress", desc := "([CI[BII)I", sig := { parameters := [(.array .char), .int, (.array .byte), .int, .int], returnType := some .int }, accessFlags := 9, code := some k10c3 }
/-- java/lang/StringUTF16 -/
def k10 : Class := { plain "java/lang/StringUTF16" (some 0) with
  accessFlags := 48
  interfaces := #[]
  cf := some (fileOf pool10 12 #[.nestMembers #[627, 629, 369]] #[{ accessFlags := 0, nameIndex := 9, descriptorIndex := 10, attributes := #[] }, { accessFlags := 8, nameIndex := 261, descriptorIndex := 262, attributes := #[] }, { accessFlags := 9, nameIndex := 117, descriptorIndex := 122, attributes := #[] }, { accessFlags := 9, nameIndex := 117, descriptorIndex := 118, attributes := #[] }] 48 6 #[] #[{ accessFlags := 26, nameIndex := 61, descriptorIndex := 62, attributes := #[] }, { accessFlags := 26, nameIndex := 65, descriptorIndex := 62, attributes := #[] }, { accessFlags := 24, nameIndex := 430, descriptorIndex := 62, attributes := #[] }, { accessFlags := 4120, nameIndex := 46, descriptorIndex := 47, attributes := #[] }])
  fields := #[{ name := "HI_BYTE_SHIFT", type := .int, accessFlags := 26, slot := 0, constantValue := 0 }, { name := "LO_BYTE_SHIFT", type := .int, accessFlags := 26, slot := 1, constantValue := 0 }, { name := "MAX_LENGTH", type := .int, accessFlags := 24, slot := 2, constantValue := 0 }, { name := "$assertionsDisabled", type := .boolean, accessFlags := 4120, slot := 3, constantValue := 0 }]
  methods := #[k10m0, k10m1, k10m2, k10m3]
  instanceTypes := #[]
  staticTypes := #[.int, .int, .int, .boolean]
  resolved := Array.replicate 635 none
  statics := none }

def pool11 : Array CpInfo := pool [(2, .class_ 4), (1, u "java/lang/Enum"), (0, u "name"), (0, u "Ljava/lang/String;"), (2, u "ordinal"), (0, u "I"), (1, .class_ 14), (1, u "java/lang/Object"), (4, u "hash"), (86, .class_ 108), (1, u "java/lang/Enum$EnumDesc"), (2, .class_ 112), (0, u "java/lang/constant/Constable"), (0, .class_ 114), (0, u "java/lang/Comparable"), (0, .class_ 116), (0, u "java/io/Serializable")] 87

/-- java/lang/Enum -/
def k11 : Class := { plain "java/lang/Enum" (some 0) with
  accessFlags := 1057
  interfaces := #[5, 3, 2]
  cf := some (fileOf pool11 2 #[.nestMembers #[106]] #[] 1057 12 #[111, 113, 115] #[{ accessFlags := 18, nameIndex := 5, descriptorIndex := 6, attributes := #[] }, { accessFlags := 18, nameIndex := 9, descriptorIndex := 10, attributes := #[] }, { accessFlags := 2, nameIndex := 19, descriptorIndex := 10, attributes := #[] }])
  fields := #[{ name := "name", type := (.object "java/lang/String"), accessFlags := 18, slot := 0, constantValue := 0 }, { name := "ordinal", type := .int, accessFlags := 18, slot := 1, constantValue := 0 }, { name := "hash", type := .int, accessFlags := 2, slot := 2, constantValue := 0 }]
  methods := #[]
  instanceTypes := #[(.object "java/lang/String"), .int, .int]
  staticTypes := #[]
  resolved := Array.replicate 204 none
  statics := none }

def pool12 : Array CpInfo := pool [(1, .class_ 2), (0, u "com/example/tightrope/tightrope/junit/Outcome"), (2, u "PASSED"), (0, u "Lcom/example/tightrope/tightrope/junit/Outcome;"), (2, u "FAILED"), (2, u "ABORTED"), (2, u "NOT_FOUND"), (0, .fieldref 1 17), (0, .nameAndType 18 19), (0, u "$VALUES"), (0, u "[Lcom/example/tightrope/tightrope/junit/Outcome;"), (0, .methodref 21 22), (0, .class_ 19), (0, .nameAndType 23 24), (0, u "clone"), (0, u "()Ljava/lang/Object;"), (1, .class_ 28), (1, u "java/lang/Enum"), (6, .fieldref 1 36), (0, .nameAndType 37 38), (0, u "text"), (0, u "Ljava/lang/String;"), (0, .methodref 1 40), (0, .nameAndType 41 42), (0, u "values"), (0, u "()[Lcom/example/tightrope/tightrope/junit/Outcome;"), (0, .methodref 44 45), (0, .class_ 46), (0, .nameAndType 47 48), (0, u "java/lang/String"), (0, u "equals"), (0, u "(Ljava/lang/Object;)Z"), (20, u "(Ljava/lang/String;)Lcom/example/tightrope/tightrope/junit/Outcome;"), (4, u "ofText")] 6

def k12c0 : Code := { maxStack := 1, maxLocals := 0, code := prog_31_method_1_code, exceptionTable := #[], attributes := #[] }
def k12m0 : Method := { name := "values", desc := "()[Lcom/example/tightrope/tightrope/junit/Outcome;", sig := { parameters := [], returnType := some (.array (.object "com/example/tightrope/tightrope/junit/Outcome")) }, accessFlags := 9, code := some k12c0 }
def k12c1 : Code := { maxStack := 2, maxLocals := 6, code := prog_31_method_5_code, exceptionTable := #[], attributes := #[] }
def k12m1 : Method := { name := "ofText", desc := "(Ljava/lang/String;)Lcom/example/tightrope/tightrope/junit/Outcome;", sig := { parameters := [(.object "java/lang/String")], returnType := some (.object "com/example/tightrope/tightrope/junit/Outcome") }, accessFlags := 8, code := some k12c1 }
/-- com/example/tightrope/tightrope/junit/Outcome -/
def k12 : Class := { plain "com/example/tightrope/tightrope/junit/Outcome" (some 11) with
  accessFlags := 16433
  interfaces := #[]
  cf := some (fileOf pool12 1 #[] #[{ accessFlags := 9, nameIndex := 41, descriptorIndex := 42, attributes := #[] }, { accessFlags := 8, nameIndex := 74, descriptorIndex := 69, attributes := #[] }] 16433 26 #[] #[{ accessFlags := 16409, nameIndex := 5, descriptorIndex := 6, attributes := #[] }, { accessFlags := 16409, nameIndex := 9, descriptorIndex := 6, attributes := #[] }, { accessFlags := 16409, nameIndex := 12, descriptorIndex := 6, attributes := #[] }, { accessFlags := 16409, nameIndex := 15, descriptorIndex := 6, attributes := #[] }, { accessFlags := 18, nameIndex := 37, descriptorIndex := 38, attributes := #[] }, { accessFlags := 4122, nameIndex := 18, descriptorIndex := 19, attributes := #[] }])
  fields := #[{ name := "PASSED", type := (.object "com/example/tightrope/tightrope/junit/Outcome"), accessFlags := 16409, slot := 0, constantValue := 0 }, { name := "FAILED", type := (.object "com/example/tightrope/tightrope/junit/Outcome"), accessFlags := 16409, slot := 1, constantValue := 0 }, { name := "ABORTED", type := (.object "com/example/tightrope/tightrope/junit/Outcome"), accessFlags := 16409, slot := 2, constantValue := 0 }, { name := "NOT_FOUND", type := (.object "com/example/tightrope/tightrope/junit/Outcome"), accessFlags := 16409, slot := 3, constantValue := 0 }, { name := "text", type := (.object "java/lang/String"), accessFlags := 18, slot := 3, constantValue := 0 }, { name := "$VALUES", type := (.array (.object "com/example/tightrope/tightrope/junit/Outcome")), accessFlags := 4122, slot := 4, constantValue := 0 }]
  methods := #[k12m0, k12m1]
  instanceTypes := #[(.object "java/lang/String"), .int, .int, (.object "java/lang/String")]
  staticTypes := #[(.object "com/example/tightrope/tightrope/junit/Outcome"), (.object "com/example/tightrope/tightrope/junit/Outcome"), (.object "com/example/tightrope/tightrope/junit/Outcome"), (.object "com/example/tightrope/tightrope/junit/Outcome"), (.array (.object "com/example/tightrope/tightrope/junit/Outcome"))]
  resolved := Array.replicate 81 none
  statics := some 2 }

def pool13 : Array CpInfo := pool [(1, .class_ 2), (0, u "java/lang/Cloneable"), (0, .class_ 4), (0, u "java/lang/Object")] 2

/-- java/lang/Cloneable -/
def k13 : Class := { plain "java/lang/Cloneable" (some 0) with
  accessFlags := 1537
  interfaces := #[]
  cf := some (fileOf pool13 1 #[] #[] 1537 3 #[] #[])
  fields := #[]
  methods := #[]
  instanceTypes := #[]
  staticTypes := #[]
  resolved := Array.replicate 7 none
  statics := none }

def pool14 : Array CpInfo := pool [(9, u "<init>"), (6, .class_ 18), (1, u "java/lang/Object"), (0, u "()V"), (1, .class_ 23), (1, u "jdk/internal/util/ArraysSupport"), (0, u "LOG2_ARRAY_LONG_INDEX_SCALE"), (0, u "I"), (2, u "U"), (0, u "Ljdk/internal/misc/Unsafe;"), (8, u "BIG_ENDIAN"), (0, u "Z"), (8, u "LOG2_BYTE_BIT_SIZE"), (4, u "LOG2_ARRAY_INT_INDEX_SCALE"), (54, u "JLA"), (0, u "Ljdk/internal/access/JavaLangAccess;"), (11, u "LOG2_ARRAY_BOOLEAN_INDEX_SCALE"), (9, u "LOG2_ARRAY_BYTE_INDEX_SCALE"), (5, u "LOG2_ARRAY_CHAR_INDEX_SCALE"), (5, u "LOG2_ARRAY_SHORT_INDEX_SCALE"), (18, u "LOG2_ARRAY_FLOAT_INDEX_SCALE"), (24, u "LOG2_ARRAY_DOUBLE_INDEX_SCALE"), (89, u "T_BOOLEAN"), (2, u "T_CHAR"), (1, u "T_FLOAT"), (1, u "T_DOUBLE"), (1, u "T_BYTE"), (1, u "T_SHORT"), (1, u "T_INT"), (1, u "T_LONG"), (1, u "SOFT_MAX_ARRAY_LENGTH")] 83

def k14m0 : Method := { name := "<init>", desc := "()V", sig := { parameters := [], returnType := none }, accessFlags := 2, code := none }
/-- jdk/internal/util/ArraysSupport -/
def k14 : Class := { plain "jdk/internal/util/ArraysSupport" (some 0) with
  accessFlags := 33
  interfaces := #[]
  cf := some (fileOf pool14 21 #[] #[{ accessFlags := 2, nameIndex := 9, descriptorIndex := 19, attributes := #[] }] 33 16 #[] #[{ accessFlags := 24, nameIndex := 28, descriptorIndex := 29, attributes := #[] }, { accessFlags := 26, nameIndex := 38, descriptorIndex := 39, attributes := #[] }, { accessFlags := 25, nameIndex := 121, descriptorIndex := 25, attributes := #[] }, { accessFlags := 25, nameIndex := 131, descriptorIndex := 25, attributes := #[] }, { accessFlags := 25, nameIndex := 137, descriptorIndex := 25, attributes := #[] }, { accessFlags := 25, nameIndex := 143, descriptorIndex := 25, attributes := #[] }, { accessFlags := 25, nameIndex := 53, descriptorIndex := 25, attributes := #[] }, { accessFlags := 25, nameIndex := 24, descriptorIndex := 25, attributes := #[] }, { accessFlags := 25, nameIndex := 162, descriptorIndex := 25, attributes := #[] }, { accessFlags := 25, nameIndex := 187, descriptorIndex := 25, attributes := #[] }, { accessFlags := 26, nameIndex := 48, descriptorIndex := 25, attributes := #[] }, { accessFlags := 25, nameIndex := 277, descriptorIndex := 25, attributes := #[] }, { accessFlags := 25, nameIndex := 280, descriptorIndex := 25, attributes := #[] }, { accessFlags := 25, nameIndex := 282, descriptorIndex := 25, attributes := #[] }, { accessFlags := 25, nameIndex := 284, descriptorIndex := 25, attributes := #[] }, { accessFlags := 25, nameIndex := 286, descriptorIndex := 25, attributes := #[] }, { accessFlags := 25, nameIndex := 288, descriptorIndex := 25, attributes := #[] }, { accessFlags := 25, nameIndex := 290, descriptorIndex := 25, attributes := #[] }, { accessFlags := 25, nameIndex := 292, descriptorIndex := 25, attributes := #[] }, { accessFlags := 26, nameIndex := 108, descriptorIndex := 109, attributes := #[] }, { accessFlags := 25, nameIndex := 294, descriptorIndex := 25, attributes := #[] }])
  fields := #[{ name := "U", type := (.object "jdk/internal/misc/Unsafe"), accessFlags := 24, slot := 0, constantValue := 0 }, { name := "BIG_ENDIAN", type := .boolean, accessFlags := 26, slot := 1, constantValue := 0 }, { name := "LOG2_ARRAY_BOOLEAN_INDEX_SCALE", type := .int, accessFlags := 25, slot := 2, constantValue := 0 }, { name := "LOG2_ARRAY_BYTE_INDEX_SCALE", type := .int, accessFlags := 25, slot := 3, constantValue := 0 }, { name := "LOG2_ARRAY_CHAR_INDEX_SCALE", type := .int, accessFlags := 25, slot := 4, constantValue := 0 }, { name := "LOG2_ARRAY_SHORT_INDEX_SCALE", type := .int, accessFlags := 25, slot := 5, constantValue := 0 }, { name := "LOG2_ARRAY_INT_INDEX_SCALE", type := .int, accessFlags := 25, slot := 6, constantValue := 0 }, { name := "LOG2_ARRAY_LONG_INDEX_SCALE", type := .int, accessFlags := 25, slot := 7, constantValue := 0 }, { name := "LOG2_ARRAY_FLOAT_INDEX_SCALE", type := .int, accessFlags := 25, slot := 8, constantValue := 0 }, { name := "LOG2_ARRAY_DOUBLE_INDEX_SCALE", type := .int, accessFlags := 25, slot := 9, constantValue := 0 }, { name := "LOG2_BYTE_BIT_SIZE", type := .int, accessFlags := 26, slot := 10, constantValue := 0 }, { name := "T_BOOLEAN", type := .int, accessFlags := 25, slot := 11, constantValue := 0 }, { name := "T_CHAR", type := .int, accessFlags := 25, slot := 12, constantValue := 0 }, { name := "T_FLOAT", type := .int, accessFlags := 25, slot := 13, constantValue := 0 }, { name := "T_DOUBLE", type := .int, accessFlags := 25, slot := 14, constantValue := 0 }, { name := "T_BYTE", type := .int, accessFlags := 25, slot := 15, constantValue := 0 }, { name := "T_SHORT", type := .int, accessFlags := 25, slot := 16, constantValue := 0 }, { name := "T_INT", type := .int, accessFlags := 25, slot := 17, constantValue := 0 }, { name := "T_LONG", type := .int, accessFlags := 25, slot := 18, constantValue := 0 }, { name := "JLA", type := (.object "jdk/internal/access/JavaLangAccess"), accessFlags := 26, slot := 19, constantValue := 0 }, { name := "SOFT_MAX_ARRAY_LENGTH", type := .int, accessFlags := 25, slot := 20, constantValue := 0 }]
  methods := #[k14m0]
  instanceTypes := #[]
  staticTypes := #[(.object "jdk/internal/misc/Unsafe"), .boolean, .int, .int, .int, .int, .int, .int, .int, .int, .int, .int, .int, .int, .int, .int, .int, .int, .int, (.object "jdk/internal/access/JavaLangAccess"), .int]
  resolved := Array.replicate 378 none
  statics := none }

/-- the primitive byte -/
def k15 : Class := { plain "byte" none with kind := .primitive 'B', accessFlags := 0x411 }
/-- [B -/
def k16 : Class := { plain "[B" (some 0) with kind := .array 15 .byte, interfaces := #[13, 2], accessFlags := 1041 }

/-- the primitive char -/
def k17 : Class := { plain "char" none with kind := .primitive 'C', accessFlags := 0x411 }
/-- [C -/
def k18 : Class := { plain "[C" (some 0) with kind := .array 17 .char, interfaces := #[13, 2], accessFlags := 1041 }

/-- the primitive int -/
def k19 : Class := { plain "int" none with kind := .primitive 'I', accessFlags := 0x411 }
/-- [I -/
def k20 : Class := { plain "[I" (some 0) with kind := .array 19 .int, interfaces := #[13, 2], accessFlags := 1041 }

/-- [Lcom/example/tightrope/tightrope/junit/Outcome; -/
def k21 : Class := { plain "[Lcom/example/tightrope/tightrope/junit/Outcome;" (some 0) with kind := .array 12 (.object "com/example/tightrope/tightrope/junit/Outcome"), interfaces := #[13, 2], accessFlags := 1041 }

def heap : Heap := #[{ cls := 7, slots := #[.long 0, .int 1, .null, .int 0, .null, .int 0, .int 0], vm := .statics 7 },
  { cls := 9, slots := #[.null, .null, .null], vm := .statics 9 },
  { cls := 12, slots := #[.ref 4, .ref 5, .ref 6, .ref 7, .ref 3], vm := .statics 12 },
  { cls := 21, slots := #[.ref 4, .ref 5, .ref 6, .ref 7], vm := .none },
  { cls := 12, slots := #[.null, .int 0, .int 0, .ref 8], vm := .none },
  { cls := 12, slots := #[.null, .int 1, .int 0, .ref 9], vm := .none },
  { cls := 12, slots := #[.null, .int 2, .int 0, .ref 10], vm := .none },
  { cls := 12, slots := #[.null, .int 3, .int 0, .ref 11], vm := .none },
  { cls := 7, slots := #[.ref 12, .int 0, .int 0, .int 0], vm := .none },
  { cls := 7, slots := #[.ref 13, .int 0, .int 0, .int 0], vm := .none },
  { cls := 7, slots := #[.ref 14, .int 0, .int 0, .int 0], vm := .none },
  { cls := 7, slots := #[.ref 15, .int 0, .int 0, .int 0], vm := .none },
  { cls := 16, slots := #[.int 112, .int 97, .int 115, .int 115, .int 101, .int 100], vm := .none },
  { cls := 16, slots := #[.int 102, .int 97, .int 105, .int 108, .int 101, .int 100], vm := .none },
  { cls := 16, slots := #[.int 97, .int 98, .int 111, .int 114, .int 116, .int 101, .int 100], vm := .none },
  { cls := 16, slots := #[.int 110, .int 111, .int 116, .int 45, .int 102, .int 111, .int 117, .int 110, .int 100], vm := .none }]
def classes : Array Class := #[k0, k1, k2, k3, k4, k5, k6, k7, k8, k9, k10, k11, k12, k13, k14, k15, k16, k17, k18, k19, k20, k21]
def interned : List (Array UInt16 × Addr) := []
def slotsUsed : Nat := 79
def theMethod : MethodId := ⟨1, 1⟩
def args0 : Array Value := #[.int 4, .int 2, .int 0, .int 65, .long 5, .long 7]
def aboutOver (below : List Frame) : State where
  vm := { classes := classes, interned := interned.toArray }
  heap := heap
  slotsUsed := slotsUsed
  threads := #[{ frames := .invoking theMethod args0 :: below }]
def below0 : List Frame := [.native { method := ⟨0, 0⟩, args := #[] }]
def about1 : State := aboutOver below0
def p0 : Program := .bare "" "" ""
def e0 : Env := launch0.env 0 0 0
theorem w_frames : about1.frames = Frame.invoking theMethod args0 :: below0 := rfl
set_option maxRecDepth 65536 in
theorem w_args : argsFit about1.vm theMethod args0 = true := by decide +kernel
set_option maxRecDepth 65536 in
theorem w_heap : heapFits about1 = true := by decide +kernel
set_option maxRecDepth 65536 in
theorem w_runnable : about1.curStatus? = some .runnable := by decide +kernel
set_option maxRecDepth 65536 in
theorem w_alone : about1.alone = true := by decide +kernel
set_option maxRecDepth 65536 in
theorem w_named : about1.methodNamed? x = some theMethod := by decide +kernel
set_option maxRecDepth 65536 in
theorem w_hears : about1.hears theMethod below0 = true := by decide +kernel
set_option maxRecDepth 65536 in
theorem w_ripe : about1.ripe theMethod args0 below0 = true := by decide +kernel
theorem w_running : about1.status = .running := rfl
set_option maxRecDepth 65536 in
theorem w_room : about1.hasRoom e0.platform room_1 = true :=
  launch0.hasRoom_least _ room_1 (by decide +kernel) (by decide +kernel) (by decide +kernel) (by decide +kernel) (by decide +kernel) (by decide +kernel)
theorem allAtoms_all (ts : List Jvm.Cond) (a : Array Jvm.Value) (st : Jvm.State) : (allAtoms ts).before a st = ts.all (fun c => c.before a st) := by
  induction ts with
  | nil => rfl
  | cons c t ih =>
    show (Jvm.Cond.and c (allAtoms t)).before a st = _
    rw [Jvm.Cond.before_and, ih, List.all_cons]
def words1 : List Jvm.Cond := Jvm.Cond.code x code maxLocals ret :: tables_1
/-- a 'code' word, met by the world's own term for the bytes: nothing is compared byte by byte -/
theorem code_word {y : MethodName} {bytes : ByteArray} {mx : Nat} {rt : Option FieldType} {a : Array Value} {s : State} {m : MethodId} {meth : Method} {c : Code} (h1 : s.methodNamed? y = some m) (h2 : s.vm.method? m = some meth) (h3 : meth.code = some c) (h4 : c.code = bytes)
    (h5 : (c.maxLocals == mx && c.exceptionTable.isEmpty && decide (c.maxStack ≤ mostOperands) && decide (meth.sig.returnType = rt) && !meth.locks && decide (parseMethodDescriptor y.desc = some meth.sig)) = true) : (Jvm.Cond.code y bytes mx rt).before a s = true := by
  simp only [Bool.and_eq_true, beq_iff_eq, Bool.not_eq_true', decide_eq_true_eq] at h5
  obtain ⟨⟨⟨⟨⟨g1, g2⟩, g3⟩, g4⟩, g5⟩, g6⟩ := h5
  simp [Cond.before, Cond.holds, Cond.value, h1, h2, h3, h4, g1, g2, g3, g4, g5, g6]
def isCode : Jvm.Cond → Bool
  | .code _ _ _ _ => true
  | _ => false
theorem all_split {L : List Jvm.Cond} {P : Jvm.Cond → Bool} (h1 : L.all (fun c => isCode c || P c) = true) (h2 : ∀ c ∈ L.filter isCode, P c = true) : L.all P = true := by
  refine List.all_eq_true.mpr fun c hc => ?_
  have h := List.all_eq_true.mp h1 c hc
  rcases Bool.eq_false_or_eq_true (isCode c) with hi | hi
  · exact h2 c (List.mem_filter.mpr ⟨hc, hi⟩)
  · simpa [hi] using h
set_option maxRecDepth 65536 in
theorem w_c0 : (Jvm.Cond.code x code maxLocals ret).before args0 about1 = true := code_word (m := ⟨1, 1⟩) (meth := k1m1) (c := k1c1) (by decide +kernel) rfl rfl rfl (by decide +kernel)
set_option maxRecDepth 65536 in
theorem w_c1 : (Jvm.Cond.code ({ cls := "java/lang/String", name := "length", desc := "()I" } : Jvm.MethodName) jdk_42_method_54_code (1 : Nat) (Option.some Jvm.ClassFile.FieldType.int)).before args0 about1 = true := code_word (m := ⟨7, 2⟩) (meth := k7m2) (c := k7c2) (by decide +kernel) rfl rfl rfl (by decide +kernel)
set_option maxRecDepth 65536 in
theorem w_c2 : (Jvm.Cond.code ({ cls := "java/lang/String", name := "coder", desc := "()B" } : Jvm.MethodName) jdk_42_method_152_code (1 : Nat) (Option.some Jvm.ClassFile.FieldType.byte)).before args0 about1 = true := code_word (m := ⟨7, 6⟩) (meth := k7m6) (c := k7c6) (by decide +kernel) rfl rfl rfl (by decide +kernel)
set_option maxRecDepth 65536 in
theorem w_c3 : (Jvm.Cond.code ({ cls := "com/example/tightrope/tightrope/junit/OutcomeOfTextPinLaw", name := "pick", desc := "(ILjava/lang/String;JJ)C" } : Jvm.MethodName) method_5_code (6 : Nat) (Option.some Jvm.ClassFile.FieldType.char)).before args0 about1 = true := code_word (m := ⟨1, 4⟩) (meth := k1m4) (c := k1c4) (by decide +kernel) rfl rfl rfl (by decide +kernel)
set_option maxRecDepth 65536 in
theorem w_c4 : (Jvm.Cond.code ({ cls := "java/lang/String", name := "charAt", desc := "(I)C" } : Jvm.MethodName) jdk_42_method_56_code (2 : Nat) (Option.some Jvm.ClassFile.FieldType.char)).before args0 about1 = true := code_word (m := ⟨7, 3⟩) (meth := k7m3) (c := k7c3) (by decide +kernel) rfl rfl rfl (by decide +kernel)
set_option maxRecDepth 65536 in
theorem w_c5 : (Jvm.Cond.code ({ cls := "java/lang/String", name := "isLatin1", desc := "()Z" } : Jvm.MethodName) jdk_42_method_154_code (1 : Nat) (Option.some Jvm.ClassFile.FieldType.boolean)).before args0 about1 = true := code_word (m := ⟨7, 7⟩) (meth := k7m7) (c := k7c7) (by decide +kernel) rfl rfl rfl (by decide +kernel)
set_option maxRecDepth 65536 in
theorem w_c6 : (Jvm.Cond.code ({ cls := "java/lang/StringLatin1", name := "charAt", desc := "([BI)C" } : Jvm.MethodName) jdk_43_method_2_code (2 : Nat) (Option.some Jvm.ClassFile.FieldType.char)).before args0 about1 = true := code_word (m := ⟨8, 1⟩) (meth := k8m1) (c := k8c1) (by decide +kernel) rfl rfl rfl (by decide +kernel)
set_option maxRecDepth 65536 in
theorem w_c7 : (Jvm.Cond.code ({ cls := "java/lang/String", name := "checkIndex", desc := "(II)V" } : Jvm.MethodName) jdk_42_method_155_code (2 : Nat) (Option.none : Option Jvm.ClassFile.FieldType)).before args0 about1 = true := code_word (m := ⟨7, 8⟩) (meth := k7m8) (c := k7c8) (by decide +kernel) rfl rfl rfl (by decide +kernel)
set_option maxRecDepth 65536 in
theorem w_c8 : (Jvm.Cond.code ({ cls := "jdk/internal/util/Preconditions", name := "checkIndex", desc := "(IILjava/util/function/BiFunction;)I" } : Jvm.MethodName) jdk_41_method_11_code (3 : Nat) (Option.some Jvm.ClassFile.FieldType.int)).before args0 about1 = true := code_word (m := ⟨9, 1⟩) (meth := k9m1) (c := k9c1) (by decide +kernel) rfl rfl rfl (by decide +kernel)
set_option maxRecDepth 65536 in
theorem w_c9 : (Jvm.Cond.code ({ cls := "com/example/tightrope/tightrope/junit/OutcomeOfTextPinLaw", name := "drawn", desc := "(IJJ)C" } : Jvm.MethodName) method_4_code (8 : Nat) (Option.some Jvm.ClassFile.FieldType.char)).before args0 about1 = true := code_word (m := ⟨1, 3⟩) (meth := k1m3) (c := k1c3) (by decide +kernel) rfl rfl rfl (by decide +kernel)
set_option maxRecDepth 65536 in
theorem w_c10 : (Jvm.Cond.code ({ cls := "com/example/tightrope/tightrope/junit/OutcomeOfTextPinLaw", name := "make", desc := "(I[C)Ljava/lang/String;" } : Jvm.MethodName) method_6_code (2 : Nat) (Option.some (Jvm.ClassFile.FieldType.object "java/lang/String"))).before args0 about1 = true := code_word (m := ⟨1, 5⟩) (meth := k1m5) (c := k1c5) (by decide +kernel) rfl rfl rfl (by decide +kernel)
set_option maxRecDepth 65536 in
theorem w_c11 : (Jvm.Cond.code ({ cls := "java/lang/String", name := "<init>", desc := "([C)V" } : Jvm.MethodName) jdk_42_method_3_code (2 : Nat) (Option.none : Option Jvm.ClassFile.FieldType)).before args0 about1 = true := code_word (m := ⟨7, 1⟩) (meth := k7m1) (c := k7c1) (by decide +kernel) rfl rfl rfl (by decide +kernel)
set_option maxRecDepth 65536 in
theorem w_c12 : (Jvm.Cond.code ({ cls := "java/lang/String", name := "<init>", desc := "([CIILjava/lang/Void;)V" } : Jvm.MethodName) jdk_42_method_149_code (6 : Nat) (Option.none : Option Jvm.ClassFile.FieldType)).before args0 about1 = true := code_word (m := ⟨7, 5⟩) (meth := k7m5) (c := k7c5) (by decide +kernel) rfl rfl rfl (by decide +kernel)
set_option maxRecDepth 65536 in
theorem w_c13 : (Jvm.Cond.code ({ cls := "java/lang/Object", name := "<init>", desc := "()V" } : Jvm.MethodName) object_method_1_code (1 : Nat) (Option.none : Option Jvm.ClassFile.FieldType)).before args0 about1 = true := code_word (m := ⟨0, 0⟩) (meth := k0m0) (c := k0c0) (by decide +kernel) rfl rfl rfl (by decide +kernel)
set_option maxRecDepth 65536 in
theorem w_c14 : (Jvm.Cond.code ({ cls := "java/lang/StringUTF16", name := "compress", desc := "([CII)[B" } : Jvm.MethodName) jdk_52_method_16_code (6 : Nat) (Option.some (Jvm.ClassFile.FieldType.array Jvm.ClassFile.FieldType.byte))).before args0 about1 = true := code_word (m := ⟨10, 2⟩) (meth := k10m2) (c := k10c2) (by decide +kernel) rfl rfl rfl (by decide +kernel)
set_option maxRecDepth 65536 in
theorem w_c15 : (Jvm.Cond.code ({ cls := "java/lang/StringUTF16", name := "compress", desc := "([CI[BII)I" } : Jvm.MethodName) jdk_52_method_21_code (7 : Nat) (Option.some Jvm.ClassFile.FieldType.int)).before args0 about1 = true := code_word (m := ⟨10, 3⟩) (meth := k10m3) (c := k10c3) (by decide +kernel) rfl rfl rfl (by decide +kernel)
set_option maxRecDepth 65536 in
theorem w_c16 : (Jvm.Cond.code ({ cls := "java/lang/StringUTF16", name := "coderFromArrayLen", desc := "([BI)B" } : Jvm.MethodName) jdk_52_method_15_code (2 : Nat) (Option.some Jvm.ClassFile.FieldType.byte)).before args0 about1 = true := code_word (m := ⟨10, 1⟩) (meth := k10m1) (c := k10c1) (by decide +kernel) rfl rfl rfl (by decide +kernel)
set_option maxRecDepth 65536 in
theorem w_c17 : (Jvm.Cond.code ({ cls := "com/example/tightrope/tightrope/junit/Outcome", name := "ofText", desc := "(Ljava/lang/String;)Lcom/example/tightrope/tightrope/junit/Outcome;" } : Jvm.MethodName) prog_31_method_5_code (6 : Nat) (Option.some (Jvm.ClassFile.FieldType.object "com/example/tightrope/tightrope/junit/Outcome"))).before args0 about1 = true := code_word (m := ⟨12, 1⟩) (meth := k12m1) (c := k12c1) (by decide +kernel) rfl rfl rfl (by decide +kernel)
set_option maxRecDepth 65536 in
theorem w_c18 : (Jvm.Cond.code ({ cls := "com/example/tightrope/tightrope/junit/Outcome", name := "values", desc := "()[Lcom/example/tightrope/tightrope/junit/Outcome;" } : Jvm.MethodName) prog_31_method_1_code (0 : Nat) (Option.some (Jvm.ClassFile.FieldType.array (Jvm.ClassFile.FieldType.object "com/example/tightrope/tightrope/junit/Outcome")))).before args0 about1 = true := code_word (m := ⟨12, 0⟩) (meth := k12m0) (c := k12c0) (by decide +kernel) rfl rfl rfl (by decide +kernel)
set_option maxRecDepth 65536 in
theorem w_c19 : (Jvm.Cond.code ({ cls := "java/lang/String", name := "equals", desc := "(Ljava/lang/Object;)Z" } : Jvm.MethodName) jdk_42_method_66_code (3 : Nat) (Option.some Jvm.ClassFile.FieldType.boolean)).before args0 about1 = true := code_word (m := ⟨7, 4⟩) (meth := k7m4) (c := k7c4) (by decide +kernel) rfl rfl rfl (by decide +kernel)
set_option maxRecDepth 65536 in
theorem w_c20 : (Jvm.Cond.code ({ cls := "java/lang/StringLatin1", name := "equals", desc := "([B[B)Z" } : Jvm.MethodName) jdk_43_method_13_code (3 : Nat) (Option.some Jvm.ClassFile.FieldType.boolean)).before args0 about1 = true := code_word (m := ⟨8, 2⟩) (meth := k8m2) (c := k8c2) (by decide +kernel) rfl rfl rfl (by decide +kernel)
set_option maxRecDepth 65536 in
theorem w_c21 : (Jvm.Cond.code ({ cls := "com/example/tightrope/tightrope/junit/OutcomeOfTextPinLaw", name := "ref", desc := "(Ljava/lang/String;)Lcom/example/tightrope/tightrope/junit/Outcome;" } : Jvm.MethodName) method_3_code (1 : Nat) (Option.some (Jvm.ClassFile.FieldType.object "com/example/tightrope/tightrope/junit/Outcome"))).before args0 about1 = true := code_word (m := ⟨1, 2⟩) (meth := k1m2) (c := k1c2) (by decide +kernel) rfl rfl rfl (by decide +kernel)
def codes1 : List Jvm.Cond := [Jvm.Cond.code x code maxLocals ret, Jvm.Cond.code ({ cls := "java/lang/String", name := "length", desc := "()I" } : Jvm.MethodName) jdk_42_method_54_code (1 : Nat) (Option.some Jvm.ClassFile.FieldType.int), Jvm.Cond.code ({ cls := "java/lang/String", name := "coder", desc := "()B" } : Jvm.MethodName) jdk_42_method_152_code (1 : Nat) (Option.some Jvm.ClassFile.FieldType.byte), Jvm.Cond.code ({ cls := "com/example/tightrope/tightrope/junit/OutcomeOfTextPinLaw", name := "pick", desc := "(ILjava/lang/String;JJ)C" } : Jvm.MethodName) method_5_code (6 : Nat) (Option.some Jvm.ClassFile.FieldType.char), Jvm.Cond.code ({ cls := "java/lang/String", name := "charAt", desc := "(I)C" } : Jvm.MethodName) jdk_42_method_56_code (2 : Nat) (Option.some Jvm.ClassFile.FieldType.char), Jvm.Cond.code ({ cls := "java/lang/String", name := "isLatin1", desc := "()Z" } : Jvm.MethodName) jdk_42_method_154_code (1 : Nat) (Option.some Jvm.ClassFile.FieldType.boolean), Jvm.Cond.code ({ cls := "java/lang/StringLatin1", name := "charAt", desc := "([BI)C" } : Jvm.MethodName) jdk_43_method_2_code (2 : Nat) (Option.some Jvm.ClassFile.FieldType.char), Jvm.Cond.code ({ cls := "java/lang/String", name := "checkIndex", desc := "(II)V" } : Jvm.MethodName) jdk_42_method_155_code (2 : Nat) (Option.none : Option Jvm.ClassFile.FieldType), Jvm.Cond.code ({ cls := "jdk/internal/util/Preconditions", name := "checkIndex", desc := "(IILjava/util/function/BiFunction;)I" } : Jvm.MethodName) jdk_41_method_11_code (3 : Nat) (Option.some Jvm.ClassFile.FieldType.int), Jvm.Cond.code ({ cls := "com/example/tightrope/tightrope/junit/OutcomeOfTextPinLaw", name := "drawn", desc := "(IJJ)C" } : Jvm.MethodName) method_4_code (8 : Nat) (Option.some Jvm.ClassFile.FieldType.char), Jvm.Cond.code ({ cls := "com/example/tightrope/tightrope/junit/OutcomeOfTextPinLaw", name := "make", desc := "(I[C)Ljava/lang/String;" } : Jvm.MethodName) method_6_code (2 : Nat) (Option.some (Jvm.ClassFile.FieldType.object "java/lang/String")), Jvm.Cond.code ({ cls := "java/lang/String", name := "<init>", desc := "([C)V" } : Jvm.MethodName) jdk_42_method_3_code (2 : Nat) (Option.none : Option Jvm.ClassFile.FieldType), Jvm.Cond.code ({ cls := "java/lang/String", name := "<init>", desc := "([CIILjava/lang/Void;)V" } : Jvm.MethodName) jdk_42_method_149_code (6 : Nat) (Option.none : Option Jvm.ClassFile.FieldType), Jvm.Cond.code ({ cls := "java/lang/Object", name := "<init>", desc := "()V" } : Jvm.MethodName) object_method_1_code (1 : Nat) (Option.none : Option Jvm.ClassFile.FieldType), Jvm.Cond.code ({ cls := "java/lang/StringUTF16", name := "compress", desc := "([CII)[B" } : Jvm.MethodName) jdk_52_method_16_code (6 : Nat) (Option.some (Jvm.ClassFile.FieldType.array Jvm.ClassFile.FieldType.byte)), Jvm.Cond.code ({ cls := "java/lang/StringUTF16", name := "compress", desc := "([CI[BII)I" } : Jvm.MethodName) jdk_52_method_21_code (7 : Nat) (Option.some Jvm.ClassFile.FieldType.int), Jvm.Cond.code ({ cls := "java/lang/StringUTF16", name := "coderFromArrayLen", desc := "([BI)B" } : Jvm.MethodName) jdk_52_method_15_code (2 : Nat) (Option.some Jvm.ClassFile.FieldType.byte), Jvm.Cond.code ({ cls := "com/example/tightrope/tightrope/junit/Outcome", name := "ofText", desc := "(Ljava/lang/String;)Lcom/example/tightrope/tightrope/junit/Outcome;" } : Jvm.MethodName) prog_31_method_5_code (6 : Nat) (Option.some (Jvm.ClassFile.FieldType.object "com/example/tightrope/tightrope/junit/Outcome")), Jvm.Cond.code ({ cls := "com/example/tightrope/tightrope/junit/Outcome", name := "values", desc := "()[Lcom/example/tightrope/tightrope/junit/Outcome;" } : Jvm.MethodName) prog_31_method_1_code (0 : Nat) (Option.some (Jvm.ClassFile.FieldType.array (Jvm.ClassFile.FieldType.object "com/example/tightrope/tightrope/junit/Outcome"))), Jvm.Cond.code ({ cls := "java/lang/String", name := "equals", desc := "(Ljava/lang/Object;)Z" } : Jvm.MethodName) jdk_42_method_66_code (3 : Nat) (Option.some Jvm.ClassFile.FieldType.boolean), Jvm.Cond.code ({ cls := "java/lang/StringLatin1", name := "equals", desc := "([B[B)Z" } : Jvm.MethodName) jdk_43_method_13_code (3 : Nat) (Option.some Jvm.ClassFile.FieldType.boolean), Jvm.Cond.code ({ cls := "com/example/tightrope/tightrope/junit/OutcomeOfTextPinLaw", name := "ref", desc := "(Ljava/lang/String;)Lcom/example/tightrope/tightrope/junit/Outcome;" } : Jvm.MethodName) method_3_code (1 : Nat) (Option.some (Jvm.ClassFile.FieldType.object "com/example/tightrope/tightrope/junit/Outcome"))]
set_option maxRecDepth 65536 in
theorem codes_eq : words1.filter isCode = codes1 := rfl
theorem w_codes : ∀ c ∈ words1.filter isCode, c.before args0 about1 = true := by
  rw [codes_eq]
  intro c hc
  simp only [codes1, List.mem_cons, List.not_mem_nil, or_false] at hc
  rcases hc with rfl | rfl | rfl | rfl | rfl | rfl | rfl | rfl | rfl | rfl | rfl | rfl | rfl | rfl | rfl | rfl | rfl | rfl | rfl | rfl | rfl | rfl
  · exact w_c0
  · exact w_c1
  · exact w_c2
  · exact w_c3
  · exact w_c4
  · exact w_c5
  · exact w_c6
  · exact w_c7
  · exact w_c8
  · exact w_c9
  · exact w_c10
  · exact w_c11
  · exact w_c12
  · exact w_c13
  · exact w_c14
  · exact w_c15
  · exact w_c16
  · exact w_c17
  · exact w_c18
  · exact w_c19
  · exact w_c20
  · exact w_c21
set_option maxRecDepth 65536 in
theorem w_t1 : (words1.take 24).all (fun c => isCode c || c.before args0 about1) = true := by decide +kernel
set_option maxRecDepth 65536 in
theorem w_t2 : ((words1.drop 24).take 24).all (fun c => isCode c || c.before args0 about1) = true := by decide +kernel
set_option maxRecDepth 65536 in
theorem w_t3 : (((words1.drop 24).drop 24).take 24).all (fun c => isCode c || c.before args0 about1) = true := by decide +kernel
set_option maxRecDepth 65536 in
theorem w_t4 : ((((words1.drop 24).drop 24).drop 24).take 24).all (fun c => isCode c || c.before args0 about1) = true := by decide +kernel
set_option maxRecDepth 65536 in
theorem w_t5 : (((((words1.drop 24).drop 24).drop 24).drop 24).take 24).all (fun c => isCode c || c.before args0 about1) = true := by decide +kernel
set_option maxRecDepth 65536 in
theorem w_t6 : (((((words1.drop 24).drop 24).drop 24).drop 24).drop 24).all (fun c => isCode c || c.before args0 about1) = true := by decide +kernel
theorem w_tables : (allAtoms (Jvm.Cond.code x code maxLocals ret :: tables_1)).before args0 about1 = true := by
  rw [allAtoms_all]
  show words1.all (fun c => c.before args0 about1) = true
  refine all_split ?_ w_codes
  rw [← List.take_append_drop 24 words1, List.all_append, w_t1, ← List.take_append_drop 24 (words1.drop 24), List.all_append, w_t2, ← List.take_append_drop 24 ((words1.drop 24).drop 24), List.all_append, w_t3, ← List.take_append_drop 24 (((words1.drop 24).drop 24).drop 24), List.all_append, w_t4, ← List.take_append_drop 24 ((((words1.drop 24).drop 24).drop 24).drop 24), List.all_append, w_t5, w_t6]
  rfl
set_option maxRecDepth 65536 in
theorem w_rest : rest_1_c.before args0 about1 = true := by decide +kernel
set_option maxRecDepth 65536 in
theorem w_case : (Jvm.Cond.and given_1 narrow_1).before args0 about1 = true := by decide +kernel
set_option maxRecDepth 65536 in
theorem w_consts : constsHeld consts_1 about1 := Jvm.Lit.constsHeldB_iff.mp (by decide +kernel)
theorem w_applies : (headSpec (Jvm.Cond.code x code maxLocals ret :: tables_1) room_1).applies x e0.platform about1 = true :=
  (Spec.applies_iff w_frames).mpr ⟨w_running, w_runnable, w_alone, w_named, w_hears, w_ripe, w_room, w_tables⟩
theorem atStart : AtStart classFile x code maxLocals ret World_1 tables_1 room_1 Calls_1 rest_1 Pre_1 launch0 p0 e0 about1 theMethod args0 below0 :=
  ⟨lists_1, trivial, launch0.admits_env _ _ _, launch0.least_env, fairChoices_fair.cas, fairChoices_fair.clock, w_frames, w_args, w_heap, w_applies, ⟨w_consts, trivial⟩, w_rest, w_case⟩
end start1
theorem witness_1 : WitnessClaimed_1 := ⟨start1.p0, start1.e0, start1.about1, start1.theMethod, start1.args0, start1.below0, start1.atStart⟩
end Jvm.Pilot.@@N@@
