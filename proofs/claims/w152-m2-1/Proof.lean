import JvmDerived
import JvmDerived.Pilot.@@N@@Statement
import JvmDerived.Pilot.@@N@@Code
set_option linter.unusedVariables false
set_option linter.unusedSimpArgs false
namespace Jvm.RoadKit
open Sem ClassFile Op Lib Jvm.Stand Jvm.Free Jvm.LawKit
section Own
variable {p : Program} {l : Launch} {e : Env} {R : Room} {s : State} {m : MethodId} {args : Array Value} {below : List Frame} {meth : Method} {c : Code} {T T' : State} {locs : List Loc} {cells slots rc rs : Nat} {Q : Option Value → Heap → List Loc → Prop} {g g' : JFrame}
/-- from the state T with the top frame g the run ends in a return of which Q is true -/
def OwnGo (p : Program) (e : Env) (below : List Frame) (s : State) (rc rs : Nat) (Q : Option Value → Heap → List Loc → Prop) (T : State) (g : JFrame) : Prop :=
  ∃ (U : State) (o : Outcome), Steps p.tables e below (T.setTop g) U ∧ U.status = .running ∧ Ended U below o ∧ ∃ v L, o = .returned v ∧ Q v U.heap L ∧ FrameEnd s o U L rc rs
theorem OwnGo.st (k : ∀ target, Steps p.tables e below (T'.setTop g') target → Steps p.tables e below (T.setTop g) target) (h : OwnGo p e below s rc rs Q T' g') : OwnGo p e below s rc rs Q T g := by
  obtain ⟨U, o, h1, h2⟩ := h
  exact ⟨U, o, k _ h1, h2⟩
theorem OwnGo.join {ι : Type} {P : ι → Prop} {f : ι → JFrame} {T1 : State} (h : ∀ i, P i → OwnGo p e below s rc rs Q T1 (f i)) (k : (∀ i, P i → OwnGo p e below s rc rs Q T1 (f i)) → OwnGo p e below s rc rs Q T g) : OwnGo p e below s rc rs Q T g := k h
theorem OwnGo.cast (q : g = g') (h : OwnGo p e below s rc rs Q T g') : OwnGo p e below s rc rs Q T g := q ▸ h
theorem OwnGo.ret (X : Stand p l e R s m args below meth c T locs cells slots) (hx : p.tables.exec = Jvm.exec) {pc : Nat} {Ls : Array Slot} {w : Value} {t : FieldType} {i : Instr} {rest : List Value} (hret : meth.sig.returnType = some t) (hlk : meth.locks = false) (hn : narrow t w = w)
    (hi : (i = .ireturn ∧ (t = .int ∨ t = .boolean ∨ t = .byte ∨ t = .char ∨ t = .short) ∧ ∃ z, w = .int z) ∨ (i = .lreturn ∧ t = .long ∧ ∃ z, w = .long z) ∨ (i = .dreturn ∧ t = .double ∧ ∃ z, w = .double z) ∨ (i = .freturn ∧ t = .float ∧ ∃ z, w = .float z) ∨ (i = .areturn ∧ t.isReference = true ∧ w.isRef = true))
    (hd : decode c.code pc = .ok (i, 1)) (hQ : Q (some w) T.heap locs) (hc : cells ≤ rc) (hs : slots ≤ rs) : OwnGo p e below s rc rs Q T (mkF m pc Ls (w :: rest)) := by
  obtain ⟨fs, hr, hrun, hended, hW, hsame⟩ := X.leave (v := some w) (fun h => by rw [hret] at h; cases h) hlk
  exact ⟨_, _, retOut X hx hret hn hi hd hr, hrun, hended, _, _, rfl, hQ, ⟨_, rfl⟩, hW, hsame.mono hc hs⟩
theorem OwnGo.retN (X : Stand p l e R s m args below meth c T locs cells slots) (hx : p.tables.exec = Jvm.exec) {pc : Nat} {Ls : Array Slot} {z : Int32} {t : FieldType} {rest : List Value} (hret : meth.sig.returnType = some t) (hlk : meth.locks = false) (ht : t = .boolean ∨ t = .byte ∨ t = .char ∨ t = .short)
    (hd : decode c.code pc = .ok (.ireturn, 1)) (hQ : Q (some (.int (nar t z))) T.heap locs) (hc : cells ≤ rc) (hs : slots ≤ rs) : OwnGo p e below s rc rs Q T (mkF m pc Ls (.int z :: rest)) := by
  obtain ⟨fs, hr, hrun, hended, hW, hsame⟩ := X.leave (v := some (.int (nar t z))) (fun h => by rw [hret] at h; cases h) hlk
  exact ⟨_, _, Jvm.RoadKit.retN X hx hret ht hd hr, hrun, hended, _, _, rfl, hQ, ⟨_, rfl⟩, hW, hsame.mono hc hs⟩
theorem OwnGo.retV (X : Stand p l e R s m args below meth c T locs cells slots) (hx : p.tables.exec = Jvm.exec) {pc : Nat} {Ls : Array Slot} (hret : meth.sig.returnType = none) (hlk : meth.locks = false)
    (hd : decode c.code pc = .ok (.return_, 1)) (hQ : Q none T.heap locs) (hc : cells ≤ rc) (hs : slots ≤ rs) : OwnGo p e below s rc rs Q T (mkF m pc Ls []) := by
  obtain ⟨fs, hr, hrun, hended, hW, hsame⟩ := X.leave (v := none) (fun _ => rfl) hlk
  exact ⟨_, _, X.returnOut hx hret hd hr, hrun, hended, _, _, rfl, hQ, ⟨_, rfl⟩, hW, hsame.mono hc hs⟩
theorem own_met {y : MethodName} {bytes : ByteArray} {maxL : Nat} {ret : Option FieldType} {ws : List Jvm.Cond} {rm : Room} {Z : State} {as' : Array Value} {h0 : Heap} (hp : plainFor y = true)
    (body : ∀ (p : Program) (e : Env) (s : State) (m : MethodId) (below : List Frame) (meth : Method) (c : Code) (s₁ : State), Stand p l e rm s m as' below meth c s₁ [] 0 0 → p.tables.exec = Jvm.exec → c.code = bytes → c.maxLocals = maxL → meth.sig.returnType = ret → meth.locks = false → s.vm.findClass y.cls = some m.cls → meth.name = y.name → Z.Warmed39 s.vm → s₁.heap = h0 →
      OwnGo p e below s rm.cells rm.slots Q s₁ (entryFrame m as' maxL)) :
    MetFree l y (head1 (Jvm.Cond.code y bytes maxL ret :: ws) rm) (fun a U => a = as' ∧ Z.Warmed39 U.vm ∧ U.heap = h0) (fun _ _ _ _ _ => True) (fun _ U o U' => ∃ v L, o = .returned v ∧ Q v U'.heap L ∧ FrameEnd U o U' L rm.cells rm.slots) := by
  refine MetFree.of_bodySF hp hisR ?_
  intro p e s m args below meth c s₁ Bd hml0 hP hK
  obtain ⟨rfl, hZ, hh⟩ := hP
  exact body p e s m below meth c s₁ (Stand.of_body Bd) Bd.exec Bd.bytes hml0 Bd.returns Bd.notSynchronized (findClass_of_methodNamed Bd.named) (name_of_methodNamed Bd.named Bd.method).1 hZ (by rw [← hh, Bd.state]; rfl)
theorem own_len {Z : State} {h : Heap} {a : Addr} {cl : Cell} {ty : FieldType} {z : Int32} (hZ : Z.Warmed39 s.vm) (q : cl.slots.size.toInt32 = z) (A : Arr Z h a cl ty) (X : Stand p l e R s m args below meth c T locs cells slots) (eT : T.heap = h) (hx : p.tables.exec = Jvm.exec) {rest : List Value}
    (hg : g.method = m) (hst : g.stack = .ref a :: rest) (hd : decode c.code g.pc = .ok (.arraylength, 1)) (target : State) (k : Steps p.tables e below (T.setTop { g with pc := g.pc + 1, stack := .int z :: rest }) target) : Steps p.tables e below (T.setTop g) target := by
  refine X.arraylength hx (by rw [eT]; exact A.1) (State.isArrayOf_alike hZ.alike A.2.1) hg hst hd _ ?_
  rw [q]; exact k
theorem own_eqi {args : Array Value} {first U : State} {o : Option Outcome} {idx : List Nat} {a : Term} {k : Int32} (h : (Jvm.Cond.eq a (.int k)).value args first o U idx = some true) : a.eval args first o idx U = some (.int k) := Cond.eq_int (b := .int k) (by simp only [Cond.holds, h]; rfl) rfl
theorem own_eqv {args : Array Value} {first U : State} {o : Option Outcome} {idx : List Nat} {a b : Term} {v : Value} (h : (Jvm.Cond.eq a b).value args first o U idx = some true) (hb : b.eval args first o idx U = some v) (hv : v.isRef = true) : a.eval args first o idx U = some v := by
  obtain ⟨x, y, h1, h2, k1, k2⟩ := cmp_v (Or.inl h)
  cases h2.symm.trans hb
  have hx : x.isRef = true := by cases x <;> cases v <;> simp [Kin, Value.isRef] at k1 k2 hv ⊢
  rw [h1, gotT (eq_R h1 h2 hx hv) h]
theorem own_lenv {Z : State} {args : Array Value} {t : Term} {a : Addr} {cl : Cell} {ty : FieldType} {z : Int32} (ev : t.eval args Z none [] Z = some (.ref a)) (A : Arr Z Z.heap a cl ty) (h : (Jvm.Cond.eq (.length t) (.int z)).value args Z none Z [] = some true) : cl.slots.size < 2 ^ 31 ∧ cl.slots.size.toInt32 = z := by
  have e := own_eqi h
  have hA := A.fin (Vm.Alike.refl _)
  refine ⟨SBG.length_lt ev hA e, ?_⟩
  obtain ⟨a', c', e1, e2, e3⟩ := Term.length_spec e
  cases ev.symm.trans e1
  cases hA.symm.trans e2
  exact (Value.int.inj e3).symm
theorem own_elem {Z : State} {args : Array Value} {t : Term} {a : Addr} {cl : Cell} {ty : FieldType} {k : Int32} {v : Value} (ev : t.eval args Z none [] Z = some (.ref a)) (A : Arr Z Z.heap a cl ty) (h : (Term.elem t (.int k)).eval args Z none [] Z = some v) : cl.slots[k.toNatClampNeg]? = some v := (elem_in h ev rfl A.1).2
theorem own_narR {w : Value} {t : FieldType} (h : w.isRef = true) (ht : t.isReference = true) : narrow t w = w := by
  cases w <;> simp [Value.isRef] at h <;> cases t <;> simp [FieldType.isReference] at ht <;> rfl
theorem own_selp {C : String} {x y z : MethodName} (hz : (Jvm.Cond.selects C x z).before args s = true) (hcls : z.cls = y.cls) (hpriv : s.PrivateAt y) (hinst : (Jvm.Cond.instanceMethod y).before args s = true) (hy : y.cls ≠ "java/lang/invoke/MethodHandle" ∧ y.cls ≠ "java/lang/invoke/VarHandle") : (Jvm.Cond.selects y.cls y y).before args s = true := by
  obtain ⟨c, r, mz, h1, h2, h3, h4, mk, h5, h6⟩ := Cond.selects_spec hz
  exact selects_self_of_private (by rw [← hcls]; exact findClass_of_methodNamed h3) h5 h6 hpriv hinst hy
theorem own_nface {C : String} {x y z : MethodName} (hz : (Jvm.Cond.selects C x z).before args s = true) (hcls : z.cls = y.cls) : NotFace s y := fun r0 h0 => by
  obtain ⟨c, r, mz, h1, h2, h3, h4, mk, h5, h6⟩ := Cond.selects_spec hz
  have e1 : s.vm.findClass y.cls = some mz.cls := by rw [← hcls]; exact findClass_of_methodNamed h3
  have e2 : r0.cls = mz.cls := Option.some.inj ((findClass_of_methodNamed h0).symm.trans e1)
  exact ⟨mk, by rw [e2]; exact h5, h6⟩
theorem own_same {C : String} {x y z : MethodName} (hz : (Jvm.Cond.selects C x z).before args s = true) (hcls : z.cls = y.cls) (hinst : (Jvm.Cond.instanceMethod y).before args s = true) (hy : y.cls ≠ "java/lang/invoke/MethodHandle" ∧ y.cls ≠ "java/lang/invoke/VarHandle") : (Jvm.Cond.sameMethod y.cls y.cls y.name y.desc).before args s = true := by
  obtain ⟨c, r, mz, h1, h2, h3, h4, mk, h5, h6⟩ := Cond.selects_spec hz
  obtain ⟨ym, methM, hnamed, -, -, -⟩ := Cond.instanceMethod_spec hinst
  have hf : s.methodFound? y.cls y.name y.desc = some ym := State.methodFound?_of_named hnamed hy
  have hc : s.vm.findClass y.cls = some mz.cls := by rw [← hcls]; exact findClass_of_methodNamed h3
  simp [Cond.before, Cond.holds, Cond.value, hc, hf, hnamed, h5, h6]
theorem own_cat {w : Value} (h : w.isRef = true) : w.category = 1 := by cases w <;> simp [Value.isRef] at h <;> rfl
/-- an array of n places, whatever they hold -/
def OwnArr (Z : State) (h : Heap) (a : Addr) (ty : FieldType) (n : Nat) : Prop := ∃ cl : Cell, Arr Z h a cl ty ∧ cl.slots.size = n
theorem OwnArr.lt {Z : State} {h : Heap} {a : Addr} {ty : FieldType} {n : Nat} (F : OwnArr Z h a ty n) : a < h.size := by obtain ⟨_, A, -⟩ := F; exact A.lt
theorem OwnArr.ext {Z : State} {h h' : Heap} {a : Addr} {ty : FieldType} {n : Nat} (F : OwnArr Z h a ty n) (E : Ext h h') : OwnArr Z h' a ty n := by obtain ⟨c, A, S⟩ := F; exact ⟨c, A.ext E, S⟩
theorem OwnArr.keep {Z : State} {h h' : Heap} {a : Addr} {ty : FieldType} {n : Nat} {ws : List Addr} (F : OwnArr Z h a ty n) (K : Keep h h' ws) : OwnArr Z h' a ty n := by
  obtain ⟨c, ⟨A1, ⟨q1, q2⟩, A3⟩, S⟩ := F
  obtain ⟨c', e1, e2, e3, e4⟩ := K.2.2 _ _ A1
  exact ⟨c', ⟨e1, ⟨by rw [e3]; exact q1, by rw [e2]; exact q2⟩, by rw [e3]; exact A3⟩, e4.trans S⟩
theorem OwnArr.wr {Z : State} {h h' : Heap} {a b : Addr} {ty : FieldType} {n sl : Nat} {v : Value} (F : OwnArr Z h a ty n) (W : Wr h h' b sl v) : OwnArr Z h' a ty n := F.keep (Keep.of_wr W)
theorem OwnArr.of {Z : State} {h : Heap} {a : Addr} {k : ClassId} {ty : FieldType} {z : Int32} {vs : List Value} {d : Value} (F : Arv Z h a k ty z vs d) : OwnArr Z h a ty z.toNatClampNeg := by obtain ⟨c, A, -, S, -⟩ := F; exact ⟨c, A, S⟩
/-- an array of n ints (or bytes, chars, ..): place j holds f j -/
def OwnFn (Z : State) (h : Heap) (a : Addr) (ty : FieldType) (n : Nat) (f : Nat → Int32) : Prop := ∃ cl : Cell, Arr Z h a cl ty ∧ cl.slots.size = n ∧ ∀ j, j < n → cl.slots[j]? = some (.int (f j))
theorem OwnFn.lt {Z : State} {h : Heap} {a : Addr} {ty : FieldType} {n : Nat} {f : Nat → Int32} (F : OwnFn Z h a ty n f) : a < h.size := by obtain ⟨_, A, -⟩ := F; exact A.lt
theorem OwnFn.ext {Z : State} {h h' : Heap} {a : Addr} {ty : FieldType} {n : Nat} {f : Nat → Int32} (F : OwnFn Z h a ty n f) (E : Ext h h') : OwnFn Z h' a ty n f := by obtain ⟨c, A, r⟩ := F; exact ⟨c, A.ext E, r⟩
theorem OwnFn.keep {Z : State} {h h' : Heap} {a : Addr} {ty : FieldType} {n : Nat} {f : Nat → Int32} {ws : List Addr} (F : OwnFn Z h a ty n f) (K : Keep h h' ws) (q : a ∉ ws) : OwnFn Z h' a ty n f := by obtain ⟨c, A, r⟩ := F; exact ⟨c, ⟨K.2.1 a c A.1 q, A.2⟩, r⟩
theorem OwnFn.other {Z : State} {h h' : Heap} {a b : Addr} {ty : FieldType} {n sl : Nat} {f : Nat → Int32} {v : Value} (F : OwnFn Z h a ty n f) (W : Wr h h' b sl v) (q : a ≠ b) : OwnFn Z h' a ty n f := by obtain ⟨c, A, r⟩ := F; exact ⟨c, A.other W q, r⟩
theorem OwnFn.set {Z : State} {h h' : Heap} {a : Addr} {ty : FieldType} {n sl : Nat} {f : Nat → Int32} {v : Int32} (F : OwnFn Z h a ty n f) (W : Wr h h' a sl (.int v)) : OwnFn Z h' a ty n (fun j => if j = sl then v else f j) := by
  obtain ⟨c, A, S, H⟩ := F
  refine ⟨_, A.same W, by simp [Cell.setSlot, S], fun j hj => ?_⟩
  have e : (c.setSlot sl (.int v)).slots[j]? = if sl = j then some (.int v) else c.slots[j]? := by
    have hj' : j < c.slots.size := S ▸ hj
    simp only [Cell.setSlot, Array.getElem?_setIfInBounds]
    by_cases q : sl = j
    · subst q; simp [hj']
    · simp [q]
  rw [e]
  by_cases q : j = sl
  · subst q; simp
  · simp [q, Ne.symm q, H j hj]
theorem OwnFn.new {Z : State} {h : Heap} {a : Addr} {k : ClassId} {ty : FieldType} {z : Int32} (A : Arr Z h a (newA k ty z) ty) (hd : defaultValue ty = .int 0) : OwnFn Z h a ty z.toNatClampNeg (fun _ => 0) :=
  ⟨_, A, sz_new _ _ _, fun j hj => by simp [newA, hd, hj]⟩
theorem own_nb (x : Int32) : nar .byte x.toInt8.toInt32 = x.toInt8.toInt32 := by
  show (x.toInt8.toInt32).toInt8.toInt32 = _
  rw [Int8.toInt8_toInt32]
theorem OwnGo.iload (X : Stand p l e R s m args below meth c T locs cells slots) (hx : p.tables.exec = Jvm.exec) {pc : Nat} {L : Array Slot} {S : List Value} {k : Nat} {v : Int32} (hd : decode c.code pc = .ok (.iload k, 2)) (hl : L[k]? = some (.val (.int v))) (h : OwnGo p e below s rc rs Q T (mkF m (pc + 2) L (.int v :: S))) : OwnGo p e below s rc rs Q T (mkF m pc L S) := by
  exact .st (fun _ => XS.iload X.here hx rfl hd hl) h
theorem OwnGo.iloadN (X : Stand p l e R s m args below meth c T locs cells slots) (hx : p.tables.exec = Jvm.exec) {pc : Nat} {L : Array Slot} {S : List Value} {k : Fin 4} {v : Int32} (hd : decode c.code pc = .ok (.iload_n k, 1)) (hl : L[k.val]? = some (.val (.int v))) (h : OwnGo p e below s rc rs Q T (mkF m (pc + 1) L (.int v :: S))) : OwnGo p e below s rc rs Q T (mkF m pc L S) := by
  exact .st (fun _ => XS.iloadN X.here hx rfl hd hl) h
theorem OwnGo.aload (X : Stand p l e R s m args below meth c T locs cells slots) (hx : p.tables.exec = Jvm.exec) {pc : Nat} {L : Array Slot} {S : List Value} {k : Nat} {v : Value} (hd : decode c.code pc = .ok (.aload k, 2)) (hl : L[k]? = some (.val v)) (hv : v.isRef = true) (h : OwnGo p e below s rc rs Q T (mkF m (pc + 2) L (v :: S))) : OwnGo p e below s rc rs Q T (mkF m pc L S) := by
  exact .st (fun _ => XS.aload X.here hx rfl hd hl hv) h
theorem OwnGo.aloadN (X : Stand p l e R s m args below meth c T locs cells slots) (hx : p.tables.exec = Jvm.exec) {pc : Nat} {L : Array Slot} {S : List Value} {k : Fin 4} {v : Value} (hd : decode c.code pc = .ok (.aload_n k, 1)) (hl : L[k.val]? = some (.val v)) (hv : v.isRef = true) (h : OwnGo p e below s rc rs Q T (mkF m (pc + 1) L (v :: S))) : OwnGo p e below s rc rs Q T (mkF m pc L S) := by
  exact .st (fun _ => XS.aloadN X.here hx rfl hd hl hv) h
theorem OwnGo.iconst (X : Stand p l e R s m args below meth c T locs cells slots) (hx : p.tables.exec = Jvm.exec) {pc : Nat} {L : Array Slot} {S : List Value} {i : Int} {n : Int32} (hd : decode c.code pc = .ok (.iconst i, 1)) (hn : Int32.ofInt i = n) (h : OwnGo p e below s rc rs Q T (mkF m (pc + 1) L (.int n :: S))) : OwnGo p e below s rc rs Q T (mkF m pc L S) := by
  subst hn
  exact .st (fun _ => XS.iconst X.here hx rfl hd) h
theorem OwnGo.bipush (X : Stand p l e R s m args below meth c T locs cells slots) (hx : p.tables.exec = Jvm.exec) {pc : Nat} {L : Array Slot} {S : List Value} {i : Int} {n : Int32} (hd : decode c.code pc = .ok (.bipush i, 2)) (hn : (Int8.ofInt i).toInt32 = n) (h : OwnGo p e below s rc rs Q T (mkF m (pc + 2) L (.int n :: S))) : OwnGo p e below s rc rs Q T (mkF m pc L S) := by
  subst hn
  exact .st (fun _ => XS.bipush X.here hx rfl hd) h
theorem OwnGo.sipush (X : Stand p l e R s m args below meth c T locs cells slots) (hx : p.tables.exec = Jvm.exec) {pc : Nat} {L : Array Slot} {S : List Value} {i : Int} {n : Int32} (hd : decode c.code pc = .ok (.sipush i, 3)) (hn : (Int16.ofInt i).toInt32 = n) (h : OwnGo p e below s rc rs Q T (mkF m (pc + 3) L (.int n :: S))) : OwnGo p e below s rc rs Q T (mkF m pc L S) := by
  subst hn
  exact .st (fun _ => XS.sipush X.here hx rfl hd) h
theorem OwnGo.aconstNull (X : Stand p l e R s m args below meth c T locs cells slots) (hx : p.tables.exec = Jvm.exec) {pc : Nat} {L : Array Slot} {S : List Value}  (hd : decode c.code pc = .ok (.aconst_null, 1)) (h : OwnGo p e below s rc rs Q T (mkF m (pc + 1) L (.null :: S))) : OwnGo p e below s rc rs Q T (mkF m pc L S) := by
  exact .st (fun _ => XS.aconstNull X.here hx rfl hd) h
theorem OwnGo.dup (X : Stand p l e R s m args below meth c T locs cells slots) (hx : p.tables.exec = Jvm.exec) {pc : Nat} {L : Array Slot} {S : List Value} {x : Value} (hd : decode c.code pc = .ok (.dup, 1)) (hc : x.category = 1) (h : OwnGo p e below s rc rs Q T (mkF m (pc + 1) L (x :: x :: S))) : OwnGo p e below s rc rs Q T (mkF m pc L (x :: S)) := by
  exact .st (fun _ => XS.dup X.here hx rfl hd rfl hc) h
theorem OwnGo.goto (X : Stand p l e R s m args below meth c T locs cells slots) (hx : p.tables.exec = Jvm.exec) {pc : Nat} {L : Array Slot} {S : List Value} {o : Int} (pc' : Nat) (hd : decode c.code pc = .ok (.goto o, 3)) (ho : 0 ≤ (pc : Int) + o) (hp : ((pc : Int) + o).toNat = pc') (h : OwnGo p e below s rc rs Q T (mkF m pc' L S)) : OwnGo p e below s rc rs Q T (mkF m pc L S) := by
  exact .st (fun _ => XS.goto X.here hx rfl rfl hd ho hp) h
theorem OwnGo.istore (X : Stand p l e R s m args below meth c T locs cells slots) (hx : p.tables.exec = Jvm.exec) {pc : Nat} {L : Array Slot} {S : List Value} {k : Nat} {x : Int32} {L' : Array Slot} (hd : decode c.code pc = .ok (.istore k, 2)) (hl : storeLocals L k (.int x) = some L') (h : OwnGo p e below s rc rs Q T (mkF m (pc + 2) L' S)) : OwnGo p e below s rc rs Q T (mkF m pc L (.int x :: S)) := by
  exact .st (fun _ => XS.istore X.here hx rfl hd rfl hl) h
theorem OwnGo.istoreN (X : Stand p l e R s m args below meth c T locs cells slots) (hx : p.tables.exec = Jvm.exec) {pc : Nat} {L : Array Slot} {S : List Value} {k : Fin 4} {x : Int32} {L' : Array Slot} (hd : decode c.code pc = .ok (.istore_n k, 1)) (hl : storeLocals L k.val (.int x) = some L') (h : OwnGo p e below s rc rs Q T (mkF m (pc + 1) L' S)) : OwnGo p e below s rc rs Q T (mkF m pc L (.int x :: S)) := by
  exact .st (fun _ => XS.istoreN X.here hx rfl hd rfl hl) h
theorem OwnGo.astore (X : Stand p l e R s m args below meth c T locs cells slots) (hx : p.tables.exec = Jvm.exec) {pc : Nat} {L : Array Slot} {S : List Value} {k : Nat} {x : Value} {L' : Array Slot} (hd : decode c.code pc = .ok (.astore k, 2)) (hv : x.isRef = true) (hl : storeLocals L k x = some L') (h : OwnGo p e below s rc rs Q T (mkF m (pc + 2) L' S)) : OwnGo p e below s rc rs Q T (mkF m pc L (x :: S)) := by
  exact .st (fun _ => XS.astore X.here hx rfl hd rfl hv hl) h
theorem OwnGo.astoreN (X : Stand p l e R s m args below meth c T locs cells slots) (hx : p.tables.exec = Jvm.exec) {pc : Nat} {L : Array Slot} {S : List Value} {k : Fin 4} {x : Value} {L' : Array Slot} (hd : decode c.code pc = .ok (.astore_n k, 1)) (hv : x.isRef = true) (hl : storeLocals L k.val x = some L') (h : OwnGo p e below s rc rs Q T (mkF m (pc + 1) L' S)) : OwnGo p e below s rc rs Q T (mkF m pc L (x :: S)) := by
  exact .st (fun _ => XS.astoreN X.here hx rfl hd rfl hv hl) h
theorem OwnGo.iinc (X : Stand p l e R s m args below meth c T locs cells slots) (hx : p.tables.exec = Jvm.exec) {pc : Nat} {L : Array Slot} {S : List Value} {k : Nat} {cst : Int} {x y : Int32} {L' : Array Slot} (hd : decode c.code pc = .ok (.iinc k cst, 3)) (hl : L[k]? = some (.val (.int x))) (hn : x + Int32.ofInt cst = y) (hl' : storeLocals L k (.int y) = some L') (h : OwnGo p e below s rc rs Q T (mkF m (pc + 3) L' S)) : OwnGo p e below s rc rs Q T (mkF m pc L S) := by
  subst hn
  exact .st (fun _ => XS.iinc X.here hx rfl hd hl hl') h
theorem OwnGo.ifNo (X : Stand p l e R s m args below meth c T locs cells slots) (hx : p.tables.exec = Jvm.exec) {pc : Nat} {L : Array Slot} {S : List Value} {cd : ClassFile.Cond} {o : Int} {x : Int32} (hd : decode c.code pc = .ok (.ifCond cd o, 3)) (hc : ifCond.holds cd x = false) (h : OwnGo p e below s rc rs Q T (mkF m (pc + 3) L S)) : OwnGo p e below s rc rs Q T (mkF m pc L (.int x :: S)) := by
  exact .st (fun _ => XS.ifNo X.here hx rfl hd rfl hc) h
theorem OwnGo.ifYes (X : Stand p l e R s m args below meth c T locs cells slots) (hx : p.tables.exec = Jvm.exec) {pc : Nat} {L : Array Slot} {S : List Value} {cd : ClassFile.Cond} {o : Int} {x : Int32} (pc' : Nat) (hd : decode c.code pc = .ok (.ifCond cd o, 3)) (hc : ifCond.holds cd x = true) (ho : 0 ≤ (pc : Int) + o) (hp : ((pc : Int) + o).toNat = pc') (h : OwnGo p e below s rc rs Q T (mkF m pc' L S)) : OwnGo p e below s rc rs Q T (mkF m pc L (.int x :: S)) := by
  exact .st (fun _ => XS.ifYes X.here hx rfl rfl hd rfl hc ho hp) h
theorem OwnGo.icmpNo (X : Stand p l e R s m args below meth c T locs cells slots) (hx : p.tables.exec = Jvm.exec) {pc : Nat} {L : Array Slot} {S : List Value} {cd : ClassFile.Cond} {o : Int} {x y : Int32} (hd : decode c.code pc = .ok (.if_icmp cd o, 3)) (hc : if_icmp.holds cd x y = false) (h : OwnGo p e below s rc rs Q T (mkF m (pc + 3) L S)) : OwnGo p e below s rc rs Q T (mkF m pc L (.int y :: .int x :: S)) := by
  exact .st (fun _ => XS.icmpNo X.here hx rfl hd rfl hc) h
theorem OwnGo.icmpYes (X : Stand p l e R s m args below meth c T locs cells slots) (hx : p.tables.exec = Jvm.exec) {pc : Nat} {L : Array Slot} {S : List Value} {cd : ClassFile.Cond} {o : Int} {x y : Int32} (pc' : Nat) (hd : decode c.code pc = .ok (.if_icmp cd o, 3)) (hc : if_icmp.holds cd x y = true) (ho : 0 ≤ (pc : Int) + o) (hp : ((pc : Int) + o).toNat = pc') (h : OwnGo p e below s rc rs Q T (mkF m pc' L S)) : OwnGo p e below s rc rs Q T (mkF m pc L (.int y :: .int x :: S)) := by
  exact .st (fun _ => XS.icmpYes X.here hx rfl rfl hd rfl hc ho hp) h
end Own
end Jvm.RoadKit
namespace Jvm.RoadKit
open Sem ClassFile Op Lib Jvm.Stand Jvm.Free Jvm.LawKit
section OwnW
variable {p : Program} {l : Launch} {e : Env} {R : Room} {s : State} {vm0 : Vm} {m : MethodId} {args : Array Value} {below : List Frame} {meth : Method} {c : Code} {T T' Z : State} {locs : List Loc} {cells slots rc rs k0 : Nat} {Q : Option Value → Heap → List Loc → Prop} {g g' : JFrame} {EL : List (String × Nat)} {a0 : Array Value} {h0 h : Heap}
/-- the same, where String constants may be loaded: the wide frame, and the booked constants' invariant -/
def OwnGoW (p : Program) (e : Env) (below : List Frame) (s Z : State) (EL : List (String × Nat)) (rc rs : Nat) (Q : Option Value → Heap → List Loc → Prop) (T : State) (g : JFrame) : Prop :=
  ∃ (U : State) (o : Outcome), Steps p.tables e below (T.setTop g) U ∧ U.status = .running ∧ Ended U below o ∧ ∃ v L, o = .returned v ∧ Q v U.heap L ∧ CHr Z EL s.vm s.heap U.vm U.heap ∧ ReturnedEndW s o U L rc rs
theorem OwnGoW.st (k : ∀ target, Steps p.tables e below (T'.setTop g') target → Steps p.tables e below (T.setTop g) target) (h : OwnGoW p e below s Z EL rc rs Q T' g') : OwnGoW p e below s Z EL rc rs Q T g := by
  obtain ⟨U, o, h1, h2⟩ := h
  exact ⟨U, o, k _ h1, h2⟩
theorem OwnGoW.join {ι : Type} {P : ι → Prop} {f : ι → JFrame} {T1 : State} (h : ∀ i, P i → OwnGoW p e below s Z EL rc rs Q T1 (f i)) (k : (∀ i, P i → OwnGoW p e below s Z EL rc rs Q T1 (f i)) → OwnGoW p e below s Z EL rc rs Q T g) : OwnGoW p e below s Z EL rc rs Q T g := k h
theorem OwnGoW.cast (q : g = g') (h : OwnGoW p e below s Z EL rc rs Q T g') : OwnGoW p e below s Z EL rc rs Q T g := q ▸ h
theorem OwnGoW.ret (X : Stand p l e R (s.setVm vm0) m args below meth c T locs cells slots) (hS : s.Since vm0 k0) (hk : k0 ≤ h.size) (eT : T.heap = h) (hZ : Z.Warmed39 (s.setVm vm0).vm) (hEL : EW Z a0 EL) (CR : CHr Z EL s.vm s.heap vm0 h) (hx : p.tables.exec = Jvm.exec) {pc : Nat} {Ls : Array Slot} {w : Value} {t : FieldType} {i : Instr} {rest : List Value} (hret : meth.sig.returnType = some t) (hlk : meth.locks = false) (hn : narrow t w = w)
    (hi : (i = .ireturn ∧ (t = .int ∨ t = .boolean ∨ t = .byte ∨ t = .char ∨ t = .short) ∧ ∃ z, w = .int z) ∨ (i = .lreturn ∧ t = .long ∧ ∃ z, w = .long z) ∨ (i = .dreturn ∧ t = .double ∧ ∃ z, w = .double z) ∨ (i = .freturn ∧ t = .float ∧ ∃ z, w = .float z) ∨ (i = .areturn ∧ t.isReference = true ∧ w.isRef = true))
    (hd : decode c.code pc = .ok (i, 1)) (hQ : Q (some w) T.heap locs) (hc : cells ≤ rc) (hs : slots ≤ rs) : OwnGoW p e below s Z EL rc rs Q T (mkF m pc Ls (w :: rest)) := by
  subst eT
  have CX : CHr Z EL vm0 T.heap T.vm T.heap := CHv.at X hZ hEL CR.1
  obtain ⟨fs, hr, hrun, hended, e1, e2, e3, e4⟩ := X.leaveW (v := some w) hS hk (fun h => by rw [hret] at h; cases h) hlk
  exact ⟨_, _, retOut X hx hret hn hi hd hr, hrun, hended, _, _, rfl, hQ, CR.trans CX, e1, e2, e3, e4.mono hc hs⟩
theorem OwnGoW.retN (X : Stand p l e R (s.setVm vm0) m args below meth c T locs cells slots) (hS : s.Since vm0 k0) (hk : k0 ≤ h.size) (eT : T.heap = h) (hZ : Z.Warmed39 (s.setVm vm0).vm) (hEL : EW Z a0 EL) (CR : CHr Z EL s.vm s.heap vm0 h) (hx : p.tables.exec = Jvm.exec) {pc : Nat} {Ls : Array Slot} {z : Int32} {t : FieldType} {rest : List Value} (hret : meth.sig.returnType = some t) (hlk : meth.locks = false) (ht : t = .boolean ∨ t = .byte ∨ t = .char ∨ t = .short)
    (hd : decode c.code pc = .ok (.ireturn, 1)) (hQ : Q (some (.int (nar t z))) T.heap locs) (hc : cells ≤ rc) (hs : slots ≤ rs) : OwnGoW p e below s Z EL rc rs Q T (mkF m pc Ls (.int z :: rest)) := by
  subst eT
  have CX : CHr Z EL vm0 T.heap T.vm T.heap := CHv.at X hZ hEL CR.1
  obtain ⟨fs, hr, hrun, hended, e1, e2, e3, e4⟩ := X.leaveW (v := some (.int (nar t z))) hS hk (fun h => by rw [hret] at h; cases h) hlk
  exact ⟨_, _, Jvm.RoadKit.retN X hx hret ht hd hr, hrun, hended, _, _, rfl, hQ, CR.trans CX, e1, e2, e3, e4.mono hc hs⟩
theorem OwnGoW.retV (X : Stand p l e R (s.setVm vm0) m args below meth c T locs cells slots) (hS : s.Since vm0 k0) (hk : k0 ≤ h.size) (eT : T.heap = h) (hZ : Z.Warmed39 (s.setVm vm0).vm) (hEL : EW Z a0 EL) (CR : CHr Z EL s.vm s.heap vm0 h) (hx : p.tables.exec = Jvm.exec) {pc : Nat} {Ls : Array Slot} (hret : meth.sig.returnType = none) (hlk : meth.locks = false)
    (hd : decode c.code pc = .ok (.return_, 1)) (hQ : Q none T.heap locs) (hc : cells ≤ rc) (hs : slots ≤ rs) : OwnGoW p e below s Z EL rc rs Q T (mkF m pc Ls []) := by
  subst eT
  have CX : CHr Z EL vm0 T.heap T.vm T.heap := CHv.at X hZ hEL CR.1
  obtain ⟨fs, hr, hrun, hended, e1, e2, e3, e4⟩ := X.leaveW (v := none) hS hk (fun _ => rfl) hlk
  exact ⟨_, _, X.returnOut hx hret hd hr, hrun, hended, _, _, rfl, hQ, CR.trans CX, e1, e2, e3, e4.mono hc hs⟩
theorem own_metW {y : MethodName} {bytes : ByteArray} {maxL : Nat} {ret : Option FieldType} {ws : List Jvm.Cond} {rm : Room} {as' : Array Value} (hp : plainFor y = true)
    (body : ∀ (p : Program) (e : Env) (s : State) (m : MethodId) (below : List Frame) (meth : Method) (c : Code) (s₁ : State), Stand p l e rm (s.setVm s.vm) m as' below meth c s₁ [] 0 0 → p.tables.exec = Jvm.exec → c.code = bytes → c.maxLocals = maxL → meth.sig.returnType = ret → meth.locks = false → (s.setVm s.vm).vm.findClass y.cls = some m.cls → meth.name = y.name → Z.Warmed39 (s.setVm s.vm).vm → s₁.heap = h0 →
      s.Since s.vm h0.size → CHr Z EL s.vm s.heap s.vm h0 → OwnGoW p e below s Z EL rm.cells rm.slots Q s₁ (entryFrame m as' maxL)) :
    MetFree l y (head1 (Jvm.Cond.code y bytes maxL ret :: ws) rm) (fun a U => a = as' ∧ Z.Warmed39 U.vm ∧ U.heap = h0 ∧ CHv Z EL U.vm h0) (fun _ _ _ _ _ => True) (fun _ U o U' => ∃ v L, o = .returned v ∧ Q v U'.heap L ∧ CHr Z EL U.vm U.heap U'.vm U'.heap ∧ ReturnedEndW U o U' L rm.cells rm.slots) := by
  refine MetFree.of_bodySF hp hisR ?_
  intro p e s m args below meth c s₁ Bd hml0 hP hK
  obtain ⟨rfl, hZ, hh, hC⟩ := hP
  subst hh
  exact body p e s m below meth c s₁ (Stand.of_body Bd) Bd.exec Bd.bytes hml0 Bd.returns Bd.notSynchronized (findClass_of_methodNamed Bd.named) (name_of_methodNamed Bd.named Bd.method).1 hZ (by rw [Bd.state]; rfl) ((State.WarmedH.refl s).since _) (CHr.refl hC)
theorem OwnGoW.iload (X : Stand p l e R (s.setVm vm0) m args below meth c T locs cells slots) (hx : p.tables.exec = Jvm.exec) {pc : Nat} {L : Array Slot} {S : List Value} {k : Nat} {v : Int32} (hd : decode c.code pc = .ok (.iload k, 2)) (hl : L[k]? = some (.val (.int v))) (h : OwnGoW p e below s Z EL rc rs Q T (mkF m (pc + 2) L (.int v :: S))) : OwnGoW p e below s Z EL rc rs Q T (mkF m pc L S) := by
  exact .st (fun _ => XS.iload X.here hx rfl hd hl) h
theorem OwnGoW.iloadN (X : Stand p l e R (s.setVm vm0) m args below meth c T locs cells slots) (hx : p.tables.exec = Jvm.exec) {pc : Nat} {L : Array Slot} {S : List Value} {k : Fin 4} {v : Int32} (hd : decode c.code pc = .ok (.iload_n k, 1)) (hl : L[k.val]? = some (.val (.int v))) (h : OwnGoW p e below s Z EL rc rs Q T (mkF m (pc + 1) L (.int v :: S))) : OwnGoW p e below s Z EL rc rs Q T (mkF m pc L S) := by
  exact .st (fun _ => XS.iloadN X.here hx rfl hd hl) h
theorem OwnGoW.aload (X : Stand p l e R (s.setVm vm0) m args below meth c T locs cells slots) (hx : p.tables.exec = Jvm.exec) {pc : Nat} {L : Array Slot} {S : List Value} {k : Nat} {v : Value} (hd : decode c.code pc = .ok (.aload k, 2)) (hl : L[k]? = some (.val v)) (hv : v.isRef = true) (h : OwnGoW p e below s Z EL rc rs Q T (mkF m (pc + 2) L (v :: S))) : OwnGoW p e below s Z EL rc rs Q T (mkF m pc L S) := by
  exact .st (fun _ => XS.aload X.here hx rfl hd hl hv) h
theorem OwnGoW.aloadN (X : Stand p l e R (s.setVm vm0) m args below meth c T locs cells slots) (hx : p.tables.exec = Jvm.exec) {pc : Nat} {L : Array Slot} {S : List Value} {k : Fin 4} {v : Value} (hd : decode c.code pc = .ok (.aload_n k, 1)) (hl : L[k.val]? = some (.val v)) (hv : v.isRef = true) (h : OwnGoW p e below s Z EL rc rs Q T (mkF m (pc + 1) L (v :: S))) : OwnGoW p e below s Z EL rc rs Q T (mkF m pc L S) := by
  exact .st (fun _ => XS.aloadN X.here hx rfl hd hl hv) h
theorem OwnGoW.iconst (X : Stand p l e R (s.setVm vm0) m args below meth c T locs cells slots) (hx : p.tables.exec = Jvm.exec) {pc : Nat} {L : Array Slot} {S : List Value} {i : Int} {n : Int32} (hd : decode c.code pc = .ok (.iconst i, 1)) (hn : Int32.ofInt i = n) (h : OwnGoW p e below s Z EL rc rs Q T (mkF m (pc + 1) L (.int n :: S))) : OwnGoW p e below s Z EL rc rs Q T (mkF m pc L S) := by
  subst hn
  exact .st (fun _ => XS.iconst X.here hx rfl hd) h
theorem OwnGoW.bipush (X : Stand p l e R (s.setVm vm0) m args below meth c T locs cells slots) (hx : p.tables.exec = Jvm.exec) {pc : Nat} {L : Array Slot} {S : List Value} {i : Int} {n : Int32} (hd : decode c.code pc = .ok (.bipush i, 2)) (hn : (Int8.ofInt i).toInt32 = n) (h : OwnGoW p e below s Z EL rc rs Q T (mkF m (pc + 2) L (.int n :: S))) : OwnGoW p e below s Z EL rc rs Q T (mkF m pc L S) := by
  subst hn
  exact .st (fun _ => XS.bipush X.here hx rfl hd) h
theorem OwnGoW.sipush (X : Stand p l e R (s.setVm vm0) m args below meth c T locs cells slots) (hx : p.tables.exec = Jvm.exec) {pc : Nat} {L : Array Slot} {S : List Value} {i : Int} {n : Int32} (hd : decode c.code pc = .ok (.sipush i, 3)) (hn : (Int16.ofInt i).toInt32 = n) (h : OwnGoW p e below s Z EL rc rs Q T (mkF m (pc + 3) L (.int n :: S))) : OwnGoW p e below s Z EL rc rs Q T (mkF m pc L S) := by
  subst hn
  exact .st (fun _ => XS.sipush X.here hx rfl hd) h
theorem OwnGoW.aconstNull (X : Stand p l e R (s.setVm vm0) m args below meth c T locs cells slots) (hx : p.tables.exec = Jvm.exec) {pc : Nat} {L : Array Slot} {S : List Value}  (hd : decode c.code pc = .ok (.aconst_null, 1)) (h : OwnGoW p e below s Z EL rc rs Q T (mkF m (pc + 1) L (.null :: S))) : OwnGoW p e below s Z EL rc rs Q T (mkF m pc L S) := by
  exact .st (fun _ => XS.aconstNull X.here hx rfl hd) h
theorem OwnGoW.dup (X : Stand p l e R (s.setVm vm0) m args below meth c T locs cells slots) (hx : p.tables.exec = Jvm.exec) {pc : Nat} {L : Array Slot} {S : List Value} {x : Value} (hd : decode c.code pc = .ok (.dup, 1)) (hc : x.category = 1) (h : OwnGoW p e below s Z EL rc rs Q T (mkF m (pc + 1) L (x :: x :: S))) : OwnGoW p e below s Z EL rc rs Q T (mkF m pc L (x :: S)) := by
  exact .st (fun _ => XS.dup X.here hx rfl hd rfl hc) h
theorem OwnGoW.goto (X : Stand p l e R (s.setVm vm0) m args below meth c T locs cells slots) (hx : p.tables.exec = Jvm.exec) {pc : Nat} {L : Array Slot} {S : List Value} {o : Int} (pc' : Nat) (hd : decode c.code pc = .ok (.goto o, 3)) (ho : 0 ≤ (pc : Int) + o) (hp : ((pc : Int) + o).toNat = pc') (h : OwnGoW p e below s Z EL rc rs Q T (mkF m pc' L S)) : OwnGoW p e below s Z EL rc rs Q T (mkF m pc L S) := by
  exact .st (fun _ => XS.goto X.here hx rfl rfl hd ho hp) h
theorem OwnGoW.istore (X : Stand p l e R (s.setVm vm0) m args below meth c T locs cells slots) (hx : p.tables.exec = Jvm.exec) {pc : Nat} {L : Array Slot} {S : List Value} {k : Nat} {x : Int32} {L' : Array Slot} (hd : decode c.code pc = .ok (.istore k, 2)) (hl : storeLocals L k (.int x) = some L') (h : OwnGoW p e below s Z EL rc rs Q T (mkF m (pc + 2) L' S)) : OwnGoW p e below s Z EL rc rs Q T (mkF m pc L (.int x :: S)) := by
  exact .st (fun _ => XS.istore X.here hx rfl hd rfl hl) h
theorem OwnGoW.istoreN (X : Stand p l e R (s.setVm vm0) m args below meth c T locs cells slots) (hx : p.tables.exec = Jvm.exec) {pc : Nat} {L : Array Slot} {S : List Value} {k : Fin 4} {x : Int32} {L' : Array Slot} (hd : decode c.code pc = .ok (.istore_n k, 1)) (hl : storeLocals L k.val (.int x) = some L') (h : OwnGoW p e below s Z EL rc rs Q T (mkF m (pc + 1) L' S)) : OwnGoW p e below s Z EL rc rs Q T (mkF m pc L (.int x :: S)) := by
  exact .st (fun _ => XS.istoreN X.here hx rfl hd rfl hl) h
theorem OwnGoW.astore (X : Stand p l e R (s.setVm vm0) m args below meth c T locs cells slots) (hx : p.tables.exec = Jvm.exec) {pc : Nat} {L : Array Slot} {S : List Value} {k : Nat} {x : Value} {L' : Array Slot} (hd : decode c.code pc = .ok (.astore k, 2)) (hv : x.isRef = true) (hl : storeLocals L k x = some L') (h : OwnGoW p e below s Z EL rc rs Q T (mkF m (pc + 2) L' S)) : OwnGoW p e below s Z EL rc rs Q T (mkF m pc L (x :: S)) := by
  exact .st (fun _ => XS.astore X.here hx rfl hd rfl hv hl) h
theorem OwnGoW.astoreN (X : Stand p l e R (s.setVm vm0) m args below meth c T locs cells slots) (hx : p.tables.exec = Jvm.exec) {pc : Nat} {L : Array Slot} {S : List Value} {k : Fin 4} {x : Value} {L' : Array Slot} (hd : decode c.code pc = .ok (.astore_n k, 1)) (hv : x.isRef = true) (hl : storeLocals L k.val x = some L') (h : OwnGoW p e below s Z EL rc rs Q T (mkF m (pc + 1) L' S)) : OwnGoW p e below s Z EL rc rs Q T (mkF m pc L (x :: S)) := by
  exact .st (fun _ => XS.astoreN X.here hx rfl hd rfl hv hl) h
theorem OwnGoW.iinc (X : Stand p l e R (s.setVm vm0) m args below meth c T locs cells slots) (hx : p.tables.exec = Jvm.exec) {pc : Nat} {L : Array Slot} {S : List Value} {k : Nat} {cst : Int} {x y : Int32} {L' : Array Slot} (hd : decode c.code pc = .ok (.iinc k cst, 3)) (hl : L[k]? = some (.val (.int x))) (hn : x + Int32.ofInt cst = y) (hl' : storeLocals L k (.int y) = some L') (h : OwnGoW p e below s Z EL rc rs Q T (mkF m (pc + 3) L' S)) : OwnGoW p e below s Z EL rc rs Q T (mkF m pc L S) := by
  subst hn
  exact .st (fun _ => XS.iinc X.here hx rfl hd hl hl') h
theorem OwnGoW.ifNo (X : Stand p l e R (s.setVm vm0) m args below meth c T locs cells slots) (hx : p.tables.exec = Jvm.exec) {pc : Nat} {L : Array Slot} {S : List Value} {cd : ClassFile.Cond} {o : Int} {x : Int32} (hd : decode c.code pc = .ok (.ifCond cd o, 3)) (hc : ifCond.holds cd x = false) (h : OwnGoW p e below s Z EL rc rs Q T (mkF m (pc + 3) L S)) : OwnGoW p e below s Z EL rc rs Q T (mkF m pc L (.int x :: S)) := by
  exact .st (fun _ => XS.ifNo X.here hx rfl hd rfl hc) h
theorem OwnGoW.ifYes (X : Stand p l e R (s.setVm vm0) m args below meth c T locs cells slots) (hx : p.tables.exec = Jvm.exec) {pc : Nat} {L : Array Slot} {S : List Value} {cd : ClassFile.Cond} {o : Int} {x : Int32} (pc' : Nat) (hd : decode c.code pc = .ok (.ifCond cd o, 3)) (hc : ifCond.holds cd x = true) (ho : 0 ≤ (pc : Int) + o) (hp : ((pc : Int) + o).toNat = pc') (h : OwnGoW p e below s Z EL rc rs Q T (mkF m pc' L S)) : OwnGoW p e below s Z EL rc rs Q T (mkF m pc L (.int x :: S)) := by
  exact .st (fun _ => XS.ifYes X.here hx rfl rfl hd rfl hc ho hp) h
theorem OwnGoW.icmpNo (X : Stand p l e R (s.setVm vm0) m args below meth c T locs cells slots) (hx : p.tables.exec = Jvm.exec) {pc : Nat} {L : Array Slot} {S : List Value} {cd : ClassFile.Cond} {o : Int} {x y : Int32} (hd : decode c.code pc = .ok (.if_icmp cd o, 3)) (hc : if_icmp.holds cd x y = false) (h : OwnGoW p e below s Z EL rc rs Q T (mkF m (pc + 3) L S)) : OwnGoW p e below s Z EL rc rs Q T (mkF m pc L (.int y :: .int x :: S)) := by
  exact .st (fun _ => XS.icmpNo X.here hx rfl hd rfl hc) h
theorem OwnGoW.icmpYes (X : Stand p l e R (s.setVm vm0) m args below meth c T locs cells slots) (hx : p.tables.exec = Jvm.exec) {pc : Nat} {L : Array Slot} {S : List Value} {cd : ClassFile.Cond} {o : Int} {x y : Int32} (pc' : Nat) (hd : decode c.code pc = .ok (.if_icmp cd o, 3)) (hc : if_icmp.holds cd x y = true) (ho : 0 ≤ (pc : Int) + o) (hp : ((pc : Int) + o).toNat = pc') (h : OwnGoW p e below s Z EL rc rs Q T (mkF m pc' L S)) : OwnGoW p e below s Z EL rc rs Q T (mkF m pc L (.int y :: .int x :: S)) := by
  exact .st (fun _ => XS.icmpYes X.here hx rfl rfl hd rfl hc ho hp) h
end OwnW
end Jvm.RoadKit
namespace Jvm.RoadKit
open Sem ClassFile Op Lib Jvm.Stand Jvm.Free Jvm.LawKit
/-- a String whose value is null is no booked constant -/
theorem own_safe_null {Z : State} {EL : List (String × Nat)} {vm : Vm} {h : Heap} {x : Addr} (hal : Z.vm.Alike vm) (E : Exa Z h x "java/lang/String") (Fv : Fld Z h x "java/lang/String" "value" "[B" .null) : Safe Z EL vm h x := fun B => by
  obtain ⟨p, -, u, a, -, q, -, F, rfl | rfl⟩ := B
  · obtain ⟨cell, cf, k, i, f, e1, e2, -, -, -, -, e7⟩ := Fv
    cases (show h[q.sa]? = some q.sC from F.ha).symm.trans e1
    obtain ⟨cS, ⟨⟨-, -, -, ⟨c1, k1, i1, f1, -⟩, -, -, -, v1, -⟩, -⟩, -⟩ := F
    obtain ⟨k3, e3, -⟩ := State.fieldFound?_setVm (s := { Z with heap := h }) hal (show ({ Z with heap := h } : State).fieldFound? _ _ _ = _ from e2)
    have e4 := (show (Wst Z vm h).fieldFound? _ _ _ = _ from e3).symm.trans f1
    simp only [Option.some.injEq, Prod.mk.injEq] at e4
    rw [← e4.2.2.2, e7] at v1
    simp at v1
  · obtain ⟨cell, k, e1, e2, e3, -, -⟩ := E
    cases (show h[q.sd]? = some q.SA from F.hd).symm.trans e1
    obtain ⟨cS, -, -, f, -⟩ := F
    have f := (hal.findClass "[B" _).symm.trans (show vm.findClass "[B" = _ from f)
    obtain ⟨k1, q1, q2⟩ := Vm.findClass_spec f
    obtain ⟨k2, q3, q4⟩ := Vm.findClass_spec e2
    cases q1.symm.trans q3
    exact absurd (q2.symm.trans q4) (by decide)
end Jvm.RoadKit
/- laws to paste: Road.backV (cut by pick.py; bodies as the Statement names them) -/
set_option maxRecDepth 65536
set_option maxHeartbeats 40000000
namespace Jvm.Pilot.@@N@@
namespace StrChars
open Jvm Sem ClassFile Op Lib Jvm.Stand Jvm.Free.XT Jvm.Free.ALB Jvm.Free.JM Jvm.Free
open Jvm.Lib.Cold (StaticIs)
/-- a char array whose places are chars -/
def Ch (a : Addr) (A : Cell) (U : State) : Prop := Arr .char a A U ∧ Typed .char A
theorem Ch.mv {a : Addr} {A : Cell} {U U' : State} (h : Ch a A U) (hal : U.vm.Alike U'.vm) (hh : U'.heap = U.heap) : Ch a A U' := ⟨h.1.mv hal hh, h.2⟩
theorem Ch.keep {a : Addr} {A : Cell} {U U' : State} (h : Ch a A U) (hal : U.vm.Alike U'.vm) (hk : U'.heap[a]? = some A) : Ch a A U' := ⟨h.1.keep hal hk, h.2⟩
/-- what place i of a char[]'s cell holds -/
def cv (A : Cell) (i : Nat) : Int32 := match A.slots[i]? with | some (.int x) => x | _ => 0
theorem Ch.get {a : Addr} {A : Cell} {U : State} (h : Ch a A U) {i : Nat} (hi : i < A.slots.size) : A.slots[i]? = some (.int (cv A i)) := by
  have e := Array.getElem?_eq_getElem hi
  have f := h.2 i _ e
  unfold cv; rw [e]
  generalize A.slots[i] = v at f
  cases v <;> simp [fits] at f ⊢
/-- the byte that i2b leaves of a char -/
def lo8 (x : Int32) : Int32 := x.toInt8.toInt32
theorem fits_lo8 (y : Int32) : fits .byte (.int (lo8 y)) = true := by
  have h1 := y.toInt8.le_toInt
  have h2 := y.toInt8.toInt_lt
  simp only [lo8, fits, Bool.and_eq_true, decide_eq_true_eq, Int32.le_iff_toInt_le, Int8.toInt_toInt32, show (-128 : Int32).toInt = -128 from by decide, show (127 : Int32).toInt = 127 from by decide]
  omega
/-- A' is A but that each place j of lo .. hi - 1 holds f j -/
def Laid (A A' : Cell) (lo hi : Nat) (f : Nat → Value) : Prop := A'.cls = A.cls ∧ A'.vm = A.vm ∧ A'.slots.size = A.slots.size ∧ ∀ i, A'.slots[i]? = if lo ≤ i ∧ i < hi then some (f i) else A.slots[i]?
theorem Laid.zero (A : Cell) (lo : Nat) (f : Nat → Value) : Laid A A lo (lo + 0) f := ⟨rfl, rfl, rfl, fun i => by rw [if_neg (by omega)]⟩
theorem Laid.step {A Ak : Cell} {lo k : Nat} {f : Nat → Value} {v : Value} (h : Laid A Ak lo k f) (hlo : lo ≤ k) (hk : k < Ak.slots.size) (hv : v = f k) : Laid A (Ak.setSlot k v) lo (k + 1) f := by
  refine ⟨h.1, h.2.1, by simpa [Cell.setSlot] using h.2.2.1, fun i => ?_⟩
  by_cases e : k = i
  · subst e; rw [Cell.slots_setSlot_self v hk, if_pos (by omega), hv]
  · rw [Cell.slots_setSlot_ne v e, h.2.2.2 i]
    by_cases q : lo ≤ i ∧ i < k
    · rw [if_pos q, if_pos (by omega)]
    · rw [if_neg q, if_neg (by omega)]
def U16 : String := "java/lang/StringUTF16"
namespace Cmp5
def yN : MethodName := ⟨"java/lang/StringUTF16", "compress", "([CI[BII)I"⟩
abbrev yB : ByteArray := jdk_52_method_21_code
theorem d0 : decode yB 0 = .ok (.iconst 0, 1) := by decide +kernel
theorem d1 : decode yB 1 = .ok (.istore 5, 2) := by decide +kernel
theorem d3 : decode yB 3 = .ok (.iload 5, 2) := by decide +kernel
theorem d5 : decode yB 5 = .ok (.iload 4, 2) := by decide +kernel
theorem d7 : decode yB 7 = .ok (.if_icmp (.ge) 37, 3) := by decide +kernel
theorem d10 : decode yB 10 = .ok (.aload_n 0, 1) := by decide +kernel
theorem d11 : decode yB 11 = .ok (.iload_n 1, 1) := by decide +kernel
theorem d12 : decode yB 12 = .ok (.caload, 1) := by decide +kernel
theorem d13 : decode yB 13 = .ok (.istore 6, 2) := by decide +kernel
theorem d15 : decode yB 15 = .ok (.iload 6, 2) := by decide +kernel
theorem d17 : decode yB 17 = .ok (.sipush 255, 3) := by decide +kernel
theorem d20 : decode yB 20 = .ok (.if_icmp (.le) 6, 3) := by decide +kernel
theorem d26 : decode yB 26 = .ok (.aload_n 2, 1) := by decide +kernel
theorem d27 : decode yB 27 = .ok (.iload_n 3, 1) := by decide +kernel
theorem d28 : decode yB 28 = .ok (.iload 6, 2) := by decide +kernel
theorem d30 : decode yB 30 = .ok (.i2b, 1) := by decide +kernel
theorem d31 : decode yB 31 = .ok (.bastore, 1) := by decide +kernel
theorem d32 : decode yB 32 = .ok (.iinc 1 1, 3) := by decide +kernel
theorem d35 : decode yB 35 = .ok (.iinc 3 1, 3) := by decide +kernel
theorem d38 : decode yB 38 = .ok (.iinc 5 1, 3) := by decide +kernel
theorem d41 : decode yB 41 = .ok (.goto (-38), 3) := by decide +kernel
theorem d44 : decode yB 44 = .ok (.iload 4, 2) := by decide +kernel
theorem d46 : decode yB 46 = .ok (.ireturn, 1) := by decide +kernel
def site : List Cond := []
def tab : Cond := tabOf yN yB 7 (some .int) site
def P (b : Addr) (A : Cell) (d : Addr) (B : Cell) (o q len : Nat) (args : Array Value) (s : State) : Prop := args = #[.ref b, .int (Int32.ofNat o), .ref d, .int (Int32.ofNat q), .int (Int32.ofNat len)] ∧ Ch b A s ∧ Arr .byte d B s ∧ b ≠ d ∧ o + len ≤ A.slots.size ∧ q + len ≤ B.slots.size ∧ ∀ i, i < len → ¬ 255 < cv A (o + i)
def E (b : Addr) (A : Cell) (d : Addr) (B : Cell) (o q len : Nat) (r : Option Value) (s u : State) : Prop := r = some (.int (Int32.ofNat len)) ∧ ∃ B', Put d B' s u ∧ Laid B B' q (q + len) (fun j => Value.int (lo8 (cv A (o + (j - q)))))
/-- no char of the range above 255: len; the places written hold each char's low byte -/
theorem law (l : Launch) (b : Addr) (A : Cell) (d : Addr) (B : Cell) (o q len : Nat) : Law l yN 5 5 0 0 yB 7 (some .int) site (P b A d B o q len) (E b A d B o q len) (copyLocs d q len) 0 0 := by
  refine Law.of_walk (plainFor_of_name (by decide +kernel)) (by decide +kernel) (by decide +kernel) (by decide) (fun _ _ h => by rw [h.1]; rfl) (fun _ U U' hal hh h => ⟨h.1, h.2.1.mv hal hh, h.2.2.1.mv hal hh, h.2.2.2⟩) (fun r U U' V V' h1 hal h2 h => ⟨h.1, h.2.elim fun B' q => ⟨B', q.1.mv h1 h2, q.2⟩⟩) ?_
  intro p e s m args below meth c s₁ X0 hexec hbytes hml hret hlk hnm hown hh0 W hP
  obtain ⟨rfl, hA, hB, hne, l1, l2, hp⟩ := hP
  have c1 : Steps p.tables e below (s₁.setTop (entryFrame m #[.ref b, .int (Int32.ofNat o), .ref d, .int (Int32.ofNat q), .int (Int32.ofNat len)] 7)) (s₁.setTop (mkF m 0 #[.val (.ref b), .val (.int (Int32.ofNat o)), .val (.ref d), .val (.int (Int32.ofNat q)), .val (.int (Int32.ofNat len)), .unset, .unset] [])) := entry rfl
  have hA0 := hA.1.mv X0.warmed.alike hh0
  have hB0 := hB.mv X0.warmed.alike hh0
  have a31 := hA.1.2.2.2
  have c2 : Steps p.tables e below (s₁.setTop (entryFrame m #[.ref b, .int (Int32.ofNat o), .ref d, .int (Int32.ofNat q), .int (Int32.ofNat len)] 7)) (s₁.setTop (mkF m 3 #[.val (.ref b), .val (.int (Int32.ofNat o)), .val (.ref d), .val (.int (Int32.ofNat q)), .val (.int (Int32.ofNat len)), .val (.int 0), .unset] [])) := c1.trans (by
    refine iconstV X0.here hexec rfl 0 (hb hbytes d0) (by decide) ?_
    refine XS.istore X0.here hexec rfl (hb hbytes d1) rfl rfl ?_
    exact Steps.refl _)
  have loop : ∀ (r i : Nat), i + r = len → ∀ (z : Slot), (z = .unset ∨ ∃ w, z = .val w ∧ w.category = 1) → ∀ (Tl : State) (Bk : Cell), Stand p l e { frames := 0, locals := 0, cells := 0, slots := 0 } s m #[.ref b, .int (Int32.ofNat o), .ref d, .int (Int32.ofNat q), .int (Int32.ofNat len)] below meth c Tl ([] ++ copyLocs d q i) 0 0 → Put d Bk s₁ Tl → Laid B Bk q (q + i) (fun j => Value.int (lo8 (cv A (o + (j - q))))) →
      Steps p.tables e below (s₁.setTop (entryFrame m #[.ref b, .int (Int32.ofNat o), .ref d, .int (Int32.ofNat q), .int (Int32.ofNat len)] 7)) (Tl.setTop (mkF m 3 #[.val (.ref b), .val (.int (Int32.ofNat (o + i))), .val (.ref d), .val (.int (Int32.ofNat (q + i))), .val (.int (Int32.ofNat len)), .val (.int (Int32.ofNat i)), z] [])) → ∃ (T' : State) (B' : Cell) (z' : Slot), Stand p l e { frames := 0, locals := 0, cells := 0, slots := 0 } s m #[.ref b, .int (Int32.ofNat o), .ref d, .int (Int32.ofNat q), .int (Int32.ofNat len)] below meth c T' ([] ++ copyLocs d q len) 0 0 ∧ Put d B' s₁ T' ∧ Laid B B' q (q + len) (fun j => Value.int (lo8 (cv A (o + (j - q))))) ∧
      Steps p.tables e below (s₁.setTop (entryFrame m #[.ref b, .int (Int32.ofNat o), .ref d, .int (Int32.ofNat q), .int (Int32.ofNat len)] 7)) (T'.setTop (mkF m 3 #[.val (.ref b), .val (.int (Int32.ofNat (o + len))), .val (.ref d), .val (.int (Int32.ofNat (q + len))), .val (.int (Int32.ofNat len)), .val (.int (Int32.ofNat len)), z'] [])) := by
    intro r
    induction r with
    | zero =>
      intro i hi z hz Tl Bk Xl pl fl cl
      have hil : i = len := by omega
      rw [hil] at Xl fl cl
      exact ⟨Tl, Bk, z, Xl, pl, fl, cl⟩
    | succ r ih =>
      intro i hi z hz Tl Bk Xl pl fl cl
      have all := X0.warmed.alike.symm.trans Xl.warmed.alike
      have hAl := hA0.keep all (pl.other hne hA0.1)
      have hBk := hB0.like all pl.1 fl.1 fl.2.1 fl.2.2.1
      have hlt : q + i < Bk.slots.size := by rw [fl.2.2.1]; omega
      have c3 : Steps p.tables e below (s₁.setTop (entryFrame m #[.ref b, .int (Int32.ofNat o), .ref d, .int (Int32.ofNat q), .int (Int32.ofNat len)] 7)) (Tl.setTop (mkF m 12 #[.val (.ref b), .val (.int (Int32.ofNat (o + i))), .val (.ref d), .val (.int (Int32.ofNat (q + i))), .val (.int (Int32.ofNat len)), .val (.int (Int32.ofNat i)), z] [.int (Int32.ofNat (o + i)), .ref b])) := cl.trans (by
        refine XS.iload Xl.here hexec rfl (hb hbytes d3) rfl ?_
        refine XS.iload Xl.here hexec rfl (hb hbytes d5) rfl ?_
        refine XS.icmpNo Xl.here hexec rfl (hb hbytes d7) rfl (ii_ge_f (lt32 (by omega) (by omega))) ?_
        refine XS.aloadN Xl.here hexec rfl (hb hbytes d10) rfl rfl ?_
        refine XS.iloadN Xl.here hexec rfl (hb hbytes d11) rfl ?_
        exact Steps.refl _)
      have c4 : Steps p.tables e below (s₁.setTop (entryFrame m #[.ref b, .int (Int32.ofNat o), .ref d, .int (Int32.ofNat q), .int (Int32.ofNat len)] 7)) (Tl.setTop (mkF m 13 #[.val (.ref b), .val (.int (Int32.ofNat (o + i))), .val (.ref d), .val (.int (Int32.ofNat (q + i))), .val (.int (Int32.ofNat len)), .val (.int (Int32.ofNat i)), z] [.int (cv A (o + i))])) := c3.trans (by
        refine Xl.aget hexec hAl rfl (hA.get (i := o + i) (by omega)) rfl rfl (hb hbytes d12) ?_
        exact Steps.refl _)
      have c5 : Steps p.tables e below (s₁.setTop (entryFrame m #[.ref b, .int (Int32.ofNat o), .ref d, .int (Int32.ofNat q), .int (Int32.ofNat len)] 7)) (Tl.setTop (mkF m 15 #[.val (.ref b), .val (.int (Int32.ofNat (o + i))), .val (.ref d), .val (.int (Int32.ofNat (q + i))), .val (.int (Int32.ofNat len)), .val (.int (Int32.ofNat i)), .val (.int (cv A (o + i)))] [])) := c4.trans (by
        refine XS.istoreS Xl.here hexec rfl (hb hbytes d13) rfl rfl hz ?_
        exact Steps.refl _)
      have c6 : Steps p.tables e below (s₁.setTop (entryFrame m #[.ref b, .int (Int32.ofNat o), .ref d, .int (Int32.ofNat q), .int (Int32.ofNat len)] 7)) (Tl.setTop (mkF m 31 #[.val (.ref b), .val (.int (Int32.ofNat (o + i))), .val (.ref d), .val (.int (Int32.ofNat (q + i))), .val (.int (Int32.ofNat len)), .val (.int (Int32.ofNat i)), .val (.int (cv A (o + i)))] [.int (lo8 (cv A (o + i))), .int (Int32.ofNat (q + i)), .ref d])) := c5.trans (by
        refine XS.iload Xl.here hexec rfl (hb hbytes d15) rfl ?_
        refine sipushV Xl.here hexec rfl 255 (hb hbytes d17) (by decide) ?_
        refine XS.icmpYes Xl.here hexec rfl (pc0 := 20) rfl (hb hbytes d20) rfl (ii_le_t (hp i (by omega))) (by decide) rfl ?_
        refine XS.aloadN Xl.here hexec rfl (hb hbytes d26) rfl rfl ?_
        refine XS.iloadN Xl.here hexec rfl (hb hbytes d27) rfl ?_
        refine XS.iload Xl.here hexec rfl (hb hbytes d28) rfl ?_
        refine i2b Xl.here hexec rfl (hb hbytes d30) rfl ?_
        exact Steps.refl _)
      obtain ⟨T7, X7, p7, st7⟩ := Xl.aput hexec hBk rfl hlt rfl (fits_lo8 (cv A (o + i))) (g := (mkF m 31 #[.val (.ref b), .val (.int (Int32.ofNat (o + i))), .val (.ref d), .val (.int (Int32.ofNat (q + i))), .val (.int (Int32.ofNat len)), .val (.int (Int32.ofNat i)), .val (.int (cv A (o + i)))] [.int (lo8 (cv A (o + i))), .int (Int32.ofNat (q + i)), .ref d])) rfl (rest := []) rfl (hb hbytes d31)
      have c8 : Steps p.tables e below (s₁.setTop (entryFrame m #[.ref b, .int (Int32.ofNat o), .ref d, .int (Int32.ofNat q), .int (Int32.ofNat len)] 7)) (T7.setTop (mkF m 32 #[.val (.ref b), .val (.int (Int32.ofNat (o + i))), .val (.ref d), .val (.int (Int32.ofNat (q + i))), .val (.int (Int32.ofNat len)), .val (.int (Int32.ofNat i)), .val (.int (cv A (o + i)))] [])) := c6.trans (st7 _ (Steps.refl _))
      have c9 : Steps p.tables e below (s₁.setTop (entryFrame m #[.ref b, .int (Int32.ofNat o), .ref d, .int (Int32.ofNat q), .int (Int32.ofNat len)] 7)) (T7.setTop (mkF m 3 #[.val (.ref b), .val (.int (Int32.ofNat (o + i) + 1)), .val (.ref d), .val (.int (Int32.ofNat (q + i) + 1)), .val (.int (Int32.ofNat len)), .val (.int (Int32.ofNat i + 1)), .val (.int (cv A (o + i)))] [])) := c8.trans (by
        refine iincV X7.here hexec rfl 1 (hb hbytes d32) (by decide) rfl rfl ?_
        refine iincV X7.here hexec rfl 1 (hb hbytes d35) (by decide) rfl rfl ?_
        refine iincV X7.here hexec rfl 1 (hb hbytes d38) (by decide) rfl rfl ?_
        refine XS.goto X7.here hexec rfl (pc0 := 41) rfl (hb hbytes d41) (by decide) rfl ?_
        exact Steps.refl _)
      have c10 : Steps p.tables e below (s₁.setTop (entryFrame m #[.ref b, .int (Int32.ofNat o), .ref d, .int (Int32.ofNat q), .int (Int32.ofNat len)] 7)) (T7.setTop (mkF m 3 #[.val (.ref b), .val (.int (Int32.ofNat (o + (i + 1)))), .val (.ref d), .val (.int (Int32.ofNat (q + (i + 1)))), .val (.int (Int32.ofNat len)), .val (.int (Int32.ofNat (i + 1))), .val (.int (cv A (o + i)))] [])) := by
        have := c9
        rw [succ32, succ32, succ32] at this
        exact this
      exact ih (i + 1) (by omega) _ (Or.inr ⟨_, rfl, rfl⟩) T7 _ (by rw [copyLocs_step, ← List.append_assoc]; exact X7) (pl.trans p7) (fl.step (by omega) hlt (by simp)) c10
  obtain ⟨T9, B9, z9, X9, p9, f9, g9⟩ := loop len 0 (by omega) .unset (Or.inl rfl) s₁ B (by simpa [copyLocs] using X0) ⟨hB0.1, fun _ _ => rfl, rfl⟩ (Laid.zero _ _ _) c2
  have c11 : Steps p.tables e below (s₁.setTop (entryFrame m #[.ref b, .int (Int32.ofNat o), .ref d, .int (Int32.ofNat q), .int (Int32.ofNat len)] 7)) (T9.setTop (mkF m 46 #[.val (.ref b), .val (.int (Int32.ofNat (o + len))), .val (.ref d), .val (.int (Int32.ofNat (q + len))), .val (.int (Int32.ofNat len)), .val (.int (Int32.ofNat len)), z9] [.int (Int32.ofNat len)])) := g9.trans (by
    refine XS.iload X9.here hexec rfl (hb hbytes d3) rfl ?_
    refine XS.iload X9.here hexec rfl (hb hbytes d5) rfl ?_
    refine XS.icmpYes X9.here hexec rfl (pc0 := 7) rfl (hb hbytes d7) rfl (ii_ge_t (nlt32 (by omega) (Nat.le_refl _))) (by decide) rfl ?_
    refine XS.iload X9.here hexec rfl (hb hbytes d44) rfl ?_
    exact Steps.refl _)
  exact ⟨T9, some (.int (Int32.ofNat len)), _, _, _, X9, by simp, rfl, rfl, (fun h => by cases h), ⟨rfl, B9, p9.from hh0, f9⟩, fun fs hl => c11.trans (X9.ireturnOut hexec hret rfl (Or.inl rfl) (hb hbytes d46) hl)⟩
end Cmp5
namespace Cmp3
def yN : MethodName := ⟨"java/lang/StringUTF16", "compress", "([CII)[B"⟩
abbrev yB : ByteArray := jdk_52_method_16_code
theorem d0 : decode yB 0 = .ok (.iload_n 2, 1) := by decide +kernel
theorem d1 : decode yB 1 = .ok (.newarray .byte, 2) := by decide +kernel
theorem d3 : decode yB 3 = .ok (.astore_n 3, 1) := by decide +kernel
theorem d4 : decode yB 4 = .ok (.aload_n 0, 1) := by decide +kernel
theorem d5 : decode yB 5 = .ok (.iload_n 1, 1) := by decide +kernel
theorem d6 : decode yB 6 = .ok (.aload_n 3, 1) := by decide +kernel
theorem d7 : decode yB 7 = .ok (.iconst 0, 1) := by decide +kernel
theorem d8 : decode yB 8 = .ok (.iload_n 2, 1) := by decide +kernel
theorem d9 : decode yB 9 = .ok (.invokestatic 115, 3) := by decide +kernel
theorem d12 : decode yB 12 = .ok (.istore 4, 2) := by decide +kernel
theorem d14 : decode yB 14 = .ok (.iload 4, 2) := by decide +kernel
theorem d16 : decode yB 16 = .ok (.iload_n 2, 1) := by decide +kernel
theorem d17 : decode yB 17 = .ok (.if_icmp (.eq) 40, 3) := by decide +kernel
theorem d57 : decode yB 57 = .ok (.aload_n 3, 1) := by decide +kernel
theorem d58 : decode yB 58 = .ok (.areturn, 1) := by decide +kernel
def site : List Cond := [.arrayClass .byte, Cmp5.tab] ++ staticW U16 115 Cmp5.yN
def tab : Cond := tabOf yN yB 6 (some (.array .byte)) site
def P (b : Addr) (A : Cell) (o len : Nat) (args : Array Value) (s : State) : Prop := args = #[.ref b, .int (Int32.ofNat o), .int (Int32.ofNat len)] ∧ Ch b A s ∧ o + len ≤ A.slots.size ∧ len ≤ 536870912 ∧ ∀ i, i < len → ¬ 255 < cv A (o + i)
def E (b : Addr) (A : Cell) (o len : Nat) (r : Option Value) (s u : State) : Prop := NewArr .byte "[B" len (fun j => .int (lo8 (cv A (o + j)))) r s u ∧ u.heap.size = s.heap.size + 1
/-- no char of the range above 255: a new byte[] of their low bytes -/
theorem law (l : Launch) (b : Addr) (A : Cell) (o len : Nat) : Law l yN 3 3 1 18 yB 6 (some (.array .byte)) site (P b A o len) (E b A o len) [] 1 len := by
  refine Law.of_walk (plainFor_of_name (by decide +kernel)) (by decide +kernel) (by decide +kernel) (by decide) (fun _ _ h => by rw [h.1]; rfl) (fun _ U U' hal hh h => ⟨h.1, h.2.1.mv hal hh, h.2.2⟩) (fun r U U' V V' h1 hal h2 h => ⟨NewArr.mv r U U' V V' h1 hal h2 h.1, by rw [h1, h2]; exact h.2⟩) ?_
  intro p e s m args below meth c s₁ X0 hexec hbytes hml hret hlk hnm hown hh0 W hP
  obtain ⟨rfl, hA, l1, l2, hp⟩ := hP
  have a31 := hA.1.2.2.2
  have c1 : Steps p.tables e below (s₁.setTop (entryFrame m #[.ref b, .int (Int32.ofNat o), .int (Int32.ofNat len)] 6)) (s₁.setTop (mkF m 0 #[.val (.ref b), .val (.int (Int32.ofNat o)), .val (.int (Int32.ofNat len)), .unset, .unset, .unset] [])) := entry rfl
  have c2 : Steps p.tables e below (s₁.setTop (entryFrame m #[.ref b, .int (Int32.ofNat o), .int (Int32.ofNat len)] 6)) (s₁.setTop (mkF m 1 #[.val (.ref b), .val (.int (Int32.ofNat o)), .val (.int (Int32.ofNat len)), .unset, .unset, .unset] [.int (Int32.ofNat len)])) := c1.trans (by
    refine XS.iloadN X0.here hexec rfl (hb hbytes d0) rfl ?_
    exact Steps.refl _)
  obtain ⟨T3, B3, X3, ba3, bs3, bv3, bh3, bf3, st3⟩ := X0.anew hexec (atype := .byte) (wk W (.arrayClass .byte)) rfl (by show len * 1 ≤ _; omega) (by omega) (g := (mkF m 1 #[.val (.ref b), .val (.int (Int32.ofNat o)), .val (.int (Int32.ofNat len)), .unset, .unset, .unset] [.int (Int32.ofNat len)])) rfl (hb hbytes d1) (rest := []) rfl (Nat.le_refl _) (by show 0 + len ≤ len; omega)
  rw [hh0] at ba3 st3
  have kp3 : XT.Kept s T3 := (XT.Kept.of_eq hh0).push bh3
  have hA3 := hA.keep X3.warmed.alike (kp3 _ _ hA.1.1)
  have hne : b ≠ s.heap.size := hA.1.ne
  have c4 : Steps p.tables e below (s₁.setTop (entryFrame m #[.ref b, .int (Int32.ofNat o), .int (Int32.ofNat len)] 6)) (T3.setTop (mkF m 3 #[.val (.ref b), .val (.int (Int32.ofNat o)), .val (.int (Int32.ofNat len)), .unset, .unset, .unset] [.ref s.heap.size])) := c2.trans (st3 _ (Steps.refl _))
  have c5 : Steps p.tables e below (s₁.setTop (entryFrame m #[.ref b, .int (Int32.ofNat o), .int (Int32.ofNat len)] 6)) (T3.setTop (mkF m 9 #[.val (.ref b), .val (.int (Int32.ofNat o)), .val (.int (Int32.ofNat len)), .val (.ref s.heap.size), .unset, .unset] [.int (Int32.ofNat len), .int 0, .ref s.heap.size, .int (Int32.ofNat o), .ref b])) := c4.trans (by
    refine XS.astoreN X3.here hexec rfl (hb hbytes d3) rfl rfl rfl ?_
    refine XS.aloadN X3.here hexec rfl (hb hbytes d4) rfl rfl ?_
    refine XS.iloadN X3.here hexec rfl (hb hbytes d5) rfl ?_
    refine XS.aloadN X3.here hexec rfl (hb hbytes d6) rfl rfl ?_
    refine iconstV X3.here hexec rfl 0 (hb hbytes d7) (by decide) ?_
    refine XS.iloadN X3.here hexec rfl (hb hbytes d8) rfl ?_
    exact Steps.refl _)
  obtain ⟨v6, T6, X6, E6, g6⟩ := X3.callS hexec (Cmp5.law l b A s.heap.size B3 o 0 len) hown (wks W (staticW U16 115 Cmp5.yN)) (wk W Cmp5.tab) (W := 0) (Nat.le_of_ble_eq_true rfl) (Nat.le_of_ble_eq_true rfl) (Nat.le_refl _) (by show 0 + len + 0 ≤ len; omega) (g := (mkF m 9 #[.val (.ref b), .val (.int (Int32.ofNat o)), .val (.int (Int32.ofNat len)), .val (.ref s.heap.size), .unset, .unset] [.int (Int32.ofNat len), .int (Int32.ofNat 0), .ref s.heap.size, .int (Int32.ofNat o), .ref b])) rfl (by rw [hml]; rfl) c5 (argsL := [.ref b, .int (Int32.ofNat o), .ref s.heap.size, .int (Int32.ofNat 0), .int (Int32.ofNat len)]) (rest := []) rfl rfl (by show 2 * 0 + 0 ≤ _; decide) (hb hbytes d9) (⟨rfl, hA3, ba3, hne, l1, by rw [bs3]; simp, hp⟩)
  obtain ⟨rfl, B6, p6, f6⟩ := E6
  have c7 : Steps p.tables e below (s₁.setTop (entryFrame m #[.ref b, .int (Int32.ofNat o), .int (Int32.ofNat len)] 6)) (T6.setTop (mkF m 12 #[.val (.ref b), .val (.int (Int32.ofNat o)), .val (.int (Int32.ofNat len)), .val (.ref s.heap.size), .unset, .unset] [.int (Int32.ofNat len)])) := g6
  have c8 : Steps p.tables e below (s₁.setTop (entryFrame m #[.ref b, .int (Int32.ofNat o), .int (Int32.ofNat len)] 6)) (T6.setTop (mkF m 58 #[.val (.ref b), .val (.int (Int32.ofNat o)), .val (.int (Int32.ofNat len)), .val (.ref s.heap.size), .val (.int (Int32.ofNat len)), .unset] [.ref s.heap.size])) := c7.trans (by
    refine XS.istore X6.here hexec rfl (hb hbytes d12) rfl rfl ?_
    refine XS.iload X6.here hexec rfl (hb hbytes d14) rfl ?_
    refine XS.iloadN X6.here hexec rfl (hb hbytes d16) rfl ?_
    refine XS.icmpYes X6.here hexec rfl (pc0 := 17) rfl (hb hbytes d17) rfl (ii_eq_t rfl) (by decide) rfl ?_
    refine XS.aloadN X6.here hexec rfl (hb hbytes d57) rfl rfl ?_
    exact Steps.refl _)
  have X8 := X6.wide (L' := []) (cells' := 1) (slots' := len) (fun x hx hlt => by
    simp only [List.nil_append, copyLocs, List.mem_map, List.mem_range] at hx
    obtain ⟨i, -, rfl⟩ := hx
    exact absurd hlt (Nat.lt_irrefl _)) (Nat.le_refl _) (by omega)
  exact ⟨T6, some (.ref s.heap.size), _, _, _, X8, rfl, rfl, rfl, (fun h => by cases h), ⟨⟨rfl, B6, ba3.like (X3.warmed.alike.symm.trans X6.warmed.alike) p6.1 f6.1 f6.2.1 f6.2.2.1, f6.2.1.trans bv3, by rw [X6.warmed.alike.findClass, f6.1]; exact bf3, by rw [f6.2.2.1, bs3]; simp, fun j hj => by rw [f6.2.2.2 j, if_pos (by omega)]; rfl, kp3.put p6 (Nat.le_refl _)⟩, by rw [p6.2.2, bh3, hh0]; simp⟩, fun fs hl => c8.trans (X8.areturnOut hexec rfl hret rfl (hb hbytes d58) hl)⟩
end Cmp3
namespace CodL
def yN : MethodName := ⟨"java/lang/StringUTF16", "coderFromArrayLen", "([BI)B"⟩
abbrev yB : ByteArray := jdk_52_method_15_code
theorem d0 : decode yB 0 = .ok (.iload_n 1, 1) := by decide +kernel
theorem d1 : decode yB 1 = .ok (.aload_n 0, 1) := by decide +kernel
theorem d2 : decode yB 2 = .ok (.arraylength, 1) := by decide +kernel
theorem d3 : decode yB 3 = .ok (.isub, 1) := by decide +kernel
theorem d4 : decode yB 4 = .ok (.bipush 31, 2) := by decide +kernel
theorem d6 : decode yB 6 = .ok (.iushr, 1) := by decide +kernel
theorem d7 : decode yB 7 = .ok (.i2b, 1) := by decide +kernel
theorem d8 : decode yB 8 = .ok (.ireturn, 1) := by decide +kernel
def site : List Cond := []
def tab : Cond := tabOf yN yB 2 (some .byte) site
def P (d : Addr) (B : Cell) (args : Array Value) (s : State) : Prop := args = #[.ref d, .int (Int32.ofNat B.slots.size)] ∧ Arr .byte d B s
def E (r : Option Value) (s u : State) : Prop := XT.PureE (some (.int 0)) r s u
/-- an array as long as the number of chars: LATIN1 -/
theorem law (l : Launch) (d : Addr) (B : Cell) : Law l yN 2 2 0 0 yB 2 (some .byte) site (P d B) E [] 0 0 := by
  refine Law.of_walk (plainFor_of_name (by decide +kernel)) (by decide +kernel) (by decide +kernel) (by decide) (fun _ _ h => by rw [h.1]; rfl) (fun _ U U' hal hh h => ⟨h.1, h.2.mv hal hh⟩) (fun r U U' V V' h1 hal h2 h => XT.PureE.mv r U U' V V' h1 hal h2 h) ?_
  intro p e s m args below meth c s₁ X0 hexec hbytes hml hret hlk hnm hown hh0 W hP
  obtain ⟨rfl, hB⟩ := hP
  have hB0 := hB.mv X0.warmed.alike hh0
  have c1 : Steps p.tables e below (s₁.setTop (entryFrame m #[.ref d, .int (Int32.ofNat B.slots.size)] 2)) (s₁.setTop (mkF m 0 #[.val (.ref d), .val (.int (Int32.ofNat B.slots.size))] [])) := entry rfl
  have c2 : Steps p.tables e below (s₁.setTop (entryFrame m #[.ref d, .int (Int32.ofNat B.slots.size)] 2)) (s₁.setTop (mkF m 2 #[.val (.ref d), .val (.int (Int32.ofNat B.slots.size))] [.ref d, .int (Int32.ofNat B.slots.size)])) := c1.trans (by
    refine XS.iloadN X0.here hexec rfl (hb hbytes d0) rfl ?_
    refine XS.aloadN X0.here hexec rfl (hb hbytes d1) rfl rfl ?_
    exact Steps.refl _)
  have c3 : Steps p.tables e below (s₁.setTop (entryFrame m #[.ref d, .int (Int32.ofNat B.slots.size)] 2)) (s₁.setTop (mkF m 8 #[.val (.ref d), .val (.int (Int32.ofNat B.slots.size))] [.int (lo8 (ushr (Int32.ofNat B.slots.size - Int32.ofNat B.slots.size) 31))])) := c2.trans (by
    refine X0.alen hexec hB0 rfl rfl (hb hbytes d2) ?_
    refine XS.isub X0.here hexec rfl (hb hbytes d3) rfl ?_
    refine bipushV X0.here hexec rfl 31 (hb hbytes d4) (by decide) ?_
    refine iushr X0.here hexec rfl (hb hbytes d6) rfl ?_
    refine i2b X0.here hexec rfl (hb hbytes d7) rfl ?_
    exact Steps.refl _)
  have e0 : lo8 (ushr (Int32.ofNat B.slots.size - Int32.ofNat B.slots.size) 31) = 0 := by rw [Int32.sub_self]; decide
  rw [e0] at c3
  exact ⟨s₁, some (.int 0), _, _, _, X0, rfl, rfl, rfl, (fun h => by cases h), ⟨rfl, hh0⟩, fun fs hl => c3.trans (X0.ireturnOut hexec hret rfl (Or.inr (Or.inr (Or.inl rfl))) (hb hbytes d8) hl)⟩
end CodL
/-- the String at a is Latin-1 over a new byte[] (the heap's one new cell): the low bytes of the len chars of A from o on; every cell but a is kept -/
def Got (a : Addr) (D : Cell) (fV fC : Field) (A : Cell) (o len : Nat) (r : Option Value) (s u : State) : Prop := r = none ∧ ∃ D' V : Cell, Blank "java/lang/String" a D' u ∧ Same D D' [fV.slot, fC.slot] ∧ D'.slots[fV.slot]? = some (.ref s.heap.size) ∧ D'.slots[fC.slot]? = some (.int 0) ∧ Arr .byte s.heap.size V u ∧ V.vm = .none ∧ u.vm.findClass "[B" = some V.cls ∧ V.slots.size = len ∧ (∀ j, j < len → V.slots[j]? = some (.int (lo8 (cv A (o + j))))) ∧ (∀ (y : Addr) (c : Cell), y ≠ a → s.heap[y]? = some c → u.heap[y]? = some c) ∧ u.heap.size = s.heap.size + 1
theorem Got.mv {a : Addr} {D A : Cell} {fV fC : Field} {o len : Nat} : ∀ r (U U' V V' : State), U'.heap = U.heap → V.vm.Alike V'.vm → V'.heap = V.heap → Got a D fV fC A o len r U V → Got a D fV fC A o len r U' V' :=
  fun r U U' V V' h1 hal h2 ⟨e0, D', X, a1, a2, a3, a4, a5, a6, a7, a8, a9, a10, a11⟩ => ⟨e0, D', X, a1.mv hal h2, a2, by rw [h1]; exact a3, a4, by rw [h1]; exact a5.mv hal h2, a6, by rw [hal.findClass]; exact a7, a8, a9, by rw [h1, h2]; exact a10, by rw [h1, h2]; exact a11⟩
namespace New4
def yN : MethodName := ⟨"java/lang/String", "<init>", "([CIILjava/lang/Void;)V"⟩
abbrev yB : ByteArray := jdk_42_method_149_code
theorem d0 : decode yB 0 = .ok (.aload_n 0, 1) := by decide +kernel
theorem d1 : decode yB 1 = .ok (.invokespecial 1, 3) := by decide +kernel
theorem d4 : decode yB 4 = .ok (.iload_n 3, 1) := by decide +kernel
theorem d5 : decode yB 5 = .ok (.ifCond (.ne) 22, 3) := by decide +kernel
theorem d27 : decode yB 27 = .ok (.getstatic 38, 3) := by decide +kernel
theorem d30 : decode yB 30 = .ok (.ifCond (.eq) 28, 3) := by decide +kernel
theorem d33 : decode yB 33 = .ok (.aload_n 1, 1) := by decide +kernel
theorem d34 : decode yB 34 = .ok (.iload_n 2, 1) := by decide +kernel
theorem d35 : decode yB 35 = .ok (.iload_n 3, 1) := by decide +kernel
theorem d36 : decode yB 36 = .ok (.invokestatic 177, 3) := by decide +kernel
theorem d39 : decode yB 39 = .ok (.astore 5, 2) := by decide +kernel
theorem d41 : decode yB 41 = .ok (.aload_n 0, 1) := by decide +kernel
theorem d42 : decode yB 42 = .ok (.aload 5, 2) := by decide +kernel
theorem d44 : decode yB 44 = .ok (.iload_n 3, 1) := by decide +kernel
theorem d45 : decode yB 45 = .ok (.invokestatic 47, 3) := by decide +kernel
theorem d48 : decode yB 48 = .ok (.putfield 15, 3) := by decide +kernel
theorem d51 : decode yB 51 = .ok (.aload_n 0, 1) := by decide +kernel
theorem d52 : decode yB 52 = .ok (.aload 5, 2) := by decide +kernel
theorem d54 : decode yB 54 = .ok (.putfield 9, 3) := by decide +kernel
theorem d57 : decode yB 57 = .ok (.return_, 1) := by decide +kernel
def site : List Cond := [.fieldLink "java/lang/String" 38 "java/lang/String" "COMPACT_STRINGS" "Z", Cmp3.tab, CodL.tab, .laysFinal "java/lang/String" "java/lang/String" "value" "[B", .fieldLink "java/lang/String" 9 "java/lang/String" "value" "[B", .laysFinal "java/lang/String" "java/lang/String" "coder" "B", .fieldLink "java/lang/String" 15 "java/lang/String" "coder" "B"] ++ objW "java/lang/String" 1 ++ staticW "java/lang/String" 177 Cmp3.yN ++ staticW "java/lang/String" 47 CodL.yN
def tab : Cond := tabOf yN yB 6 none site
def P (a : Addr) (D : Cell) (fV fC : Field) (b : Addr) (A : Cell) (z : Int32) (o len : Nat) (args : Array Value) (s : State) : Prop := args = #[.ref a, .ref b, .int (Int32.ofNat o), .int (Int32.ofNat len), .null] ∧ Blank "java/lang/String" a D s ∧ Found "java/lang/String" "value" "[B" fV s ∧ Found "java/lang/String" "coder" "B" fC s ∧ Ch b A s ∧ StaticIs s "java/lang/String" "COMPACT_STRINGS" "Z" (.int z) ∧ ¬ z = 0 ∧ 0 < len ∧ o + len ≤ A.slots.size ∧ len ≤ 536870912 ∧ ∀ i, i < len → ¬ 255 < cv A (o + i)
def E (a : Addr) (D : Cell) (fV fC : Field) (A : Cell) (o len : Nat) (r : Option Value) (s u : State) : Prop := Got a D fV fC A o len r s u
/-- len > 0, no char of the range above 255: a Latin-1 String of their low bytes -/
theorem law (l : Launch) (a : Addr) (D : Cell) (fV fC : Field) (b : Addr) (A : Cell) (z : Int32) (o len : Nat) : Law l yN 5 4 2 35 yB 6 none site (P a D fV fC b A z o len) (E a D fV fC A o len) [⟨a, fC.slot⟩, ⟨a, fV.slot⟩] 1 len := by
  refine Law.of_walk (plainFor_of_name (by decide +kernel)) (by decide +kernel) (by decide +kernel) (by decide) (fun _ _ h => by rw [h.1]; rfl) (fun _ U U' hal hh h => ⟨h.1, h.2.1.mv hal hh, h.2.2.1.al hal, h.2.2.2.1.al hal, h.2.2.2.2.1.mv hal hh, h.2.2.2.2.2.1.there hal hh, h.2.2.2.2.2.2⟩) (fun r U U' V V' h1 hal h2 h => Got.mv r U U' V V' h1 hal h2 h) ?_
  intro p e s m args below meth c s₁ X0 hexec hbytes hml hret hlk hnm hown hh0 W hP
  obtain ⟨rfl, hB, f1, f2, hA, s1, hz, l0, l1, l2, hp⟩ := hP
  have a31 := hA.1.2.2.2
  have c1 : Steps p.tables e below (s₁.setTop (entryFrame m #[.ref a, .ref b, .int (Int32.ofNat o), .int (Int32.ofNat len), .null] 6)) (s₁.setTop (mkF m 0 #[.val (.ref a), .val (.ref b), .val (.int (Int32.ofNat o)), .val (.int (Int32.ofNat len)), .val .null, .unset] [])) := entry rfl
  have c2 : Steps p.tables e below (s₁.setTop (entryFrame m #[.ref a, .ref b, .int (Int32.ofNat o), .int (Int32.ofNat len), .null] 6)) (s₁.setTop (mkF m 1 #[.val (.ref a), .val (.ref b), .val (.int (Int32.ofNat o)), .val (.int (Int32.ofNat len)), .val .null, .unset] [.ref a])) := c1.trans (by
    refine XS.aloadN X0.here hexec rfl (hb hbytes d0) rfl rfl ?_
    exact Steps.refl _)
  obtain ⟨T3, X3, q3, st3⟩ := X0.oinit hexec hown (wks W (objW "java/lang/String" 1)) (g := (mkF m 1 #[.val (.ref a), .val (.ref b), .val (.int (Int32.ofNat o)), .val (.int (Int32.ofNat len)), .val .null, .unset] [.ref a])) rfl (by rw [hml]; rfl) (rest := []) rfl (hb hbytes d1) (W := 0) (by show 2 * 0 + 0 ≤ _; decide) (Nat.le_of_ble_eq_true rfl) (Nat.le_of_ble_eq_true rfl)
  have hh3 := q3.trans hh0
  have c4 : Steps p.tables e below (s₁.setTop (entryFrame m #[.ref a, .ref b, .int (Int32.ofNat o), .int (Int32.ofNat len), .null] 6)) (T3.setTop (mkF m 27 #[.val (.ref a), .val (.ref b), .val (.int (Int32.ofNat o)), .val (.int (Int32.ofNat len)), .val .null, .unset] [])) := (c2.trans (st3 _ (Steps.refl _))).trans (by
    refine XS.iloadN X3.here hexec rfl (hb hbytes d4) rfl ?_
    refine XS.ifYes X3.here hexec rfl (pc0 := 5) rfl (hb hbytes d5) rfl (i0_ne_t (nz32 (by omega) l0)) (by decide) rfl ?_
    exact Steps.refl _)
  obtain ⟨T5, X5, q5, st5⟩ := X3.sget hexec hown (wk W (.fieldLink "java/lang/String" 38 "java/lang/String" "COMPACT_STRINGS" "Z")) s1 (fun _ _ h => by rw [hh3]; exact h) (g := (mkF m 27 #[.val (.ref a), .val (.ref b), .val (.int (Int32.ofNat o)), .val (.int (Int32.ofNat len)), .val .null, .unset] [])) rfl (hb hbytes d27)
  have hh5 := q5.trans hh3
  have c6 : Steps p.tables e below (s₁.setTop (entryFrame m #[.ref a, .ref b, .int (Int32.ofNat o), .int (Int32.ofNat len), .null] 6)) (T5.setTop (mkF m 30 #[.val (.ref a), .val (.ref b), .val (.int (Int32.ofNat o)), .val (.int (Int32.ofNat len)), .val .null, .unset] [.int z])) := c4.trans (st5 _ (Steps.refl _))
  have c7 : Steps p.tables e below (s₁.setTop (entryFrame m #[.ref a, .ref b, .int (Int32.ofNat o), .int (Int32.ofNat len), .null] 6)) (T5.setTop (mkF m 36 #[.val (.ref a), .val (.ref b), .val (.int (Int32.ofNat o)), .val (.int (Int32.ofNat len)), .val .null, .unset] [.int (Int32.ofNat len), .int (Int32.ofNat o), .ref b])) := c6.trans (by
    refine XS.ifNo X5.here hexec rfl (hb hbytes d30) rfl (i0_eq_f hz) ?_
    refine XS.aloadN X5.here hexec rfl (hb hbytes d33) rfl rfl ?_
    refine XS.iloadN X5.here hexec rfl (hb hbytes d34) rfl ?_
    refine XS.iloadN X5.here hexec rfl (hb hbytes d35) rfl ?_
    exact Steps.refl _)
  obtain ⟨v8, T8, X8, E8, g8⟩ := X5.callS hexec (Cmp3.law l b A o len) hown (wks W (staticW "java/lang/String" 177 Cmp3.yN)) (wk W Cmp3.tab) (W := 0) (Nat.le_of_ble_eq_true rfl) (Nat.le_of_ble_eq_true rfl) (Nat.le_refl _) (by show 0 + len ≤ len; omega) (g := (mkF m 36 #[.val (.ref a), .val (.ref b), .val (.int (Int32.ofNat o)), .val (.int (Int32.ofNat len)), .val .null, .unset] [.int (Int32.ofNat len), .int (Int32.ofNat o), .ref b])) rfl (by rw [hml]; rfl) c7 (argsL := [.ref b, .int (Int32.ofNat o), .int (Int32.ofNat len)]) (rest := []) rfl rfl (by show 2 * 0 + 0 ≤ _; decide) (hb hbytes d36) (⟨rfl, hA.mv X5.warmed.alike hh5, l1, l2, hp⟩)
  obtain ⟨e8, z8⟩ := E8
  obtain ⟨rfl, N, n1, n2, n3, n4, n5, n6⟩ := NewArr.mv _ T5 s _ _ hh5.symm (Vm.Alike.refl _) rfl e8
  rw [hh5] at z8
  have hB1 := hB.keep X8.warmed.alike (n6 _ _ hB.1)
  have hne : s.heap.size ≠ a := (Nat.ne_of_lt (Array.getElem?_eq_some_iff.mp hB.1).1).symm
  have c9 : Steps p.tables e below (s₁.setTop (entryFrame m #[.ref a, .ref b, .int (Int32.ofNat o), .int (Int32.ofNat len), .null] 6)) (T8.setTop (mkF m 39 #[.val (.ref a), .val (.ref b), .val (.int (Int32.ofNat o)), .val (.int (Int32.ofNat len)), .val .null, .unset] [.ref s.heap.size])) := g8
  have c10 : Steps p.tables e below (s₁.setTop (entryFrame m #[.ref a, .ref b, .int (Int32.ofNat o), .int (Int32.ofNat len), .null] 6)) (T8.setTop (mkF m 45 #[.val (.ref a), .val (.ref b), .val (.int (Int32.ofNat o)), .val (.int (Int32.ofNat len)), .val .null, .val (.ref s.heap.size)] [.int (Int32.ofNat N.slots.size), .ref s.heap.size, .ref a])) := by
    have hc : Steps p.tables e below (s₁.setTop (entryFrame m #[.ref a, .ref b, .int (Int32.ofNat o), .int (Int32.ofNat len), .null] 6)) (T8.setTop (mkF m 45 #[.val (.ref a), .val (.ref b), .val (.int (Int32.ofNat o)), .val (.int (Int32.ofNat len)), .val .null, .val (.ref s.heap.size)] [.int (Int32.ofNat len), .ref s.heap.size, .ref a])) := c9.trans (by
      refine XS.astore X8.here hexec rfl (hb hbytes d39) rfl rfl rfl ?_
      refine XS.aloadN X8.here hexec rfl (hb hbytes d41) rfl rfl ?_
      refine XS.aload X8.here hexec rfl (hb hbytes d42) rfl rfl ?_
      refine XS.iloadN X8.here hexec rfl (hb hbytes d44) rfl ?_
      exact Steps.refl _)
    rw [n4]; exact hc
  obtain ⟨v11, T11, X11, E11, g11⟩ := X8.callS hexec (CodL.law l s.heap.size N) hown (wks W (staticW "java/lang/String" 47 CodL.yN)) (wk W CodL.tab) (W := 1) (Nat.le_of_ble_eq_true rfl) (Nat.le_of_ble_eq_true rfl) (Nat.le_refl _) (by show 0 + len + 0 ≤ len; omega) (g := (mkF m 45 #[.val (.ref a), .val (.ref b), .val (.int (Int32.ofNat o)), .val (.int (Int32.ofNat len)), .val .null, .val (.ref s.heap.size)] [.int (Int32.ofNat N.slots.size), .ref s.heap.size, .ref a])) rfl (by rw [hml]; rfl) c10 (argsL := [.ref s.heap.size, .int (Int32.ofNat N.slots.size)]) (rest := [.ref a]) rfl rfl (by show 2 * 0 + (1 + 0) ≤ _; decide) (hb hbytes d45) (⟨rfl, n1⟩)
  obtain ⟨rfl, q11⟩ := E11
  have hB11 := hB1.mv (X8.warmed.alike.symm.trans X11.warmed.alike) q11
  have c12 : Steps p.tables e below (s₁.setTop (entryFrame m #[.ref a, .ref b, .int (Int32.ofNat o), .int (Int32.ofNat len), .null] 6)) (T11.setTop (mkF m 48 #[.val (.ref a), .val (.ref b), .val (.int (Int32.ofNat o)), .val (.int (Int32.ofNat len)), .val .null, .val (.ref s.heap.size)] [.int 0, .ref a])) := g11
  obtain ⟨T13, X13, p13, bl13, sl13, st13⟩ := X11.finit hexec hown (wk W (.fieldLink "java/lang/String" 15 "java/lang/String" "coder" "B")) (Or.inr ⟨_, (wk W (.laysFinal "java/lang/String" "java/lang/String" "coder" "B"))⟩) (Or.inl ⟨rfl, hnm⟩) f2 (Or.inl rfl) hB11 (t := .byte) (by decide +kernel) rfl (g := (mkF m 48 #[.val (.ref a), .val (.ref b), .val (.int (Int32.ofNat o)), .val (.int (Int32.ofNat len)), .val .null, .val (.ref s.heap.size)] [.int 0, .ref a])) rfl (rest := []) rfl (hb hbytes d48)
  have c14 : Steps p.tables e below (s₁.setTop (entryFrame m #[.ref a, .ref b, .int (Int32.ofNat o), .int (Int32.ofNat len), .null] 6)) (T13.setTop (mkF m 54 #[.val (.ref a), .val (.ref b), .val (.int (Int32.ofNat o)), .val (.int (Int32.ofNat len)), .val .null, .val (.ref s.heap.size)] [.ref s.heap.size, .ref a])) := (c12.trans (st13 _ (Steps.refl _))).trans (by
    refine XS.aloadN X13.here hexec rfl (hb hbytes d51) rfl rfl ?_
    refine XS.aload X13.here hexec rfl (hb hbytes d52) rfl rfl ?_
    exact Steps.refl _)
  obtain ⟨T15, X15, p15, bl15, sl15, st15⟩ := X13.finit hexec hown (wk W (.fieldLink "java/lang/String" 9 "java/lang/String" "value" "[B")) (Or.inr ⟨_, (wk W (.laysFinal "java/lang/String" "java/lang/String" "value" "[B"))⟩) (Or.inl ⟨rfl, hnm⟩) f1 (Or.inl rfl) bl13 (t := (.array .byte)) (by decide +kernel) rfl (g := (mkF m 54 #[.val (.ref a), .val (.ref b), .val (.int (Int32.ofNat o)), .val (.int (Int32.ofNat len)), .val .null, .val (.ref s.heap.size)] [.ref s.heap.size, .ref a])) rfl (rest := []) rfl (hb hbytes d54)
  have c16 : Steps p.tables e below (s₁.setTop (entryFrame m #[.ref a, .ref b, .int (Int32.ofNat o), .int (Int32.ofNat len), .null] 6)) (T15.setTop (mkF m 57 #[.val (.ref a), .val (.ref b), .val (.int (Int32.ofNat o)), .val (.int (Int32.ofNat len)), .val .null, .val (.ref s.heap.size)] [])) := c14.trans (st15 _ (Steps.refl _))
  have ap := apart (Or.inr ⟨_, (wk W (.laysFinal "java/lang/String" "java/lang/String" "value" "[B"))⟩) (Or.inr ⟨_, (wk W (.laysFinal "java/lang/String" "java/lang/String" "coder" "B"))⟩) f1 f2 (t₁ := .array .byte) (t₂ := .byte) (by decide +kernel) (by decide +kernel) (by decide)
  have al := X8.warmed.alike.symm.trans X15.warmed.alike
  have n7 : T11.heap[s.heap.size]? = some N := by rw [q11]; exact n1.1
  exact ⟨T15, none, _, _, _, X15, by simp, rfl, by omega, (fun _ => rfl), ⟨rfl, _, N, bl15, ((Same.refl D _).set _ (by simp)).set _ (by simp), sl15, (Cell.slots_setSlot_ne _ ap).trans sl13, n1.keep al (p15.other hne (p13.other hne n7)), n2, by rw [al.findClass]; exact n3, n4, n5, fun y c h1 h2 => p15.other h1 (p13.other h1 (by rw [q11]; exact n6 y c h2)), by rw [p15.2.2, p13.2.2, q11]; exact z8⟩, fun fs hl => c16.trans (X15.returnOut hexec hret (hb hbytes d57) hl)⟩
end New4
namespace New1
def yN : MethodName := ⟨"java/lang/String", "<init>", "([C)V"⟩
abbrev yB : ByteArray := jdk_42_method_3_code
theorem d0 : decode yB 0 = .ok (.aload_n 0, 1) := by decide +kernel
theorem d1 : decode yB 1 = .ok (.aload_n 1, 1) := by decide +kernel
theorem d2 : decode yB 2 = .ok (.iconst 0, 1) := by decide +kernel
theorem d3 : decode yB 3 = .ok (.aload_n 1, 1) := by decide +kernel
theorem d4 : decode yB 4 = .ok (.arraylength, 1) := by decide +kernel
theorem d5 : decode yB 5 = .ok (.aconst_null, 1) := by decide +kernel
theorem d6 : decode yB 6 = .ok (.invokespecial 27, 3) := by decide +kernel
theorem d9 : decode yB 9 = .ok (.return_, 1) := by decide +kernel
def site : List Cond := [New4.tab] ++ initW "java/lang/String" 27 New4.yN
def tab : Cond := tabOf yN yB 2 none site
def P (a : Addr) (D : Cell) (fV fC : Field) (b : Addr) (A : Cell) (z : Int32) (args : Array Value) (s : State) : Prop := args = #[.ref a, .ref b] ∧ Blank "java/lang/String" a D s ∧ Found "java/lang/String" "value" "[B" fV s ∧ Found "java/lang/String" "coder" "B" fC s ∧ Ch b A s ∧ StaticIs s "java/lang/String" "COMPACT_STRINGS" "Z" (.int z) ∧ ¬ z = 0 ∧ 0 < A.slots.size ∧ A.slots.size ≤ 536870912 ∧ ∀ i, i < A.slots.size → ¬ 255 < cv A i
def E (a : Addr) (D : Cell) (fV fC : Field) (A : Cell) (r : Option Value) (s u : State) : Prop := Got a D fV fC A 0 A.slots.size r s u
/-- new String(chars), not empty, no char above 255: a Latin-1 String of their low bytes -/
theorem law (l : Launch) (a : Addr) (D : Cell) (fV fC : Field) (b : Addr) (A : Cell) (z : Int32) : Law l yN 2 1 3 52 yB 2 none site (P a D fV fC b A z) (E a D fV fC A) [⟨a, fC.slot⟩, ⟨a, fV.slot⟩] 1 A.slots.size := by
  refine Law.of_walk (plainFor_of_name (by decide +kernel)) (by decide +kernel) (by decide +kernel) (by decide) (fun _ _ h => by rw [h.1]; rfl) (fun _ U U' hal hh h => ⟨h.1, h.2.1.mv hal hh, h.2.2.1.al hal, h.2.2.2.1.al hal, h.2.2.2.2.1.mv hal hh, h.2.2.2.2.2.1.there hal hh, h.2.2.2.2.2.2⟩) (fun r U U' V V' h1 hal h2 h => Got.mv r U U' V V' h1 hal h2 h) ?_
  intro p e s m args below meth c s₁ X0 hexec hbytes hml hret hlk hnm hown hh0 W hP
  obtain ⟨rfl, hB, f1, f2, hA, s1, hz, l0, l2, hp⟩ := hP
  have c1 : Steps p.tables e below (s₁.setTop (entryFrame m #[.ref a, .ref b] 2)) (s₁.setTop (mkF m 0 #[.val (.ref a), .val (.ref b)] [])) := entry rfl
  have c2 : Steps p.tables e below (s₁.setTop (entryFrame m #[.ref a, .ref b] 2)) (s₁.setTop (mkF m 6 #[.val (.ref a), .val (.ref b)] [.null, .int (Int32.ofNat A.slots.size), .int 0, .ref b, .ref a])) := c1.trans (by
    refine XS.aloadN X0.here hexec rfl (hb hbytes d0) rfl rfl ?_
    refine XS.aloadN X0.here hexec rfl (hb hbytes d1) rfl rfl ?_
    refine iconstV X0.here hexec rfl 0 (hb hbytes d2) (by decide) ?_
    refine XS.aloadN X0.here hexec rfl (hb hbytes d3) rfl rfl ?_
    refine X0.alen hexec (hA.1.mv X0.warmed.alike hh0) rfl rfl (hb hbytes d4) ?_
    refine XS.aconstNull X0.here hexec rfl (hb hbytes d5) ?_
    exact Steps.refl _)
  obtain ⟨v3, T3, X3, E3, g3⟩ := X0.callN hexec (New4.law l a D fV fC b A z 0 A.slots.size) rfl hown (wks W (initW "java/lang/String" 27 New4.yN)) (W New4.tab (by simp only [site, List.mem_cons, List.mem_append, true_or, or_true])) (W := 0) (Nat.le_of_ble_eq_true rfl) (Nat.le_of_ble_eq_true rfl) (Nat.le_refl _) (by show 0 + A.slots.size ≤ A.slots.size; omega) (g := (mkF m 6 #[.val (.ref a), .val (.ref b)] [.null, .int (Int32.ofNat A.slots.size), .int (Int32.ofNat 0), .ref b, .ref a])) rfl (by rw [hml]; rfl) c2 (argsL := [.ref b, .int (Int32.ofNat 0), .int (Int32.ofNat A.slots.size), .null]) (rest := []) rfl rfl (by show 2 * 0 + 0 ≤ _; decide) (hb hbytes d6) (⟨rfl, hB.mv X0.warmed.alike hh0, f1.al X0.warmed.alike, f2.al X0.warmed.alike, hA.mv X0.warmed.alike hh0, s1.there X0.warmed.alike hh0, hz, l0, by omega, l2, fun i hi => by rw [Nat.zero_add]; exact hp i hi⟩)
  have e0 := Got.mv _ s₁ s _ _ hh0.symm (Vm.Alike.refl _) rfl E3
  obtain rfl := e0.1
  have c4 : Steps p.tables e below (s₁.setTop (entryFrame m #[.ref a, .ref b] 2)) (T3.setTop (mkF m 9 #[.val (.ref a), .val (.ref b)] [])) := g3
  exact ⟨T3, none, _, _, _, X3, by simp, rfl, by omega, (fun _ => rfl), e0, fun fs hl => c4.trans (X3.returnOut hexec hret (hb hbytes d9) hl)⟩
theorem pays {l : Launch} {R : Room} {p : Program} {e : Env} {below : List Frame} {s : State} {sargs : Array Value} {len W : Nat} (a : Addr) (D : Cell) (fV fC : Field) (b : Addr) (A : Cell) (z : Int32) (htab : tab.before sargs s = true) (hfr : 4 ≤ R.frames) (hlo : W + 65 ≤ R.locals) :
    Back l R p e below s sargs yN len W (fun A₁ a₁ => A₁.cells + 1 ≤ R.cells ∧ A₁.slots + A.slots.size ≤ R.slots ∧ P a D fV fC b A z a₁ A₁.U) (fun A₁ _ v₁ B₁ => E a D fV fC A v₁ A₁.U B₁.U ∧ B₁.locs = A₁.locs ++ [⟨a, fC.slot⟩, ⟨a, fV.slot⟩] ∧ B₁.cells = A₁.cells + 1 ∧ B₁.slots = A₁.slots + A.slots.size) :=
  (law l a D fV fC b A z).pays htab hfr (by omega)
end New1
end StrChars
namespace StrChars.Road
open Jvm Sem ClassFile Op Lib Jvm.Stand Jvm.Free Jvm.Free.XT
open Jvm.Lib.Cold (StaticIs)
abbrev ST : String := "java/lang/String"
/-- every table word that New1's law asks, flat -/
abbrev words : List Jvm.Cond := [.code New1.yN New1.yB 2 none, .initialized ST, .methodLink ST 27 New4.yN, .instanceMethod New4.yN,
  .code New4.yN New4.yB 6 none, .fieldLink ST 38 ST "COMPACT_STRINGS" "Z", .laysFinal ST ST "value" "[B", .fieldLink ST 9 ST "value" "[B", .laysFinal ST ST "coder" "B", .fieldLink ST 15 ST "coder" "B",
  .methodLink ST 1 Lib.objectInit, .instanceMethod Lib.objectInit, .code Lib.objectInit ⟨#[0xb1]⟩ 1 none, .methodLink ST 177 Cmp3.yN, .static Cmp3.yN, .methodLink ST 47 CodL.yN, .static CodL.yN,
  .code Cmp3.yN Cmp3.yB 6 (some (.array .byte)), .initialized U16, .arrayClass .byte, .methodLink U16 115 Cmp5.yN, .static Cmp5.yN, .code Cmp5.yN Cmp5.yB 7 (some .int), .code CodL.yN CodL.yB 2 (some .byte)]
theorem tab_of {a : Array Value} {s : State} (h : ∀ w ∈ words, w.before a s = true) : New1.tab.before a s = true := by
  have h5 : Cmp5.tab.before a s = true := unparts (wk h (.code Cmp5.yN Cmp5.yB 7 (some .int))) (wks h (.initialized Cmp5.yN.cls :: Cmp5.site))
  have hc : CodL.tab.before a s = true := unparts (wk h (.code CodL.yN CodL.yB 2 (some .byte))) (wks h (.initialized CodL.yN.cls :: CodL.site))
  have q5 : ∀ w ∈ Cmp5.tab :: words, w.before a s = true := fun w hw => (List.mem_cons.mp hw).elim (fun e => e ▸ h5) (h w)
  have h3 : Cmp3.tab.before a s = true := unparts (wk q5 (.code Cmp3.yN Cmp3.yB 6 (some (.array .byte)))) (wks q5 (.initialized Cmp3.yN.cls :: Cmp3.site))
  have q3 : ∀ w ∈ Cmp3.tab :: CodL.tab :: words, w.before a s = true := fun w hw => (List.mem_cons.mp hw).elim (fun e => e ▸ h3) fun hw => (List.mem_cons.mp hw).elim (fun e => e ▸ hc) (h w)
  have h4 : New4.tab.before a s = true := unparts (wk q3 (.code New4.yN New4.yB 6 none)) (wks q3 (.initialized New4.yN.cls :: New4.site))
  have q4 : ∀ w ∈ New4.tab :: words, w.before a s = true := fun w hw => (List.mem_cons.mp hw).elim (fun e => e ▸ h4) (h w)
  exact unparts (wk q4 (.code New1.yN New1.yB 2 none)) (wks q4 (.initialized New1.yN.cls :: New1.site))
/-- the words ride from the start Z to the walk's own state -/
theorem moved {Z s : State} {a0 args : Array Value} (hZ : Z.Warmed39 s.vm) (hw : ∀ d ∈ words, d.before a0 Z = true) : ∀ d ∈ words, d.before args s = true := fun d hd => by
  have q := hw d hd
  have t : ∀ d ∈ words, d = .arrayClass .byte ∨ (d.onTables && d.keepsFace) = true := by decide +kernel
  rcases t d hd with rfl | t
  · exact RoadKit.mvA hZ q
  · exact RoadKit.mv hZ q t
/-- WHAT COMES BACK, over the tables of the start Z: h the heap at the call, h' behind it -/
def Q (Z : State) (x : Addr) (A : Cell) (h : Heap) (v : Option Value) (h' : Heap) (L : List Loc) : Prop := v = none ∧ (∀ y ∈ L, y.base = x) ∧ RoadKit.Keep h h' [x] ∧ h'.size = h.size + 1 ∧ RoadKit.Exa Z h' x ST ∧ RoadKit.Fld Z h' x ST "value" "[B" (.ref h.size) ∧ RoadKit.Fld Z h' x ST "coder" "B" (.int 0) ∧
  (∃ V : Cell, RoadKit.Arr Z h' h.size V .byte ∧ V.vm = .none ∧ Z.vm.findClass "[B" = some V.cls ∧ V.slots.size = A.slots.size ∧ ∀ j, j < A.slots.size → V.slots[j]? = some (.int (lo8 (cv A j)))) ∧
  ∀ (O n d : String) (w : Value), RoadKit.Fld Z h x O n d w → RoadKit.slotOf Z O n d ≠ RoadKit.slotOf Z ST "value" "[B" → RoadKit.slotOf Z O n d ≠ RoadKit.slotOf Z ST "coder" "B" → RoadKit.Fld Z h' x O n d w
/-- **new String(chars) AT A CALL, IN THE ROAD'S FORM**: for specialBack behind newO: x the fresh String, b the char[] with the cell A -/
theorem back {p : Program} {l : Launch} {e : Env} {R : Room} {s : State} {args : Array Value} {below : List Frame} {len W : Nat} {Z : State} {a0 : Array Value} {h : Heap} (hZ : Z.Warmed39 s.vm) (hw : ∀ d ∈ words, d.before a0 Z = true) {kI : Nat} (wi : (Jvm.Cond.instantiable ST kI).before a0 Z = true)
    {x b : Addr} {A : Cell} {z : Int32} {v0 c0 : Value} (E : RoadKit.Exa Z h x ST) (V : RoadKit.Fld Z h x ST "value" "[B" v0) (C : RoadKit.Fld Z h x ST "coder" "B" c0) (K : RoadKit.Arr Z h b A .char) (hty : Typed .char A) (S : RoadKit.Sta Z h ST "COMPACT_STRINGS" "Z" (.int z)) (hz : ¬ z = 0)
    (l0 : 0 < A.slots.size) (l2 : A.slots.size ≤ 536870912) (hp : ∀ i, i < A.slots.size → ¬ 255 < cv A i) (hfr : 4 ≤ R.frames) (hlo : W + 65 ≤ R.locals) :
    Back l R p e below s args New1.yN len W (fun P a => a = #[.ref x, .ref b] ∧ P.U.heap = h ∧ P.cells + 1 ≤ R.cells ∧ P.slots + A.slots.size ≤ R.slots)
      (fun P _ v B => ∃ L, Q Z x A h v B.U.heap L ∧ B.locs = P.locs ++ L ∧ B.cells = P.cells + 1 ∧ B.slots = P.slots + A.slots.size) := by
  intro m meth c P g ig mk a X hg hsize hdg hW hn hp'
  obtain ⟨rfl, rfl, r1, r2⟩ := hp'
  have al : Z.vm.Alike P.U.vm := hZ.alike.trans X.warmed.alike
  obtain ⟨D, cfV, kV, iV, fV, hD, gV, stV, knV, obV, asV, slV⟩ := id V
  obtain ⟨D', cfC, kC, iC, fC, hD', gC, stC, -, -, asC, slC⟩ := id C
  cases hD.symm.trans hD'
  obtain ⟨D2, kD, e1, e2, e3, e4, e5⟩ := id E
  cases hD.symm.trans e1
  obtain ⟨c2, k2, i1, i2, i3, -⟩ := Cond.instantiable_spec wi
  cases e2.symm.trans i1
  cases e3.symm.trans i2
  obtain ⟨kU, u1, u2⟩ := al.2.2 _ _ e3
  have hB : Blank ST x D P.U := ⟨hD, ⟨knV, fun q hq => by rw [hq] at obV; cases obV⟩, by rw [al.findClass]; exact e2, kU, u1, by rw [u2]; exact i3, by rw [u2]; exact e5 i3⟩
  have F1 : Found ST "value" "[B" fV P.U := ⟨SBG.found_only al ⟨cfV, kV, iV, gV⟩, stV⟩
  have F2 : Found ST "coder" "B" fC P.U := ⟨SBG.found_only al ⟨cfC, kC, iC, gC⟩, stC⟩
  have hA : Ch b A P.U := ⟨⟨K.1, State.isArrayOf_alike al K.2.1, K.2.2, by omega⟩, hty⟩
  have hS : StaticIs P.U ST "COMPACT_STRINGS" "Z" (.int z) := by
    obtain ⟨cfS, iS, kS, fS, st, cS, t1, t2, t3, t4, t5, t6, t7⟩ := S
    exact StaticIs.there (s := { Z with heap := P.U.heap }) ⟨cfS, iS, kS, fS, st, cS, t1, t2, t3, t4, t5, (fun q => by rw [q] at t6; cases t6), t7⟩ al rfl
  obtain ⟨v, B, X', ⟨⟨hv, E', V', q1, q2, q3, q4, q5, q6, q7, q8, q9, q10, q11⟩, hl, hc, hs⟩, st⟩ := New1.pays x D fV fC b A z (tab_of (moved hZ hw)) hfr hlo m meth c P g ig mk _ X hg hsize hdg hW hn ⟨r1, r2, rfl, hB, F1, F2, hA, hS, hz, l0, l2, hp⟩
  have al' : Z.vm.Alike B.U.vm := hZ.alike.trans X'.warmed.alike
  have hsz : E'.slots.size = D.slots.size := by
    obtain ⟨-, -, -, kB, w1, w2, w3⟩ := q1
    obtain ⟨kB', y1, y2⟩ := al'.2.2 _ _ e3
    rw [q2.2.1] at w1
    cases w1.symm.trans y1
    rw [w3, e5 i3, y2]
  refine ⟨v, B, X', ⟨_, ⟨hv, ?_, ⟨by omega, fun y cy hy hn' => q10 y cy (by simpa using hn') hy, fun y cy hy => ?_⟩, q11, ⟨E', _, q1.1, by rw [q2.2.1]; exact e2, by rw [q2.2.1]; exact e3, by rw [q2.1]; exact obV, fun _ => by rw [hsz]; exact e5 i3⟩,
    ⟨E', cfV, kV, iV, fV, q1.1, gV, stV, by rw [q2.1]; exact knV, by rw [q2.1]; exact obV, by rw [q2.2.1]; exact asV, q3⟩, ⟨E', cfC, kC, iC, fC, q1.1, gC, stC, by rw [q2.1]; exact knV, by rw [q2.1]; exact obV, by rw [q2.2.1]; exact asC, q4⟩,
    ⟨V', ⟨q5.1, State.isArrayOf_alike al'.symm q5.2.1, q5.2.2.1⟩, q6, by rw [← al'.findClass]; exact q7, q8, fun j hj => by have := q9 j hj; rwa [Nat.zero_add] at this⟩, fun O n d w F n1 n2 => ?_⟩, hl, hc, hs⟩, st⟩
  · intro y hy
    simp only [List.mem_cons, List.not_mem_nil, or_false] at hy
    rcases hy with rfl | rfl <;> rfl
  · by_cases q : y = x
    · subst q
      cases hD.symm.trans hy
      exact ⟨E', q1.1, q2.2.1, q2.1, hsz⟩
    · exact ⟨cy, q10 y cy q hy, rfl, rfl, rfl⟩
  · obtain ⟨D3, cf, k, i, f, g1, g2, g3, g4, g5, g6, g7⟩ := F
    cases hD.symm.trans g1
    simp only [RoadKit.slotOf, g2, gV, gC, Option.map_some, Option.getD_some] at n1 n2
    exact ⟨E', cf, k, i, f, q1.1, g2, g3, by rw [q2.1]; exact g4, by rw [q2.1]; exact g5, by rw [q2.2.1]; exact g6, by rw [q2.2.2 f.slot (by simp [n1, n2])]; exact g7⟩
end StrChars.Road
namespace StrChars.Road
open Jvm Sem ClassFile Op Lib Jvm.Stand Jvm.Free Jvm.Free.XT
/-- WHAT COMES BACK, the byte[] as a list of values -/
def QA (Z : State) (x : Addr) (zn : Int32) (cs : List Int32) (h : Heap) (v : Option Value) (h' : Heap) (L : List Loc) : Prop := v = none ∧ (∀ y ∈ L, y.base = x) ∧ RoadKit.Keep h h' [x] ∧ h'.size = h.size + 1 ∧ RoadKit.Exa Z h' x ST ∧ RoadKit.Fld Z h' x ST "value" "[B" (.ref h.size) ∧ RoadKit.Fld Z h' x ST "coder" "B" (.int 0) ∧
  (∃ kb, Z.vm.findClass "[B" = some kb ∧ RoadKit.Arv Z h' h.size kb .byte zn (cs.map fun c => .int (lo8 c)) (.int 0)) ∧
  ∀ (O n d : String) (w : Value), RoadKit.Fld Z h x O n d w → RoadKit.slotOf Z O n d ≠ RoadKit.slotOf Z ST "value" "[B" → RoadKit.slotOf Z O n d ≠ RoadKit.slotOf Z ST "coder" "B" → RoadKit.Fld Z h' x O n d w
/-- **new String(chars) AT A CALL, THE ARRAYS AS LISTS**: the char[] at b holds cs, not empty, no char above 255 -/
theorem backArv {p : Program} {l : Launch} {e : Env} {R : Room} {s : State} {args : Array Value} {below : List Frame} {len W : Nat} {Z : State} {a0 : Array Value} {h : Heap} (hZ : Z.Warmed39 s.vm) (hw : ∀ d ∈ words, d.before a0 Z = true) {kI : Nat} (wi : (Jvm.Cond.instantiable ST kI).before a0 Z = true)
    {x b : Addr} {k : ClassId} {zn z : Int32} {cs : List Int32} {dv v0 c0 : Value} (E : RoadKit.Exa Z h x ST) (V : RoadKit.Fld Z h x ST "value" "[B" v0) (C : RoadKit.Fld Z h x ST "coder" "B" c0) (K : RoadKit.Arv Z h b k .char zn (cs.map Value.int) dv) (S : RoadKit.Sta Z h ST "COMPACT_STRINGS" "Z" (.int z)) (hz : ¬ z = 0)
    (hlen : zn.toNatClampNeg = cs.length) (h0 : 0 < cs.length) (hbig : cs.length ≤ 536870912) (hall : ∀ c ∈ cs, ¬ 255 < c) (hfr : 4 ≤ R.frames) (hlo : W + 65 ≤ R.locals) :
    Back l R p e below s args New1.yN len W (fun P a => a = #[.ref x, .ref b] ∧ P.U.heap = h ∧ P.cells + 1 ≤ R.cells ∧ P.slots + cs.length ≤ R.slots)
      (fun P _ v B => ∃ L, QA Z x zn cs h v B.U.heap L ∧ B.locs = P.locs ++ L ∧ B.cells = P.cells + 1 ∧ B.slots = P.slots + cs.length) := by
  obtain ⟨A, K1, K2, K3, K4, K5, K6⟩ := K
  have e : A.slots.size = cs.length := K3.trans hlen
  have hat : ∀ (i : Nat) (hi : i < cs.length), A.slots[i]? = some (.int cs[i]) := fun i hi => by rw [K5 i (by omega)]; simp [List.getD_eq_getElem?_getD, hi]
  have hcv : ∀ (i : Nat) (hi : i < cs.length), cv A i = cs[i] := fun i hi => by unfold cv; rw [hat i hi]
  have hty : Typed .char A := fun i v hv => by
    have hi : i < A.slots.size := (Array.getElem?_eq_some_iff.mp hv).1
    have q := K5 i hi
    rw [hv] at q
    rw [Option.some.inj q]
    exact K6 i hi
  refine Back.mono (back hZ hw wi E V C K1 hty S hz (by omega) (by omega) (fun i hi => by rw [hcv i (by omega)]; exact hall _ (List.getElem_mem _)) hfr hlo) (fun P a hp => ⟨hp.1, hp.2.1, hp.2.2.1, by rw [e]; exact hp.2.2.2⟩) (fun P a v B hp hq => ?_)
  obtain ⟨L, ⟨q1, q2, q3, q4, q5, q6, q7, ⟨V', v1, v2, v3, v4, v5⟩, q9⟩, hl, hc, hs⟩ := hq
  refine ⟨L, ⟨q1, q2, q3, q4, q5, q6, q7, ⟨V'.cls, v3, V', v1, rfl, by rw [v4, e, hlen], K4, fun i hi => ?_, fun i hi => ?_⟩, q9⟩, hl, hc, by rw [hs, e]⟩
  · have hi' : i < cs.length := by omega
    rw [v5 i (by omega), hcv i hi']; simp [List.getD_eq_getElem?_getD, hi']
  · have hi' : i < cs.length := by omega
    simp only [List.getD_eq_getElem?_getD, List.getElem?_map, List.getElem?_eq_getElem hi', Option.map_some, Option.getD_some]
    exact fits_lo8 _
end StrChars.Road
namespace StrChars.Road
open Jvm Sem ClassFile Op Lib Jvm.Stand Jvm.Free Jvm.Free.XT
/-- WHAT COMES BACK, in the writer's own shape -/
def QV (Z : State) (x : Addr) (N : Int32) (bs : List Int32) (h : Heap) (n0 : Nat) (v : Option Value) (h' : Heap) (L : List Loc) : Prop := v = none ∧ RoadKit.Fr n0 L ∧ RoadKit.Keep h h' [x] ∧ RoadKit.Exa Z h' x ST ∧ RoadKit.Fld Z h' x ST "coder" "B" (.int 0) ∧
  ∃ (t : Addr) (kb : ClassId), n0 ≤ t ∧ h.size ≤ t ∧ ¬ t = x ∧ RoadKit.Fld Z h' x ST "value" "[B" (.ref t) ∧ RoadKit.Arv Z h' t kb .byte N (bs.map Value.int) (.int 0)
/-- **new String(chars) AT A CALL, FOR THE WRITER**: a char[] of n known ints, each 0 to 255 -/
theorem backV {p : Program} {l : Launch} {e : Env} {R : Room} {s : State} {args : Array Value} {below : List Frame} {len W : Nat} {Z : State} {a0 : Array Value} {h : Heap} (hZ : Z.Warmed39 s.vm) (hw : ∀ d ∈ words, d.before a0 Z = true) {kI : Nat} (wi : (Jvm.Cond.instantiable ST kI).before a0 Z = true)
    {x b : Addr} {kC : ClassId} {cs bs : List Int32} {d v0 c0 : Value} {z N : Int32} {n n0 : Nat} (hx0 : n0 ≤ x) (hh0 : n0 ≤ h.size) (E : RoadKit.Exa Z h x ST) (V : RoadKit.Fld Z h x ST "value" "[B" v0) (C : RoadKit.Fld Z h x ST "coder" "B" c0) (K : RoadKit.Arv Z h b kC .char N (cs.map Value.int) d) (S : RoadKit.Sta Z h ST "COMPACT_STRINGS" "Z" (.int z)) (hz : ¬ z = 0)
    (hn : cs.length = n) (hN : N = Int32.ofNat n) (l0 : 0 < n) (l2 : n ≤ 4000) (hp : ∀ c ∈ cs, ¬ c < 0 ∧ ¬ (255 : Int32) < c) (hb : bs = cs.map (fun c => c.toInt8.toInt32)) (hfr : 4 ≤ R.frames) (hlo : W + 65 ≤ R.locals) :
    Back l R p e below s args (⟨"java/lang/String", "<init>", "([C)V"⟩ : MethodName) len W (fun P a => a = #[.ref x, .ref b] ∧ P.U.heap = h ∧ P.cells + 1 ≤ R.cells ∧ P.slots + n ≤ R.slots)
      (fun P _ v B => ∃ L, QV Z x N bs h n0 v B.U.heap L ∧ B.locs = P.locs ++ L ∧ B.cells = P.cells + 1 ∧ B.slots = P.slots + n) := by
  subst hn hN hb
  refine Back.mono (backArv hZ hw wi E V C K S hz (n32 (by omega)) l0 (by omega) (fun c hc => (hp c hc).2) hfr hlo) (fun P a hp => hp) (fun P a v B hp hq => ?_)
  obtain ⟨L, ⟨q1, q2, q3, q4, q5, q6, q7, ⟨kb, v1, v2⟩, q9⟩, hl, hc, hs⟩ := hq
  exact ⟨L, ⟨q1, fun y hy => by rw [q2 y hy]; exact hx0, q3, q5, q7, h.size, kb, hh0, Nat.le_refl _, Nat.ne_of_gt E.lt, q6, by rw [List.map_map]; exact v2⟩, hl, hc, hs⟩
end StrChars.Road
end Jvm.Pilot.@@N@@

namespace Jvm.Pilot.@@N@@
open Jvm Jvm.ClassFile Sem Op Lib Jvm.Free Jvm.Stand Jvm.LawKit Jvm.RoadKit Bundle Jvm.Pilot.@@N@@.Jvm.D
theorem W_ {Z : State} {a0 : Array Value} {d : Jvm.Cond} (hw : ∀ d ∈ tables_1, d.before a0 Z = true) (i : Nat) (h : tables_1[i]? = some d) : d.before a0 Z = true := hw d (List.mem_of_getElem? h)
abbrev own_tb (a0 : Array Value) (Z : State) : Prop := ∀ d ∈ tables_1, d.before a0 Z = true
abbrev OwnMet (l : Launch) (y : MethodName) (bytes : ByteArray) (ml : Nat) (rt : Option FieldType) (ws : List Jvm.Cond) (rm : Room) (as' : Array Value) (Z : State) (h0 : Heap) (Q : Option Value → Heap → List Loc → Prop) : Prop := MetFree l y (head1 (Jvm.Cond.code y bytes ml rt :: ws) rm) (fun as_ UU => as_ = as' ∧ Z.Warmed39 UU.vm ∧ UU.heap = h0) (fun _ _ _ _ _ => True) (fun _ UU oo UU' => ∃ vv LL, oo = .returned vv ∧ Q vv UU'.heap LL ∧ FrameEnd UU oo UU' LL rm.cells rm.slots)
def own_EL : List (String × Nat) := [("com/example/mapweft/mapweft/Options", 24), ("com/example/mapweft/mapweft/Options", 32), ("com/example/mapweft/mapweft/OptionsIsVerbosePinLaw", 26), ("com/example/mapweft/mapweft/OptionsIsVerbosePinLaw", 32), ("java/lang/String", 7)]
theorem own_sAt : ∀ a ∈ Bundle.stringAtoms, a ∈ tables_1 := by decide +kernel
theorem own_wS {Z : State} {a0 : Array Value} (hw : ∀ d ∈ tables_1, d.before a0 Z = true) : ∀ a ∈ Bundle.stringAtoms, a.before a0 Z = true := fun a ha => hw a (own_sAt a ha)
theorem own_hEL {Z : State} {a0 : Array Value} (hw : ∀ d ∈ tables_1, d.before a0 Z = true) : EW Z a0 own_EL := (EW.cons (W_ hw 55 rfl) (by decide) (EW.cons (W_ hw 65 rfl) (by decide) (EW.cons (W_ hw 6 rfl) (by decide) (EW.cons (W_ hw 76 rfl) (by decide) (EW.cons (W_ hw 50 rfl) (by decide) EW.nil)))))
theorem own_sh0 (z : Int32) : (z >>> ((0 : Int32) &&& 31)) = z := by
  apply Int32.toBitVec_inj.mp
  show BitVec.sshiftRight _ _ = _
  simp
theorem own_ws {Z : State} {a0 : Array Value} (hw : ∀ d ∈ tables_1, d.before a0 Z = true) : ∀ d ∈ StrChars.Road.words, d.before a0 Z = true := fun d hd => hw d ((by decide +kernel : ∀ d ∈ StrChars.Road.words, d ∈ tables_1) d hd)
theorem own_rg9 {i : Int32} (h0 : ¬ i < (0 : Int32)) (h : i < (9 : Int32)) : i = (0 : Int32) ∨ i = (1 : Int32) ∨ i = (2 : Int32) ∨ i = (3 : Int32) ∨ i = (4 : Int32) ∨ i = (5 : Int32) ∨ i = (6 : Int32) ∨ i = (7 : Int32) ∨ i = (8 : Int32) := by
  rw [Int32.lt_iff_toInt_lt] at h0 h
  simp only [← Int32.toInt_inj]
  have e0 : (0 : Int32).toInt = 0 := by decide
  have e1 : (1 : Int32).toInt = 1 := by decide
  have e2 : (2 : Int32).toInt = 2 := by decide
  have e3 : (3 : Int32).toInt = 3 := by decide
  have e4 : (4 : Int32).toInt = 4 := by decide
  have e5 : (5 : Int32).toInt = 5 := by decide
  have e6 : (6 : Int32).toInt = 6 := by decide
  have e7 : (7 : Int32).toInt = 7 := by decide
  have e8 : (8 : Int32).toInt = 8 := by decide
  rw [e0, e1, e2, e3, e4, e5, e6, e7, e8]
  have e9 : (9 : Int32).toInt = 9 := by decide
  omega
theorem own_rg2 {i : Int32} (h0 : ¬ i < (0 : Int32)) (h : i < (2 : Int32)) : i = (0 : Int32) ∨ i = (1 : Int32) := by
  rw [Int32.lt_iff_toInt_lt] at h0 h
  simp only [← Int32.toInt_inj]
  have e0 : (0 : Int32).toInt = 0 := by decide
  have e1 : (1 : Int32).toInt = 1 := by decide
  rw [e0, e1]
  have e2 : (2 : Int32).toInt = 2 := by decide
  omega
theorem own_vb {i : Int32} (h0 : ¬ i < (0 : Int32)) (h : i < (9 : Int32)) : ∃ b ch : Int32, ([(.int (45 : Int32)), (.int (45 : Int32)), (.int (118 : Int32)), (.int (101 : Int32)), (.int (114 : Int32)), (.int (98 : Int32)), (.int (111 : Int32)), (.int (115 : Int32)), (.int (101 : Int32))] : List Value).getD i.toNatClampNeg (.int (0 : Int32)) = .int b ∧ (b &&& (255 : Int32)).toUInt32.toUInt16.toUInt32.toInt32 = ch ∧ nar .char ch = ch ∧ (¬ ch < 0 ∧ ¬ (255 : Int32) < ch) := by
  rcases own_rg9 h0 h with rfl | rfl | rfl | rfl | rfl | rfl | rfl | rfl | rfl
  · exact ⟨45, 45, rfl, by decide, by decide, by decide, by decide⟩
  · exact ⟨45, 45, rfl, by decide, by decide, by decide, by decide⟩
  · exact ⟨118, 118, rfl, by decide, by decide, by decide, by decide⟩
  · exact ⟨101, 101, rfl, by decide, by decide, by decide, by decide⟩
  · exact ⟨114, 114, rfl, by decide, by decide, by decide, by decide⟩
  · exact ⟨98, 98, rfl, by decide, by decide, by decide, by decide⟩
  · exact ⟨111, 111, rfl, by decide, by decide, by decide, by decide⟩
  · exact ⟨115, 115, rfl, by decide, by decide, by decide, by decide⟩
  · exact ⟨101, 101, rfl, by decide, by decide, by decide, by decide⟩
theorem own_vv {i : Int32} (h0 : ¬ i < (0 : Int32)) (h : i < (2 : Int32)) : ∃ b ch : Int32, ([(.int (45 : Int32)), (.int (118 : Int32))] : List Value).getD i.toNatClampNeg (.int (0 : Int32)) = .int b ∧ (b &&& (255 : Int32)).toUInt32.toUInt16.toUInt32.toInt32 = ch ∧ nar .char ch = ch ∧ (¬ ch < 0 ∧ ¬ (255 : Int32) < ch) := by
  rcases own_rg2 h0 h with rfl | rfl
  · exact ⟨45, 45, rfl, by decide, by decide, by decide, by decide⟩
  · exact ⟨118, 118, rfl, by decide, by decide, by decide, by decide⟩
theorem own_tb2 {Z : State} {h : Heap} {x o t b : Addr} {K f d : String} (q : x = o) (F : Fld Z h x K f d (.ref t)) (G : Fld Z h o K f d (.ref b)) : t = b := Classical.byContradiction fun n => (F.ne G (fun e => n (Value.ref.inj e))) q
theorem own_arvz {Z : State} {h : Heap} {a b : Addr} {k k' : ClassId} {ty ty' : FieldType} {z z' : Int32} {vs us : List Value} {d d' : Value} (q : a = b) (A : Arv Z h a k ty z vs d) (B : Arv Z h b k' ty' z' us d') : z = z' := by
  subst q
  obtain ⟨c, A1, -, S, N, -, -⟩ := A
  obtain ⟨c', B1, -, S', N', -, -⟩ := B
  cases A1.1.symm.trans B1.1
  have e := S.symm.trans S'
  rw [Int32.lt_iff_toInt_lt] at N N'
  have e0 : (0 : Int32).toInt = 0 := by decide
  apply Int32.toInt_inj.mp
  simp only [Int32.toNatClampNeg] at e
  omega
theorem own_arvd {Z : State} {h : Heap} {a b : Addr} {k k' : ClassId} {ty ty' : FieldType} {z z' : Int32} {vs us : List Value} {d d' : Value} (q : a = b) (A : Arv Z h a k ty z vs d) (B : Arv Z h b k' ty' z' us d') : ∀ i, i < z.toNatClampNeg → vs.getD i d = us.getD i d' := by
  subst q
  obtain ⟨c, A1, -, S, -, H, -⟩ := A
  obtain ⟨c', B1, -, S', -, H', -⟩ := B
  cases A1.1.symm.trans B1.1
  intro i hi
  exact Option.some.inj ((H i (S ▸ hi)).symm.trans (H' i (S ▸ hi)))
theorem own_l256 {P : Int32 → Prop} (t : ∀ k : Fin 256, P (Int32.ofNat k.1)) {c : Int32} (h : ¬ c < 0 ∧ ¬ (255 : Int32) < c) : P c := by
  obtain ⟨h1, h2⟩ := h
  rw [Int32.lt_iff_toInt_lt] at h1 h2
  have e0 : (0 : Int32).toInt = 0 := by decide
  have e1 : (255 : Int32).toInt = 255 := by decide
  have e : c = Int32.ofNat c.toInt.toNat := by
    apply Int32.toInt_inj.mp
    rw [Int32.toInt_ofNat_small (by omega)]; omega
  rw [e]
  exact t ⟨c.toInt.toNat, by omega⟩
theorem own_lnc {c : Int32} (h : ¬ c < 0 ∧ ¬ (255 : Int32) < c) : nar .char c = c := own_l256 (P := fun c => nar .char c = c) (by decide +kernel) h
theorem own_lml (w : Int64) : ¬ ((w &&& (255 : Int64)).toInt32.toUInt32.toUInt16.toUInt32.toInt32) < 0 ∧ ¬ (255 : Int32) < ((w &&& (255 : Int64)).toInt32.toUInt32.toUInt16.toUInt32.toInt32) := by
  have h1 := c_maskL w 255 8 (by decide) (by decide)
  have h2 := c_l2i (w &&& 255)
  have h3 := c_i2c (w &&& 255).toInt32
  have e1 : (255 : Int32).toInt = 255 := by decide
  have e0 : (0 : Int32).toInt = 0 := by decide
  constructor
  · rw [Int32.lt_iff_toInt_lt]; omega
  · rw [Int32.lt_iff_toInt_lt]; omega
theorem own_m11 (p n : Int32) (h : n = ((p &&& (15 : Int32)) % (11 : Int32))) : n = (0 : Int32) ∨ n = (1 : Int32) ∨ n = (2 : Int32) ∨ n = (3 : Int32) ∨ n = (4 : Int32) ∨ n = (5 : Int32) ∨ n = (6 : Int32) ∨ n = (7 : Int32) ∨ n = (8 : Int32) ∨ n = (9 : Int32) ∨ n = (10 : Int32) := by
  have h1 := c_and p 15 (by decide)
  have h2 := (c_irem (p &&& 15) 11 11 (by decide)).1 h1.1
  rw [← h] at h2
  simp only [← Int32.toInt_inj]
  have e0 : (0 : Int32).toInt = 0 := by decide
  have e1 : (1 : Int32).toInt = 1 := by decide
  have e2 : (2 : Int32).toInt = 2 := by decide
  have e3 : (3 : Int32).toInt = 3 := by decide
  have e4 : (4 : Int32).toInt = 4 := by decide
  have e5 : (5 : Int32).toInt = 5 := by decide
  have e6 : (6 : Int32).toInt = 6 := by decide
  have e7 : (7 : Int32).toInt = 7 := by decide
  have e8 : (8 : Int32).toInt = 8 := by decide
  have e9 : (9 : Int32).toInt = 9 := by decide
  have e10 : (10 : Int32).toInt = 10 := by decide
  rw [e0, e1, e2, e3, e4, e5, e6, e7, e8, e9, e10]
  omega
theorem own_lb45 {c : Int32} (h : ¬ c < 0 ∧ ¬ (255 : Int32) < c) : c.toInt8.toInt32 = (45 : Int32) ↔ c = (45 : Int32) := own_l256 (P := fun c => c.toInt8.toInt32 = (45 : Int32) ↔ c = (45 : Int32)) (by decide +kernel) h
theorem own_lb98 {c : Int32} (h : ¬ c < 0 ∧ ¬ (255 : Int32) < c) : c.toInt8.toInt32 = (98 : Int32) ↔ c = (98 : Int32) := own_l256 (P := fun c => c.toInt8.toInt32 = (98 : Int32) ↔ c = (98 : Int32)) (by decide +kernel) h
theorem own_lb101 {c : Int32} (h : ¬ c < 0 ∧ ¬ (255 : Int32) < c) : c.toInt8.toInt32 = (101 : Int32) ↔ c = (101 : Int32) := own_l256 (P := fun c => c.toInt8.toInt32 = (101 : Int32) ↔ c = (101 : Int32)) (by decide +kernel) h
theorem own_lb111 {c : Int32} (h : ¬ c < 0 ∧ ¬ (255 : Int32) < c) : c.toInt8.toInt32 = (111 : Int32) ↔ c = (111 : Int32) := own_l256 (P := fun c => c.toInt8.toInt32 = (111 : Int32) ↔ c = (111 : Int32)) (by decide +kernel) h
theorem own_lb114 {c : Int32} (h : ¬ c < 0 ∧ ¬ (255 : Int32) < c) : c.toInt8.toInt32 = (114 : Int32) ↔ c = (114 : Int32) := own_l256 (P := fun c => c.toInt8.toInt32 = (114 : Int32) ↔ c = (114 : Int32)) (by decide +kernel) h
theorem own_lb115 {c : Int32} (h : ¬ c < 0 ∧ ¬ (255 : Int32) < c) : c.toInt8.toInt32 = (115 : Int32) ↔ c = (115 : Int32) := own_l256 (P := fun c => c.toInt8.toInt32 = (115 : Int32) ↔ c = (115 : Int32)) (by decide +kernel) h
theorem own_lb118 {c : Int32} (h : ¬ c < 0 ∧ ¬ (255 : Int32) < c) : c.toInt8.toInt32 = (118 : Int32) ↔ c = (118 : Int32) := own_l256 (P := fun c => c.toInt8.toInt32 = (118 : Int32) ↔ c = (118 : Int32)) (by decide +kernel) h
abbrev OwnMetW (l : Launch) (y : MethodName) (bytes : ByteArray) (ml : Nat) (rt : Option FieldType) (ws : List Jvm.Cond) (rm : Room) (as' : Array Value) (Z : State) (h0 : Heap) (Q : Option Value → Heap → List Loc → Prop) : Prop := MetFree l y (head1 (Jvm.Cond.code y bytes ml rt :: ws) rm) (fun as_ UU => as_ = as' ∧ Z.Warmed39 UU.vm ∧ UU.heap = h0 ∧ CHv Z own_EL UU.vm h0) (fun _ _ _ _ _ => True) (fun _ UU oo UU' => ∃ vv LL, oo = .returned vv ∧ Q vv UU'.heap LL ∧ CHr Z own_EL UU.vm UU.heap UU'.vm UU'.heap ∧ ReturnedEndW UU oo UU' LL rm.cells rm.slots)
theorem d1_0 : decode method_3_code 0 = .ok (.iload_n 0, 1) := by decide +kernel
theorem d1_1 : decode method_3_code 1 = .ok (.bipush 8, 2) := by decide +kernel
theorem d1_3 : decode method_3_code 3 = .ok (.if_icmp .ge 8, 3) := by decide +kernel
theorem d1_6 : decode method_3_code 6 = .ok (.lload 5, 2) := by decide +kernel
theorem d1_8 : decode method_3_code 8 = .ok (.goto 5, 3) := by decide +kernel
theorem d1_11 : decode method_3_code 11 = .ok (.lload 7, 2) := by decide +kernel
theorem d1_13 : decode method_3_code 13 = .ok (.lstore 9, 2) := by decide +kernel
theorem d1_15 : decode method_3_code 15 = .ok (.iload_n 0, 1) := by decide +kernel
theorem d1_16 : decode method_3_code 16 = .ok (.bipush 8, 2) := by decide +kernel
theorem d1_18 : decode method_3_code 18 = .ok (.if_icmp .ge 10, 3) := by decide +kernel
theorem d1_21 : decode method_3_code 21 = .ok (.bipush 8, 2) := by decide +kernel
theorem d1_23 : decode method_3_code 23 = .ok (.iload_n 0, 1) := by decide +kernel
theorem d1_24 : decode method_3_code 24 = .ok (.imul, 1) := by decide +kernel
theorem d1_25 : decode method_3_code 25 = .ok (.goto 10, 3) := by decide +kernel
theorem d1_28 : decode method_3_code 28 = .ok (.bipush 8, 2) := by decide +kernel
theorem d1_30 : decode method_3_code 30 = .ok (.iload_n 0, 1) := by decide +kernel
theorem d1_31 : decode method_3_code 31 = .ok (.bipush 8, 2) := by decide +kernel
theorem d1_33 : decode method_3_code 33 = .ok (.isub, 1) := by decide +kernel
theorem d1_34 : decode method_3_code 34 = .ok (.imul, 1) := by decide +kernel
theorem d1_35 : decode method_3_code 35 = .ok (.istore 11, 2) := by decide +kernel
theorem d1_37 : decode method_3_code 37 = .ok (.lload 9, 2) := by decide +kernel
theorem d1_39 : decode method_3_code 39 = .ok (.iload 11, 2) := by decide +kernel
theorem d1_41 : decode method_3_code 41 = .ok (.lushr, 1) := by decide +kernel
theorem d1_42 : decode method_3_code 42 = .ok (.ldc2_w 24, 3) := by decide +kernel
theorem d1_45 : decode method_3_code 45 = .ok (.land, 1) := by decide +kernel
theorem d1_46 : decode method_3_code 46 = .ok (.l2i, 1) := by decide +kernel
theorem d1_47 : decode method_3_code 47 = .ok (.i2c, 1) := by decide +kernel
theorem d1_48 : decode method_3_code 48 = .ok (.istore 12, 2) := by decide +kernel
theorem d1_50 : decode method_3_code 50 = .ok (.iload_n 2, 1) := by decide +kernel
theorem d1_51 : decode method_3_code 51 = .ok (.ifCond .ne 9, 3) := by decide +kernel
theorem d1_54 : decode method_3_code 54 = .ok (.iconst 1, 1) := by decide +kernel
theorem d1_55 : decode method_3_code 55 = .ok (.istore 13, 2) := by decide +kernel
theorem d1_57 : decode method_3_code 57 = .ok (.goto 39, 3) := by decide +kernel
theorem d1_60 : decode method_3_code 60 = .ok (.iload_n 2, 1) := by decide +kernel
theorem d1_61 : decode method_3_code 61 = .ok (.iconst 1, 1) := by decide +kernel
theorem d1_62 : decode method_3_code 62 = .ok (.if_icmp .ne 18, 3) := by decide +kernel
theorem d1_65 : decode method_3_code 65 = .ok (.iload_n 0, 1) := by decide +kernel
theorem d1_66 : decode method_3_code 66 = .ok (.iload_n 3, 1) := by decide +kernel
theorem d1_67 : decode method_3_code 67 = .ok (.if_icmp .eq 7, 3) := by decide +kernel
theorem d1_70 : decode method_3_code 70 = .ok (.iconst 1, 1) := by decide +kernel
theorem d1_71 : decode method_3_code 71 = .ok (.goto 4, 3) := by decide +kernel
theorem d1_74 : decode method_3_code 74 = .ok (.iconst 0, 1) := by decide +kernel
theorem d1_75 : decode method_3_code 75 = .ok (.istore 13, 2) := by decide +kernel
theorem d1_77 : decode method_3_code 77 = .ok (.goto 19, 3) := by decide +kernel
theorem d1_80 : decode method_3_code 80 = .ok (.iload 4, 2) := by decide +kernel
theorem d1_82 : decode method_3_code 82 = .ok (.iload_n 0, 1) := by decide +kernel
theorem d1_83 : decode method_3_code 83 = .ok (.iushr, 1) := by decide +kernel
theorem d1_84 : decode method_3_code 84 = .ok (.iconst 1, 1) := by decide +kernel
theorem d1_85 : decode method_3_code 85 = .ok (.iand, 1) := by decide +kernel
theorem d1_86 : decode method_3_code 86 = .ok (.ifCond .ne 7, 3) := by decide +kernel
theorem d1_89 : decode method_3_code 89 = .ok (.iconst 1, 1) := by decide +kernel
theorem d1_90 : decode method_3_code 90 = .ok (.goto 4, 3) := by decide +kernel
theorem d1_93 : decode method_3_code 93 = .ok (.iconst 0, 1) := by decide +kernel
theorem d1_94 : decode method_3_code 94 = .ok (.istore 13, 2) := by decide +kernel
theorem d1_96 : decode method_3_code 96 = .ok (.iload 13, 2) := by decide +kernel
theorem d1_98 : decode method_3_code 98 = .ok (.ifCond .ne 6, 3) := by decide +kernel
theorem d1_101 : decode method_3_code 101 = .ok (.iload 12, 2) := by decide +kernel
theorem d1_103 : decode method_3_code 103 = .ok (.ireturn, 1) := by decide +kernel
theorem d1_104 : decode method_3_code 104 = .ok (.iload_n 1, 1) := by decide +kernel
theorem d1_105 : decode method_3_code 105 = .ok (.ifCond .eq 19, 3) := by decide +kernel
theorem d1_108 : decode method_3_code 108 = .ok (.iload_n 0, 1) := by decide +kernel
theorem d1_109 : decode method_3_code 109 = .ok (.bipush 9, 2) := by decide +kernel
theorem d1_111 : decode method_3_code 111 = .ok (.if_icmp .ge 10, 3) := by decide +kernel
theorem d1_114 : decode method_3_code 114 = .ok (.ldc 26, 2) := by decide +kernel
theorem d1_116 : decode method_3_code 116 = .ok (.iload_n 0, 1) := by decide +kernel
theorem d1_117 : decode method_3_code 117 = .ok (.invokevirtual 28, 3) := by decide +kernel
theorem d1_120 : decode method_3_code 120 = .ok (.ireturn, 1) := by decide +kernel
theorem d1_121 : decode method_3_code 121 = .ok (.iload 12, 2) := by decide +kernel
theorem d1_123 : decode method_3_code 123 = .ok (.ireturn, 1) := by decide +kernel
theorem d1_124 : decode method_3_code 124 = .ok (.iload_n 0, 1) := by decide +kernel
theorem d1_125 : decode method_3_code 125 = .ok (.iconst 2, 1) := by decide +kernel
theorem d1_126 : decode method_3_code 126 = .ok (.if_icmp .ge 10, 3) := by decide +kernel
theorem d1_129 : decode method_3_code 129 = .ok (.ldc 32, 2) := by decide +kernel
theorem d1_131 : decode method_3_code 131 = .ok (.iload_n 0, 1) := by decide +kernel
theorem d1_132 : decode method_3_code 132 = .ok (.invokevirtual 28, 3) := by decide +kernel
theorem d1_135 : decode method_3_code 135 = .ok (.ireturn, 1) := by decide +kernel
theorem d1_136 : decode method_3_code 136 = .ok (.iload 12, 2) := by decide +kernel
theorem d1_138 : decode method_3_code 138 = .ok (.ireturn, 1) := by decide +kernel
theorem d2_0 : decode jdk_42_method_56_code 0 = .ok (.aload_n 0, 1) := by decide +kernel
theorem d2_1 : decode jdk_42_method_56_code 1 = .ok (.invokevirtual 492, 3) := by decide +kernel
theorem d2_4 : decode jdk_42_method_56_code 4 = .ok (.ifCond .eq 12, 3) := by decide +kernel
theorem d2_7 : decode jdk_42_method_56_code 7 = .ok (.aload_n 0, 1) := by decide +kernel
theorem d2_8 : decode jdk_42_method_56_code 8 = .ok (.getfield 9, 3) := by decide +kernel
theorem d2_11 : decode jdk_42_method_56_code 11 = .ok (.iload_n 1, 1) := by decide +kernel
theorem d2_12 : decode jdk_42_method_56_code 12 = .ok (.invokestatic 495, 3) := by decide +kernel
theorem d2_15 : decode jdk_42_method_56_code 15 = .ok (.ireturn, 1) := by decide +kernel
theorem d3_0 : decode jdk_42_method_154_code 0 = .ok (.getstatic 38, 3) := by decide +kernel
theorem d3_3 : decode jdk_42_method_154_code 3 = .ok (.ifCond .eq 14, 3) := by decide +kernel
theorem d3_6 : decode jdk_42_method_154_code 6 = .ok (.aload_n 0, 1) := by decide +kernel
theorem d3_7 : decode jdk_42_method_154_code 7 = .ok (.getfield 15, 3) := by decide +kernel
theorem d3_10 : decode jdk_42_method_154_code 10 = .ok (.ifCond .ne 7, 3) := by decide +kernel
theorem d3_13 : decode jdk_42_method_154_code 13 = .ok (.iconst 1, 1) := by decide +kernel
theorem d3_14 : decode jdk_42_method_154_code 14 = .ok (.goto 4, 3) := by decide +kernel
theorem d3_18 : decode jdk_42_method_154_code 18 = .ok (.ireturn, 1) := by decide +kernel
theorem d4_0 : decode jdk_43_method_2_code 0 = .ok (.iload_n 1, 1) := by decide +kernel
theorem d4_1 : decode jdk_43_method_2_code 1 = .ok (.aload_n 0, 1) := by decide +kernel
theorem d4_2 : decode jdk_43_method_2_code 2 = .ok (.arraylength, 1) := by decide +kernel
theorem d4_3 : decode jdk_43_method_2_code 3 = .ok (.invokestatic 9, 3) := by decide +kernel
theorem d4_6 : decode jdk_43_method_2_code 6 = .ok (.aload_n 0, 1) := by decide +kernel
theorem d4_7 : decode jdk_43_method_2_code 7 = .ok (.iload_n 1, 1) := by decide +kernel
theorem d4_8 : decode jdk_43_method_2_code 8 = .ok (.baload, 1) := by decide +kernel
theorem d4_9 : decode jdk_43_method_2_code 9 = .ok (.sipush 255, 3) := by decide +kernel
theorem d4_12 : decode jdk_43_method_2_code 12 = .ok (.iand, 1) := by decide +kernel
theorem d4_13 : decode jdk_43_method_2_code 13 = .ok (.i2c, 1) := by decide +kernel
theorem d4_14 : decode jdk_43_method_2_code 14 = .ok (.ireturn, 1) := by decide +kernel
theorem d5_0 : decode jdk_42_method_155_code 0 = .ok (.iload_n 0, 1) := by decide +kernel
theorem d5_1 : decode jdk_42_method_155_code 1 = .ok (.iload_n 1, 1) := by decide +kernel
theorem d5_2 : decode jdk_42_method_155_code 2 = .ok (.getstatic 1053, 3) := by decide +kernel
theorem d5_5 : decode jdk_42_method_155_code 5 = .ok (.invokestatic 1059, 3) := by decide +kernel
theorem d5_8 : decode jdk_42_method_155_code 8 = .ok (.pop, 1) := by decide +kernel
theorem d5_9 : decode jdk_42_method_155_code 9 = .ok (.return_, 1) := by decide +kernel
theorem d6_0 : decode jdk_41_method_11_code 0 = .ok (.iload_n 0, 1) := by decide +kernel
theorem d6_1 : decode jdk_41_method_11_code 1 = .ok (.ifCond .lt 8, 3) := by decide +kernel
theorem d6_4 : decode jdk_41_method_11_code 4 = .ok (.iload_n 0, 1) := by decide +kernel
theorem d6_5 : decode jdk_41_method_11_code 5 = .ok (.iload_n 1, 1) := by decide +kernel
theorem d6_6 : decode jdk_41_method_11_code 6 = .ok (.if_icmp .lt 10, 3) := by decide +kernel
theorem d6_16 : decode jdk_41_method_11_code 16 = .ok (.iload_n 0, 1) := by decide +kernel
theorem d6_17 : decode jdk_41_method_11_code 17 = .ok (.ireturn, 1) := by decide +kernel
theorem d7_0 : decode jdk_42_method_3_code 0 = .ok (.aload_n 0, 1) := by decide +kernel
theorem d7_1 : decode jdk_42_method_3_code 1 = .ok (.aload_n 1, 1) := by decide +kernel
theorem d7_2 : decode jdk_42_method_3_code 2 = .ok (.iconst 0, 1) := by decide +kernel
theorem d7_3 : decode jdk_42_method_3_code 3 = .ok (.aload_n 1, 1) := by decide +kernel
theorem d7_4 : decode jdk_42_method_3_code 4 = .ok (.arraylength, 1) := by decide +kernel
theorem d7_5 : decode jdk_42_method_3_code 5 = .ok (.aconst_null, 1) := by decide +kernel
theorem d7_6 : decode jdk_42_method_3_code 6 = .ok (.invokespecial 27, 3) := by decide +kernel
theorem d7_9 : decode jdk_42_method_3_code 9 = .ok (.return_, 1) := by decide +kernel
theorem d8_0 : decode jdk_42_method_149_code 0 = .ok (.aload_n 0, 1) := by decide +kernel
theorem d8_1 : decode jdk_42_method_149_code 1 = .ok (.invokespecial 1, 3) := by decide +kernel
theorem d8_4 : decode jdk_42_method_149_code 4 = .ok (.iload_n 3, 1) := by decide +kernel
theorem d8_5 : decode jdk_42_method_149_code 5 = .ok (.ifCond .ne 22, 3) := by decide +kernel
theorem d8_8 : decode jdk_42_method_149_code 8 = .ok (.aload_n 0, 1) := by decide +kernel
theorem d8_9 : decode jdk_42_method_149_code 9 = .ok (.ldc 7, 2) := by decide +kernel
theorem d8_11 : decode jdk_42_method_149_code 11 = .ok (.getfield 9, 3) := by decide +kernel
theorem d8_14 : decode jdk_42_method_149_code 14 = .ok (.putfield 9, 3) := by decide +kernel
theorem d8_17 : decode jdk_42_method_149_code 17 = .ok (.aload_n 0, 1) := by decide +kernel
theorem d8_18 : decode jdk_42_method_149_code 18 = .ok (.ldc 7, 2) := by decide +kernel
theorem d8_20 : decode jdk_42_method_149_code 20 = .ok (.getfield 15, 3) := by decide +kernel
theorem d8_23 : decode jdk_42_method_149_code 23 = .ok (.putfield 15, 3) := by decide +kernel
theorem d8_26 : decode jdk_42_method_149_code 26 = .ok (.return_, 1) := by decide +kernel
theorem d10_0 : decode prog_4_method_2_code 0 = .ok (.aload_n 0, 1) := by decide +kernel
theorem d10_1 : decode prog_4_method_2_code 1 = .ok (.ldc 24, 2) := by decide +kernel
theorem d10_3 : decode prog_4_method_2_code 3 = .ok (.invokevirtual 26, 3) := by decide +kernel
theorem d10_6 : decode prog_4_method_2_code 6 = .ok (.ifCond .ne 12, 3) := by decide +kernel
theorem d10_9 : decode prog_4_method_2_code 9 = .ok (.aload_n 0, 1) := by decide +kernel
theorem d10_10 : decode prog_4_method_2_code 10 = .ok (.ldc 32, 2) := by decide +kernel
theorem d10_12 : decode prog_4_method_2_code 12 = .ok (.invokevirtual 26, 3) := by decide +kernel
theorem d10_15 : decode prog_4_method_2_code 15 = .ok (.ifCond .eq 7, 3) := by decide +kernel
theorem d10_18 : decode prog_4_method_2_code 18 = .ok (.iconst 1, 1) := by decide +kernel
theorem d10_19 : decode prog_4_method_2_code 19 = .ok (.goto 4, 3) := by decide +kernel
theorem d10_22 : decode prog_4_method_2_code 22 = .ok (.iconst 0, 1) := by decide +kernel
theorem d10_23 : decode prog_4_method_2_code 23 = .ok (.ireturn, 1) := by decide +kernel
theorem d11_0 : decode jdk_42_method_66_code 0 = .ok (.aload_n 0, 1) := by decide +kernel
theorem d11_1 : decode jdk_42_method_66_code 1 = .ok (.aload_n 1, 1) := by decide +kernel
theorem d11_2 : decode jdk_42_method_66_code 2 = .ok (.if_acmp .ne 5, 3) := by decide +kernel
theorem d11_5 : decode jdk_42_method_66_code 5 = .ok (.iconst 1, 1) := by decide +kernel
theorem d11_6 : decode jdk_42_method_66_code 6 = .ok (.ireturn, 1) := by decide +kernel
theorem d11_7 : decode jdk_42_method_66_code 7 = .ok (.aload_n 1, 1) := by decide +kernel
theorem d11_8 : decode jdk_42_method_66_code 8 = .ok (.instanceof 10, 3) := by decide +kernel
theorem d11_11 : decode jdk_42_method_66_code 11 = .ok (.ifCond .eq 43, 3) := by decide +kernel
theorem d11_14 : decode jdk_42_method_66_code 14 = .ok (.aload_n 1, 1) := by decide +kernel
theorem d11_15 : decode jdk_42_method_66_code 15 = .ok (.checkcast 10, 3) := by decide +kernel
theorem d11_18 : decode jdk_42_method_66_code 18 = .ok (.astore_n 2, 1) := by decide +kernel
theorem d11_19 : decode jdk_42_method_66_code 19 = .ok (.getstatic 38, 3) := by decide +kernel
theorem d11_22 : decode jdk_42_method_66_code 22 = .ok (.ifCond .eq 14, 3) := by decide +kernel
theorem d11_25 : decode jdk_42_method_66_code 25 = .ok (.aload_n 0, 1) := by decide +kernel
theorem d11_26 : decode jdk_42_method_66_code 26 = .ok (.getfield 15, 3) := by decide +kernel
theorem d11_29 : decode jdk_42_method_66_code 29 = .ok (.aload_n 2, 1) := by decide +kernel
theorem d11_30 : decode jdk_42_method_66_code 30 = .ok (.getfield 15, 3) := by decide +kernel
theorem d11_33 : decode jdk_42_method_66_code 33 = .ok (.if_icmp .ne 21, 3) := by decide +kernel
theorem d11_36 : decode jdk_42_method_66_code 36 = .ok (.aload_n 0, 1) := by decide +kernel
theorem d11_37 : decode jdk_42_method_66_code 37 = .ok (.getfield 9, 3) := by decide +kernel
theorem d11_40 : decode jdk_42_method_66_code 40 = .ok (.aload_n 2, 1) := by decide +kernel
theorem d11_41 : decode jdk_42_method_66_code 41 = .ok (.getfield 9, 3) := by decide +kernel
theorem d11_44 : decode jdk_42_method_66_code 44 = .ok (.invokestatic 541, 3) := by decide +kernel
theorem d11_47 : decode jdk_42_method_66_code 47 = .ok (.ifCond .eq 7, 3) := by decide +kernel
theorem d11_50 : decode jdk_42_method_66_code 50 = .ok (.iconst 1, 1) := by decide +kernel
theorem d11_51 : decode jdk_42_method_66_code 51 = .ok (.goto 4, 3) := by decide +kernel
theorem d11_54 : decode jdk_42_method_66_code 54 = .ok (.iconst 0, 1) := by decide +kernel
theorem d11_55 : decode jdk_42_method_66_code 55 = .ok (.ireturn, 1) := by decide +kernel
theorem d12_0 : decode jdk_43_method_13_code 0 = .ok (.aload_n 0, 1) := by decide +kernel
theorem d12_1 : decode jdk_43_method_13_code 1 = .ok (.arraylength, 1) := by decide +kernel
theorem d12_2 : decode jdk_43_method_13_code 2 = .ok (.aload_n 1, 1) := by decide +kernel
theorem d12_3 : decode jdk_43_method_13_code 3 = .ok (.arraylength, 1) := by decide +kernel
theorem d12_4 : decode jdk_43_method_13_code 4 = .ok (.if_icmp .ne 30, 3) := by decide +kernel
theorem d12_7 : decode jdk_43_method_13_code 7 = .ok (.iconst 0, 1) := by decide +kernel
theorem d12_8 : decode jdk_43_method_13_code 8 = .ok (.istore_n 2, 1) := by decide +kernel
theorem d12_9 : decode jdk_43_method_13_code 9 = .ok (.iload_n 2, 1) := by decide +kernel
theorem d12_10 : decode jdk_43_method_13_code 10 = .ok (.aload_n 0, 1) := by decide +kernel
theorem d12_11 : decode jdk_43_method_13_code 11 = .ok (.arraylength, 1) := by decide +kernel
theorem d12_12 : decode jdk_43_method_13_code 12 = .ok (.if_icmp .ge 20, 3) := by decide +kernel
theorem d12_15 : decode jdk_43_method_13_code 15 = .ok (.aload_n 0, 1) := by decide +kernel
theorem d12_16 : decode jdk_43_method_13_code 16 = .ok (.iload_n 2, 1) := by decide +kernel
theorem d12_17 : decode jdk_43_method_13_code 17 = .ok (.baload, 1) := by decide +kernel
theorem d12_18 : decode jdk_43_method_13_code 18 = .ok (.aload_n 1, 1) := by decide +kernel
theorem d12_19 : decode jdk_43_method_13_code 19 = .ok (.iload_n 2, 1) := by decide +kernel
theorem d12_20 : decode jdk_43_method_13_code 20 = .ok (.baload, 1) := by decide +kernel
theorem d12_21 : decode jdk_43_method_13_code 21 = .ok (.if_icmp .eq 5, 3) := by decide +kernel
theorem d12_24 : decode jdk_43_method_13_code 24 = .ok (.iconst 0, 1) := by decide +kernel
theorem d12_25 : decode jdk_43_method_13_code 25 = .ok (.ireturn, 1) := by decide +kernel
theorem d12_26 : decode jdk_43_method_13_code 26 = .ok (.iinc 2 1, 3) := by decide +kernel
theorem d12_29 : decode jdk_43_method_13_code 29 = .ok (.goto (-20), 3) := by decide +kernel
theorem d12_32 : decode jdk_43_method_13_code 32 = .ok (.iconst 1, 1) := by decide +kernel
theorem d12_33 : decode jdk_43_method_13_code 33 = .ok (.ireturn, 1) := by decide +kernel
theorem d12_34 : decode jdk_43_method_13_code 34 = .ok (.iconst 0, 1) := by decide +kernel
theorem d12_35 : decode jdk_43_method_13_code 35 = .ok (.ireturn, 1) := by decide +kernel
theorem pd_0 : parseMethodDescriptor "(IILjava/util/function/BiFunction;)I" = some ⟨[.int, .int, (.object "java/util/function/BiFunction")], some .int⟩ := by decide +kernel
theorem pd_1 : parseMethodDescriptor "(II)V" = some ⟨[.int, .int], none⟩ := by decide +kernel
theorem pd_2 : parseMethodDescriptor "()Z" = some ⟨[], some .boolean⟩ := by decide +kernel
theorem pd_3 : parseMethodDescriptor "([BI)C" = some ⟨[(.array .byte), .int], some .char⟩ := by decide +kernel
theorem pd_4 : parseMethodDescriptor "(I)C" = some ⟨[.int], some .char⟩ := by decide +kernel
theorem pd_5 : parseMethodDescriptor "([B[B)Z" = some ⟨[(.array .byte), (.array .byte)], some .boolean⟩ := by decide +kernel
theorem pd_6 : parseMethodDescriptor "(Ljava/lang/Object;)Z" = some ⟨[(.object "java/lang/Object")], some .boolean⟩ := by decide +kernel
theorem pd_7 : parseMethodDescriptor "([CIILjava/lang/Void;)V" = some ⟨[(.array .char), .int, .int, (.object "java/lang/Void")], none⟩ := by decide +kernel
theorem pd_8 : parseMethodDescriptor "(IZIIIJJ)C" = some ⟨[.int, .boolean, .int, .int, .int, .long, .long], some .char⟩ := by decide +kernel
theorem pd_9 : parseMethodDescriptor "([C)V" = some ⟨[(.array .char)], none⟩ := by decide +kernel
theorem pd_10 : parseMethodDescriptor "(Ljava/lang/String;)Z" = some ⟨[(.object "java/lang/String")], some .boolean⟩ := by decide +kernel
theorem pn_6 : plainName "jdk/internal/util/Preconditions" = true := by first | (simp [plainName, overriddenIn]; done) | decide +kernel
theorem pn_5 : plainName "java/lang/String" = true := by first | (simp [plainName, overriddenIn]; done) | decide +kernel
theorem pn_4 : plainName "java/lang/StringLatin1" = true := by first | (simp [plainName, overriddenIn]; done) | decide +kernel
theorem pn_1 : plainName "com/example/mapweft/mapweft/OptionsIsVerbosePinLaw" = true := by first | (simp [plainName, overriddenIn]; done) | decide +kernel
theorem pn_10 : plainName "com/example/mapweft/mapweft/Options" = true := by first | (simp [plainName, overriddenIn]; done) | decide +kernel
theorem ef_pcheck (m : MethodId) (x0 : Int32) (x1 : Int32) (x2 : Value) (hx2 : x2.category = 1) : entryFrame m #[(.int x0), (.int x1), x2] 3 = mkF m 0 #[.val (.int x0), .val (.int x1), .val x2] [] := by cases x2 <;> first | (simp [Value.category] at hx2; done) | (first | (simp [entryFrame, mkF, argsToLocals, Value.category]; done) | rfl)
theorem ef_scheck (m : MethodId) (x0 : Int32) (x1 : Int32) : entryFrame m #[(.int x0), (.int x1)] 2 = mkF m 0 #[.val (.int x0), .val (.int x1)] [] := by first | (simp [entryFrame, mkF, argsToLocals, Value.category]; done) | rfl
theorem ef_isLatin1 (m : MethodId) (x0 : Addr) : entryFrame m #[(.ref x0)] 1 = mkF m 0 #[.val (.ref x0)] [] := by first | (simp [entryFrame, mkF, argsToLocals, Value.category]; done) | rfl
theorem own_ki1 : Int32.ofInt 1 = (1 : Int32) := by decide
theorem ef_lcharAt (m : MethodId) (x0 : Addr) (x1 : Int32) : entryFrame m #[(.ref x0), (.int x1)] 2 = mkF m 0 #[.val (.ref x0), .val (.int x1)] [] := by first | (simp [entryFrame, mkF, argsToLocals, Value.category]; done) | rfl
theorem own_ks255 : (Int16.ofInt 255).toInt32 = (255 : Int32) := by decide
theorem ef_charAt (m : MethodId) (x0 : Addr) (x1 : Int32) : entryFrame m #[(.ref x0), (.int x1)] 2 = mkF m 0 #[.val (.ref x0), .val (.int x1)] [] := by first | (simp [entryFrame, mkF, argsToLocals, Value.category]; done) | rfl
theorem ef_at (m : MethodId) (x0 : Int32) (x1 : Int32) (x2 : Int32) (x3 : Int32) (x4 : Int32) (x5 : Int64) (x6 : Int64) : entryFrame m #[(.int x0), (.int x1), (.int x2), (.int x3), (.int x4), (.long x5), (.long x6)] 14 = mkF m 0 #[.val (.int x0), .val (.int x1), .val (.int x2), .val (.int x3), .val (.int x4), .val (.long x5), .second, .val (.long x6), .second, .unset, .unset, .unset, .unset, .unset] [] := by first | (simp [entryFrame, mkF, argsToLocals, Value.category]; done) | rfl
theorem own_kb8 : (Int8.ofInt 8).toInt32 = (8 : Int32) := by decide
theorem own_ki0 : Int32.ofInt 0 = (0 : Int32) := by decide
theorem own_kb9 : (Int8.ofInt 9).toInt32 = (9 : Int32) := by decide
theorem own_ki2 : Int32.ofInt 2 = (2 : Int32) := by decide
theorem ef_le9 (m : MethodId) (x0 : Addr) (x1 : Addr) : entryFrame m #[(.ref x0), (.ref x1)] 3 = mkF m 0 #[.val (.ref x0), .val (.ref x1), .unset] [] := by first | (simp [entryFrame, mkF, argsToLocals, Value.category]; done) | rfl
theorem own_ka0_1 : (0 : Int32) + Int32.ofInt 1 = (1 : Int32) := by decide
theorem own_ka1_1 : (1 : Int32) + Int32.ofInt 1 = (2 : Int32) := by decide
theorem own_ka2_1 : (2 : Int32) + Int32.ofInt 1 = (3 : Int32) := by decide
theorem own_ka3_1 : (3 : Int32) + Int32.ofInt 1 = (4 : Int32) := by decide
theorem own_ka4_1 : (4 : Int32) + Int32.ofInt 1 = (5 : Int32) := by decide
theorem own_ka5_1 : (5 : Int32) + Int32.ofInt 1 = (6 : Int32) := by decide
theorem own_ka6_1 : (6 : Int32) + Int32.ofInt 1 = (7 : Int32) := by decide
theorem own_ka7_1 : (7 : Int32) + Int32.ofInt 1 = (8 : Int32) := by decide
theorem own_ka8_1 : (8 : Int32) + Int32.ofInt 1 = (9 : Int32) := by decide
theorem ef_se9 (m : MethodId) (x0 : Addr) (x1 : Addr) : entryFrame m #[(.ref x0), (.ref x1)] 3 = mkF m 0 #[.val (.ref x0), .val (.ref x1), .unset] [] := by first | (simp [entryFrame, mkF, argsToLocals, Value.category]; done) | rfl
theorem ef_le2 (m : MethodId) (x0 : Addr) (x1 : Addr) : entryFrame m #[(.ref x0), (.ref x1)] 3 = mkF m 0 #[.val (.ref x0), .val (.ref x1), .unset] [] := by first | (simp [entryFrame, mkF, argsToLocals, Value.category]; done) | rfl
theorem ef_se2 (m : MethodId) (x0 : Addr) (x1 : Addr) : entryFrame m #[(.ref x0), (.ref x1)] 3 = mkF m 0 #[.val (.ref x0), .val (.ref x1), .unset] [] := by first | (simp [entryFrame, mkF, argsToLocals, Value.category]; done) | rfl
theorem ef_leN (m : MethodId) (x0 : Addr) (x1 : Addr) : entryFrame m #[(.ref x0), (.ref x1)] 3 = mkF m 0 #[.val (.ref x0), .val (.ref x1), .unset] [] := by first | (simp [entryFrame, mkF, argsToLocals, Value.category]; done) | rfl
theorem ef_seN (m : MethodId) (x0 : Addr) (x1 : Addr) : entryFrame m #[(.ref x0), (.ref x1)] 3 = mkF m 0 #[.val (.ref x0), .val (.ref x1), .unset] [] := by first | (simp [entryFrame, mkF, argsToLocals, Value.category]; done) | rfl
theorem ef_seE (m : MethodId) (x0 : Addr) (x1 : Addr) : entryFrame m #[(.ref x0), (.ref x1)] 3 = mkF m 0 #[.val (.ref x0), .val (.ref x1), .unset] [] := by first | (simp [entryFrame, mkF, argsToLocals, Value.category]; done) | rfl
theorem ef_isV9 (m : MethodId) (x0 : Addr) : entryFrame m #[(.ref x0)] 1 = mkF m 0 #[.val (.ref x0)] [] := by first | (simp [entryFrame, mkF, argsToLocals, Value.category]; done) | rfl
theorem ef_isV2 (m : MethodId) (x0 : Addr) : entryFrame m #[(.ref x0)] 1 = mkF m 0 #[.val (.ref x0)] [] := by first | (simp [entryFrame, mkF, argsToLocals, Value.category]; done) | rfl
theorem ef_isVN (m : MethodId) (x0 : Addr) : entryFrame m #[(.ref x0)] 1 = mkF m 0 #[.val (.ref x0)] [] := by first | (simp [entryFrame, mkF, argsToLocals, Value.category]; done) | rfl
theorem ef_iV0 (m : MethodId) (x0 : Addr) (x1 : Addr) (x2 : Int32) (x3 : Int32) : entryFrame m #[(.ref x0), (.ref x1), (.int x2), (.int x3), .null] 6 = mkF m 0 #[.val (.ref x0), .val (.ref x1), .val (.int x2), .val (.int x3), .val .null, .unset] [] := by first | (simp [entryFrame, mkF, argsToLocals, Value.category]; done) | rfl
theorem ef_iC0 (m : MethodId) (x0 : Addr) (x1 : Addr) : entryFrame m #[(.ref x0), (.ref x1)] 2 = mkF m 0 #[.val (.ref x0), .val (.ref x1)] [] := by first | (simp [entryFrame, mkF, argsToLocals, Value.category]; done) | rfl
theorem ef_0 (m : MethodId) (x0 : Int32) (x1 : Int64) (x2 : Int64) : entryFrame m #[(.int x0), (.long x1), (.long x2)] maxLocals = mkF m 0 #[.val (.int x0), .val (.long x1), .second, .val (.long x2), .second, .unset, .unset, .unset, .unset, .unset, .unset, .unset, .unset, .unset, .unset] [] := by first | (simp [entryFrame, mkF, argsToLocals, Value.category, maxLocals]; done) | rfl
theorem own_kb15 : (Int8.ofInt 15).toInt32 = (15 : Int32) := by decide
theorem own_kb11 : (Int8.ofInt 11).toInt32 = (11 : Int32) := by decide
theorem own_ki4 : Int32.ofInt 4 = (4 : Int32) := by decide
theorem own_ki5 : Int32.ofInt 5 = (5 : Int32) := by decide
theorem own_ki3 : Int32.ofInt 3 = (3 : Int32) := by decide
theorem own_kb7 : (Int8.ofInt 7).toInt32 = (7 : Int32) := by decide
theorem own_kb10 : (Int8.ofInt 10).toInt32 = (10 : Int32) := by decide
theorem own_ks1023 : (Int16.ofInt 1023).toInt32 = (1023 : Int32) := by decide
theorem own_kb6 : (Int8.ofInt 6).toInt32 = (6 : Int32) := by decide
theorem own_kb45 : (Int8.ofInt 45).toInt32 = (45 : Int32) := by decide
theorem own_kb118 : (Int8.ofInt 118).toInt32 = (118 : Int32) := by decide
theorem own_kb101 : (Int8.ofInt 101).toInt32 = (101 : Int32) := by decide
theorem own_kb114 : (Int8.ofInt 114).toInt32 = (114 : Int32) := by decide
theorem own_kb98 : (Int8.ofInt 98).toInt32 = (98 : Int32) := by decide
theorem own_kb111 : (Int8.ofInt 111).toInt32 = (111 : Int32) := by decide
theorem own_kb115 : (Int8.ofInt 115).toInt32 = (115 : Int32) := by decide
def Qpcheck (Z : State) (i : Int32) (n : Int32) (f : Value) (h0 : Heap) (n0 : Nat) (v : Option Value) (h : Heap) (L : List Loc) : Prop := v = some (.int i) ∧ Fr n0 L ∧ h = h0
theorem rmpcheck (l : Launch) (Z : State) (a0 : Array Value) (hw : own_tb a0 Z) (ws : List Jvm.Cond) (i : Int32) (n : Int32) (f : Value) (h0 : Heap) (n0 : Nat) (Z0 : n0 ≤ h0.size) (rf_f : f.isRef = true) (hi : ¬ i < (0 : Int32)) (hn : i < n) :
    OwnMet l (⟨"jdk/internal/util/Preconditions", "checkIndex", "(IILjava/util/function/BiFunction;)I"⟩ : MethodName) jdk_41_method_11_code 3 (some .int) ws ({ frames := 0, cells := 0, slots := 0, locals := 0 } : Room) #[(.int i), (.int n), f] Z h0 (Qpcheck Z i n f h0 n0) := by
  refine own_met (plainFor_of_name pn_6) ?_
  intro p e s m below meth c s₁ X0 hx hby hml hret hlk hown hnm hZ e0
  have N0 := Fr.nil n0
  have Z_ := Z0
  refine OwnGo.cast (ef_pcheck m i n f (own_cat rf_f)) ?_
  show OwnGo p e below s _ _ _ s₁ (mkF m 0 _ [])
  refine .iloadN X0 hx (hb hby d6_0) rfl ?_
  refine .ifNo X0 hx (hb hby d6_1) ((if0 _ _).trans (flt (hi : ¬ (i < (0 : Int32)))).1) ?_
  refine .iloadN X0 hx (hb hby d6_4) rfl ?_
  refine .iloadN X0 hx (hb hby d6_5) rfl ?_
  refine .icmpYes (pc := 6) X0 hx 16 (hb hby d6_6) (tlt (hn : i < n)).1 (by decide) (by decide) ?_
  refine .iloadN X0 hx (hb hby d6_16) rfl ?_
  exact OwnGo.ret X0 hx hret hlk rfl (Or.inl ⟨rfl, Or.inl rfl, _, rfl⟩) (hb hby d6_17) (by show Qpcheck Z i n f h0 n0 _ s₁.heap _; rw [e0]; exact ⟨rfl, N0, rfl⟩) (by decide) (by decide)
def Qscheck (Z : State) (i : Int32) (n : Int32) (fmv : Value) (h0 : Heap) (n0 : Nat) (v : Option Value) (h : Heap) (L : List Loc) : Prop := v = none ∧ Fr n0 L ∧ h = h0
theorem rmscheck (l : Launch) (Z : State) (a0 : Array Value) (hw : own_tb a0 Z) (ws : List Jvm.Cond) (i : Int32) (n : Int32) (fmv : Value) (h0 : Heap) (n0 : Nat) (Z0 : n0 ≤ h0.size) (O_ : Old Z n0 h0) (S_SF : Sta Z Z.heap "jdk/internal/util/Preconditions" "SIOOBE_FORMATTER" "Ljava/util/function/BiFunction;" fmv) (rf_fmv : fmv.isRef = true) (hi : ¬ i < (0 : Int32)) (hn : i < n) :
    OwnMet l (⟨"java/lang/String", "checkIndex", "(II)V"⟩ : MethodName) jdk_42_method_155_code 2 none ws ({ frames := 1, cells := 0, slots := 0, locals := 14 } : Room) #[(.int i), (.int n)] Z h0 (Qscheck Z i n fmv h0 n0) := by
  refine own_met (plainFor_of_name pn_5) ?_
  intro p e s m below meth c s₁ X0 hx hby hml hret hlk hown hnm hZ e0
  have N0 := Fr.nil n0
  have Z_ := Z0
  refine OwnGo.cast (ef_scheck m i n) ?_
  show OwnGo p e below s _ _ _ s₁ (mkF m 0 _ [])
  refine .iloadN X0 hx (hb hby d5_0) rfl ?_
  refine .iloadN X0 hx (hb hby d5_1) rfl ?_
  obtain ⟨T1, X1, e1, st1⟩ := getS2 X0 hx hZ hown (host := "") (Or.inl (W_ hw 34 rfl)) Via.refl e0 (S_SF.ext O_.2) (g := (mkF m 2 #[.val (.int i), .val (.int n)] [(.int n), (.int i)])) rfl (hb hby d5_2)
  refine .st st1 ?_
  show OwnGo p e below s _ _ _ T1 (mkF m 5 _ [fmv, (.int n), (.int i)])
  obtain ⟨_, _, ⟨T2, L2, k2, n2⟩, -, X2, ⟨Lc2, hQ2, l2, y2, z2⟩, st2⟩ := Jvm.LawKit.callS X1 hx (y := (⟨"jdk/internal/util/Preconditions", "checkIndex", "(IILjava/util/function/BiFunction;)I"⟩ : MethodName)) hown (mvT hZ (W_ hw 36 rfl)) (mvT hZ (W_ hw 37 rfl)) (mvT hZ (W_ hw 35 rfl)) (mvT hZ (W_ hw 38 rfl)) (by decide) (backOf (W := 0) (rmpcheck l Z a0 hw [] i n fmv h0 n0 Z_ rf_fmv hi hn) hZ (W_ hw 38 rfl) (W_ hw 35 rfl) (by decide) (by decide)) (g := (mkF m 5 #[.val (.int i), .val (.int n)] [fmv, (.int n), (.int i)])) rfl (by rw [hml]; rfl) (argsL := [(.int i), (.int n), fmv]) (rest := []) (lenOf pd_0 rfl) rfl (Nat.le_of_eq rfl) (hb hby d5_5) (fun _ _ => ⟨rfl, e1, (by decide : 0 + 0 ≤ _), (by decide : 0 + 0 ≤ _)⟩)
  dsimp only [Pt.U, Pt.locs, Pt.cells, Pt.slots] at X2 l2 y2 z2 st2 hQ2
  subst l2 y2 z2
  obtain ⟨rfl, N2q, e2⟩ := hQ2
  have N2 := Fr.app N0 N2q
  refine .st st2 ?_
  show OwnGo p e below s _ _ _ T2 (mkF m 8 _ [(.int i)])
  refine .st (fun _ => XS.pop X2.here hx rfl (hb hby d5_8) rfl rfl) ?_
  show OwnGo p e below s _ _ _ T2 (mkF m 9 _ [])
  exact OwnGo.retV X2 hx hret hlk (hb hby d5_9) (by show Qscheck Z i n fmv h0 n0 _ T2.heap _; rw [e2]; exact ⟨rfl, N2, rfl⟩) (by decide) (by decide)
def QisLatin1 (Z : State) (a : Addr) (zc : Int32) (h0 : Heap) (n0 : Nat) (v : Option Value) (h : Heap) (L : List Loc) : Prop := v = some (.int (1 : Int32)) ∧ Fr n0 L ∧ h = h0
theorem rmisLatin1 (l : Launch) (Z : State) (a0 : Array Value) (hw : own_tb a0 Z) (ws : List Jvm.Cond) (a : Addr) (zc : Int32) (h0 : Heap) (n0 : Nat) (Z0 : n0 ≤ h0.size) (O_ : Old Z n0 h0) (S_CS : Sta Z Z.heap "java/lang/String" "COMPACT_STRINGS" "Z" (.int zc)) (P_CS : ¬ zc = (0 : Int32)) (Fc : Fld Z h0 a "java/lang/String" "coder" "B" (.int (0 : Int32))) :
    OwnMet l (⟨"java/lang/String", "isLatin1", "()Z"⟩ : MethodName) jdk_42_method_154_code 1 (some .boolean) ws ({ frames := 0, cells := 0, slots := 0, locals := 0 } : Room) #[(.ref a)] Z h0 (QisLatin1 Z a zc h0 n0) := by
  refine own_met (plainFor_of_name pn_5) ?_
  intro p e s m below meth c s₁ X0 hx hby hml hret hlk hown hnm hZ e0
  have N0 := Fr.nil n0
  have Z_ := Z0
  refine OwnGo.cast (ef_isLatin1 m a) ?_
  show OwnGo p e below s _ _ _ s₁ (mkF m 0 _ [])
  obtain ⟨T3, X3, e3, st3⟩ := getS2 X0 hx hZ hown (host := "") (Or.inl (W_ hw 24 rfl)) Via.refl e0 (S_CS.ext O_.2) (g := (mkF m 0 #[.val (.ref a)] [])) rfl (hb hby d3_0)
  refine .st st3 ?_
  show OwnGo p e below s _ _ _ T3 (mkF m 3 _ [(.int zc)])
  refine .ifNo X3 hx (hb hby d3_3) ((if0 _ _).trans (feq (P_CS : ¬ (zc = (0 : Int32)))).1) ?_
  refine .aloadN X3 hx (hb hby d3_6) rfl rfl ?_
  obtain ⟨T4, X4, e4, st4⟩ := getF X3 hx hZ hown (host := "") (Or.inl (W_ hw 25 rfl)) Via.refl e3 Fc (g := (mkF m 7 #[.val (.ref a)] [(.ref a)])) rfl rfl (hb hby d3_7)
  refine .st st4 ?_
  show OwnGo p e below s _ _ _ T4 (mkF m 10 _ [(.int (0 : Int32))])
  refine .ifNo X4 hx (hb hby d3_10) ((if0 _ _).trans (teq (rfl : (0 : Int32) = (0 : Int32))).2) ?_
  refine .iconst X4 hx (hb hby d3_13) own_ki1 ?_
  refine .goto (pc := 14) X4 hx 18 (hb hby d3_14) (by decide) (by decide) ?_
  exact OwnGo.retN X4 hx (t := .boolean) hret hlk (by simp) (hb hby d3_18) (by show QisLatin1 Z a zc h0 n0 _ T4.heap _; rw [e4]; exact ⟨rfl, N0, rfl⟩) (by decide) (by decide)
def QlcharAt (Z : State) (t : Addr) (kc : ClassId) (z : Int32) (vs : List Value) (i : Int32) (b : Int32) (ch : Int32) (fmv : Value) (h0 : Heap) (n0 : Nat) (v : Option Value) (h : Heap) (L : List Loc) : Prop := v = some (.int ch) ∧ Fr n0 L ∧ h = h0
theorem rmlcharAt (l : Launch) (Z : State) (a0 : Array Value) (hw : own_tb a0 Z) (ws : List Jvm.Cond) (t : Addr) (kc : ClassId) (z : Int32) (vs : List Value) (i : Int32) (b : Int32) (ch : Int32) (fmv : Value) (h0 : Heap) (n0 : Nat) (Z0 : n0 ≤ h0.size) (O_ : Old Z n0 h0) (S_SF : Sta Z Z.heap "jdk/internal/util/Preconditions" "SIOOBE_FORMATTER" "Ljava/util/function/BiFunction;" fmv) (rf_fmv : fmv.isRef = true) (V : Arv Z h0 t kc .byte z vs (.int (0 : Int32))) (hin : ¬ i < (0 : Int32) ∧ i < z) (hat : vs.getD i.toNatClampNeg (.int (0 : Int32)) = .int b) (hch : (b &&& (255 : Int32)).toUInt32.toUInt16.toUInt32.toInt32 = ch) (hcc : nar .char ch = ch) :
    OwnMet l (⟨"java/lang/StringLatin1", "charAt", "([BI)C"⟩ : MethodName) jdk_43_method_2_code 2 (some .char) ws ({ frames := 2, cells := 0, slots := 0, locals := 27 } : Room) #[(.ref t), (.int i)] Z h0 (QlcharAt Z t kc z vs i b ch fmv h0 n0) := by
  refine own_met (plainFor_of_name pn_4) ?_
  intro p e s m below meth c s₁ X0 hx hby hml hret hlk hown hnm hZ e0
  have N0 := Fr.nil n0
  have Z_ := Z0
  refine OwnGo.cast (ef_lcharAt m t i) ?_
  show OwnGo p e below s _ _ _ s₁ (mkF m 0 _ [])
  refine .iloadN X0 hx (hb hby d4_0) rfl ?_
  refine .aloadN X0 hx (hb hby d4_1) rfl rfl ?_
  obtain ⟨cl5, Ar5, -, S5, N5, -, -⟩ := id V
  refine .st (fun _ => own_len hZ (len_of S5 N5) Ar5 X0 e0 hx (g := (mkF m 2 #[.val (.ref t), .val (.int i)] [(.ref t), (.int i)])) rfl rfl (hb hby d4_2) _) ?_
  show OwnGo p e below s _ _ _ s₁ (mkF m 3 _ [(.int z), (.int i)])
  obtain ⟨_, _, ⟨T6, L6, k6, n6⟩, -, X6, ⟨Lc6, hQ6, l6, y6, z6⟩, st6⟩ := Jvm.LawKit.callS X0 hx (y := (⟨"java/lang/String", "checkIndex", "(II)V"⟩ : MethodName)) hown (mvT hZ (W_ hw 31 rfl)) (mvT hZ (W_ hw 32 rfl)) (mvT hZ (W_ hw 7 rfl)) (mvT hZ (W_ hw 33 rfl)) (by decide) (backOf (W := 0) (rmscheck l Z a0 hw [] i z fmv h0 n0 Z_ O_ S_SF rf_fmv hin.1 hin.2) hZ (W_ hw 33 rfl) (W_ hw 7 rfl) (by decide) (by decide)) (g := (mkF m 3 #[.val (.ref t), .val (.int i)] [(.int z), (.int i)])) rfl (by rw [hml]; rfl) (argsL := [(.int i), (.int z)]) (rest := []) (lenOf pd_1 rfl) rfl (Nat.le_of_eq rfl) (hb hby d4_3) (fun _ _ => ⟨rfl, e0, (by decide : 0 + 0 ≤ _), (by decide : 0 + 0 ≤ _)⟩)
  dsimp only [Pt.U, Pt.locs, Pt.cells, Pt.slots] at X6 l6 y6 z6 st6 hQ6
  subst l6 y6 z6
  obtain ⟨rfl, N6q, e6⟩ := hQ6
  have N6 := Fr.app N0 N6q
  refine .st st6 ?_
  show OwnGo p e below s _ _ _ T6 (mkF m 6 _ [])
  refine .aloadN X6 hx (hb hby d4_6) rfl rfl ?_
  refine .iloadN X6 hx (hb hby d4_7) rfl ?_
  obtain ⟨cl7, Ar7, -, S7, -, H7, -⟩ := id V
  have hin7 : ¬ (i < 0 ∨ cl7.slots.size ≤ (i).toNatClampNeg) := inb_of S7 hin
  refine .st (fun _ => X6.baloadBytes hx (j := i) (v := (.int b)) (by first | exact Ar7.1 | (rw [e6]; exact Ar7.1)) (State.isArrayOf_alike hZ.alike Ar7.2.1) Ar7.2.2 hin7 (H7.at hin7 hat) (g := (mkF m 8 #[.val (.ref t), .val (.int i)] [(.int i), (.ref t)])) rfl rfl (hb hby d4_8) _) ?_
  show OwnGo p e below s _ _ _ T6 (mkF m 9 _ [(.int b)])
  refine .sipush X6 hx (hb hby d4_9) own_ks255 ?_
  refine .st (fun _ => XS.iand X6.here hx rfl (hb hby d4_12) rfl) ?_
  show OwnGo p e below s _ _ _ T6 (mkF m 13 _ [(.int (b &&& (255 : Int32)))])
  refine .st (fun _ => XS.i2c X6.here hx rfl (hb hby d4_13) rfl) ?_
  show OwnGo p e below s _ _ _ T6 (mkF m 14 _ [(.int ((b &&& (255 : Int32)).toUInt32.toUInt16.toUInt32.toInt32))])
  rw [hch]
  show OwnGo p e below s _ _ _ T6 (mkF m 14 _ [(.int ch)])
  exact OwnGo.retN X6 hx (t := .char) hret hlk (by simp) (hb hby d4_14) (by show QlcharAt Z t kc z vs i b ch fmv h0 n0 _ T6.heap _; rw [e6]; exact ⟨by rw [hcc], N6, rfl⟩) (by decide) (by decide)
def QcharAt (Z : State) (a : Addr) (t : Addr) (kc : ClassId) (z : Int32) (vs : List Value) (i : Int32) (b : Int32) (ch : Int32) (zc : Int32) (fmv : Value) (h0 : Heap) (n0 : Nat) (v : Option Value) (h : Heap) (L : List Loc) : Prop := v = some (.int ch) ∧ Fr n0 L ∧ h = h0
theorem rmcharAt (l : Launch) (Z : State) (a0 : Array Value) (hw : own_tb a0 Z) (ws : List Jvm.Cond) (a : Addr) (t : Addr) (kc : ClassId) (z : Int32) (vs : List Value) (i : Int32) (b : Int32) (ch : Int32) (zc : Int32) (fmv : Value) (h0 : Heap) (n0 : Nat) (Z0 : n0 ≤ h0.size) (O_ : Old Z n0 h0) (S_CS : Sta Z Z.heap "java/lang/String" "COMPACT_STRINGS" "Z" (.int zc)) (P_CS : ¬ zc = (0 : Int32)) (S_SF : Sta Z Z.heap "jdk/internal/util/Preconditions" "SIOOBE_FORMATTER" "Ljava/util/function/BiFunction;" fmv) (rf_fmv : fmv.isRef = true) (E_a : Exa Z h0 a "java/lang/String") (Fc : Fld Z h0 a "java/lang/String" "coder" "B" (.int (0 : Int32))) (Fv : Fld Z h0 a "java/lang/String" "value" "[B" (.ref t)) (V : Arv Z h0 t kc .byte z vs (.int (0 : Int32))) (hin : ¬ i < (0 : Int32) ∧ i < z) (hat : vs.getD i.toNatClampNeg (.int (0 : Int32)) = .int b) (hch : (b &&& (255 : Int32)).toUInt32.toUInt16.toUInt32.toInt32 = ch) (hcc : nar .char ch = ch) :
    OwnMet l (⟨"java/lang/String", "charAt", "(I)C"⟩ : MethodName) jdk_42_method_56_code 2 (some .char) ws ({ frames := 3, cells := 0, slots := 0, locals := 40 } : Room) #[(.ref a), (.int i)] Z h0 (QcharAt Z a t kc z vs i b ch zc fmv h0 n0) := by
  refine own_met (plainFor_of_name pn_5) ?_
  intro p e s m below meth c s₁ X0 hx hby hml hret hlk hown hnm hZ e0
  have N0 := Fr.nil n0
  have Z_ := Z0
  refine OwnGo.cast (ef_charAt m a i) ?_
  show OwnGo p e below s _ _ _ s₁ (mkF m 0 _ [])
  refine .aloadN X0 hx (hb hby d2_0) rfl rfl ?_
  obtain ⟨cq8, kq8, q8a, q8b, q8c⟩ := isOf hZ e0 E_a
  obtain ⟨_, _, ⟨T8, L8, k8, n8⟩, -, X8, ⟨Lc8, hQ8, l8, y8, z8⟩, st8⟩ := X0.virtualBack hx (y := (⟨"java/lang/String", "isLatin1", "()Z"⟩ : MethodName)) (z := (⟨"java/lang/String", "isLatin1", "()Z"⟩ : MethodName)) hown (mvT hZ (W_ hw 19 rfl)) (mvT hZ (W_ hw 20 rfl)) (notFace_of_selects (args := #[]) (mvT hZ (W_ hw 22 rfl))) (mvT hZ (W_ hw 22 rfl)) (mvT hZ (W_ hw 21 rfl)) (by decide) (backOf (W := 0) (rmisLatin1 l Z a0 hw [] a zc h0 n0 Z_ O_ S_CS P_CS Fc) hZ (W_ hw 23 rfl) (W_ hw 7 rfl) (by decide) (by decide)) q8a q8c (g := (mkF m 1 #[.val (.ref a), .val (.int i)] [(.ref a)])) rfl (by rw [hml]; rfl) (Steps.refl _) (argsL := []) (rest := []) (lenOf pd_2 rfl) rfl (Nat.le_of_eq rfl) (hb hby d2_1) (fun _ _ => ⟨rfl, e0, (by decide : 0 + 0 ≤ _), (by decide : 0 + 0 ≤ _)⟩)
  dsimp only [Pt.U, Pt.locs, Pt.cells, Pt.slots] at X8 l8 y8 z8 st8 hQ8
  subst l8 y8 z8
  obtain ⟨rfl, N8q, e8⟩ := hQ8
  have N8 := Fr.app N0 N8q
  refine .st (fun _ => st8.trans) ?_
  show OwnGo p e below s _ _ _ T8 (mkF m 4 _ [(.int (1 : Int32))])
  refine .ifNo X8 hx (hb hby d2_4) ((if0 _ _).trans (feq ((by decide) : ¬ ((1 : Int32) = (0 : Int32)))).1) ?_
  refine .aloadN X8 hx (hb hby d2_7) rfl rfl ?_
  obtain ⟨T9, X9, e9, st9⟩ := getF X8 hx hZ hown (host := "") (Or.inl (W_ hw 26 rfl)) Via.refl e8 Fv (g := (mkF m 8 #[.val (.ref a), .val (.int i)] [(.ref a)])) rfl rfl (hb hby d2_8)
  refine .st st9 ?_
  show OwnGo p e below s _ _ _ T9 (mkF m 11 _ [(.ref t)])
  refine .iloadN X9 hx (hb hby d2_11) rfl ?_
  obtain ⟨_, _, ⟨T10, L10, k10, n10⟩, -, X10, ⟨Lc10, hQ10, l10, y10, z10⟩, st10⟩ := Jvm.LawKit.callS X9 hx (y := (⟨"java/lang/StringLatin1", "charAt", "([BI)C"⟩ : MethodName)) hown (mvT hZ (W_ hw 27 rfl)) (mvT hZ (W_ hw 28 rfl)) (mvT hZ (W_ hw 29 rfl)) (mvT hZ (W_ hw 30 rfl)) (by decide) (backOf (W := 0) (rmlcharAt l Z a0 hw [] t kc z vs i b ch fmv h0 n0 Z_ O_ S_SF rf_fmv V hin hat hch hcc) hZ (W_ hw 30 rfl) (W_ hw 29 rfl) (by decide) (by decide)) (g := (mkF m 12 #[.val (.ref a), .val (.int i)] [(.int i), (.ref t)])) rfl (by rw [hml]; rfl) (argsL := [(.ref t), (.int i)]) (rest := []) (lenOf pd_3 rfl) rfl (Nat.le_of_eq rfl) (hb hby d2_12) (fun _ _ => ⟨rfl, e9, (by decide : 0 + 0 ≤ _), (by decide : 0 + 0 ≤ _)⟩)
  dsimp only [Pt.U, Pt.locs, Pt.cells, Pt.slots] at X10 l10 y10 z10 st10 hQ10
  subst l10 y10 z10
  obtain ⟨rfl, N10q, e10⟩ := hQ10
  have N10 := Fr.app N8 N10q
  refine .st st10 ?_
  show OwnGo p e below s _ _ _ T10 (mkF m 15 _ [(.int ch)])
  exact OwnGo.retN X10 hx (t := .char) hret hlk (by simp) (hb hby d2_15) (by show QcharAt Z a t kc z vs i b ch zc fmv h0 n0 _ T10.heap _; rw [e10]; exact ⟨by rw [hcc], N10, rfl⟩) (by decide) (by decide)
def Qat (Z : State) (i : Int32) (lt : Int32) (mo : Int32) (kk : Int32) (bi : Int32) (aa : Int64) (ab : Int64) (zc : Int32) (fmv : Value) (h0 : Heap) (n0 : Nat) (v : Option Value) (h : Heap) (L : List Loc) : Prop := ∃ ch : Int32, v = some (.int ch) ∧ Fr n0 L ∧ Keep h0 h [] ∧ (¬ ch < 0 ∧ ¬ (255 : Int32) < ch)
theorem rmat (l : Launch) (Z : State) (a0 : Array Value) (hw : own_tb a0 Z) (ws : List Jvm.Cond) (i : Int32) (lt : Int32) (mo : Int32) (kk : Int32) (bi : Int32) (aa : Int64) (ab : Int64) (zc : Int32) (fmv : Value) (h0 : Heap) (n0 : Nat) (Z0 : n0 ≤ h0.size) (O_ : Old Z n0 h0) (S_CS : Sta Z Z.heap "java/lang/String" "COMPACT_STRINGS" "Z" (.int zc)) (P_CS : ¬ zc = (0 : Int32)) (S_SF : Sta Z Z.heap "jdk/internal/util/Preconditions" "SIOOBE_FORMATTER" "Ljava/util/function/BiFunction;" fmv) (rf_fmv : fmv.isRef = true) (hi : ¬ i < (0 : Int32)) :
    OwnMetW l (⟨"com/example/mapweft/mapweft/OptionsIsVerbosePinLaw", "at", "(IZIIIJJ)C"⟩ : MethodName) method_3_code 14 (some .char) ws ({ frames := 4, cells := 2, slots := 40, locals := 53 } : Room) #[(.int i), (.int lt), (.int mo), (.int kk), (.int bi), (.long aa), (.long ab)] Z h0 (Qat Z i lt mo kk bi aa ab zc fmv h0 n0) := by
  refine own_metW (EL := own_EL) (plainFor_of_name pn_1) ?_
  intro p e s m below meth c s₁ X0 hx hby hml hret hlk hown hnm hZ e0 hS_ CR
  have hk_ := Nat.le_refl h0.size
  have N0 := Fr.nil n0
  have Z_ := Z0
  refine OwnGoW.cast (ef_at m i lt mo kk bi aa ab) ?_
  show OwnGoW p e below s Z own_EL _ _ _ s₁ (mkF m 0 _ [])
  have Kp : Keep h0 h0 [] := Keep.refl h0 []
  refine .iloadN X0 hx (hb hby d1_0) rfl ?_
  refine .bipush X0 hx (hb hby d1_1) own_kb8 ?_
  refine OwnGoW.join (T1 := s₁) (P := fun z_ : Int64 × Int32 × Int32 => ¬ z_.2.2 < 0 ∧ ¬ (255 : Int32) < z_.2.2) (f := fun z_ : Int64 × Int32 × Int32 => mkF m 50 #[.val (.int i), .val (.int lt), .val (.int mo), .val (.int kk), .val (.int bi), .val (.long aa), .second, .val (.long ab), .second, .val (.long z_.1), .second, .val (.int z_.2.1), .val (.int z_.2.2), .unset] []) ?_ ?_
  · intro z_ hp_dr
    obtain ⟨wd, sh, dr⟩ := z_
    replace hp_dr : ¬ dr < 0 ∧ ¬ (255 : Int32) < dr := hp_dr
    show OwnGoW p e below s Z own_EL _ _ _ s₁ (mkF m 50 #[.val (.int i), .val (.int lt), .val (.int mo), .val (.int kk), .val (.int bi), .val (.long aa), .second, .val (.long ab), .second, .val (.long wd), .second, .val (.int sh), .val (.int dr), .unset] [])
    refine OwnGoW.join (T1 := s₁) (P := fun z_ : Int32 => True) (f := fun z_ : Int32 => mkF m 96 #[.val (.int i), .val (.int lt), .val (.int mo), .val (.int kk), .val (.int bi), .val (.long aa), .second, .val (.long ab), .second, .val (.long wd), .second, .val (.int sh), .val (.int dr), .val (.int z_)] []) ?_ ?_
    · intro z_ hj
      obtain ⟨us, hz_⟩ : ∃ u : Int32, u = z_ := ⟨_, rfl⟩
      subst hz_
      show OwnGoW p e below s Z own_EL _ _ _ s₁ (mkF m 96 #[.val (.int i), .val (.int lt), .val (.int mo), .val (.int kk), .val (.int bi), .val (.long aa), .second, .val (.long ab), .second, .val (.long wd), .second, .val (.int sh), .val (.int dr), .val (.int us)] [])
      refine .iload X0 hx (hb hby d1_96) rfl ?_
      by_cases qu : us = (0 : Int32)
      · refine .ifNo X0 hx (hb hby d1_98) ((if0 _ _).trans (teq (qu : us = (0 : Int32))).2) ?_
        refine .iload X0 hx (hb hby d1_101) rfl ?_
        exact OwnGoW.retN (s := s) (vm0 := s.vm) X0 hS_ hk_ e0 hZ (own_hEL hw) CR hx (t := .char) hret hlk (by simp) (hb hby d1_103) (by show Qat Z i lt mo kk bi aa ab zc fmv h0 n0 _ s₁.heap _; rw [e0]; exact ⟨dr, by rw [own_lnc hp_dr], N0, Kp, hp_dr⟩) (by decide) (by decide)
      · refine .ifYes (pc := 98) X0 hx 104 (hb hby d1_98) ((if0 _ _).trans (feq (qu : ¬ (us = (0 : Int32)))).2) (by decide) (by decide) ?_
        refine .iloadN X0 hx (hb hby d1_104) rfl ?_
        by_cases ql : lt = (0 : Int32)
        · refine .ifYes (pc := 105) X0 hx 124 (hb hby d1_105) ((if0 _ _).trans (teq (ql : lt = (0 : Int32))).1) (by decide) (by decide) ?_
          refine .iloadN X0 hx (hb hby d1_124) rfl ?_
          refine .iconst X0 hx (hb hby d1_125) own_ki2 ?_
          by_cases q2 : i < (2 : Int32)
          · refine .icmpNo X0 hx (hb hby d1_126) (tlt (q2 : i < (2 : Int32))).2.1 ?_
            obtain ⟨a15, T15, h15, k1_15, b15, kc15, X15, e15, E15, hS_, hkN, hZ, hown, Ea_, Fc_, Fv_, Vb_, -, -, CN, -, sN, st15⟩ := ldcCH (s := s) (vm0 := s.vm) X0 hx hZ hown (W_ hw 76 rfl) (own_wS hw) e0 hS_ hk_ (own_hEL hw) (by decide) CR.1 (vs := [(.int (45 : Int32)), (.int (118 : Int32))]) (z := (2 : Int32)) ⟨by decide, rfl⟩ (by decide) (by decide) (g := (mkF m 129 #[.val (.int i), .val (.int lt), .val (.int mo), .val (.int kk), .val (.int bi), .val (.long aa), .second, .val (.long ab), .second, .val (.long wd), .second, .val (.int sh), .val (.int dr), .val (.int us)] [])) rfl (hb hby d1_129) (n := 8) (by decide) (by decide) (by decide) (by decide)
            have O_ := O_.ext E15
            have Kp := Kp.ext E15
            have CR := CR.trans CN
            have hk_ := hkN
            have Z_ : n0 ≤ h15.size := Nat.le_trans Z_ E15.1
            have E_a15 := Ea_
            have Fc_a15 := Fc_
            have Fv_a15 := Fv_
            have V_b15 := Vb_
            refine .st st15 ?_
            show OwnGoW p e below s Z own_EL _ _ _ T15 (mkF m 131 _ [(.ref a15)])
            refine .iloadN X15 hx (hb hby d1_131) rfl ?_
            obtain ⟨bb, ch, hv1, hv2, hv3, hv4⟩ := own_vv hi q2
            obtain ⟨cq16, kq16, q16a, q16b, q16c⟩ := isOf hZ e15 E_a15
            obtain ⟨_, _, ⟨T16, L16, k16, n16⟩, -, X16, ⟨Lc16, hQ16, l16, y16, z16⟩, st16⟩ := X15.virtualBack hx (y := (⟨"java/lang/String", "charAt", "(I)C"⟩ : MethodName)) (z := (⟨"java/lang/String", "charAt", "(I)C"⟩ : MethodName)) hown (mvT hZ (W_ hw 14 rfl)) (mvT hZ (W_ hw 15 rfl)) (notFace_of_selects (args := #[]) (mvT hZ (W_ hw 17 rfl))) (mvT hZ (W_ hw 17 rfl)) (mvT hZ (W_ hw 16 rfl)) (by decide) (backOf (W := 0) (rmcharAt l Z a0 hw [] a15 b15 kc15 (2 : Int32) [(.int (45 : Int32)), (.int (118 : Int32))] i bb ch zc fmv h15 n0 Z_ O_ S_CS P_CS S_SF rf_fmv E_a15 Fc_a15 Fv_a15 V_b15 ⟨hi, q2⟩ hv1 hv2 hv3) hZ (W_ hw 18 rfl) (W_ hw 7 rfl) (by decide) (by decide)) q16a q16c (g := (mkF m 132 #[.val (.int i), .val (.int lt), .val (.int mo), .val (.int kk), .val (.int bi), .val (.long aa), .second, .val (.long ab), .second, .val (.long wd), .second, .val (.int sh), .val (.int dr), .val (.int us)] [(.int i), (.ref a15)])) rfl (by rw [hml]; rfl) (Steps.refl _) (argsL := [(.int i)]) (rest := []) (lenOf pd_4 rfl) rfl (Nat.le_of_eq rfl) (hb hby d1_132) (fun _ _ => ⟨rfl, e15, (by decide : 2 + 0 ≤ _), (by decide : 12 + 0 ≤ _)⟩)
            dsimp only [Pt.U, Pt.locs, Pt.cells, Pt.slots] at X16 l16 y16 z16 st16 hQ16
            subst l16 y16 z16
            obtain ⟨rfl, N16q, e16⟩ := hQ16
            have N16 := Fr.app N0 N16q
            refine .st (fun _ => st16.trans) ?_
            show OwnGoW p e below s Z own_EL _ _ _ T16 (mkF m 135 _ [(.int ch)])
            exact OwnGoW.retN (s := s) (vm0 := T15.vm) X16 hS_ hk_ e16 hZ (own_hEL hw) CR hx (t := .char) hret hlk (by simp) (hb hby d1_135) (by show Qat Z i lt mo kk bi aa ab zc fmv h0 n0 _ T16.heap _; rw [e16]; exact ⟨ch, by rw [hv3], N16, Kp, hv4⟩) (by decide) (by decide)
          · refine .icmpYes (pc := 126) X0 hx 136 (hb hby d1_126) (flt (q2 : ¬ (i < (2 : Int32)))).2.1 (by decide) (by decide) ?_
            refine .iload X0 hx (hb hby d1_136) rfl ?_
            exact OwnGoW.retN (s := s) (vm0 := s.vm) X0 hS_ hk_ e0 hZ (own_hEL hw) CR hx (t := .char) hret hlk (by simp) (hb hby d1_138) (by show Qat Z i lt mo kk bi aa ab zc fmv h0 n0 _ s₁.heap _; rw [e0]; exact ⟨dr, by rw [own_lnc hp_dr], N0, Kp, hp_dr⟩) (by decide) (by decide)
        · refine .ifNo X0 hx (hb hby d1_105) ((if0 _ _).trans (feq (ql : ¬ (lt = (0 : Int32)))).1) ?_
          refine .iloadN X0 hx (hb hby d1_108) rfl ?_
          refine .bipush X0 hx (hb hby d1_109) own_kb9 ?_
          by_cases q9 : i < (9 : Int32)
          · refine .icmpNo X0 hx (hb hby d1_111) (tlt (q9 : i < (9 : Int32))).2.1 ?_
            obtain ⟨a13, T13, h13, k1_13, b13, kc13, X13, e13, E13, hS_, hkN, hZ, hown, Ea_, Fc_, Fv_, Vb_, -, -, CN, -, sN, st13⟩ := ldcCH (s := s) (vm0 := s.vm) X0 hx hZ hown (W_ hw 6 rfl) (own_wS hw) e0 hS_ hk_ (own_hEL hw) (by decide) CR.1 (vs := [(.int (45 : Int32)), (.int (45 : Int32)), (.int (118 : Int32)), (.int (101 : Int32)), (.int (114 : Int32)), (.int (98 : Int32)), (.int (111 : Int32)), (.int (115 : Int32)), (.int (101 : Int32))]) (z := (9 : Int32)) ⟨by decide, rfl⟩ (by decide) (by decide) (g := (mkF m 114 #[.val (.int i), .val (.int lt), .val (.int mo), .val (.int kk), .val (.int bi), .val (.long aa), .second, .val (.long ab), .second, .val (.long wd), .second, .val (.int sh), .val (.int dr), .val (.int us)] [])) rfl (hb hby d1_114) (n := 36) (by decide) (by decide) (by decide) (by decide)
            have O_ := O_.ext E13
            have Kp := Kp.ext E13
            have CR := CR.trans CN
            have hk_ := hkN
            have Z_ : n0 ≤ h13.size := Nat.le_trans Z_ E13.1
            have E_a13 := Ea_
            have Fc_a13 := Fc_
            have Fv_a13 := Fv_
            have V_b13 := Vb_
            refine .st st13 ?_
            show OwnGoW p e below s Z own_EL _ _ _ T13 (mkF m 116 _ [(.ref a13)])
            refine .iloadN X13 hx (hb hby d1_116) rfl ?_
            obtain ⟨bb, ch, hv1, hv2, hv3, hv4⟩ := own_vb hi q9
            obtain ⟨cq14, kq14, q14a, q14b, q14c⟩ := isOf hZ e13 E_a13
            obtain ⟨_, _, ⟨T14, L14, k14, n14⟩, -, X14, ⟨Lc14, hQ14, l14, y14, z14⟩, st14⟩ := X13.virtualBack hx (y := (⟨"java/lang/String", "charAt", "(I)C"⟩ : MethodName)) (z := (⟨"java/lang/String", "charAt", "(I)C"⟩ : MethodName)) hown (mvT hZ (W_ hw 14 rfl)) (mvT hZ (W_ hw 15 rfl)) (notFace_of_selects (args := #[]) (mvT hZ (W_ hw 17 rfl))) (mvT hZ (W_ hw 17 rfl)) (mvT hZ (W_ hw 16 rfl)) (by decide) (backOf (W := 0) (rmcharAt l Z a0 hw [] a13 b13 kc13 (9 : Int32) [(.int (45 : Int32)), (.int (45 : Int32)), (.int (118 : Int32)), (.int (101 : Int32)), (.int (114 : Int32)), (.int (98 : Int32)), (.int (111 : Int32)), (.int (115 : Int32)), (.int (101 : Int32))] i bb ch zc fmv h13 n0 Z_ O_ S_CS P_CS S_SF rf_fmv E_a13 Fc_a13 Fv_a13 V_b13 ⟨hi, q9⟩ hv1 hv2 hv3) hZ (W_ hw 18 rfl) (W_ hw 7 rfl) (by decide) (by decide)) q14a q14c (g := (mkF m 117 #[.val (.int i), .val (.int lt), .val (.int mo), .val (.int kk), .val (.int bi), .val (.long aa), .second, .val (.long ab), .second, .val (.long wd), .second, .val (.int sh), .val (.int dr), .val (.int us)] [(.int i), (.ref a13)])) rfl (by rw [hml]; rfl) (Steps.refl _) (argsL := [(.int i)]) (rest := []) (lenOf pd_4 rfl) rfl (Nat.le_of_eq rfl) (hb hby d1_117) (fun _ _ => ⟨rfl, e13, (by decide : 2 + 0 ≤ _), (by decide : 40 + 0 ≤ _)⟩)
            dsimp only [Pt.U, Pt.locs, Pt.cells, Pt.slots] at X14 l14 y14 z14 st14 hQ14
            subst l14 y14 z14
            obtain ⟨rfl, N14q, e14⟩ := hQ14
            have N14 := Fr.app N0 N14q
            refine .st (fun _ => st14.trans) ?_
            show OwnGoW p e below s Z own_EL _ _ _ T14 (mkF m 120 _ [(.int ch)])
            exact OwnGoW.retN (s := s) (vm0 := T13.vm) X14 hS_ hk_ e14 hZ (own_hEL hw) CR hx (t := .char) hret hlk (by simp) (hb hby d1_120) (by show Qat Z i lt mo kk bi aa ab zc fmv h0 n0 _ T14.heap _; rw [e14]; exact ⟨ch, by rw [hv3], N14, Kp, hv4⟩) (by decide) (by decide)
          · refine .icmpYes (pc := 111) X0 hx 121 (hb hby d1_111) (flt (q9 : ¬ (i < (9 : Int32)))).2.1 (by decide) (by decide) ?_
            refine .iload X0 hx (hb hby d1_121) rfl ?_
            exact OwnGoW.retN (s := s) (vm0 := s.vm) X0 hS_ hk_ e0 hZ (own_hEL hw) CR hx (t := .char) hret hlk (by simp) (hb hby d1_123) (by show Qat Z i lt mo kk bi aa ab zc fmv h0 n0 _ s₁.heap _; rw [e0]; exact ⟨dr, by rw [own_lnc hp_dr], N0, Kp, hp_dr⟩) (by decide) (by decide)
    · intro key12
      refine .iloadN X0 hx (hb hby d1_50) rfl ?_
      by_cases qm : mo = (0 : Int32)
      · refine .ifNo X0 hx (hb hby d1_51) ((if0 _ _).trans (teq (qm : mo = (0 : Int32))).2) ?_
        refine .iconst X0 hx (hb hby d1_54) own_ki1 ?_
        refine .istore X0 hx (hb hby d1_55) (L' := #[.val (.int i), .val (.int lt), .val (.int mo), .val (.int kk), .val (.int bi), .val (.long aa), .second, .val (.long ab), .second, .val (.long wd), .second, .val (.int sh), .val (.int dr), .val (.int (1 : Int32))]) rfl ?_
        refine .goto (pc := 57) X0 hx 96 (hb hby d1_57) (by decide) (by decide) ?_
        exact key12 _ trivial
      · refine .ifYes (pc := 51) X0 hx 60 (hb hby d1_51) ((if0 _ _).trans (feq (qm : ¬ (mo = (0 : Int32)))).2) (by decide) (by decide) ?_
        refine .iloadN X0 hx (hb hby d1_60) rfl ?_
        refine .iconst X0 hx (hb hby d1_61) own_ki1 ?_
        by_cases qn : mo = (1 : Int32)
        · refine .icmpNo X0 hx (hb hby d1_62) (teq (qn : mo = (1 : Int32))).2 ?_
          refine .iloadN X0 hx (hb hby d1_65) rfl ?_
          refine .iloadN X0 hx (hb hby d1_66) rfl ?_
          by_cases qk : i = kk
          · refine .icmpYes (pc := 67) X0 hx 74 (hb hby d1_67) (teq (qk : i = kk)).1 (by decide) (by decide) ?_
            refine .iconst X0 hx (hb hby d1_74) own_ki0 ?_
            refine .istore X0 hx (hb hby d1_75) (L' := #[.val (.int i), .val (.int lt), .val (.int mo), .val (.int kk), .val (.int bi), .val (.long aa), .second, .val (.long ab), .second, .val (.long wd), .second, .val (.int sh), .val (.int dr), .val (.int (0 : Int32))]) rfl ?_
            refine .goto (pc := 77) X0 hx 96 (hb hby d1_77) (by decide) (by decide) ?_
            exact key12 _ trivial
          · refine .icmpNo X0 hx (hb hby d1_67) (feq (qk : ¬ (i = kk))).1 ?_
            refine .iconst X0 hx (hb hby d1_70) own_ki1 ?_
            refine .goto (pc := 71) X0 hx 75 (hb hby d1_71) (by decide) (by decide) ?_
            refine .istore X0 hx (hb hby d1_75) (L' := #[.val (.int i), .val (.int lt), .val (.int mo), .val (.int kk), .val (.int bi), .val (.long aa), .second, .val (.long ab), .second, .val (.long wd), .second, .val (.int sh), .val (.int dr), .val (.int (1 : Int32))]) rfl ?_
            refine .goto (pc := 77) X0 hx 96 (hb hby d1_77) (by decide) (by decide) ?_
            exact key12 _ trivial
        · refine .icmpYes (pc := 62) X0 hx 80 (hb hby d1_62) (feq (qn : ¬ (mo = (1 : Int32)))).2 (by decide) (by decide) ?_
          refine .iload X0 hx (hb hby d1_80) rfl ?_
          refine .iloadN X0 hx (hb hby d1_82) rfl ?_
          refine .st (fun _ => XS.iushr X0.here hx rfl (hb hby d1_83) rfl) ?_
          show OwnGoW p e below s Z own_EL _ _ _ s₁ (mkF m 84 _ [(.int ((bi.toUInt32 >>> (i &&& 31).toUInt32).toInt32))])
          refine .iconst X0 hx (hb hby d1_84) own_ki1 ?_
          refine .st (fun _ => XS.iand X0.here hx rfl (hb hby d1_85) rfl) ?_
          show OwnGoW p e below s Z own_EL _ _ _ s₁ (mkF m 86 _ [(.int (((bi.toUInt32 >>> (i &&& 31).toUInt32).toInt32) &&& (1 : Int32)))])
          by_cases qb : (((bi.toUInt32 >>> (i &&& 31).toUInt32).toInt32) &&& (1 : Int32)) = (0 : Int32)
          · refine .ifNo X0 hx (hb hby d1_86) ((if0 _ _).trans (teq (qb : (((bi.toUInt32 >>> (i &&& 31).toUInt32).toInt32) &&& (1 : Int32)) = (0 : Int32))).2) ?_
            refine .iconst X0 hx (hb hby d1_89) own_ki1 ?_
            refine .goto (pc := 90) X0 hx 94 (hb hby d1_90) (by decide) (by decide) ?_
            refine .istore X0 hx (hb hby d1_94) (L' := #[.val (.int i), .val (.int lt), .val (.int mo), .val (.int kk), .val (.int bi), .val (.long aa), .second, .val (.long ab), .second, .val (.long wd), .second, .val (.int sh), .val (.int dr), .val (.int (1 : Int32))]) rfl ?_
            exact key12 _ trivial
          · refine .ifYes (pc := 86) X0 hx 93 (hb hby d1_86) ((if0 _ _).trans (feq (qb : ¬ ((((bi.toUInt32 >>> (i &&& 31).toUInt32).toInt32) &&& (1 : Int32)) = (0 : Int32)))).2) (by decide) (by decide) ?_
            refine .iconst X0 hx (hb hby d1_93) own_ki0 ?_
            refine .istore X0 hx (hb hby d1_94) (L' := #[.val (.int i), .val (.int lt), .val (.int mo), .val (.int kk), .val (.int bi), .val (.long aa), .second, .val (.long ab), .second, .val (.long wd), .second, .val (.int sh), .val (.int dr), .val (.int (0 : Int32))]) rfl ?_
            exact key12 _ trivial
  · intro key11
    by_cases q8 : i < (8 : Int32)
    · refine .icmpNo X0 hx (hb hby d1_3) (tlt (q8 : i < (8 : Int32))).2.1 ?_
      refine .st (fun _ => XS.lload X0.here hx rfl (hb hby d1_6) rfl) ?_
      show OwnGoW p e below s Z own_EL _ _ _ s₁ (mkF m 8 _ [(.long aa)])
      refine .goto (pc := 8) X0 hx 13 (hb hby d1_8) (by decide) (by decide) ?_
      refine .st (fun _ => XS.lstore X0.here hx rfl (hb hby d1_13) rfl (l' := #[.val (.int i), .val (.int lt), .val (.int mo), .val (.int kk), .val (.int bi), .val (.long aa), .second, .val (.long ab), .second, .val (.long aa), .second, .unset, .unset, .unset]) rfl) ?_
      show OwnGoW p e below s Z own_EL _ _ _ s₁ (mkF m 15 _ [])
      refine .iloadN X0 hx (hb hby d1_15) rfl ?_
      refine .bipush X0 hx (hb hby d1_16) own_kb8 ?_
      refine .icmpNo X0 hx (hb hby d1_18) (tlt (q8 : i < (8 : Int32))).2.1 ?_
      refine .bipush X0 hx (hb hby d1_21) own_kb8 ?_
      refine .iloadN X0 hx (hb hby d1_23) rfl ?_
      refine .st (fun _ => XS.imul X0.here hx rfl (hb hby d1_24) rfl) ?_
      show OwnGoW p e below s Z own_EL _ _ _ s₁ (mkF m 25 _ [(.int ((8 : Int32) * i))])
      refine .goto (pc := 25) X0 hx 35 (hb hby d1_25) (by decide) (by decide) ?_
      refine .istore X0 hx (hb hby d1_35) (L' := #[.val (.int i), .val (.int lt), .val (.int mo), .val (.int kk), .val (.int bi), .val (.long aa), .second, .val (.long ab), .second, .val (.long aa), .second, .val (.int ((8 : Int32) * i)), .unset, .unset]) rfl ?_
      refine .st (fun _ => XS.lload X0.here hx rfl (hb hby d1_37) rfl) ?_
      show OwnGoW p e below s Z own_EL _ _ _ s₁ (mkF m 39 _ [(.long aa)])
      refine .iload X0 hx (hb hby d1_39) rfl ?_
      refine .st (fun _ => XS.lushr X0.here hx rfl (hb hby d1_41) rfl) ?_
      show OwnGoW p e below s Z own_EL _ _ _ s₁ (mkF m 42 _ [(.long ((aa.toUInt64 >>> (((8 : Int32) * i) &&& 0x3f).toInt64.toUInt64).toInt64))])
      refine .st (fun _ => X0.ldc2Long hx hown (mvT hZ (W_ hw 5 rfl)) (g := (mkF m 42 #[.val (.int i), .val (.int lt), .val (.int mo), .val (.int kk), .val (.int bi), .val (.long aa), .second, .val (.long ab), .second, .val (.long aa), .second, .val (.int ((8 : Int32) * i)), .unset, .unset] [(.long ((aa.toUInt64 >>> (((8 : Int32) * i) &&& 0x3f).toInt64.toUInt64).toInt64))])) rfl (hb hby d1_42) _) ?_
      show OwnGoW p e below s Z own_EL _ _ _ s₁ (mkF m 45 _ [(.long (255 : Int64)), (.long ((aa.toUInt64 >>> (((8 : Int32) * i) &&& 0x3f).toInt64.toUInt64).toInt64))])
      refine .st (fun _ => XS.land X0.here hx rfl (hb hby d1_45) rfl) ?_
      show OwnGoW p e below s Z own_EL _ _ _ s₁ (mkF m 46 _ [(.long (((aa.toUInt64 >>> (((8 : Int32) * i) &&& 0x3f).toInt64.toUInt64).toInt64) &&& (255 : Int64)))])
      refine .st (fun _ => XS.l2i X0.here hx rfl (hb hby d1_46) rfl) ?_
      show OwnGoW p e below s Z own_EL _ _ _ s₁ (mkF m 47 _ [(.int ((((aa.toUInt64 >>> (((8 : Int32) * i) &&& 0x3f).toInt64.toUInt64).toInt64) &&& (255 : Int64)).toInt32))])
      refine .st (fun _ => XS.i2c X0.here hx rfl (hb hby d1_47) rfl) ?_
      show OwnGoW p e below s Z own_EL _ _ _ s₁ (mkF m 48 _ [(.int (((((aa.toUInt64 >>> (((8 : Int32) * i) &&& 0x3f).toInt64.toUInt64).toInt64) &&& (255 : Int64)).toInt32).toUInt32.toUInt16.toUInt32.toInt32))])
      refine .istore X0 hx (hb hby d1_48) (L' := #[.val (.int i), .val (.int lt), .val (.int mo), .val (.int kk), .val (.int bi), .val (.long aa), .second, .val (.long ab), .second, .val (.long aa), .second, .val (.int ((8 : Int32) * i)), .val (.int (((((aa.toUInt64 >>> (((8 : Int32) * i) &&& 0x3f).toInt64.toUInt64).toInt64) &&& (255 : Int64)).toInt32).toUInt32.toUInt16.toUInt32.toInt32)), .unset]) rfl ?_
      exact key11 (_, _, _) (own_lml _)
    · refine .icmpYes (pc := 3) X0 hx 11 (hb hby d1_3) (flt (q8 : ¬ (i < (8 : Int32)))).2.1 (by decide) (by decide) ?_
      refine .st (fun _ => XS.lload X0.here hx rfl (hb hby d1_11) rfl) ?_
      show OwnGoW p e below s Z own_EL _ _ _ s₁ (mkF m 13 _ [(.long ab)])
      refine .st (fun _ => XS.lstore X0.here hx rfl (hb hby d1_13) rfl (l' := #[.val (.int i), .val (.int lt), .val (.int mo), .val (.int kk), .val (.int bi), .val (.long aa), .second, .val (.long ab), .second, .val (.long ab), .second, .unset, .unset, .unset]) rfl) ?_
      show OwnGoW p e below s Z own_EL _ _ _ s₁ (mkF m 15 _ [])
      refine .iloadN X0 hx (hb hby d1_15) rfl ?_
      refine .bipush X0 hx (hb hby d1_16) own_kb8 ?_
      refine .icmpYes (pc := 18) X0 hx 28 (hb hby d1_18) (flt (q8 : ¬ (i < (8 : Int32)))).2.1 (by decide) (by decide) ?_
      refine .bipush X0 hx (hb hby d1_28) own_kb8 ?_
      refine .iloadN X0 hx (hb hby d1_30) rfl ?_
      refine .bipush X0 hx (hb hby d1_31) own_kb8 ?_
      refine .st (fun _ => XS.isub X0.here hx rfl (hb hby d1_33) rfl) ?_
      show OwnGoW p e below s Z own_EL _ _ _ s₁ (mkF m 34 _ [(.int (i - (8 : Int32))), (.int (8 : Int32))])
      refine .st (fun _ => XS.imul X0.here hx rfl (hb hby d1_34) rfl) ?_
      show OwnGoW p e below s Z own_EL _ _ _ s₁ (mkF m 35 _ [(.int ((8 : Int32) * (i - (8 : Int32))))])
      refine .istore X0 hx (hb hby d1_35) (L' := #[.val (.int i), .val (.int lt), .val (.int mo), .val (.int kk), .val (.int bi), .val (.long aa), .second, .val (.long ab), .second, .val (.long ab), .second, .val (.int ((8 : Int32) * (i - (8 : Int32)))), .unset, .unset]) rfl ?_
      refine .st (fun _ => XS.lload X0.here hx rfl (hb hby d1_37) rfl) ?_
      show OwnGoW p e below s Z own_EL _ _ _ s₁ (mkF m 39 _ [(.long ab)])
      refine .iload X0 hx (hb hby d1_39) rfl ?_
      refine .st (fun _ => XS.lushr X0.here hx rfl (hb hby d1_41) rfl) ?_
      show OwnGoW p e below s Z own_EL _ _ _ s₁ (mkF m 42 _ [(.long ((ab.toUInt64 >>> (((8 : Int32) * (i - (8 : Int32))) &&& 0x3f).toInt64.toUInt64).toInt64))])
      refine .st (fun _ => X0.ldc2Long hx hown (mvT hZ (W_ hw 5 rfl)) (g := (mkF m 42 #[.val (.int i), .val (.int lt), .val (.int mo), .val (.int kk), .val (.int bi), .val (.long aa), .second, .val (.long ab), .second, .val (.long ab), .second, .val (.int ((8 : Int32) * (i - (8 : Int32)))), .unset, .unset] [(.long ((ab.toUInt64 >>> (((8 : Int32) * (i - (8 : Int32))) &&& 0x3f).toInt64.toUInt64).toInt64))])) rfl (hb hby d1_42) _) ?_
      show OwnGoW p e below s Z own_EL _ _ _ s₁ (mkF m 45 _ [(.long (255 : Int64)), (.long ((ab.toUInt64 >>> (((8 : Int32) * (i - (8 : Int32))) &&& 0x3f).toInt64.toUInt64).toInt64))])
      refine .st (fun _ => XS.land X0.here hx rfl (hb hby d1_45) rfl) ?_
      show OwnGoW p e below s Z own_EL _ _ _ s₁ (mkF m 46 _ [(.long (((ab.toUInt64 >>> (((8 : Int32) * (i - (8 : Int32))) &&& 0x3f).toInt64.toUInt64).toInt64) &&& (255 : Int64)))])
      refine .st (fun _ => XS.l2i X0.here hx rfl (hb hby d1_46) rfl) ?_
      show OwnGoW p e below s Z own_EL _ _ _ s₁ (mkF m 47 _ [(.int ((((ab.toUInt64 >>> (((8 : Int32) * (i - (8 : Int32))) &&& 0x3f).toInt64.toUInt64).toInt64) &&& (255 : Int64)).toInt32))])
      refine .st (fun _ => XS.i2c X0.here hx rfl (hb hby d1_47) rfl) ?_
      show OwnGoW p e below s Z own_EL _ _ _ s₁ (mkF m 48 _ [(.int (((((ab.toUInt64 >>> (((8 : Int32) * (i - (8 : Int32))) &&& 0x3f).toInt64.toUInt64).toInt64) &&& (255 : Int64)).toInt32).toUInt32.toUInt16.toUInt32.toInt32))])
      refine .istore X0 hx (hb hby d1_48) (L' := #[.val (.int i), .val (.int lt), .val (.int mo), .val (.int kk), .val (.int bi), .val (.long aa), .second, .val (.long ab), .second, .val (.long ab), .second, .val (.int ((8 : Int32) * (i - (8 : Int32)))), .val (.int (((((ab.toUInt64 >>> (((8 : Int32) * (i - (8 : Int32))) &&& 0x3f).toInt64.toUInt64).toInt64) &&& (255 : Int64)).toInt32).toUInt32.toUInt16.toUInt32.toInt32)), .unset]) rfl ?_
      exact key11 (_, _, _) (own_lml _)
def Qle9 (Z : State) (t : Addr) (kt : ClassId) (b : Addr) (kb : ClassId) (b0 : Int32) (b1 : Int32) (b2 : Int32) (b3 : Int32) (b4 : Int32) (b5 : Int32) (b6 : Int32) (b7 : Int32) (b8 : Int32) (h0 : Heap) (n0 : Nat) (v : Option Value) (h : Heap) (L : List Loc) : Prop := ∃ r : Int32, v = some (.int r) ∧ Fr n0 L ∧ h = h0 ∧ ((r = (1 : Int32) ∧ (b0 = (45 : Int32) ∧ b1 = (45 : Int32) ∧ b2 = (118 : Int32) ∧ b3 = (101 : Int32) ∧ b4 = (114 : Int32) ∧ b5 = (98 : Int32) ∧ b6 = (111 : Int32) ∧ b7 = (115 : Int32) ∧ b8 = (101 : Int32))) ∨ (r = (0 : Int32) ∧ ¬ (b0 = (45 : Int32) ∧ b1 = (45 : Int32) ∧ b2 = (118 : Int32) ∧ b3 = (101 : Int32) ∧ b4 = (114 : Int32) ∧ b5 = (98 : Int32) ∧ b6 = (111 : Int32) ∧ b7 = (115 : Int32) ∧ b8 = (101 : Int32))))
theorem rmle9 (l : Launch) (Z : State) (a0 : Array Value) (hw : own_tb a0 Z) (ws : List Jvm.Cond) (t : Addr) (kt : ClassId) (b : Addr) (kb : ClassId) (b0 : Int32) (b1 : Int32) (b2 : Int32) (b3 : Int32) (b4 : Int32) (b5 : Int32) (b6 : Int32) (b7 : Int32) (b8 : Int32) (h0 : Heap) (n0 : Nat) (Z0 : n0 ≤ h0.size) (V_t : Arv Z h0 t kt .byte (9 : Int32) [(.int b0), (.int b1), (.int b2), (.int b3), (.int b4), (.int b5), (.int b6), (.int b7), (.int b8)] (.int (0 : Int32))) (V_b : Arv Z h0 b kb .byte (9 : Int32) [(.int (45 : Int32)), (.int (45 : Int32)), (.int (118 : Int32)), (.int (101 : Int32)), (.int (114 : Int32)), (.int (98 : Int32)), (.int (111 : Int32)), (.int (115 : Int32)), (.int (101 : Int32))] (.int (0 : Int32))) :
    OwnMet l (⟨"java/lang/StringLatin1", "equals", "([B[B)Z"⟩ : MethodName) jdk_43_method_13_code 3 (some .boolean) ws ({ frames := 0, cells := 0, slots := 0, locals := 0 } : Room) #[(.ref t), (.ref b)] Z h0 (Qle9 Z t kt b kb b0 b1 b2 b3 b4 b5 b6 b7 b8 h0 n0) := by
  refine own_met (plainFor_of_name pn_4) ?_
  intro p e s m below meth c s₁ X0 hx hby hml hret hlk hown hnm hZ e0
  have N0 := Fr.nil n0
  have Z_ := Z0
  refine OwnGo.cast (ef_le9 m t b) ?_
  show OwnGo p e below s _ _ _ s₁ (mkF m 0 _ [])
  refine .aloadN X0 hx (hb hby d12_0) rfl rfl ?_
  obtain ⟨cl17, Ar17, -, S17, N17, -, -⟩ := id V_t
  refine .st (fun _ => own_len hZ (len_of S17 N17) Ar17 X0 e0 hx (g := (mkF m 1 #[.val (.ref t), .val (.ref b), .unset] [(.ref t)])) rfl rfl (hb hby d12_1) _) ?_
  show OwnGo p e below s _ _ _ s₁ (mkF m 2 _ [(.int (9 : Int32))])
  refine .aloadN X0 hx (hb hby d12_2) rfl rfl ?_
  obtain ⟨cl18, Ar18, -, S18, N18, -, -⟩ := id V_b
  refine .st (fun _ => own_len hZ (len_of S18 N18) Ar18 X0 e0 hx (g := (mkF m 3 #[.val (.ref t), .val (.ref b), .unset] [(.ref b), (.int (9 : Int32))])) rfl rfl (hb hby d12_3) _) ?_
  show OwnGo p e below s _ _ _ s₁ (mkF m 4 _ [(.int (9 : Int32)), (.int (9 : Int32))])
  refine .icmpNo X0 hx (hb hby d12_4) (teq ((by decide) : (9 : Int32) = (9 : Int32))).2 ?_
  refine .iconst X0 hx (hb hby d12_7) own_ki0 ?_
  refine .istoreN X0 hx (hb hby d12_8) (L' := #[.val (.ref t), .val (.ref b), .val (.int (0 : Int32))]) rfl ?_
  refine .iloadN X0 hx (hb hby d12_9) rfl ?_
  refine .aloadN X0 hx (hb hby d12_10) rfl rfl ?_
  obtain ⟨cl19, Ar19, -, S19, N19, -, -⟩ := id V_t
  refine .st (fun _ => own_len hZ (len_of S19 N19) Ar19 X0 e0 hx (g := (mkF m 11 #[.val (.ref t), .val (.ref b), .val (.int (0 : Int32))] [(.ref t), (.int (0 : Int32))])) rfl rfl (hb hby d12_11) _) ?_
  show OwnGo p e below s _ _ _ s₁ (mkF m 12 _ [(.int (9 : Int32)), (.int (0 : Int32))])
  refine .icmpNo X0 hx (hb hby d12_12) (tlt ((by decide) : (0 : Int32) < (9 : Int32))).2.1 ?_
  refine .aloadN X0 hx (hb hby d12_15) rfl rfl ?_
  refine .iloadN X0 hx (hb hby d12_16) rfl ?_
  obtain ⟨cl20, Ar20, -, S20, -, H20, -⟩ := id V_t
  have hin20 : ¬ ((0 : Int32) < 0 ∨ cl20.slots.size ≤ ((0 : Int32)).toNatClampNeg) := inb_of S20 ⟨by decide, by decide⟩
  refine .st (fun _ => X0.baloadBytes hx (j := (0 : Int32)) (v := (.int b0)) (by first | exact Ar20.1 | (rw [e0]; exact Ar20.1)) (State.isArrayOf_alike hZ.alike Ar20.2.1) Ar20.2.2 hin20 (H20.at hin20 rfl) (g := (mkF m 17 #[.val (.ref t), .val (.ref b), .val (.int (0 : Int32))] [(.int (0 : Int32)), (.ref t)])) rfl rfl (hb hby d12_17) _) ?_
  show OwnGo p e below s _ _ _ s₁ (mkF m 18 _ [(.int b0)])
  refine .aloadN X0 hx (hb hby d12_18) rfl rfl ?_
  refine .iloadN X0 hx (hb hby d12_19) rfl ?_
  obtain ⟨cl21, Ar21, -, S21, -, H21, -⟩ := id V_b
  have hin21 : ¬ ((0 : Int32) < 0 ∨ cl21.slots.size ≤ ((0 : Int32)).toNatClampNeg) := inb_of S21 ⟨by decide, by decide⟩
  refine .st (fun _ => X0.baloadBytes hx (j := (0 : Int32)) (v := (.int (45 : Int32))) (by first | exact Ar21.1 | (rw [e0]; exact Ar21.1)) (State.isArrayOf_alike hZ.alike Ar21.2.1) Ar21.2.2 hin21 (H21.at hin21 rfl) (g := (mkF m 20 #[.val (.ref t), .val (.ref b), .val (.int (0 : Int32))] [(.int (0 : Int32)), (.ref b), (.int b0)])) rfl rfl (hb hby d12_20) _) ?_
  show OwnGo p e below s _ _ _ s₁ (mkF m 21 _ [(.int (45 : Int32)), (.int b0)])
  by_cases q0 : b0 = (45 : Int32)
  · refine .icmpYes (pc := 21) X0 hx 26 (hb hby d12_21) (teq (q0 : b0 = (45 : Int32))).1 (by decide) (by decide) ?_
    refine .iinc X0 hx (hb hby d12_26) rfl own_ka0_1 (L' := #[.val (.ref t), .val (.ref b), .val (.int (1 : Int32))]) rfl ?_
    refine .goto (pc := 29) X0 hx 9 (hb hby d12_29) (by decide) (by decide) ?_
    refine .iloadN X0 hx (hb hby d12_9) rfl ?_
    refine .aloadN X0 hx (hb hby d12_10) rfl rfl ?_
    obtain ⟨cl22, Ar22, -, S22, N22, -, -⟩ := id V_t
    refine .st (fun _ => own_len hZ (len_of S22 N22) Ar22 X0 e0 hx (g := (mkF m 11 #[.val (.ref t), .val (.ref b), .val (.int (1 : Int32))] [(.ref t), (.int (1 : Int32))])) rfl rfl (hb hby d12_11) _) ?_
    show OwnGo p e below s _ _ _ s₁ (mkF m 12 _ [(.int (9 : Int32)), (.int (1 : Int32))])
    refine .icmpNo X0 hx (hb hby d12_12) (tlt ((by decide) : (1 : Int32) < (9 : Int32))).2.1 ?_
    refine .aloadN X0 hx (hb hby d12_15) rfl rfl ?_
    refine .iloadN X0 hx (hb hby d12_16) rfl ?_
    obtain ⟨cl23, Ar23, -, S23, -, H23, -⟩ := id V_t
    have hin23 : ¬ ((1 : Int32) < 0 ∨ cl23.slots.size ≤ ((1 : Int32)).toNatClampNeg) := inb_of S23 ⟨by decide, by decide⟩
    refine .st (fun _ => X0.baloadBytes hx (j := (1 : Int32)) (v := (.int b1)) (by first | exact Ar23.1 | (rw [e0]; exact Ar23.1)) (State.isArrayOf_alike hZ.alike Ar23.2.1) Ar23.2.2 hin23 (H23.at hin23 rfl) (g := (mkF m 17 #[.val (.ref t), .val (.ref b), .val (.int (1 : Int32))] [(.int (1 : Int32)), (.ref t)])) rfl rfl (hb hby d12_17) _) ?_
    show OwnGo p e below s _ _ _ s₁ (mkF m 18 _ [(.int b1)])
    refine .aloadN X0 hx (hb hby d12_18) rfl rfl ?_
    refine .iloadN X0 hx (hb hby d12_19) rfl ?_
    obtain ⟨cl24, Ar24, -, S24, -, H24, -⟩ := id V_b
    have hin24 : ¬ ((1 : Int32) < 0 ∨ cl24.slots.size ≤ ((1 : Int32)).toNatClampNeg) := inb_of S24 ⟨by decide, by decide⟩
    refine .st (fun _ => X0.baloadBytes hx (j := (1 : Int32)) (v := (.int (45 : Int32))) (by first | exact Ar24.1 | (rw [e0]; exact Ar24.1)) (State.isArrayOf_alike hZ.alike Ar24.2.1) Ar24.2.2 hin24 (H24.at hin24 rfl) (g := (mkF m 20 #[.val (.ref t), .val (.ref b), .val (.int (1 : Int32))] [(.int (1 : Int32)), (.ref b), (.int b1)])) rfl rfl (hb hby d12_20) _) ?_
    show OwnGo p e below s _ _ _ s₁ (mkF m 21 _ [(.int (45 : Int32)), (.int b1)])
    by_cases q1 : b1 = (45 : Int32)
    · refine .icmpYes (pc := 21) X0 hx 26 (hb hby d12_21) (teq (q1 : b1 = (45 : Int32))).1 (by decide) (by decide) ?_
      refine .iinc X0 hx (hb hby d12_26) rfl own_ka1_1 (L' := #[.val (.ref t), .val (.ref b), .val (.int (2 : Int32))]) rfl ?_
      refine .goto (pc := 29) X0 hx 9 (hb hby d12_29) (by decide) (by decide) ?_
      refine .iloadN X0 hx (hb hby d12_9) rfl ?_
      refine .aloadN X0 hx (hb hby d12_10) rfl rfl ?_
      obtain ⟨cl25, Ar25, -, S25, N25, -, -⟩ := id V_t
      refine .st (fun _ => own_len hZ (len_of S25 N25) Ar25 X0 e0 hx (g := (mkF m 11 #[.val (.ref t), .val (.ref b), .val (.int (2 : Int32))] [(.ref t), (.int (2 : Int32))])) rfl rfl (hb hby d12_11) _) ?_
      show OwnGo p e below s _ _ _ s₁ (mkF m 12 _ [(.int (9 : Int32)), (.int (2 : Int32))])
      refine .icmpNo X0 hx (hb hby d12_12) (tlt ((by decide) : (2 : Int32) < (9 : Int32))).2.1 ?_
      refine .aloadN X0 hx (hb hby d12_15) rfl rfl ?_
      refine .iloadN X0 hx (hb hby d12_16) rfl ?_
      obtain ⟨cl26, Ar26, -, S26, -, H26, -⟩ := id V_t
      have hin26 : ¬ ((2 : Int32) < 0 ∨ cl26.slots.size ≤ ((2 : Int32)).toNatClampNeg) := inb_of S26 ⟨by decide, by decide⟩
      refine .st (fun _ => X0.baloadBytes hx (j := (2 : Int32)) (v := (.int b2)) (by first | exact Ar26.1 | (rw [e0]; exact Ar26.1)) (State.isArrayOf_alike hZ.alike Ar26.2.1) Ar26.2.2 hin26 (H26.at hin26 rfl) (g := (mkF m 17 #[.val (.ref t), .val (.ref b), .val (.int (2 : Int32))] [(.int (2 : Int32)), (.ref t)])) rfl rfl (hb hby d12_17) _) ?_
      show OwnGo p e below s _ _ _ s₁ (mkF m 18 _ [(.int b2)])
      refine .aloadN X0 hx (hb hby d12_18) rfl rfl ?_
      refine .iloadN X0 hx (hb hby d12_19) rfl ?_
      obtain ⟨cl27, Ar27, -, S27, -, H27, -⟩ := id V_b
      have hin27 : ¬ ((2 : Int32) < 0 ∨ cl27.slots.size ≤ ((2 : Int32)).toNatClampNeg) := inb_of S27 ⟨by decide, by decide⟩
      refine .st (fun _ => X0.baloadBytes hx (j := (2 : Int32)) (v := (.int (118 : Int32))) (by first | exact Ar27.1 | (rw [e0]; exact Ar27.1)) (State.isArrayOf_alike hZ.alike Ar27.2.1) Ar27.2.2 hin27 (H27.at hin27 rfl) (g := (mkF m 20 #[.val (.ref t), .val (.ref b), .val (.int (2 : Int32))] [(.int (2 : Int32)), (.ref b), (.int b2)])) rfl rfl (hb hby d12_20) _) ?_
      show OwnGo p e below s _ _ _ s₁ (mkF m 21 _ [(.int (118 : Int32)), (.int b2)])
      by_cases q2 : b2 = (118 : Int32)
      · refine .icmpYes (pc := 21) X0 hx 26 (hb hby d12_21) (teq (q2 : b2 = (118 : Int32))).1 (by decide) (by decide) ?_
        refine .iinc X0 hx (hb hby d12_26) rfl own_ka2_1 (L' := #[.val (.ref t), .val (.ref b), .val (.int (3 : Int32))]) rfl ?_
        refine .goto (pc := 29) X0 hx 9 (hb hby d12_29) (by decide) (by decide) ?_
        refine .iloadN X0 hx (hb hby d12_9) rfl ?_
        refine .aloadN X0 hx (hb hby d12_10) rfl rfl ?_
        obtain ⟨cl28, Ar28, -, S28, N28, -, -⟩ := id V_t
        refine .st (fun _ => own_len hZ (len_of S28 N28) Ar28 X0 e0 hx (g := (mkF m 11 #[.val (.ref t), .val (.ref b), .val (.int (3 : Int32))] [(.ref t), (.int (3 : Int32))])) rfl rfl (hb hby d12_11) _) ?_
        show OwnGo p e below s _ _ _ s₁ (mkF m 12 _ [(.int (9 : Int32)), (.int (3 : Int32))])
        refine .icmpNo X0 hx (hb hby d12_12) (tlt ((by decide) : (3 : Int32) < (9 : Int32))).2.1 ?_
        refine .aloadN X0 hx (hb hby d12_15) rfl rfl ?_
        refine .iloadN X0 hx (hb hby d12_16) rfl ?_
        obtain ⟨cl29, Ar29, -, S29, -, H29, -⟩ := id V_t
        have hin29 : ¬ ((3 : Int32) < 0 ∨ cl29.slots.size ≤ ((3 : Int32)).toNatClampNeg) := inb_of S29 ⟨by decide, by decide⟩
        refine .st (fun _ => X0.baloadBytes hx (j := (3 : Int32)) (v := (.int b3)) (by first | exact Ar29.1 | (rw [e0]; exact Ar29.1)) (State.isArrayOf_alike hZ.alike Ar29.2.1) Ar29.2.2 hin29 (H29.at hin29 rfl) (g := (mkF m 17 #[.val (.ref t), .val (.ref b), .val (.int (3 : Int32))] [(.int (3 : Int32)), (.ref t)])) rfl rfl (hb hby d12_17) _) ?_
        show OwnGo p e below s _ _ _ s₁ (mkF m 18 _ [(.int b3)])
        refine .aloadN X0 hx (hb hby d12_18) rfl rfl ?_
        refine .iloadN X0 hx (hb hby d12_19) rfl ?_
        obtain ⟨cl30, Ar30, -, S30, -, H30, -⟩ := id V_b
        have hin30 : ¬ ((3 : Int32) < 0 ∨ cl30.slots.size ≤ ((3 : Int32)).toNatClampNeg) := inb_of S30 ⟨by decide, by decide⟩
        refine .st (fun _ => X0.baloadBytes hx (j := (3 : Int32)) (v := (.int (101 : Int32))) (by first | exact Ar30.1 | (rw [e0]; exact Ar30.1)) (State.isArrayOf_alike hZ.alike Ar30.2.1) Ar30.2.2 hin30 (H30.at hin30 rfl) (g := (mkF m 20 #[.val (.ref t), .val (.ref b), .val (.int (3 : Int32))] [(.int (3 : Int32)), (.ref b), (.int b3)])) rfl rfl (hb hby d12_20) _) ?_
        show OwnGo p e below s _ _ _ s₁ (mkF m 21 _ [(.int (101 : Int32)), (.int b3)])
        by_cases q3 : b3 = (101 : Int32)
        · refine .icmpYes (pc := 21) X0 hx 26 (hb hby d12_21) (teq (q3 : b3 = (101 : Int32))).1 (by decide) (by decide) ?_
          refine .iinc X0 hx (hb hby d12_26) rfl own_ka3_1 (L' := #[.val (.ref t), .val (.ref b), .val (.int (4 : Int32))]) rfl ?_
          refine .goto (pc := 29) X0 hx 9 (hb hby d12_29) (by decide) (by decide) ?_
          refine .iloadN X0 hx (hb hby d12_9) rfl ?_
          refine .aloadN X0 hx (hb hby d12_10) rfl rfl ?_
          obtain ⟨cl31, Ar31, -, S31, N31, -, -⟩ := id V_t
          refine .st (fun _ => own_len hZ (len_of S31 N31) Ar31 X0 e0 hx (g := (mkF m 11 #[.val (.ref t), .val (.ref b), .val (.int (4 : Int32))] [(.ref t), (.int (4 : Int32))])) rfl rfl (hb hby d12_11) _) ?_
          show OwnGo p e below s _ _ _ s₁ (mkF m 12 _ [(.int (9 : Int32)), (.int (4 : Int32))])
          refine .icmpNo X0 hx (hb hby d12_12) (tlt ((by decide) : (4 : Int32) < (9 : Int32))).2.1 ?_
          refine .aloadN X0 hx (hb hby d12_15) rfl rfl ?_
          refine .iloadN X0 hx (hb hby d12_16) rfl ?_
          obtain ⟨cl32, Ar32, -, S32, -, H32, -⟩ := id V_t
          have hin32 : ¬ ((4 : Int32) < 0 ∨ cl32.slots.size ≤ ((4 : Int32)).toNatClampNeg) := inb_of S32 ⟨by decide, by decide⟩
          refine .st (fun _ => X0.baloadBytes hx (j := (4 : Int32)) (v := (.int b4)) (by first | exact Ar32.1 | (rw [e0]; exact Ar32.1)) (State.isArrayOf_alike hZ.alike Ar32.2.1) Ar32.2.2 hin32 (H32.at hin32 rfl) (g := (mkF m 17 #[.val (.ref t), .val (.ref b), .val (.int (4 : Int32))] [(.int (4 : Int32)), (.ref t)])) rfl rfl (hb hby d12_17) _) ?_
          show OwnGo p e below s _ _ _ s₁ (mkF m 18 _ [(.int b4)])
          refine .aloadN X0 hx (hb hby d12_18) rfl rfl ?_
          refine .iloadN X0 hx (hb hby d12_19) rfl ?_
          obtain ⟨cl33, Ar33, -, S33, -, H33, -⟩ := id V_b
          have hin33 : ¬ ((4 : Int32) < 0 ∨ cl33.slots.size ≤ ((4 : Int32)).toNatClampNeg) := inb_of S33 ⟨by decide, by decide⟩
          refine .st (fun _ => X0.baloadBytes hx (j := (4 : Int32)) (v := (.int (114 : Int32))) (by first | exact Ar33.1 | (rw [e0]; exact Ar33.1)) (State.isArrayOf_alike hZ.alike Ar33.2.1) Ar33.2.2 hin33 (H33.at hin33 rfl) (g := (mkF m 20 #[.val (.ref t), .val (.ref b), .val (.int (4 : Int32))] [(.int (4 : Int32)), (.ref b), (.int b4)])) rfl rfl (hb hby d12_20) _) ?_
          show OwnGo p e below s _ _ _ s₁ (mkF m 21 _ [(.int (114 : Int32)), (.int b4)])
          by_cases q4 : b4 = (114 : Int32)
          · refine .icmpYes (pc := 21) X0 hx 26 (hb hby d12_21) (teq (q4 : b4 = (114 : Int32))).1 (by decide) (by decide) ?_
            refine .iinc X0 hx (hb hby d12_26) rfl own_ka4_1 (L' := #[.val (.ref t), .val (.ref b), .val (.int (5 : Int32))]) rfl ?_
            refine .goto (pc := 29) X0 hx 9 (hb hby d12_29) (by decide) (by decide) ?_
            refine .iloadN X0 hx (hb hby d12_9) rfl ?_
            refine .aloadN X0 hx (hb hby d12_10) rfl rfl ?_
            obtain ⟨cl34, Ar34, -, S34, N34, -, -⟩ := id V_t
            refine .st (fun _ => own_len hZ (len_of S34 N34) Ar34 X0 e0 hx (g := (mkF m 11 #[.val (.ref t), .val (.ref b), .val (.int (5 : Int32))] [(.ref t), (.int (5 : Int32))])) rfl rfl (hb hby d12_11) _) ?_
            show OwnGo p e below s _ _ _ s₁ (mkF m 12 _ [(.int (9 : Int32)), (.int (5 : Int32))])
            refine .icmpNo X0 hx (hb hby d12_12) (tlt ((by decide) : (5 : Int32) < (9 : Int32))).2.1 ?_
            refine .aloadN X0 hx (hb hby d12_15) rfl rfl ?_
            refine .iloadN X0 hx (hb hby d12_16) rfl ?_
            obtain ⟨cl35, Ar35, -, S35, -, H35, -⟩ := id V_t
            have hin35 : ¬ ((5 : Int32) < 0 ∨ cl35.slots.size ≤ ((5 : Int32)).toNatClampNeg) := inb_of S35 ⟨by decide, by decide⟩
            refine .st (fun _ => X0.baloadBytes hx (j := (5 : Int32)) (v := (.int b5)) (by first | exact Ar35.1 | (rw [e0]; exact Ar35.1)) (State.isArrayOf_alike hZ.alike Ar35.2.1) Ar35.2.2 hin35 (H35.at hin35 rfl) (g := (mkF m 17 #[.val (.ref t), .val (.ref b), .val (.int (5 : Int32))] [(.int (5 : Int32)), (.ref t)])) rfl rfl (hb hby d12_17) _) ?_
            show OwnGo p e below s _ _ _ s₁ (mkF m 18 _ [(.int b5)])
            refine .aloadN X0 hx (hb hby d12_18) rfl rfl ?_
            refine .iloadN X0 hx (hb hby d12_19) rfl ?_
            obtain ⟨cl36, Ar36, -, S36, -, H36, -⟩ := id V_b
            have hin36 : ¬ ((5 : Int32) < 0 ∨ cl36.slots.size ≤ ((5 : Int32)).toNatClampNeg) := inb_of S36 ⟨by decide, by decide⟩
            refine .st (fun _ => X0.baloadBytes hx (j := (5 : Int32)) (v := (.int (98 : Int32))) (by first | exact Ar36.1 | (rw [e0]; exact Ar36.1)) (State.isArrayOf_alike hZ.alike Ar36.2.1) Ar36.2.2 hin36 (H36.at hin36 rfl) (g := (mkF m 20 #[.val (.ref t), .val (.ref b), .val (.int (5 : Int32))] [(.int (5 : Int32)), (.ref b), (.int b5)])) rfl rfl (hb hby d12_20) _) ?_
            show OwnGo p e below s _ _ _ s₁ (mkF m 21 _ [(.int (98 : Int32)), (.int b5)])
            by_cases q5 : b5 = (98 : Int32)
            · refine .icmpYes (pc := 21) X0 hx 26 (hb hby d12_21) (teq (q5 : b5 = (98 : Int32))).1 (by decide) (by decide) ?_
              refine .iinc X0 hx (hb hby d12_26) rfl own_ka5_1 (L' := #[.val (.ref t), .val (.ref b), .val (.int (6 : Int32))]) rfl ?_
              refine .goto (pc := 29) X0 hx 9 (hb hby d12_29) (by decide) (by decide) ?_
              refine .iloadN X0 hx (hb hby d12_9) rfl ?_
              refine .aloadN X0 hx (hb hby d12_10) rfl rfl ?_
              obtain ⟨cl37, Ar37, -, S37, N37, -, -⟩ := id V_t
              refine .st (fun _ => own_len hZ (len_of S37 N37) Ar37 X0 e0 hx (g := (mkF m 11 #[.val (.ref t), .val (.ref b), .val (.int (6 : Int32))] [(.ref t), (.int (6 : Int32))])) rfl rfl (hb hby d12_11) _) ?_
              show OwnGo p e below s _ _ _ s₁ (mkF m 12 _ [(.int (9 : Int32)), (.int (6 : Int32))])
              refine .icmpNo X0 hx (hb hby d12_12) (tlt ((by decide) : (6 : Int32) < (9 : Int32))).2.1 ?_
              refine .aloadN X0 hx (hb hby d12_15) rfl rfl ?_
              refine .iloadN X0 hx (hb hby d12_16) rfl ?_
              obtain ⟨cl38, Ar38, -, S38, -, H38, -⟩ := id V_t
              have hin38 : ¬ ((6 : Int32) < 0 ∨ cl38.slots.size ≤ ((6 : Int32)).toNatClampNeg) := inb_of S38 ⟨by decide, by decide⟩
              refine .st (fun _ => X0.baloadBytes hx (j := (6 : Int32)) (v := (.int b6)) (by first | exact Ar38.1 | (rw [e0]; exact Ar38.1)) (State.isArrayOf_alike hZ.alike Ar38.2.1) Ar38.2.2 hin38 (H38.at hin38 rfl) (g := (mkF m 17 #[.val (.ref t), .val (.ref b), .val (.int (6 : Int32))] [(.int (6 : Int32)), (.ref t)])) rfl rfl (hb hby d12_17) _) ?_
              show OwnGo p e below s _ _ _ s₁ (mkF m 18 _ [(.int b6)])
              refine .aloadN X0 hx (hb hby d12_18) rfl rfl ?_
              refine .iloadN X0 hx (hb hby d12_19) rfl ?_
              obtain ⟨cl39, Ar39, -, S39, -, H39, -⟩ := id V_b
              have hin39 : ¬ ((6 : Int32) < 0 ∨ cl39.slots.size ≤ ((6 : Int32)).toNatClampNeg) := inb_of S39 ⟨by decide, by decide⟩
              refine .st (fun _ => X0.baloadBytes hx (j := (6 : Int32)) (v := (.int (111 : Int32))) (by first | exact Ar39.1 | (rw [e0]; exact Ar39.1)) (State.isArrayOf_alike hZ.alike Ar39.2.1) Ar39.2.2 hin39 (H39.at hin39 rfl) (g := (mkF m 20 #[.val (.ref t), .val (.ref b), .val (.int (6 : Int32))] [(.int (6 : Int32)), (.ref b), (.int b6)])) rfl rfl (hb hby d12_20) _) ?_
              show OwnGo p e below s _ _ _ s₁ (mkF m 21 _ [(.int (111 : Int32)), (.int b6)])
              by_cases q6 : b6 = (111 : Int32)
              · refine .icmpYes (pc := 21) X0 hx 26 (hb hby d12_21) (teq (q6 : b6 = (111 : Int32))).1 (by decide) (by decide) ?_
                refine .iinc X0 hx (hb hby d12_26) rfl own_ka6_1 (L' := #[.val (.ref t), .val (.ref b), .val (.int (7 : Int32))]) rfl ?_
                refine .goto (pc := 29) X0 hx 9 (hb hby d12_29) (by decide) (by decide) ?_
                refine .iloadN X0 hx (hb hby d12_9) rfl ?_
                refine .aloadN X0 hx (hb hby d12_10) rfl rfl ?_
                obtain ⟨cl40, Ar40, -, S40, N40, -, -⟩ := id V_t
                refine .st (fun _ => own_len hZ (len_of S40 N40) Ar40 X0 e0 hx (g := (mkF m 11 #[.val (.ref t), .val (.ref b), .val (.int (7 : Int32))] [(.ref t), (.int (7 : Int32))])) rfl rfl (hb hby d12_11) _) ?_
                show OwnGo p e below s _ _ _ s₁ (mkF m 12 _ [(.int (9 : Int32)), (.int (7 : Int32))])
                refine .icmpNo X0 hx (hb hby d12_12) (tlt ((by decide) : (7 : Int32) < (9 : Int32))).2.1 ?_
                refine .aloadN X0 hx (hb hby d12_15) rfl rfl ?_
                refine .iloadN X0 hx (hb hby d12_16) rfl ?_
                obtain ⟨cl41, Ar41, -, S41, -, H41, -⟩ := id V_t
                have hin41 : ¬ ((7 : Int32) < 0 ∨ cl41.slots.size ≤ ((7 : Int32)).toNatClampNeg) := inb_of S41 ⟨by decide, by decide⟩
                refine .st (fun _ => X0.baloadBytes hx (j := (7 : Int32)) (v := (.int b7)) (by first | exact Ar41.1 | (rw [e0]; exact Ar41.1)) (State.isArrayOf_alike hZ.alike Ar41.2.1) Ar41.2.2 hin41 (H41.at hin41 rfl) (g := (mkF m 17 #[.val (.ref t), .val (.ref b), .val (.int (7 : Int32))] [(.int (7 : Int32)), (.ref t)])) rfl rfl (hb hby d12_17) _) ?_
                show OwnGo p e below s _ _ _ s₁ (mkF m 18 _ [(.int b7)])
                refine .aloadN X0 hx (hb hby d12_18) rfl rfl ?_
                refine .iloadN X0 hx (hb hby d12_19) rfl ?_
                obtain ⟨cl42, Ar42, -, S42, -, H42, -⟩ := id V_b
                have hin42 : ¬ ((7 : Int32) < 0 ∨ cl42.slots.size ≤ ((7 : Int32)).toNatClampNeg) := inb_of S42 ⟨by decide, by decide⟩
                refine .st (fun _ => X0.baloadBytes hx (j := (7 : Int32)) (v := (.int (115 : Int32))) (by first | exact Ar42.1 | (rw [e0]; exact Ar42.1)) (State.isArrayOf_alike hZ.alike Ar42.2.1) Ar42.2.2 hin42 (H42.at hin42 rfl) (g := (mkF m 20 #[.val (.ref t), .val (.ref b), .val (.int (7 : Int32))] [(.int (7 : Int32)), (.ref b), (.int b7)])) rfl rfl (hb hby d12_20) _) ?_
                show OwnGo p e below s _ _ _ s₁ (mkF m 21 _ [(.int (115 : Int32)), (.int b7)])
                by_cases q7 : b7 = (115 : Int32)
                · refine .icmpYes (pc := 21) X0 hx 26 (hb hby d12_21) (teq (q7 : b7 = (115 : Int32))).1 (by decide) (by decide) ?_
                  refine .iinc X0 hx (hb hby d12_26) rfl own_ka7_1 (L' := #[.val (.ref t), .val (.ref b), .val (.int (8 : Int32))]) rfl ?_
                  refine .goto (pc := 29) X0 hx 9 (hb hby d12_29) (by decide) (by decide) ?_
                  refine .iloadN X0 hx (hb hby d12_9) rfl ?_
                  refine .aloadN X0 hx (hb hby d12_10) rfl rfl ?_
                  obtain ⟨cl43, Ar43, -, S43, N43, -, -⟩ := id V_t
                  refine .st (fun _ => own_len hZ (len_of S43 N43) Ar43 X0 e0 hx (g := (mkF m 11 #[.val (.ref t), .val (.ref b), .val (.int (8 : Int32))] [(.ref t), (.int (8 : Int32))])) rfl rfl (hb hby d12_11) _) ?_
                  show OwnGo p e below s _ _ _ s₁ (mkF m 12 _ [(.int (9 : Int32)), (.int (8 : Int32))])
                  refine .icmpNo X0 hx (hb hby d12_12) (tlt ((by decide) : (8 : Int32) < (9 : Int32))).2.1 ?_
                  refine .aloadN X0 hx (hb hby d12_15) rfl rfl ?_
                  refine .iloadN X0 hx (hb hby d12_16) rfl ?_
                  obtain ⟨cl44, Ar44, -, S44, -, H44, -⟩ := id V_t
                  have hin44 : ¬ ((8 : Int32) < 0 ∨ cl44.slots.size ≤ ((8 : Int32)).toNatClampNeg) := inb_of S44 ⟨by decide, by decide⟩
                  refine .st (fun _ => X0.baloadBytes hx (j := (8 : Int32)) (v := (.int b8)) (by first | exact Ar44.1 | (rw [e0]; exact Ar44.1)) (State.isArrayOf_alike hZ.alike Ar44.2.1) Ar44.2.2 hin44 (H44.at hin44 rfl) (g := (mkF m 17 #[.val (.ref t), .val (.ref b), .val (.int (8 : Int32))] [(.int (8 : Int32)), (.ref t)])) rfl rfl (hb hby d12_17) _) ?_
                  show OwnGo p e below s _ _ _ s₁ (mkF m 18 _ [(.int b8)])
                  refine .aloadN X0 hx (hb hby d12_18) rfl rfl ?_
                  refine .iloadN X0 hx (hb hby d12_19) rfl ?_
                  obtain ⟨cl45, Ar45, -, S45, -, H45, -⟩ := id V_b
                  have hin45 : ¬ ((8 : Int32) < 0 ∨ cl45.slots.size ≤ ((8 : Int32)).toNatClampNeg) := inb_of S45 ⟨by decide, by decide⟩
                  refine .st (fun _ => X0.baloadBytes hx (j := (8 : Int32)) (v := (.int (101 : Int32))) (by first | exact Ar45.1 | (rw [e0]; exact Ar45.1)) (State.isArrayOf_alike hZ.alike Ar45.2.1) Ar45.2.2 hin45 (H45.at hin45 rfl) (g := (mkF m 20 #[.val (.ref t), .val (.ref b), .val (.int (8 : Int32))] [(.int (8 : Int32)), (.ref b), (.int b8)])) rfl rfl (hb hby d12_20) _) ?_
                  show OwnGo p e below s _ _ _ s₁ (mkF m 21 _ [(.int (101 : Int32)), (.int b8)])
                  by_cases q8 : b8 = (101 : Int32)
                  · refine .icmpYes (pc := 21) X0 hx 26 (hb hby d12_21) (teq (q8 : b8 = (101 : Int32))).1 (by decide) (by decide) ?_
                    refine .iinc X0 hx (hb hby d12_26) rfl own_ka8_1 (L' := #[.val (.ref t), .val (.ref b), .val (.int (9 : Int32))]) rfl ?_
                    refine .goto (pc := 29) X0 hx 9 (hb hby d12_29) (by decide) (by decide) ?_
                    refine .iloadN X0 hx (hb hby d12_9) rfl ?_
                    refine .aloadN X0 hx (hb hby d12_10) rfl rfl ?_
                    obtain ⟨cl46, Ar46, -, S46, N46, -, -⟩ := id V_t
                    refine .st (fun _ => own_len hZ (len_of S46 N46) Ar46 X0 e0 hx (g := (mkF m 11 #[.val (.ref t), .val (.ref b), .val (.int (9 : Int32))] [(.ref t), (.int (9 : Int32))])) rfl rfl (hb hby d12_11) _) ?_
                    show OwnGo p e below s _ _ _ s₁ (mkF m 12 _ [(.int (9 : Int32)), (.int (9 : Int32))])
                    refine .icmpYes (pc := 12) X0 hx 32 (hb hby d12_12) (flt ((by decide) : ¬ ((9 : Int32) < (9 : Int32)))).2.1 (by decide) (by decide) ?_
                    refine .iconst X0 hx (hb hby d12_32) own_ki1 ?_
                    exact OwnGo.retN X0 hx (t := .boolean) hret hlk (by simp) (hb hby d12_33) (by show Qle9 Z t kt b kb b0 b1 b2 b3 b4 b5 b6 b7 b8 h0 n0 _ s₁.heap _; rw [e0]; exact ⟨_, rfl, N0, rfl, Or.inl ⟨rfl, q0, q1, q2, q3, q4, q5, q6, q7, q8⟩⟩) (by decide) (by decide)
                  · refine .icmpNo X0 hx (hb hby d12_21) (feq (q8 : ¬ (b8 = (101 : Int32)))).1 ?_
                    refine .iconst X0 hx (hb hby d12_24) own_ki0 ?_
                    exact OwnGo.retN X0 hx (t := .boolean) hret hlk (by simp) (hb hby d12_25) (by show Qle9 Z t kt b kb b0 b1 b2 b3 b4 b5 b6 b7 b8 h0 n0 _ s₁.heap _; rw [e0]; exact ⟨_, rfl, N0, rfl, Or.inr ⟨rfl, fun z => q8 z.2.2.2.2.2.2.2.2⟩⟩) (by decide) (by decide)
                · refine .icmpNo X0 hx (hb hby d12_21) (feq (q7 : ¬ (b7 = (115 : Int32)))).1 ?_
                  refine .iconst X0 hx (hb hby d12_24) own_ki0 ?_
                  exact OwnGo.retN X0 hx (t := .boolean) hret hlk (by simp) (hb hby d12_25) (by show Qle9 Z t kt b kb b0 b1 b2 b3 b4 b5 b6 b7 b8 h0 n0 _ s₁.heap _; rw [e0]; exact ⟨_, rfl, N0, rfl, Or.inr ⟨rfl, fun z => q7 z.2.2.2.2.2.2.2.1⟩⟩) (by decide) (by decide)
              · refine .icmpNo X0 hx (hb hby d12_21) (feq (q6 : ¬ (b6 = (111 : Int32)))).1 ?_
                refine .iconst X0 hx (hb hby d12_24) own_ki0 ?_
                exact OwnGo.retN X0 hx (t := .boolean) hret hlk (by simp) (hb hby d12_25) (by show Qle9 Z t kt b kb b0 b1 b2 b3 b4 b5 b6 b7 b8 h0 n0 _ s₁.heap _; rw [e0]; exact ⟨_, rfl, N0, rfl, Or.inr ⟨rfl, fun z => q6 z.2.2.2.2.2.2.1⟩⟩) (by decide) (by decide)
            · refine .icmpNo X0 hx (hb hby d12_21) (feq (q5 : ¬ (b5 = (98 : Int32)))).1 ?_
              refine .iconst X0 hx (hb hby d12_24) own_ki0 ?_
              exact OwnGo.retN X0 hx (t := .boolean) hret hlk (by simp) (hb hby d12_25) (by show Qle9 Z t kt b kb b0 b1 b2 b3 b4 b5 b6 b7 b8 h0 n0 _ s₁.heap _; rw [e0]; exact ⟨_, rfl, N0, rfl, Or.inr ⟨rfl, fun z => q5 z.2.2.2.2.2.1⟩⟩) (by decide) (by decide)
          · refine .icmpNo X0 hx (hb hby d12_21) (feq (q4 : ¬ (b4 = (114 : Int32)))).1 ?_
            refine .iconst X0 hx (hb hby d12_24) own_ki0 ?_
            exact OwnGo.retN X0 hx (t := .boolean) hret hlk (by simp) (hb hby d12_25) (by show Qle9 Z t kt b kb b0 b1 b2 b3 b4 b5 b6 b7 b8 h0 n0 _ s₁.heap _; rw [e0]; exact ⟨_, rfl, N0, rfl, Or.inr ⟨rfl, fun z => q4 z.2.2.2.2.1⟩⟩) (by decide) (by decide)
        · refine .icmpNo X0 hx (hb hby d12_21) (feq (q3 : ¬ (b3 = (101 : Int32)))).1 ?_
          refine .iconst X0 hx (hb hby d12_24) own_ki0 ?_
          exact OwnGo.retN X0 hx (t := .boolean) hret hlk (by simp) (hb hby d12_25) (by show Qle9 Z t kt b kb b0 b1 b2 b3 b4 b5 b6 b7 b8 h0 n0 _ s₁.heap _; rw [e0]; exact ⟨_, rfl, N0, rfl, Or.inr ⟨rfl, fun z => q3 z.2.2.2.1⟩⟩) (by decide) (by decide)
      · refine .icmpNo X0 hx (hb hby d12_21) (feq (q2 : ¬ (b2 = (118 : Int32)))).1 ?_
        refine .iconst X0 hx (hb hby d12_24) own_ki0 ?_
        exact OwnGo.retN X0 hx (t := .boolean) hret hlk (by simp) (hb hby d12_25) (by show Qle9 Z t kt b kb b0 b1 b2 b3 b4 b5 b6 b7 b8 h0 n0 _ s₁.heap _; rw [e0]; exact ⟨_, rfl, N0, rfl, Or.inr ⟨rfl, fun z => q2 z.2.2.1⟩⟩) (by decide) (by decide)
    · refine .icmpNo X0 hx (hb hby d12_21) (feq (q1 : ¬ (b1 = (45 : Int32)))).1 ?_
      refine .iconst X0 hx (hb hby d12_24) own_ki0 ?_
      exact OwnGo.retN X0 hx (t := .boolean) hret hlk (by simp) (hb hby d12_25) (by show Qle9 Z t kt b kb b0 b1 b2 b3 b4 b5 b6 b7 b8 h0 n0 _ s₁.heap _; rw [e0]; exact ⟨_, rfl, N0, rfl, Or.inr ⟨rfl, fun z => q1 z.2.1⟩⟩) (by decide) (by decide)
  · refine .icmpNo X0 hx (hb hby d12_21) (feq (q0 : ¬ (b0 = (45 : Int32)))).1 ?_
    refine .iconst X0 hx (hb hby d12_24) own_ki0 ?_
    exact OwnGo.retN X0 hx (t := .boolean) hret hlk (by simp) (hb hby d12_25) (by show Qle9 Z t kt b kb b0 b1 b2 b3 b4 b5 b6 b7 b8 h0 n0 _ s₁.heap _; rw [e0]; exact ⟨_, rfl, N0, rfl, Or.inr ⟨rfl, fun z => q0 z.1⟩⟩) (by decide) (by decide)
def Qse9 (Z : State) (x : Addr) (t : Addr) (kt : ClassId) (o : Addr) (b : Addr) (kb : ClassId) (b0 : Int32) (b1 : Int32) (b2 : Int32) (b3 : Int32) (b4 : Int32) (b5 : Int32) (b6 : Int32) (b7 : Int32) (b8 : Int32) (zc : Int32) (h0 : Heap) (n0 : Nat) (v : Option Value) (h : Heap) (L : List Loc) : Prop := ∃ r : Int32, v = some (.int r) ∧ Fr n0 L ∧ h = h0 ∧ ((r = (1 : Int32) ∧ (b0 = (45 : Int32) ∧ b1 = (45 : Int32) ∧ b2 = (118 : Int32) ∧ b3 = (101 : Int32) ∧ b4 = (114 : Int32) ∧ b5 = (98 : Int32) ∧ b6 = (111 : Int32) ∧ b7 = (115 : Int32) ∧ b8 = (101 : Int32))) ∨ (r = (0 : Int32) ∧ ¬ (b0 = (45 : Int32) ∧ b1 = (45 : Int32) ∧ b2 = (118 : Int32) ∧ b3 = (101 : Int32) ∧ b4 = (114 : Int32) ∧ b5 = (98 : Int32) ∧ b6 = (111 : Int32) ∧ b7 = (115 : Int32) ∧ b8 = (101 : Int32))))
theorem rmse9 (l : Launch) (Z : State) (a0 : Array Value) (hw : own_tb a0 Z) (ws : List Jvm.Cond) (x : Addr) (t : Addr) (kt : ClassId) (o : Addr) (b : Addr) (kb : ClassId) (b0 : Int32) (b1 : Int32) (b2 : Int32) (b3 : Int32) (b4 : Int32) (b5 : Int32) (b6 : Int32) (b7 : Int32) (b8 : Int32) (zc : Int32) (h0 : Heap) (n0 : Nat) (Z0 : n0 ≤ h0.size) (O_ : Old Z n0 h0) (S_CS : Sta Z Z.heap "java/lang/String" "COMPACT_STRINGS" "Z" (.int zc)) (P_CS : ¬ zc = (0 : Int32)) (E_x : Exa Z h0 x "java/lang/String") (Fc_x : Fld Z h0 x "java/lang/String" "coder" "B" (.int (0 : Int32))) (Fv_x : Fld Z h0 x "java/lang/String" "value" "[B" (.ref t)) (E_o : Exa Z h0 o "java/lang/String") (Fc_o : Fld Z h0 o "java/lang/String" "coder" "B" (.int (0 : Int32))) (Fv_o : Fld Z h0 o "java/lang/String" "value" "[B" (.ref b)) (V_t : Arv Z h0 t kt .byte (9 : Int32) [(.int b0), (.int b1), (.int b2), (.int b3), (.int b4), (.int b5), (.int b6), (.int b7), (.int b8)] (.int (0 : Int32))) (V_b : Arv Z h0 b kb .byte (9 : Int32) [(.int (45 : Int32)), (.int (45 : Int32)), (.int (118 : Int32)), (.int (101 : Int32)), (.int (114 : Int32)), (.int (98 : Int32)), (.int (111 : Int32)), (.int (115 : Int32)), (.int (101 : Int32))] (.int (0 : Int32))) (hne : ¬ x = o) :
    OwnMet l (⟨"java/lang/String", "equals", "(Ljava/lang/Object;)Z"⟩ : MethodName) jdk_42_method_66_code 3 (some .boolean) ws ({ frames := 1, cells := 0, slots := 0, locals := 14 } : Room) #[(.ref x), (.ref o)] Z h0 (Qse9 Z x t kt o b kb b0 b1 b2 b3 b4 b5 b6 b7 b8 zc h0 n0) := by
  refine own_met (plainFor_of_name pn_5) ?_
  intro p e s m below meth c s₁ X0 hx hby hml hret hlk hown hnm hZ e0
  have N0 := Fr.nil n0
  have Z_ := Z0
  refine OwnGo.cast (ef_se9 m x o) ?_
  show OwnGo p e below s _ _ _ s₁ (mkF m 0 _ [])
  refine .aloadN X0 hx (hb hby d11_0) rfl rfl ?_
  refine .aloadN X0 hx (hb hby d11_1) rfl rfl ?_
  refine .st (fun _ => Jvm.RoadKit.acmp (g := (mkF m 2 #[.val (.ref x), .val (.ref o), .unset] [(.ref o), (.ref x)])) X0 hx rfl rfl rfl (pc0 := 2) (pc' := 7) (same := false) rfl (hb hby d11_2) rfl (decide_eq_false fun q => hne (Value.ref.inj q)) (by decide) (by decide)) ?_
  show OwnGo p e below s _ _ _ s₁ (mkF m 7 _ [])
  refine .aloadN X0 hx (hb hby d11_7) rfl rfl ?_
  obtain ⟨T47, X47, e47, st47⟩ := instY X0 hx hZ hown (W_ hw 61 rfl) e0 (Ins.self E_o) (g := (mkF m 8 #[.val (.ref x), .val (.ref o), .unset] [(.ref o)])) rfl rfl (hb hby d11_8)
  refine .st st47 ?_
  show OwnGo p e below s _ _ _ T47 (mkF m 11 _ [(.int (1 : Int32))])
  refine .ifNo X47 hx (hb hby d11_11) ((if0 _ _).trans (feq ((by decide) : ¬ ((1 : Int32) = (0 : Int32)))).1) ?_
  refine .aloadN X47 hx (hb hby d11_14) rfl rfl ?_
  obtain ⟨T48, X48, e48, st48⟩ := castY X47 hx hZ hown (W_ hw 61 rfl) e47 (Ins.self E_o) (g := (mkF m 15 #[.val (.ref x), .val (.ref o), .unset] [(.ref o)])) rfl rfl (hb hby d11_15)
  refine .st st48 ?_
  show OwnGo p e below s _ _ _ T48 (mkF m 18 _ [(.ref o)])
  refine .astoreN X48 hx (hb hby d11_18) rfl (L' := #[.val (.ref x), .val (.ref o), .val (.ref o)]) rfl ?_
  obtain ⟨T49, X49, e49, st49⟩ := getS2 X48 hx hZ hown (host := "") (Or.inl (W_ hw 24 rfl)) Via.refl e48 (S_CS.ext O_.2) (g := (mkF m 19 #[.val (.ref x), .val (.ref o), .val (.ref o)] [])) rfl (hb hby d11_19)
  refine .st st49 ?_
  show OwnGo p e below s _ _ _ T49 (mkF m 22 _ [(.int zc)])
  refine .ifNo X49 hx (hb hby d11_22) ((if0 _ _).trans (feq (P_CS : ¬ (zc = (0 : Int32)))).1) ?_
  refine .aloadN X49 hx (hb hby d11_25) rfl rfl ?_
  obtain ⟨T50, X50, e50, st50⟩ := getF X49 hx hZ hown (host := "") (Or.inl (W_ hw 25 rfl)) Via.refl e49 Fc_x (g := (mkF m 26 #[.val (.ref x), .val (.ref o), .val (.ref o)] [(.ref x)])) rfl rfl (hb hby d11_26)
  refine .st st50 ?_
  show OwnGo p e below s _ _ _ T50 (mkF m 29 _ [(.int (0 : Int32))])
  refine .aloadN X50 hx (hb hby d11_29) rfl rfl ?_
  obtain ⟨T51, X51, e51, st51⟩ := getF X50 hx hZ hown (host := "") (Or.inl (W_ hw 25 rfl)) Via.refl e50 Fc_o (g := (mkF m 30 #[.val (.ref x), .val (.ref o), .val (.ref o)] [(.ref o), (.int (0 : Int32))])) rfl rfl (hb hby d11_30)
  refine .st st51 ?_
  show OwnGo p e below s _ _ _ T51 (mkF m 33 _ [(.int (0 : Int32)), (.int (0 : Int32))])
  refine .icmpNo X51 hx (hb hby d11_33) (teq ((by decide) : (0 : Int32) = (0 : Int32))).2 ?_
  refine .aloadN X51 hx (hb hby d11_36) rfl rfl ?_
  obtain ⟨T52, X52, e52, st52⟩ := getF X51 hx hZ hown (host := "") (Or.inl (W_ hw 26 rfl)) Via.refl e51 Fv_x (g := (mkF m 37 #[.val (.ref x), .val (.ref o), .val (.ref o)] [(.ref x)])) rfl rfl (hb hby d11_37)
  refine .st st52 ?_
  show OwnGo p e below s _ _ _ T52 (mkF m 40 _ [(.ref t)])
  refine .aloadN X52 hx (hb hby d11_40) rfl rfl ?_
  obtain ⟨T53, X53, e53, st53⟩ := getF X52 hx hZ hown (host := "") (Or.inl (W_ hw 26 rfl)) Via.refl e52 Fv_o (g := (mkF m 41 #[.val (.ref x), .val (.ref o), .val (.ref o)] [(.ref o), (.ref t)])) rfl rfl (hb hby d11_41)
  refine .st st53 ?_
  show OwnGo p e below s _ _ _ T53 (mkF m 44 _ [(.ref b), (.ref t)])
  obtain ⟨_, _, ⟨T54, L54, k54, n54⟩, -, X54, ⟨Lc54, hQ54, l54, y54, z54⟩, st54⟩ := Jvm.LawKit.callS X53 hx (y := (⟨"java/lang/StringLatin1", "equals", "([B[B)Z"⟩ : MethodName)) hown (mvT hZ (W_ hw 62 rfl)) (mvT hZ (W_ hw 63 rfl)) (mvT hZ (W_ hw 29 rfl)) (mvT hZ (W_ hw 64 rfl)) (by decide) (backOf (W := 0) (rmle9 l Z a0 hw [] t kt b kb b0 b1 b2 b3 b4 b5 b6 b7 b8 h0 n0 Z_ V_t V_b) hZ (W_ hw 64 rfl) (W_ hw 29 rfl) (by decide) (by decide)) (g := (mkF m 44 #[.val (.ref x), .val (.ref o), .val (.ref o)] [(.ref b), (.ref t)])) rfl (by rw [hml]; rfl) (argsL := [(.ref t), (.ref b)]) (rest := []) (lenOf pd_5 rfl) rfl (Nat.le_of_eq rfl) (hb hby d11_44) (fun _ _ => ⟨rfl, e53, (by decide : 0 + 0 ≤ _), (by decide : 0 + 0 ≤ _)⟩)
  dsimp only [Pt.U, Pt.locs, Pt.cells, Pt.slots] at X54 l54 y54 z54 st54 hQ54
  subst l54 y54 z54
  obtain ⟨r54, rfl, N54q, e54, hr54⟩ := hQ54
  have N54 := Fr.app N0 N54q
  refine .st st54 ?_
  show OwnGo p e below s _ _ _ T54 (mkF m 47 _ [(.int r54)])
  rcases hr54 with ⟨rfl, hs⟩ | ⟨rfl, hs⟩
  · show OwnGo p e below s _ _ _ T54 (mkF m 47 _ [(.int (1 : Int32))])
    refine .ifNo X54 hx (hb hby d11_47) ((if0 _ _).trans (feq ((by decide) : ¬ ((1 : Int32) = (0 : Int32)))).1) ?_
    refine .iconst X54 hx (hb hby d11_50) own_ki1 ?_
    refine .goto (pc := 51) X54 hx 55 (hb hby d11_51) (by decide) (by decide) ?_
    exact OwnGo.retN X54 hx (t := .boolean) hret hlk (by simp) (hb hby d11_55) (by show Qse9 Z x t kt o b kb b0 b1 b2 b3 b4 b5 b6 b7 b8 zc h0 n0 _ T54.heap _; rw [e54]; exact ⟨_, rfl, N54, rfl, Or.inl ⟨rfl, hs⟩⟩) (by decide) (by decide)
  · show OwnGo p e below s _ _ _ T54 (mkF m 47 _ [(.int (0 : Int32))])
    refine .ifYes (pc := 47) X54 hx 54 (hb hby d11_47) ((if0 _ _).trans (teq ((by decide) : (0 : Int32) = (0 : Int32))).1) (by decide) (by decide) ?_
    refine .iconst X54 hx (hb hby d11_54) own_ki0 ?_
    exact OwnGo.retN X54 hx (t := .boolean) hret hlk (by simp) (hb hby d11_55) (by show Qse9 Z x t kt o b kb b0 b1 b2 b3 b4 b5 b6 b7 b8 zc h0 n0 _ T54.heap _; rw [e54]; exact ⟨_, rfl, N54, rfl, Or.inr ⟨rfl, hs⟩⟩) (by decide) (by decide)
def Qle2 (Z : State) (t : Addr) (kt : ClassId) (b : Addr) (kb : ClassId) (b0 : Int32) (b1 : Int32) (h0 : Heap) (n0 : Nat) (v : Option Value) (h : Heap) (L : List Loc) : Prop := ∃ r : Int32, v = some (.int r) ∧ Fr n0 L ∧ h = h0 ∧ ((r = (1 : Int32) ∧ (b0 = (45 : Int32) ∧ b1 = (118 : Int32))) ∨ (r = (0 : Int32) ∧ ¬ (b0 = (45 : Int32) ∧ b1 = (118 : Int32))))
theorem rmle2 (l : Launch) (Z : State) (a0 : Array Value) (hw : own_tb a0 Z) (ws : List Jvm.Cond) (t : Addr) (kt : ClassId) (b : Addr) (kb : ClassId) (b0 : Int32) (b1 : Int32) (h0 : Heap) (n0 : Nat) (Z0 : n0 ≤ h0.size) (V_t : Arv Z h0 t kt .byte (2 : Int32) [(.int b0), (.int b1)] (.int (0 : Int32))) (V_b : Arv Z h0 b kb .byte (2 : Int32) [(.int (45 : Int32)), (.int (118 : Int32))] (.int (0 : Int32))) :
    OwnMet l (⟨"java/lang/StringLatin1", "equals", "([B[B)Z"⟩ : MethodName) jdk_43_method_13_code 3 (some .boolean) ws ({ frames := 0, cells := 0, slots := 0, locals := 0 } : Room) #[(.ref t), (.ref b)] Z h0 (Qle2 Z t kt b kb b0 b1 h0 n0) := by
  refine own_met (plainFor_of_name pn_4) ?_
  intro p e s m below meth c s₁ X0 hx hby hml hret hlk hown hnm hZ e0
  have N0 := Fr.nil n0
  have Z_ := Z0
  refine OwnGo.cast (ef_le2 m t b) ?_
  show OwnGo p e below s _ _ _ s₁ (mkF m 0 _ [])
  refine .aloadN X0 hx (hb hby d12_0) rfl rfl ?_
  obtain ⟨cl55, Ar55, -, S55, N55, -, -⟩ := id V_t
  refine .st (fun _ => own_len hZ (len_of S55 N55) Ar55 X0 e0 hx (g := (mkF m 1 #[.val (.ref t), .val (.ref b), .unset] [(.ref t)])) rfl rfl (hb hby d12_1) _) ?_
  show OwnGo p e below s _ _ _ s₁ (mkF m 2 _ [(.int (2 : Int32))])
  refine .aloadN X0 hx (hb hby d12_2) rfl rfl ?_
  obtain ⟨cl56, Ar56, -, S56, N56, -, -⟩ := id V_b
  refine .st (fun _ => own_len hZ (len_of S56 N56) Ar56 X0 e0 hx (g := (mkF m 3 #[.val (.ref t), .val (.ref b), .unset] [(.ref b), (.int (2 : Int32))])) rfl rfl (hb hby d12_3) _) ?_
  show OwnGo p e below s _ _ _ s₁ (mkF m 4 _ [(.int (2 : Int32)), (.int (2 : Int32))])
  refine .icmpNo X0 hx (hb hby d12_4) (teq ((by decide) : (2 : Int32) = (2 : Int32))).2 ?_
  refine .iconst X0 hx (hb hby d12_7) own_ki0 ?_
  refine .istoreN X0 hx (hb hby d12_8) (L' := #[.val (.ref t), .val (.ref b), .val (.int (0 : Int32))]) rfl ?_
  refine .iloadN X0 hx (hb hby d12_9) rfl ?_
  refine .aloadN X0 hx (hb hby d12_10) rfl rfl ?_
  obtain ⟨cl57, Ar57, -, S57, N57, -, -⟩ := id V_t
  refine .st (fun _ => own_len hZ (len_of S57 N57) Ar57 X0 e0 hx (g := (mkF m 11 #[.val (.ref t), .val (.ref b), .val (.int (0 : Int32))] [(.ref t), (.int (0 : Int32))])) rfl rfl (hb hby d12_11) _) ?_
  show OwnGo p e below s _ _ _ s₁ (mkF m 12 _ [(.int (2 : Int32)), (.int (0 : Int32))])
  refine .icmpNo X0 hx (hb hby d12_12) (tlt ((by decide) : (0 : Int32) < (2 : Int32))).2.1 ?_
  refine .aloadN X0 hx (hb hby d12_15) rfl rfl ?_
  refine .iloadN X0 hx (hb hby d12_16) rfl ?_
  obtain ⟨cl58, Ar58, -, S58, -, H58, -⟩ := id V_t
  have hin58 : ¬ ((0 : Int32) < 0 ∨ cl58.slots.size ≤ ((0 : Int32)).toNatClampNeg) := inb_of S58 ⟨by decide, by decide⟩
  refine .st (fun _ => X0.baloadBytes hx (j := (0 : Int32)) (v := (.int b0)) (by first | exact Ar58.1 | (rw [e0]; exact Ar58.1)) (State.isArrayOf_alike hZ.alike Ar58.2.1) Ar58.2.2 hin58 (H58.at hin58 rfl) (g := (mkF m 17 #[.val (.ref t), .val (.ref b), .val (.int (0 : Int32))] [(.int (0 : Int32)), (.ref t)])) rfl rfl (hb hby d12_17) _) ?_
  show OwnGo p e below s _ _ _ s₁ (mkF m 18 _ [(.int b0)])
  refine .aloadN X0 hx (hb hby d12_18) rfl rfl ?_
  refine .iloadN X0 hx (hb hby d12_19) rfl ?_
  obtain ⟨cl59, Ar59, -, S59, -, H59, -⟩ := id V_b
  have hin59 : ¬ ((0 : Int32) < 0 ∨ cl59.slots.size ≤ ((0 : Int32)).toNatClampNeg) := inb_of S59 ⟨by decide, by decide⟩
  refine .st (fun _ => X0.baloadBytes hx (j := (0 : Int32)) (v := (.int (45 : Int32))) (by first | exact Ar59.1 | (rw [e0]; exact Ar59.1)) (State.isArrayOf_alike hZ.alike Ar59.2.1) Ar59.2.2 hin59 (H59.at hin59 rfl) (g := (mkF m 20 #[.val (.ref t), .val (.ref b), .val (.int (0 : Int32))] [(.int (0 : Int32)), (.ref b), (.int b0)])) rfl rfl (hb hby d12_20) _) ?_
  show OwnGo p e below s _ _ _ s₁ (mkF m 21 _ [(.int (45 : Int32)), (.int b0)])
  by_cases q0 : b0 = (45 : Int32)
  · refine .icmpYes (pc := 21) X0 hx 26 (hb hby d12_21) (teq (q0 : b0 = (45 : Int32))).1 (by decide) (by decide) ?_
    refine .iinc X0 hx (hb hby d12_26) rfl own_ka0_1 (L' := #[.val (.ref t), .val (.ref b), .val (.int (1 : Int32))]) rfl ?_
    refine .goto (pc := 29) X0 hx 9 (hb hby d12_29) (by decide) (by decide) ?_
    refine .iloadN X0 hx (hb hby d12_9) rfl ?_
    refine .aloadN X0 hx (hb hby d12_10) rfl rfl ?_
    obtain ⟨cl60, Ar60, -, S60, N60, -, -⟩ := id V_t
    refine .st (fun _ => own_len hZ (len_of S60 N60) Ar60 X0 e0 hx (g := (mkF m 11 #[.val (.ref t), .val (.ref b), .val (.int (1 : Int32))] [(.ref t), (.int (1 : Int32))])) rfl rfl (hb hby d12_11) _) ?_
    show OwnGo p e below s _ _ _ s₁ (mkF m 12 _ [(.int (2 : Int32)), (.int (1 : Int32))])
    refine .icmpNo X0 hx (hb hby d12_12) (tlt ((by decide) : (1 : Int32) < (2 : Int32))).2.1 ?_
    refine .aloadN X0 hx (hb hby d12_15) rfl rfl ?_
    refine .iloadN X0 hx (hb hby d12_16) rfl ?_
    obtain ⟨cl61, Ar61, -, S61, -, H61, -⟩ := id V_t
    have hin61 : ¬ ((1 : Int32) < 0 ∨ cl61.slots.size ≤ ((1 : Int32)).toNatClampNeg) := inb_of S61 ⟨by decide, by decide⟩
    refine .st (fun _ => X0.baloadBytes hx (j := (1 : Int32)) (v := (.int b1)) (by first | exact Ar61.1 | (rw [e0]; exact Ar61.1)) (State.isArrayOf_alike hZ.alike Ar61.2.1) Ar61.2.2 hin61 (H61.at hin61 rfl) (g := (mkF m 17 #[.val (.ref t), .val (.ref b), .val (.int (1 : Int32))] [(.int (1 : Int32)), (.ref t)])) rfl rfl (hb hby d12_17) _) ?_
    show OwnGo p e below s _ _ _ s₁ (mkF m 18 _ [(.int b1)])
    refine .aloadN X0 hx (hb hby d12_18) rfl rfl ?_
    refine .iloadN X0 hx (hb hby d12_19) rfl ?_
    obtain ⟨cl62, Ar62, -, S62, -, H62, -⟩ := id V_b
    have hin62 : ¬ ((1 : Int32) < 0 ∨ cl62.slots.size ≤ ((1 : Int32)).toNatClampNeg) := inb_of S62 ⟨by decide, by decide⟩
    refine .st (fun _ => X0.baloadBytes hx (j := (1 : Int32)) (v := (.int (118 : Int32))) (by first | exact Ar62.1 | (rw [e0]; exact Ar62.1)) (State.isArrayOf_alike hZ.alike Ar62.2.1) Ar62.2.2 hin62 (H62.at hin62 rfl) (g := (mkF m 20 #[.val (.ref t), .val (.ref b), .val (.int (1 : Int32))] [(.int (1 : Int32)), (.ref b), (.int b1)])) rfl rfl (hb hby d12_20) _) ?_
    show OwnGo p e below s _ _ _ s₁ (mkF m 21 _ [(.int (118 : Int32)), (.int b1)])
    by_cases q1 : b1 = (118 : Int32)
    · refine .icmpYes (pc := 21) X0 hx 26 (hb hby d12_21) (teq (q1 : b1 = (118 : Int32))).1 (by decide) (by decide) ?_
      refine .iinc X0 hx (hb hby d12_26) rfl own_ka1_1 (L' := #[.val (.ref t), .val (.ref b), .val (.int (2 : Int32))]) rfl ?_
      refine .goto (pc := 29) X0 hx 9 (hb hby d12_29) (by decide) (by decide) ?_
      refine .iloadN X0 hx (hb hby d12_9) rfl ?_
      refine .aloadN X0 hx (hb hby d12_10) rfl rfl ?_
      obtain ⟨cl63, Ar63, -, S63, N63, -, -⟩ := id V_t
      refine .st (fun _ => own_len hZ (len_of S63 N63) Ar63 X0 e0 hx (g := (mkF m 11 #[.val (.ref t), .val (.ref b), .val (.int (2 : Int32))] [(.ref t), (.int (2 : Int32))])) rfl rfl (hb hby d12_11) _) ?_
      show OwnGo p e below s _ _ _ s₁ (mkF m 12 _ [(.int (2 : Int32)), (.int (2 : Int32))])
      refine .icmpYes (pc := 12) X0 hx 32 (hb hby d12_12) (flt ((by decide) : ¬ ((2 : Int32) < (2 : Int32)))).2.1 (by decide) (by decide) ?_
      refine .iconst X0 hx (hb hby d12_32) own_ki1 ?_
      exact OwnGo.retN X0 hx (t := .boolean) hret hlk (by simp) (hb hby d12_33) (by show Qle2 Z t kt b kb b0 b1 h0 n0 _ s₁.heap _; rw [e0]; exact ⟨_, rfl, N0, rfl, Or.inl ⟨rfl, q0, q1⟩⟩) (by decide) (by decide)
    · refine .icmpNo X0 hx (hb hby d12_21) (feq (q1 : ¬ (b1 = (118 : Int32)))).1 ?_
      refine .iconst X0 hx (hb hby d12_24) own_ki0 ?_
      exact OwnGo.retN X0 hx (t := .boolean) hret hlk (by simp) (hb hby d12_25) (by show Qle2 Z t kt b kb b0 b1 h0 n0 _ s₁.heap _; rw [e0]; exact ⟨_, rfl, N0, rfl, Or.inr ⟨rfl, fun z => q1 z.2⟩⟩) (by decide) (by decide)
  · refine .icmpNo X0 hx (hb hby d12_21) (feq (q0 : ¬ (b0 = (45 : Int32)))).1 ?_
    refine .iconst X0 hx (hb hby d12_24) own_ki0 ?_
    exact OwnGo.retN X0 hx (t := .boolean) hret hlk (by simp) (hb hby d12_25) (by show Qle2 Z t kt b kb b0 b1 h0 n0 _ s₁.heap _; rw [e0]; exact ⟨_, rfl, N0, rfl, Or.inr ⟨rfl, fun z => q0 z.1⟩⟩) (by decide) (by decide)
def Qse2 (Z : State) (x : Addr) (t : Addr) (kt : ClassId) (o : Addr) (b : Addr) (kb : ClassId) (b0 : Int32) (b1 : Int32) (zc : Int32) (h0 : Heap) (n0 : Nat) (v : Option Value) (h : Heap) (L : List Loc) : Prop := ∃ r : Int32, v = some (.int r) ∧ Fr n0 L ∧ h = h0 ∧ ((r = (1 : Int32) ∧ (b0 = (45 : Int32) ∧ b1 = (118 : Int32))) ∨ (r = (0 : Int32) ∧ ¬ (b0 = (45 : Int32) ∧ b1 = (118 : Int32))))
theorem rmse2 (l : Launch) (Z : State) (a0 : Array Value) (hw : own_tb a0 Z) (ws : List Jvm.Cond) (x : Addr) (t : Addr) (kt : ClassId) (o : Addr) (b : Addr) (kb : ClassId) (b0 : Int32) (b1 : Int32) (zc : Int32) (h0 : Heap) (n0 : Nat) (Z0 : n0 ≤ h0.size) (O_ : Old Z n0 h0) (S_CS : Sta Z Z.heap "java/lang/String" "COMPACT_STRINGS" "Z" (.int zc)) (P_CS : ¬ zc = (0 : Int32)) (E_x : Exa Z h0 x "java/lang/String") (Fc_x : Fld Z h0 x "java/lang/String" "coder" "B" (.int (0 : Int32))) (Fv_x : Fld Z h0 x "java/lang/String" "value" "[B" (.ref t)) (E_o : Exa Z h0 o "java/lang/String") (Fc_o : Fld Z h0 o "java/lang/String" "coder" "B" (.int (0 : Int32))) (Fv_o : Fld Z h0 o "java/lang/String" "value" "[B" (.ref b)) (V_t : Arv Z h0 t kt .byte (2 : Int32) [(.int b0), (.int b1)] (.int (0 : Int32))) (V_b : Arv Z h0 b kb .byte (2 : Int32) [(.int (45 : Int32)), (.int (118 : Int32))] (.int (0 : Int32))) (hne : ¬ x = o) :
    OwnMet l (⟨"java/lang/String", "equals", "(Ljava/lang/Object;)Z"⟩ : MethodName) jdk_42_method_66_code 3 (some .boolean) ws ({ frames := 1, cells := 0, slots := 0, locals := 14 } : Room) #[(.ref x), (.ref o)] Z h0 (Qse2 Z x t kt o b kb b0 b1 zc h0 n0) := by
  refine own_met (plainFor_of_name pn_5) ?_
  intro p e s m below meth c s₁ X0 hx hby hml hret hlk hown hnm hZ e0
  have N0 := Fr.nil n0
  have Z_ := Z0
  refine OwnGo.cast (ef_se2 m x o) ?_
  show OwnGo p e below s _ _ _ s₁ (mkF m 0 _ [])
  refine .aloadN X0 hx (hb hby d11_0) rfl rfl ?_
  refine .aloadN X0 hx (hb hby d11_1) rfl rfl ?_
  refine .st (fun _ => Jvm.RoadKit.acmp (g := (mkF m 2 #[.val (.ref x), .val (.ref o), .unset] [(.ref o), (.ref x)])) X0 hx rfl rfl rfl (pc0 := 2) (pc' := 7) (same := false) rfl (hb hby d11_2) rfl (decide_eq_false fun q => hne (Value.ref.inj q)) (by decide) (by decide)) ?_
  show OwnGo p e below s _ _ _ s₁ (mkF m 7 _ [])
  refine .aloadN X0 hx (hb hby d11_7) rfl rfl ?_
  obtain ⟨T64, X64, e64, st64⟩ := instY X0 hx hZ hown (W_ hw 61 rfl) e0 (Ins.self E_o) (g := (mkF m 8 #[.val (.ref x), .val (.ref o), .unset] [(.ref o)])) rfl rfl (hb hby d11_8)
  refine .st st64 ?_
  show OwnGo p e below s _ _ _ T64 (mkF m 11 _ [(.int (1 : Int32))])
  refine .ifNo X64 hx (hb hby d11_11) ((if0 _ _).trans (feq ((by decide) : ¬ ((1 : Int32) = (0 : Int32)))).1) ?_
  refine .aloadN X64 hx (hb hby d11_14) rfl rfl ?_
  obtain ⟨T65, X65, e65, st65⟩ := castY X64 hx hZ hown (W_ hw 61 rfl) e64 (Ins.self E_o) (g := (mkF m 15 #[.val (.ref x), .val (.ref o), .unset] [(.ref o)])) rfl rfl (hb hby d11_15)
  refine .st st65 ?_
  show OwnGo p e below s _ _ _ T65 (mkF m 18 _ [(.ref o)])
  refine .astoreN X65 hx (hb hby d11_18) rfl (L' := #[.val (.ref x), .val (.ref o), .val (.ref o)]) rfl ?_
  obtain ⟨T66, X66, e66, st66⟩ := getS2 X65 hx hZ hown (host := "") (Or.inl (W_ hw 24 rfl)) Via.refl e65 (S_CS.ext O_.2) (g := (mkF m 19 #[.val (.ref x), .val (.ref o), .val (.ref o)] [])) rfl (hb hby d11_19)
  refine .st st66 ?_
  show OwnGo p e below s _ _ _ T66 (mkF m 22 _ [(.int zc)])
  refine .ifNo X66 hx (hb hby d11_22) ((if0 _ _).trans (feq (P_CS : ¬ (zc = (0 : Int32)))).1) ?_
  refine .aloadN X66 hx (hb hby d11_25) rfl rfl ?_
  obtain ⟨T67, X67, e67, st67⟩ := getF X66 hx hZ hown (host := "") (Or.inl (W_ hw 25 rfl)) Via.refl e66 Fc_x (g := (mkF m 26 #[.val (.ref x), .val (.ref o), .val (.ref o)] [(.ref x)])) rfl rfl (hb hby d11_26)
  refine .st st67 ?_
  show OwnGo p e below s _ _ _ T67 (mkF m 29 _ [(.int (0 : Int32))])
  refine .aloadN X67 hx (hb hby d11_29) rfl rfl ?_
  obtain ⟨T68, X68, e68, st68⟩ := getF X67 hx hZ hown (host := "") (Or.inl (W_ hw 25 rfl)) Via.refl e67 Fc_o (g := (mkF m 30 #[.val (.ref x), .val (.ref o), .val (.ref o)] [(.ref o), (.int (0 : Int32))])) rfl rfl (hb hby d11_30)
  refine .st st68 ?_
  show OwnGo p e below s _ _ _ T68 (mkF m 33 _ [(.int (0 : Int32)), (.int (0 : Int32))])
  refine .icmpNo X68 hx (hb hby d11_33) (teq ((by decide) : (0 : Int32) = (0 : Int32))).2 ?_
  refine .aloadN X68 hx (hb hby d11_36) rfl rfl ?_
  obtain ⟨T69, X69, e69, st69⟩ := getF X68 hx hZ hown (host := "") (Or.inl (W_ hw 26 rfl)) Via.refl e68 Fv_x (g := (mkF m 37 #[.val (.ref x), .val (.ref o), .val (.ref o)] [(.ref x)])) rfl rfl (hb hby d11_37)
  refine .st st69 ?_
  show OwnGo p e below s _ _ _ T69 (mkF m 40 _ [(.ref t)])
  refine .aloadN X69 hx (hb hby d11_40) rfl rfl ?_
  obtain ⟨T70, X70, e70, st70⟩ := getF X69 hx hZ hown (host := "") (Or.inl (W_ hw 26 rfl)) Via.refl e69 Fv_o (g := (mkF m 41 #[.val (.ref x), .val (.ref o), .val (.ref o)] [(.ref o), (.ref t)])) rfl rfl (hb hby d11_41)
  refine .st st70 ?_
  show OwnGo p e below s _ _ _ T70 (mkF m 44 _ [(.ref b), (.ref t)])
  obtain ⟨_, _, ⟨T71, L71, k71, n71⟩, -, X71, ⟨Lc71, hQ71, l71, y71, z71⟩, st71⟩ := Jvm.LawKit.callS X70 hx (y := (⟨"java/lang/StringLatin1", "equals", "([B[B)Z"⟩ : MethodName)) hown (mvT hZ (W_ hw 62 rfl)) (mvT hZ (W_ hw 63 rfl)) (mvT hZ (W_ hw 29 rfl)) (mvT hZ (W_ hw 64 rfl)) (by decide) (backOf (W := 0) (rmle2 l Z a0 hw [] t kt b kb b0 b1 h0 n0 Z_ V_t V_b) hZ (W_ hw 64 rfl) (W_ hw 29 rfl) (by decide) (by decide)) (g := (mkF m 44 #[.val (.ref x), .val (.ref o), .val (.ref o)] [(.ref b), (.ref t)])) rfl (by rw [hml]; rfl) (argsL := [(.ref t), (.ref b)]) (rest := []) (lenOf pd_5 rfl) rfl (Nat.le_of_eq rfl) (hb hby d11_44) (fun _ _ => ⟨rfl, e70, (by decide : 0 + 0 ≤ _), (by decide : 0 + 0 ≤ _)⟩)
  dsimp only [Pt.U, Pt.locs, Pt.cells, Pt.slots] at X71 l71 y71 z71 st71 hQ71
  subst l71 y71 z71
  obtain ⟨r71, rfl, N71q, e71, hr71⟩ := hQ71
  have N71 := Fr.app N0 N71q
  refine .st st71 ?_
  show OwnGo p e below s _ _ _ T71 (mkF m 47 _ [(.int r71)])
  rcases hr71 with ⟨rfl, hs⟩ | ⟨rfl, hs⟩
  · show OwnGo p e below s _ _ _ T71 (mkF m 47 _ [(.int (1 : Int32))])
    refine .ifNo X71 hx (hb hby d11_47) ((if0 _ _).trans (feq ((by decide) : ¬ ((1 : Int32) = (0 : Int32)))).1) ?_
    refine .iconst X71 hx (hb hby d11_50) own_ki1 ?_
    refine .goto (pc := 51) X71 hx 55 (hb hby d11_51) (by decide) (by decide) ?_
    exact OwnGo.retN X71 hx (t := .boolean) hret hlk (by simp) (hb hby d11_55) (by show Qse2 Z x t kt o b kb b0 b1 zc h0 n0 _ T71.heap _; rw [e71]; exact ⟨_, rfl, N71, rfl, Or.inl ⟨rfl, hs⟩⟩) (by decide) (by decide)
  · show OwnGo p e below s _ _ _ T71 (mkF m 47 _ [(.int (0 : Int32))])
    refine .ifYes (pc := 47) X71 hx 54 (hb hby d11_47) ((if0 _ _).trans (teq ((by decide) : (0 : Int32) = (0 : Int32))).1) (by decide) (by decide) ?_
    refine .iconst X71 hx (hb hby d11_54) own_ki0 ?_
    exact OwnGo.retN X71 hx (t := .boolean) hret hlk (by simp) (hb hby d11_55) (by show Qse2 Z x t kt o b kb b0 b1 zc h0 n0 _ T71.heap _; rw [e71]; exact ⟨_, rfl, N71, rfl, Or.inr ⟨rfl, hs⟩⟩) (by decide) (by decide)
def QleN (Z : State) (t : Addr) (kt : ClassId) (b : Addr) (kb : ClassId) (z : Int32) (vs : List Value) (y : Int32) (us : List Value) (h0 : Heap) (n0 : Nat) (v : Option Value) (h : Heap) (L : List Loc) : Prop := v = some (.int (0 : Int32)) ∧ Fr n0 L ∧ h = h0
theorem rmleN (l : Launch) (Z : State) (a0 : Array Value) (hw : own_tb a0 Z) (ws : List Jvm.Cond) (t : Addr) (kt : ClassId) (b : Addr) (kb : ClassId) (z : Int32) (vs : List Value) (y : Int32) (us : List Value) (h0 : Heap) (n0 : Nat) (Z0 : n0 ≤ h0.size) (V_t : Arv Z h0 t kt .byte z vs (.int (0 : Int32))) (V_b : Arv Z h0 b kb .byte y us (.int (0 : Int32))) (hz : ¬ z = y) :
    OwnMet l (⟨"java/lang/StringLatin1", "equals", "([B[B)Z"⟩ : MethodName) jdk_43_method_13_code 3 (some .boolean) ws ({ frames := 0, cells := 0, slots := 0, locals := 0 } : Room) #[(.ref t), (.ref b)] Z h0 (QleN Z t kt b kb z vs y us h0 n0) := by
  refine own_met (plainFor_of_name pn_4) ?_
  intro p e s m below meth c s₁ X0 hx hby hml hret hlk hown hnm hZ e0
  have N0 := Fr.nil n0
  have Z_ := Z0
  refine OwnGo.cast (ef_leN m t b) ?_
  show OwnGo p e below s _ _ _ s₁ (mkF m 0 _ [])
  refine .aloadN X0 hx (hb hby d12_0) rfl rfl ?_
  obtain ⟨cl72, Ar72, -, S72, N72, -, -⟩ := id V_t
  refine .st (fun _ => own_len hZ (len_of S72 N72) Ar72 X0 e0 hx (g := (mkF m 1 #[.val (.ref t), .val (.ref b), .unset] [(.ref t)])) rfl rfl (hb hby d12_1) _) ?_
  show OwnGo p e below s _ _ _ s₁ (mkF m 2 _ [(.int z)])
  refine .aloadN X0 hx (hb hby d12_2) rfl rfl ?_
  obtain ⟨cl73, Ar73, -, S73, N73, -, -⟩ := id V_b
  refine .st (fun _ => own_len hZ (len_of S73 N73) Ar73 X0 e0 hx (g := (mkF m 3 #[.val (.ref t), .val (.ref b), .unset] [(.ref b), (.int z)])) rfl rfl (hb hby d12_3) _) ?_
  show OwnGo p e below s _ _ _ s₁ (mkF m 4 _ [(.int y), (.int z)])
  refine .icmpYes (pc := 4) X0 hx 34 (hb hby d12_4) (feq (hz : ¬ (z = y))).2 (by decide) (by decide) ?_
  refine .iconst X0 hx (hb hby d12_34) own_ki0 ?_
  exact OwnGo.retN X0 hx (t := .boolean) hret hlk (by simp) (hb hby d12_35) (by show QleN Z t kt b kb z vs y us h0 n0 _ s₁.heap _; rw [e0]; exact ⟨rfl, N0, rfl⟩) (by decide) (by decide)
def QseN (Z : State) (x : Addr) (t : Addr) (kt : ClassId) (o : Addr) (b : Addr) (kb : ClassId) (z : Int32) (vs : List Value) (y : Int32) (us : List Value) (zc : Int32) (h0 : Heap) (n0 : Nat) (v : Option Value) (h : Heap) (L : List Loc) : Prop := v = some (.int (0 : Int32)) ∧ Fr n0 L ∧ h = h0
theorem rmseN (l : Launch) (Z : State) (a0 : Array Value) (hw : own_tb a0 Z) (ws : List Jvm.Cond) (x : Addr) (t : Addr) (kt : ClassId) (o : Addr) (b : Addr) (kb : ClassId) (z : Int32) (vs : List Value) (y : Int32) (us : List Value) (zc : Int32) (h0 : Heap) (n0 : Nat) (Z0 : n0 ≤ h0.size) (O_ : Old Z n0 h0) (S_CS : Sta Z Z.heap "java/lang/String" "COMPACT_STRINGS" "Z" (.int zc)) (P_CS : ¬ zc = (0 : Int32)) (E_x : Exa Z h0 x "java/lang/String") (Fc_x : Fld Z h0 x "java/lang/String" "coder" "B" (.int (0 : Int32))) (Fv_x : Fld Z h0 x "java/lang/String" "value" "[B" (.ref t)) (E_o : Exa Z h0 o "java/lang/String") (Fc_o : Fld Z h0 o "java/lang/String" "coder" "B" (.int (0 : Int32))) (Fv_o : Fld Z h0 o "java/lang/String" "value" "[B" (.ref b)) (V_t : Arv Z h0 t kt .byte z vs (.int (0 : Int32))) (V_b : Arv Z h0 b kb .byte y us (.int (0 : Int32))) (hz : ¬ z = y) (hne : ¬ x = o) :
    OwnMet l (⟨"java/lang/String", "equals", "(Ljava/lang/Object;)Z"⟩ : MethodName) jdk_42_method_66_code 3 (some .boolean) ws ({ frames := 1, cells := 0, slots := 0, locals := 14 } : Room) #[(.ref x), (.ref o)] Z h0 (QseN Z x t kt o b kb z vs y us zc h0 n0) := by
  refine own_met (plainFor_of_name pn_5) ?_
  intro p e s m below meth c s₁ X0 hx hby hml hret hlk hown hnm hZ e0
  have N0 := Fr.nil n0
  have Z_ := Z0
  refine OwnGo.cast (ef_seN m x o) ?_
  show OwnGo p e below s _ _ _ s₁ (mkF m 0 _ [])
  refine .aloadN X0 hx (hb hby d11_0) rfl rfl ?_
  refine .aloadN X0 hx (hb hby d11_1) rfl rfl ?_
  refine .st (fun _ => Jvm.RoadKit.acmp (g := (mkF m 2 #[.val (.ref x), .val (.ref o), .unset] [(.ref o), (.ref x)])) X0 hx rfl rfl rfl (pc0 := 2) (pc' := 7) (same := false) rfl (hb hby d11_2) rfl (decide_eq_false fun q => hne (Value.ref.inj q)) (by decide) (by decide)) ?_
  show OwnGo p e below s _ _ _ s₁ (mkF m 7 _ [])
  refine .aloadN X0 hx (hb hby d11_7) rfl rfl ?_
  obtain ⟨T74, X74, e74, st74⟩ := instY X0 hx hZ hown (W_ hw 61 rfl) e0 (Ins.self E_o) (g := (mkF m 8 #[.val (.ref x), .val (.ref o), .unset] [(.ref o)])) rfl rfl (hb hby d11_8)
  refine .st st74 ?_
  show OwnGo p e below s _ _ _ T74 (mkF m 11 _ [(.int (1 : Int32))])
  refine .ifNo X74 hx (hb hby d11_11) ((if0 _ _).trans (feq ((by decide) : ¬ ((1 : Int32) = (0 : Int32)))).1) ?_
  refine .aloadN X74 hx (hb hby d11_14) rfl rfl ?_
  obtain ⟨T75, X75, e75, st75⟩ := castY X74 hx hZ hown (W_ hw 61 rfl) e74 (Ins.self E_o) (g := (mkF m 15 #[.val (.ref x), .val (.ref o), .unset] [(.ref o)])) rfl rfl (hb hby d11_15)
  refine .st st75 ?_
  show OwnGo p e below s _ _ _ T75 (mkF m 18 _ [(.ref o)])
  refine .astoreN X75 hx (hb hby d11_18) rfl (L' := #[.val (.ref x), .val (.ref o), .val (.ref o)]) rfl ?_
  obtain ⟨T76, X76, e76, st76⟩ := getS2 X75 hx hZ hown (host := "") (Or.inl (W_ hw 24 rfl)) Via.refl e75 (S_CS.ext O_.2) (g := (mkF m 19 #[.val (.ref x), .val (.ref o), .val (.ref o)] [])) rfl (hb hby d11_19)
  refine .st st76 ?_
  show OwnGo p e below s _ _ _ T76 (mkF m 22 _ [(.int zc)])
  refine .ifNo X76 hx (hb hby d11_22) ((if0 _ _).trans (feq (P_CS : ¬ (zc = (0 : Int32)))).1) ?_
  refine .aloadN X76 hx (hb hby d11_25) rfl rfl ?_
  obtain ⟨T77, X77, e77, st77⟩ := getF X76 hx hZ hown (host := "") (Or.inl (W_ hw 25 rfl)) Via.refl e76 Fc_x (g := (mkF m 26 #[.val (.ref x), .val (.ref o), .val (.ref o)] [(.ref x)])) rfl rfl (hb hby d11_26)
  refine .st st77 ?_
  show OwnGo p e below s _ _ _ T77 (mkF m 29 _ [(.int (0 : Int32))])
  refine .aloadN X77 hx (hb hby d11_29) rfl rfl ?_
  obtain ⟨T78, X78, e78, st78⟩ := getF X77 hx hZ hown (host := "") (Or.inl (W_ hw 25 rfl)) Via.refl e77 Fc_o (g := (mkF m 30 #[.val (.ref x), .val (.ref o), .val (.ref o)] [(.ref o), (.int (0 : Int32))])) rfl rfl (hb hby d11_30)
  refine .st st78 ?_
  show OwnGo p e below s _ _ _ T78 (mkF m 33 _ [(.int (0 : Int32)), (.int (0 : Int32))])
  refine .icmpNo X78 hx (hb hby d11_33) (teq ((by decide) : (0 : Int32) = (0 : Int32))).2 ?_
  refine .aloadN X78 hx (hb hby d11_36) rfl rfl ?_
  obtain ⟨T79, X79, e79, st79⟩ := getF X78 hx hZ hown (host := "") (Or.inl (W_ hw 26 rfl)) Via.refl e78 Fv_x (g := (mkF m 37 #[.val (.ref x), .val (.ref o), .val (.ref o)] [(.ref x)])) rfl rfl (hb hby d11_37)
  refine .st st79 ?_
  show OwnGo p e below s _ _ _ T79 (mkF m 40 _ [(.ref t)])
  refine .aloadN X79 hx (hb hby d11_40) rfl rfl ?_
  obtain ⟨T80, X80, e80, st80⟩ := getF X79 hx hZ hown (host := "") (Or.inl (W_ hw 26 rfl)) Via.refl e79 Fv_o (g := (mkF m 41 #[.val (.ref x), .val (.ref o), .val (.ref o)] [(.ref o), (.ref t)])) rfl rfl (hb hby d11_41)
  refine .st st80 ?_
  show OwnGo p e below s _ _ _ T80 (mkF m 44 _ [(.ref b), (.ref t)])
  obtain ⟨_, _, ⟨T81, L81, k81, n81⟩, -, X81, ⟨Lc81, hQ81, l81, y81, z81⟩, st81⟩ := Jvm.LawKit.callS X80 hx (y := (⟨"java/lang/StringLatin1", "equals", "([B[B)Z"⟩ : MethodName)) hown (mvT hZ (W_ hw 62 rfl)) (mvT hZ (W_ hw 63 rfl)) (mvT hZ (W_ hw 29 rfl)) (mvT hZ (W_ hw 64 rfl)) (by decide) (backOf (W := 0) (rmleN l Z a0 hw [] t kt b kb z vs y us h0 n0 Z_ V_t V_b hz) hZ (W_ hw 64 rfl) (W_ hw 29 rfl) (by decide) (by decide)) (g := (mkF m 44 #[.val (.ref x), .val (.ref o), .val (.ref o)] [(.ref b), (.ref t)])) rfl (by rw [hml]; rfl) (argsL := [(.ref t), (.ref b)]) (rest := []) (lenOf pd_5 rfl) rfl (Nat.le_of_eq rfl) (hb hby d11_44) (fun _ _ => ⟨rfl, e80, (by decide : 0 + 0 ≤ _), (by decide : 0 + 0 ≤ _)⟩)
  dsimp only [Pt.U, Pt.locs, Pt.cells, Pt.slots] at X81 l81 y81 z81 st81 hQ81
  subst l81 y81 z81
  obtain ⟨rfl, N81q, e81⟩ := hQ81
  have N81 := Fr.app N0 N81q
  refine .st st81 ?_
  show OwnGo p e below s _ _ _ T81 (mkF m 47 _ [(.int (0 : Int32))])
  refine .ifYes (pc := 47) X81 hx 54 (hb hby d11_47) ((if0 _ _).trans (teq ((by decide) : (0 : Int32) = (0 : Int32))).1) (by decide) (by decide) ?_
  refine .iconst X81 hx (hb hby d11_54) own_ki0 ?_
  exact OwnGo.retN X81 hx (t := .boolean) hret hlk (by simp) (hb hby d11_55) (by show QseN Z x t kt o b kb z vs y us zc h0 n0 _ T81.heap _; rw [e81]; exact ⟨rfl, N81, rfl⟩) (by decide) (by decide)
def QseE (Z : State) (x : Addr) (o : Addr) (h0 : Heap) (n0 : Nat) (v : Option Value) (h : Heap) (L : List Loc) : Prop := v = some (.int (1 : Int32)) ∧ Fr n0 L ∧ h = h0
theorem rmseE (l : Launch) (Z : State) (a0 : Array Value) (hw : own_tb a0 Z) (ws : List Jvm.Cond) (x : Addr) (o : Addr) (h0 : Heap) (n0 : Nat) (Z0 : n0 ≤ h0.size) (he : x = o) :
    OwnMet l (⟨"java/lang/String", "equals", "(Ljava/lang/Object;)Z"⟩ : MethodName) jdk_42_method_66_code 3 (some .boolean) ws ({ frames := 0, cells := 0, slots := 0, locals := 0 } : Room) #[(.ref x), (.ref o)] Z h0 (QseE Z x o h0 n0) := by
  refine own_met (plainFor_of_name pn_5) ?_
  intro p e s m below meth c s₁ X0 hx hby hml hret hlk hown hnm hZ e0
  have N0 := Fr.nil n0
  have Z_ := Z0
  refine OwnGo.cast (ef_seE m x o) ?_
  show OwnGo p e below s _ _ _ s₁ (mkF m 0 _ [])
  refine .aloadN X0 hx (hb hby d11_0) rfl rfl ?_
  refine .aloadN X0 hx (hb hby d11_1) rfl rfl ?_
  refine .st (fun _ => Jvm.RoadKit.acmp (g := (mkF m 2 #[.val (.ref x), .val (.ref o), .unset] [(.ref o), (.ref x)])) X0 hx rfl rfl rfl (pc0 := 2) (pc' := 5) (same := true) rfl (hb hby d11_2) rfl (decide_eq_true (congrArg Value.ref he)) (by decide) (by decide)) ?_
  show OwnGo p e below s _ _ _ s₁ (mkF m 5 _ [])
  refine .iconst X0 hx (hb hby d11_5) own_ki1 ?_
  exact OwnGo.retN X0 hx (t := .boolean) hret hlk (by simp) (hb hby d11_6) (by show QseE Z x o h0 n0 _ s₁.heap _; rw [e0]; exact ⟨rfl, N0, rfl⟩) (by decide) (by decide)
def QisV9 (Z : State) (x : Addr) (t : Addr) (kt : ClassId) (b0 : Int32) (b1 : Int32) (b2 : Int32) (b3 : Int32) (b4 : Int32) (b5 : Int32) (b6 : Int32) (b7 : Int32) (b8 : Int32) (zc : Int32) (h0 : Heap) (n0 : Nat) (v : Option Value) (h : Heap) (L : List Loc) : Prop := ∃ r : Int32, v = some (.int r) ∧ Fr n0 L ∧ Keep h0 h [] ∧ ((r = (1 : Int32) ∧ (b0 = (45 : Int32) ∧ b1 = (45 : Int32) ∧ b2 = (118 : Int32) ∧ b3 = (101 : Int32) ∧ b4 = (114 : Int32) ∧ b5 = (98 : Int32) ∧ b6 = (111 : Int32) ∧ b7 = (115 : Int32) ∧ b8 = (101 : Int32))) ∨ (r = (0 : Int32) ∧ ¬ (b0 = (45 : Int32) ∧ b1 = (45 : Int32) ∧ b2 = (118 : Int32) ∧ b3 = (101 : Int32) ∧ b4 = (114 : Int32) ∧ b5 = (98 : Int32) ∧ b6 = (111 : Int32) ∧ b7 = (115 : Int32) ∧ b8 = (101 : Int32))))
theorem rmisV9 (l : Launch) (Z : State) (a0 : Array Value) (hw : own_tb a0 Z) (ws : List Jvm.Cond) (x : Addr) (t : Addr) (kt : ClassId) (b0 : Int32) (b1 : Int32) (b2 : Int32) (b3 : Int32) (b4 : Int32) (b5 : Int32) (b6 : Int32) (b7 : Int32) (b8 : Int32) (zc : Int32) (h0 : Heap) (n0 : Nat) (Z0 : n0 ≤ h0.size) (O_ : Old Z n0 h0) (S_CS : Sta Z Z.heap "java/lang/String" "COMPACT_STRINGS" "Z" (.int zc)) (P_CS : ¬ zc = (0 : Int32)) (E_x : Exa Z h0 x "java/lang/String") (Fc_x : Fld Z h0 x "java/lang/String" "coder" "B" (.int (0 : Int32))) (Fv_x : Fld Z h0 x "java/lang/String" "value" "[B" (.ref t)) (V_t : Arv Z h0 t kt .byte (9 : Int32) [(.int b0), (.int b1), (.int b2), (.int b3), (.int b4), (.int b5), (.int b6), (.int b7), (.int b8)] (.int (0 : Int32))) :
    OwnMetW l (⟨"com/example/mapweft/mapweft/Options", "isVerbose", "(Ljava/lang/String;)Z"⟩ : MethodName) prog_4_method_2_code 1 (some .boolean) ws ({ frames := 2, cells := 4, slots := 52, locals := 28 } : Room) #[(.ref x)] Z h0 (QisV9 Z x t kt b0 b1 b2 b3 b4 b5 b6 b7 b8 zc h0 n0) := by
  refine own_metW (EL := own_EL) (plainFor_of_name pn_10) ?_
  intro p e s m below meth c s₁ X0 hx hby hml hret hlk hown hnm hZ e0 hS_ CR
  have hk_ := Nat.le_refl h0.size
  have N0 := Fr.nil n0
  have Z_ := Z0
  refine OwnGoW.cast (ef_isV9 m x) ?_
  show OwnGoW p e below s Z own_EL _ _ _ s₁ (mkF m 0 _ [])
  have Kp : Keep h0 h0 [] := Keep.refl h0 []
  refine .aloadN X0 hx (hb hby d10_0) rfl rfl ?_
  obtain ⟨a82, T82, h82, k1_82, b82, kc82, X82, e82, E82, hS_, hkN, hZ, hown, Ea_, Fc_, Fv_, Vb_, -, -, CN, -, sN, st82⟩ := ldcCH (s := s) (vm0 := s.vm) X0 hx hZ hown (W_ hw 55 rfl) (own_wS hw) e0 hS_ hk_ (own_hEL hw) (by decide) CR.1 (vs := [(.int (45 : Int32)), (.int (45 : Int32)), (.int (118 : Int32)), (.int (101 : Int32)), (.int (114 : Int32)), (.int (98 : Int32)), (.int (111 : Int32)), (.int (115 : Int32)), (.int (101 : Int32))]) (z := (9 : Int32)) ⟨by decide, rfl⟩ (by decide) (by decide) (g := (mkF m 1 #[.val (.ref x)] [(.ref x)])) rfl (hb hby d10_1) (n := 36) (by decide) (by decide) (by decide) (by decide)
  have E_x := E_x.ext E82
  have Fc_x := Fc_x.ext E82
  have Fv_x := Fv_x.ext E82
  have V_t := V_t.ext E82
  have O_ := O_.ext E82
  have Kp := Kp.ext E82
  have CR := CR.trans CN
  have hk_ := hkN
  have Z_ : n0 ≤ h82.size := Nat.le_trans Z_ E82.1
  have E_a82 := Ea_
  have Fc_a82 := Fc_
  have Fv_a82 := Fv_
  have V_b82 := Vb_
  refine .st st82 ?_
  show OwnGoW p e below s Z own_EL _ _ _ T82 (mkF m 3 _ [(.ref a82), (.ref x)])
  by_cases hxa : x = a82
  · have dd := own_arvd (own_tb2 hxa Fv_x Fv_a82) V_t V_b82
    have hs : b0 = (45 : Int32) ∧ b1 = (45 : Int32) ∧ b2 = (118 : Int32) ∧ b3 = (101 : Int32) ∧ b4 = (114 : Int32) ∧ b5 = (98 : Int32) ∧ b6 = (111 : Int32) ∧ b7 = (115 : Int32) ∧ b8 = (101 : Int32) := ⟨Value.int.inj (dd 0 (by decide)), Value.int.inj (dd 1 (by decide)), Value.int.inj (dd 2 (by decide)), Value.int.inj (dd 3 (by decide)), Value.int.inj (dd 4 (by decide)), Value.int.inj (dd 5 (by decide)), Value.int.inj (dd 6 (by decide)), Value.int.inj (dd 7 (by decide)), Value.int.inj (dd 8 (by decide))⟩
    obtain ⟨cq83, kq83, q83a, q83b, q83c⟩ := isOf hZ e82 E_x
    obtain ⟨_, _, ⟨T83, L83, k83, n83⟩, -, X83, ⟨Lc83, hQ83, l83, y83, z83⟩, st83⟩ := X82.virtualBack hx (y := (⟨"java/lang/String", "equals", "(Ljava/lang/Object;)Z"⟩ : MethodName)) (z := (⟨"java/lang/String", "equals", "(Ljava/lang/Object;)Z"⟩ : MethodName)) hown (mvT hZ (W_ hw 56 rfl)) (mvT hZ (W_ hw 57 rfl)) (notFace_of_selects (args := #[]) (mvT hZ (W_ hw 59 rfl))) (mvT hZ (W_ hw 59 rfl)) (mvT hZ (W_ hw 58 rfl)) (by decide) (backOf (W := 0) (rmseE l Z a0 hw [] x a82 h82 n0 Z_ hxa) hZ (W_ hw 60 rfl) (W_ hw 7 rfl) (by decide) (by decide)) q83a q83c (g := (mkF m 3 #[.val (.ref x)] [(.ref a82), (.ref x)])) rfl (by rw [hml]; rfl) (Steps.refl _) (argsL := [(.ref a82)]) (rest := []) (lenOf pd_6 rfl) rfl (Nat.le_of_eq rfl) (hb hby d10_3) (fun _ _ => ⟨rfl, e82, (by decide : 2 + 0 ≤ _), (by decide : 40 + 0 ≤ _)⟩)
    dsimp only [Pt.U, Pt.locs, Pt.cells, Pt.slots] at X83 l83 y83 z83 st83 hQ83
    subst l83 y83 z83
    obtain ⟨rfl, N83q, e83⟩ := hQ83
    have N83 := Fr.app N0 N83q
    refine .st (fun _ => st83.trans) ?_
    show OwnGoW p e below s Z own_EL _ _ _ T83 (mkF m 6 _ [(.int (1 : Int32))])
    refine .ifYes (pc := 6) X83 hx 18 (hb hby d10_6) ((if0 _ _).trans (feq ((by decide) : ¬ ((1 : Int32) = (0 : Int32)))).2) (by decide) (by decide) ?_
    refine .iconst X83 hx (hb hby d10_18) own_ki1 ?_
    refine .goto (pc := 19) X83 hx 23 (hb hby d10_19) (by decide) (by decide) ?_
    exact OwnGoW.retN (s := s) (vm0 := T82.vm) X83 hS_ hk_ e83 hZ (own_hEL hw) CR hx (t := .boolean) hret hlk (by simp) (hb hby d10_23) (by show QisV9 Z x t kt b0 b1 b2 b3 b4 b5 b6 b7 b8 zc h0 n0 _ T83.heap _; rw [e83]; exact ⟨_, rfl, N83, Kp, Or.inl ⟨rfl, hs⟩⟩) (by decide) (by decide)
  · obtain ⟨cq84, kq84, q84a, q84b, q84c⟩ := isOf hZ e82 E_x
    obtain ⟨_, _, ⟨T84, L84, k84, n84⟩, -, X84, ⟨Lc84, hQ84, l84, y84, z84⟩, st84⟩ := X82.virtualBack hx (y := (⟨"java/lang/String", "equals", "(Ljava/lang/Object;)Z"⟩ : MethodName)) (z := (⟨"java/lang/String", "equals", "(Ljava/lang/Object;)Z"⟩ : MethodName)) hown (mvT hZ (W_ hw 56 rfl)) (mvT hZ (W_ hw 57 rfl)) (notFace_of_selects (args := #[]) (mvT hZ (W_ hw 59 rfl))) (mvT hZ (W_ hw 59 rfl)) (mvT hZ (W_ hw 58 rfl)) (by decide) (backOf (W := 0) (rmse9 l Z a0 hw [] x t kt a82 b82 kc82 b0 b1 b2 b3 b4 b5 b6 b7 b8 zc h82 n0 Z_ O_ S_CS P_CS E_x Fc_x Fv_x E_a82 Fc_a82 Fv_a82 V_t V_b82 hxa) hZ (W_ hw 60 rfl) (W_ hw 7 rfl) (by decide) (by decide)) q84a q84c (g := (mkF m 3 #[.val (.ref x)] [(.ref a82), (.ref x)])) rfl (by rw [hml]; rfl) (Steps.refl _) (argsL := [(.ref a82)]) (rest := []) (lenOf pd_6 rfl) rfl (Nat.le_of_eq rfl) (hb hby d10_3) (fun _ _ => ⟨rfl, e82, (by decide : 2 + 0 ≤ _), (by decide : 40 + 0 ≤ _)⟩)
    dsimp only [Pt.U, Pt.locs, Pt.cells, Pt.slots] at X84 l84 y84 z84 st84 hQ84
    subst l84 y84 z84
    obtain ⟨r84, rfl, N84q, e84, hr84⟩ := hQ84
    have N84 := Fr.app N0 N84q
    refine .st (fun _ => st84.trans) ?_
    show OwnGoW p e below s Z own_EL _ _ _ T84 (mkF m 6 _ [(.int r84)])
    rcases hr84 with ⟨rfl, hs⟩ | ⟨rfl, hs⟩
    · show OwnGoW p e below s Z own_EL _ _ _ T84 (mkF m 6 _ [(.int (1 : Int32))])
      refine .ifYes (pc := 6) X84 hx 18 (hb hby d10_6) ((if0 _ _).trans (feq ((by decide) : ¬ ((1 : Int32) = (0 : Int32)))).2) (by decide) (by decide) ?_
      refine .iconst X84 hx (hb hby d10_18) own_ki1 ?_
      refine .goto (pc := 19) X84 hx 23 (hb hby d10_19) (by decide) (by decide) ?_
      exact OwnGoW.retN (s := s) (vm0 := T82.vm) X84 hS_ hk_ e84 hZ (own_hEL hw) CR hx (t := .boolean) hret hlk (by simp) (hb hby d10_23) (by show QisV9 Z x t kt b0 b1 b2 b3 b4 b5 b6 b7 b8 zc h0 n0 _ T84.heap _; rw [e84]; exact ⟨_, rfl, N84, Kp, Or.inl ⟨rfl, hs⟩⟩) (by decide) (by decide)
    · show OwnGoW p e below s Z own_EL _ _ _ T84 (mkF m 6 _ [(.int (0 : Int32))])
      refine .ifNo X84 hx (hb hby d10_6) ((if0 _ _).trans (teq ((by decide) : (0 : Int32) = (0 : Int32))).2) ?_
      refine .aloadN X84 hx (hb hby d10_9) rfl rfl ?_
      obtain ⟨a85, T85, h85, k1_85, b85, kc85, X85, e85, E85, hS_, hkN, hZ, hown, Ea_, Fc_, Fv_, Vb_, -, -, CN, -, sN, st85⟩ := ldcCH (s := s) (vm0 := T82.vm) X84 hx hZ hown (W_ hw 65 rfl) (own_wS hw) e84 hS_ hk_ (own_hEL hw) (by decide) CR.1 (vs := [(.int (45 : Int32)), (.int (118 : Int32))]) (z := (2 : Int32)) ⟨by decide, rfl⟩ (by decide) (by decide) (g := (mkF m 10 #[.val (.ref x)] [(.ref x)])) rfl (hb hby d10_10) (n := 8) (by decide) (by decide) (by decide) (by decide)
      have E_x := E_x.ext E85
      have Fc_x := Fc_x.ext E85
      have Fv_x := Fv_x.ext E85
      have V_t := V_t.ext E85
      have E_a82 := E_a82.ext E85
      have Fc_a82 := Fc_a82.ext E85
      have Fv_a82 := Fv_a82.ext E85
      have V_b82 := V_b82.ext E85
      have O_ := O_.ext E85
      have Kp := Kp.ext E85
      have CR := CR.trans CN
      have hk_ := hkN
      have Z_ : n0 ≤ h85.size := Nat.le_trans Z_ E85.1
      have E_a85 := Ea_
      have Fc_a85 := Fc_
      have Fv_a85 := Fv_
      have V_b85 := Vb_
      refine .st st85 ?_
      show OwnGoW p e below s Z own_EL _ _ _ T85 (mkF m 12 _ [(.ref a85), (.ref x)])
      have hne : ¬ x = a85 := fun q => absurd (own_arvz (own_tb2 q Fv_x Fv_a85) V_t V_b85) (by decide)
      obtain ⟨cq86, kq86, q86a, q86b, q86c⟩ := isOf hZ e85 E_x
      obtain ⟨_, _, ⟨T86, L86, k86, n86⟩, -, X86, ⟨Lc86, hQ86, l86, y86, z86⟩, st86⟩ := X85.virtualBack hx (y := (⟨"java/lang/String", "equals", "(Ljava/lang/Object;)Z"⟩ : MethodName)) (z := (⟨"java/lang/String", "equals", "(Ljava/lang/Object;)Z"⟩ : MethodName)) hown (mvT hZ (W_ hw 56 rfl)) (mvT hZ (W_ hw 57 rfl)) (notFace_of_selects (args := #[]) (mvT hZ (W_ hw 59 rfl))) (mvT hZ (W_ hw 59 rfl)) (mvT hZ (W_ hw 58 rfl)) (by decide) (backOf (W := 0) (rmseN l Z a0 hw [] x t kt a85 b85 kc85 (9 : Int32) [(.int b0), (.int b1), (.int b2), (.int b3), (.int b4), (.int b5), (.int b6), (.int b7), (.int b8)] (2 : Int32) [(.int (45 : Int32)), (.int (118 : Int32))] zc h85 n0 Z_ O_ S_CS P_CS E_x Fc_x Fv_x E_a85 Fc_a85 Fv_a85 V_t V_b85 (by decide) hne) hZ (W_ hw 60 rfl) (W_ hw 7 rfl) (by decide) (by decide)) q86a q86c (g := (mkF m 12 #[.val (.ref x)] [(.ref a85), (.ref x)])) rfl (by rw [hml]; rfl) (Steps.refl _) (argsL := [(.ref a85)]) (rest := []) (lenOf pd_6 rfl) rfl (Nat.le_of_eq rfl) (hb hby d10_12) (fun _ _ => ⟨rfl, e85, (by decide : 4 + 0 ≤ _), (by decide : 52 + 0 ≤ _)⟩)
      dsimp only [Pt.U, Pt.locs, Pt.cells, Pt.slots] at X86 l86 y86 z86 st86 hQ86
      subst l86 y86 z86
      obtain ⟨rfl, N86q, e86⟩ := hQ86
      have N86 := Fr.app N84 N86q
      refine .st (fun _ => st86.trans) ?_
      show OwnGoW p e below s Z own_EL _ _ _ T86 (mkF m 15 _ [(.int (0 : Int32))])
      refine .ifYes (pc := 15) X86 hx 22 (hb hby d10_15) ((if0 _ _).trans (teq ((by decide) : (0 : Int32) = (0 : Int32))).1) (by decide) (by decide) ?_
      refine .iconst X86 hx (hb hby d10_22) own_ki0 ?_
      exact OwnGoW.retN (s := s) (vm0 := T85.vm) X86 hS_ hk_ e86 hZ (own_hEL hw) CR hx (t := .boolean) hret hlk (by simp) (hb hby d10_23) (by show QisV9 Z x t kt b0 b1 b2 b3 b4 b5 b6 b7 b8 zc h0 n0 _ T86.heap _; rw [e86]; exact ⟨_, rfl, N86, Kp, Or.inr ⟨rfl, hs⟩⟩) (by decide) (by decide)
def QisV2 (Z : State) (x : Addr) (t : Addr) (kt : ClassId) (b0 : Int32) (b1 : Int32) (zc : Int32) (h0 : Heap) (n0 : Nat) (v : Option Value) (h : Heap) (L : List Loc) : Prop := ∃ r : Int32, v = some (.int r) ∧ Fr n0 L ∧ Keep h0 h [] ∧ ((r = (1 : Int32) ∧ (b0 = (45 : Int32) ∧ b1 = (118 : Int32))) ∨ (r = (0 : Int32) ∧ ¬ (b0 = (45 : Int32) ∧ b1 = (118 : Int32))))
theorem rmisV2 (l : Launch) (Z : State) (a0 : Array Value) (hw : own_tb a0 Z) (ws : List Jvm.Cond) (x : Addr) (t : Addr) (kt : ClassId) (b0 : Int32) (b1 : Int32) (zc : Int32) (h0 : Heap) (n0 : Nat) (Z0 : n0 ≤ h0.size) (O_ : Old Z n0 h0) (S_CS : Sta Z Z.heap "java/lang/String" "COMPACT_STRINGS" "Z" (.int zc)) (P_CS : ¬ zc = (0 : Int32)) (E_x : Exa Z h0 x "java/lang/String") (Fc_x : Fld Z h0 x "java/lang/String" "coder" "B" (.int (0 : Int32))) (Fv_x : Fld Z h0 x "java/lang/String" "value" "[B" (.ref t)) (V_t : Arv Z h0 t kt .byte (2 : Int32) [(.int b0), (.int b1)] (.int (0 : Int32))) :
    OwnMetW l (⟨"com/example/mapweft/mapweft/Options", "isVerbose", "(Ljava/lang/String;)Z"⟩ : MethodName) prog_4_method_2_code 1 (some .boolean) ws ({ frames := 2, cells := 4, slots := 52, locals := 28 } : Room) #[(.ref x)] Z h0 (QisV2 Z x t kt b0 b1 zc h0 n0) := by
  refine own_metW (EL := own_EL) (plainFor_of_name pn_10) ?_
  intro p e s m below meth c s₁ X0 hx hby hml hret hlk hown hnm hZ e0 hS_ CR
  have hk_ := Nat.le_refl h0.size
  have N0 := Fr.nil n0
  have Z_ := Z0
  refine OwnGoW.cast (ef_isV2 m x) ?_
  show OwnGoW p e below s Z own_EL _ _ _ s₁ (mkF m 0 _ [])
  have Kp : Keep h0 h0 [] := Keep.refl h0 []
  refine .aloadN X0 hx (hb hby d10_0) rfl rfl ?_
  obtain ⟨a87, T87, h87, k1_87, b87, kc87, X87, e87, E87, hS_, hkN, hZ, hown, Ea_, Fc_, Fv_, Vb_, -, -, CN, -, sN, st87⟩ := ldcCH (s := s) (vm0 := s.vm) X0 hx hZ hown (W_ hw 55 rfl) (own_wS hw) e0 hS_ hk_ (own_hEL hw) (by decide) CR.1 (vs := [(.int (45 : Int32)), (.int (45 : Int32)), (.int (118 : Int32)), (.int (101 : Int32)), (.int (114 : Int32)), (.int (98 : Int32)), (.int (111 : Int32)), (.int (115 : Int32)), (.int (101 : Int32))]) (z := (9 : Int32)) ⟨by decide, rfl⟩ (by decide) (by decide) (g := (mkF m 1 #[.val (.ref x)] [(.ref x)])) rfl (hb hby d10_1) (n := 36) (by decide) (by decide) (by decide) (by decide)
  have E_x := E_x.ext E87
  have Fc_x := Fc_x.ext E87
  have Fv_x := Fv_x.ext E87
  have V_t := V_t.ext E87
  have O_ := O_.ext E87
  have Kp := Kp.ext E87
  have CR := CR.trans CN
  have hk_ := hkN
  have Z_ : n0 ≤ h87.size := Nat.le_trans Z_ E87.1
  have E_a87 := Ea_
  have Fc_a87 := Fc_
  have Fv_a87 := Fv_
  have V_b87 := Vb_
  refine .st st87 ?_
  show OwnGoW p e below s Z own_EL _ _ _ T87 (mkF m 3 _ [(.ref a87), (.ref x)])
  have hne : ¬ x = a87 := fun q => absurd (own_arvz (own_tb2 q Fv_x Fv_a87) V_t V_b87) (by decide)
  obtain ⟨cq88, kq88, q88a, q88b, q88c⟩ := isOf hZ e87 E_x
  obtain ⟨_, _, ⟨T88, L88, k88, n88⟩, -, X88, ⟨Lc88, hQ88, l88, y88, z88⟩, st88⟩ := X87.virtualBack hx (y := (⟨"java/lang/String", "equals", "(Ljava/lang/Object;)Z"⟩ : MethodName)) (z := (⟨"java/lang/String", "equals", "(Ljava/lang/Object;)Z"⟩ : MethodName)) hown (mvT hZ (W_ hw 56 rfl)) (mvT hZ (W_ hw 57 rfl)) (notFace_of_selects (args := #[]) (mvT hZ (W_ hw 59 rfl))) (mvT hZ (W_ hw 59 rfl)) (mvT hZ (W_ hw 58 rfl)) (by decide) (backOf (W := 0) (rmseN l Z a0 hw [] x t kt a87 b87 kc87 (2 : Int32) [(.int b0), (.int b1)] (9 : Int32) [(.int (45 : Int32)), (.int (45 : Int32)), (.int (118 : Int32)), (.int (101 : Int32)), (.int (114 : Int32)), (.int (98 : Int32)), (.int (111 : Int32)), (.int (115 : Int32)), (.int (101 : Int32))] zc h87 n0 Z_ O_ S_CS P_CS E_x Fc_x Fv_x E_a87 Fc_a87 Fv_a87 V_t V_b87 (by decide) hne) hZ (W_ hw 60 rfl) (W_ hw 7 rfl) (by decide) (by decide)) q88a q88c (g := (mkF m 3 #[.val (.ref x)] [(.ref a87), (.ref x)])) rfl (by rw [hml]; rfl) (Steps.refl _) (argsL := [(.ref a87)]) (rest := []) (lenOf pd_6 rfl) rfl (Nat.le_of_eq rfl) (hb hby d10_3) (fun _ _ => ⟨rfl, e87, (by decide : 2 + 0 ≤ _), (by decide : 40 + 0 ≤ _)⟩)
  dsimp only [Pt.U, Pt.locs, Pt.cells, Pt.slots] at X88 l88 y88 z88 st88 hQ88
  subst l88 y88 z88
  obtain ⟨rfl, N88q, e88⟩ := hQ88
  have N88 := Fr.app N0 N88q
  refine .st (fun _ => st88.trans) ?_
  show OwnGoW p e below s Z own_EL _ _ _ T88 (mkF m 6 _ [(.int (0 : Int32))])
  refine .ifNo X88 hx (hb hby d10_6) ((if0 _ _).trans (teq ((by decide) : (0 : Int32) = (0 : Int32))).2) ?_
  refine .aloadN X88 hx (hb hby d10_9) rfl rfl ?_
  obtain ⟨a89, T89, h89, k1_89, b89, kc89, X89, e89, E89, hS_, hkN, hZ, hown, Ea_, Fc_, Fv_, Vb_, -, -, CN, -, sN, st89⟩ := ldcCH (s := s) (vm0 := T87.vm) X88 hx hZ hown (W_ hw 65 rfl) (own_wS hw) e88 hS_ hk_ (own_hEL hw) (by decide) CR.1 (vs := [(.int (45 : Int32)), (.int (118 : Int32))]) (z := (2 : Int32)) ⟨by decide, rfl⟩ (by decide) (by decide) (g := (mkF m 10 #[.val (.ref x)] [(.ref x)])) rfl (hb hby d10_10) (n := 8) (by decide) (by decide) (by decide) (by decide)
  have E_x := E_x.ext E89
  have Fc_x := Fc_x.ext E89
  have Fv_x := Fv_x.ext E89
  have V_t := V_t.ext E89
  have E_a87 := E_a87.ext E89
  have Fc_a87 := Fc_a87.ext E89
  have Fv_a87 := Fv_a87.ext E89
  have V_b87 := V_b87.ext E89
  have O_ := O_.ext E89
  have Kp := Kp.ext E89
  have CR := CR.trans CN
  have hk_ := hkN
  have Z_ : n0 ≤ h89.size := Nat.le_trans Z_ E89.1
  have E_a89 := Ea_
  have Fc_a89 := Fc_
  have Fv_a89 := Fv_
  have V_b89 := Vb_
  refine .st st89 ?_
  show OwnGoW p e below s Z own_EL _ _ _ T89 (mkF m 12 _ [(.ref a89), (.ref x)])
  by_cases hxa : x = a89
  · have dd := own_arvd (own_tb2 hxa Fv_x Fv_a89) V_t V_b89
    have hs : b0 = (45 : Int32) ∧ b1 = (118 : Int32) := ⟨Value.int.inj (dd 0 (by decide)), Value.int.inj (dd 1 (by decide))⟩
    obtain ⟨cq90, kq90, q90a, q90b, q90c⟩ := isOf hZ e89 E_x
    obtain ⟨_, _, ⟨T90, L90, k90, n90⟩, -, X90, ⟨Lc90, hQ90, l90, y90, z90⟩, st90⟩ := X89.virtualBack hx (y := (⟨"java/lang/String", "equals", "(Ljava/lang/Object;)Z"⟩ : MethodName)) (z := (⟨"java/lang/String", "equals", "(Ljava/lang/Object;)Z"⟩ : MethodName)) hown (mvT hZ (W_ hw 56 rfl)) (mvT hZ (W_ hw 57 rfl)) (notFace_of_selects (args := #[]) (mvT hZ (W_ hw 59 rfl))) (mvT hZ (W_ hw 59 rfl)) (mvT hZ (W_ hw 58 rfl)) (by decide) (backOf (W := 0) (rmseE l Z a0 hw [] x a89 h89 n0 Z_ hxa) hZ (W_ hw 60 rfl) (W_ hw 7 rfl) (by decide) (by decide)) q90a q90c (g := (mkF m 12 #[.val (.ref x)] [(.ref a89), (.ref x)])) rfl (by rw [hml]; rfl) (Steps.refl _) (argsL := [(.ref a89)]) (rest := []) (lenOf pd_6 rfl) rfl (Nat.le_of_eq rfl) (hb hby d10_12) (fun _ _ => ⟨rfl, e89, (by decide : 4 + 0 ≤ _), (by decide : 52 + 0 ≤ _)⟩)
    dsimp only [Pt.U, Pt.locs, Pt.cells, Pt.slots] at X90 l90 y90 z90 st90 hQ90
    subst l90 y90 z90
    obtain ⟨rfl, N90q, e90⟩ := hQ90
    have N90 := Fr.app N88 N90q
    refine .st (fun _ => st90.trans) ?_
    show OwnGoW p e below s Z own_EL _ _ _ T90 (mkF m 15 _ [(.int (1 : Int32))])
    refine .ifNo X90 hx (hb hby d10_15) ((if0 _ _).trans (feq ((by decide) : ¬ ((1 : Int32) = (0 : Int32)))).1) ?_
    refine .iconst X90 hx (hb hby d10_18) own_ki1 ?_
    refine .goto (pc := 19) X90 hx 23 (hb hby d10_19) (by decide) (by decide) ?_
    exact OwnGoW.retN (s := s) (vm0 := T89.vm) X90 hS_ hk_ e90 hZ (own_hEL hw) CR hx (t := .boolean) hret hlk (by simp) (hb hby d10_23) (by show QisV2 Z x t kt b0 b1 zc h0 n0 _ T90.heap _; rw [e90]; exact ⟨_, rfl, N90, Kp, Or.inl ⟨rfl, hs⟩⟩) (by decide) (by decide)
  · obtain ⟨cq91, kq91, q91a, q91b, q91c⟩ := isOf hZ e89 E_x
    obtain ⟨_, _, ⟨T91, L91, k91, n91⟩, -, X91, ⟨Lc91, hQ91, l91, y91, z91⟩, st91⟩ := X89.virtualBack hx (y := (⟨"java/lang/String", "equals", "(Ljava/lang/Object;)Z"⟩ : MethodName)) (z := (⟨"java/lang/String", "equals", "(Ljava/lang/Object;)Z"⟩ : MethodName)) hown (mvT hZ (W_ hw 56 rfl)) (mvT hZ (W_ hw 57 rfl)) (notFace_of_selects (args := #[]) (mvT hZ (W_ hw 59 rfl))) (mvT hZ (W_ hw 59 rfl)) (mvT hZ (W_ hw 58 rfl)) (by decide) (backOf (W := 0) (rmse2 l Z a0 hw [] x t kt a89 b89 kc89 b0 b1 zc h89 n0 Z_ O_ S_CS P_CS E_x Fc_x Fv_x E_a89 Fc_a89 Fv_a89 V_t V_b89 hxa) hZ (W_ hw 60 rfl) (W_ hw 7 rfl) (by decide) (by decide)) q91a q91c (g := (mkF m 12 #[.val (.ref x)] [(.ref a89), (.ref x)])) rfl (by rw [hml]; rfl) (Steps.refl _) (argsL := [(.ref a89)]) (rest := []) (lenOf pd_6 rfl) rfl (Nat.le_of_eq rfl) (hb hby d10_12) (fun _ _ => ⟨rfl, e89, (by decide : 4 + 0 ≤ _), (by decide : 52 + 0 ≤ _)⟩)
    dsimp only [Pt.U, Pt.locs, Pt.cells, Pt.slots] at X91 l91 y91 z91 st91 hQ91
    subst l91 y91 z91
    obtain ⟨r91, rfl, N91q, e91, hr91⟩ := hQ91
    have N91 := Fr.app N88 N91q
    refine .st (fun _ => st91.trans) ?_
    show OwnGoW p e below s Z own_EL _ _ _ T91 (mkF m 15 _ [(.int r91)])
    rcases hr91 with ⟨rfl, hs⟩ | ⟨rfl, hs⟩
    · show OwnGoW p e below s Z own_EL _ _ _ T91 (mkF m 15 _ [(.int (1 : Int32))])
      refine .ifNo X91 hx (hb hby d10_15) ((if0 _ _).trans (feq ((by decide) : ¬ ((1 : Int32) = (0 : Int32)))).1) ?_
      refine .iconst X91 hx (hb hby d10_18) own_ki1 ?_
      refine .goto (pc := 19) X91 hx 23 (hb hby d10_19) (by decide) (by decide) ?_
      exact OwnGoW.retN (s := s) (vm0 := T89.vm) X91 hS_ hk_ e91 hZ (own_hEL hw) CR hx (t := .boolean) hret hlk (by simp) (hb hby d10_23) (by show QisV2 Z x t kt b0 b1 zc h0 n0 _ T91.heap _; rw [e91]; exact ⟨_, rfl, N91, Kp, Or.inl ⟨rfl, hs⟩⟩) (by decide) (by decide)
    · show OwnGoW p e below s Z own_EL _ _ _ T91 (mkF m 15 _ [(.int (0 : Int32))])
      refine .ifYes (pc := 15) X91 hx 22 (hb hby d10_15) ((if0 _ _).trans (teq ((by decide) : (0 : Int32) = (0 : Int32))).1) (by decide) (by decide) ?_
      refine .iconst X91 hx (hb hby d10_22) own_ki0 ?_
      exact OwnGoW.retN (s := s) (vm0 := T89.vm) X91 hS_ hk_ e91 hZ (own_hEL hw) CR hx (t := .boolean) hret hlk (by simp) (hb hby d10_23) (by show QisV2 Z x t kt b0 b1 zc h0 n0 _ T91.heap _; rw [e91]; exact ⟨_, rfl, N91, Kp, Or.inr ⟨rfl, hs⟩⟩) (by decide) (by decide)
def QisVN (Z : State) (x : Addr) (t : Addr) (kt : ClassId) (z : Int32) (vs : List Value) (zc : Int32) (h0 : Heap) (n0 : Nat) (v : Option Value) (h : Heap) (L : List Loc) : Prop := v = some (.int (0 : Int32)) ∧ Fr n0 L ∧ Keep h0 h []
theorem rmisVN (l : Launch) (Z : State) (a0 : Array Value) (hw : own_tb a0 Z) (ws : List Jvm.Cond) (x : Addr) (t : Addr) (kt : ClassId) (z : Int32) (vs : List Value) (zc : Int32) (h0 : Heap) (n0 : Nat) (Z0 : n0 ≤ h0.size) (O_ : Old Z n0 h0) (S_CS : Sta Z Z.heap "java/lang/String" "COMPACT_STRINGS" "Z" (.int zc)) (P_CS : ¬ zc = (0 : Int32)) (E_x : Exa Z h0 x "java/lang/String") (Fc_x : Fld Z h0 x "java/lang/String" "coder" "B" (.int (0 : Int32))) (Fv_x : Fld Z h0 x "java/lang/String" "value" "[B" (.ref t)) (V_t : Arv Z h0 t kt .byte z vs (.int (0 : Int32))) (hz9 : ¬ z = (9 : Int32)) (hz2 : ¬ z = (2 : Int32)) :
    OwnMetW l (⟨"com/example/mapweft/mapweft/Options", "isVerbose", "(Ljava/lang/String;)Z"⟩ : MethodName) prog_4_method_2_code 1 (some .boolean) ws ({ frames := 2, cells := 4, slots := 52, locals := 28 } : Room) #[(.ref x)] Z h0 (QisVN Z x t kt z vs zc h0 n0) := by
  refine own_metW (EL := own_EL) (plainFor_of_name pn_10) ?_
  intro p e s m below meth c s₁ X0 hx hby hml hret hlk hown hnm hZ e0 hS_ CR
  have hk_ := Nat.le_refl h0.size
  have N0 := Fr.nil n0
  have Z_ := Z0
  refine OwnGoW.cast (ef_isVN m x) ?_
  show OwnGoW p e below s Z own_EL _ _ _ s₁ (mkF m 0 _ [])
  have Kp : Keep h0 h0 [] := Keep.refl h0 []
  refine .aloadN X0 hx (hb hby d10_0) rfl rfl ?_
  obtain ⟨a92, T92, h92, k1_92, b92, kc92, X92, e92, E92, hS_, hkN, hZ, hown, Ea_, Fc_, Fv_, Vb_, -, -, CN, -, sN, st92⟩ := ldcCH (s := s) (vm0 := s.vm) X0 hx hZ hown (W_ hw 55 rfl) (own_wS hw) e0 hS_ hk_ (own_hEL hw) (by decide) CR.1 (vs := [(.int (45 : Int32)), (.int (45 : Int32)), (.int (118 : Int32)), (.int (101 : Int32)), (.int (114 : Int32)), (.int (98 : Int32)), (.int (111 : Int32)), (.int (115 : Int32)), (.int (101 : Int32))]) (z := (9 : Int32)) ⟨by decide, rfl⟩ (by decide) (by decide) (g := (mkF m 1 #[.val (.ref x)] [(.ref x)])) rfl (hb hby d10_1) (n := 36) (by decide) (by decide) (by decide) (by decide)
  have E_x := E_x.ext E92
  have Fc_x := Fc_x.ext E92
  have Fv_x := Fv_x.ext E92
  have V_t := V_t.ext E92
  have O_ := O_.ext E92
  have Kp := Kp.ext E92
  have CR := CR.trans CN
  have hk_ := hkN
  have Z_ : n0 ≤ h92.size := Nat.le_trans Z_ E92.1
  have E_a92 := Ea_
  have Fc_a92 := Fc_
  have Fv_a92 := Fv_
  have V_b92 := Vb_
  refine .st st92 ?_
  show OwnGoW p e below s Z own_EL _ _ _ T92 (mkF m 3 _ [(.ref a92), (.ref x)])
  have hne : ¬ x = a92 := fun q => absurd (own_arvz (own_tb2 q Fv_x Fv_a92) V_t V_b92) (hz9)
  obtain ⟨cq93, kq93, q93a, q93b, q93c⟩ := isOf hZ e92 E_x
  obtain ⟨_, _, ⟨T93, L93, k93, n93⟩, -, X93, ⟨Lc93, hQ93, l93, y93, z93⟩, st93⟩ := X92.virtualBack hx (y := (⟨"java/lang/String", "equals", "(Ljava/lang/Object;)Z"⟩ : MethodName)) (z := (⟨"java/lang/String", "equals", "(Ljava/lang/Object;)Z"⟩ : MethodName)) hown (mvT hZ (W_ hw 56 rfl)) (mvT hZ (W_ hw 57 rfl)) (notFace_of_selects (args := #[]) (mvT hZ (W_ hw 59 rfl))) (mvT hZ (W_ hw 59 rfl)) (mvT hZ (W_ hw 58 rfl)) (by decide) (backOf (W := 0) (rmseN l Z a0 hw [] x t kt a92 b92 kc92 z vs (9 : Int32) [(.int (45 : Int32)), (.int (45 : Int32)), (.int (118 : Int32)), (.int (101 : Int32)), (.int (114 : Int32)), (.int (98 : Int32)), (.int (111 : Int32)), (.int (115 : Int32)), (.int (101 : Int32))] zc h92 n0 Z_ O_ S_CS P_CS E_x Fc_x Fv_x E_a92 Fc_a92 Fv_a92 V_t V_b92 hz9 hne) hZ (W_ hw 60 rfl) (W_ hw 7 rfl) (by decide) (by decide)) q93a q93c (g := (mkF m 3 #[.val (.ref x)] [(.ref a92), (.ref x)])) rfl (by rw [hml]; rfl) (Steps.refl _) (argsL := [(.ref a92)]) (rest := []) (lenOf pd_6 rfl) rfl (Nat.le_of_eq rfl) (hb hby d10_3) (fun _ _ => ⟨rfl, e92, (by decide : 2 + 0 ≤ _), (by decide : 40 + 0 ≤ _)⟩)
  dsimp only [Pt.U, Pt.locs, Pt.cells, Pt.slots] at X93 l93 y93 z93 st93 hQ93
  subst l93 y93 z93
  obtain ⟨rfl, N93q, e93⟩ := hQ93
  have N93 := Fr.app N0 N93q
  refine .st (fun _ => st93.trans) ?_
  show OwnGoW p e below s Z own_EL _ _ _ T93 (mkF m 6 _ [(.int (0 : Int32))])
  refine .ifNo X93 hx (hb hby d10_6) ((if0 _ _).trans (teq ((by decide) : (0 : Int32) = (0 : Int32))).2) ?_
  refine .aloadN X93 hx (hb hby d10_9) rfl rfl ?_
  obtain ⟨a94, T94, h94, k1_94, b94, kc94, X94, e94, E94, hS_, hkN, hZ, hown, Ea_, Fc_, Fv_, Vb_, -, -, CN, -, sN, st94⟩ := ldcCH (s := s) (vm0 := T92.vm) X93 hx hZ hown (W_ hw 65 rfl) (own_wS hw) e93 hS_ hk_ (own_hEL hw) (by decide) CR.1 (vs := [(.int (45 : Int32)), (.int (118 : Int32))]) (z := (2 : Int32)) ⟨by decide, rfl⟩ (by decide) (by decide) (g := (mkF m 10 #[.val (.ref x)] [(.ref x)])) rfl (hb hby d10_10) (n := 8) (by decide) (by decide) (by decide) (by decide)
  have E_x := E_x.ext E94
  have Fc_x := Fc_x.ext E94
  have Fv_x := Fv_x.ext E94
  have V_t := V_t.ext E94
  have E_a92 := E_a92.ext E94
  have Fc_a92 := Fc_a92.ext E94
  have Fv_a92 := Fv_a92.ext E94
  have V_b92 := V_b92.ext E94
  have O_ := O_.ext E94
  have Kp := Kp.ext E94
  have CR := CR.trans CN
  have hk_ := hkN
  have Z_ : n0 ≤ h94.size := Nat.le_trans Z_ E94.1
  have E_a94 := Ea_
  have Fc_a94 := Fc_
  have Fv_a94 := Fv_
  have V_b94 := Vb_
  refine .st st94 ?_
  show OwnGoW p e below s Z own_EL _ _ _ T94 (mkF m 12 _ [(.ref a94), (.ref x)])
  have hne : ¬ x = a94 := fun q => absurd (own_arvz (own_tb2 q Fv_x Fv_a94) V_t V_b94) (hz2)
  obtain ⟨cq95, kq95, q95a, q95b, q95c⟩ := isOf hZ e94 E_x
  obtain ⟨_, _, ⟨T95, L95, k95, n95⟩, -, X95, ⟨Lc95, hQ95, l95, y95, z95⟩, st95⟩ := X94.virtualBack hx (y := (⟨"java/lang/String", "equals", "(Ljava/lang/Object;)Z"⟩ : MethodName)) (z := (⟨"java/lang/String", "equals", "(Ljava/lang/Object;)Z"⟩ : MethodName)) hown (mvT hZ (W_ hw 56 rfl)) (mvT hZ (W_ hw 57 rfl)) (notFace_of_selects (args := #[]) (mvT hZ (W_ hw 59 rfl))) (mvT hZ (W_ hw 59 rfl)) (mvT hZ (W_ hw 58 rfl)) (by decide) (backOf (W := 0) (rmseN l Z a0 hw [] x t kt a94 b94 kc94 z vs (2 : Int32) [(.int (45 : Int32)), (.int (118 : Int32))] zc h94 n0 Z_ O_ S_CS P_CS E_x Fc_x Fv_x E_a94 Fc_a94 Fv_a94 V_t V_b94 hz2 hne) hZ (W_ hw 60 rfl) (W_ hw 7 rfl) (by decide) (by decide)) q95a q95c (g := (mkF m 12 #[.val (.ref x)] [(.ref a94), (.ref x)])) rfl (by rw [hml]; rfl) (Steps.refl _) (argsL := [(.ref a94)]) (rest := []) (lenOf pd_6 rfl) rfl (Nat.le_of_eq rfl) (hb hby d10_12) (fun _ _ => ⟨rfl, e94, (by decide : 4 + 0 ≤ _), (by decide : 52 + 0 ≤ _)⟩)
  dsimp only [Pt.U, Pt.locs, Pt.cells, Pt.slots] at X95 l95 y95 z95 st95 hQ95
  subst l95 y95 z95
  obtain ⟨rfl, N95q, e95⟩ := hQ95
  have N95 := Fr.app N93 N95q
  refine .st (fun _ => st95.trans) ?_
  show OwnGoW p e below s Z own_EL _ _ _ T95 (mkF m 15 _ [(.int (0 : Int32))])
  refine .ifYes (pc := 15) X95 hx 22 (hb hby d10_15) ((if0 _ _).trans (teq ((by decide) : (0 : Int32) = (0 : Int32))).1) (by decide) (by decide) ?_
  refine .iconst X95 hx (hb hby d10_22) own_ki0 ?_
  exact OwnGoW.retN (s := s) (vm0 := T94.vm) X95 hS_ hk_ e95 hZ (own_hEL hw) CR hx (t := .boolean) hret hlk (by simp) (hb hby d10_23) (by show QisVN Z x t kt z vs zc h0 n0 _ T95.heap _; rw [e95]; exact ⟨rfl, N95, Kp⟩) (by decide) (by decide)
def QiV0 (Z : State) (x : Addr) (a : Addr) (h0 : Heap) (n0 : Nat) (v : Option Value) (h : Heap) (L : List Loc) : Prop := v = none ∧ Fr n0 L ∧ Keep h0 h [x] ∧ Exa Z h x "java/lang/String" ∧ Fld Z h x "java/lang/String" "coder" "B" (.int (0 : Int32)) ∧ ∃ (b : Addr) (kb : ClassId), Fld Z h x "java/lang/String" "value" "[B" (.ref b) ∧ Arv Z h b kb .byte (0 : Int32) [] (.int (0 : Int32))
theorem rmiV0 (l : Launch) (Z : State) (a0 : Array Value) (hw : own_tb a0 Z) (ws : List Jvm.Cond) (x : Addr) (a : Addr) (h0 : Heap) (n0 : Nat) (Z0 : n0 ≤ h0.size) (E_x : Exa Z h0 x "java/lang/String") (Fv : Fld Z h0 x "java/lang/String" "value" "[B" .null) (Fc : Fld Z h0 x "java/lang/String" "coder" "B" (.int (0 : Int32))) (g_x : n0 ≤ x) :
    OwnMetW l (⟨"java/lang/String", "<init>", "([CIILjava/lang/Void;)V"⟩ : MethodName) jdk_42_method_149_code 6 none ws ({ frames := 1, cells := 4, slots := 8, locals := 12 } : Room) #[(.ref x), (.ref a), (.int (0 : Int32)), (.int (0 : Int32)), .null] Z h0 (QiV0 Z x a h0 n0) := by
  refine own_metW (EL := own_EL) (plainFor_of_name pn_5) ?_
  intro p e s m below meth c s₁ X0 hx hby hml hret hlk hown hnm hZ e0 hS_ CR
  have hk_ := Nat.le_refl h0.size
  have N0 := Fr.nil n0
  have Z_ := Z0
  refine OwnGoW.cast (ef_iV0 m x a (0 : Int32) (0 : Int32)) ?_
  show OwnGoW p e below s Z own_EL _ _ _ s₁ (mkF m 0 _ [])
  have sf_x : Safe Z own_EL s.vm h0 x := own_safe_null hZ.alike E_x Fv
  have Kp : Keep h0 h0 [x] := Keep.refl h0 [x]
  refine .aloadN X0 hx (hb hby d8_0) rfl rfl ?_
  obtain ⟨T96, X96, e96, st96⟩ := initO X0 hx hZ hown (W_ hw 47 rfl) (W_ hw 48 rfl) (W_ hw 49 rfl) e0 (g := (mkF m 1 #[.val (.ref x), .val (.ref a), .val (.int (0 : Int32)), .val (.int (0 : Int32)), .val .null, .unset] [(.ref x)])) rfl (by rw [hml]; rfl) rfl (hb hby d8_1) (by decide) (W := 0) (Nat.le_of_eq rfl) (by decide)
  refine .st st96 ?_
  show OwnGoW p e below s Z own_EL _ _ _ T96 (mkF m 4 _ [])
  refine .iloadN X96 hx (hb hby d8_4) rfl ?_
  refine .ifNo X96 hx (hb hby d8_5) ((if0 _ _).trans (teq ((by decide) : (0 : Int32) = (0 : Int32))).2) ?_
  refine .aloadN X96 hx (hb hby d8_8) rfl rfl ?_
  obtain ⟨a97, T97, h97, k1_97, b97, kc97, X97, e97, E97, hS_, hkN, hZ, hown, Ea_, Fc_, Fv_, Vb_, -, -, CN, -, sN, st97⟩ := ldcCH (s := s) (vm0 := s.vm) X96 hx hZ hown (W_ hw 50 rfl) (own_wS hw) e96 hS_ hk_ (own_hEL hw) (by decide) CR.1 (vs := []) (z := (0 : Int32)) ⟨by decide, rfl⟩ (by decide) (by decide) (g := (mkF m 9 #[.val (.ref x), .val (.ref a), .val (.int (0 : Int32)), .val (.int (0 : Int32)), .val .null, .unset] [(.ref x)])) rfl (hb hby d8_9) (n := 0) (by decide) (by decide) (by decide) (by decide)
  have lt_x : x < h0.size := E_x.lt
  have E_x := E_x.ext E97
  have Fv := Fv.ext E97
  have Fc := Fc.ext E97
  have Kp := Kp.ext E97
  have sf_x := CN.safe lt_x sf_x
  have CR := CR.trans CN
  have hk_ := hkN
  have Z_ : n0 ≤ h97.size := Nat.le_trans Z_ E97.1
  have ne_x_a97 := (sN _ sf_x).1
  have ne_x_b97 := (sN _ sf_x).2
  have E_a97 := Ea_
  have Fc_a97 := Fc_
  have Fv_a97 := Fv_
  have V_b97 := Vb_
  refine .st st97 ?_
  show OwnGoW p e below s Z own_EL _ _ _ T97 (mkF m 11 _ [(.ref a97), (.ref x)])
  obtain ⟨T98, X98, e98, st98⟩ := getF X97 hx hZ hown (host := "") (Or.inl (W_ hw 26 rfl)) Via.refl e97 Fv_a97 (g := (mkF m 11 #[.val (.ref x), .val (.ref a), .val (.int (0 : Int32)), .val (.int (0 : Int32)), .val .null, .unset] [(.ref a97), (.ref x)])) rfl rfl (hb hby d8_11)
  refine .st st98 ?_
  show OwnGoW p e below s Z own_EL _ _ _ T98 (mkF m 14 _ [(.ref b97), (.ref x)])
  obtain ⟨T99, h99, X99, e99, W99, st99⟩ := putF X98 hx hZ hown (host := "") (Or.inl (W_ hw 26 rfl)) Via.refl e98 Fv E_x (Or.inr ⟨(W_ hw 10 rfl), rfl, hnm⟩) (W_ hw 8 rfl) (ty := (.array .byte)) (by decide) rfl rfl (g := (mkF m 14 #[.val (.ref x), .val (.ref a), .val (.int (0 : Int32)), .val (.int (0 : Int32)), .val .null, .unset] [(.ref b97), (.ref x)])) rfl rfl (hb hby d8_14)
  have E_x := E_x.wr W99
  have Fv := Fv.same W99
  have Fc := Fc.other W99 (Or.inr (slot_ne (Or.inr (W_ hw 11 rfl)) (Or.inr (W_ hw 10 rfl)) (by decide) (t := .byte) (t' := (.array .byte)) (by decide) (by decide)))
  have E_a97 := E_a97.wr W99
  have Fc_a97 := Fc_a97.other W99 (Or.inl (Ne.symm ne_x_a97))
  have Fv_a97 := Fv_a97.other W99 (Or.inl (Ne.symm ne_x_a97))
  have V_b97 := V_b97.other W99 (Ne.symm ne_x_b97)
  have Kp := Kp.wr W99 (Or.inl (List.mem_of_getElem? (i := 0) rfl))
  have sf_ := sf_x
  have CR0 := CR.1
  have CR := CR.trans (CHr.wr W99 sf_ CR.1)
  have sf_x := Safe.wr W99 sf_ CR0 sf_x
  have hk_ := Nat.le_trans hk_ (Nat.le_of_eq W99.size.symm)
  have N99 := Fr.snoc X99 N0 g_x
  have Z_ : n0 ≤ h99.size := by rw [W99.size]; exact Z_
  refine .st st99 ?_
  show OwnGoW p e below s Z own_EL _ _ _ T99 (mkF m 17 _ [])
  refine .aloadN X99 hx (hb hby d8_17) rfl rfl ?_
  obtain ⟨a100, T100, h100, k1_100, b100, kc100, X100, e100, E100, hS_, hkN, hZ, hown, Ea_, Fc_, Fv_, Vb_, -, -, CN, -, sN, st100⟩ := ldcCH (s := s) (vm0 := T97.vm) X99 hx hZ hown (W_ hw 50 rfl) (own_wS hw) e99 hS_ hk_ (own_hEL hw) (by decide) CR.1 (vs := []) (z := (0 : Int32)) ⟨by decide, rfl⟩ (by decide) (by decide) (g := (mkF m 18 #[.val (.ref x), .val (.ref a), .val (.int (0 : Int32)), .val (.int (0 : Int32)), .val .null, .unset] [(.ref x)])) rfl (hb hby d8_18) (n := 0) (by decide) (by decide) (by decide) (by decide)
  have lt_x : x < h99.size := E_x.lt
  have E_x := E_x.ext E100
  have Fv := Fv.ext E100
  have Fc := Fc.ext E100
  have E_a97 := E_a97.ext E100
  have Fc_a97 := Fc_a97.ext E100
  have Fv_a97 := Fv_a97.ext E100
  have V_b97 := V_b97.ext E100
  have Kp := Kp.ext E100
  have sf_x := CN.safe lt_x sf_x
  have CR := CR.trans CN
  have hk_ := hkN
  have Z_ : n0 ≤ h100.size := Nat.le_trans Z_ E100.1
  have ne_x_a100 := (sN _ sf_x).1
  have ne_x_b100 := (sN _ sf_x).2
  have E_a100 := Ea_
  have Fc_a100 := Fc_
  have Fv_a100 := Fv_
  have V_b100 := Vb_
  refine .st st100 ?_
  show OwnGoW p e below s Z own_EL _ _ _ T100 (mkF m 20 _ [(.ref a100), (.ref x)])
  obtain ⟨T101, X101, e101, st101⟩ := getF X100 hx hZ hown (host := "") (Or.inl (W_ hw 25 rfl)) Via.refl e100 Fc_a100 (g := (mkF m 20 #[.val (.ref x), .val (.ref a), .val (.int (0 : Int32)), .val (.int (0 : Int32)), .val .null, .unset] [(.ref a100), (.ref x)])) rfl rfl (hb hby d8_20)
  refine .st st101 ?_
  show OwnGoW p e below s Z own_EL _ _ _ T101 (mkF m 23 _ [(.int (0 : Int32)), (.ref x)])
  obtain ⟨T102, h102, X102, e102, W102, st102⟩ := putFN X101 hx hZ hown (W_ hw 25 rfl) Via.refl e101 Fc E_x (Or.inr ⟨(W_ hw 11 rfl), rfl, hnm⟩) (W_ hw 8 rfl) (ty := .byte) (v' := (.int (nar .byte (0 : Int32)))) (by decide) rfl (fits_nar_byte _) (g := (mkF m 23 #[.val (.ref x), .val (.ref a), .val (.int (0 : Int32)), .val (.int (0 : Int32)), .val .null, .unset] [(.int (0 : Int32)), (.ref x)])) rfl rfl (hb hby d8_23)
  have E_x := E_x.wr W102
  have Fv := Fv.other W102 (Or.inr (slot_ne (Or.inr (W_ hw 10 rfl)) (Or.inr (W_ hw 11 rfl)) (by decide) (t := (.array .byte)) (t' := .byte) (by decide) (by decide)))
  have Fc := Fc.same W102
  have E_a97 := E_a97.wr W102
  have Fc_a97 := Fc_a97.other W102 (Or.inl (Ne.symm ne_x_a97))
  have Fv_a97 := Fv_a97.other W102 (Or.inl (Ne.symm ne_x_a97))
  have V_b97 := V_b97.other W102 (Ne.symm ne_x_b97)
  have E_a100 := E_a100.wr W102
  have Fc_a100 := Fc_a100.other W102 (Or.inl (Ne.symm ne_x_a100))
  have Fv_a100 := Fv_a100.other W102 (Or.inl (Ne.symm ne_x_a100))
  have V_b100 := V_b100.other W102 (Ne.symm ne_x_b100)
  have Kp := Kp.wr W102 (Or.inl (List.mem_of_getElem? (i := 0) rfl))
  have sf_ := sf_x
  have CR0 := CR.1
  have CR := CR.trans (CHr.wr W102 sf_ CR.1)
  have sf_x := Safe.wr W102 sf_ CR0 sf_x
  have hk_ := Nat.le_trans hk_ (Nat.le_of_eq W102.size.symm)
  have N102 := Fr.snoc X102 N99 g_x
  have Z_ : n0 ≤ h102.size := by rw [W102.size]; exact Z_
  refine .st st102 ?_
  show OwnGoW p e below s Z own_EL _ _ _ T102 (mkF m 26 _ [])
  exact OwnGoW.retV (s := s) (vm0 := T100.vm) X102 hS_ hk_ e102 hZ (own_hEL hw) CR hx hret hlk (hb hby d8_26) (by show QiV0 Z x a h0 n0 _ T102.heap _; rw [e102]; exact ⟨rfl, N102, Kp, E_x, Fc, b97, kc97, Fv, V_b97⟩) (by decide) (by decide)
def QiC0 (Z : State) (x : Addr) (a : Addr) (ka : ClassId) (h0 : Heap) (n0 : Nat) (v : Option Value) (h : Heap) (L : List Loc) : Prop := v = none ∧ Fr n0 L ∧ Keep h0 h [x] ∧ Exa Z h x "java/lang/String" ∧ Fld Z h x "java/lang/String" "coder" "B" (.int (0 : Int32)) ∧ ∃ (b : Addr) (kb : ClassId), Fld Z h x "java/lang/String" "value" "[B" (.ref b) ∧ Arv Z h b kb .byte (0 : Int32) [] (.int (0 : Int32))
theorem rmiC0 (l : Launch) (Z : State) (a0 : Array Value) (hw : own_tb a0 Z) (ws : List Jvm.Cond) (x : Addr) (a : Addr) (ka : ClassId) (h0 : Heap) (n0 : Nat) (Z0 : n0 ≤ h0.size) (E_x : Exa Z h0 x "java/lang/String") (Fv : Fld Z h0 x "java/lang/String" "value" "[B" .null) (Fc : Fld Z h0 x "java/lang/String" "coder" "B" (.int (0 : Int32))) (g_x : n0 ≤ x) (V_a : Arv Z h0 a ka .char (0 : Int32) [] (.int (0 : Int32))) (ne_a_x : a ≠ x) :
    OwnMetW l (⟨"java/lang/String", "<init>", "([C)V"⟩ : MethodName) jdk_42_method_3_code 2 none ws ({ frames := 2, cells := 4, slots := 8, locals := 29 } : Room) #[(.ref x), (.ref a)] Z h0 (QiC0 Z x a ka h0 n0) := by
  refine own_metW (EL := own_EL) (plainFor_of_name pn_5) ?_
  intro p e s m below meth c s₁ X0 hx hby hml hret hlk hown hnm hZ e0 hS_ CR
  have hk_ := Nat.le_refl h0.size
  have N0 := Fr.nil n0
  have Z_ := Z0
  refine OwnGoW.cast (ef_iC0 m x a) ?_
  show OwnGoW p e below s Z own_EL _ _ _ s₁ (mkF m 0 _ [])
  refine .aloadN X0 hx (hb hby d7_0) rfl rfl ?_
  refine .aloadN X0 hx (hb hby d7_1) rfl rfl ?_
  refine .iconst X0 hx (hb hby d7_2) own_ki0 ?_
  refine .aloadN X0 hx (hb hby d7_3) rfl rfl ?_
  obtain ⟨cl103, Ar103, -, S103, N103, -, -⟩ := id V_a
  refine .st (fun _ => own_len hZ (len_of S103 N103) Ar103 X0 e0 hx (g := (mkF m 4 #[.val (.ref x), .val (.ref a)] [(.ref a), (.int (0 : Int32)), (.ref a), (.ref x)])) rfl rfl (hb hby d7_4) _) ?_
  show OwnGoW p e below s Z own_EL _ _ _ s₁ (mkF m 5 _ [(.int (0 : Int32)), (.int (0 : Int32)), (.ref a), (.ref x)])
  refine .aconstNull X0 hx (hb hby d7_5)  ?_
  obtain ⟨_, _, ⟨T104, L104, k104, n104⟩, -, X104, hS104, hg104, ⟨Lc104, hQ104, l104, y104, z104, CN104⟩, st104⟩ := Stand.specialBackS (s := s.setVm s.vm) X0 hx (y := (⟨"java/lang/String", "<init>", "([CIILjava/lang/Void;)V"⟩ : MethodName)) rfl hown (mvT hZ (W_ hw 43 rfl)) (mvT hZ (W_ hw 44 rfl)) (mvT hZ (W_ hw 46 rfl)) (by decide) (backOfSH (s := s) (vm0 := s.vm) (W := 0) (rmiV0 l Z a0 hw [] x a h0 n0 Z_ E_x Fv Fc g_x) hZ (W_ hw 46 rfl) (W_ hw 7 rfl) (by decide) (by decide) (own_hEL hw) CR.1) (g := (mkF m 6 #[.val (.ref x), .val (.ref a)] [.null, (.int (0 : Int32)), (.int (0 : Int32)), (.ref a), (.ref x)])) rfl (by rw [hml]; rfl) (Steps.refl _) (a := x) (argsL := [(.ref a), (.int (0 : Int32)), (.int (0 : Int32)), .null]) (rest := []) (lenOf pd_7 rfl) rfl (Nat.le_of_eq rfl) (hb hby d7_6) (fun _ _ => ⟨rfl, e0, (by decide : 0 + 4 ≤ _), (by decide : 0 + 8 ≤ _)⟩)
  dsimp only [Pt.U, Pt.locs, Pt.cells, Pt.slots] at X104 hS104 hg104 l104 y104 z104 CN104 st104 hQ104
  subst l104 y104 z104
  obtain ⟨X104, hS_, hZ, hown⟩ := rebS hS_ (show _ ≤ s₁.heap.size by rw [(e0 : s₁.heap = h0)]; exact hk_) X104 hS104 hg104 hZ hown
  obtain ⟨rfl, N104q, K104, Ex104, Fc104, b104, kb104, Fv104, V104⟩ := hQ104
  have N104 := Fr.app N0 N104q
  have Z_ : n0 ≤ T104.heap.size := Nat.le_trans Z_ K104.1
  have E_x := E_x.keep K104
  have V_a := V_a.keep K104 (ninS ne_a_x nin0)
  have CR := CR.trans CN104
  have hk_ := Nat.le_refl T104.heap.size
  refine .st (fun _ => st104.trans) ?_
  show OwnGoW p e below s Z own_EL _ _ _ T104 (mkF m 9 _ [])
  exact OwnGoW.retV (s := s) (vm0 := T104.vm) X104 hS_ hk_ rfl hZ (own_hEL hw) CR hx hret hlk (hb hby d7_9) (by show QiC0 Z x a ka h0 n0 _ T104.heap _; exact ⟨rfl, N104, K104, Ex104, Fc104, b104, kb104, Fv104, V104⟩) (by decide) (by decide)
def Q0 (Z : State) (p1 : Int32) (p2 : Int64) (p3 : Int64) (zc : Int32) (fmv : Value) (h0 : Heap) (n0 : Nat) (v : Option Value) (h : Heap) (L : List Loc) : Prop := v = some (.int (1 : Int32)) ∧ Fr n0 L
theorem sg0 {p : Program} {l : Launch} {e : Env} {s : State} {m : MethodId} {below : List Frame} {meth : Method} {c : Code} {Z : State} {a0 : Array Value} {T0 : State} {locs : List Loc} {vm1 : Vm} {k1 : Nat} {h1 : Heap} (p1 : Int32) (p2 : Int64) (p3 : Int64) (zc : Int32) (fmv : Value) (lt : Int32) (mo : Int32) (kk : Int32) (bi : Int32) (ch107 : Int32) (ch109 : Int32) (ch111 : Int32) (ch113 : Int32) (ch115 : Int32) (ch117 : Int32) (ch119 : Int32) (ch121 : Int32) (ch123 : Int32) (ch125 : Int32) (b106 : Addr) (k106 : ClassId) (h0 : Heap) (n0 : Nat) (hw : ∀ d ∈ tables_1, d.before a0 Z = true)
    (X0 : Stand p l e room_1 (s.setVm vm1) m #[(.int p1), (.long p2), (.long p3)] below meth c T0 locs 21 410) (hx : p.tables.exec = Jvm.exec) (hby : c.code = code) (hml : c.maxLocals = 15) (hret : meth.sig.returnType = ret) (hlk : meth.locks = false) (hown : (s.setVm vm1).vm.findClass "com/example/mapweft/mapweft/OptionsIsVerbosePinLaw" = some m.cls) (hnm : meth.name = "law") (hZ : Z.Warmed39 (s.setVm vm1).vm) (e0 : T0.heap = h1) (N0 : Fr n0 locs) (Z_ : n0 ≤ h1.size) (hS_ : s.Since vm1 k1) (hk_ : k1 ≤ h1.size) (CR : CHr Z own_EL s.vm s.heap vm1 h1) (S_CS : Sta Z Z.heap "java/lang/String" "COMPACT_STRINGS" "Z" (.int zc)) (P_CS : ¬ zc = (0 : Int32)) (S_SF : Sta Z Z.heap "jdk/internal/util/Preconditions" "SIOOBE_FORMATTER" "Ljava/util/function/BiFunction;" fmv) (rf_fmv : fmv.isRef = true) (V_b106 : Arv Z h1 b106 k106 .char (10 : Int32) [(.int ch107), (.int ch109), (.int ch111), (.int ch113), (.int ch115), (.int ch117), (.int ch119), (.int ch121), (.int ch123), (.int ch125)] (.int (0 : Int32))) (E_b106 : Exa Z h1 b106 "[C") (sf_b106 : Safe Z own_EL vm1 h1 b106) (O_ : Old Z n0 h1) (g_b106 : n0 ≤ b106) (hp_ch107 : ¬ ch107 < 0 ∧ ¬ (255 : Int32) < ch107) (hp_ch109 : ¬ ch109 < 0 ∧ ¬ (255 : Int32) < ch109) (hp_ch111 : ¬ ch111 < 0 ∧ ¬ (255 : Int32) < ch111) (hp_ch113 : ¬ ch113 < 0 ∧ ¬ (255 : Int32) < ch113) (hp_ch115 : ¬ ch115 < 0 ∧ ¬ (255 : Int32) < ch115) (hp_ch117 : ¬ ch117 < 0 ∧ ¬ (255 : Int32) < ch117) (hp_ch119 : ¬ ch119 < 0 ∧ ¬ (255 : Int32) < ch119) (hp_ch121 : ¬ ch121 < 0 ∧ ¬ (255 : Int32) < ch121) (hp_ch123 : ¬ ch123 < 0 ∧ ¬ (255 : Int32) < ch123) (hp_ch125 : ¬ ch125 < 0 ∧ ¬ (255 : Int32) < ch125) :
    OwnGoW p e below s Z own_EL room_1.cells room_1.slots (Q0 Z p1 p2 p3 zc fmv h0 n0) T0 (mkF m 247 #[.val (.int p1), .val (.long p2), .second, .val (.long p3), .second, .val (.int (0 : Int32)), .val (.int lt), .val (.int mo), .val (.int kk), .val (.int bi), .val (.ref b106), .unset, .unset, .unset, .unset] []) := by
  show OwnGoW p e below s Z own_EL _ _ _ T0 (mkF m 247 _ [])
  refine .iload X0 hx (hb hby at_247) rfl ?_
  obtain ⟨T127, h127, k127, X127, e127, E127, A127, Ex127, st127⟩ := newPE X0 hx hZ (W_ hw 0 rfl) e0 (g := (mkF m 249 #[.val (.int p1), .val (.long p2), .second, .val (.long p3), .second, .val (.int (0 : Int32)), .val (.int lt), .val (.int mo), .val (.int kk), .val (.int bi), .val (.ref b106), .unset, .unset, .unset, .unset] [(.int (0 : Int32))])) rfl (hb hby at_249) rfl (by decide) (cap := 0) (by decide) (by decide) (by decide) (by decide) (ad := "[C") (by decide)
  obtain ⟨b127, g127⟩ : ∃ z, z = h1.size := ⟨_, rfl⟩
  rw [← g127] at A127 Ex127 st127
  have ne_b106_b127 : b106 ≠ b127 := Nat.ne_of_lt (Nat.lt_of_lt_of_le V_b106.lt (Nat.le_of_eq g127.symm))
  have g_b127 : n0 ≤ b127 := Nat.le_trans Z_ (Nat.le_of_eq g127.symm)
  have sf_b127 : Safe Z own_EL vm1 h1 b127 := Safe.new (Nat.le_of_eq g127.symm)
  have V_b106 := V_b106.ext E127
  have E_b106 := E_b106.ext E127
  have O_ := O_.ext E127
  have sf_b106 := Safe.ext E127 CR.1 sf_b106
  have sf_b127 := Safe.ext E127 CR.1 sf_b127
  have CR := CR.trans (CHr.ext E127 CR.1)
  have hk_ := Nat.le_trans hk_ E127.1
  have Z_ : n0 ≤ h127.size := Nat.le_trans Z_ E127.1
  have V_b127 : Arv Z h127 b127 k127 .char (0 : Int32) [] (.int (0 : Int32)) := (Arv.new A127 (by decide)).pad (pad_rep [] (.int (0 : Int32)) 0)
  have E_b127 := Ex127
  refine .st st127 ?_
  show OwnGoW p e below s Z own_EL _ _ _ T127 (mkF m 251 _ [(.ref b127)])
  refine .astore X127 hx (hb hby at_251) rfl (L' := #[.val (.int p1), .val (.long p2), .second, .val (.long p3), .second, .val (.int (0 : Int32)), .val (.int lt), .val (.int mo), .val (.int kk), .val (.int bi), .val (.ref b106), .val (.ref b127), .unset, .unset, .unset]) rfl ?_
  refine .iload X127 hx (hb hby at_253) rfl ?_
  refine .ifYes (pc := 255) X127 hx 266 (hb hby at_255) ((if0 _ _).trans (flt ((by decide) : ¬ ((0 : Int32) < (0 : Int32)))).2.2.2) (by decide) (by decide) ?_
  refine .iload X127 hx (hb hby at_266) rfl ?_
  refine .iconst X127 hx (hb hby at_268) own_ki1 ?_
  refine .icmpYes (pc := 269) X127 hx 280 (hb hby at_269) (flt ((by decide) : ¬ ((1 : Int32) < (0 : Int32)))).2.2.2 (by decide) (by decide) ?_
  refine .iload X127 hx (hb hby at_280) rfl ?_
  refine .iconst X127 hx (hb hby at_282) own_ki2 ?_
  refine .icmpYes (pc := 283) X127 hx 294 (hb hby at_283) (flt ((by decide) : ¬ ((2 : Int32) < (0 : Int32)))).2.2.2 (by decide) (by decide) ?_
  refine .iload X127 hx (hb hby at_294) rfl ?_
  refine .iconst X127 hx (hb hby at_296) own_ki3 ?_
  refine .icmpYes (pc := 297) X127 hx 308 (hb hby at_297) (flt ((by decide) : ¬ ((3 : Int32) < (0 : Int32)))).2.2.2 (by decide) (by decide) ?_
  refine .iload X127 hx (hb hby at_308) rfl ?_
  refine .iconst X127 hx (hb hby at_310) own_ki4 ?_
  refine .icmpYes (pc := 311) X127 hx 322 (hb hby at_311) (flt ((by decide) : ¬ ((4 : Int32) < (0 : Int32)))).2.2.2 (by decide) (by decide) ?_
  refine .iload X127 hx (hb hby at_322) rfl ?_
  refine .iconst X127 hx (hb hby at_324) own_ki5 ?_
  refine .icmpYes (pc := 325) X127 hx 336 (hb hby at_325) (flt ((by decide) : ¬ ((5 : Int32) < (0 : Int32)))).2.2.2 (by decide) (by decide) ?_
  refine .iload X127 hx (hb hby at_336) rfl ?_
  refine .bipush X127 hx (hb hby at_338) own_kb6 ?_
  refine .icmpYes (pc := 340) X127 hx 353 (hb hby at_340) (flt ((by decide) : ¬ ((6 : Int32) < (0 : Int32)))).2.2.2 (by decide) (by decide) ?_
  refine .iload X127 hx (hb hby at_353) rfl ?_
  refine .bipush X127 hx (hb hby at_355) own_kb7 ?_
  refine .icmpYes (pc := 357) X127 hx 370 (hb hby at_357) (flt ((by decide) : ¬ ((7 : Int32) < (0 : Int32)))).2.2.2 (by decide) (by decide) ?_
  refine .iload X127 hx (hb hby at_370) rfl ?_
  refine .bipush X127 hx (hb hby at_372) own_kb8 ?_
  refine .icmpYes (pc := 374) X127 hx 387 (hb hby at_374) (flt ((by decide) : ¬ ((8 : Int32) < (0 : Int32)))).2.2.2 (by decide) (by decide) ?_
  refine .iload X127 hx (hb hby at_387) rfl ?_
  refine .bipush X127 hx (hb hby at_389) own_kb9 ?_
  refine .icmpYes (pc := 391) X127 hx 404 (hb hby at_391) (flt ((by decide) : ¬ ((9 : Int32) < (0 : Int32)))).2.2.2 (by decide) (by decide) ?_
  obtain ⟨T128, h128, X128, e128, E128, A128, D128, -, st128⟩ := newO X127 hx hZ hown (W_ hw 39 rfl) (W_ hw 8 rfl) (W_ hw 7 rfl) e127 (g := (mkF m 404 #[.val (.int p1), .val (.long p2), .second, .val (.long p3), .second, .val (.int (0 : Int32)), .val (.int lt), .val (.int mo), .val (.int kk), .val (.int bi), .val (.ref b106), .val (.ref b127), .unset, .unset, .unset] [])) rfl (hb hby at_404) (by decide) (by decide)
  obtain ⟨b128, g128⟩ : ∃ z, z = h127.size := ⟨_, rfl⟩
  rw [← g128] at A128 D128 st128
  have ne_b106_b128 : b106 ≠ b128 := Nat.ne_of_lt (Nat.lt_of_lt_of_le V_b106.lt (Nat.le_of_eq g128.symm))
  have ne_b127_b128 : b127 ≠ b128 := Nat.ne_of_lt (Nat.lt_of_lt_of_le V_b127.lt (Nat.le_of_eq g128.symm))
  have g_b128 : n0 ≤ b128 := Nat.le_trans Z_ (Nat.le_of_eq g128.symm)
  have sf_b128 : Safe Z own_EL vm1 h127 b128 := Safe.new (Nat.le_of_eq g128.symm)
  have V_b106 := V_b106.ext E128
  have E_b106 := E_b106.ext E128
  have V_b127 := V_b127.ext E128
  have E_b127 := E_b127.ext E128
  have O_ := O_.ext E128
  have sf_b106 := Safe.ext E128 CR.1 sf_b106
  have sf_b127 := Safe.ext E128 CR.1 sf_b127
  have sf_b128 := Safe.ext E128 CR.1 sf_b128
  have CR := CR.trans (CHr.ext E128 CR.1)
  have hk_ := Nat.le_trans hk_ E128.1
  have Z_ : n0 ≤ h128.size := Nat.le_trans Z_ E128.1
  have E_b128 := A128
  have F_value_b128 : Fld Z h128 b128 "java/lang/String" "value" "[B" .null := D128 (Or.inr (W_ hw 10 rfl)) (ty := (.array .byte)) (by decide)
  have F_coder_b128 : Fld Z h128 b128 "java/lang/String" "coder" "B" (.int (0 : Int32)) := D128 (Or.inr (W_ hw 11 rfl)) (ty := .byte) (by decide)
  refine .st st128 ?_
  show OwnGoW p e below s Z own_EL _ _ _ T128 (mkF m 407 _ [(.ref b128)])
  refine .dup X128 hx (hb hby at_407) rfl ?_
  refine .aload X128 hx (hb hby at_408) rfl rfl ?_
  obtain ⟨_, _, ⟨T129, L129, k129, n129⟩, -, X129, hS129, hg129, ⟨Lc129, hQ129, l129, y129, z129, CN129⟩, st129⟩ := Stand.specialBackS (s := s.setVm vm1) X128 hx (y := (⟨"java/lang/String", "<init>", "([C)V"⟩ : MethodName)) rfl hown (mvT hZ (W_ hw 40 rfl)) (mvT hZ (W_ hw 41 rfl)) (mvT hZ (W_ hw 42 rfl)) (by decide) (backOfSH (s := s) (vm0 := vm1) (W := 1) (rmiC0 l Z a0 hw [] b128 b127 k127 h128 n0 Z_ E_b128 F_value_b128 F_coder_b128 g_b128 V_b127 ne_b127_b128) hZ (W_ hw 42 rfl) (W_ hw 7 rfl) (by decide) (by decide) (own_hEL hw) CR.1) (g := (mkF m 410 #[.val (.int p1), .val (.long p2), .second, .val (.long p3), .second, .val (.int (0 : Int32)), .val (.int lt), .val (.int mo), .val (.int kk), .val (.int bi), .val (.ref b106), .val (.ref b127), .unset, .unset, .unset] [(.ref b127), (.ref b128), (.ref b128)])) rfl (by rw [hml]; rfl) (Steps.refl _) (a := b128) (argsL := [(.ref b127)]) (rest := [(.ref b128)]) (lenOf pd_9 rfl) rfl (Nat.le_of_eq rfl) (hb hby at_410) (fun _ _ => ⟨rfl, e128, (by decide : 23 + 4 ≤ _), (by decide : 414 + 8 ≤ _)⟩)
  dsimp only [Pt.U, Pt.locs, Pt.cells, Pt.slots] at X129 hS129 hg129 l129 y129 z129 CN129 st129 hQ129
  subst l129 y129 z129
  obtain ⟨X129, hS_, hZ, hown⟩ := rebS hS_ (show _ ≤ T128.heap.size by rw [(e128 : T128.heap = h128)]; exact hk_) X129 hS129 hg129 hZ hown
  obtain ⟨rfl, N129q, K129, Ex129, Fc129, b129, kb129, Fv129, V129⟩ := hQ129
  have N129 := Fr.app N0 N129q
  have lt_b106 : b106 < h128.size := V_b106.lt
  have lt_b127 : b127 < h128.size := V_b127.lt
  have lt_b128 : b128 < h128.size := E_b128.lt
  have Z_ : n0 ≤ T129.heap.size := Nat.le_trans Z_ K129.1
  have V_b106 := V_b106.keep K129 (ninS ne_b106_b128 nin0)
  have E_b106 := E_b106.keep K129
  have V_b127 := V_b127.keep K129 (ninS ne_b127_b128 nin0)
  have E_b127 := E_b127.keep K129
  have E_b128 := E_b128.keep K129
  have O_ := O_.keep K129 (allS g_b128 all0)
  have sf_b106 := CN129.safe lt_b106 sf_b106
  have sf_b127 := CN129.safe lt_b127 sf_b127
  have sf_b128 := CN129.safe lt_b128 sf_b128
  have CR := CR.trans CN129
  have hk_ := Nat.le_refl T129.heap.size
  refine .st (fun _ => st129.trans) ?_
  show OwnGoW p e below s Z own_EL _ _ _ T129 (mkF m 413 _ [(.ref b128)])
  refine .astore X129 hx (hb hby at_413) rfl (L' := #[.val (.int p1), .val (.long p2), .second, .val (.long p3), .second, .val (.int (0 : Int32)), .val (.int lt), .val (.int mo), .val (.int kk), .val (.int bi), .val (.ref b106), .val (.ref b127), .val (.ref b128), .unset, .unset]) rfl ?_
  refine .iload X129 hx (hb hby at_415) rfl ?_
  refine .bipush X129 hx (hb hby at_417) own_kb9 ?_
  refine .icmpYes (pc := 419) X129 hx 510 (hb hby at_419) (feq ((by decide) : ¬ ((0 : Int32) = (9 : Int32)))).2 (by decide) (by decide) ?_
  refine .iconst X129 hx (hb hby at_510) own_ki0 ?_
  refine .istore X129 hx (hb hby at_511) (L' := #[.val (.int p1), .val (.long p2), .second, .val (.long p3), .second, .val (.int (0 : Int32)), .val (.int lt), .val (.int mo), .val (.int kk), .val (.int bi), .val (.ref b106), .val (.ref b127), .val (.ref b128), .val (.int (0 : Int32)), .unset]) rfl ?_
  refine .iload X129 hx (hb hby at_513) rfl ?_
  refine .iconst X129 hx (hb hby at_515) own_ki2 ?_
  refine .icmpYes (pc := 516) X129 hx 541 (hb hby at_516) (feq ((by decide) : ¬ ((0 : Int32) = (2 : Int32)))).2 (by decide) (by decide) ?_
  refine .iconst X129 hx (hb hby at_541) own_ki0 ?_
  refine .istore X129 hx (hb hby at_542) (L' := #[.val (.int p1), .val (.long p2), .second, .val (.long p3), .second, .val (.int (0 : Int32)), .val (.int lt), .val (.int mo), .val (.int kk), .val (.int bi), .val (.ref b106), .val (.ref b127), .val (.ref b128), .val (.int (0 : Int32)), .val (.int (0 : Int32))]) rfl ?_
  refine .aload X129 hx (hb hby at_544) rfl rfl ?_
  obtain ⟨_, _, ⟨T130, L130, k130, n130⟩, -, X130, hS130, hg130, ⟨Lc130, hQ130, l130, y130, z130, CN130⟩, st130⟩ := callSS (s := s.setVm T129.vm) X129 hx (y := (⟨"com/example/mapweft/mapweft/Options", "isVerbose", "(Ljava/lang/String;)Z"⟩ : MethodName)) hown (mvT hZ (W_ hw 51 rfl)) (mvT hZ (W_ hw 52 rfl)) (mvT hZ (W_ hw 53 rfl)) (mvT hZ (W_ hw 54 rfl)) (by decide) (backOfSH (s := s) (vm0 := T129.vm) (W := 0) (rmisVN l Z a0 hw [] b128 b129 kb129 (0 : Int32) [] zc T129.heap n0 Z_ O_ S_CS P_CS Ex129 Fc129 Fv129 V129 (by decide) (by decide)) hZ (W_ hw 54 rfl) (W_ hw 53 rfl) (by decide) (by decide) (own_hEL hw) CR.1) (g := (mkF m 546 #[.val (.int p1), .val (.long p2), .second, .val (.long p3), .second, .val (.int (0 : Int32)), .val (.int lt), .val (.int mo), .val (.int kk), .val (.int bi), .val (.ref b106), .val (.ref b127), .val (.ref b128), .val (.int (0 : Int32)), .val (.int (0 : Int32))] [(.ref b128)])) rfl (by rw [hml]; rfl) (argsL := [(.ref b128)]) (rest := []) (lenOf pd_10 rfl) rfl (Nat.le_of_eq rfl) (hb hby at_546) (fun _ _ => ⟨rfl, rfl, (by decide : 27 + 4 ≤ _), (by decide : 422 + 52 ≤ _)⟩)
  dsimp only [Pt.U, Pt.locs, Pt.cells, Pt.slots] at X130 hS130 hg130 l130 y130 z130 CN130 st130 hQ130
  subst l130 y130 z130
  obtain ⟨X130, hS_, hZ, hown⟩ := rebS hS_ (show _ ≤ T129.heap.size by rw [(rfl : T129.heap = T129.heap)]; exact hk_) X130 hS130 hg130 hZ hown
  obtain ⟨rfl, N130q, K130⟩ := hQ130
  have N130 := Fr.app N129 N130q
  have lt_b106 : b106 < T129.heap.size := V_b106.lt
  have lt_b127 : b127 < T129.heap.size := V_b127.lt
  have lt_b128 : b128 < T129.heap.size := E_b128.lt
  have Z_ : n0 ≤ T130.heap.size := Nat.le_trans Z_ K130.1
  have V_b106 := V_b106.keep K130 nin0
  have E_b106 := E_b106.keep K130
  have V_b127 := V_b127.keep K130 nin0
  have E_b127 := E_b127.keep K130
  have E_b128 := E_b128.keep K130
  have O_ := O_.keep K130 all0
  have sf_b106 := CN130.safe lt_b106 sf_b106
  have sf_b127 := CN130.safe lt_b127 sf_b127
  have sf_b128 := CN130.safe lt_b128 sf_b128
  have CR := CR.trans CN130
  have hk_ := Nat.le_refl T130.heap.size
  refine .st (fun _ => st130.trans) ?_
  show OwnGoW p e below s Z own_EL _ _ _ T130 (mkF m 549 _ [(.int (0 : Int32))])
  refine .iload X130 hx (hb hby at_549) rfl ?_
  refine .ifNo X130 hx (hb hby at_551) ((if0 _ _).trans (teq ((by decide) : (0 : Int32) = (0 : Int32))).2) ?_
  refine .iload X130 hx (hb hby at_554) rfl ?_
  refine .ifYes (pc := 556) X130 hx 563 (hb hby at_556) ((if0 _ _).trans (teq ((by decide) : (0 : Int32) = (0 : Int32))).1) (by decide) (by decide) ?_
  refine .iconst X130 hx (hb hby at_563) own_ki0 ?_
  refine .icmpNo X130 hx (hb hby at_564) (teq ((by decide) : (0 : Int32) = (0 : Int32))).2 ?_
  refine .iconst X130 hx (hb hby at_567) own_ki1 ?_
  refine .goto (pc := 568) X130 hx 572 (hb hby at_568) (by decide) (by decide) ?_
  exact OwnGoW.retN (s := s) (vm0 := T130.vm) X130 hS_ hk_ rfl hZ (own_hEL hw) CR hx (t := .boolean) hret hlk (by simp) (hb hby at_572) (by show Q0 Z p1 p2 p3 zc fmv h0 n0 _ T130.heap _; exact ⟨rfl, N130⟩) (by decide) (by decide)
theorem sg1 {p : Program} {l : Launch} {e : Env} {s : State} {m : MethodId} {below : List Frame} {meth : Method} {c : Code} {Z : State} {a0 : Array Value} {T0 : State} {locs : List Loc} {vm1 : Vm} {k1 : Nat} {h1 : Heap} (p1 : Int32) (p2 : Int64) (p3 : Int64) (zc : Int32) (fmv : Value) (lt : Int32) (mo : Int32) (kk : Int32) (bi : Int32) (ch107 : Int32) (ch109 : Int32) (ch111 : Int32) (ch113 : Int32) (ch115 : Int32) (ch117 : Int32) (ch119 : Int32) (ch121 : Int32) (ch123 : Int32) (ch125 : Int32) (b106 : Addr) (k106 : ClassId) (h0 : Heap) (n0 : Nat) (hw : ∀ d ∈ tables_1, d.before a0 Z = true)
    (X0 : Stand p l e room_1 (s.setVm vm1) m #[(.int p1), (.long p2), (.long p3)] below meth c T0 locs 21 410) (hx : p.tables.exec = Jvm.exec) (hby : c.code = code) (hml : c.maxLocals = 15) (hret : meth.sig.returnType = ret) (hlk : meth.locks = false) (hown : (s.setVm vm1).vm.findClass "com/example/mapweft/mapweft/OptionsIsVerbosePinLaw" = some m.cls) (hnm : meth.name = "law") (hZ : Z.Warmed39 (s.setVm vm1).vm) (e0 : T0.heap = h1) (N0 : Fr n0 locs) (Z_ : n0 ≤ h1.size) (hS_ : s.Since vm1 k1) (hk_ : k1 ≤ h1.size) (CR : CHr Z own_EL s.vm s.heap vm1 h1) (S_CS : Sta Z Z.heap "java/lang/String" "COMPACT_STRINGS" "Z" (.int zc)) (P_CS : ¬ zc = (0 : Int32)) (S_SF : Sta Z Z.heap "jdk/internal/util/Preconditions" "SIOOBE_FORMATTER" "Ljava/util/function/BiFunction;" fmv) (rf_fmv : fmv.isRef = true) (V_b106 : Arv Z h1 b106 k106 .char (10 : Int32) [(.int ch107), (.int ch109), (.int ch111), (.int ch113), (.int ch115), (.int ch117), (.int ch119), (.int ch121), (.int ch123), (.int ch125)] (.int (0 : Int32))) (E_b106 : Exa Z h1 b106 "[C") (sf_b106 : Safe Z own_EL vm1 h1 b106) (O_ : Old Z n0 h1) (g_b106 : n0 ≤ b106) (hp_ch107 : ¬ ch107 < 0 ∧ ¬ (255 : Int32) < ch107) (hp_ch109 : ¬ ch109 < 0 ∧ ¬ (255 : Int32) < ch109) (hp_ch111 : ¬ ch111 < 0 ∧ ¬ (255 : Int32) < ch111) (hp_ch113 : ¬ ch113 < 0 ∧ ¬ (255 : Int32) < ch113) (hp_ch115 : ¬ ch115 < 0 ∧ ¬ (255 : Int32) < ch115) (hp_ch117 : ¬ ch117 < 0 ∧ ¬ (255 : Int32) < ch117) (hp_ch119 : ¬ ch119 < 0 ∧ ¬ (255 : Int32) < ch119) (hp_ch121 : ¬ ch121 < 0 ∧ ¬ (255 : Int32) < ch121) (hp_ch123 : ¬ ch123 < 0 ∧ ¬ (255 : Int32) < ch123) (hp_ch125 : ¬ ch125 < 0 ∧ ¬ (255 : Int32) < ch125) :
    OwnGoW p e below s Z own_EL room_1.cells room_1.slots (Q0 Z p1 p2 p3 zc fmv h0 n0) T0 (mkF m 247 #[.val (.int p1), .val (.long p2), .second, .val (.long p3), .second, .val (.int (1 : Int32)), .val (.int lt), .val (.int mo), .val (.int kk), .val (.int bi), .val (.ref b106), .unset, .unset, .unset, .unset] []) := by
  show OwnGoW p e below s Z own_EL _ _ _ T0 (mkF m 247 _ [])
  refine .iload X0 hx (hb hby at_247) rfl ?_
  obtain ⟨T131, h131, k131, X131, e131, E131, A131, Ex131, st131⟩ := newPE X0 hx hZ (W_ hw 0 rfl) e0 (g := (mkF m 249 #[.val (.int p1), .val (.long p2), .second, .val (.long p3), .second, .val (.int (1 : Int32)), .val (.int lt), .val (.int mo), .val (.int kk), .val (.int bi), .val (.ref b106), .unset, .unset, .unset, .unset] [(.int (1 : Int32))])) rfl (hb hby at_249) rfl (by decide) (cap := 1) (by decide) (by decide) (by decide) (by decide) (ad := "[C") (by decide)
  obtain ⟨b131, g131⟩ : ∃ z, z = h1.size := ⟨_, rfl⟩
  rw [← g131] at A131 Ex131 st131
  have ne_b106_b131 : b106 ≠ b131 := Nat.ne_of_lt (Nat.lt_of_lt_of_le V_b106.lt (Nat.le_of_eq g131.symm))
  have g_b131 : n0 ≤ b131 := Nat.le_trans Z_ (Nat.le_of_eq g131.symm)
  have sf_b131 : Safe Z own_EL vm1 h1 b131 := Safe.new (Nat.le_of_eq g131.symm)
  have V_b106 := V_b106.ext E131
  have E_b106 := E_b106.ext E131
  have O_ := O_.ext E131
  have sf_b106 := Safe.ext E131 CR.1 sf_b106
  have sf_b131 := Safe.ext E131 CR.1 sf_b131
  have CR := CR.trans (CHr.ext E131 CR.1)
  have hk_ := Nat.le_trans hk_ E131.1
  have Z_ : n0 ≤ h131.size := Nat.le_trans Z_ E131.1
  have V_b131 : Arv Z h131 b131 k131 .char (1 : Int32) [(.int (0 : Int32))] (.int (0 : Int32)) := (Arv.new A131 (by decide)).pad (pad_rep [] (.int (0 : Int32)) 1)
  have E_b131 := Ex131
  refine .st st131 ?_
  show OwnGoW p e below s Z own_EL _ _ _ T131 (mkF m 251 _ [(.ref b131)])
  refine .astore X131 hx (hb hby at_251) rfl (L' := #[.val (.int p1), .val (.long p2), .second, .val (.long p3), .second, .val (.int (1 : Int32)), .val (.int lt), .val (.int mo), .val (.int kk), .val (.int bi), .val (.ref b106), .val (.ref b131), .unset, .unset, .unset]) rfl ?_
  refine .iload X131 hx (hb hby at_253) rfl ?_
  refine .ifNo X131 hx (hb hby at_255) ((if0 _ _).trans (tlt ((by decide) : (0 : Int32) < (1 : Int32))).2.2.2) ?_
  refine .aload X131 hx (hb hby at_258) rfl rfl ?_
  refine .iconst X131 hx (hb hby at_260) own_ki0 ?_
  refine .aload X131 hx (hb hby at_261) rfl rfl ?_
  refine .iconst X131 hx (hb hby at_263) own_ki0 ?_
  obtain ⟨cl132, Ar132, -, S132, -, H132, -⟩ := id V_b106
  have hin132 : ¬ ((0 : Int32) < 0 ∨ cl132.slots.size ≤ ((0 : Int32)).toNatClampNeg) := inb_of S132 ⟨by decide, by decide⟩
  refine .st (fun _ => X131.caload hx (j := (0 : Int32)) (v := (.int ch107)) (by first | exact Ar132.1 | (rw [e131]; exact Ar132.1)) (State.isArrayOf_alike hZ.alike Ar132.2.1) Ar132.2.2 hin132 (H132.at hin132 rfl) (g := (mkF m 264 #[.val (.int p1), .val (.long p2), .second, .val (.long p3), .second, .val (.int (1 : Int32)), .val (.int lt), .val (.int mo), .val (.int kk), .val (.int bi), .val (.ref b106), .val (.ref b131), .unset, .unset, .unset] [(.int (0 : Int32)), (.ref b106), (.int (0 : Int32)), (.ref b131)])) rfl rfl (hb hby at_264) _) ?_
  show OwnGoW p e below s Z own_EL _ _ _ T131 (mkF m 265 _ [(.int ch107), (.int (0 : Int32)), (.ref b131)])
  obtain ⟨cl133, Ar133, q133, S133, N133, H133, G133⟩ := id V_b131
  have hin133 : ¬ ((0 : Int32) < 0 ∨ cl133.slots.size ≤ ((0 : Int32)).toNatClampNeg) := inb_of S133 ⟨by decide, by decide⟩
  obtain ⟨T133, h133, X133, e133, W133, st133⟩ := stC X131 hx hZ e131 Ar133 (j := (0 : Int32)) hin133 (g := (mkF m 265 #[.val (.int p1), .val (.long p2), .second, .val (.long p3), .second, .val (.int (1 : Int32)), .val (.int lt), .val (.int mo), .val (.int kk), .val (.int bi), .val (.ref b106), .val (.ref b131), .unset, .unset, .unset] [(.int ch107), (.int (0 : Int32)), (.ref b131)])) rfl rfl (hb hby at_265)
  have V_b131 : Arv Z h133 b131 k131 .char (1 : Int32) [(.int (nar .char ch107))] (.int (0 : Int32)) := Arv.set Ar133 q133 S133 N133 H133 G133 (fits_nar_char _) W133 0 rfl (Nat.le_of_ble_eq_true rfl)
  rw [show nar .char ch107 = ch107 from (own_lnc hp_ch107)] at V_b131
  have V_b106 := V_b106.other W133 ne_b106_b131
  have E_b106 := E_b106.wr W133
  have E_b131 := E_b131.wr W133
  have O_ := O_.wr W133 g_b131
  have sf_ := sf_b131
  have CR0 := CR.1
  have CR := CR.trans (CHr.wr W133 sf_ CR.1)
  have sf_b106 := Safe.wr W133 sf_ CR0 sf_b106
  have sf_b131 := Safe.wr W133 sf_ CR0 sf_b131
  have hk_ := Nat.le_trans hk_ (Nat.le_of_eq W133.size.symm)
  have N133 := Fr.snoc X133 N0 g_b131
  have Z_ : n0 ≤ h133.size := by rw [W133.size]; exact Z_
  refine .st st133 ?_
  show OwnGoW p e below s Z own_EL _ _ _ T133 (mkF m 266 _ [])
  refine .iload X133 hx (hb hby at_266) rfl ?_
  refine .iconst X133 hx (hb hby at_268) own_ki1 ?_
  refine .icmpYes (pc := 269) X133 hx 280 (hb hby at_269) (flt ((by decide) : ¬ ((1 : Int32) < (1 : Int32)))).2.2.2 (by decide) (by decide) ?_
  refine .iload X133 hx (hb hby at_280) rfl ?_
  refine .iconst X133 hx (hb hby at_282) own_ki2 ?_
  refine .icmpYes (pc := 283) X133 hx 294 (hb hby at_283) (flt ((by decide) : ¬ ((2 : Int32) < (1 : Int32)))).2.2.2 (by decide) (by decide) ?_
  refine .iload X133 hx (hb hby at_294) rfl ?_
  refine .iconst X133 hx (hb hby at_296) own_ki3 ?_
  refine .icmpYes (pc := 297) X133 hx 308 (hb hby at_297) (flt ((by decide) : ¬ ((3 : Int32) < (1 : Int32)))).2.2.2 (by decide) (by decide) ?_
  refine .iload X133 hx (hb hby at_308) rfl ?_
  refine .iconst X133 hx (hb hby at_310) own_ki4 ?_
  refine .icmpYes (pc := 311) X133 hx 322 (hb hby at_311) (flt ((by decide) : ¬ ((4 : Int32) < (1 : Int32)))).2.2.2 (by decide) (by decide) ?_
  refine .iload X133 hx (hb hby at_322) rfl ?_
  refine .iconst X133 hx (hb hby at_324) own_ki5 ?_
  refine .icmpYes (pc := 325) X133 hx 336 (hb hby at_325) (flt ((by decide) : ¬ ((5 : Int32) < (1 : Int32)))).2.2.2 (by decide) (by decide) ?_
  refine .iload X133 hx (hb hby at_336) rfl ?_
  refine .bipush X133 hx (hb hby at_338) own_kb6 ?_
  refine .icmpYes (pc := 340) X133 hx 353 (hb hby at_340) (flt ((by decide) : ¬ ((6 : Int32) < (1 : Int32)))).2.2.2 (by decide) (by decide) ?_
  refine .iload X133 hx (hb hby at_353) rfl ?_
  refine .bipush X133 hx (hb hby at_355) own_kb7 ?_
  refine .icmpYes (pc := 357) X133 hx 370 (hb hby at_357) (flt ((by decide) : ¬ ((7 : Int32) < (1 : Int32)))).2.2.2 (by decide) (by decide) ?_
  refine .iload X133 hx (hb hby at_370) rfl ?_
  refine .bipush X133 hx (hb hby at_372) own_kb8 ?_
  refine .icmpYes (pc := 374) X133 hx 387 (hb hby at_374) (flt ((by decide) : ¬ ((8 : Int32) < (1 : Int32)))).2.2.2 (by decide) (by decide) ?_
  refine .iload X133 hx (hb hby at_387) rfl ?_
  refine .bipush X133 hx (hb hby at_389) own_kb9 ?_
  refine .icmpYes (pc := 391) X133 hx 404 (hb hby at_391) (flt ((by decide) : ¬ ((9 : Int32) < (1 : Int32)))).2.2.2 (by decide) (by decide) ?_
  obtain ⟨T134, h134, X134, e134, E134, A134, D134, -, st134⟩ := newO X133 hx hZ hown (W_ hw 39 rfl) (W_ hw 8 rfl) (W_ hw 7 rfl) e133 (g := (mkF m 404 #[.val (.int p1), .val (.long p2), .second, .val (.long p3), .second, .val (.int (1 : Int32)), .val (.int lt), .val (.int mo), .val (.int kk), .val (.int bi), .val (.ref b106), .val (.ref b131), .unset, .unset, .unset] [])) rfl (hb hby at_404) (by decide) (by decide)
  obtain ⟨b134, g134⟩ : ∃ z, z = h133.size := ⟨_, rfl⟩
  rw [← g134] at A134 D134 st134
  have ne_b106_b134 : b106 ≠ b134 := Nat.ne_of_lt (Nat.lt_of_lt_of_le V_b106.lt (Nat.le_of_eq g134.symm))
  have ne_b131_b134 : b131 ≠ b134 := Nat.ne_of_lt (Nat.lt_of_lt_of_le V_b131.lt (Nat.le_of_eq g134.symm))
  have g_b134 : n0 ≤ b134 := Nat.le_trans Z_ (Nat.le_of_eq g134.symm)
  have sf_b134 : Safe Z own_EL vm1 h133 b134 := Safe.new (Nat.le_of_eq g134.symm)
  have V_b106 := V_b106.ext E134
  have E_b106 := E_b106.ext E134
  have V_b131 := V_b131.ext E134
  have E_b131 := E_b131.ext E134
  have O_ := O_.ext E134
  have sf_b106 := Safe.ext E134 CR.1 sf_b106
  have sf_b131 := Safe.ext E134 CR.1 sf_b131
  have sf_b134 := Safe.ext E134 CR.1 sf_b134
  have CR := CR.trans (CHr.ext E134 CR.1)
  have hk_ := Nat.le_trans hk_ E134.1
  have Z_ : n0 ≤ h134.size := Nat.le_trans Z_ E134.1
  have E_b134 := A134
  have F_value_b134 : Fld Z h134 b134 "java/lang/String" "value" "[B" .null := D134 (Or.inr (W_ hw 10 rfl)) (ty := (.array .byte)) (by decide)
  have F_coder_b134 : Fld Z h134 b134 "java/lang/String" "coder" "B" (.int (0 : Int32)) := D134 (Or.inr (W_ hw 11 rfl)) (ty := .byte) (by decide)
  refine .st st134 ?_
  show OwnGoW p e below s Z own_EL _ _ _ T134 (mkF m 407 _ [(.ref b134)])
  refine .dup X134 hx (hb hby at_407) rfl ?_
  refine .aload X134 hx (hb hby at_408) rfl rfl ?_
  have hp135 : ∀ c ∈ ([ch107] : List Int32), ¬ c < 0 ∧ ¬ (255 : Int32) < c := by
    intro c hc
    simp only [List.mem_cons, List.not_mem_nil, or_false] at hc
    rcases hc with rfl
    · exact hp_ch107
  obtain ⟨_, _, ⟨T136, L136, k136, n136⟩, -, X136, ⟨Lc136, hQ136, l136, y136, z136⟩, st136⟩ := X134.specialBack hx (y := (⟨"java/lang/String", "<init>", "([C)V"⟩ : MethodName)) rfl hown (mvT hZ (W_ hw 40 rfl)) (mvT hZ (W_ hw 41 rfl)) (mvT hZ (W_ hw 42 rfl)) (by decide) (StrChars.Road.backV (W := 1) hZ (own_ws hw) (kI := 4) (W_ hw 8 rfl) (cs := ([ch107] : List Int32)) (bs := ([ch107] : List Int32).map (fun c => c.toInt8.toInt32)) (n := 1) g_b134 Z_ E_b134 F_value_b134 F_coder_b134 V_b131 (S_CS.ext O_.2) P_CS rfl rfl (by decide) (by decide) hp135 rfl (by decide) (by decide)) (g := (mkF m 410 #[.val (.int p1), .val (.long p2), .second, .val (.long p3), .second, .val (.int (1 : Int32)), .val (.int lt), .val (.int mo), .val (.int kk), .val (.int bi), .val (.ref b106), .val (.ref b131), .unset, .unset, .unset] [(.ref b131), (.ref b134), (.ref b134)])) rfl (by rw [hml]; rfl) (Steps.refl _) (a := b134) (argsL := [(.ref b131)]) (rest := [(.ref b134)]) (lenOf pd_9 rfl) rfl (Nat.le_of_eq rfl) (hb hby at_410) (fun _ _ => ⟨rfl, e134, (by decide : 23 + 1 ≤ _), (by decide : 415 + 1 ≤ _)⟩)
  dsimp only [Pt.U, Pt.locs, Pt.cells, Pt.slots] at X136 l136 y136 z136 st136 hQ136
  subst l136 y136 z136
  obtain ⟨rfl, N136q, K136, Ex136, Fc_b134, t136, kb136, gt136, zz136, nt136, Fv_b134, V136⟩ := hQ136
  have N136 := Fr.app N133 N136q
  have zt136 : h134.size ≤ t136 := zz136
  have ne_b106_t136 : b106 ≠ t136 := Nat.ne_of_lt (Nat.lt_of_lt_of_le V_b106.lt zt136)
  have ne_b131_t136 : b131 ≠ t136 := Nat.ne_of_lt (Nat.lt_of_lt_of_le V_b131.lt zt136)
  have ne_b134_t136 : b134 ≠ t136 := Nat.ne_of_lt (Nat.lt_of_lt_of_le E_b134.lt zt136)
  have g_t136 : n0 ≤ t136 := Nat.le_trans Z_ zt136
  have V136 : Arv Z T136.heap t136 kb136 .byte (1 : Int32) [(.int ch107.toInt8.toInt32)] (.int (0 : Int32)) := V136
  have Z_ : n0 ≤ T136.heap.size := Nat.le_trans Z_ K136.1
  have V_b106 := V_b106.keep K136 (ninS ne_b106_b134 nin0)
  have E_b106 := E_b106.keep K136
  have V_b131 := V_b131.keep K136 (ninS ne_b131_b134 nin0)
  have E_b131 := E_b131.keep K136
  have E_b134 := E_b134.keep K136
  have O_ := O_.keep K136 (allS g_b134 all0)
  have sf_b106' := Safe.keep K136 (sfS sf_b134 sf0) CR.1 sf_b106
  have sf_b131' := Safe.keep K136 (sfS sf_b134 sf0) CR.1 sf_b131
  have sf_b134' := Safe.keep K136 (sfS sf_b134 sf0) CR.1 sf_b134
  have CR := CR.trans (CHr.keep K136 (sfS sf_b134 sf0) CR.1)
  have hk_ := Nat.le_trans hk_ K136.1
  have sf_b106 := sf_b106'
  have sf_b131 := sf_b131'
  have sf_b134 := sf_b134'
  refine .st (fun _ => st136.trans) ?_
  show OwnGoW p e below s Z own_EL _ _ _ T136 (mkF m 413 _ [(.ref b134)])
  refine .astore X136 hx (hb hby at_413) rfl (L' := #[.val (.int p1), .val (.long p2), .second, .val (.long p3), .second, .val (.int (1 : Int32)), .val (.int lt), .val (.int mo), .val (.int kk), .val (.int bi), .val (.ref b106), .val (.ref b131), .val (.ref b134), .unset, .unset]) rfl ?_
  refine .iload X136 hx (hb hby at_415) rfl ?_
  refine .bipush X136 hx (hb hby at_417) own_kb9 ?_
  refine .icmpYes (pc := 419) X136 hx 510 (hb hby at_419) (feq ((by decide) : ¬ ((1 : Int32) = (9 : Int32)))).2 (by decide) (by decide) ?_
  refine .iconst X136 hx (hb hby at_510) own_ki0 ?_
  refine .istore X136 hx (hb hby at_511) (L' := #[.val (.int p1), .val (.long p2), .second, .val (.long p3), .second, .val (.int (1 : Int32)), .val (.int lt), .val (.int mo), .val (.int kk), .val (.int bi), .val (.ref b106), .val (.ref b131), .val (.ref b134), .val (.int (0 : Int32)), .unset]) rfl ?_
  refine .iload X136 hx (hb hby at_513) rfl ?_
  refine .iconst X136 hx (hb hby at_515) own_ki2 ?_
  refine .icmpYes (pc := 516) X136 hx 541 (hb hby at_516) (feq ((by decide) : ¬ ((1 : Int32) = (2 : Int32)))).2 (by decide) (by decide) ?_
  refine .iconst X136 hx (hb hby at_541) own_ki0 ?_
  refine .istore X136 hx (hb hby at_542) (L' := #[.val (.int p1), .val (.long p2), .second, .val (.long p3), .second, .val (.int (1 : Int32)), .val (.int lt), .val (.int mo), .val (.int kk), .val (.int bi), .val (.ref b106), .val (.ref b131), .val (.ref b134), .val (.int (0 : Int32)), .val (.int (0 : Int32))]) rfl ?_
  refine .aload X136 hx (hb hby at_544) rfl rfl ?_
  obtain ⟨_, _, ⟨T137, L137, k137, n137⟩, -, X137, hS137, hg137, ⟨Lc137, hQ137, l137, y137, z137, CN137⟩, st137⟩ := callSS (s := s.setVm vm1) X136 hx (y := (⟨"com/example/mapweft/mapweft/Options", "isVerbose", "(Ljava/lang/String;)Z"⟩ : MethodName)) hown (mvT hZ (W_ hw 51 rfl)) (mvT hZ (W_ hw 52 rfl)) (mvT hZ (W_ hw 53 rfl)) (mvT hZ (W_ hw 54 rfl)) (by decide) (backOfSH (s := s) (vm0 := vm1) (W := 0) (rmisVN l Z a0 hw [] b134 t136 kb136 (1 : Int32) [(.int ch107.toInt8.toInt32)] zc T136.heap n0 Z_ O_ S_CS P_CS E_b134 Fc_b134 Fv_b134 V136 (by decide) (by decide)) hZ (W_ hw 54 rfl) (W_ hw 53 rfl) (by decide) (by decide) (own_hEL hw) CR.1) (g := (mkF m 546 #[.val (.int p1), .val (.long p2), .second, .val (.long p3), .second, .val (.int (1 : Int32)), .val (.int lt), .val (.int mo), .val (.int kk), .val (.int bi), .val (.ref b106), .val (.ref b131), .val (.ref b134), .val (.int (0 : Int32)), .val (.int (0 : Int32))] [(.ref b134)])) rfl (by rw [hml]; rfl) (argsL := [(.ref b134)]) (rest := []) (lenOf pd_10 rfl) rfl (Nat.le_of_eq rfl) (hb hby at_546) (fun _ _ => ⟨rfl, rfl, (by decide : 24 + 4 ≤ _), (by decide : 416 + 52 ≤ _)⟩)
  dsimp only [Pt.U, Pt.locs, Pt.cells, Pt.slots] at X137 hS137 hg137 l137 y137 z137 CN137 st137 hQ137
  subst l137 y137 z137
  obtain ⟨X137, hS_, hZ, hown⟩ := rebS hS_ (show _ ≤ T136.heap.size by rw [(rfl : T136.heap = T136.heap)]; exact hk_) X137 hS137 hg137 hZ hown
  obtain ⟨rfl, N137q, K137⟩ := hQ137
  have N137 := Fr.app N136 N137q
  have lt_b106 : b106 < T136.heap.size := V_b106.lt
  have lt_b131 : b131 < T136.heap.size := V_b131.lt
  have lt_b134 : b134 < T136.heap.size := E_b134.lt
  have Z_ : n0 ≤ T137.heap.size := Nat.le_trans Z_ K137.1
  have V_b106 := V_b106.keep K137 nin0
  have E_b106 := E_b106.keep K137
  have V_b131 := V_b131.keep K137 nin0
  have E_b131 := E_b131.keep K137
  have E_b134 := E_b134.keep K137
  have Fc_b134 := Fc_b134.keep K137 nin0
  have Fv_b134 := Fv_b134.keep K137 nin0
  have V136 := V136.keep K137 nin0
  have O_ := O_.keep K137 all0
  have sf_b106 := CN137.safe lt_b106 sf_b106
  have sf_b131 := CN137.safe lt_b131 sf_b131
  have sf_b134 := CN137.safe lt_b134 sf_b134
  have CR := CR.trans CN137
  have hk_ := Nat.le_refl T137.heap.size
  refine .st (fun _ => st137.trans) ?_
  show OwnGoW p e below s Z own_EL _ _ _ T137 (mkF m 549 _ [(.int (0 : Int32))])
  refine .iload X137 hx (hb hby at_549) rfl ?_
  refine .ifNo X137 hx (hb hby at_551) ((if0 _ _).trans (teq ((by decide) : (0 : Int32) = (0 : Int32))).2) ?_
  refine .iload X137 hx (hb hby at_554) rfl ?_
  refine .ifYes (pc := 556) X137 hx 563 (hb hby at_556) ((if0 _ _).trans (teq ((by decide) : (0 : Int32) = (0 : Int32))).1) (by decide) (by decide) ?_
  refine .iconst X137 hx (hb hby at_563) own_ki0 ?_
  refine .icmpNo X137 hx (hb hby at_564) (teq ((by decide) : (0 : Int32) = (0 : Int32))).2 ?_
  refine .iconst X137 hx (hb hby at_567) own_ki1 ?_
  refine .goto (pc := 568) X137 hx 572 (hb hby at_568) (by decide) (by decide) ?_
  exact OwnGoW.retN (s := s) (vm0 := T137.vm) X137 hS_ hk_ rfl hZ (own_hEL hw) CR hx (t := .boolean) hret hlk (by simp) (hb hby at_572) (by show Q0 Z p1 p2 p3 zc fmv h0 n0 _ T137.heap _; exact ⟨rfl, N137⟩) (by decide) (by decide)
theorem sg2 {p : Program} {l : Launch} {e : Env} {s : State} {m : MethodId} {below : List Frame} {meth : Method} {c : Code} {Z : State} {a0 : Array Value} {T0 : State} {locs : List Loc} {vm1 : Vm} {k1 : Nat} {h1 : Heap} (p1 : Int32) (p2 : Int64) (p3 : Int64) (zc : Int32) (fmv : Value) (lt : Int32) (mo : Int32) (kk : Int32) (bi : Int32) (ch107 : Int32) (ch109 : Int32) (ch111 : Int32) (ch113 : Int32) (ch115 : Int32) (ch117 : Int32) (ch119 : Int32) (ch121 : Int32) (ch123 : Int32) (ch125 : Int32) (b106 : Addr) (k106 : ClassId) (h0 : Heap) (n0 : Nat) (hw : ∀ d ∈ tables_1, d.before a0 Z = true)
    (X0 : Stand p l e room_1 (s.setVm vm1) m #[(.int p1), (.long p2), (.long p3)] below meth c T0 locs 21 410) (hx : p.tables.exec = Jvm.exec) (hby : c.code = code) (hml : c.maxLocals = 15) (hret : meth.sig.returnType = ret) (hlk : meth.locks = false) (hown : (s.setVm vm1).vm.findClass "com/example/mapweft/mapweft/OptionsIsVerbosePinLaw" = some m.cls) (hnm : meth.name = "law") (hZ : Z.Warmed39 (s.setVm vm1).vm) (e0 : T0.heap = h1) (N0 : Fr n0 locs) (Z_ : n0 ≤ h1.size) (hS_ : s.Since vm1 k1) (hk_ : k1 ≤ h1.size) (CR : CHr Z own_EL s.vm s.heap vm1 h1) (S_CS : Sta Z Z.heap "java/lang/String" "COMPACT_STRINGS" "Z" (.int zc)) (P_CS : ¬ zc = (0 : Int32)) (S_SF : Sta Z Z.heap "jdk/internal/util/Preconditions" "SIOOBE_FORMATTER" "Ljava/util/function/BiFunction;" fmv) (rf_fmv : fmv.isRef = true) (V_b106 : Arv Z h1 b106 k106 .char (10 : Int32) [(.int ch107), (.int ch109), (.int ch111), (.int ch113), (.int ch115), (.int ch117), (.int ch119), (.int ch121), (.int ch123), (.int ch125)] (.int (0 : Int32))) (E_b106 : Exa Z h1 b106 "[C") (sf_b106 : Safe Z own_EL vm1 h1 b106) (O_ : Old Z n0 h1) (g_b106 : n0 ≤ b106) (hp_ch107 : ¬ ch107 < 0 ∧ ¬ (255 : Int32) < ch107) (hp_ch109 : ¬ ch109 < 0 ∧ ¬ (255 : Int32) < ch109) (hp_ch111 : ¬ ch111 < 0 ∧ ¬ (255 : Int32) < ch111) (hp_ch113 : ¬ ch113 < 0 ∧ ¬ (255 : Int32) < ch113) (hp_ch115 : ¬ ch115 < 0 ∧ ¬ (255 : Int32) < ch115) (hp_ch117 : ¬ ch117 < 0 ∧ ¬ (255 : Int32) < ch117) (hp_ch119 : ¬ ch119 < 0 ∧ ¬ (255 : Int32) < ch119) (hp_ch121 : ¬ ch121 < 0 ∧ ¬ (255 : Int32) < ch121) (hp_ch123 : ¬ ch123 < 0 ∧ ¬ (255 : Int32) < ch123) (hp_ch125 : ¬ ch125 < 0 ∧ ¬ (255 : Int32) < ch125) :
    OwnGoW p e below s Z own_EL room_1.cells room_1.slots (Q0 Z p1 p2 p3 zc fmv h0 n0) T0 (mkF m 247 #[.val (.int p1), .val (.long p2), .second, .val (.long p3), .second, .val (.int (2 : Int32)), .val (.int lt), .val (.int mo), .val (.int kk), .val (.int bi), .val (.ref b106), .unset, .unset, .unset, .unset] []) := by
  show OwnGoW p e below s Z own_EL _ _ _ T0 (mkF m 247 _ [])
  refine .iload X0 hx (hb hby at_247) rfl ?_
  obtain ⟨T138, h138, k138, X138, e138, E138, A138, Ex138, st138⟩ := newPE X0 hx hZ (W_ hw 0 rfl) e0 (g := (mkF m 249 #[.val (.int p1), .val (.long p2), .second, .val (.long p3), .second, .val (.int (2 : Int32)), .val (.int lt), .val (.int mo), .val (.int kk), .val (.int bi), .val (.ref b106), .unset, .unset, .unset, .unset] [(.int (2 : Int32))])) rfl (hb hby at_249) rfl (by decide) (cap := 2) (by decide) (by decide) (by decide) (by decide) (ad := "[C") (by decide)
  obtain ⟨b138, g138⟩ : ∃ z, z = h1.size := ⟨_, rfl⟩
  rw [← g138] at A138 Ex138 st138
  have ne_b106_b138 : b106 ≠ b138 := Nat.ne_of_lt (Nat.lt_of_lt_of_le V_b106.lt (Nat.le_of_eq g138.symm))
  have g_b138 : n0 ≤ b138 := Nat.le_trans Z_ (Nat.le_of_eq g138.symm)
  have sf_b138 : Safe Z own_EL vm1 h1 b138 := Safe.new (Nat.le_of_eq g138.symm)
  have V_b106 := V_b106.ext E138
  have E_b106 := E_b106.ext E138
  have O_ := O_.ext E138
  have sf_b106 := Safe.ext E138 CR.1 sf_b106
  have sf_b138 := Safe.ext E138 CR.1 sf_b138
  have CR := CR.trans (CHr.ext E138 CR.1)
  have hk_ := Nat.le_trans hk_ E138.1
  have Z_ : n0 ≤ h138.size := Nat.le_trans Z_ E138.1
  have V_b138 : Arv Z h138 b138 k138 .char (2 : Int32) [(.int (0 : Int32)), (.int (0 : Int32))] (.int (0 : Int32)) := (Arv.new A138 (by decide)).pad (pad_rep [] (.int (0 : Int32)) 2)
  have E_b138 := Ex138
  refine .st st138 ?_
  show OwnGoW p e below s Z own_EL _ _ _ T138 (mkF m 251 _ [(.ref b138)])
  refine .astore X138 hx (hb hby at_251) rfl (L' := #[.val (.int p1), .val (.long p2), .second, .val (.long p3), .second, .val (.int (2 : Int32)), .val (.int lt), .val (.int mo), .val (.int kk), .val (.int bi), .val (.ref b106), .val (.ref b138), .unset, .unset, .unset]) rfl ?_
  refine .iload X138 hx (hb hby at_253) rfl ?_
  refine .ifNo X138 hx (hb hby at_255) ((if0 _ _).trans (tlt ((by decide) : (0 : Int32) < (2 : Int32))).2.2.2) ?_
  refine .aload X138 hx (hb hby at_258) rfl rfl ?_
  refine .iconst X138 hx (hb hby at_260) own_ki0 ?_
  refine .aload X138 hx (hb hby at_261) rfl rfl ?_
  refine .iconst X138 hx (hb hby at_263) own_ki0 ?_
  obtain ⟨cl139, Ar139, -, S139, -, H139, -⟩ := id V_b106
  have hin139 : ¬ ((0 : Int32) < 0 ∨ cl139.slots.size ≤ ((0 : Int32)).toNatClampNeg) := inb_of S139 ⟨by decide, by decide⟩
  refine .st (fun _ => X138.caload hx (j := (0 : Int32)) (v := (.int ch107)) (by first | exact Ar139.1 | (rw [e138]; exact Ar139.1)) (State.isArrayOf_alike hZ.alike Ar139.2.1) Ar139.2.2 hin139 (H139.at hin139 rfl) (g := (mkF m 264 #[.val (.int p1), .val (.long p2), .second, .val (.long p3), .second, .val (.int (2 : Int32)), .val (.int lt), .val (.int mo), .val (.int kk), .val (.int bi), .val (.ref b106), .val (.ref b138), .unset, .unset, .unset] [(.int (0 : Int32)), (.ref b106), (.int (0 : Int32)), (.ref b138)])) rfl rfl (hb hby at_264) _) ?_
  show OwnGoW p e below s Z own_EL _ _ _ T138 (mkF m 265 _ [(.int ch107), (.int (0 : Int32)), (.ref b138)])
  obtain ⟨cl140, Ar140, q140, S140, N140, H140, G140⟩ := id V_b138
  have hin140 : ¬ ((0 : Int32) < 0 ∨ cl140.slots.size ≤ ((0 : Int32)).toNatClampNeg) := inb_of S140 ⟨by decide, by decide⟩
  obtain ⟨T140, h140, X140, e140, W140, st140⟩ := stC X138 hx hZ e138 Ar140 (j := (0 : Int32)) hin140 (g := (mkF m 265 #[.val (.int p1), .val (.long p2), .second, .val (.long p3), .second, .val (.int (2 : Int32)), .val (.int lt), .val (.int mo), .val (.int kk), .val (.int bi), .val (.ref b106), .val (.ref b138), .unset, .unset, .unset] [(.int ch107), (.int (0 : Int32)), (.ref b138)])) rfl rfl (hb hby at_265)
  have V_b138 : Arv Z h140 b138 k138 .char (2 : Int32) [(.int (nar .char ch107)), (.int (0 : Int32))] (.int (0 : Int32)) := Arv.set Ar140 q140 S140 N140 H140 G140 (fits_nar_char _) W140 0 rfl (Nat.le_of_ble_eq_true rfl)
  rw [show nar .char ch107 = ch107 from (own_lnc hp_ch107)] at V_b138
  have V_b106 := V_b106.other W140 ne_b106_b138
  have E_b106 := E_b106.wr W140
  have E_b138 := E_b138.wr W140
  have O_ := O_.wr W140 g_b138
  have sf_ := sf_b138
  have CR0 := CR.1
  have CR := CR.trans (CHr.wr W140 sf_ CR.1)
  have sf_b106 := Safe.wr W140 sf_ CR0 sf_b106
  have sf_b138 := Safe.wr W140 sf_ CR0 sf_b138
  have hk_ := Nat.le_trans hk_ (Nat.le_of_eq W140.size.symm)
  have N140 := Fr.snoc X140 N0 g_b138
  have Z_ : n0 ≤ h140.size := by rw [W140.size]; exact Z_
  refine .st st140 ?_
  show OwnGoW p e below s Z own_EL _ _ _ T140 (mkF m 266 _ [])
  refine .iload X140 hx (hb hby at_266) rfl ?_
  refine .iconst X140 hx (hb hby at_268) own_ki1 ?_
  refine .icmpNo X140 hx (hb hby at_269) (tlt ((by decide) : (1 : Int32) < (2 : Int32))).2.2.2 ?_
  refine .aload X140 hx (hb hby at_272) rfl rfl ?_
  refine .iconst X140 hx (hb hby at_274) own_ki1 ?_
  refine .aload X140 hx (hb hby at_275) rfl rfl ?_
  refine .iconst X140 hx (hb hby at_277) own_ki1 ?_
  obtain ⟨cl141, Ar141, -, S141, -, H141, -⟩ := id V_b106
  have hin141 : ¬ ((1 : Int32) < 0 ∨ cl141.slots.size ≤ ((1 : Int32)).toNatClampNeg) := inb_of S141 ⟨by decide, by decide⟩
  refine .st (fun _ => X140.caload hx (j := (1 : Int32)) (v := (.int ch109)) (by first | exact Ar141.1 | (rw [e140]; exact Ar141.1)) (State.isArrayOf_alike hZ.alike Ar141.2.1) Ar141.2.2 hin141 (H141.at hin141 rfl) (g := (mkF m 278 #[.val (.int p1), .val (.long p2), .second, .val (.long p3), .second, .val (.int (2 : Int32)), .val (.int lt), .val (.int mo), .val (.int kk), .val (.int bi), .val (.ref b106), .val (.ref b138), .unset, .unset, .unset] [(.int (1 : Int32)), (.ref b106), (.int (1 : Int32)), (.ref b138)])) rfl rfl (hb hby at_278) _) ?_
  show OwnGoW p e below s Z own_EL _ _ _ T140 (mkF m 279 _ [(.int ch109), (.int (1 : Int32)), (.ref b138)])
  obtain ⟨cl142, Ar142, q142, S142, N142, H142, G142⟩ := id V_b138
  have hin142 : ¬ ((1 : Int32) < 0 ∨ cl142.slots.size ≤ ((1 : Int32)).toNatClampNeg) := inb_of S142 ⟨by decide, by decide⟩
  obtain ⟨T142, h142, X142, e142, W142, st142⟩ := stC X140 hx hZ e140 Ar142 (j := (1 : Int32)) hin142 (g := (mkF m 279 #[.val (.int p1), .val (.long p2), .second, .val (.long p3), .second, .val (.int (2 : Int32)), .val (.int lt), .val (.int mo), .val (.int kk), .val (.int bi), .val (.ref b106), .val (.ref b138), .unset, .unset, .unset] [(.int ch109), (.int (1 : Int32)), (.ref b138)])) rfl rfl (hb hby at_279)
  have V_b138 : Arv Z h142 b138 k138 .char (2 : Int32) [(.int ch107), (.int (nar .char ch109))] (.int (0 : Int32)) := Arv.set Ar142 q142 S142 N142 H142 G142 (fits_nar_char _) W142 1 rfl (Nat.le_of_ble_eq_true rfl)
  rw [show nar .char ch109 = ch109 from (own_lnc hp_ch109)] at V_b138
  have V_b106 := V_b106.other W142 ne_b106_b138
  have E_b106 := E_b106.wr W142
  have E_b138 := E_b138.wr W142
  have O_ := O_.wr W142 g_b138
  have sf_ := sf_b138
  have CR0 := CR.1
  have CR := CR.trans (CHr.wr W142 sf_ CR.1)
  have sf_b106 := Safe.wr W142 sf_ CR0 sf_b106
  have sf_b138 := Safe.wr W142 sf_ CR0 sf_b138
  have hk_ := Nat.le_trans hk_ (Nat.le_of_eq W142.size.symm)
  have N142 := Fr.snoc X142 N140 g_b138
  have Z_ : n0 ≤ h142.size := by rw [W142.size]; exact Z_
  refine .st st142 ?_
  show OwnGoW p e below s Z own_EL _ _ _ T142 (mkF m 280 _ [])
  refine .iload X142 hx (hb hby at_280) rfl ?_
  refine .iconst X142 hx (hb hby at_282) own_ki2 ?_
  refine .icmpYes (pc := 283) X142 hx 294 (hb hby at_283) (flt ((by decide) : ¬ ((2 : Int32) < (2 : Int32)))).2.2.2 (by decide) (by decide) ?_
  refine .iload X142 hx (hb hby at_294) rfl ?_
  refine .iconst X142 hx (hb hby at_296) own_ki3 ?_
  refine .icmpYes (pc := 297) X142 hx 308 (hb hby at_297) (flt ((by decide) : ¬ ((3 : Int32) < (2 : Int32)))).2.2.2 (by decide) (by decide) ?_
  refine .iload X142 hx (hb hby at_308) rfl ?_
  refine .iconst X142 hx (hb hby at_310) own_ki4 ?_
  refine .icmpYes (pc := 311) X142 hx 322 (hb hby at_311) (flt ((by decide) : ¬ ((4 : Int32) < (2 : Int32)))).2.2.2 (by decide) (by decide) ?_
  refine .iload X142 hx (hb hby at_322) rfl ?_
  refine .iconst X142 hx (hb hby at_324) own_ki5 ?_
  refine .icmpYes (pc := 325) X142 hx 336 (hb hby at_325) (flt ((by decide) : ¬ ((5 : Int32) < (2 : Int32)))).2.2.2 (by decide) (by decide) ?_
  refine .iload X142 hx (hb hby at_336) rfl ?_
  refine .bipush X142 hx (hb hby at_338) own_kb6 ?_
  refine .icmpYes (pc := 340) X142 hx 353 (hb hby at_340) (flt ((by decide) : ¬ ((6 : Int32) < (2 : Int32)))).2.2.2 (by decide) (by decide) ?_
  refine .iload X142 hx (hb hby at_353) rfl ?_
  refine .bipush X142 hx (hb hby at_355) own_kb7 ?_
  refine .icmpYes (pc := 357) X142 hx 370 (hb hby at_357) (flt ((by decide) : ¬ ((7 : Int32) < (2 : Int32)))).2.2.2 (by decide) (by decide) ?_
  refine .iload X142 hx (hb hby at_370) rfl ?_
  refine .bipush X142 hx (hb hby at_372) own_kb8 ?_
  refine .icmpYes (pc := 374) X142 hx 387 (hb hby at_374) (flt ((by decide) : ¬ ((8 : Int32) < (2 : Int32)))).2.2.2 (by decide) (by decide) ?_
  refine .iload X142 hx (hb hby at_387) rfl ?_
  refine .bipush X142 hx (hb hby at_389) own_kb9 ?_
  refine .icmpYes (pc := 391) X142 hx 404 (hb hby at_391) (flt ((by decide) : ¬ ((9 : Int32) < (2 : Int32)))).2.2.2 (by decide) (by decide) ?_
  obtain ⟨T143, h143, X143, e143, E143, A143, D143, -, st143⟩ := newO X142 hx hZ hown (W_ hw 39 rfl) (W_ hw 8 rfl) (W_ hw 7 rfl) e142 (g := (mkF m 404 #[.val (.int p1), .val (.long p2), .second, .val (.long p3), .second, .val (.int (2 : Int32)), .val (.int lt), .val (.int mo), .val (.int kk), .val (.int bi), .val (.ref b106), .val (.ref b138), .unset, .unset, .unset] [])) rfl (hb hby at_404) (by decide) (by decide)
  obtain ⟨b143, g143⟩ : ∃ z, z = h142.size := ⟨_, rfl⟩
  rw [← g143] at A143 D143 st143
  have ne_b106_b143 : b106 ≠ b143 := Nat.ne_of_lt (Nat.lt_of_lt_of_le V_b106.lt (Nat.le_of_eq g143.symm))
  have ne_b138_b143 : b138 ≠ b143 := Nat.ne_of_lt (Nat.lt_of_lt_of_le V_b138.lt (Nat.le_of_eq g143.symm))
  have g_b143 : n0 ≤ b143 := Nat.le_trans Z_ (Nat.le_of_eq g143.symm)
  have sf_b143 : Safe Z own_EL vm1 h142 b143 := Safe.new (Nat.le_of_eq g143.symm)
  have V_b106 := V_b106.ext E143
  have E_b106 := E_b106.ext E143
  have V_b138 := V_b138.ext E143
  have E_b138 := E_b138.ext E143
  have O_ := O_.ext E143
  have sf_b106 := Safe.ext E143 CR.1 sf_b106
  have sf_b138 := Safe.ext E143 CR.1 sf_b138
  have sf_b143 := Safe.ext E143 CR.1 sf_b143
  have CR := CR.trans (CHr.ext E143 CR.1)
  have hk_ := Nat.le_trans hk_ E143.1
  have Z_ : n0 ≤ h143.size := Nat.le_trans Z_ E143.1
  have E_b143 := A143
  have F_value_b143 : Fld Z h143 b143 "java/lang/String" "value" "[B" .null := D143 (Or.inr (W_ hw 10 rfl)) (ty := (.array .byte)) (by decide)
  have F_coder_b143 : Fld Z h143 b143 "java/lang/String" "coder" "B" (.int (0 : Int32)) := D143 (Or.inr (W_ hw 11 rfl)) (ty := .byte) (by decide)
  refine .st st143 ?_
  show OwnGoW p e below s Z own_EL _ _ _ T143 (mkF m 407 _ [(.ref b143)])
  refine .dup X143 hx (hb hby at_407) rfl ?_
  refine .aload X143 hx (hb hby at_408) rfl rfl ?_
  have hp144 : ∀ c ∈ ([ch107, ch109] : List Int32), ¬ c < 0 ∧ ¬ (255 : Int32) < c := by
    intro c hc
    simp only [List.mem_cons, List.not_mem_nil, or_false] at hc
    rcases hc with rfl | rfl
    · exact hp_ch107
    · exact hp_ch109
  obtain ⟨_, _, ⟨T145, L145, k145, n145⟩, -, X145, ⟨Lc145, hQ145, l145, y145, z145⟩, st145⟩ := X143.specialBack hx (y := (⟨"java/lang/String", "<init>", "([C)V"⟩ : MethodName)) rfl hown (mvT hZ (W_ hw 40 rfl)) (mvT hZ (W_ hw 41 rfl)) (mvT hZ (W_ hw 42 rfl)) (by decide) (StrChars.Road.backV (W := 1) hZ (own_ws hw) (kI := 4) (W_ hw 8 rfl) (cs := ([ch107, ch109] : List Int32)) (bs := ([ch107, ch109] : List Int32).map (fun c => c.toInt8.toInt32)) (n := 2) g_b143 Z_ E_b143 F_value_b143 F_coder_b143 V_b138 (S_CS.ext O_.2) P_CS rfl rfl (by decide) (by decide) hp144 rfl (by decide) (by decide)) (g := (mkF m 410 #[.val (.int p1), .val (.long p2), .second, .val (.long p3), .second, .val (.int (2 : Int32)), .val (.int lt), .val (.int mo), .val (.int kk), .val (.int bi), .val (.ref b106), .val (.ref b138), .unset, .unset, .unset] [(.ref b138), (.ref b143), (.ref b143)])) rfl (by rw [hml]; rfl) (Steps.refl _) (a := b143) (argsL := [(.ref b138)]) (rest := [(.ref b143)]) (lenOf pd_9 rfl) rfl (Nat.le_of_eq rfl) (hb hby at_410) (fun _ _ => ⟨rfl, e143, (by decide : 23 + 1 ≤ _), (by decide : 416 + 2 ≤ _)⟩)
  dsimp only [Pt.U, Pt.locs, Pt.cells, Pt.slots] at X145 l145 y145 z145 st145 hQ145
  subst l145 y145 z145
  obtain ⟨rfl, N145q, K145, Ex145, Fc_b143, t145, kb145, gt145, zz145, nt145, Fv_b143, V145⟩ := hQ145
  have N145 := Fr.app N142 N145q
  have zt145 : h143.size ≤ t145 := zz145
  have ne_b106_t145 : b106 ≠ t145 := Nat.ne_of_lt (Nat.lt_of_lt_of_le V_b106.lt zt145)
  have ne_b138_t145 : b138 ≠ t145 := Nat.ne_of_lt (Nat.lt_of_lt_of_le V_b138.lt zt145)
  have ne_b143_t145 : b143 ≠ t145 := Nat.ne_of_lt (Nat.lt_of_lt_of_le E_b143.lt zt145)
  have g_t145 : n0 ≤ t145 := Nat.le_trans Z_ zt145
  have V145 : Arv Z T145.heap t145 kb145 .byte (2 : Int32) [(.int ch107.toInt8.toInt32), (.int ch109.toInt8.toInt32)] (.int (0 : Int32)) := V145
  have Z_ : n0 ≤ T145.heap.size := Nat.le_trans Z_ K145.1
  have V_b106 := V_b106.keep K145 (ninS ne_b106_b143 nin0)
  have E_b106 := E_b106.keep K145
  have V_b138 := V_b138.keep K145 (ninS ne_b138_b143 nin0)
  have E_b138 := E_b138.keep K145
  have E_b143 := E_b143.keep K145
  have O_ := O_.keep K145 (allS g_b143 all0)
  have sf_b106' := Safe.keep K145 (sfS sf_b143 sf0) CR.1 sf_b106
  have sf_b138' := Safe.keep K145 (sfS sf_b143 sf0) CR.1 sf_b138
  have sf_b143' := Safe.keep K145 (sfS sf_b143 sf0) CR.1 sf_b143
  have CR := CR.trans (CHr.keep K145 (sfS sf_b143 sf0) CR.1)
  have hk_ := Nat.le_trans hk_ K145.1
  have sf_b106 := sf_b106'
  have sf_b138 := sf_b138'
  have sf_b143 := sf_b143'
  refine .st (fun _ => st145.trans) ?_
  show OwnGoW p e below s Z own_EL _ _ _ T145 (mkF m 413 _ [(.ref b143)])
  refine .astore X145 hx (hb hby at_413) rfl (L' := #[.val (.int p1), .val (.long p2), .second, .val (.long p3), .second, .val (.int (2 : Int32)), .val (.int lt), .val (.int mo), .val (.int kk), .val (.int bi), .val (.ref b106), .val (.ref b138), .val (.ref b143), .unset, .unset]) rfl ?_
  refine .iload X145 hx (hb hby at_415) rfl ?_
  refine .bipush X145 hx (hb hby at_417) own_kb9 ?_
  refine .icmpYes (pc := 419) X145 hx 510 (hb hby at_419) (feq ((by decide) : ¬ ((2 : Int32) = (9 : Int32)))).2 (by decide) (by decide) ?_
  refine .iconst X145 hx (hb hby at_510) own_ki0 ?_
  refine .istore X145 hx (hb hby at_511) (L' := #[.val (.int p1), .val (.long p2), .second, .val (.long p3), .second, .val (.int (2 : Int32)), .val (.int lt), .val (.int mo), .val (.int kk), .val (.int bi), .val (.ref b106), .val (.ref b138), .val (.ref b143), .val (.int (0 : Int32)), .unset]) rfl ?_
  refine .iload X145 hx (hb hby at_513) rfl ?_
  refine .iconst X145 hx (hb hby at_515) own_ki2 ?_
  refine .icmpNo X145 hx (hb hby at_516) (teq ((by decide) : (2 : Int32) = (2 : Int32))).2 ?_
  refine .aload X145 hx (hb hby at_519) rfl rfl ?_
  refine .iconst X145 hx (hb hby at_521) own_ki0 ?_
  obtain ⟨cl146, Ar146, -, S146, -, H146, -⟩ := id V_b106
  have hin146 : ¬ ((0 : Int32) < 0 ∨ cl146.slots.size ≤ ((0 : Int32)).toNatClampNeg) := inb_of S146 ⟨by decide, by decide⟩
  refine .st (fun _ => X145.caload hx (j := (0 : Int32)) (v := (.int ch107)) (by first | exact Ar146.1 | (rw [rfl]; exact Ar146.1)) (State.isArrayOf_alike hZ.alike Ar146.2.1) Ar146.2.2 hin146 (H146.at hin146 rfl) (g := (mkF m 522 #[.val (.int p1), .val (.long p2), .second, .val (.long p3), .second, .val (.int (2 : Int32)), .val (.int lt), .val (.int mo), .val (.int kk), .val (.int bi), .val (.ref b106), .val (.ref b138), .val (.ref b143), .val (.int (0 : Int32)), .unset] [(.int (0 : Int32)), (.ref b106)])) rfl rfl (hb hby at_522) _) ?_
  show OwnGoW p e below s Z own_EL _ _ _ T145 (mkF m 523 _ [(.int ch107)])
  refine .bipush X145 hx (hb hby at_523) own_kb45 ?_
  refine OwnGoW.join (T1 := T145) (P := fun z_ : Int32 => (z_ = (1 : Int32) ∧ (ch107.toInt8.toInt32 = (45 : Int32) ∧ ch109.toInt8.toInt32 = (118 : Int32))) ∨ (z_ = (0 : Int32) ∧ ¬ (ch107.toInt8.toInt32 = (45 : Int32) ∧ ch109.toInt8.toInt32 = (118 : Int32)))) (f := fun z_ : Int32 => mkF m 542 #[.val (.int p1), .val (.long p2), .second, .val (.long p3), .second, .val (.int (2 : Int32)), .val (.int lt), .val (.int mo), .val (.int kk), .val (.int bi), .val (.ref b106), .val (.ref b138), .val (.ref b143), .val (.int (0 : Int32)), .unset] [(.int z_)]) ?_ ?_
  · intro z_ hu
    obtain ⟨uu, hz_⟩ : ∃ u : Int32, u = z_ := ⟨_, rfl⟩
    subst hz_
    replace hu : (uu = (1 : Int32) ∧ (ch107.toInt8.toInt32 = (45 : Int32) ∧ ch109.toInt8.toInt32 = (118 : Int32))) ∨ (uu = (0 : Int32) ∧ ¬ (ch107.toInt8.toInt32 = (45 : Int32) ∧ ch109.toInt8.toInt32 = (118 : Int32))) := hu
    show OwnGoW p e below s Z own_EL _ _ _ T145 (mkF m 542 #[.val (.int p1), .val (.long p2), .second, .val (.long p3), .second, .val (.int (2 : Int32)), .val (.int lt), .val (.int mo), .val (.int kk), .val (.int bi), .val (.ref b106), .val (.ref b138), .val (.ref b143), .val (.int (0 : Int32)), .unset] [(.int uu)])
    refine .istore X145 hx (hb hby at_542) (L' := #[.val (.int p1), .val (.long p2), .second, .val (.long p3), .second, .val (.int (2 : Int32)), .val (.int lt), .val (.int mo), .val (.int kk), .val (.int bi), .val (.ref b106), .val (.ref b138), .val (.ref b143), .val (.int (0 : Int32)), .val (.int uu)]) rfl ?_
    refine .aload X145 hx (hb hby at_544) rfl rfl ?_
    obtain ⟨_, _, ⟨T149, L149, k149, n149⟩, -, X149, hS149, hg149, ⟨Lc149, hQ149, l149, y149, z149, CN149⟩, st149⟩ := callSS (s := s.setVm vm1) X145 hx (y := (⟨"com/example/mapweft/mapweft/Options", "isVerbose", "(Ljava/lang/String;)Z"⟩ : MethodName)) hown (mvT hZ (W_ hw 51 rfl)) (mvT hZ (W_ hw 52 rfl)) (mvT hZ (W_ hw 53 rfl)) (mvT hZ (W_ hw 54 rfl)) (by decide) (backOfSH (s := s) (vm0 := vm1) (W := 0) (rmisV2 l Z a0 hw [] b143 t145 kb145 ch107.toInt8.toInt32 ch109.toInt8.toInt32 zc T145.heap n0 Z_ O_ S_CS P_CS E_b143 Fc_b143 Fv_b143 V145) hZ (W_ hw 54 rfl) (W_ hw 53 rfl) (by decide) (by decide) (own_hEL hw) CR.1) (g := (mkF m 546 #[.val (.int p1), .val (.long p2), .second, .val (.long p3), .second, .val (.int (2 : Int32)), .val (.int lt), .val (.int mo), .val (.int kk), .val (.int bi), .val (.ref b106), .val (.ref b138), .val (.ref b143), .val (.int (0 : Int32)), .val (.int uu)] [(.ref b143)])) rfl (by rw [hml]; rfl) (argsL := [(.ref b143)]) (rest := []) (lenOf pd_10 rfl) rfl (Nat.le_of_eq rfl) (hb hby at_546) (fun _ _ => ⟨rfl, rfl, (by decide : 24 + 4 ≤ _), (by decide : 418 + 52 ≤ _)⟩)
    dsimp only [Pt.U, Pt.locs, Pt.cells, Pt.slots] at X149 hS149 hg149 l149 y149 z149 CN149 st149 hQ149
    subst l149 y149 z149
    obtain ⟨X149, hS_, hZ, hown⟩ := rebS hS_ (show _ ≤ T145.heap.size by rw [(rfl : T145.heap = T145.heap)]; exact hk_) X149 hS149 hg149 hZ hown
    obtain ⟨r149, rfl, N149q, K149, hr149⟩ := hQ149
    have N149 := Fr.app N145 N149q
    have lt_b106 : b106 < T145.heap.size := V_b106.lt
    have lt_b138 : b138 < T145.heap.size := V_b138.lt
    have lt_b143 : b143 < T145.heap.size := E_b143.lt
    have Z_ : n0 ≤ T149.heap.size := Nat.le_trans Z_ K149.1
    have V_b106 := V_b106.keep K149 nin0
    have E_b106 := E_b106.keep K149
    have V_b138 := V_b138.keep K149 nin0
    have E_b138 := E_b138.keep K149
    have E_b143 := E_b143.keep K149
    have Fc_b143 := Fc_b143.keep K149 nin0
    have Fv_b143 := Fv_b143.keep K149 nin0
    have V145 := V145.keep K149 nin0
    have O_ := O_.keep K149 all0
    have sf_b106 := CN149.safe lt_b106 sf_b106
    have sf_b138 := CN149.safe lt_b138 sf_b138
    have sf_b143 := CN149.safe lt_b143 sf_b143
    have CR := CR.trans CN149
    have hk_ := Nat.le_refl T149.heap.size
    refine .st (fun _ => st149.trans) ?_
    show OwnGoW p e below s Z own_EL _ _ _ T149 (mkF m 549 _ [(.int r149)])
    rcases hu with ⟨rfl, hu⟩ | ⟨rfl, hu⟩
    · rcases hr149 with ⟨rfl, hr⟩ | ⟨rfl, hr⟩
      · show OwnGoW p e below s Z own_EL _ _ _ T149 (mkF m 549 #[.val (.int p1), .val (.long p2), .second, .val (.long p3), .second, .val (.int (2 : Int32)), .val (.int lt), .val (.int mo), .val (.int kk), .val (.int bi), .val (.ref b106), .val (.ref b138), .val (.ref b143), .val (.int (0 : Int32)), .val (.int (1 : Int32))] [(.int (1 : Int32))])
        refine .iload X149 hx (hb hby at_549) rfl ?_
        refine .ifNo X149 hx (hb hby at_551) ((if0 _ _).trans (teq ((by decide) : (0 : Int32) = (0 : Int32))).2) ?_
        refine .iload X149 hx (hb hby at_554) rfl ?_
        refine .ifNo X149 hx (hb hby at_556) ((if0 _ _).trans (feq ((by decide) : ¬ ((1 : Int32) = (0 : Int32)))).1) ?_
        refine .iconst X149 hx (hb hby at_559) own_ki1 ?_
        refine .goto (pc := 560) X149 hx 564 (hb hby at_560) (by decide) (by decide) ?_
        refine .icmpNo X149 hx (hb hby at_564) (teq ((by decide) : (1 : Int32) = (1 : Int32))).2 ?_
        refine .iconst X149 hx (hb hby at_567) own_ki1 ?_
        refine .goto (pc := 568) X149 hx 572 (hb hby at_568) (by decide) (by decide) ?_
        exact OwnGoW.retN (s := s) (vm0 := T149.vm) X149 hS_ hk_ rfl hZ (own_hEL hw) CR hx (t := .boolean) hret hlk (by simp) (hb hby at_572) (by show Q0 Z p1 p2 p3 zc fmv h0 n0 _ T149.heap _; exact ⟨rfl, N149⟩) (by decide) (by decide)
      · exact absurd hu hr
    · rcases hr149 with ⟨rfl, hr⟩ | ⟨rfl, hr⟩
      · exact absurd hr hu
      · show OwnGoW p e below s Z own_EL _ _ _ T149 (mkF m 549 #[.val (.int p1), .val (.long p2), .second, .val (.long p3), .second, .val (.int (2 : Int32)), .val (.int lt), .val (.int mo), .val (.int kk), .val (.int bi), .val (.ref b106), .val (.ref b138), .val (.ref b143), .val (.int (0 : Int32)), .val (.int (0 : Int32))] [(.int (0 : Int32))])
        refine .iload X149 hx (hb hby at_549) rfl ?_
        refine .ifNo X149 hx (hb hby at_551) ((if0 _ _).trans (teq ((by decide) : (0 : Int32) = (0 : Int32))).2) ?_
        refine .iload X149 hx (hb hby at_554) rfl ?_
        refine .ifYes (pc := 556) X149 hx 563 (hb hby at_556) ((if0 _ _).trans (teq ((by decide) : (0 : Int32) = (0 : Int32))).1) (by decide) (by decide) ?_
        refine .iconst X149 hx (hb hby at_563) own_ki0 ?_
        refine .icmpNo X149 hx (hb hby at_564) (teq ((by decide) : (0 : Int32) = (0 : Int32))).2 ?_
        refine .iconst X149 hx (hb hby at_567) own_ki1 ?_
        refine .goto (pc := 568) X149 hx 572 (hb hby at_568) (by decide) (by decide) ?_
        exact OwnGoW.retN (s := s) (vm0 := T149.vm) X149 hS_ hk_ rfl hZ (own_hEL hw) CR hx (t := .boolean) hret hlk (by simp) (hb hby at_572) (by show Q0 Z p1 p2 p3 zc fmv h0 n0 _ T149.heap _; exact ⟨rfl, N149⟩) (by decide) (by decide)
  · intro key147
    by_cases q0 : ch107 = (45 : Int32)
    · refine .icmpNo X145 hx (hb hby at_525) (teq (q0 : ch107 = (45 : Int32))).2 ?_
      refine .aload X145 hx (hb hby at_528) rfl rfl ?_
      refine .iconst X145 hx (hb hby at_530) own_ki1 ?_
      obtain ⟨cl148, Ar148, -, S148, -, H148, -⟩ := id V_b106
      have hin148 : ¬ ((1 : Int32) < 0 ∨ cl148.slots.size ≤ ((1 : Int32)).toNatClampNeg) := inb_of S148 ⟨by decide, by decide⟩
      refine .st (fun _ => X145.caload hx (j := (1 : Int32)) (v := (.int ch109)) (by first | exact Ar148.1 | (rw [rfl]; exact Ar148.1)) (State.isArrayOf_alike hZ.alike Ar148.2.1) Ar148.2.2 hin148 (H148.at hin148 rfl) (g := (mkF m 531 #[.val (.int p1), .val (.long p2), .second, .val (.long p3), .second, .val (.int (2 : Int32)), .val (.int lt), .val (.int mo), .val (.int kk), .val (.int bi), .val (.ref b106), .val (.ref b138), .val (.ref b143), .val (.int (0 : Int32)), .unset] [(.int (1 : Int32)), (.ref b106)])) rfl rfl (hb hby at_531) _) ?_
      show OwnGoW p e below s Z own_EL _ _ _ T145 (mkF m 532 _ [(.int ch109)])
      refine .bipush X145 hx (hb hby at_532) own_kb118 ?_
      by_cases q1 : ch109 = (118 : Int32)
      · refine .icmpNo X145 hx (hb hby at_534) (teq (q1 : ch109 = (118 : Int32))).2 ?_
        refine .iconst X145 hx (hb hby at_537) own_ki1 ?_
        refine .goto (pc := 538) X145 hx 542 (hb hby at_538) (by decide) (by decide) ?_
        exact key147 _ (Or.inl ⟨rfl, (own_lb45 hp_ch107).2 q0, (own_lb118 hp_ch109).2 q1⟩)
      · refine .icmpYes (pc := 534) X145 hx 541 (hb hby at_534) (feq (q1 : ¬ (ch109 = (118 : Int32)))).2 (by decide) (by decide) ?_
        refine .iconst X145 hx (hb hby at_541) own_ki0 ?_
        exact key147 _ (Or.inr ⟨rfl, fun z => q1 ((own_lb118 hp_ch109).1 z.2)⟩)
    · refine .icmpYes (pc := 525) X145 hx 541 (hb hby at_525) (feq (q0 : ¬ (ch107 = (45 : Int32)))).2 (by decide) (by decide) ?_
      refine .iconst X145 hx (hb hby at_541) own_ki0 ?_
      exact key147 _ (Or.inr ⟨rfl, fun z => q0 ((own_lb45 hp_ch107).1 z.1)⟩)
theorem sg3 {p : Program} {l : Launch} {e : Env} {s : State} {m : MethodId} {below : List Frame} {meth : Method} {c : Code} {Z : State} {a0 : Array Value} {T0 : State} {locs : List Loc} {vm1 : Vm} {k1 : Nat} {h1 : Heap} (p1 : Int32) (p2 : Int64) (p3 : Int64) (zc : Int32) (fmv : Value) (lt : Int32) (mo : Int32) (kk : Int32) (bi : Int32) (ch107 : Int32) (ch109 : Int32) (ch111 : Int32) (ch113 : Int32) (ch115 : Int32) (ch117 : Int32) (ch119 : Int32) (ch121 : Int32) (ch123 : Int32) (ch125 : Int32) (b106 : Addr) (k106 : ClassId) (h0 : Heap) (n0 : Nat) (hw : ∀ d ∈ tables_1, d.before a0 Z = true)
    (X0 : Stand p l e room_1 (s.setVm vm1) m #[(.int p1), (.long p2), (.long p3)] below meth c T0 locs 21 410) (hx : p.tables.exec = Jvm.exec) (hby : c.code = code) (hml : c.maxLocals = 15) (hret : meth.sig.returnType = ret) (hlk : meth.locks = false) (hown : (s.setVm vm1).vm.findClass "com/example/mapweft/mapweft/OptionsIsVerbosePinLaw" = some m.cls) (hnm : meth.name = "law") (hZ : Z.Warmed39 (s.setVm vm1).vm) (e0 : T0.heap = h1) (N0 : Fr n0 locs) (Z_ : n0 ≤ h1.size) (hS_ : s.Since vm1 k1) (hk_ : k1 ≤ h1.size) (CR : CHr Z own_EL s.vm s.heap vm1 h1) (S_CS : Sta Z Z.heap "java/lang/String" "COMPACT_STRINGS" "Z" (.int zc)) (P_CS : ¬ zc = (0 : Int32)) (S_SF : Sta Z Z.heap "jdk/internal/util/Preconditions" "SIOOBE_FORMATTER" "Ljava/util/function/BiFunction;" fmv) (rf_fmv : fmv.isRef = true) (V_b106 : Arv Z h1 b106 k106 .char (10 : Int32) [(.int ch107), (.int ch109), (.int ch111), (.int ch113), (.int ch115), (.int ch117), (.int ch119), (.int ch121), (.int ch123), (.int ch125)] (.int (0 : Int32))) (E_b106 : Exa Z h1 b106 "[C") (sf_b106 : Safe Z own_EL vm1 h1 b106) (O_ : Old Z n0 h1) (g_b106 : n0 ≤ b106) (hp_ch107 : ¬ ch107 < 0 ∧ ¬ (255 : Int32) < ch107) (hp_ch109 : ¬ ch109 < 0 ∧ ¬ (255 : Int32) < ch109) (hp_ch111 : ¬ ch111 < 0 ∧ ¬ (255 : Int32) < ch111) (hp_ch113 : ¬ ch113 < 0 ∧ ¬ (255 : Int32) < ch113) (hp_ch115 : ¬ ch115 < 0 ∧ ¬ (255 : Int32) < ch115) (hp_ch117 : ¬ ch117 < 0 ∧ ¬ (255 : Int32) < ch117) (hp_ch119 : ¬ ch119 < 0 ∧ ¬ (255 : Int32) < ch119) (hp_ch121 : ¬ ch121 < 0 ∧ ¬ (255 : Int32) < ch121) (hp_ch123 : ¬ ch123 < 0 ∧ ¬ (255 : Int32) < ch123) (hp_ch125 : ¬ ch125 < 0 ∧ ¬ (255 : Int32) < ch125) :
    OwnGoW p e below s Z own_EL room_1.cells room_1.slots (Q0 Z p1 p2 p3 zc fmv h0 n0) T0 (mkF m 247 #[.val (.int p1), .val (.long p2), .second, .val (.long p3), .second, .val (.int (3 : Int32)), .val (.int lt), .val (.int mo), .val (.int kk), .val (.int bi), .val (.ref b106), .unset, .unset, .unset, .unset] []) := by
  show OwnGoW p e below s Z own_EL _ _ _ T0 (mkF m 247 _ [])
  refine .iload X0 hx (hb hby at_247) rfl ?_
  obtain ⟨T150, h150, k150, X150, e150, E150, A150, Ex150, st150⟩ := newPE X0 hx hZ (W_ hw 0 rfl) e0 (g := (mkF m 249 #[.val (.int p1), .val (.long p2), .second, .val (.long p3), .second, .val (.int (3 : Int32)), .val (.int lt), .val (.int mo), .val (.int kk), .val (.int bi), .val (.ref b106), .unset, .unset, .unset, .unset] [(.int (3 : Int32))])) rfl (hb hby at_249) rfl (by decide) (cap := 3) (by decide) (by decide) (by decide) (by decide) (ad := "[C") (by decide)
  obtain ⟨b150, g150⟩ : ∃ z, z = h1.size := ⟨_, rfl⟩
  rw [← g150] at A150 Ex150 st150
  have ne_b106_b150 : b106 ≠ b150 := Nat.ne_of_lt (Nat.lt_of_lt_of_le V_b106.lt (Nat.le_of_eq g150.symm))
  have g_b150 : n0 ≤ b150 := Nat.le_trans Z_ (Nat.le_of_eq g150.symm)
  have sf_b150 : Safe Z own_EL vm1 h1 b150 := Safe.new (Nat.le_of_eq g150.symm)
  have V_b106 := V_b106.ext E150
  have E_b106 := E_b106.ext E150
  have O_ := O_.ext E150
  have sf_b106 := Safe.ext E150 CR.1 sf_b106
  have sf_b150 := Safe.ext E150 CR.1 sf_b150
  have CR := CR.trans (CHr.ext E150 CR.1)
  have hk_ := Nat.le_trans hk_ E150.1
  have Z_ : n0 ≤ h150.size := Nat.le_trans Z_ E150.1
  have V_b150 : Arv Z h150 b150 k150 .char (3 : Int32) [(.int (0 : Int32)), (.int (0 : Int32)), (.int (0 : Int32))] (.int (0 : Int32)) := (Arv.new A150 (by decide)).pad (pad_rep [] (.int (0 : Int32)) 3)
  have E_b150 := Ex150
  refine .st st150 ?_
  show OwnGoW p e below s Z own_EL _ _ _ T150 (mkF m 251 _ [(.ref b150)])
  refine .astore X150 hx (hb hby at_251) rfl (L' := #[.val (.int p1), .val (.long p2), .second, .val (.long p3), .second, .val (.int (3 : Int32)), .val (.int lt), .val (.int mo), .val (.int kk), .val (.int bi), .val (.ref b106), .val (.ref b150), .unset, .unset, .unset]) rfl ?_
  refine .iload X150 hx (hb hby at_253) rfl ?_
  refine .ifNo X150 hx (hb hby at_255) ((if0 _ _).trans (tlt ((by decide) : (0 : Int32) < (3 : Int32))).2.2.2) ?_
  refine .aload X150 hx (hb hby at_258) rfl rfl ?_
  refine .iconst X150 hx (hb hby at_260) own_ki0 ?_
  refine .aload X150 hx (hb hby at_261) rfl rfl ?_
  refine .iconst X150 hx (hb hby at_263) own_ki0 ?_
  obtain ⟨cl151, Ar151, -, S151, -, H151, -⟩ := id V_b106
  have hin151 : ¬ ((0 : Int32) < 0 ∨ cl151.slots.size ≤ ((0 : Int32)).toNatClampNeg) := inb_of S151 ⟨by decide, by decide⟩
  refine .st (fun _ => X150.caload hx (j := (0 : Int32)) (v := (.int ch107)) (by first | exact Ar151.1 | (rw [e150]; exact Ar151.1)) (State.isArrayOf_alike hZ.alike Ar151.2.1) Ar151.2.2 hin151 (H151.at hin151 rfl) (g := (mkF m 264 #[.val (.int p1), .val (.long p2), .second, .val (.long p3), .second, .val (.int (3 : Int32)), .val (.int lt), .val (.int mo), .val (.int kk), .val (.int bi), .val (.ref b106), .val (.ref b150), .unset, .unset, .unset] [(.int (0 : Int32)), (.ref b106), (.int (0 : Int32)), (.ref b150)])) rfl rfl (hb hby at_264) _) ?_
  show OwnGoW p e below s Z own_EL _ _ _ T150 (mkF m 265 _ [(.int ch107), (.int (0 : Int32)), (.ref b150)])
  obtain ⟨cl152, Ar152, q152, S152, N152, H152, G152⟩ := id V_b150
  have hin152 : ¬ ((0 : Int32) < 0 ∨ cl152.slots.size ≤ ((0 : Int32)).toNatClampNeg) := inb_of S152 ⟨by decide, by decide⟩
  obtain ⟨T152, h152, X152, e152, W152, st152⟩ := stC X150 hx hZ e150 Ar152 (j := (0 : Int32)) hin152 (g := (mkF m 265 #[.val (.int p1), .val (.long p2), .second, .val (.long p3), .second, .val (.int (3 : Int32)), .val (.int lt), .val (.int mo), .val (.int kk), .val (.int bi), .val (.ref b106), .val (.ref b150), .unset, .unset, .unset] [(.int ch107), (.int (0 : Int32)), (.ref b150)])) rfl rfl (hb hby at_265)
  have V_b150 : Arv Z h152 b150 k150 .char (3 : Int32) [(.int (nar .char ch107)), (.int (0 : Int32)), (.int (0 : Int32))] (.int (0 : Int32)) := Arv.set Ar152 q152 S152 N152 H152 G152 (fits_nar_char _) W152 0 rfl (Nat.le_of_ble_eq_true rfl)
  rw [show nar .char ch107 = ch107 from (own_lnc hp_ch107)] at V_b150
  have V_b106 := V_b106.other W152 ne_b106_b150
  have E_b106 := E_b106.wr W152
  have E_b150 := E_b150.wr W152
  have O_ := O_.wr W152 g_b150
  have sf_ := sf_b150
  have CR0 := CR.1
  have CR := CR.trans (CHr.wr W152 sf_ CR.1)
  have sf_b106 := Safe.wr W152 sf_ CR0 sf_b106
  have sf_b150 := Safe.wr W152 sf_ CR0 sf_b150
  have hk_ := Nat.le_trans hk_ (Nat.le_of_eq W152.size.symm)
  have N152 := Fr.snoc X152 N0 g_b150
  have Z_ : n0 ≤ h152.size := by rw [W152.size]; exact Z_
  refine .st st152 ?_
  show OwnGoW p e below s Z own_EL _ _ _ T152 (mkF m 266 _ [])
  refine .iload X152 hx (hb hby at_266) rfl ?_
  refine .iconst X152 hx (hb hby at_268) own_ki1 ?_
  refine .icmpNo X152 hx (hb hby at_269) (tlt ((by decide) : (1 : Int32) < (3 : Int32))).2.2.2 ?_
  refine .aload X152 hx (hb hby at_272) rfl rfl ?_
  refine .iconst X152 hx (hb hby at_274) own_ki1 ?_
  refine .aload X152 hx (hb hby at_275) rfl rfl ?_
  refine .iconst X152 hx (hb hby at_277) own_ki1 ?_
  obtain ⟨cl153, Ar153, -, S153, -, H153, -⟩ := id V_b106
  have hin153 : ¬ ((1 : Int32) < 0 ∨ cl153.slots.size ≤ ((1 : Int32)).toNatClampNeg) := inb_of S153 ⟨by decide, by decide⟩
  refine .st (fun _ => X152.caload hx (j := (1 : Int32)) (v := (.int ch109)) (by first | exact Ar153.1 | (rw [e152]; exact Ar153.1)) (State.isArrayOf_alike hZ.alike Ar153.2.1) Ar153.2.2 hin153 (H153.at hin153 rfl) (g := (mkF m 278 #[.val (.int p1), .val (.long p2), .second, .val (.long p3), .second, .val (.int (3 : Int32)), .val (.int lt), .val (.int mo), .val (.int kk), .val (.int bi), .val (.ref b106), .val (.ref b150), .unset, .unset, .unset] [(.int (1 : Int32)), (.ref b106), (.int (1 : Int32)), (.ref b150)])) rfl rfl (hb hby at_278) _) ?_
  show OwnGoW p e below s Z own_EL _ _ _ T152 (mkF m 279 _ [(.int ch109), (.int (1 : Int32)), (.ref b150)])
  obtain ⟨cl154, Ar154, q154, S154, N154, H154, G154⟩ := id V_b150
  have hin154 : ¬ ((1 : Int32) < 0 ∨ cl154.slots.size ≤ ((1 : Int32)).toNatClampNeg) := inb_of S154 ⟨by decide, by decide⟩
  obtain ⟨T154, h154, X154, e154, W154, st154⟩ := stC X152 hx hZ e152 Ar154 (j := (1 : Int32)) hin154 (g := (mkF m 279 #[.val (.int p1), .val (.long p2), .second, .val (.long p3), .second, .val (.int (3 : Int32)), .val (.int lt), .val (.int mo), .val (.int kk), .val (.int bi), .val (.ref b106), .val (.ref b150), .unset, .unset, .unset] [(.int ch109), (.int (1 : Int32)), (.ref b150)])) rfl rfl (hb hby at_279)
  have V_b150 : Arv Z h154 b150 k150 .char (3 : Int32) [(.int ch107), (.int (nar .char ch109)), (.int (0 : Int32))] (.int (0 : Int32)) := Arv.set Ar154 q154 S154 N154 H154 G154 (fits_nar_char _) W154 1 rfl (Nat.le_of_ble_eq_true rfl)
  rw [show nar .char ch109 = ch109 from (own_lnc hp_ch109)] at V_b150
  have V_b106 := V_b106.other W154 ne_b106_b150
  have E_b106 := E_b106.wr W154
  have E_b150 := E_b150.wr W154
  have O_ := O_.wr W154 g_b150
  have sf_ := sf_b150
  have CR0 := CR.1
  have CR := CR.trans (CHr.wr W154 sf_ CR.1)
  have sf_b106 := Safe.wr W154 sf_ CR0 sf_b106
  have sf_b150 := Safe.wr W154 sf_ CR0 sf_b150
  have hk_ := Nat.le_trans hk_ (Nat.le_of_eq W154.size.symm)
  have N154 := Fr.snoc X154 N152 g_b150
  have Z_ : n0 ≤ h154.size := by rw [W154.size]; exact Z_
  refine .st st154 ?_
  show OwnGoW p e below s Z own_EL _ _ _ T154 (mkF m 280 _ [])
  refine .iload X154 hx (hb hby at_280) rfl ?_
  refine .iconst X154 hx (hb hby at_282) own_ki2 ?_
  refine .icmpNo X154 hx (hb hby at_283) (tlt ((by decide) : (2 : Int32) < (3 : Int32))).2.2.2 ?_
  refine .aload X154 hx (hb hby at_286) rfl rfl ?_
  refine .iconst X154 hx (hb hby at_288) own_ki2 ?_
  refine .aload X154 hx (hb hby at_289) rfl rfl ?_
  refine .iconst X154 hx (hb hby at_291) own_ki2 ?_
  obtain ⟨cl155, Ar155, -, S155, -, H155, -⟩ := id V_b106
  have hin155 : ¬ ((2 : Int32) < 0 ∨ cl155.slots.size ≤ ((2 : Int32)).toNatClampNeg) := inb_of S155 ⟨by decide, by decide⟩
  refine .st (fun _ => X154.caload hx (j := (2 : Int32)) (v := (.int ch111)) (by first | exact Ar155.1 | (rw [e154]; exact Ar155.1)) (State.isArrayOf_alike hZ.alike Ar155.2.1) Ar155.2.2 hin155 (H155.at hin155 rfl) (g := (mkF m 292 #[.val (.int p1), .val (.long p2), .second, .val (.long p3), .second, .val (.int (3 : Int32)), .val (.int lt), .val (.int mo), .val (.int kk), .val (.int bi), .val (.ref b106), .val (.ref b150), .unset, .unset, .unset] [(.int (2 : Int32)), (.ref b106), (.int (2 : Int32)), (.ref b150)])) rfl rfl (hb hby at_292) _) ?_
  show OwnGoW p e below s Z own_EL _ _ _ T154 (mkF m 293 _ [(.int ch111), (.int (2 : Int32)), (.ref b150)])
  obtain ⟨cl156, Ar156, q156, S156, N156, H156, G156⟩ := id V_b150
  have hin156 : ¬ ((2 : Int32) < 0 ∨ cl156.slots.size ≤ ((2 : Int32)).toNatClampNeg) := inb_of S156 ⟨by decide, by decide⟩
  obtain ⟨T156, h156, X156, e156, W156, st156⟩ := stC X154 hx hZ e154 Ar156 (j := (2 : Int32)) hin156 (g := (mkF m 293 #[.val (.int p1), .val (.long p2), .second, .val (.long p3), .second, .val (.int (3 : Int32)), .val (.int lt), .val (.int mo), .val (.int kk), .val (.int bi), .val (.ref b106), .val (.ref b150), .unset, .unset, .unset] [(.int ch111), (.int (2 : Int32)), (.ref b150)])) rfl rfl (hb hby at_293)
  have V_b150 : Arv Z h156 b150 k150 .char (3 : Int32) [(.int ch107), (.int ch109), (.int (nar .char ch111))] (.int (0 : Int32)) := Arv.set Ar156 q156 S156 N156 H156 G156 (fits_nar_char _) W156 2 rfl (Nat.le_of_ble_eq_true rfl)
  rw [show nar .char ch111 = ch111 from (own_lnc hp_ch111)] at V_b150
  have V_b106 := V_b106.other W156 ne_b106_b150
  have E_b106 := E_b106.wr W156
  have E_b150 := E_b150.wr W156
  have O_ := O_.wr W156 g_b150
  have sf_ := sf_b150
  have CR0 := CR.1
  have CR := CR.trans (CHr.wr W156 sf_ CR.1)
  have sf_b106 := Safe.wr W156 sf_ CR0 sf_b106
  have sf_b150 := Safe.wr W156 sf_ CR0 sf_b150
  have hk_ := Nat.le_trans hk_ (Nat.le_of_eq W156.size.symm)
  have N156 := Fr.snoc X156 N154 g_b150
  have Z_ : n0 ≤ h156.size := by rw [W156.size]; exact Z_
  refine .st st156 ?_
  show OwnGoW p e below s Z own_EL _ _ _ T156 (mkF m 294 _ [])
  refine .iload X156 hx (hb hby at_294) rfl ?_
  refine .iconst X156 hx (hb hby at_296) own_ki3 ?_
  refine .icmpYes (pc := 297) X156 hx 308 (hb hby at_297) (flt ((by decide) : ¬ ((3 : Int32) < (3 : Int32)))).2.2.2 (by decide) (by decide) ?_
  refine .iload X156 hx (hb hby at_308) rfl ?_
  refine .iconst X156 hx (hb hby at_310) own_ki4 ?_
  refine .icmpYes (pc := 311) X156 hx 322 (hb hby at_311) (flt ((by decide) : ¬ ((4 : Int32) < (3 : Int32)))).2.2.2 (by decide) (by decide) ?_
  refine .iload X156 hx (hb hby at_322) rfl ?_
  refine .iconst X156 hx (hb hby at_324) own_ki5 ?_
  refine .icmpYes (pc := 325) X156 hx 336 (hb hby at_325) (flt ((by decide) : ¬ ((5 : Int32) < (3 : Int32)))).2.2.2 (by decide) (by decide) ?_
  refine .iload X156 hx (hb hby at_336) rfl ?_
  refine .bipush X156 hx (hb hby at_338) own_kb6 ?_
  refine .icmpYes (pc := 340) X156 hx 353 (hb hby at_340) (flt ((by decide) : ¬ ((6 : Int32) < (3 : Int32)))).2.2.2 (by decide) (by decide) ?_
  refine .iload X156 hx (hb hby at_353) rfl ?_
  refine .bipush X156 hx (hb hby at_355) own_kb7 ?_
  refine .icmpYes (pc := 357) X156 hx 370 (hb hby at_357) (flt ((by decide) : ¬ ((7 : Int32) < (3 : Int32)))).2.2.2 (by decide) (by decide) ?_
  refine .iload X156 hx (hb hby at_370) rfl ?_
  refine .bipush X156 hx (hb hby at_372) own_kb8 ?_
  refine .icmpYes (pc := 374) X156 hx 387 (hb hby at_374) (flt ((by decide) : ¬ ((8 : Int32) < (3 : Int32)))).2.2.2 (by decide) (by decide) ?_
  refine .iload X156 hx (hb hby at_387) rfl ?_
  refine .bipush X156 hx (hb hby at_389) own_kb9 ?_
  refine .icmpYes (pc := 391) X156 hx 404 (hb hby at_391) (flt ((by decide) : ¬ ((9 : Int32) < (3 : Int32)))).2.2.2 (by decide) (by decide) ?_
  obtain ⟨T157, h157, X157, e157, E157, A157, D157, -, st157⟩ := newO X156 hx hZ hown (W_ hw 39 rfl) (W_ hw 8 rfl) (W_ hw 7 rfl) e156 (g := (mkF m 404 #[.val (.int p1), .val (.long p2), .second, .val (.long p3), .second, .val (.int (3 : Int32)), .val (.int lt), .val (.int mo), .val (.int kk), .val (.int bi), .val (.ref b106), .val (.ref b150), .unset, .unset, .unset] [])) rfl (hb hby at_404) (by decide) (by decide)
  obtain ⟨b157, g157⟩ : ∃ z, z = h156.size := ⟨_, rfl⟩
  rw [← g157] at A157 D157 st157
  have ne_b106_b157 : b106 ≠ b157 := Nat.ne_of_lt (Nat.lt_of_lt_of_le V_b106.lt (Nat.le_of_eq g157.symm))
  have ne_b150_b157 : b150 ≠ b157 := Nat.ne_of_lt (Nat.lt_of_lt_of_le V_b150.lt (Nat.le_of_eq g157.symm))
  have g_b157 : n0 ≤ b157 := Nat.le_trans Z_ (Nat.le_of_eq g157.symm)
  have sf_b157 : Safe Z own_EL vm1 h156 b157 := Safe.new (Nat.le_of_eq g157.symm)
  have V_b106 := V_b106.ext E157
  have E_b106 := E_b106.ext E157
  have V_b150 := V_b150.ext E157
  have E_b150 := E_b150.ext E157
  have O_ := O_.ext E157
  have sf_b106 := Safe.ext E157 CR.1 sf_b106
  have sf_b150 := Safe.ext E157 CR.1 sf_b150
  have sf_b157 := Safe.ext E157 CR.1 sf_b157
  have CR := CR.trans (CHr.ext E157 CR.1)
  have hk_ := Nat.le_trans hk_ E157.1
  have Z_ : n0 ≤ h157.size := Nat.le_trans Z_ E157.1
  have E_b157 := A157
  have F_value_b157 : Fld Z h157 b157 "java/lang/String" "value" "[B" .null := D157 (Or.inr (W_ hw 10 rfl)) (ty := (.array .byte)) (by decide)
  have F_coder_b157 : Fld Z h157 b157 "java/lang/String" "coder" "B" (.int (0 : Int32)) := D157 (Or.inr (W_ hw 11 rfl)) (ty := .byte) (by decide)
  refine .st st157 ?_
  show OwnGoW p e below s Z own_EL _ _ _ T157 (mkF m 407 _ [(.ref b157)])
  refine .dup X157 hx (hb hby at_407) rfl ?_
  refine .aload X157 hx (hb hby at_408) rfl rfl ?_
  have hp158 : ∀ c ∈ ([ch107, ch109, ch111] : List Int32), ¬ c < 0 ∧ ¬ (255 : Int32) < c := by
    intro c hc
    simp only [List.mem_cons, List.not_mem_nil, or_false] at hc
    rcases hc with rfl | rfl | rfl
    · exact hp_ch107
    · exact hp_ch109
    · exact hp_ch111
  obtain ⟨_, _, ⟨T159, L159, k159, n159⟩, -, X159, ⟨Lc159, hQ159, l159, y159, z159⟩, st159⟩ := X157.specialBack hx (y := (⟨"java/lang/String", "<init>", "([C)V"⟩ : MethodName)) rfl hown (mvT hZ (W_ hw 40 rfl)) (mvT hZ (W_ hw 41 rfl)) (mvT hZ (W_ hw 42 rfl)) (by decide) (StrChars.Road.backV (W := 1) hZ (own_ws hw) (kI := 4) (W_ hw 8 rfl) (cs := ([ch107, ch109, ch111] : List Int32)) (bs := ([ch107, ch109, ch111] : List Int32).map (fun c => c.toInt8.toInt32)) (n := 3) g_b157 Z_ E_b157 F_value_b157 F_coder_b157 V_b150 (S_CS.ext O_.2) P_CS rfl rfl (by decide) (by decide) hp158 rfl (by decide) (by decide)) (g := (mkF m 410 #[.val (.int p1), .val (.long p2), .second, .val (.long p3), .second, .val (.int (3 : Int32)), .val (.int lt), .val (.int mo), .val (.int kk), .val (.int bi), .val (.ref b106), .val (.ref b150), .unset, .unset, .unset] [(.ref b150), (.ref b157), (.ref b157)])) rfl (by rw [hml]; rfl) (Steps.refl _) (a := b157) (argsL := [(.ref b150)]) (rest := [(.ref b157)]) (lenOf pd_9 rfl) rfl (Nat.le_of_eq rfl) (hb hby at_410) (fun _ _ => ⟨rfl, e157, (by decide : 23 + 1 ≤ _), (by decide : 417 + 3 ≤ _)⟩)
  dsimp only [Pt.U, Pt.locs, Pt.cells, Pt.slots] at X159 l159 y159 z159 st159 hQ159
  subst l159 y159 z159
  obtain ⟨rfl, N159q, K159, Ex159, Fc_b157, t159, kb159, gt159, zz159, nt159, Fv_b157, V159⟩ := hQ159
  have N159 := Fr.app N156 N159q
  have zt159 : h157.size ≤ t159 := zz159
  have ne_b106_t159 : b106 ≠ t159 := Nat.ne_of_lt (Nat.lt_of_lt_of_le V_b106.lt zt159)
  have ne_b150_t159 : b150 ≠ t159 := Nat.ne_of_lt (Nat.lt_of_lt_of_le V_b150.lt zt159)
  have ne_b157_t159 : b157 ≠ t159 := Nat.ne_of_lt (Nat.lt_of_lt_of_le E_b157.lt zt159)
  have g_t159 : n0 ≤ t159 := Nat.le_trans Z_ zt159
  have V159 : Arv Z T159.heap t159 kb159 .byte (3 : Int32) [(.int ch107.toInt8.toInt32), (.int ch109.toInt8.toInt32), (.int ch111.toInt8.toInt32)] (.int (0 : Int32)) := V159
  have Z_ : n0 ≤ T159.heap.size := Nat.le_trans Z_ K159.1
  have V_b106 := V_b106.keep K159 (ninS ne_b106_b157 nin0)
  have E_b106 := E_b106.keep K159
  have V_b150 := V_b150.keep K159 (ninS ne_b150_b157 nin0)
  have E_b150 := E_b150.keep K159
  have E_b157 := E_b157.keep K159
  have O_ := O_.keep K159 (allS g_b157 all0)
  have sf_b106' := Safe.keep K159 (sfS sf_b157 sf0) CR.1 sf_b106
  have sf_b150' := Safe.keep K159 (sfS sf_b157 sf0) CR.1 sf_b150
  have sf_b157' := Safe.keep K159 (sfS sf_b157 sf0) CR.1 sf_b157
  have CR := CR.trans (CHr.keep K159 (sfS sf_b157 sf0) CR.1)
  have hk_ := Nat.le_trans hk_ K159.1
  have sf_b106 := sf_b106'
  have sf_b150 := sf_b150'
  have sf_b157 := sf_b157'
  refine .st (fun _ => st159.trans) ?_
  show OwnGoW p e below s Z own_EL _ _ _ T159 (mkF m 413 _ [(.ref b157)])
  refine .astore X159 hx (hb hby at_413) rfl (L' := #[.val (.int p1), .val (.long p2), .second, .val (.long p3), .second, .val (.int (3 : Int32)), .val (.int lt), .val (.int mo), .val (.int kk), .val (.int bi), .val (.ref b106), .val (.ref b150), .val (.ref b157), .unset, .unset]) rfl ?_
  refine .iload X159 hx (hb hby at_415) rfl ?_
  refine .bipush X159 hx (hb hby at_417) own_kb9 ?_
  refine .icmpYes (pc := 419) X159 hx 510 (hb hby at_419) (feq ((by decide) : ¬ ((3 : Int32) = (9 : Int32)))).2 (by decide) (by decide) ?_
  refine .iconst X159 hx (hb hby at_510) own_ki0 ?_
  refine .istore X159 hx (hb hby at_511) (L' := #[.val (.int p1), .val (.long p2), .second, .val (.long p3), .second, .val (.int (3 : Int32)), .val (.int lt), .val (.int mo), .val (.int kk), .val (.int bi), .val (.ref b106), .val (.ref b150), .val (.ref b157), .val (.int (0 : Int32)), .unset]) rfl ?_
  refine .iload X159 hx (hb hby at_513) rfl ?_
  refine .iconst X159 hx (hb hby at_515) own_ki2 ?_
  refine .icmpYes (pc := 516) X159 hx 541 (hb hby at_516) (feq ((by decide) : ¬ ((3 : Int32) = (2 : Int32)))).2 (by decide) (by decide) ?_
  refine .iconst X159 hx (hb hby at_541) own_ki0 ?_
  refine .istore X159 hx (hb hby at_542) (L' := #[.val (.int p1), .val (.long p2), .second, .val (.long p3), .second, .val (.int (3 : Int32)), .val (.int lt), .val (.int mo), .val (.int kk), .val (.int bi), .val (.ref b106), .val (.ref b150), .val (.ref b157), .val (.int (0 : Int32)), .val (.int (0 : Int32))]) rfl ?_
  refine .aload X159 hx (hb hby at_544) rfl rfl ?_
  obtain ⟨_, _, ⟨T160, L160, k160, n160⟩, -, X160, hS160, hg160, ⟨Lc160, hQ160, l160, y160, z160, CN160⟩, st160⟩ := callSS (s := s.setVm vm1) X159 hx (y := (⟨"com/example/mapweft/mapweft/Options", "isVerbose", "(Ljava/lang/String;)Z"⟩ : MethodName)) hown (mvT hZ (W_ hw 51 rfl)) (mvT hZ (W_ hw 52 rfl)) (mvT hZ (W_ hw 53 rfl)) (mvT hZ (W_ hw 54 rfl)) (by decide) (backOfSH (s := s) (vm0 := vm1) (W := 0) (rmisVN l Z a0 hw [] b157 t159 kb159 (3 : Int32) [(.int ch107.toInt8.toInt32), (.int ch109.toInt8.toInt32), (.int ch111.toInt8.toInt32)] zc T159.heap n0 Z_ O_ S_CS P_CS E_b157 Fc_b157 Fv_b157 V159 (by decide) (by decide)) hZ (W_ hw 54 rfl) (W_ hw 53 rfl) (by decide) (by decide) (own_hEL hw) CR.1) (g := (mkF m 546 #[.val (.int p1), .val (.long p2), .second, .val (.long p3), .second, .val (.int (3 : Int32)), .val (.int lt), .val (.int mo), .val (.int kk), .val (.int bi), .val (.ref b106), .val (.ref b150), .val (.ref b157), .val (.int (0 : Int32)), .val (.int (0 : Int32))] [(.ref b157)])) rfl (by rw [hml]; rfl) (argsL := [(.ref b157)]) (rest := []) (lenOf pd_10 rfl) rfl (Nat.le_of_eq rfl) (hb hby at_546) (fun _ _ => ⟨rfl, rfl, (by decide : 24 + 4 ≤ _), (by decide : 420 + 52 ≤ _)⟩)
  dsimp only [Pt.U, Pt.locs, Pt.cells, Pt.slots] at X160 hS160 hg160 l160 y160 z160 CN160 st160 hQ160
  subst l160 y160 z160
  obtain ⟨X160, hS_, hZ, hown⟩ := rebS hS_ (show _ ≤ T159.heap.size by rw [(rfl : T159.heap = T159.heap)]; exact hk_) X160 hS160 hg160 hZ hown
  obtain ⟨rfl, N160q, K160⟩ := hQ160
  have N160 := Fr.app N159 N160q
  have lt_b106 : b106 < T159.heap.size := V_b106.lt
  have lt_b150 : b150 < T159.heap.size := V_b150.lt
  have lt_b157 : b157 < T159.heap.size := E_b157.lt
  have Z_ : n0 ≤ T160.heap.size := Nat.le_trans Z_ K160.1
  have V_b106 := V_b106.keep K160 nin0
  have E_b106 := E_b106.keep K160
  have V_b150 := V_b150.keep K160 nin0
  have E_b150 := E_b150.keep K160
  have E_b157 := E_b157.keep K160
  have Fc_b157 := Fc_b157.keep K160 nin0
  have Fv_b157 := Fv_b157.keep K160 nin0
  have V159 := V159.keep K160 nin0
  have O_ := O_.keep K160 all0
  have sf_b106 := CN160.safe lt_b106 sf_b106
  have sf_b150 := CN160.safe lt_b150 sf_b150
  have sf_b157 := CN160.safe lt_b157 sf_b157
  have CR := CR.trans CN160
  have hk_ := Nat.le_refl T160.heap.size
  refine .st (fun _ => st160.trans) ?_
  show OwnGoW p e below s Z own_EL _ _ _ T160 (mkF m 549 _ [(.int (0 : Int32))])
  refine .iload X160 hx (hb hby at_549) rfl ?_
  refine .ifNo X160 hx (hb hby at_551) ((if0 _ _).trans (teq ((by decide) : (0 : Int32) = (0 : Int32))).2) ?_
  refine .iload X160 hx (hb hby at_554) rfl ?_
  refine .ifYes (pc := 556) X160 hx 563 (hb hby at_556) ((if0 _ _).trans (teq ((by decide) : (0 : Int32) = (0 : Int32))).1) (by decide) (by decide) ?_
  refine .iconst X160 hx (hb hby at_563) own_ki0 ?_
  refine .icmpNo X160 hx (hb hby at_564) (teq ((by decide) : (0 : Int32) = (0 : Int32))).2 ?_
  refine .iconst X160 hx (hb hby at_567) own_ki1 ?_
  refine .goto (pc := 568) X160 hx 572 (hb hby at_568) (by decide) (by decide) ?_
  exact OwnGoW.retN (s := s) (vm0 := T160.vm) X160 hS_ hk_ rfl hZ (own_hEL hw) CR hx (t := .boolean) hret hlk (by simp) (hb hby at_572) (by show Q0 Z p1 p2 p3 zc fmv h0 n0 _ T160.heap _; exact ⟨rfl, N160⟩) (by decide) (by decide)
theorem sg4 {p : Program} {l : Launch} {e : Env} {s : State} {m : MethodId} {below : List Frame} {meth : Method} {c : Code} {Z : State} {a0 : Array Value} {T0 : State} {locs : List Loc} {vm1 : Vm} {k1 : Nat} {h1 : Heap} (p1 : Int32) (p2 : Int64) (p3 : Int64) (zc : Int32) (fmv : Value) (lt : Int32) (mo : Int32) (kk : Int32) (bi : Int32) (ch107 : Int32) (ch109 : Int32) (ch111 : Int32) (ch113 : Int32) (ch115 : Int32) (ch117 : Int32) (ch119 : Int32) (ch121 : Int32) (ch123 : Int32) (ch125 : Int32) (b106 : Addr) (k106 : ClassId) (h0 : Heap) (n0 : Nat) (hw : ∀ d ∈ tables_1, d.before a0 Z = true)
    (X0 : Stand p l e room_1 (s.setVm vm1) m #[(.int p1), (.long p2), (.long p3)] below meth c T0 locs 21 410) (hx : p.tables.exec = Jvm.exec) (hby : c.code = code) (hml : c.maxLocals = 15) (hret : meth.sig.returnType = ret) (hlk : meth.locks = false) (hown : (s.setVm vm1).vm.findClass "com/example/mapweft/mapweft/OptionsIsVerbosePinLaw" = some m.cls) (hnm : meth.name = "law") (hZ : Z.Warmed39 (s.setVm vm1).vm) (e0 : T0.heap = h1) (N0 : Fr n0 locs) (Z_ : n0 ≤ h1.size) (hS_ : s.Since vm1 k1) (hk_ : k1 ≤ h1.size) (CR : CHr Z own_EL s.vm s.heap vm1 h1) (S_CS : Sta Z Z.heap "java/lang/String" "COMPACT_STRINGS" "Z" (.int zc)) (P_CS : ¬ zc = (0 : Int32)) (S_SF : Sta Z Z.heap "jdk/internal/util/Preconditions" "SIOOBE_FORMATTER" "Ljava/util/function/BiFunction;" fmv) (rf_fmv : fmv.isRef = true) (V_b106 : Arv Z h1 b106 k106 .char (10 : Int32) [(.int ch107), (.int ch109), (.int ch111), (.int ch113), (.int ch115), (.int ch117), (.int ch119), (.int ch121), (.int ch123), (.int ch125)] (.int (0 : Int32))) (E_b106 : Exa Z h1 b106 "[C") (sf_b106 : Safe Z own_EL vm1 h1 b106) (O_ : Old Z n0 h1) (g_b106 : n0 ≤ b106) (hp_ch107 : ¬ ch107 < 0 ∧ ¬ (255 : Int32) < ch107) (hp_ch109 : ¬ ch109 < 0 ∧ ¬ (255 : Int32) < ch109) (hp_ch111 : ¬ ch111 < 0 ∧ ¬ (255 : Int32) < ch111) (hp_ch113 : ¬ ch113 < 0 ∧ ¬ (255 : Int32) < ch113) (hp_ch115 : ¬ ch115 < 0 ∧ ¬ (255 : Int32) < ch115) (hp_ch117 : ¬ ch117 < 0 ∧ ¬ (255 : Int32) < ch117) (hp_ch119 : ¬ ch119 < 0 ∧ ¬ (255 : Int32) < ch119) (hp_ch121 : ¬ ch121 < 0 ∧ ¬ (255 : Int32) < ch121) (hp_ch123 : ¬ ch123 < 0 ∧ ¬ (255 : Int32) < ch123) (hp_ch125 : ¬ ch125 < 0 ∧ ¬ (255 : Int32) < ch125) :
    OwnGoW p e below s Z own_EL room_1.cells room_1.slots (Q0 Z p1 p2 p3 zc fmv h0 n0) T0 (mkF m 247 #[.val (.int p1), .val (.long p2), .second, .val (.long p3), .second, .val (.int (4 : Int32)), .val (.int lt), .val (.int mo), .val (.int kk), .val (.int bi), .val (.ref b106), .unset, .unset, .unset, .unset] []) := by
  show OwnGoW p e below s Z own_EL _ _ _ T0 (mkF m 247 _ [])
  refine .iload X0 hx (hb hby at_247) rfl ?_
  obtain ⟨T161, h161, k161, X161, e161, E161, A161, Ex161, st161⟩ := newPE X0 hx hZ (W_ hw 0 rfl) e0 (g := (mkF m 249 #[.val (.int p1), .val (.long p2), .second, .val (.long p3), .second, .val (.int (4 : Int32)), .val (.int lt), .val (.int mo), .val (.int kk), .val (.int bi), .val (.ref b106), .unset, .unset, .unset, .unset] [(.int (4 : Int32))])) rfl (hb hby at_249) rfl (by decide) (cap := 4) (by decide) (by decide) (by decide) (by decide) (ad := "[C") (by decide)
  obtain ⟨b161, g161⟩ : ∃ z, z = h1.size := ⟨_, rfl⟩
  rw [← g161] at A161 Ex161 st161
  have ne_b106_b161 : b106 ≠ b161 := Nat.ne_of_lt (Nat.lt_of_lt_of_le V_b106.lt (Nat.le_of_eq g161.symm))
  have g_b161 : n0 ≤ b161 := Nat.le_trans Z_ (Nat.le_of_eq g161.symm)
  have sf_b161 : Safe Z own_EL vm1 h1 b161 := Safe.new (Nat.le_of_eq g161.symm)
  have V_b106 := V_b106.ext E161
  have E_b106 := E_b106.ext E161
  have O_ := O_.ext E161
  have sf_b106 := Safe.ext E161 CR.1 sf_b106
  have sf_b161 := Safe.ext E161 CR.1 sf_b161
  have CR := CR.trans (CHr.ext E161 CR.1)
  have hk_ := Nat.le_trans hk_ E161.1
  have Z_ : n0 ≤ h161.size := Nat.le_trans Z_ E161.1
  have V_b161 : Arv Z h161 b161 k161 .char (4 : Int32) [(.int (0 : Int32)), (.int (0 : Int32)), (.int (0 : Int32)), (.int (0 : Int32))] (.int (0 : Int32)) := (Arv.new A161 (by decide)).pad (pad_rep [] (.int (0 : Int32)) 4)
  have E_b161 := Ex161
  refine .st st161 ?_
  show OwnGoW p e below s Z own_EL _ _ _ T161 (mkF m 251 _ [(.ref b161)])
  refine .astore X161 hx (hb hby at_251) rfl (L' := #[.val (.int p1), .val (.long p2), .second, .val (.long p3), .second, .val (.int (4 : Int32)), .val (.int lt), .val (.int mo), .val (.int kk), .val (.int bi), .val (.ref b106), .val (.ref b161), .unset, .unset, .unset]) rfl ?_
  refine .iload X161 hx (hb hby at_253) rfl ?_
  refine .ifNo X161 hx (hb hby at_255) ((if0 _ _).trans (tlt ((by decide) : (0 : Int32) < (4 : Int32))).2.2.2) ?_
  refine .aload X161 hx (hb hby at_258) rfl rfl ?_
  refine .iconst X161 hx (hb hby at_260) own_ki0 ?_
  refine .aload X161 hx (hb hby at_261) rfl rfl ?_
  refine .iconst X161 hx (hb hby at_263) own_ki0 ?_
  obtain ⟨cl162, Ar162, -, S162, -, H162, -⟩ := id V_b106
  have hin162 : ¬ ((0 : Int32) < 0 ∨ cl162.slots.size ≤ ((0 : Int32)).toNatClampNeg) := inb_of S162 ⟨by decide, by decide⟩
  refine .st (fun _ => X161.caload hx (j := (0 : Int32)) (v := (.int ch107)) (by first | exact Ar162.1 | (rw [e161]; exact Ar162.1)) (State.isArrayOf_alike hZ.alike Ar162.2.1) Ar162.2.2 hin162 (H162.at hin162 rfl) (g := (mkF m 264 #[.val (.int p1), .val (.long p2), .second, .val (.long p3), .second, .val (.int (4 : Int32)), .val (.int lt), .val (.int mo), .val (.int kk), .val (.int bi), .val (.ref b106), .val (.ref b161), .unset, .unset, .unset] [(.int (0 : Int32)), (.ref b106), (.int (0 : Int32)), (.ref b161)])) rfl rfl (hb hby at_264) _) ?_
  show OwnGoW p e below s Z own_EL _ _ _ T161 (mkF m 265 _ [(.int ch107), (.int (0 : Int32)), (.ref b161)])
  obtain ⟨cl163, Ar163, q163, S163, N163, H163, G163⟩ := id V_b161
  have hin163 : ¬ ((0 : Int32) < 0 ∨ cl163.slots.size ≤ ((0 : Int32)).toNatClampNeg) := inb_of S163 ⟨by decide, by decide⟩
  obtain ⟨T163, h163, X163, e163, W163, st163⟩ := stC X161 hx hZ e161 Ar163 (j := (0 : Int32)) hin163 (g := (mkF m 265 #[.val (.int p1), .val (.long p2), .second, .val (.long p3), .second, .val (.int (4 : Int32)), .val (.int lt), .val (.int mo), .val (.int kk), .val (.int bi), .val (.ref b106), .val (.ref b161), .unset, .unset, .unset] [(.int ch107), (.int (0 : Int32)), (.ref b161)])) rfl rfl (hb hby at_265)
  have V_b161 : Arv Z h163 b161 k161 .char (4 : Int32) [(.int (nar .char ch107)), (.int (0 : Int32)), (.int (0 : Int32)), (.int (0 : Int32))] (.int (0 : Int32)) := Arv.set Ar163 q163 S163 N163 H163 G163 (fits_nar_char _) W163 0 rfl (Nat.le_of_ble_eq_true rfl)
  rw [show nar .char ch107 = ch107 from (own_lnc hp_ch107)] at V_b161
  have V_b106 := V_b106.other W163 ne_b106_b161
  have E_b106 := E_b106.wr W163
  have E_b161 := E_b161.wr W163
  have O_ := O_.wr W163 g_b161
  have sf_ := sf_b161
  have CR0 := CR.1
  have CR := CR.trans (CHr.wr W163 sf_ CR.1)
  have sf_b106 := Safe.wr W163 sf_ CR0 sf_b106
  have sf_b161 := Safe.wr W163 sf_ CR0 sf_b161
  have hk_ := Nat.le_trans hk_ (Nat.le_of_eq W163.size.symm)
  have N163 := Fr.snoc X163 N0 g_b161
  have Z_ : n0 ≤ h163.size := by rw [W163.size]; exact Z_
  refine .st st163 ?_
  show OwnGoW p e below s Z own_EL _ _ _ T163 (mkF m 266 _ [])
  refine .iload X163 hx (hb hby at_266) rfl ?_
  refine .iconst X163 hx (hb hby at_268) own_ki1 ?_
  refine .icmpNo X163 hx (hb hby at_269) (tlt ((by decide) : (1 : Int32) < (4 : Int32))).2.2.2 ?_
  refine .aload X163 hx (hb hby at_272) rfl rfl ?_
  refine .iconst X163 hx (hb hby at_274) own_ki1 ?_
  refine .aload X163 hx (hb hby at_275) rfl rfl ?_
  refine .iconst X163 hx (hb hby at_277) own_ki1 ?_
  obtain ⟨cl164, Ar164, -, S164, -, H164, -⟩ := id V_b106
  have hin164 : ¬ ((1 : Int32) < 0 ∨ cl164.slots.size ≤ ((1 : Int32)).toNatClampNeg) := inb_of S164 ⟨by decide, by decide⟩
  refine .st (fun _ => X163.caload hx (j := (1 : Int32)) (v := (.int ch109)) (by first | exact Ar164.1 | (rw [e163]; exact Ar164.1)) (State.isArrayOf_alike hZ.alike Ar164.2.1) Ar164.2.2 hin164 (H164.at hin164 rfl) (g := (mkF m 278 #[.val (.int p1), .val (.long p2), .second, .val (.long p3), .second, .val (.int (4 : Int32)), .val (.int lt), .val (.int mo), .val (.int kk), .val (.int bi), .val (.ref b106), .val (.ref b161), .unset, .unset, .unset] [(.int (1 : Int32)), (.ref b106), (.int (1 : Int32)), (.ref b161)])) rfl rfl (hb hby at_278) _) ?_
  show OwnGoW p e below s Z own_EL _ _ _ T163 (mkF m 279 _ [(.int ch109), (.int (1 : Int32)), (.ref b161)])
  obtain ⟨cl165, Ar165, q165, S165, N165, H165, G165⟩ := id V_b161
  have hin165 : ¬ ((1 : Int32) < 0 ∨ cl165.slots.size ≤ ((1 : Int32)).toNatClampNeg) := inb_of S165 ⟨by decide, by decide⟩
  obtain ⟨T165, h165, X165, e165, W165, st165⟩ := stC X163 hx hZ e163 Ar165 (j := (1 : Int32)) hin165 (g := (mkF m 279 #[.val (.int p1), .val (.long p2), .second, .val (.long p3), .second, .val (.int (4 : Int32)), .val (.int lt), .val (.int mo), .val (.int kk), .val (.int bi), .val (.ref b106), .val (.ref b161), .unset, .unset, .unset] [(.int ch109), (.int (1 : Int32)), (.ref b161)])) rfl rfl (hb hby at_279)
  have V_b161 : Arv Z h165 b161 k161 .char (4 : Int32) [(.int ch107), (.int (nar .char ch109)), (.int (0 : Int32)), (.int (0 : Int32))] (.int (0 : Int32)) := Arv.set Ar165 q165 S165 N165 H165 G165 (fits_nar_char _) W165 1 rfl (Nat.le_of_ble_eq_true rfl)
  rw [show nar .char ch109 = ch109 from (own_lnc hp_ch109)] at V_b161
  have V_b106 := V_b106.other W165 ne_b106_b161
  have E_b106 := E_b106.wr W165
  have E_b161 := E_b161.wr W165
  have O_ := O_.wr W165 g_b161
  have sf_ := sf_b161
  have CR0 := CR.1
  have CR := CR.trans (CHr.wr W165 sf_ CR.1)
  have sf_b106 := Safe.wr W165 sf_ CR0 sf_b106
  have sf_b161 := Safe.wr W165 sf_ CR0 sf_b161
  have hk_ := Nat.le_trans hk_ (Nat.le_of_eq W165.size.symm)
  have N165 := Fr.snoc X165 N163 g_b161
  have Z_ : n0 ≤ h165.size := by rw [W165.size]; exact Z_
  refine .st st165 ?_
  show OwnGoW p e below s Z own_EL _ _ _ T165 (mkF m 280 _ [])
  refine .iload X165 hx (hb hby at_280) rfl ?_
  refine .iconst X165 hx (hb hby at_282) own_ki2 ?_
  refine .icmpNo X165 hx (hb hby at_283) (tlt ((by decide) : (2 : Int32) < (4 : Int32))).2.2.2 ?_
  refine .aload X165 hx (hb hby at_286) rfl rfl ?_
  refine .iconst X165 hx (hb hby at_288) own_ki2 ?_
  refine .aload X165 hx (hb hby at_289) rfl rfl ?_
  refine .iconst X165 hx (hb hby at_291) own_ki2 ?_
  obtain ⟨cl166, Ar166, -, S166, -, H166, -⟩ := id V_b106
  have hin166 : ¬ ((2 : Int32) < 0 ∨ cl166.slots.size ≤ ((2 : Int32)).toNatClampNeg) := inb_of S166 ⟨by decide, by decide⟩
  refine .st (fun _ => X165.caload hx (j := (2 : Int32)) (v := (.int ch111)) (by first | exact Ar166.1 | (rw [e165]; exact Ar166.1)) (State.isArrayOf_alike hZ.alike Ar166.2.1) Ar166.2.2 hin166 (H166.at hin166 rfl) (g := (mkF m 292 #[.val (.int p1), .val (.long p2), .second, .val (.long p3), .second, .val (.int (4 : Int32)), .val (.int lt), .val (.int mo), .val (.int kk), .val (.int bi), .val (.ref b106), .val (.ref b161), .unset, .unset, .unset] [(.int (2 : Int32)), (.ref b106), (.int (2 : Int32)), (.ref b161)])) rfl rfl (hb hby at_292) _) ?_
  show OwnGoW p e below s Z own_EL _ _ _ T165 (mkF m 293 _ [(.int ch111), (.int (2 : Int32)), (.ref b161)])
  obtain ⟨cl167, Ar167, q167, S167, N167, H167, G167⟩ := id V_b161
  have hin167 : ¬ ((2 : Int32) < 0 ∨ cl167.slots.size ≤ ((2 : Int32)).toNatClampNeg) := inb_of S167 ⟨by decide, by decide⟩
  obtain ⟨T167, h167, X167, e167, W167, st167⟩ := stC X165 hx hZ e165 Ar167 (j := (2 : Int32)) hin167 (g := (mkF m 293 #[.val (.int p1), .val (.long p2), .second, .val (.long p3), .second, .val (.int (4 : Int32)), .val (.int lt), .val (.int mo), .val (.int kk), .val (.int bi), .val (.ref b106), .val (.ref b161), .unset, .unset, .unset] [(.int ch111), (.int (2 : Int32)), (.ref b161)])) rfl rfl (hb hby at_293)
  have V_b161 : Arv Z h167 b161 k161 .char (4 : Int32) [(.int ch107), (.int ch109), (.int (nar .char ch111)), (.int (0 : Int32))] (.int (0 : Int32)) := Arv.set Ar167 q167 S167 N167 H167 G167 (fits_nar_char _) W167 2 rfl (Nat.le_of_ble_eq_true rfl)
  rw [show nar .char ch111 = ch111 from (own_lnc hp_ch111)] at V_b161
  have V_b106 := V_b106.other W167 ne_b106_b161
  have E_b106 := E_b106.wr W167
  have E_b161 := E_b161.wr W167
  have O_ := O_.wr W167 g_b161
  have sf_ := sf_b161
  have CR0 := CR.1
  have CR := CR.trans (CHr.wr W167 sf_ CR.1)
  have sf_b106 := Safe.wr W167 sf_ CR0 sf_b106
  have sf_b161 := Safe.wr W167 sf_ CR0 sf_b161
  have hk_ := Nat.le_trans hk_ (Nat.le_of_eq W167.size.symm)
  have N167 := Fr.snoc X167 N165 g_b161
  have Z_ : n0 ≤ h167.size := by rw [W167.size]; exact Z_
  refine .st st167 ?_
  show OwnGoW p e below s Z own_EL _ _ _ T167 (mkF m 294 _ [])
  refine .iload X167 hx (hb hby at_294) rfl ?_
  refine .iconst X167 hx (hb hby at_296) own_ki3 ?_
  refine .icmpNo X167 hx (hb hby at_297) (tlt ((by decide) : (3 : Int32) < (4 : Int32))).2.2.2 ?_
  refine .aload X167 hx (hb hby at_300) rfl rfl ?_
  refine .iconst X167 hx (hb hby at_302) own_ki3 ?_
  refine .aload X167 hx (hb hby at_303) rfl rfl ?_
  refine .iconst X167 hx (hb hby at_305) own_ki3 ?_
  obtain ⟨cl168, Ar168, -, S168, -, H168, -⟩ := id V_b106
  have hin168 : ¬ ((3 : Int32) < 0 ∨ cl168.slots.size ≤ ((3 : Int32)).toNatClampNeg) := inb_of S168 ⟨by decide, by decide⟩
  refine .st (fun _ => X167.caload hx (j := (3 : Int32)) (v := (.int ch113)) (by first | exact Ar168.1 | (rw [e167]; exact Ar168.1)) (State.isArrayOf_alike hZ.alike Ar168.2.1) Ar168.2.2 hin168 (H168.at hin168 rfl) (g := (mkF m 306 #[.val (.int p1), .val (.long p2), .second, .val (.long p3), .second, .val (.int (4 : Int32)), .val (.int lt), .val (.int mo), .val (.int kk), .val (.int bi), .val (.ref b106), .val (.ref b161), .unset, .unset, .unset] [(.int (3 : Int32)), (.ref b106), (.int (3 : Int32)), (.ref b161)])) rfl rfl (hb hby at_306) _) ?_
  show OwnGoW p e below s Z own_EL _ _ _ T167 (mkF m 307 _ [(.int ch113), (.int (3 : Int32)), (.ref b161)])
  obtain ⟨cl169, Ar169, q169, S169, N169, H169, G169⟩ := id V_b161
  have hin169 : ¬ ((3 : Int32) < 0 ∨ cl169.slots.size ≤ ((3 : Int32)).toNatClampNeg) := inb_of S169 ⟨by decide, by decide⟩
  obtain ⟨T169, h169, X169, e169, W169, st169⟩ := stC X167 hx hZ e167 Ar169 (j := (3 : Int32)) hin169 (g := (mkF m 307 #[.val (.int p1), .val (.long p2), .second, .val (.long p3), .second, .val (.int (4 : Int32)), .val (.int lt), .val (.int mo), .val (.int kk), .val (.int bi), .val (.ref b106), .val (.ref b161), .unset, .unset, .unset] [(.int ch113), (.int (3 : Int32)), (.ref b161)])) rfl rfl (hb hby at_307)
  have V_b161 : Arv Z h169 b161 k161 .char (4 : Int32) [(.int ch107), (.int ch109), (.int ch111), (.int (nar .char ch113))] (.int (0 : Int32)) := Arv.set Ar169 q169 S169 N169 H169 G169 (fits_nar_char _) W169 3 rfl (Nat.le_of_ble_eq_true rfl)
  rw [show nar .char ch113 = ch113 from (own_lnc hp_ch113)] at V_b161
  have V_b106 := V_b106.other W169 ne_b106_b161
  have E_b106 := E_b106.wr W169
  have E_b161 := E_b161.wr W169
  have O_ := O_.wr W169 g_b161
  have sf_ := sf_b161
  have CR0 := CR.1
  have CR := CR.trans (CHr.wr W169 sf_ CR.1)
  have sf_b106 := Safe.wr W169 sf_ CR0 sf_b106
  have sf_b161 := Safe.wr W169 sf_ CR0 sf_b161
  have hk_ := Nat.le_trans hk_ (Nat.le_of_eq W169.size.symm)
  have N169 := Fr.snoc X169 N167 g_b161
  have Z_ : n0 ≤ h169.size := by rw [W169.size]; exact Z_
  refine .st st169 ?_
  show OwnGoW p e below s Z own_EL _ _ _ T169 (mkF m 308 _ [])
  refine .iload X169 hx (hb hby at_308) rfl ?_
  refine .iconst X169 hx (hb hby at_310) own_ki4 ?_
  refine .icmpYes (pc := 311) X169 hx 322 (hb hby at_311) (flt ((by decide) : ¬ ((4 : Int32) < (4 : Int32)))).2.2.2 (by decide) (by decide) ?_
  refine .iload X169 hx (hb hby at_322) rfl ?_
  refine .iconst X169 hx (hb hby at_324) own_ki5 ?_
  refine .icmpYes (pc := 325) X169 hx 336 (hb hby at_325) (flt ((by decide) : ¬ ((5 : Int32) < (4 : Int32)))).2.2.2 (by decide) (by decide) ?_
  refine .iload X169 hx (hb hby at_336) rfl ?_
  refine .bipush X169 hx (hb hby at_338) own_kb6 ?_
  refine .icmpYes (pc := 340) X169 hx 353 (hb hby at_340) (flt ((by decide) : ¬ ((6 : Int32) < (4 : Int32)))).2.2.2 (by decide) (by decide) ?_
  refine .iload X169 hx (hb hby at_353) rfl ?_
  refine .bipush X169 hx (hb hby at_355) own_kb7 ?_
  refine .icmpYes (pc := 357) X169 hx 370 (hb hby at_357) (flt ((by decide) : ¬ ((7 : Int32) < (4 : Int32)))).2.2.2 (by decide) (by decide) ?_
  refine .iload X169 hx (hb hby at_370) rfl ?_
  refine .bipush X169 hx (hb hby at_372) own_kb8 ?_
  refine .icmpYes (pc := 374) X169 hx 387 (hb hby at_374) (flt ((by decide) : ¬ ((8 : Int32) < (4 : Int32)))).2.2.2 (by decide) (by decide) ?_
  refine .iload X169 hx (hb hby at_387) rfl ?_
  refine .bipush X169 hx (hb hby at_389) own_kb9 ?_
  refine .icmpYes (pc := 391) X169 hx 404 (hb hby at_391) (flt ((by decide) : ¬ ((9 : Int32) < (4 : Int32)))).2.2.2 (by decide) (by decide) ?_
  obtain ⟨T170, h170, X170, e170, E170, A170, D170, -, st170⟩ := newO X169 hx hZ hown (W_ hw 39 rfl) (W_ hw 8 rfl) (W_ hw 7 rfl) e169 (g := (mkF m 404 #[.val (.int p1), .val (.long p2), .second, .val (.long p3), .second, .val (.int (4 : Int32)), .val (.int lt), .val (.int mo), .val (.int kk), .val (.int bi), .val (.ref b106), .val (.ref b161), .unset, .unset, .unset] [])) rfl (hb hby at_404) (by decide) (by decide)
  obtain ⟨b170, g170⟩ : ∃ z, z = h169.size := ⟨_, rfl⟩
  rw [← g170] at A170 D170 st170
  have ne_b106_b170 : b106 ≠ b170 := Nat.ne_of_lt (Nat.lt_of_lt_of_le V_b106.lt (Nat.le_of_eq g170.symm))
  have ne_b161_b170 : b161 ≠ b170 := Nat.ne_of_lt (Nat.lt_of_lt_of_le V_b161.lt (Nat.le_of_eq g170.symm))
  have g_b170 : n0 ≤ b170 := Nat.le_trans Z_ (Nat.le_of_eq g170.symm)
  have sf_b170 : Safe Z own_EL vm1 h169 b170 := Safe.new (Nat.le_of_eq g170.symm)
  have V_b106 := V_b106.ext E170
  have E_b106 := E_b106.ext E170
  have V_b161 := V_b161.ext E170
  have E_b161 := E_b161.ext E170
  have O_ := O_.ext E170
  have sf_b106 := Safe.ext E170 CR.1 sf_b106
  have sf_b161 := Safe.ext E170 CR.1 sf_b161
  have sf_b170 := Safe.ext E170 CR.1 sf_b170
  have CR := CR.trans (CHr.ext E170 CR.1)
  have hk_ := Nat.le_trans hk_ E170.1
  have Z_ : n0 ≤ h170.size := Nat.le_trans Z_ E170.1
  have E_b170 := A170
  have F_value_b170 : Fld Z h170 b170 "java/lang/String" "value" "[B" .null := D170 (Or.inr (W_ hw 10 rfl)) (ty := (.array .byte)) (by decide)
  have F_coder_b170 : Fld Z h170 b170 "java/lang/String" "coder" "B" (.int (0 : Int32)) := D170 (Or.inr (W_ hw 11 rfl)) (ty := .byte) (by decide)
  refine .st st170 ?_
  show OwnGoW p e below s Z own_EL _ _ _ T170 (mkF m 407 _ [(.ref b170)])
  refine .dup X170 hx (hb hby at_407) rfl ?_
  refine .aload X170 hx (hb hby at_408) rfl rfl ?_
  have hp171 : ∀ c ∈ ([ch107, ch109, ch111, ch113] : List Int32), ¬ c < 0 ∧ ¬ (255 : Int32) < c := by
    intro c hc
    simp only [List.mem_cons, List.not_mem_nil, or_false] at hc
    rcases hc with rfl | rfl | rfl | rfl
    · exact hp_ch107
    · exact hp_ch109
    · exact hp_ch111
    · exact hp_ch113
  obtain ⟨_, _, ⟨T172, L172, k172, n172⟩, -, X172, ⟨Lc172, hQ172, l172, y172, z172⟩, st172⟩ := X170.specialBack hx (y := (⟨"java/lang/String", "<init>", "([C)V"⟩ : MethodName)) rfl hown (mvT hZ (W_ hw 40 rfl)) (mvT hZ (W_ hw 41 rfl)) (mvT hZ (W_ hw 42 rfl)) (by decide) (StrChars.Road.backV (W := 1) hZ (own_ws hw) (kI := 4) (W_ hw 8 rfl) (cs := ([ch107, ch109, ch111, ch113] : List Int32)) (bs := ([ch107, ch109, ch111, ch113] : List Int32).map (fun c => c.toInt8.toInt32)) (n := 4) g_b170 Z_ E_b170 F_value_b170 F_coder_b170 V_b161 (S_CS.ext O_.2) P_CS rfl rfl (by decide) (by decide) hp171 rfl (by decide) (by decide)) (g := (mkF m 410 #[.val (.int p1), .val (.long p2), .second, .val (.long p3), .second, .val (.int (4 : Int32)), .val (.int lt), .val (.int mo), .val (.int kk), .val (.int bi), .val (.ref b106), .val (.ref b161), .unset, .unset, .unset] [(.ref b161), (.ref b170), (.ref b170)])) rfl (by rw [hml]; rfl) (Steps.refl _) (a := b170) (argsL := [(.ref b161)]) (rest := [(.ref b170)]) (lenOf pd_9 rfl) rfl (Nat.le_of_eq rfl) (hb hby at_410) (fun _ _ => ⟨rfl, e170, (by decide : 23 + 1 ≤ _), (by decide : 418 + 4 ≤ _)⟩)
  dsimp only [Pt.U, Pt.locs, Pt.cells, Pt.slots] at X172 l172 y172 z172 st172 hQ172
  subst l172 y172 z172
  obtain ⟨rfl, N172q, K172, Ex172, Fc_b170, t172, kb172, gt172, zz172, nt172, Fv_b170, V172⟩ := hQ172
  have N172 := Fr.app N169 N172q
  have zt172 : h170.size ≤ t172 := zz172
  have ne_b106_t172 : b106 ≠ t172 := Nat.ne_of_lt (Nat.lt_of_lt_of_le V_b106.lt zt172)
  have ne_b161_t172 : b161 ≠ t172 := Nat.ne_of_lt (Nat.lt_of_lt_of_le V_b161.lt zt172)
  have ne_b170_t172 : b170 ≠ t172 := Nat.ne_of_lt (Nat.lt_of_lt_of_le E_b170.lt zt172)
  have g_t172 : n0 ≤ t172 := Nat.le_trans Z_ zt172
  have V172 : Arv Z T172.heap t172 kb172 .byte (4 : Int32) [(.int ch107.toInt8.toInt32), (.int ch109.toInt8.toInt32), (.int ch111.toInt8.toInt32), (.int ch113.toInt8.toInt32)] (.int (0 : Int32)) := V172
  have Z_ : n0 ≤ T172.heap.size := Nat.le_trans Z_ K172.1
  have V_b106 := V_b106.keep K172 (ninS ne_b106_b170 nin0)
  have E_b106 := E_b106.keep K172
  have V_b161 := V_b161.keep K172 (ninS ne_b161_b170 nin0)
  have E_b161 := E_b161.keep K172
  have E_b170 := E_b170.keep K172
  have O_ := O_.keep K172 (allS g_b170 all0)
  have sf_b106' := Safe.keep K172 (sfS sf_b170 sf0) CR.1 sf_b106
  have sf_b161' := Safe.keep K172 (sfS sf_b170 sf0) CR.1 sf_b161
  have sf_b170' := Safe.keep K172 (sfS sf_b170 sf0) CR.1 sf_b170
  have CR := CR.trans (CHr.keep K172 (sfS sf_b170 sf0) CR.1)
  have hk_ := Nat.le_trans hk_ K172.1
  have sf_b106 := sf_b106'
  have sf_b161 := sf_b161'
  have sf_b170 := sf_b170'
  refine .st (fun _ => st172.trans) ?_
  show OwnGoW p e below s Z own_EL _ _ _ T172 (mkF m 413 _ [(.ref b170)])
  refine .astore X172 hx (hb hby at_413) rfl (L' := #[.val (.int p1), .val (.long p2), .second, .val (.long p3), .second, .val (.int (4 : Int32)), .val (.int lt), .val (.int mo), .val (.int kk), .val (.int bi), .val (.ref b106), .val (.ref b161), .val (.ref b170), .unset, .unset]) rfl ?_
  refine .iload X172 hx (hb hby at_415) rfl ?_
  refine .bipush X172 hx (hb hby at_417) own_kb9 ?_
  refine .icmpYes (pc := 419) X172 hx 510 (hb hby at_419) (feq ((by decide) : ¬ ((4 : Int32) = (9 : Int32)))).2 (by decide) (by decide) ?_
  refine .iconst X172 hx (hb hby at_510) own_ki0 ?_
  refine .istore X172 hx (hb hby at_511) (L' := #[.val (.int p1), .val (.long p2), .second, .val (.long p3), .second, .val (.int (4 : Int32)), .val (.int lt), .val (.int mo), .val (.int kk), .val (.int bi), .val (.ref b106), .val (.ref b161), .val (.ref b170), .val (.int (0 : Int32)), .unset]) rfl ?_
  refine .iload X172 hx (hb hby at_513) rfl ?_
  refine .iconst X172 hx (hb hby at_515) own_ki2 ?_
  refine .icmpYes (pc := 516) X172 hx 541 (hb hby at_516) (feq ((by decide) : ¬ ((4 : Int32) = (2 : Int32)))).2 (by decide) (by decide) ?_
  refine .iconst X172 hx (hb hby at_541) own_ki0 ?_
  refine .istore X172 hx (hb hby at_542) (L' := #[.val (.int p1), .val (.long p2), .second, .val (.long p3), .second, .val (.int (4 : Int32)), .val (.int lt), .val (.int mo), .val (.int kk), .val (.int bi), .val (.ref b106), .val (.ref b161), .val (.ref b170), .val (.int (0 : Int32)), .val (.int (0 : Int32))]) rfl ?_
  refine .aload X172 hx (hb hby at_544) rfl rfl ?_
  obtain ⟨_, _, ⟨T173, L173, k173, n173⟩, -, X173, hS173, hg173, ⟨Lc173, hQ173, l173, y173, z173, CN173⟩, st173⟩ := callSS (s := s.setVm vm1) X172 hx (y := (⟨"com/example/mapweft/mapweft/Options", "isVerbose", "(Ljava/lang/String;)Z"⟩ : MethodName)) hown (mvT hZ (W_ hw 51 rfl)) (mvT hZ (W_ hw 52 rfl)) (mvT hZ (W_ hw 53 rfl)) (mvT hZ (W_ hw 54 rfl)) (by decide) (backOfSH (s := s) (vm0 := vm1) (W := 0) (rmisVN l Z a0 hw [] b170 t172 kb172 (4 : Int32) [(.int ch107.toInt8.toInt32), (.int ch109.toInt8.toInt32), (.int ch111.toInt8.toInt32), (.int ch113.toInt8.toInt32)] zc T172.heap n0 Z_ O_ S_CS P_CS E_b170 Fc_b170 Fv_b170 V172 (by decide) (by decide)) hZ (W_ hw 54 rfl) (W_ hw 53 rfl) (by decide) (by decide) (own_hEL hw) CR.1) (g := (mkF m 546 #[.val (.int p1), .val (.long p2), .second, .val (.long p3), .second, .val (.int (4 : Int32)), .val (.int lt), .val (.int mo), .val (.int kk), .val (.int bi), .val (.ref b106), .val (.ref b161), .val (.ref b170), .val (.int (0 : Int32)), .val (.int (0 : Int32))] [(.ref b170)])) rfl (by rw [hml]; rfl) (argsL := [(.ref b170)]) (rest := []) (lenOf pd_10 rfl) rfl (Nat.le_of_eq rfl) (hb hby at_546) (fun _ _ => ⟨rfl, rfl, (by decide : 24 + 4 ≤ _), (by decide : 422 + 52 ≤ _)⟩)
  dsimp only [Pt.U, Pt.locs, Pt.cells, Pt.slots] at X173 hS173 hg173 l173 y173 z173 CN173 st173 hQ173
  subst l173 y173 z173
  obtain ⟨X173, hS_, hZ, hown⟩ := rebS hS_ (show _ ≤ T172.heap.size by rw [(rfl : T172.heap = T172.heap)]; exact hk_) X173 hS173 hg173 hZ hown
  obtain ⟨rfl, N173q, K173⟩ := hQ173
  have N173 := Fr.app N172 N173q
  have lt_b106 : b106 < T172.heap.size := V_b106.lt
  have lt_b161 : b161 < T172.heap.size := V_b161.lt
  have lt_b170 : b170 < T172.heap.size := E_b170.lt
  have Z_ : n0 ≤ T173.heap.size := Nat.le_trans Z_ K173.1
  have V_b106 := V_b106.keep K173 nin0
  have E_b106 := E_b106.keep K173
  have V_b161 := V_b161.keep K173 nin0
  have E_b161 := E_b161.keep K173
  have E_b170 := E_b170.keep K173
  have Fc_b170 := Fc_b170.keep K173 nin0
  have Fv_b170 := Fv_b170.keep K173 nin0
  have V172 := V172.keep K173 nin0
  have O_ := O_.keep K173 all0
  have sf_b106 := CN173.safe lt_b106 sf_b106
  have sf_b161 := CN173.safe lt_b161 sf_b161
  have sf_b170 := CN173.safe lt_b170 sf_b170
  have CR := CR.trans CN173
  have hk_ := Nat.le_refl T173.heap.size
  refine .st (fun _ => st173.trans) ?_
  show OwnGoW p e below s Z own_EL _ _ _ T173 (mkF m 549 _ [(.int (0 : Int32))])
  refine .iload X173 hx (hb hby at_549) rfl ?_
  refine .ifNo X173 hx (hb hby at_551) ((if0 _ _).trans (teq ((by decide) : (0 : Int32) = (0 : Int32))).2) ?_
  refine .iload X173 hx (hb hby at_554) rfl ?_
  refine .ifYes (pc := 556) X173 hx 563 (hb hby at_556) ((if0 _ _).trans (teq ((by decide) : (0 : Int32) = (0 : Int32))).1) (by decide) (by decide) ?_
  refine .iconst X173 hx (hb hby at_563) own_ki0 ?_
  refine .icmpNo X173 hx (hb hby at_564) (teq ((by decide) : (0 : Int32) = (0 : Int32))).2 ?_
  refine .iconst X173 hx (hb hby at_567) own_ki1 ?_
  refine .goto (pc := 568) X173 hx 572 (hb hby at_568) (by decide) (by decide) ?_
  exact OwnGoW.retN (s := s) (vm0 := T173.vm) X173 hS_ hk_ rfl hZ (own_hEL hw) CR hx (t := .boolean) hret hlk (by simp) (hb hby at_572) (by show Q0 Z p1 p2 p3 zc fmv h0 n0 _ T173.heap _; exact ⟨rfl, N173⟩) (by decide) (by decide)
theorem sg5 {p : Program} {l : Launch} {e : Env} {s : State} {m : MethodId} {below : List Frame} {meth : Method} {c : Code} {Z : State} {a0 : Array Value} {T0 : State} {locs : List Loc} {vm1 : Vm} {k1 : Nat} {h1 : Heap} (p1 : Int32) (p2 : Int64) (p3 : Int64) (zc : Int32) (fmv : Value) (lt : Int32) (mo : Int32) (kk : Int32) (bi : Int32) (ch107 : Int32) (ch109 : Int32) (ch111 : Int32) (ch113 : Int32) (ch115 : Int32) (ch117 : Int32) (ch119 : Int32) (ch121 : Int32) (ch123 : Int32) (ch125 : Int32) (b106 : Addr) (k106 : ClassId) (h0 : Heap) (n0 : Nat) (hw : ∀ d ∈ tables_1, d.before a0 Z = true)
    (X0 : Stand p l e room_1 (s.setVm vm1) m #[(.int p1), (.long p2), (.long p3)] below meth c T0 locs 21 410) (hx : p.tables.exec = Jvm.exec) (hby : c.code = code) (hml : c.maxLocals = 15) (hret : meth.sig.returnType = ret) (hlk : meth.locks = false) (hown : (s.setVm vm1).vm.findClass "com/example/mapweft/mapweft/OptionsIsVerbosePinLaw" = some m.cls) (hnm : meth.name = "law") (hZ : Z.Warmed39 (s.setVm vm1).vm) (e0 : T0.heap = h1) (N0 : Fr n0 locs) (Z_ : n0 ≤ h1.size) (hS_ : s.Since vm1 k1) (hk_ : k1 ≤ h1.size) (CR : CHr Z own_EL s.vm s.heap vm1 h1) (S_CS : Sta Z Z.heap "java/lang/String" "COMPACT_STRINGS" "Z" (.int zc)) (P_CS : ¬ zc = (0 : Int32)) (S_SF : Sta Z Z.heap "jdk/internal/util/Preconditions" "SIOOBE_FORMATTER" "Ljava/util/function/BiFunction;" fmv) (rf_fmv : fmv.isRef = true) (V_b106 : Arv Z h1 b106 k106 .char (10 : Int32) [(.int ch107), (.int ch109), (.int ch111), (.int ch113), (.int ch115), (.int ch117), (.int ch119), (.int ch121), (.int ch123), (.int ch125)] (.int (0 : Int32))) (E_b106 : Exa Z h1 b106 "[C") (sf_b106 : Safe Z own_EL vm1 h1 b106) (O_ : Old Z n0 h1) (g_b106 : n0 ≤ b106) (hp_ch107 : ¬ ch107 < 0 ∧ ¬ (255 : Int32) < ch107) (hp_ch109 : ¬ ch109 < 0 ∧ ¬ (255 : Int32) < ch109) (hp_ch111 : ¬ ch111 < 0 ∧ ¬ (255 : Int32) < ch111) (hp_ch113 : ¬ ch113 < 0 ∧ ¬ (255 : Int32) < ch113) (hp_ch115 : ¬ ch115 < 0 ∧ ¬ (255 : Int32) < ch115) (hp_ch117 : ¬ ch117 < 0 ∧ ¬ (255 : Int32) < ch117) (hp_ch119 : ¬ ch119 < 0 ∧ ¬ (255 : Int32) < ch119) (hp_ch121 : ¬ ch121 < 0 ∧ ¬ (255 : Int32) < ch121) (hp_ch123 : ¬ ch123 < 0 ∧ ¬ (255 : Int32) < ch123) (hp_ch125 : ¬ ch125 < 0 ∧ ¬ (255 : Int32) < ch125) :
    OwnGoW p e below s Z own_EL room_1.cells room_1.slots (Q0 Z p1 p2 p3 zc fmv h0 n0) T0 (mkF m 247 #[.val (.int p1), .val (.long p2), .second, .val (.long p3), .second, .val (.int (5 : Int32)), .val (.int lt), .val (.int mo), .val (.int kk), .val (.int bi), .val (.ref b106), .unset, .unset, .unset, .unset] []) := by
  show OwnGoW p e below s Z own_EL _ _ _ T0 (mkF m 247 _ [])
  refine .iload X0 hx (hb hby at_247) rfl ?_
  obtain ⟨T174, h174, k174, X174, e174, E174, A174, Ex174, st174⟩ := newPE X0 hx hZ (W_ hw 0 rfl) e0 (g := (mkF m 249 #[.val (.int p1), .val (.long p2), .second, .val (.long p3), .second, .val (.int (5 : Int32)), .val (.int lt), .val (.int mo), .val (.int kk), .val (.int bi), .val (.ref b106), .unset, .unset, .unset, .unset] [(.int (5 : Int32))])) rfl (hb hby at_249) rfl (by decide) (cap := 5) (by decide) (by decide) (by decide) (by decide) (ad := "[C") (by decide)
  obtain ⟨b174, g174⟩ : ∃ z, z = h1.size := ⟨_, rfl⟩
  rw [← g174] at A174 Ex174 st174
  have ne_b106_b174 : b106 ≠ b174 := Nat.ne_of_lt (Nat.lt_of_lt_of_le V_b106.lt (Nat.le_of_eq g174.symm))
  have g_b174 : n0 ≤ b174 := Nat.le_trans Z_ (Nat.le_of_eq g174.symm)
  have sf_b174 : Safe Z own_EL vm1 h1 b174 := Safe.new (Nat.le_of_eq g174.symm)
  have V_b106 := V_b106.ext E174
  have E_b106 := E_b106.ext E174
  have O_ := O_.ext E174
  have sf_b106 := Safe.ext E174 CR.1 sf_b106
  have sf_b174 := Safe.ext E174 CR.1 sf_b174
  have CR := CR.trans (CHr.ext E174 CR.1)
  have hk_ := Nat.le_trans hk_ E174.1
  have Z_ : n0 ≤ h174.size := Nat.le_trans Z_ E174.1
  have V_b174 : Arv Z h174 b174 k174 .char (5 : Int32) [(.int (0 : Int32)), (.int (0 : Int32)), (.int (0 : Int32)), (.int (0 : Int32)), (.int (0 : Int32))] (.int (0 : Int32)) := (Arv.new A174 (by decide)).pad (pad_rep [] (.int (0 : Int32)) 5)
  have E_b174 := Ex174
  refine .st st174 ?_
  show OwnGoW p e below s Z own_EL _ _ _ T174 (mkF m 251 _ [(.ref b174)])
  refine .astore X174 hx (hb hby at_251) rfl (L' := #[.val (.int p1), .val (.long p2), .second, .val (.long p3), .second, .val (.int (5 : Int32)), .val (.int lt), .val (.int mo), .val (.int kk), .val (.int bi), .val (.ref b106), .val (.ref b174), .unset, .unset, .unset]) rfl ?_
  refine .iload X174 hx (hb hby at_253) rfl ?_
  refine .ifNo X174 hx (hb hby at_255) ((if0 _ _).trans (tlt ((by decide) : (0 : Int32) < (5 : Int32))).2.2.2) ?_
  refine .aload X174 hx (hb hby at_258) rfl rfl ?_
  refine .iconst X174 hx (hb hby at_260) own_ki0 ?_
  refine .aload X174 hx (hb hby at_261) rfl rfl ?_
  refine .iconst X174 hx (hb hby at_263) own_ki0 ?_
  obtain ⟨cl175, Ar175, -, S175, -, H175, -⟩ := id V_b106
  have hin175 : ¬ ((0 : Int32) < 0 ∨ cl175.slots.size ≤ ((0 : Int32)).toNatClampNeg) := inb_of S175 ⟨by decide, by decide⟩
  refine .st (fun _ => X174.caload hx (j := (0 : Int32)) (v := (.int ch107)) (by first | exact Ar175.1 | (rw [e174]; exact Ar175.1)) (State.isArrayOf_alike hZ.alike Ar175.2.1) Ar175.2.2 hin175 (H175.at hin175 rfl) (g := (mkF m 264 #[.val (.int p1), .val (.long p2), .second, .val (.long p3), .second, .val (.int (5 : Int32)), .val (.int lt), .val (.int mo), .val (.int kk), .val (.int bi), .val (.ref b106), .val (.ref b174), .unset, .unset, .unset] [(.int (0 : Int32)), (.ref b106), (.int (0 : Int32)), (.ref b174)])) rfl rfl (hb hby at_264) _) ?_
  show OwnGoW p e below s Z own_EL _ _ _ T174 (mkF m 265 _ [(.int ch107), (.int (0 : Int32)), (.ref b174)])
  obtain ⟨cl176, Ar176, q176, S176, N176, H176, G176⟩ := id V_b174
  have hin176 : ¬ ((0 : Int32) < 0 ∨ cl176.slots.size ≤ ((0 : Int32)).toNatClampNeg) := inb_of S176 ⟨by decide, by decide⟩
  obtain ⟨T176, h176, X176, e176, W176, st176⟩ := stC X174 hx hZ e174 Ar176 (j := (0 : Int32)) hin176 (g := (mkF m 265 #[.val (.int p1), .val (.long p2), .second, .val (.long p3), .second, .val (.int (5 : Int32)), .val (.int lt), .val (.int mo), .val (.int kk), .val (.int bi), .val (.ref b106), .val (.ref b174), .unset, .unset, .unset] [(.int ch107), (.int (0 : Int32)), (.ref b174)])) rfl rfl (hb hby at_265)
  have V_b174 : Arv Z h176 b174 k174 .char (5 : Int32) [(.int (nar .char ch107)), (.int (0 : Int32)), (.int (0 : Int32)), (.int (0 : Int32)), (.int (0 : Int32))] (.int (0 : Int32)) := Arv.set Ar176 q176 S176 N176 H176 G176 (fits_nar_char _) W176 0 rfl (Nat.le_of_ble_eq_true rfl)
  rw [show nar .char ch107 = ch107 from (own_lnc hp_ch107)] at V_b174
  have V_b106 := V_b106.other W176 ne_b106_b174
  have E_b106 := E_b106.wr W176
  have E_b174 := E_b174.wr W176
  have O_ := O_.wr W176 g_b174
  have sf_ := sf_b174
  have CR0 := CR.1
  have CR := CR.trans (CHr.wr W176 sf_ CR.1)
  have sf_b106 := Safe.wr W176 sf_ CR0 sf_b106
  have sf_b174 := Safe.wr W176 sf_ CR0 sf_b174
  have hk_ := Nat.le_trans hk_ (Nat.le_of_eq W176.size.symm)
  have N176 := Fr.snoc X176 N0 g_b174
  have Z_ : n0 ≤ h176.size := by rw [W176.size]; exact Z_
  refine .st st176 ?_
  show OwnGoW p e below s Z own_EL _ _ _ T176 (mkF m 266 _ [])
  refine .iload X176 hx (hb hby at_266) rfl ?_
  refine .iconst X176 hx (hb hby at_268) own_ki1 ?_
  refine .icmpNo X176 hx (hb hby at_269) (tlt ((by decide) : (1 : Int32) < (5 : Int32))).2.2.2 ?_
  refine .aload X176 hx (hb hby at_272) rfl rfl ?_
  refine .iconst X176 hx (hb hby at_274) own_ki1 ?_
  refine .aload X176 hx (hb hby at_275) rfl rfl ?_
  refine .iconst X176 hx (hb hby at_277) own_ki1 ?_
  obtain ⟨cl177, Ar177, -, S177, -, H177, -⟩ := id V_b106
  have hin177 : ¬ ((1 : Int32) < 0 ∨ cl177.slots.size ≤ ((1 : Int32)).toNatClampNeg) := inb_of S177 ⟨by decide, by decide⟩
  refine .st (fun _ => X176.caload hx (j := (1 : Int32)) (v := (.int ch109)) (by first | exact Ar177.1 | (rw [e176]; exact Ar177.1)) (State.isArrayOf_alike hZ.alike Ar177.2.1) Ar177.2.2 hin177 (H177.at hin177 rfl) (g := (mkF m 278 #[.val (.int p1), .val (.long p2), .second, .val (.long p3), .second, .val (.int (5 : Int32)), .val (.int lt), .val (.int mo), .val (.int kk), .val (.int bi), .val (.ref b106), .val (.ref b174), .unset, .unset, .unset] [(.int (1 : Int32)), (.ref b106), (.int (1 : Int32)), (.ref b174)])) rfl rfl (hb hby at_278) _) ?_
  show OwnGoW p e below s Z own_EL _ _ _ T176 (mkF m 279 _ [(.int ch109), (.int (1 : Int32)), (.ref b174)])
  obtain ⟨cl178, Ar178, q178, S178, N178, H178, G178⟩ := id V_b174
  have hin178 : ¬ ((1 : Int32) < 0 ∨ cl178.slots.size ≤ ((1 : Int32)).toNatClampNeg) := inb_of S178 ⟨by decide, by decide⟩
  obtain ⟨T178, h178, X178, e178, W178, st178⟩ := stC X176 hx hZ e176 Ar178 (j := (1 : Int32)) hin178 (g := (mkF m 279 #[.val (.int p1), .val (.long p2), .second, .val (.long p3), .second, .val (.int (5 : Int32)), .val (.int lt), .val (.int mo), .val (.int kk), .val (.int bi), .val (.ref b106), .val (.ref b174), .unset, .unset, .unset] [(.int ch109), (.int (1 : Int32)), (.ref b174)])) rfl rfl (hb hby at_279)
  have V_b174 : Arv Z h178 b174 k174 .char (5 : Int32) [(.int ch107), (.int (nar .char ch109)), (.int (0 : Int32)), (.int (0 : Int32)), (.int (0 : Int32))] (.int (0 : Int32)) := Arv.set Ar178 q178 S178 N178 H178 G178 (fits_nar_char _) W178 1 rfl (Nat.le_of_ble_eq_true rfl)
  rw [show nar .char ch109 = ch109 from (own_lnc hp_ch109)] at V_b174
  have V_b106 := V_b106.other W178 ne_b106_b174
  have E_b106 := E_b106.wr W178
  have E_b174 := E_b174.wr W178
  have O_ := O_.wr W178 g_b174
  have sf_ := sf_b174
  have CR0 := CR.1
  have CR := CR.trans (CHr.wr W178 sf_ CR.1)
  have sf_b106 := Safe.wr W178 sf_ CR0 sf_b106
  have sf_b174 := Safe.wr W178 sf_ CR0 sf_b174
  have hk_ := Nat.le_trans hk_ (Nat.le_of_eq W178.size.symm)
  have N178 := Fr.snoc X178 N176 g_b174
  have Z_ : n0 ≤ h178.size := by rw [W178.size]; exact Z_
  refine .st st178 ?_
  show OwnGoW p e below s Z own_EL _ _ _ T178 (mkF m 280 _ [])
  refine .iload X178 hx (hb hby at_280) rfl ?_
  refine .iconst X178 hx (hb hby at_282) own_ki2 ?_
  refine .icmpNo X178 hx (hb hby at_283) (tlt ((by decide) : (2 : Int32) < (5 : Int32))).2.2.2 ?_
  refine .aload X178 hx (hb hby at_286) rfl rfl ?_
  refine .iconst X178 hx (hb hby at_288) own_ki2 ?_
  refine .aload X178 hx (hb hby at_289) rfl rfl ?_
  refine .iconst X178 hx (hb hby at_291) own_ki2 ?_
  obtain ⟨cl179, Ar179, -, S179, -, H179, -⟩ := id V_b106
  have hin179 : ¬ ((2 : Int32) < 0 ∨ cl179.slots.size ≤ ((2 : Int32)).toNatClampNeg) := inb_of S179 ⟨by decide, by decide⟩
  refine .st (fun _ => X178.caload hx (j := (2 : Int32)) (v := (.int ch111)) (by first | exact Ar179.1 | (rw [e178]; exact Ar179.1)) (State.isArrayOf_alike hZ.alike Ar179.2.1) Ar179.2.2 hin179 (H179.at hin179 rfl) (g := (mkF m 292 #[.val (.int p1), .val (.long p2), .second, .val (.long p3), .second, .val (.int (5 : Int32)), .val (.int lt), .val (.int mo), .val (.int kk), .val (.int bi), .val (.ref b106), .val (.ref b174), .unset, .unset, .unset] [(.int (2 : Int32)), (.ref b106), (.int (2 : Int32)), (.ref b174)])) rfl rfl (hb hby at_292) _) ?_
  show OwnGoW p e below s Z own_EL _ _ _ T178 (mkF m 293 _ [(.int ch111), (.int (2 : Int32)), (.ref b174)])
  obtain ⟨cl180, Ar180, q180, S180, N180, H180, G180⟩ := id V_b174
  have hin180 : ¬ ((2 : Int32) < 0 ∨ cl180.slots.size ≤ ((2 : Int32)).toNatClampNeg) := inb_of S180 ⟨by decide, by decide⟩
  obtain ⟨T180, h180, X180, e180, W180, st180⟩ := stC X178 hx hZ e178 Ar180 (j := (2 : Int32)) hin180 (g := (mkF m 293 #[.val (.int p1), .val (.long p2), .second, .val (.long p3), .second, .val (.int (5 : Int32)), .val (.int lt), .val (.int mo), .val (.int kk), .val (.int bi), .val (.ref b106), .val (.ref b174), .unset, .unset, .unset] [(.int ch111), (.int (2 : Int32)), (.ref b174)])) rfl rfl (hb hby at_293)
  have V_b174 : Arv Z h180 b174 k174 .char (5 : Int32) [(.int ch107), (.int ch109), (.int (nar .char ch111)), (.int (0 : Int32)), (.int (0 : Int32))] (.int (0 : Int32)) := Arv.set Ar180 q180 S180 N180 H180 G180 (fits_nar_char _) W180 2 rfl (Nat.le_of_ble_eq_true rfl)
  rw [show nar .char ch111 = ch111 from (own_lnc hp_ch111)] at V_b174
  have V_b106 := V_b106.other W180 ne_b106_b174
  have E_b106 := E_b106.wr W180
  have E_b174 := E_b174.wr W180
  have O_ := O_.wr W180 g_b174
  have sf_ := sf_b174
  have CR0 := CR.1
  have CR := CR.trans (CHr.wr W180 sf_ CR.1)
  have sf_b106 := Safe.wr W180 sf_ CR0 sf_b106
  have sf_b174 := Safe.wr W180 sf_ CR0 sf_b174
  have hk_ := Nat.le_trans hk_ (Nat.le_of_eq W180.size.symm)
  have N180 := Fr.snoc X180 N178 g_b174
  have Z_ : n0 ≤ h180.size := by rw [W180.size]; exact Z_
  refine .st st180 ?_
  show OwnGoW p e below s Z own_EL _ _ _ T180 (mkF m 294 _ [])
  refine .iload X180 hx (hb hby at_294) rfl ?_
  refine .iconst X180 hx (hb hby at_296) own_ki3 ?_
  refine .icmpNo X180 hx (hb hby at_297) (tlt ((by decide) : (3 : Int32) < (5 : Int32))).2.2.2 ?_
  refine .aload X180 hx (hb hby at_300) rfl rfl ?_
  refine .iconst X180 hx (hb hby at_302) own_ki3 ?_
  refine .aload X180 hx (hb hby at_303) rfl rfl ?_
  refine .iconst X180 hx (hb hby at_305) own_ki3 ?_
  obtain ⟨cl181, Ar181, -, S181, -, H181, -⟩ := id V_b106
  have hin181 : ¬ ((3 : Int32) < 0 ∨ cl181.slots.size ≤ ((3 : Int32)).toNatClampNeg) := inb_of S181 ⟨by decide, by decide⟩
  refine .st (fun _ => X180.caload hx (j := (3 : Int32)) (v := (.int ch113)) (by first | exact Ar181.1 | (rw [e180]; exact Ar181.1)) (State.isArrayOf_alike hZ.alike Ar181.2.1) Ar181.2.2 hin181 (H181.at hin181 rfl) (g := (mkF m 306 #[.val (.int p1), .val (.long p2), .second, .val (.long p3), .second, .val (.int (5 : Int32)), .val (.int lt), .val (.int mo), .val (.int kk), .val (.int bi), .val (.ref b106), .val (.ref b174), .unset, .unset, .unset] [(.int (3 : Int32)), (.ref b106), (.int (3 : Int32)), (.ref b174)])) rfl rfl (hb hby at_306) _) ?_
  show OwnGoW p e below s Z own_EL _ _ _ T180 (mkF m 307 _ [(.int ch113), (.int (3 : Int32)), (.ref b174)])
  obtain ⟨cl182, Ar182, q182, S182, N182, H182, G182⟩ := id V_b174
  have hin182 : ¬ ((3 : Int32) < 0 ∨ cl182.slots.size ≤ ((3 : Int32)).toNatClampNeg) := inb_of S182 ⟨by decide, by decide⟩
  obtain ⟨T182, h182, X182, e182, W182, st182⟩ := stC X180 hx hZ e180 Ar182 (j := (3 : Int32)) hin182 (g := (mkF m 307 #[.val (.int p1), .val (.long p2), .second, .val (.long p3), .second, .val (.int (5 : Int32)), .val (.int lt), .val (.int mo), .val (.int kk), .val (.int bi), .val (.ref b106), .val (.ref b174), .unset, .unset, .unset] [(.int ch113), (.int (3 : Int32)), (.ref b174)])) rfl rfl (hb hby at_307)
  have V_b174 : Arv Z h182 b174 k174 .char (5 : Int32) [(.int ch107), (.int ch109), (.int ch111), (.int (nar .char ch113)), (.int (0 : Int32))] (.int (0 : Int32)) := Arv.set Ar182 q182 S182 N182 H182 G182 (fits_nar_char _) W182 3 rfl (Nat.le_of_ble_eq_true rfl)
  rw [show nar .char ch113 = ch113 from (own_lnc hp_ch113)] at V_b174
  have V_b106 := V_b106.other W182 ne_b106_b174
  have E_b106 := E_b106.wr W182
  have E_b174 := E_b174.wr W182
  have O_ := O_.wr W182 g_b174
  have sf_ := sf_b174
  have CR0 := CR.1
  have CR := CR.trans (CHr.wr W182 sf_ CR.1)
  have sf_b106 := Safe.wr W182 sf_ CR0 sf_b106
  have sf_b174 := Safe.wr W182 sf_ CR0 sf_b174
  have hk_ := Nat.le_trans hk_ (Nat.le_of_eq W182.size.symm)
  have N182 := Fr.snoc X182 N180 g_b174
  have Z_ : n0 ≤ h182.size := by rw [W182.size]; exact Z_
  refine .st st182 ?_
  show OwnGoW p e below s Z own_EL _ _ _ T182 (mkF m 308 _ [])
  refine .iload X182 hx (hb hby at_308) rfl ?_
  refine .iconst X182 hx (hb hby at_310) own_ki4 ?_
  refine .icmpNo X182 hx (hb hby at_311) (tlt ((by decide) : (4 : Int32) < (5 : Int32))).2.2.2 ?_
  refine .aload X182 hx (hb hby at_314) rfl rfl ?_
  refine .iconst X182 hx (hb hby at_316) own_ki4 ?_
  refine .aload X182 hx (hb hby at_317) rfl rfl ?_
  refine .iconst X182 hx (hb hby at_319) own_ki4 ?_
  obtain ⟨cl183, Ar183, -, S183, -, H183, -⟩ := id V_b106
  have hin183 : ¬ ((4 : Int32) < 0 ∨ cl183.slots.size ≤ ((4 : Int32)).toNatClampNeg) := inb_of S183 ⟨by decide, by decide⟩
  refine .st (fun _ => X182.caload hx (j := (4 : Int32)) (v := (.int ch115)) (by first | exact Ar183.1 | (rw [e182]; exact Ar183.1)) (State.isArrayOf_alike hZ.alike Ar183.2.1) Ar183.2.2 hin183 (H183.at hin183 rfl) (g := (mkF m 320 #[.val (.int p1), .val (.long p2), .second, .val (.long p3), .second, .val (.int (5 : Int32)), .val (.int lt), .val (.int mo), .val (.int kk), .val (.int bi), .val (.ref b106), .val (.ref b174), .unset, .unset, .unset] [(.int (4 : Int32)), (.ref b106), (.int (4 : Int32)), (.ref b174)])) rfl rfl (hb hby at_320) _) ?_
  show OwnGoW p e below s Z own_EL _ _ _ T182 (mkF m 321 _ [(.int ch115), (.int (4 : Int32)), (.ref b174)])
  obtain ⟨cl184, Ar184, q184, S184, N184, H184, G184⟩ := id V_b174
  have hin184 : ¬ ((4 : Int32) < 0 ∨ cl184.slots.size ≤ ((4 : Int32)).toNatClampNeg) := inb_of S184 ⟨by decide, by decide⟩
  obtain ⟨T184, h184, X184, e184, W184, st184⟩ := stC X182 hx hZ e182 Ar184 (j := (4 : Int32)) hin184 (g := (mkF m 321 #[.val (.int p1), .val (.long p2), .second, .val (.long p3), .second, .val (.int (5 : Int32)), .val (.int lt), .val (.int mo), .val (.int kk), .val (.int bi), .val (.ref b106), .val (.ref b174), .unset, .unset, .unset] [(.int ch115), (.int (4 : Int32)), (.ref b174)])) rfl rfl (hb hby at_321)
  have V_b174 : Arv Z h184 b174 k174 .char (5 : Int32) [(.int ch107), (.int ch109), (.int ch111), (.int ch113), (.int (nar .char ch115))] (.int (0 : Int32)) := Arv.set Ar184 q184 S184 N184 H184 G184 (fits_nar_char _) W184 4 rfl (Nat.le_of_ble_eq_true rfl)
  rw [show nar .char ch115 = ch115 from (own_lnc hp_ch115)] at V_b174
  have V_b106 := V_b106.other W184 ne_b106_b174
  have E_b106 := E_b106.wr W184
  have E_b174 := E_b174.wr W184
  have O_ := O_.wr W184 g_b174
  have sf_ := sf_b174
  have CR0 := CR.1
  have CR := CR.trans (CHr.wr W184 sf_ CR.1)
  have sf_b106 := Safe.wr W184 sf_ CR0 sf_b106
  have sf_b174 := Safe.wr W184 sf_ CR0 sf_b174
  have hk_ := Nat.le_trans hk_ (Nat.le_of_eq W184.size.symm)
  have N184 := Fr.snoc X184 N182 g_b174
  have Z_ : n0 ≤ h184.size := by rw [W184.size]; exact Z_
  refine .st st184 ?_
  show OwnGoW p e below s Z own_EL _ _ _ T184 (mkF m 322 _ [])
  refine .iload X184 hx (hb hby at_322) rfl ?_
  refine .iconst X184 hx (hb hby at_324) own_ki5 ?_
  refine .icmpYes (pc := 325) X184 hx 336 (hb hby at_325) (flt ((by decide) : ¬ ((5 : Int32) < (5 : Int32)))).2.2.2 (by decide) (by decide) ?_
  refine .iload X184 hx (hb hby at_336) rfl ?_
  refine .bipush X184 hx (hb hby at_338) own_kb6 ?_
  refine .icmpYes (pc := 340) X184 hx 353 (hb hby at_340) (flt ((by decide) : ¬ ((6 : Int32) < (5 : Int32)))).2.2.2 (by decide) (by decide) ?_
  refine .iload X184 hx (hb hby at_353) rfl ?_
  refine .bipush X184 hx (hb hby at_355) own_kb7 ?_
  refine .icmpYes (pc := 357) X184 hx 370 (hb hby at_357) (flt ((by decide) : ¬ ((7 : Int32) < (5 : Int32)))).2.2.2 (by decide) (by decide) ?_
  refine .iload X184 hx (hb hby at_370) rfl ?_
  refine .bipush X184 hx (hb hby at_372) own_kb8 ?_
  refine .icmpYes (pc := 374) X184 hx 387 (hb hby at_374) (flt ((by decide) : ¬ ((8 : Int32) < (5 : Int32)))).2.2.2 (by decide) (by decide) ?_
  refine .iload X184 hx (hb hby at_387) rfl ?_
  refine .bipush X184 hx (hb hby at_389) own_kb9 ?_
  refine .icmpYes (pc := 391) X184 hx 404 (hb hby at_391) (flt ((by decide) : ¬ ((9 : Int32) < (5 : Int32)))).2.2.2 (by decide) (by decide) ?_
  obtain ⟨T185, h185, X185, e185, E185, A185, D185, -, st185⟩ := newO X184 hx hZ hown (W_ hw 39 rfl) (W_ hw 8 rfl) (W_ hw 7 rfl) e184 (g := (mkF m 404 #[.val (.int p1), .val (.long p2), .second, .val (.long p3), .second, .val (.int (5 : Int32)), .val (.int lt), .val (.int mo), .val (.int kk), .val (.int bi), .val (.ref b106), .val (.ref b174), .unset, .unset, .unset] [])) rfl (hb hby at_404) (by decide) (by decide)
  obtain ⟨b185, g185⟩ : ∃ z, z = h184.size := ⟨_, rfl⟩
  rw [← g185] at A185 D185 st185
  have ne_b106_b185 : b106 ≠ b185 := Nat.ne_of_lt (Nat.lt_of_lt_of_le V_b106.lt (Nat.le_of_eq g185.symm))
  have ne_b174_b185 : b174 ≠ b185 := Nat.ne_of_lt (Nat.lt_of_lt_of_le V_b174.lt (Nat.le_of_eq g185.symm))
  have g_b185 : n0 ≤ b185 := Nat.le_trans Z_ (Nat.le_of_eq g185.symm)
  have sf_b185 : Safe Z own_EL vm1 h184 b185 := Safe.new (Nat.le_of_eq g185.symm)
  have V_b106 := V_b106.ext E185
  have E_b106 := E_b106.ext E185
  have V_b174 := V_b174.ext E185
  have E_b174 := E_b174.ext E185
  have O_ := O_.ext E185
  have sf_b106 := Safe.ext E185 CR.1 sf_b106
  have sf_b174 := Safe.ext E185 CR.1 sf_b174
  have sf_b185 := Safe.ext E185 CR.1 sf_b185
  have CR := CR.trans (CHr.ext E185 CR.1)
  have hk_ := Nat.le_trans hk_ E185.1
  have Z_ : n0 ≤ h185.size := Nat.le_trans Z_ E185.1
  have E_b185 := A185
  have F_value_b185 : Fld Z h185 b185 "java/lang/String" "value" "[B" .null := D185 (Or.inr (W_ hw 10 rfl)) (ty := (.array .byte)) (by decide)
  have F_coder_b185 : Fld Z h185 b185 "java/lang/String" "coder" "B" (.int (0 : Int32)) := D185 (Or.inr (W_ hw 11 rfl)) (ty := .byte) (by decide)
  refine .st st185 ?_
  show OwnGoW p e below s Z own_EL _ _ _ T185 (mkF m 407 _ [(.ref b185)])
  refine .dup X185 hx (hb hby at_407) rfl ?_
  refine .aload X185 hx (hb hby at_408) rfl rfl ?_
  have hp186 : ∀ c ∈ ([ch107, ch109, ch111, ch113, ch115] : List Int32), ¬ c < 0 ∧ ¬ (255 : Int32) < c := by
    intro c hc
    simp only [List.mem_cons, List.not_mem_nil, or_false] at hc
    rcases hc with rfl | rfl | rfl | rfl | rfl
    · exact hp_ch107
    · exact hp_ch109
    · exact hp_ch111
    · exact hp_ch113
    · exact hp_ch115
  obtain ⟨_, _, ⟨T187, L187, k187, n187⟩, -, X187, ⟨Lc187, hQ187, l187, y187, z187⟩, st187⟩ := X185.specialBack hx (y := (⟨"java/lang/String", "<init>", "([C)V"⟩ : MethodName)) rfl hown (mvT hZ (W_ hw 40 rfl)) (mvT hZ (W_ hw 41 rfl)) (mvT hZ (W_ hw 42 rfl)) (by decide) (StrChars.Road.backV (W := 1) hZ (own_ws hw) (kI := 4) (W_ hw 8 rfl) (cs := ([ch107, ch109, ch111, ch113, ch115] : List Int32)) (bs := ([ch107, ch109, ch111, ch113, ch115] : List Int32).map (fun c => c.toInt8.toInt32)) (n := 5) g_b185 Z_ E_b185 F_value_b185 F_coder_b185 V_b174 (S_CS.ext O_.2) P_CS rfl rfl (by decide) (by decide) hp186 rfl (by decide) (by decide)) (g := (mkF m 410 #[.val (.int p1), .val (.long p2), .second, .val (.long p3), .second, .val (.int (5 : Int32)), .val (.int lt), .val (.int mo), .val (.int kk), .val (.int bi), .val (.ref b106), .val (.ref b174), .unset, .unset, .unset] [(.ref b174), (.ref b185), (.ref b185)])) rfl (by rw [hml]; rfl) (Steps.refl _) (a := b185) (argsL := [(.ref b174)]) (rest := [(.ref b185)]) (lenOf pd_9 rfl) rfl (Nat.le_of_eq rfl) (hb hby at_410) (fun _ _ => ⟨rfl, e185, (by decide : 23 + 1 ≤ _), (by decide : 419 + 5 ≤ _)⟩)
  dsimp only [Pt.U, Pt.locs, Pt.cells, Pt.slots] at X187 l187 y187 z187 st187 hQ187
  subst l187 y187 z187
  obtain ⟨rfl, N187q, K187, Ex187, Fc_b185, t187, kb187, gt187, zz187, nt187, Fv_b185, V187⟩ := hQ187
  have N187 := Fr.app N184 N187q
  have zt187 : h185.size ≤ t187 := zz187
  have ne_b106_t187 : b106 ≠ t187 := Nat.ne_of_lt (Nat.lt_of_lt_of_le V_b106.lt zt187)
  have ne_b174_t187 : b174 ≠ t187 := Nat.ne_of_lt (Nat.lt_of_lt_of_le V_b174.lt zt187)
  have ne_b185_t187 : b185 ≠ t187 := Nat.ne_of_lt (Nat.lt_of_lt_of_le E_b185.lt zt187)
  have g_t187 : n0 ≤ t187 := Nat.le_trans Z_ zt187
  have V187 : Arv Z T187.heap t187 kb187 .byte (5 : Int32) [(.int ch107.toInt8.toInt32), (.int ch109.toInt8.toInt32), (.int ch111.toInt8.toInt32), (.int ch113.toInt8.toInt32), (.int ch115.toInt8.toInt32)] (.int (0 : Int32)) := V187
  have Z_ : n0 ≤ T187.heap.size := Nat.le_trans Z_ K187.1
  have V_b106 := V_b106.keep K187 (ninS ne_b106_b185 nin0)
  have E_b106 := E_b106.keep K187
  have V_b174 := V_b174.keep K187 (ninS ne_b174_b185 nin0)
  have E_b174 := E_b174.keep K187
  have E_b185 := E_b185.keep K187
  have O_ := O_.keep K187 (allS g_b185 all0)
  have sf_b106' := Safe.keep K187 (sfS sf_b185 sf0) CR.1 sf_b106
  have sf_b174' := Safe.keep K187 (sfS sf_b185 sf0) CR.1 sf_b174
  have sf_b185' := Safe.keep K187 (sfS sf_b185 sf0) CR.1 sf_b185
  have CR := CR.trans (CHr.keep K187 (sfS sf_b185 sf0) CR.1)
  have hk_ := Nat.le_trans hk_ K187.1
  have sf_b106 := sf_b106'
  have sf_b174 := sf_b174'
  have sf_b185 := sf_b185'
  refine .st (fun _ => st187.trans) ?_
  show OwnGoW p e below s Z own_EL _ _ _ T187 (mkF m 413 _ [(.ref b185)])
  refine .astore X187 hx (hb hby at_413) rfl (L' := #[.val (.int p1), .val (.long p2), .second, .val (.long p3), .second, .val (.int (5 : Int32)), .val (.int lt), .val (.int mo), .val (.int kk), .val (.int bi), .val (.ref b106), .val (.ref b174), .val (.ref b185), .unset, .unset]) rfl ?_
  refine .iload X187 hx (hb hby at_415) rfl ?_
  refine .bipush X187 hx (hb hby at_417) own_kb9 ?_
  refine .icmpYes (pc := 419) X187 hx 510 (hb hby at_419) (feq ((by decide) : ¬ ((5 : Int32) = (9 : Int32)))).2 (by decide) (by decide) ?_
  refine .iconst X187 hx (hb hby at_510) own_ki0 ?_
  refine .istore X187 hx (hb hby at_511) (L' := #[.val (.int p1), .val (.long p2), .second, .val (.long p3), .second, .val (.int (5 : Int32)), .val (.int lt), .val (.int mo), .val (.int kk), .val (.int bi), .val (.ref b106), .val (.ref b174), .val (.ref b185), .val (.int (0 : Int32)), .unset]) rfl ?_
  refine .iload X187 hx (hb hby at_513) rfl ?_
  refine .iconst X187 hx (hb hby at_515) own_ki2 ?_
  refine .icmpYes (pc := 516) X187 hx 541 (hb hby at_516) (feq ((by decide) : ¬ ((5 : Int32) = (2 : Int32)))).2 (by decide) (by decide) ?_
  refine .iconst X187 hx (hb hby at_541) own_ki0 ?_
  refine .istore X187 hx (hb hby at_542) (L' := #[.val (.int p1), .val (.long p2), .second, .val (.long p3), .second, .val (.int (5 : Int32)), .val (.int lt), .val (.int mo), .val (.int kk), .val (.int bi), .val (.ref b106), .val (.ref b174), .val (.ref b185), .val (.int (0 : Int32)), .val (.int (0 : Int32))]) rfl ?_
  refine .aload X187 hx (hb hby at_544) rfl rfl ?_
  obtain ⟨_, _, ⟨T188, L188, k188, n188⟩, -, X188, hS188, hg188, ⟨Lc188, hQ188, l188, y188, z188, CN188⟩, st188⟩ := callSS (s := s.setVm vm1) X187 hx (y := (⟨"com/example/mapweft/mapweft/Options", "isVerbose", "(Ljava/lang/String;)Z"⟩ : MethodName)) hown (mvT hZ (W_ hw 51 rfl)) (mvT hZ (W_ hw 52 rfl)) (mvT hZ (W_ hw 53 rfl)) (mvT hZ (W_ hw 54 rfl)) (by decide) (backOfSH (s := s) (vm0 := vm1) (W := 0) (rmisVN l Z a0 hw [] b185 t187 kb187 (5 : Int32) [(.int ch107.toInt8.toInt32), (.int ch109.toInt8.toInt32), (.int ch111.toInt8.toInt32), (.int ch113.toInt8.toInt32), (.int ch115.toInt8.toInt32)] zc T187.heap n0 Z_ O_ S_CS P_CS E_b185 Fc_b185 Fv_b185 V187 (by decide) (by decide)) hZ (W_ hw 54 rfl) (W_ hw 53 rfl) (by decide) (by decide) (own_hEL hw) CR.1) (g := (mkF m 546 #[.val (.int p1), .val (.long p2), .second, .val (.long p3), .second, .val (.int (5 : Int32)), .val (.int lt), .val (.int mo), .val (.int kk), .val (.int bi), .val (.ref b106), .val (.ref b174), .val (.ref b185), .val (.int (0 : Int32)), .val (.int (0 : Int32))] [(.ref b185)])) rfl (by rw [hml]; rfl) (argsL := [(.ref b185)]) (rest := []) (lenOf pd_10 rfl) rfl (Nat.le_of_eq rfl) (hb hby at_546) (fun _ _ => ⟨rfl, rfl, (by decide : 24 + 4 ≤ _), (by decide : 424 + 52 ≤ _)⟩)
  dsimp only [Pt.U, Pt.locs, Pt.cells, Pt.slots] at X188 hS188 hg188 l188 y188 z188 CN188 st188 hQ188
  subst l188 y188 z188
  obtain ⟨X188, hS_, hZ, hown⟩ := rebS hS_ (show _ ≤ T187.heap.size by rw [(rfl : T187.heap = T187.heap)]; exact hk_) X188 hS188 hg188 hZ hown
  obtain ⟨rfl, N188q, K188⟩ := hQ188
  have N188 := Fr.app N187 N188q
  have lt_b106 : b106 < T187.heap.size := V_b106.lt
  have lt_b174 : b174 < T187.heap.size := V_b174.lt
  have lt_b185 : b185 < T187.heap.size := E_b185.lt
  have Z_ : n0 ≤ T188.heap.size := Nat.le_trans Z_ K188.1
  have V_b106 := V_b106.keep K188 nin0
  have E_b106 := E_b106.keep K188
  have V_b174 := V_b174.keep K188 nin0
  have E_b174 := E_b174.keep K188
  have E_b185 := E_b185.keep K188
  have Fc_b185 := Fc_b185.keep K188 nin0
  have Fv_b185 := Fv_b185.keep K188 nin0
  have V187 := V187.keep K188 nin0
  have O_ := O_.keep K188 all0
  have sf_b106 := CN188.safe lt_b106 sf_b106
  have sf_b174 := CN188.safe lt_b174 sf_b174
  have sf_b185 := CN188.safe lt_b185 sf_b185
  have CR := CR.trans CN188
  have hk_ := Nat.le_refl T188.heap.size
  refine .st (fun _ => st188.trans) ?_
  show OwnGoW p e below s Z own_EL _ _ _ T188 (mkF m 549 _ [(.int (0 : Int32))])
  refine .iload X188 hx (hb hby at_549) rfl ?_
  refine .ifNo X188 hx (hb hby at_551) ((if0 _ _).trans (teq ((by decide) : (0 : Int32) = (0 : Int32))).2) ?_
  refine .iload X188 hx (hb hby at_554) rfl ?_
  refine .ifYes (pc := 556) X188 hx 563 (hb hby at_556) ((if0 _ _).trans (teq ((by decide) : (0 : Int32) = (0 : Int32))).1) (by decide) (by decide) ?_
  refine .iconst X188 hx (hb hby at_563) own_ki0 ?_
  refine .icmpNo X188 hx (hb hby at_564) (teq ((by decide) : (0 : Int32) = (0 : Int32))).2 ?_
  refine .iconst X188 hx (hb hby at_567) own_ki1 ?_
  refine .goto (pc := 568) X188 hx 572 (hb hby at_568) (by decide) (by decide) ?_
  exact OwnGoW.retN (s := s) (vm0 := T188.vm) X188 hS_ hk_ rfl hZ (own_hEL hw) CR hx (t := .boolean) hret hlk (by simp) (hb hby at_572) (by show Q0 Z p1 p2 p3 zc fmv h0 n0 _ T188.heap _; exact ⟨rfl, N188⟩) (by decide) (by decide)
theorem sg6 {p : Program} {l : Launch} {e : Env} {s : State} {m : MethodId} {below : List Frame} {meth : Method} {c : Code} {Z : State} {a0 : Array Value} {T0 : State} {locs : List Loc} {vm1 : Vm} {k1 : Nat} {h1 : Heap} (p1 : Int32) (p2 : Int64) (p3 : Int64) (zc : Int32) (fmv : Value) (lt : Int32) (mo : Int32) (kk : Int32) (bi : Int32) (ch107 : Int32) (ch109 : Int32) (ch111 : Int32) (ch113 : Int32) (ch115 : Int32) (ch117 : Int32) (ch119 : Int32) (ch121 : Int32) (ch123 : Int32) (ch125 : Int32) (b106 : Addr) (k106 : ClassId) (h0 : Heap) (n0 : Nat) (hw : ∀ d ∈ tables_1, d.before a0 Z = true)
    (X0 : Stand p l e room_1 (s.setVm vm1) m #[(.int p1), (.long p2), (.long p3)] below meth c T0 locs 21 410) (hx : p.tables.exec = Jvm.exec) (hby : c.code = code) (hml : c.maxLocals = 15) (hret : meth.sig.returnType = ret) (hlk : meth.locks = false) (hown : (s.setVm vm1).vm.findClass "com/example/mapweft/mapweft/OptionsIsVerbosePinLaw" = some m.cls) (hnm : meth.name = "law") (hZ : Z.Warmed39 (s.setVm vm1).vm) (e0 : T0.heap = h1) (N0 : Fr n0 locs) (Z_ : n0 ≤ h1.size) (hS_ : s.Since vm1 k1) (hk_ : k1 ≤ h1.size) (CR : CHr Z own_EL s.vm s.heap vm1 h1) (S_CS : Sta Z Z.heap "java/lang/String" "COMPACT_STRINGS" "Z" (.int zc)) (P_CS : ¬ zc = (0 : Int32)) (S_SF : Sta Z Z.heap "jdk/internal/util/Preconditions" "SIOOBE_FORMATTER" "Ljava/util/function/BiFunction;" fmv) (rf_fmv : fmv.isRef = true) (V_b106 : Arv Z h1 b106 k106 .char (10 : Int32) [(.int ch107), (.int ch109), (.int ch111), (.int ch113), (.int ch115), (.int ch117), (.int ch119), (.int ch121), (.int ch123), (.int ch125)] (.int (0 : Int32))) (E_b106 : Exa Z h1 b106 "[C") (sf_b106 : Safe Z own_EL vm1 h1 b106) (O_ : Old Z n0 h1) (g_b106 : n0 ≤ b106) (hp_ch107 : ¬ ch107 < 0 ∧ ¬ (255 : Int32) < ch107) (hp_ch109 : ¬ ch109 < 0 ∧ ¬ (255 : Int32) < ch109) (hp_ch111 : ¬ ch111 < 0 ∧ ¬ (255 : Int32) < ch111) (hp_ch113 : ¬ ch113 < 0 ∧ ¬ (255 : Int32) < ch113) (hp_ch115 : ¬ ch115 < 0 ∧ ¬ (255 : Int32) < ch115) (hp_ch117 : ¬ ch117 < 0 ∧ ¬ (255 : Int32) < ch117) (hp_ch119 : ¬ ch119 < 0 ∧ ¬ (255 : Int32) < ch119) (hp_ch121 : ¬ ch121 < 0 ∧ ¬ (255 : Int32) < ch121) (hp_ch123 : ¬ ch123 < 0 ∧ ¬ (255 : Int32) < ch123) (hp_ch125 : ¬ ch125 < 0 ∧ ¬ (255 : Int32) < ch125) :
    OwnGoW p e below s Z own_EL room_1.cells room_1.slots (Q0 Z p1 p2 p3 zc fmv h0 n0) T0 (mkF m 247 #[.val (.int p1), .val (.long p2), .second, .val (.long p3), .second, .val (.int (6 : Int32)), .val (.int lt), .val (.int mo), .val (.int kk), .val (.int bi), .val (.ref b106), .unset, .unset, .unset, .unset] []) := by
  show OwnGoW p e below s Z own_EL _ _ _ T0 (mkF m 247 _ [])
  refine .iload X0 hx (hb hby at_247) rfl ?_
  obtain ⟨T189, h189, k189, X189, e189, E189, A189, Ex189, st189⟩ := newPE X0 hx hZ (W_ hw 0 rfl) e0 (g := (mkF m 249 #[.val (.int p1), .val (.long p2), .second, .val (.long p3), .second, .val (.int (6 : Int32)), .val (.int lt), .val (.int mo), .val (.int kk), .val (.int bi), .val (.ref b106), .unset, .unset, .unset, .unset] [(.int (6 : Int32))])) rfl (hb hby at_249) rfl (by decide) (cap := 6) (by decide) (by decide) (by decide) (by decide) (ad := "[C") (by decide)
  obtain ⟨b189, g189⟩ : ∃ z, z = h1.size := ⟨_, rfl⟩
  rw [← g189] at A189 Ex189 st189
  have ne_b106_b189 : b106 ≠ b189 := Nat.ne_of_lt (Nat.lt_of_lt_of_le V_b106.lt (Nat.le_of_eq g189.symm))
  have g_b189 : n0 ≤ b189 := Nat.le_trans Z_ (Nat.le_of_eq g189.symm)
  have sf_b189 : Safe Z own_EL vm1 h1 b189 := Safe.new (Nat.le_of_eq g189.symm)
  have V_b106 := V_b106.ext E189
  have E_b106 := E_b106.ext E189
  have O_ := O_.ext E189
  have sf_b106 := Safe.ext E189 CR.1 sf_b106
  have sf_b189 := Safe.ext E189 CR.1 sf_b189
  have CR := CR.trans (CHr.ext E189 CR.1)
  have hk_ := Nat.le_trans hk_ E189.1
  have Z_ : n0 ≤ h189.size := Nat.le_trans Z_ E189.1
  have V_b189 : Arv Z h189 b189 k189 .char (6 : Int32) [(.int (0 : Int32)), (.int (0 : Int32)), (.int (0 : Int32)), (.int (0 : Int32)), (.int (0 : Int32)), (.int (0 : Int32))] (.int (0 : Int32)) := (Arv.new A189 (by decide)).pad (pad_rep [] (.int (0 : Int32)) 6)
  have E_b189 := Ex189
  refine .st st189 ?_
  show OwnGoW p e below s Z own_EL _ _ _ T189 (mkF m 251 _ [(.ref b189)])
  refine .astore X189 hx (hb hby at_251) rfl (L' := #[.val (.int p1), .val (.long p2), .second, .val (.long p3), .second, .val (.int (6 : Int32)), .val (.int lt), .val (.int mo), .val (.int kk), .val (.int bi), .val (.ref b106), .val (.ref b189), .unset, .unset, .unset]) rfl ?_
  refine .iload X189 hx (hb hby at_253) rfl ?_
  refine .ifNo X189 hx (hb hby at_255) ((if0 _ _).trans (tlt ((by decide) : (0 : Int32) < (6 : Int32))).2.2.2) ?_
  refine .aload X189 hx (hb hby at_258) rfl rfl ?_
  refine .iconst X189 hx (hb hby at_260) own_ki0 ?_
  refine .aload X189 hx (hb hby at_261) rfl rfl ?_
  refine .iconst X189 hx (hb hby at_263) own_ki0 ?_
  obtain ⟨cl190, Ar190, -, S190, -, H190, -⟩ := id V_b106
  have hin190 : ¬ ((0 : Int32) < 0 ∨ cl190.slots.size ≤ ((0 : Int32)).toNatClampNeg) := inb_of S190 ⟨by decide, by decide⟩
  refine .st (fun _ => X189.caload hx (j := (0 : Int32)) (v := (.int ch107)) (by first | exact Ar190.1 | (rw [e189]; exact Ar190.1)) (State.isArrayOf_alike hZ.alike Ar190.2.1) Ar190.2.2 hin190 (H190.at hin190 rfl) (g := (mkF m 264 #[.val (.int p1), .val (.long p2), .second, .val (.long p3), .second, .val (.int (6 : Int32)), .val (.int lt), .val (.int mo), .val (.int kk), .val (.int bi), .val (.ref b106), .val (.ref b189), .unset, .unset, .unset] [(.int (0 : Int32)), (.ref b106), (.int (0 : Int32)), (.ref b189)])) rfl rfl (hb hby at_264) _) ?_
  show OwnGoW p e below s Z own_EL _ _ _ T189 (mkF m 265 _ [(.int ch107), (.int (0 : Int32)), (.ref b189)])
  obtain ⟨cl191, Ar191, q191, S191, N191, H191, G191⟩ := id V_b189
  have hin191 : ¬ ((0 : Int32) < 0 ∨ cl191.slots.size ≤ ((0 : Int32)).toNatClampNeg) := inb_of S191 ⟨by decide, by decide⟩
  obtain ⟨T191, h191, X191, e191, W191, st191⟩ := stC X189 hx hZ e189 Ar191 (j := (0 : Int32)) hin191 (g := (mkF m 265 #[.val (.int p1), .val (.long p2), .second, .val (.long p3), .second, .val (.int (6 : Int32)), .val (.int lt), .val (.int mo), .val (.int kk), .val (.int bi), .val (.ref b106), .val (.ref b189), .unset, .unset, .unset] [(.int ch107), (.int (0 : Int32)), (.ref b189)])) rfl rfl (hb hby at_265)
  have V_b189 : Arv Z h191 b189 k189 .char (6 : Int32) [(.int (nar .char ch107)), (.int (0 : Int32)), (.int (0 : Int32)), (.int (0 : Int32)), (.int (0 : Int32)), (.int (0 : Int32))] (.int (0 : Int32)) := Arv.set Ar191 q191 S191 N191 H191 G191 (fits_nar_char _) W191 0 rfl (Nat.le_of_ble_eq_true rfl)
  rw [show nar .char ch107 = ch107 from (own_lnc hp_ch107)] at V_b189
  have V_b106 := V_b106.other W191 ne_b106_b189
  have E_b106 := E_b106.wr W191
  have E_b189 := E_b189.wr W191
  have O_ := O_.wr W191 g_b189
  have sf_ := sf_b189
  have CR0 := CR.1
  have CR := CR.trans (CHr.wr W191 sf_ CR.1)
  have sf_b106 := Safe.wr W191 sf_ CR0 sf_b106
  have sf_b189 := Safe.wr W191 sf_ CR0 sf_b189
  have hk_ := Nat.le_trans hk_ (Nat.le_of_eq W191.size.symm)
  have N191 := Fr.snoc X191 N0 g_b189
  have Z_ : n0 ≤ h191.size := by rw [W191.size]; exact Z_
  refine .st st191 ?_
  show OwnGoW p e below s Z own_EL _ _ _ T191 (mkF m 266 _ [])
  refine .iload X191 hx (hb hby at_266) rfl ?_
  refine .iconst X191 hx (hb hby at_268) own_ki1 ?_
  refine .icmpNo X191 hx (hb hby at_269) (tlt ((by decide) : (1 : Int32) < (6 : Int32))).2.2.2 ?_
  refine .aload X191 hx (hb hby at_272) rfl rfl ?_
  refine .iconst X191 hx (hb hby at_274) own_ki1 ?_
  refine .aload X191 hx (hb hby at_275) rfl rfl ?_
  refine .iconst X191 hx (hb hby at_277) own_ki1 ?_
  obtain ⟨cl192, Ar192, -, S192, -, H192, -⟩ := id V_b106
  have hin192 : ¬ ((1 : Int32) < 0 ∨ cl192.slots.size ≤ ((1 : Int32)).toNatClampNeg) := inb_of S192 ⟨by decide, by decide⟩
  refine .st (fun _ => X191.caload hx (j := (1 : Int32)) (v := (.int ch109)) (by first | exact Ar192.1 | (rw [e191]; exact Ar192.1)) (State.isArrayOf_alike hZ.alike Ar192.2.1) Ar192.2.2 hin192 (H192.at hin192 rfl) (g := (mkF m 278 #[.val (.int p1), .val (.long p2), .second, .val (.long p3), .second, .val (.int (6 : Int32)), .val (.int lt), .val (.int mo), .val (.int kk), .val (.int bi), .val (.ref b106), .val (.ref b189), .unset, .unset, .unset] [(.int (1 : Int32)), (.ref b106), (.int (1 : Int32)), (.ref b189)])) rfl rfl (hb hby at_278) _) ?_
  show OwnGoW p e below s Z own_EL _ _ _ T191 (mkF m 279 _ [(.int ch109), (.int (1 : Int32)), (.ref b189)])
  obtain ⟨cl193, Ar193, q193, S193, N193, H193, G193⟩ := id V_b189
  have hin193 : ¬ ((1 : Int32) < 0 ∨ cl193.slots.size ≤ ((1 : Int32)).toNatClampNeg) := inb_of S193 ⟨by decide, by decide⟩
  obtain ⟨T193, h193, X193, e193, W193, st193⟩ := stC X191 hx hZ e191 Ar193 (j := (1 : Int32)) hin193 (g := (mkF m 279 #[.val (.int p1), .val (.long p2), .second, .val (.long p3), .second, .val (.int (6 : Int32)), .val (.int lt), .val (.int mo), .val (.int kk), .val (.int bi), .val (.ref b106), .val (.ref b189), .unset, .unset, .unset] [(.int ch109), (.int (1 : Int32)), (.ref b189)])) rfl rfl (hb hby at_279)
  have V_b189 : Arv Z h193 b189 k189 .char (6 : Int32) [(.int ch107), (.int (nar .char ch109)), (.int (0 : Int32)), (.int (0 : Int32)), (.int (0 : Int32)), (.int (0 : Int32))] (.int (0 : Int32)) := Arv.set Ar193 q193 S193 N193 H193 G193 (fits_nar_char _) W193 1 rfl (Nat.le_of_ble_eq_true rfl)
  rw [show nar .char ch109 = ch109 from (own_lnc hp_ch109)] at V_b189
  have V_b106 := V_b106.other W193 ne_b106_b189
  have E_b106 := E_b106.wr W193
  have E_b189 := E_b189.wr W193
  have O_ := O_.wr W193 g_b189
  have sf_ := sf_b189
  have CR0 := CR.1
  have CR := CR.trans (CHr.wr W193 sf_ CR.1)
  have sf_b106 := Safe.wr W193 sf_ CR0 sf_b106
  have sf_b189 := Safe.wr W193 sf_ CR0 sf_b189
  have hk_ := Nat.le_trans hk_ (Nat.le_of_eq W193.size.symm)
  have N193 := Fr.snoc X193 N191 g_b189
  have Z_ : n0 ≤ h193.size := by rw [W193.size]; exact Z_
  refine .st st193 ?_
  show OwnGoW p e below s Z own_EL _ _ _ T193 (mkF m 280 _ [])
  refine .iload X193 hx (hb hby at_280) rfl ?_
  refine .iconst X193 hx (hb hby at_282) own_ki2 ?_
  refine .icmpNo X193 hx (hb hby at_283) (tlt ((by decide) : (2 : Int32) < (6 : Int32))).2.2.2 ?_
  refine .aload X193 hx (hb hby at_286) rfl rfl ?_
  refine .iconst X193 hx (hb hby at_288) own_ki2 ?_
  refine .aload X193 hx (hb hby at_289) rfl rfl ?_
  refine .iconst X193 hx (hb hby at_291) own_ki2 ?_
  obtain ⟨cl194, Ar194, -, S194, -, H194, -⟩ := id V_b106
  have hin194 : ¬ ((2 : Int32) < 0 ∨ cl194.slots.size ≤ ((2 : Int32)).toNatClampNeg) := inb_of S194 ⟨by decide, by decide⟩
  refine .st (fun _ => X193.caload hx (j := (2 : Int32)) (v := (.int ch111)) (by first | exact Ar194.1 | (rw [e193]; exact Ar194.1)) (State.isArrayOf_alike hZ.alike Ar194.2.1) Ar194.2.2 hin194 (H194.at hin194 rfl) (g := (mkF m 292 #[.val (.int p1), .val (.long p2), .second, .val (.long p3), .second, .val (.int (6 : Int32)), .val (.int lt), .val (.int mo), .val (.int kk), .val (.int bi), .val (.ref b106), .val (.ref b189), .unset, .unset, .unset] [(.int (2 : Int32)), (.ref b106), (.int (2 : Int32)), (.ref b189)])) rfl rfl (hb hby at_292) _) ?_
  show OwnGoW p e below s Z own_EL _ _ _ T193 (mkF m 293 _ [(.int ch111), (.int (2 : Int32)), (.ref b189)])
  obtain ⟨cl195, Ar195, q195, S195, N195, H195, G195⟩ := id V_b189
  have hin195 : ¬ ((2 : Int32) < 0 ∨ cl195.slots.size ≤ ((2 : Int32)).toNatClampNeg) := inb_of S195 ⟨by decide, by decide⟩
  obtain ⟨T195, h195, X195, e195, W195, st195⟩ := stC X193 hx hZ e193 Ar195 (j := (2 : Int32)) hin195 (g := (mkF m 293 #[.val (.int p1), .val (.long p2), .second, .val (.long p3), .second, .val (.int (6 : Int32)), .val (.int lt), .val (.int mo), .val (.int kk), .val (.int bi), .val (.ref b106), .val (.ref b189), .unset, .unset, .unset] [(.int ch111), (.int (2 : Int32)), (.ref b189)])) rfl rfl (hb hby at_293)
  have V_b189 : Arv Z h195 b189 k189 .char (6 : Int32) [(.int ch107), (.int ch109), (.int (nar .char ch111)), (.int (0 : Int32)), (.int (0 : Int32)), (.int (0 : Int32))] (.int (0 : Int32)) := Arv.set Ar195 q195 S195 N195 H195 G195 (fits_nar_char _) W195 2 rfl (Nat.le_of_ble_eq_true rfl)
  rw [show nar .char ch111 = ch111 from (own_lnc hp_ch111)] at V_b189
  have V_b106 := V_b106.other W195 ne_b106_b189
  have E_b106 := E_b106.wr W195
  have E_b189 := E_b189.wr W195
  have O_ := O_.wr W195 g_b189
  have sf_ := sf_b189
  have CR0 := CR.1
  have CR := CR.trans (CHr.wr W195 sf_ CR.1)
  have sf_b106 := Safe.wr W195 sf_ CR0 sf_b106
  have sf_b189 := Safe.wr W195 sf_ CR0 sf_b189
  have hk_ := Nat.le_trans hk_ (Nat.le_of_eq W195.size.symm)
  have N195 := Fr.snoc X195 N193 g_b189
  have Z_ : n0 ≤ h195.size := by rw [W195.size]; exact Z_
  refine .st st195 ?_
  show OwnGoW p e below s Z own_EL _ _ _ T195 (mkF m 294 _ [])
  refine .iload X195 hx (hb hby at_294) rfl ?_
  refine .iconst X195 hx (hb hby at_296) own_ki3 ?_
  refine .icmpNo X195 hx (hb hby at_297) (tlt ((by decide) : (3 : Int32) < (6 : Int32))).2.2.2 ?_
  refine .aload X195 hx (hb hby at_300) rfl rfl ?_
  refine .iconst X195 hx (hb hby at_302) own_ki3 ?_
  refine .aload X195 hx (hb hby at_303) rfl rfl ?_
  refine .iconst X195 hx (hb hby at_305) own_ki3 ?_
  obtain ⟨cl196, Ar196, -, S196, -, H196, -⟩ := id V_b106
  have hin196 : ¬ ((3 : Int32) < 0 ∨ cl196.slots.size ≤ ((3 : Int32)).toNatClampNeg) := inb_of S196 ⟨by decide, by decide⟩
  refine .st (fun _ => X195.caload hx (j := (3 : Int32)) (v := (.int ch113)) (by first | exact Ar196.1 | (rw [e195]; exact Ar196.1)) (State.isArrayOf_alike hZ.alike Ar196.2.1) Ar196.2.2 hin196 (H196.at hin196 rfl) (g := (mkF m 306 #[.val (.int p1), .val (.long p2), .second, .val (.long p3), .second, .val (.int (6 : Int32)), .val (.int lt), .val (.int mo), .val (.int kk), .val (.int bi), .val (.ref b106), .val (.ref b189), .unset, .unset, .unset] [(.int (3 : Int32)), (.ref b106), (.int (3 : Int32)), (.ref b189)])) rfl rfl (hb hby at_306) _) ?_
  show OwnGoW p e below s Z own_EL _ _ _ T195 (mkF m 307 _ [(.int ch113), (.int (3 : Int32)), (.ref b189)])
  obtain ⟨cl197, Ar197, q197, S197, N197, H197, G197⟩ := id V_b189
  have hin197 : ¬ ((3 : Int32) < 0 ∨ cl197.slots.size ≤ ((3 : Int32)).toNatClampNeg) := inb_of S197 ⟨by decide, by decide⟩
  obtain ⟨T197, h197, X197, e197, W197, st197⟩ := stC X195 hx hZ e195 Ar197 (j := (3 : Int32)) hin197 (g := (mkF m 307 #[.val (.int p1), .val (.long p2), .second, .val (.long p3), .second, .val (.int (6 : Int32)), .val (.int lt), .val (.int mo), .val (.int kk), .val (.int bi), .val (.ref b106), .val (.ref b189), .unset, .unset, .unset] [(.int ch113), (.int (3 : Int32)), (.ref b189)])) rfl rfl (hb hby at_307)
  have V_b189 : Arv Z h197 b189 k189 .char (6 : Int32) [(.int ch107), (.int ch109), (.int ch111), (.int (nar .char ch113)), (.int (0 : Int32)), (.int (0 : Int32))] (.int (0 : Int32)) := Arv.set Ar197 q197 S197 N197 H197 G197 (fits_nar_char _) W197 3 rfl (Nat.le_of_ble_eq_true rfl)
  rw [show nar .char ch113 = ch113 from (own_lnc hp_ch113)] at V_b189
  have V_b106 := V_b106.other W197 ne_b106_b189
  have E_b106 := E_b106.wr W197
  have E_b189 := E_b189.wr W197
  have O_ := O_.wr W197 g_b189
  have sf_ := sf_b189
  have CR0 := CR.1
  have CR := CR.trans (CHr.wr W197 sf_ CR.1)
  have sf_b106 := Safe.wr W197 sf_ CR0 sf_b106
  have sf_b189 := Safe.wr W197 sf_ CR0 sf_b189
  have hk_ := Nat.le_trans hk_ (Nat.le_of_eq W197.size.symm)
  have N197 := Fr.snoc X197 N195 g_b189
  have Z_ : n0 ≤ h197.size := by rw [W197.size]; exact Z_
  refine .st st197 ?_
  show OwnGoW p e below s Z own_EL _ _ _ T197 (mkF m 308 _ [])
  refine .iload X197 hx (hb hby at_308) rfl ?_
  refine .iconst X197 hx (hb hby at_310) own_ki4 ?_
  refine .icmpNo X197 hx (hb hby at_311) (tlt ((by decide) : (4 : Int32) < (6 : Int32))).2.2.2 ?_
  refine .aload X197 hx (hb hby at_314) rfl rfl ?_
  refine .iconst X197 hx (hb hby at_316) own_ki4 ?_
  refine .aload X197 hx (hb hby at_317) rfl rfl ?_
  refine .iconst X197 hx (hb hby at_319) own_ki4 ?_
  obtain ⟨cl198, Ar198, -, S198, -, H198, -⟩ := id V_b106
  have hin198 : ¬ ((4 : Int32) < 0 ∨ cl198.slots.size ≤ ((4 : Int32)).toNatClampNeg) := inb_of S198 ⟨by decide, by decide⟩
  refine .st (fun _ => X197.caload hx (j := (4 : Int32)) (v := (.int ch115)) (by first | exact Ar198.1 | (rw [e197]; exact Ar198.1)) (State.isArrayOf_alike hZ.alike Ar198.2.1) Ar198.2.2 hin198 (H198.at hin198 rfl) (g := (mkF m 320 #[.val (.int p1), .val (.long p2), .second, .val (.long p3), .second, .val (.int (6 : Int32)), .val (.int lt), .val (.int mo), .val (.int kk), .val (.int bi), .val (.ref b106), .val (.ref b189), .unset, .unset, .unset] [(.int (4 : Int32)), (.ref b106), (.int (4 : Int32)), (.ref b189)])) rfl rfl (hb hby at_320) _) ?_
  show OwnGoW p e below s Z own_EL _ _ _ T197 (mkF m 321 _ [(.int ch115), (.int (4 : Int32)), (.ref b189)])
  obtain ⟨cl199, Ar199, q199, S199, N199, H199, G199⟩ := id V_b189
  have hin199 : ¬ ((4 : Int32) < 0 ∨ cl199.slots.size ≤ ((4 : Int32)).toNatClampNeg) := inb_of S199 ⟨by decide, by decide⟩
  obtain ⟨T199, h199, X199, e199, W199, st199⟩ := stC X197 hx hZ e197 Ar199 (j := (4 : Int32)) hin199 (g := (mkF m 321 #[.val (.int p1), .val (.long p2), .second, .val (.long p3), .second, .val (.int (6 : Int32)), .val (.int lt), .val (.int mo), .val (.int kk), .val (.int bi), .val (.ref b106), .val (.ref b189), .unset, .unset, .unset] [(.int ch115), (.int (4 : Int32)), (.ref b189)])) rfl rfl (hb hby at_321)
  have V_b189 : Arv Z h199 b189 k189 .char (6 : Int32) [(.int ch107), (.int ch109), (.int ch111), (.int ch113), (.int (nar .char ch115)), (.int (0 : Int32))] (.int (0 : Int32)) := Arv.set Ar199 q199 S199 N199 H199 G199 (fits_nar_char _) W199 4 rfl (Nat.le_of_ble_eq_true rfl)
  rw [show nar .char ch115 = ch115 from (own_lnc hp_ch115)] at V_b189
  have V_b106 := V_b106.other W199 ne_b106_b189
  have E_b106 := E_b106.wr W199
  have E_b189 := E_b189.wr W199
  have O_ := O_.wr W199 g_b189
  have sf_ := sf_b189
  have CR0 := CR.1
  have CR := CR.trans (CHr.wr W199 sf_ CR.1)
  have sf_b106 := Safe.wr W199 sf_ CR0 sf_b106
  have sf_b189 := Safe.wr W199 sf_ CR0 sf_b189
  have hk_ := Nat.le_trans hk_ (Nat.le_of_eq W199.size.symm)
  have N199 := Fr.snoc X199 N197 g_b189
  have Z_ : n0 ≤ h199.size := by rw [W199.size]; exact Z_
  refine .st st199 ?_
  show OwnGoW p e below s Z own_EL _ _ _ T199 (mkF m 322 _ [])
  refine .iload X199 hx (hb hby at_322) rfl ?_
  refine .iconst X199 hx (hb hby at_324) own_ki5 ?_
  refine .icmpNo X199 hx (hb hby at_325) (tlt ((by decide) : (5 : Int32) < (6 : Int32))).2.2.2 ?_
  refine .aload X199 hx (hb hby at_328) rfl rfl ?_
  refine .iconst X199 hx (hb hby at_330) own_ki5 ?_
  refine .aload X199 hx (hb hby at_331) rfl rfl ?_
  refine .iconst X199 hx (hb hby at_333) own_ki5 ?_
  obtain ⟨cl200, Ar200, -, S200, -, H200, -⟩ := id V_b106
  have hin200 : ¬ ((5 : Int32) < 0 ∨ cl200.slots.size ≤ ((5 : Int32)).toNatClampNeg) := inb_of S200 ⟨by decide, by decide⟩
  refine .st (fun _ => X199.caload hx (j := (5 : Int32)) (v := (.int ch117)) (by first | exact Ar200.1 | (rw [e199]; exact Ar200.1)) (State.isArrayOf_alike hZ.alike Ar200.2.1) Ar200.2.2 hin200 (H200.at hin200 rfl) (g := (mkF m 334 #[.val (.int p1), .val (.long p2), .second, .val (.long p3), .second, .val (.int (6 : Int32)), .val (.int lt), .val (.int mo), .val (.int kk), .val (.int bi), .val (.ref b106), .val (.ref b189), .unset, .unset, .unset] [(.int (5 : Int32)), (.ref b106), (.int (5 : Int32)), (.ref b189)])) rfl rfl (hb hby at_334) _) ?_
  show OwnGoW p e below s Z own_EL _ _ _ T199 (mkF m 335 _ [(.int ch117), (.int (5 : Int32)), (.ref b189)])
  obtain ⟨cl201, Ar201, q201, S201, N201, H201, G201⟩ := id V_b189
  have hin201 : ¬ ((5 : Int32) < 0 ∨ cl201.slots.size ≤ ((5 : Int32)).toNatClampNeg) := inb_of S201 ⟨by decide, by decide⟩
  obtain ⟨T201, h201, X201, e201, W201, st201⟩ := stC X199 hx hZ e199 Ar201 (j := (5 : Int32)) hin201 (g := (mkF m 335 #[.val (.int p1), .val (.long p2), .second, .val (.long p3), .second, .val (.int (6 : Int32)), .val (.int lt), .val (.int mo), .val (.int kk), .val (.int bi), .val (.ref b106), .val (.ref b189), .unset, .unset, .unset] [(.int ch117), (.int (5 : Int32)), (.ref b189)])) rfl rfl (hb hby at_335)
  have V_b189 : Arv Z h201 b189 k189 .char (6 : Int32) [(.int ch107), (.int ch109), (.int ch111), (.int ch113), (.int ch115), (.int (nar .char ch117))] (.int (0 : Int32)) := Arv.set Ar201 q201 S201 N201 H201 G201 (fits_nar_char _) W201 5 rfl (Nat.le_of_ble_eq_true rfl)
  rw [show nar .char ch117 = ch117 from (own_lnc hp_ch117)] at V_b189
  have V_b106 := V_b106.other W201 ne_b106_b189
  have E_b106 := E_b106.wr W201
  have E_b189 := E_b189.wr W201
  have O_ := O_.wr W201 g_b189
  have sf_ := sf_b189
  have CR0 := CR.1
  have CR := CR.trans (CHr.wr W201 sf_ CR.1)
  have sf_b106 := Safe.wr W201 sf_ CR0 sf_b106
  have sf_b189 := Safe.wr W201 sf_ CR0 sf_b189
  have hk_ := Nat.le_trans hk_ (Nat.le_of_eq W201.size.symm)
  have N201 := Fr.snoc X201 N199 g_b189
  have Z_ : n0 ≤ h201.size := by rw [W201.size]; exact Z_
  refine .st st201 ?_
  show OwnGoW p e below s Z own_EL _ _ _ T201 (mkF m 336 _ [])
  refine .iload X201 hx (hb hby at_336) rfl ?_
  refine .bipush X201 hx (hb hby at_338) own_kb6 ?_
  refine .icmpYes (pc := 340) X201 hx 353 (hb hby at_340) (flt ((by decide) : ¬ ((6 : Int32) < (6 : Int32)))).2.2.2 (by decide) (by decide) ?_
  refine .iload X201 hx (hb hby at_353) rfl ?_
  refine .bipush X201 hx (hb hby at_355) own_kb7 ?_
  refine .icmpYes (pc := 357) X201 hx 370 (hb hby at_357) (flt ((by decide) : ¬ ((7 : Int32) < (6 : Int32)))).2.2.2 (by decide) (by decide) ?_
  refine .iload X201 hx (hb hby at_370) rfl ?_
  refine .bipush X201 hx (hb hby at_372) own_kb8 ?_
  refine .icmpYes (pc := 374) X201 hx 387 (hb hby at_374) (flt ((by decide) : ¬ ((8 : Int32) < (6 : Int32)))).2.2.2 (by decide) (by decide) ?_
  refine .iload X201 hx (hb hby at_387) rfl ?_
  refine .bipush X201 hx (hb hby at_389) own_kb9 ?_
  refine .icmpYes (pc := 391) X201 hx 404 (hb hby at_391) (flt ((by decide) : ¬ ((9 : Int32) < (6 : Int32)))).2.2.2 (by decide) (by decide) ?_
  obtain ⟨T202, h202, X202, e202, E202, A202, D202, -, st202⟩ := newO X201 hx hZ hown (W_ hw 39 rfl) (W_ hw 8 rfl) (W_ hw 7 rfl) e201 (g := (mkF m 404 #[.val (.int p1), .val (.long p2), .second, .val (.long p3), .second, .val (.int (6 : Int32)), .val (.int lt), .val (.int mo), .val (.int kk), .val (.int bi), .val (.ref b106), .val (.ref b189), .unset, .unset, .unset] [])) rfl (hb hby at_404) (by decide) (by decide)
  obtain ⟨b202, g202⟩ : ∃ z, z = h201.size := ⟨_, rfl⟩
  rw [← g202] at A202 D202 st202
  have ne_b106_b202 : b106 ≠ b202 := Nat.ne_of_lt (Nat.lt_of_lt_of_le V_b106.lt (Nat.le_of_eq g202.symm))
  have ne_b189_b202 : b189 ≠ b202 := Nat.ne_of_lt (Nat.lt_of_lt_of_le V_b189.lt (Nat.le_of_eq g202.symm))
  have g_b202 : n0 ≤ b202 := Nat.le_trans Z_ (Nat.le_of_eq g202.symm)
  have sf_b202 : Safe Z own_EL vm1 h201 b202 := Safe.new (Nat.le_of_eq g202.symm)
  have V_b106 := V_b106.ext E202
  have E_b106 := E_b106.ext E202
  have V_b189 := V_b189.ext E202
  have E_b189 := E_b189.ext E202
  have O_ := O_.ext E202
  have sf_b106 := Safe.ext E202 CR.1 sf_b106
  have sf_b189 := Safe.ext E202 CR.1 sf_b189
  have sf_b202 := Safe.ext E202 CR.1 sf_b202
  have CR := CR.trans (CHr.ext E202 CR.1)
  have hk_ := Nat.le_trans hk_ E202.1
  have Z_ : n0 ≤ h202.size := Nat.le_trans Z_ E202.1
  have E_b202 := A202
  have F_value_b202 : Fld Z h202 b202 "java/lang/String" "value" "[B" .null := D202 (Or.inr (W_ hw 10 rfl)) (ty := (.array .byte)) (by decide)
  have F_coder_b202 : Fld Z h202 b202 "java/lang/String" "coder" "B" (.int (0 : Int32)) := D202 (Or.inr (W_ hw 11 rfl)) (ty := .byte) (by decide)
  refine .st st202 ?_
  show OwnGoW p e below s Z own_EL _ _ _ T202 (mkF m 407 _ [(.ref b202)])
  refine .dup X202 hx (hb hby at_407) rfl ?_
  refine .aload X202 hx (hb hby at_408) rfl rfl ?_
  have hp203 : ∀ c ∈ ([ch107, ch109, ch111, ch113, ch115, ch117] : List Int32), ¬ c < 0 ∧ ¬ (255 : Int32) < c := by
    intro c hc
    simp only [List.mem_cons, List.not_mem_nil, or_false] at hc
    rcases hc with rfl | rfl | rfl | rfl | rfl | rfl
    · exact hp_ch107
    · exact hp_ch109
    · exact hp_ch111
    · exact hp_ch113
    · exact hp_ch115
    · exact hp_ch117
  obtain ⟨_, _, ⟨T204, L204, k204, n204⟩, -, X204, ⟨Lc204, hQ204, l204, y204, z204⟩, st204⟩ := X202.specialBack hx (y := (⟨"java/lang/String", "<init>", "([C)V"⟩ : MethodName)) rfl hown (mvT hZ (W_ hw 40 rfl)) (mvT hZ (W_ hw 41 rfl)) (mvT hZ (W_ hw 42 rfl)) (by decide) (StrChars.Road.backV (W := 1) hZ (own_ws hw) (kI := 4) (W_ hw 8 rfl) (cs := ([ch107, ch109, ch111, ch113, ch115, ch117] : List Int32)) (bs := ([ch107, ch109, ch111, ch113, ch115, ch117] : List Int32).map (fun c => c.toInt8.toInt32)) (n := 6) g_b202 Z_ E_b202 F_value_b202 F_coder_b202 V_b189 (S_CS.ext O_.2) P_CS rfl rfl (by decide) (by decide) hp203 rfl (by decide) (by decide)) (g := (mkF m 410 #[.val (.int p1), .val (.long p2), .second, .val (.long p3), .second, .val (.int (6 : Int32)), .val (.int lt), .val (.int mo), .val (.int kk), .val (.int bi), .val (.ref b106), .val (.ref b189), .unset, .unset, .unset] [(.ref b189), (.ref b202), (.ref b202)])) rfl (by rw [hml]; rfl) (Steps.refl _) (a := b202) (argsL := [(.ref b189)]) (rest := [(.ref b202)]) (lenOf pd_9 rfl) rfl (Nat.le_of_eq rfl) (hb hby at_410) (fun _ _ => ⟨rfl, e202, (by decide : 23 + 1 ≤ _), (by decide : 420 + 6 ≤ _)⟩)
  dsimp only [Pt.U, Pt.locs, Pt.cells, Pt.slots] at X204 l204 y204 z204 st204 hQ204
  subst l204 y204 z204
  obtain ⟨rfl, N204q, K204, Ex204, Fc_b202, t204, kb204, gt204, zz204, nt204, Fv_b202, V204⟩ := hQ204
  have N204 := Fr.app N201 N204q
  have zt204 : h202.size ≤ t204 := zz204
  have ne_b106_t204 : b106 ≠ t204 := Nat.ne_of_lt (Nat.lt_of_lt_of_le V_b106.lt zt204)
  have ne_b189_t204 : b189 ≠ t204 := Nat.ne_of_lt (Nat.lt_of_lt_of_le V_b189.lt zt204)
  have ne_b202_t204 : b202 ≠ t204 := Nat.ne_of_lt (Nat.lt_of_lt_of_le E_b202.lt zt204)
  have g_t204 : n0 ≤ t204 := Nat.le_trans Z_ zt204
  have V204 : Arv Z T204.heap t204 kb204 .byte (6 : Int32) [(.int ch107.toInt8.toInt32), (.int ch109.toInt8.toInt32), (.int ch111.toInt8.toInt32), (.int ch113.toInt8.toInt32), (.int ch115.toInt8.toInt32), (.int ch117.toInt8.toInt32)] (.int (0 : Int32)) := V204
  have Z_ : n0 ≤ T204.heap.size := Nat.le_trans Z_ K204.1
  have V_b106 := V_b106.keep K204 (ninS ne_b106_b202 nin0)
  have E_b106 := E_b106.keep K204
  have V_b189 := V_b189.keep K204 (ninS ne_b189_b202 nin0)
  have E_b189 := E_b189.keep K204
  have E_b202 := E_b202.keep K204
  have O_ := O_.keep K204 (allS g_b202 all0)
  have sf_b106' := Safe.keep K204 (sfS sf_b202 sf0) CR.1 sf_b106
  have sf_b189' := Safe.keep K204 (sfS sf_b202 sf0) CR.1 sf_b189
  have sf_b202' := Safe.keep K204 (sfS sf_b202 sf0) CR.1 sf_b202
  have CR := CR.trans (CHr.keep K204 (sfS sf_b202 sf0) CR.1)
  have hk_ := Nat.le_trans hk_ K204.1
  have sf_b106 := sf_b106'
  have sf_b189 := sf_b189'
  have sf_b202 := sf_b202'
  refine .st (fun _ => st204.trans) ?_
  show OwnGoW p e below s Z own_EL _ _ _ T204 (mkF m 413 _ [(.ref b202)])
  refine .astore X204 hx (hb hby at_413) rfl (L' := #[.val (.int p1), .val (.long p2), .second, .val (.long p3), .second, .val (.int (6 : Int32)), .val (.int lt), .val (.int mo), .val (.int kk), .val (.int bi), .val (.ref b106), .val (.ref b189), .val (.ref b202), .unset, .unset]) rfl ?_
  refine .iload X204 hx (hb hby at_415) rfl ?_
  refine .bipush X204 hx (hb hby at_417) own_kb9 ?_
  refine .icmpYes (pc := 419) X204 hx 510 (hb hby at_419) (feq ((by decide) : ¬ ((6 : Int32) = (9 : Int32)))).2 (by decide) (by decide) ?_
  refine .iconst X204 hx (hb hby at_510) own_ki0 ?_
  refine .istore X204 hx (hb hby at_511) (L' := #[.val (.int p1), .val (.long p2), .second, .val (.long p3), .second, .val (.int (6 : Int32)), .val (.int lt), .val (.int mo), .val (.int kk), .val (.int bi), .val (.ref b106), .val (.ref b189), .val (.ref b202), .val (.int (0 : Int32)), .unset]) rfl ?_
  refine .iload X204 hx (hb hby at_513) rfl ?_
  refine .iconst X204 hx (hb hby at_515) own_ki2 ?_
  refine .icmpYes (pc := 516) X204 hx 541 (hb hby at_516) (feq ((by decide) : ¬ ((6 : Int32) = (2 : Int32)))).2 (by decide) (by decide) ?_
  refine .iconst X204 hx (hb hby at_541) own_ki0 ?_
  refine .istore X204 hx (hb hby at_542) (L' := #[.val (.int p1), .val (.long p2), .second, .val (.long p3), .second, .val (.int (6 : Int32)), .val (.int lt), .val (.int mo), .val (.int kk), .val (.int bi), .val (.ref b106), .val (.ref b189), .val (.ref b202), .val (.int (0 : Int32)), .val (.int (0 : Int32))]) rfl ?_
  refine .aload X204 hx (hb hby at_544) rfl rfl ?_
  obtain ⟨_, _, ⟨T205, L205, k205, n205⟩, -, X205, hS205, hg205, ⟨Lc205, hQ205, l205, y205, z205, CN205⟩, st205⟩ := callSS (s := s.setVm vm1) X204 hx (y := (⟨"com/example/mapweft/mapweft/Options", "isVerbose", "(Ljava/lang/String;)Z"⟩ : MethodName)) hown (mvT hZ (W_ hw 51 rfl)) (mvT hZ (W_ hw 52 rfl)) (mvT hZ (W_ hw 53 rfl)) (mvT hZ (W_ hw 54 rfl)) (by decide) (backOfSH (s := s) (vm0 := vm1) (W := 0) (rmisVN l Z a0 hw [] b202 t204 kb204 (6 : Int32) [(.int ch107.toInt8.toInt32), (.int ch109.toInt8.toInt32), (.int ch111.toInt8.toInt32), (.int ch113.toInt8.toInt32), (.int ch115.toInt8.toInt32), (.int ch117.toInt8.toInt32)] zc T204.heap n0 Z_ O_ S_CS P_CS E_b202 Fc_b202 Fv_b202 V204 (by decide) (by decide)) hZ (W_ hw 54 rfl) (W_ hw 53 rfl) (by decide) (by decide) (own_hEL hw) CR.1) (g := (mkF m 546 #[.val (.int p1), .val (.long p2), .second, .val (.long p3), .second, .val (.int (6 : Int32)), .val (.int lt), .val (.int mo), .val (.int kk), .val (.int bi), .val (.ref b106), .val (.ref b189), .val (.ref b202), .val (.int (0 : Int32)), .val (.int (0 : Int32))] [(.ref b202)])) rfl (by rw [hml]; rfl) (argsL := [(.ref b202)]) (rest := []) (lenOf pd_10 rfl) rfl (Nat.le_of_eq rfl) (hb hby at_546) (fun _ _ => ⟨rfl, rfl, (by decide : 24 + 4 ≤ _), (by decide : 426 + 52 ≤ _)⟩)
  dsimp only [Pt.U, Pt.locs, Pt.cells, Pt.slots] at X205 hS205 hg205 l205 y205 z205 CN205 st205 hQ205
  subst l205 y205 z205
  obtain ⟨X205, hS_, hZ, hown⟩ := rebS hS_ (show _ ≤ T204.heap.size by rw [(rfl : T204.heap = T204.heap)]; exact hk_) X205 hS205 hg205 hZ hown
  obtain ⟨rfl, N205q, K205⟩ := hQ205
  have N205 := Fr.app N204 N205q
  have lt_b106 : b106 < T204.heap.size := V_b106.lt
  have lt_b189 : b189 < T204.heap.size := V_b189.lt
  have lt_b202 : b202 < T204.heap.size := E_b202.lt
  have Z_ : n0 ≤ T205.heap.size := Nat.le_trans Z_ K205.1
  have V_b106 := V_b106.keep K205 nin0
  have E_b106 := E_b106.keep K205
  have V_b189 := V_b189.keep K205 nin0
  have E_b189 := E_b189.keep K205
  have E_b202 := E_b202.keep K205
  have Fc_b202 := Fc_b202.keep K205 nin0
  have Fv_b202 := Fv_b202.keep K205 nin0
  have V204 := V204.keep K205 nin0
  have O_ := O_.keep K205 all0
  have sf_b106 := CN205.safe lt_b106 sf_b106
  have sf_b189 := CN205.safe lt_b189 sf_b189
  have sf_b202 := CN205.safe lt_b202 sf_b202
  have CR := CR.trans CN205
  have hk_ := Nat.le_refl T205.heap.size
  refine .st (fun _ => st205.trans) ?_
  show OwnGoW p e below s Z own_EL _ _ _ T205 (mkF m 549 _ [(.int (0 : Int32))])
  refine .iload X205 hx (hb hby at_549) rfl ?_
  refine .ifNo X205 hx (hb hby at_551) ((if0 _ _).trans (teq ((by decide) : (0 : Int32) = (0 : Int32))).2) ?_
  refine .iload X205 hx (hb hby at_554) rfl ?_
  refine .ifYes (pc := 556) X205 hx 563 (hb hby at_556) ((if0 _ _).trans (teq ((by decide) : (0 : Int32) = (0 : Int32))).1) (by decide) (by decide) ?_
  refine .iconst X205 hx (hb hby at_563) own_ki0 ?_
  refine .icmpNo X205 hx (hb hby at_564) (teq ((by decide) : (0 : Int32) = (0 : Int32))).2 ?_
  refine .iconst X205 hx (hb hby at_567) own_ki1 ?_
  refine .goto (pc := 568) X205 hx 572 (hb hby at_568) (by decide) (by decide) ?_
  exact OwnGoW.retN (s := s) (vm0 := T205.vm) X205 hS_ hk_ rfl hZ (own_hEL hw) CR hx (t := .boolean) hret hlk (by simp) (hb hby at_572) (by show Q0 Z p1 p2 p3 zc fmv h0 n0 _ T205.heap _; exact ⟨rfl, N205⟩) (by decide) (by decide)
theorem sg7 {p : Program} {l : Launch} {e : Env} {s : State} {m : MethodId} {below : List Frame} {meth : Method} {c : Code} {Z : State} {a0 : Array Value} {T0 : State} {locs : List Loc} {vm1 : Vm} {k1 : Nat} {h1 : Heap} (p1 : Int32) (p2 : Int64) (p3 : Int64) (zc : Int32) (fmv : Value) (lt : Int32) (mo : Int32) (kk : Int32) (bi : Int32) (ch107 : Int32) (ch109 : Int32) (ch111 : Int32) (ch113 : Int32) (ch115 : Int32) (ch117 : Int32) (ch119 : Int32) (ch121 : Int32) (ch123 : Int32) (ch125 : Int32) (b106 : Addr) (k106 : ClassId) (h0 : Heap) (n0 : Nat) (hw : ∀ d ∈ tables_1, d.before a0 Z = true)
    (X0 : Stand p l e room_1 (s.setVm vm1) m #[(.int p1), (.long p2), (.long p3)] below meth c T0 locs 21 410) (hx : p.tables.exec = Jvm.exec) (hby : c.code = code) (hml : c.maxLocals = 15) (hret : meth.sig.returnType = ret) (hlk : meth.locks = false) (hown : (s.setVm vm1).vm.findClass "com/example/mapweft/mapweft/OptionsIsVerbosePinLaw" = some m.cls) (hnm : meth.name = "law") (hZ : Z.Warmed39 (s.setVm vm1).vm) (e0 : T0.heap = h1) (N0 : Fr n0 locs) (Z_ : n0 ≤ h1.size) (hS_ : s.Since vm1 k1) (hk_ : k1 ≤ h1.size) (CR : CHr Z own_EL s.vm s.heap vm1 h1) (S_CS : Sta Z Z.heap "java/lang/String" "COMPACT_STRINGS" "Z" (.int zc)) (P_CS : ¬ zc = (0 : Int32)) (S_SF : Sta Z Z.heap "jdk/internal/util/Preconditions" "SIOOBE_FORMATTER" "Ljava/util/function/BiFunction;" fmv) (rf_fmv : fmv.isRef = true) (V_b106 : Arv Z h1 b106 k106 .char (10 : Int32) [(.int ch107), (.int ch109), (.int ch111), (.int ch113), (.int ch115), (.int ch117), (.int ch119), (.int ch121), (.int ch123), (.int ch125)] (.int (0 : Int32))) (E_b106 : Exa Z h1 b106 "[C") (sf_b106 : Safe Z own_EL vm1 h1 b106) (O_ : Old Z n0 h1) (g_b106 : n0 ≤ b106) (hp_ch107 : ¬ ch107 < 0 ∧ ¬ (255 : Int32) < ch107) (hp_ch109 : ¬ ch109 < 0 ∧ ¬ (255 : Int32) < ch109) (hp_ch111 : ¬ ch111 < 0 ∧ ¬ (255 : Int32) < ch111) (hp_ch113 : ¬ ch113 < 0 ∧ ¬ (255 : Int32) < ch113) (hp_ch115 : ¬ ch115 < 0 ∧ ¬ (255 : Int32) < ch115) (hp_ch117 : ¬ ch117 < 0 ∧ ¬ (255 : Int32) < ch117) (hp_ch119 : ¬ ch119 < 0 ∧ ¬ (255 : Int32) < ch119) (hp_ch121 : ¬ ch121 < 0 ∧ ¬ (255 : Int32) < ch121) (hp_ch123 : ¬ ch123 < 0 ∧ ¬ (255 : Int32) < ch123) (hp_ch125 : ¬ ch125 < 0 ∧ ¬ (255 : Int32) < ch125) :
    OwnGoW p e below s Z own_EL room_1.cells room_1.slots (Q0 Z p1 p2 p3 zc fmv h0 n0) T0 (mkF m 247 #[.val (.int p1), .val (.long p2), .second, .val (.long p3), .second, .val (.int (7 : Int32)), .val (.int lt), .val (.int mo), .val (.int kk), .val (.int bi), .val (.ref b106), .unset, .unset, .unset, .unset] []) := by
  show OwnGoW p e below s Z own_EL _ _ _ T0 (mkF m 247 _ [])
  refine .iload X0 hx (hb hby at_247) rfl ?_
  obtain ⟨T206, h206, k206, X206, e206, E206, A206, Ex206, st206⟩ := newPE X0 hx hZ (W_ hw 0 rfl) e0 (g := (mkF m 249 #[.val (.int p1), .val (.long p2), .second, .val (.long p3), .second, .val (.int (7 : Int32)), .val (.int lt), .val (.int mo), .val (.int kk), .val (.int bi), .val (.ref b106), .unset, .unset, .unset, .unset] [(.int (7 : Int32))])) rfl (hb hby at_249) rfl (by decide) (cap := 7) (by decide) (by decide) (by decide) (by decide) (ad := "[C") (by decide)
  obtain ⟨b206, g206⟩ : ∃ z, z = h1.size := ⟨_, rfl⟩
  rw [← g206] at A206 Ex206 st206
  have ne_b106_b206 : b106 ≠ b206 := Nat.ne_of_lt (Nat.lt_of_lt_of_le V_b106.lt (Nat.le_of_eq g206.symm))
  have g_b206 : n0 ≤ b206 := Nat.le_trans Z_ (Nat.le_of_eq g206.symm)
  have sf_b206 : Safe Z own_EL vm1 h1 b206 := Safe.new (Nat.le_of_eq g206.symm)
  have V_b106 := V_b106.ext E206
  have E_b106 := E_b106.ext E206
  have O_ := O_.ext E206
  have sf_b106 := Safe.ext E206 CR.1 sf_b106
  have sf_b206 := Safe.ext E206 CR.1 sf_b206
  have CR := CR.trans (CHr.ext E206 CR.1)
  have hk_ := Nat.le_trans hk_ E206.1
  have Z_ : n0 ≤ h206.size := Nat.le_trans Z_ E206.1
  have V_b206 : Arv Z h206 b206 k206 .char (7 : Int32) [(.int (0 : Int32)), (.int (0 : Int32)), (.int (0 : Int32)), (.int (0 : Int32)), (.int (0 : Int32)), (.int (0 : Int32)), (.int (0 : Int32))] (.int (0 : Int32)) := (Arv.new A206 (by decide)).pad (pad_rep [] (.int (0 : Int32)) 7)
  have E_b206 := Ex206
  refine .st st206 ?_
  show OwnGoW p e below s Z own_EL _ _ _ T206 (mkF m 251 _ [(.ref b206)])
  refine .astore X206 hx (hb hby at_251) rfl (L' := #[.val (.int p1), .val (.long p2), .second, .val (.long p3), .second, .val (.int (7 : Int32)), .val (.int lt), .val (.int mo), .val (.int kk), .val (.int bi), .val (.ref b106), .val (.ref b206), .unset, .unset, .unset]) rfl ?_
  refine .iload X206 hx (hb hby at_253) rfl ?_
  refine .ifNo X206 hx (hb hby at_255) ((if0 _ _).trans (tlt ((by decide) : (0 : Int32) < (7 : Int32))).2.2.2) ?_
  refine .aload X206 hx (hb hby at_258) rfl rfl ?_
  refine .iconst X206 hx (hb hby at_260) own_ki0 ?_
  refine .aload X206 hx (hb hby at_261) rfl rfl ?_
  refine .iconst X206 hx (hb hby at_263) own_ki0 ?_
  obtain ⟨cl207, Ar207, -, S207, -, H207, -⟩ := id V_b106
  have hin207 : ¬ ((0 : Int32) < 0 ∨ cl207.slots.size ≤ ((0 : Int32)).toNatClampNeg) := inb_of S207 ⟨by decide, by decide⟩
  refine .st (fun _ => X206.caload hx (j := (0 : Int32)) (v := (.int ch107)) (by first | exact Ar207.1 | (rw [e206]; exact Ar207.1)) (State.isArrayOf_alike hZ.alike Ar207.2.1) Ar207.2.2 hin207 (H207.at hin207 rfl) (g := (mkF m 264 #[.val (.int p1), .val (.long p2), .second, .val (.long p3), .second, .val (.int (7 : Int32)), .val (.int lt), .val (.int mo), .val (.int kk), .val (.int bi), .val (.ref b106), .val (.ref b206), .unset, .unset, .unset] [(.int (0 : Int32)), (.ref b106), (.int (0 : Int32)), (.ref b206)])) rfl rfl (hb hby at_264) _) ?_
  show OwnGoW p e below s Z own_EL _ _ _ T206 (mkF m 265 _ [(.int ch107), (.int (0 : Int32)), (.ref b206)])
  obtain ⟨cl208, Ar208, q208, S208, N208, H208, G208⟩ := id V_b206
  have hin208 : ¬ ((0 : Int32) < 0 ∨ cl208.slots.size ≤ ((0 : Int32)).toNatClampNeg) := inb_of S208 ⟨by decide, by decide⟩
  obtain ⟨T208, h208, X208, e208, W208, st208⟩ := stC X206 hx hZ e206 Ar208 (j := (0 : Int32)) hin208 (g := (mkF m 265 #[.val (.int p1), .val (.long p2), .second, .val (.long p3), .second, .val (.int (7 : Int32)), .val (.int lt), .val (.int mo), .val (.int kk), .val (.int bi), .val (.ref b106), .val (.ref b206), .unset, .unset, .unset] [(.int ch107), (.int (0 : Int32)), (.ref b206)])) rfl rfl (hb hby at_265)
  have V_b206 : Arv Z h208 b206 k206 .char (7 : Int32) [(.int (nar .char ch107)), (.int (0 : Int32)), (.int (0 : Int32)), (.int (0 : Int32)), (.int (0 : Int32)), (.int (0 : Int32)), (.int (0 : Int32))] (.int (0 : Int32)) := Arv.set Ar208 q208 S208 N208 H208 G208 (fits_nar_char _) W208 0 rfl (Nat.le_of_ble_eq_true rfl)
  rw [show nar .char ch107 = ch107 from (own_lnc hp_ch107)] at V_b206
  have V_b106 := V_b106.other W208 ne_b106_b206
  have E_b106 := E_b106.wr W208
  have E_b206 := E_b206.wr W208
  have O_ := O_.wr W208 g_b206
  have sf_ := sf_b206
  have CR0 := CR.1
  have CR := CR.trans (CHr.wr W208 sf_ CR.1)
  have sf_b106 := Safe.wr W208 sf_ CR0 sf_b106
  have sf_b206 := Safe.wr W208 sf_ CR0 sf_b206
  have hk_ := Nat.le_trans hk_ (Nat.le_of_eq W208.size.symm)
  have N208 := Fr.snoc X208 N0 g_b206
  have Z_ : n0 ≤ h208.size := by rw [W208.size]; exact Z_
  refine .st st208 ?_
  show OwnGoW p e below s Z own_EL _ _ _ T208 (mkF m 266 _ [])
  refine .iload X208 hx (hb hby at_266) rfl ?_
  refine .iconst X208 hx (hb hby at_268) own_ki1 ?_
  refine .icmpNo X208 hx (hb hby at_269) (tlt ((by decide) : (1 : Int32) < (7 : Int32))).2.2.2 ?_
  refine .aload X208 hx (hb hby at_272) rfl rfl ?_
  refine .iconst X208 hx (hb hby at_274) own_ki1 ?_
  refine .aload X208 hx (hb hby at_275) rfl rfl ?_
  refine .iconst X208 hx (hb hby at_277) own_ki1 ?_
  obtain ⟨cl209, Ar209, -, S209, -, H209, -⟩ := id V_b106
  have hin209 : ¬ ((1 : Int32) < 0 ∨ cl209.slots.size ≤ ((1 : Int32)).toNatClampNeg) := inb_of S209 ⟨by decide, by decide⟩
  refine .st (fun _ => X208.caload hx (j := (1 : Int32)) (v := (.int ch109)) (by first | exact Ar209.1 | (rw [e208]; exact Ar209.1)) (State.isArrayOf_alike hZ.alike Ar209.2.1) Ar209.2.2 hin209 (H209.at hin209 rfl) (g := (mkF m 278 #[.val (.int p1), .val (.long p2), .second, .val (.long p3), .second, .val (.int (7 : Int32)), .val (.int lt), .val (.int mo), .val (.int kk), .val (.int bi), .val (.ref b106), .val (.ref b206), .unset, .unset, .unset] [(.int (1 : Int32)), (.ref b106), (.int (1 : Int32)), (.ref b206)])) rfl rfl (hb hby at_278) _) ?_
  show OwnGoW p e below s Z own_EL _ _ _ T208 (mkF m 279 _ [(.int ch109), (.int (1 : Int32)), (.ref b206)])
  obtain ⟨cl210, Ar210, q210, S210, N210, H210, G210⟩ := id V_b206
  have hin210 : ¬ ((1 : Int32) < 0 ∨ cl210.slots.size ≤ ((1 : Int32)).toNatClampNeg) := inb_of S210 ⟨by decide, by decide⟩
  obtain ⟨T210, h210, X210, e210, W210, st210⟩ := stC X208 hx hZ e208 Ar210 (j := (1 : Int32)) hin210 (g := (mkF m 279 #[.val (.int p1), .val (.long p2), .second, .val (.long p3), .second, .val (.int (7 : Int32)), .val (.int lt), .val (.int mo), .val (.int kk), .val (.int bi), .val (.ref b106), .val (.ref b206), .unset, .unset, .unset] [(.int ch109), (.int (1 : Int32)), (.ref b206)])) rfl rfl (hb hby at_279)
  have V_b206 : Arv Z h210 b206 k206 .char (7 : Int32) [(.int ch107), (.int (nar .char ch109)), (.int (0 : Int32)), (.int (0 : Int32)), (.int (0 : Int32)), (.int (0 : Int32)), (.int (0 : Int32))] (.int (0 : Int32)) := Arv.set Ar210 q210 S210 N210 H210 G210 (fits_nar_char _) W210 1 rfl (Nat.le_of_ble_eq_true rfl)
  rw [show nar .char ch109 = ch109 from (own_lnc hp_ch109)] at V_b206
  have V_b106 := V_b106.other W210 ne_b106_b206
  have E_b106 := E_b106.wr W210
  have E_b206 := E_b206.wr W210
  have O_ := O_.wr W210 g_b206
  have sf_ := sf_b206
  have CR0 := CR.1
  have CR := CR.trans (CHr.wr W210 sf_ CR.1)
  have sf_b106 := Safe.wr W210 sf_ CR0 sf_b106
  have sf_b206 := Safe.wr W210 sf_ CR0 sf_b206
  have hk_ := Nat.le_trans hk_ (Nat.le_of_eq W210.size.symm)
  have N210 := Fr.snoc X210 N208 g_b206
  have Z_ : n0 ≤ h210.size := by rw [W210.size]; exact Z_
  refine .st st210 ?_
  show OwnGoW p e below s Z own_EL _ _ _ T210 (mkF m 280 _ [])
  refine .iload X210 hx (hb hby at_280) rfl ?_
  refine .iconst X210 hx (hb hby at_282) own_ki2 ?_
  refine .icmpNo X210 hx (hb hby at_283) (tlt ((by decide) : (2 : Int32) < (7 : Int32))).2.2.2 ?_
  refine .aload X210 hx (hb hby at_286) rfl rfl ?_
  refine .iconst X210 hx (hb hby at_288) own_ki2 ?_
  refine .aload X210 hx (hb hby at_289) rfl rfl ?_
  refine .iconst X210 hx (hb hby at_291) own_ki2 ?_
  obtain ⟨cl211, Ar211, -, S211, -, H211, -⟩ := id V_b106
  have hin211 : ¬ ((2 : Int32) < 0 ∨ cl211.slots.size ≤ ((2 : Int32)).toNatClampNeg) := inb_of S211 ⟨by decide, by decide⟩
  refine .st (fun _ => X210.caload hx (j := (2 : Int32)) (v := (.int ch111)) (by first | exact Ar211.1 | (rw [e210]; exact Ar211.1)) (State.isArrayOf_alike hZ.alike Ar211.2.1) Ar211.2.2 hin211 (H211.at hin211 rfl) (g := (mkF m 292 #[.val (.int p1), .val (.long p2), .second, .val (.long p3), .second, .val (.int (7 : Int32)), .val (.int lt), .val (.int mo), .val (.int kk), .val (.int bi), .val (.ref b106), .val (.ref b206), .unset, .unset, .unset] [(.int (2 : Int32)), (.ref b106), (.int (2 : Int32)), (.ref b206)])) rfl rfl (hb hby at_292) _) ?_
  show OwnGoW p e below s Z own_EL _ _ _ T210 (mkF m 293 _ [(.int ch111), (.int (2 : Int32)), (.ref b206)])
  obtain ⟨cl212, Ar212, q212, S212, N212, H212, G212⟩ := id V_b206
  have hin212 : ¬ ((2 : Int32) < 0 ∨ cl212.slots.size ≤ ((2 : Int32)).toNatClampNeg) := inb_of S212 ⟨by decide, by decide⟩
  obtain ⟨T212, h212, X212, e212, W212, st212⟩ := stC X210 hx hZ e210 Ar212 (j := (2 : Int32)) hin212 (g := (mkF m 293 #[.val (.int p1), .val (.long p2), .second, .val (.long p3), .second, .val (.int (7 : Int32)), .val (.int lt), .val (.int mo), .val (.int kk), .val (.int bi), .val (.ref b106), .val (.ref b206), .unset, .unset, .unset] [(.int ch111), (.int (2 : Int32)), (.ref b206)])) rfl rfl (hb hby at_293)
  have V_b206 : Arv Z h212 b206 k206 .char (7 : Int32) [(.int ch107), (.int ch109), (.int (nar .char ch111)), (.int (0 : Int32)), (.int (0 : Int32)), (.int (0 : Int32)), (.int (0 : Int32))] (.int (0 : Int32)) := Arv.set Ar212 q212 S212 N212 H212 G212 (fits_nar_char _) W212 2 rfl (Nat.le_of_ble_eq_true rfl)
  rw [show nar .char ch111 = ch111 from (own_lnc hp_ch111)] at V_b206
  have V_b106 := V_b106.other W212 ne_b106_b206
  have E_b106 := E_b106.wr W212
  have E_b206 := E_b206.wr W212
  have O_ := O_.wr W212 g_b206
  have sf_ := sf_b206
  have CR0 := CR.1
  have CR := CR.trans (CHr.wr W212 sf_ CR.1)
  have sf_b106 := Safe.wr W212 sf_ CR0 sf_b106
  have sf_b206 := Safe.wr W212 sf_ CR0 sf_b206
  have hk_ := Nat.le_trans hk_ (Nat.le_of_eq W212.size.symm)
  have N212 := Fr.snoc X212 N210 g_b206
  have Z_ : n0 ≤ h212.size := by rw [W212.size]; exact Z_
  refine .st st212 ?_
  show OwnGoW p e below s Z own_EL _ _ _ T212 (mkF m 294 _ [])
  refine .iload X212 hx (hb hby at_294) rfl ?_
  refine .iconst X212 hx (hb hby at_296) own_ki3 ?_
  refine .icmpNo X212 hx (hb hby at_297) (tlt ((by decide) : (3 : Int32) < (7 : Int32))).2.2.2 ?_
  refine .aload X212 hx (hb hby at_300) rfl rfl ?_
  refine .iconst X212 hx (hb hby at_302) own_ki3 ?_
  refine .aload X212 hx (hb hby at_303) rfl rfl ?_
  refine .iconst X212 hx (hb hby at_305) own_ki3 ?_
  obtain ⟨cl213, Ar213, -, S213, -, H213, -⟩ := id V_b106
  have hin213 : ¬ ((3 : Int32) < 0 ∨ cl213.slots.size ≤ ((3 : Int32)).toNatClampNeg) := inb_of S213 ⟨by decide, by decide⟩
  refine .st (fun _ => X212.caload hx (j := (3 : Int32)) (v := (.int ch113)) (by first | exact Ar213.1 | (rw [e212]; exact Ar213.1)) (State.isArrayOf_alike hZ.alike Ar213.2.1) Ar213.2.2 hin213 (H213.at hin213 rfl) (g := (mkF m 306 #[.val (.int p1), .val (.long p2), .second, .val (.long p3), .second, .val (.int (7 : Int32)), .val (.int lt), .val (.int mo), .val (.int kk), .val (.int bi), .val (.ref b106), .val (.ref b206), .unset, .unset, .unset] [(.int (3 : Int32)), (.ref b106), (.int (3 : Int32)), (.ref b206)])) rfl rfl (hb hby at_306) _) ?_
  show OwnGoW p e below s Z own_EL _ _ _ T212 (mkF m 307 _ [(.int ch113), (.int (3 : Int32)), (.ref b206)])
  obtain ⟨cl214, Ar214, q214, S214, N214, H214, G214⟩ := id V_b206
  have hin214 : ¬ ((3 : Int32) < 0 ∨ cl214.slots.size ≤ ((3 : Int32)).toNatClampNeg) := inb_of S214 ⟨by decide, by decide⟩
  obtain ⟨T214, h214, X214, e214, W214, st214⟩ := stC X212 hx hZ e212 Ar214 (j := (3 : Int32)) hin214 (g := (mkF m 307 #[.val (.int p1), .val (.long p2), .second, .val (.long p3), .second, .val (.int (7 : Int32)), .val (.int lt), .val (.int mo), .val (.int kk), .val (.int bi), .val (.ref b106), .val (.ref b206), .unset, .unset, .unset] [(.int ch113), (.int (3 : Int32)), (.ref b206)])) rfl rfl (hb hby at_307)
  have V_b206 : Arv Z h214 b206 k206 .char (7 : Int32) [(.int ch107), (.int ch109), (.int ch111), (.int (nar .char ch113)), (.int (0 : Int32)), (.int (0 : Int32)), (.int (0 : Int32))] (.int (0 : Int32)) := Arv.set Ar214 q214 S214 N214 H214 G214 (fits_nar_char _) W214 3 rfl (Nat.le_of_ble_eq_true rfl)
  rw [show nar .char ch113 = ch113 from (own_lnc hp_ch113)] at V_b206
  have V_b106 := V_b106.other W214 ne_b106_b206
  have E_b106 := E_b106.wr W214
  have E_b206 := E_b206.wr W214
  have O_ := O_.wr W214 g_b206
  have sf_ := sf_b206
  have CR0 := CR.1
  have CR := CR.trans (CHr.wr W214 sf_ CR.1)
  have sf_b106 := Safe.wr W214 sf_ CR0 sf_b106
  have sf_b206 := Safe.wr W214 sf_ CR0 sf_b206
  have hk_ := Nat.le_trans hk_ (Nat.le_of_eq W214.size.symm)
  have N214 := Fr.snoc X214 N212 g_b206
  have Z_ : n0 ≤ h214.size := by rw [W214.size]; exact Z_
  refine .st st214 ?_
  show OwnGoW p e below s Z own_EL _ _ _ T214 (mkF m 308 _ [])
  refine .iload X214 hx (hb hby at_308) rfl ?_
  refine .iconst X214 hx (hb hby at_310) own_ki4 ?_
  refine .icmpNo X214 hx (hb hby at_311) (tlt ((by decide) : (4 : Int32) < (7 : Int32))).2.2.2 ?_
  refine .aload X214 hx (hb hby at_314) rfl rfl ?_
  refine .iconst X214 hx (hb hby at_316) own_ki4 ?_
  refine .aload X214 hx (hb hby at_317) rfl rfl ?_
  refine .iconst X214 hx (hb hby at_319) own_ki4 ?_
  obtain ⟨cl215, Ar215, -, S215, -, H215, -⟩ := id V_b106
  have hin215 : ¬ ((4 : Int32) < 0 ∨ cl215.slots.size ≤ ((4 : Int32)).toNatClampNeg) := inb_of S215 ⟨by decide, by decide⟩
  refine .st (fun _ => X214.caload hx (j := (4 : Int32)) (v := (.int ch115)) (by first | exact Ar215.1 | (rw [e214]; exact Ar215.1)) (State.isArrayOf_alike hZ.alike Ar215.2.1) Ar215.2.2 hin215 (H215.at hin215 rfl) (g := (mkF m 320 #[.val (.int p1), .val (.long p2), .second, .val (.long p3), .second, .val (.int (7 : Int32)), .val (.int lt), .val (.int mo), .val (.int kk), .val (.int bi), .val (.ref b106), .val (.ref b206), .unset, .unset, .unset] [(.int (4 : Int32)), (.ref b106), (.int (4 : Int32)), (.ref b206)])) rfl rfl (hb hby at_320) _) ?_
  show OwnGoW p e below s Z own_EL _ _ _ T214 (mkF m 321 _ [(.int ch115), (.int (4 : Int32)), (.ref b206)])
  obtain ⟨cl216, Ar216, q216, S216, N216, H216, G216⟩ := id V_b206
  have hin216 : ¬ ((4 : Int32) < 0 ∨ cl216.slots.size ≤ ((4 : Int32)).toNatClampNeg) := inb_of S216 ⟨by decide, by decide⟩
  obtain ⟨T216, h216, X216, e216, W216, st216⟩ := stC X214 hx hZ e214 Ar216 (j := (4 : Int32)) hin216 (g := (mkF m 321 #[.val (.int p1), .val (.long p2), .second, .val (.long p3), .second, .val (.int (7 : Int32)), .val (.int lt), .val (.int mo), .val (.int kk), .val (.int bi), .val (.ref b106), .val (.ref b206), .unset, .unset, .unset] [(.int ch115), (.int (4 : Int32)), (.ref b206)])) rfl rfl (hb hby at_321)
  have V_b206 : Arv Z h216 b206 k206 .char (7 : Int32) [(.int ch107), (.int ch109), (.int ch111), (.int ch113), (.int (nar .char ch115)), (.int (0 : Int32)), (.int (0 : Int32))] (.int (0 : Int32)) := Arv.set Ar216 q216 S216 N216 H216 G216 (fits_nar_char _) W216 4 rfl (Nat.le_of_ble_eq_true rfl)
  rw [show nar .char ch115 = ch115 from (own_lnc hp_ch115)] at V_b206
  have V_b106 := V_b106.other W216 ne_b106_b206
  have E_b106 := E_b106.wr W216
  have E_b206 := E_b206.wr W216
  have O_ := O_.wr W216 g_b206
  have sf_ := sf_b206
  have CR0 := CR.1
  have CR := CR.trans (CHr.wr W216 sf_ CR.1)
  have sf_b106 := Safe.wr W216 sf_ CR0 sf_b106
  have sf_b206 := Safe.wr W216 sf_ CR0 sf_b206
  have hk_ := Nat.le_trans hk_ (Nat.le_of_eq W216.size.symm)
  have N216 := Fr.snoc X216 N214 g_b206
  have Z_ : n0 ≤ h216.size := by rw [W216.size]; exact Z_
  refine .st st216 ?_
  show OwnGoW p e below s Z own_EL _ _ _ T216 (mkF m 322 _ [])
  refine .iload X216 hx (hb hby at_322) rfl ?_
  refine .iconst X216 hx (hb hby at_324) own_ki5 ?_
  refine .icmpNo X216 hx (hb hby at_325) (tlt ((by decide) : (5 : Int32) < (7 : Int32))).2.2.2 ?_
  refine .aload X216 hx (hb hby at_328) rfl rfl ?_
  refine .iconst X216 hx (hb hby at_330) own_ki5 ?_
  refine .aload X216 hx (hb hby at_331) rfl rfl ?_
  refine .iconst X216 hx (hb hby at_333) own_ki5 ?_
  obtain ⟨cl217, Ar217, -, S217, -, H217, -⟩ := id V_b106
  have hin217 : ¬ ((5 : Int32) < 0 ∨ cl217.slots.size ≤ ((5 : Int32)).toNatClampNeg) := inb_of S217 ⟨by decide, by decide⟩
  refine .st (fun _ => X216.caload hx (j := (5 : Int32)) (v := (.int ch117)) (by first | exact Ar217.1 | (rw [e216]; exact Ar217.1)) (State.isArrayOf_alike hZ.alike Ar217.2.1) Ar217.2.2 hin217 (H217.at hin217 rfl) (g := (mkF m 334 #[.val (.int p1), .val (.long p2), .second, .val (.long p3), .second, .val (.int (7 : Int32)), .val (.int lt), .val (.int mo), .val (.int kk), .val (.int bi), .val (.ref b106), .val (.ref b206), .unset, .unset, .unset] [(.int (5 : Int32)), (.ref b106), (.int (5 : Int32)), (.ref b206)])) rfl rfl (hb hby at_334) _) ?_
  show OwnGoW p e below s Z own_EL _ _ _ T216 (mkF m 335 _ [(.int ch117), (.int (5 : Int32)), (.ref b206)])
  obtain ⟨cl218, Ar218, q218, S218, N218, H218, G218⟩ := id V_b206
  have hin218 : ¬ ((5 : Int32) < 0 ∨ cl218.slots.size ≤ ((5 : Int32)).toNatClampNeg) := inb_of S218 ⟨by decide, by decide⟩
  obtain ⟨T218, h218, X218, e218, W218, st218⟩ := stC X216 hx hZ e216 Ar218 (j := (5 : Int32)) hin218 (g := (mkF m 335 #[.val (.int p1), .val (.long p2), .second, .val (.long p3), .second, .val (.int (7 : Int32)), .val (.int lt), .val (.int mo), .val (.int kk), .val (.int bi), .val (.ref b106), .val (.ref b206), .unset, .unset, .unset] [(.int ch117), (.int (5 : Int32)), (.ref b206)])) rfl rfl (hb hby at_335)
  have V_b206 : Arv Z h218 b206 k206 .char (7 : Int32) [(.int ch107), (.int ch109), (.int ch111), (.int ch113), (.int ch115), (.int (nar .char ch117)), (.int (0 : Int32))] (.int (0 : Int32)) := Arv.set Ar218 q218 S218 N218 H218 G218 (fits_nar_char _) W218 5 rfl (Nat.le_of_ble_eq_true rfl)
  rw [show nar .char ch117 = ch117 from (own_lnc hp_ch117)] at V_b206
  have V_b106 := V_b106.other W218 ne_b106_b206
  have E_b106 := E_b106.wr W218
  have E_b206 := E_b206.wr W218
  have O_ := O_.wr W218 g_b206
  have sf_ := sf_b206
  have CR0 := CR.1
  have CR := CR.trans (CHr.wr W218 sf_ CR.1)
  have sf_b106 := Safe.wr W218 sf_ CR0 sf_b106
  have sf_b206 := Safe.wr W218 sf_ CR0 sf_b206
  have hk_ := Nat.le_trans hk_ (Nat.le_of_eq W218.size.symm)
  have N218 := Fr.snoc X218 N216 g_b206
  have Z_ : n0 ≤ h218.size := by rw [W218.size]; exact Z_
  refine .st st218 ?_
  show OwnGoW p e below s Z own_EL _ _ _ T218 (mkF m 336 _ [])
  refine .iload X218 hx (hb hby at_336) rfl ?_
  refine .bipush X218 hx (hb hby at_338) own_kb6 ?_
  refine .icmpNo X218 hx (hb hby at_340) (tlt ((by decide) : (6 : Int32) < (7 : Int32))).2.2.2 ?_
  refine .aload X218 hx (hb hby at_343) rfl rfl ?_
  refine .bipush X218 hx (hb hby at_345) own_kb6 ?_
  refine .aload X218 hx (hb hby at_347) rfl rfl ?_
  refine .bipush X218 hx (hb hby at_349) own_kb6 ?_
  obtain ⟨cl219, Ar219, -, S219, -, H219, -⟩ := id V_b106
  have hin219 : ¬ ((6 : Int32) < 0 ∨ cl219.slots.size ≤ ((6 : Int32)).toNatClampNeg) := inb_of S219 ⟨by decide, by decide⟩
  refine .st (fun _ => X218.caload hx (j := (6 : Int32)) (v := (.int ch119)) (by first | exact Ar219.1 | (rw [e218]; exact Ar219.1)) (State.isArrayOf_alike hZ.alike Ar219.2.1) Ar219.2.2 hin219 (H219.at hin219 rfl) (g := (mkF m 351 #[.val (.int p1), .val (.long p2), .second, .val (.long p3), .second, .val (.int (7 : Int32)), .val (.int lt), .val (.int mo), .val (.int kk), .val (.int bi), .val (.ref b106), .val (.ref b206), .unset, .unset, .unset] [(.int (6 : Int32)), (.ref b106), (.int (6 : Int32)), (.ref b206)])) rfl rfl (hb hby at_351) _) ?_
  show OwnGoW p e below s Z own_EL _ _ _ T218 (mkF m 352 _ [(.int ch119), (.int (6 : Int32)), (.ref b206)])
  obtain ⟨cl220, Ar220, q220, S220, N220, H220, G220⟩ := id V_b206
  have hin220 : ¬ ((6 : Int32) < 0 ∨ cl220.slots.size ≤ ((6 : Int32)).toNatClampNeg) := inb_of S220 ⟨by decide, by decide⟩
  obtain ⟨T220, h220, X220, e220, W220, st220⟩ := stC X218 hx hZ e218 Ar220 (j := (6 : Int32)) hin220 (g := (mkF m 352 #[.val (.int p1), .val (.long p2), .second, .val (.long p3), .second, .val (.int (7 : Int32)), .val (.int lt), .val (.int mo), .val (.int kk), .val (.int bi), .val (.ref b106), .val (.ref b206), .unset, .unset, .unset] [(.int ch119), (.int (6 : Int32)), (.ref b206)])) rfl rfl (hb hby at_352)
  have V_b206 : Arv Z h220 b206 k206 .char (7 : Int32) [(.int ch107), (.int ch109), (.int ch111), (.int ch113), (.int ch115), (.int ch117), (.int (nar .char ch119))] (.int (0 : Int32)) := Arv.set Ar220 q220 S220 N220 H220 G220 (fits_nar_char _) W220 6 rfl (Nat.le_of_ble_eq_true rfl)
  rw [show nar .char ch119 = ch119 from (own_lnc hp_ch119)] at V_b206
  have V_b106 := V_b106.other W220 ne_b106_b206
  have E_b106 := E_b106.wr W220
  have E_b206 := E_b206.wr W220
  have O_ := O_.wr W220 g_b206
  have sf_ := sf_b206
  have CR0 := CR.1
  have CR := CR.trans (CHr.wr W220 sf_ CR.1)
  have sf_b106 := Safe.wr W220 sf_ CR0 sf_b106
  have sf_b206 := Safe.wr W220 sf_ CR0 sf_b206
  have hk_ := Nat.le_trans hk_ (Nat.le_of_eq W220.size.symm)
  have N220 := Fr.snoc X220 N218 g_b206
  have Z_ : n0 ≤ h220.size := by rw [W220.size]; exact Z_
  refine .st st220 ?_
  show OwnGoW p e below s Z own_EL _ _ _ T220 (mkF m 353 _ [])
  refine .iload X220 hx (hb hby at_353) rfl ?_
  refine .bipush X220 hx (hb hby at_355) own_kb7 ?_
  refine .icmpYes (pc := 357) X220 hx 370 (hb hby at_357) (flt ((by decide) : ¬ ((7 : Int32) < (7 : Int32)))).2.2.2 (by decide) (by decide) ?_
  refine .iload X220 hx (hb hby at_370) rfl ?_
  refine .bipush X220 hx (hb hby at_372) own_kb8 ?_
  refine .icmpYes (pc := 374) X220 hx 387 (hb hby at_374) (flt ((by decide) : ¬ ((8 : Int32) < (7 : Int32)))).2.2.2 (by decide) (by decide) ?_
  refine .iload X220 hx (hb hby at_387) rfl ?_
  refine .bipush X220 hx (hb hby at_389) own_kb9 ?_
  refine .icmpYes (pc := 391) X220 hx 404 (hb hby at_391) (flt ((by decide) : ¬ ((9 : Int32) < (7 : Int32)))).2.2.2 (by decide) (by decide) ?_
  obtain ⟨T221, h221, X221, e221, E221, A221, D221, -, st221⟩ := newO X220 hx hZ hown (W_ hw 39 rfl) (W_ hw 8 rfl) (W_ hw 7 rfl) e220 (g := (mkF m 404 #[.val (.int p1), .val (.long p2), .second, .val (.long p3), .second, .val (.int (7 : Int32)), .val (.int lt), .val (.int mo), .val (.int kk), .val (.int bi), .val (.ref b106), .val (.ref b206), .unset, .unset, .unset] [])) rfl (hb hby at_404) (by decide) (by decide)
  obtain ⟨b221, g221⟩ : ∃ z, z = h220.size := ⟨_, rfl⟩
  rw [← g221] at A221 D221 st221
  have ne_b106_b221 : b106 ≠ b221 := Nat.ne_of_lt (Nat.lt_of_lt_of_le V_b106.lt (Nat.le_of_eq g221.symm))
  have ne_b206_b221 : b206 ≠ b221 := Nat.ne_of_lt (Nat.lt_of_lt_of_le V_b206.lt (Nat.le_of_eq g221.symm))
  have g_b221 : n0 ≤ b221 := Nat.le_trans Z_ (Nat.le_of_eq g221.symm)
  have sf_b221 : Safe Z own_EL vm1 h220 b221 := Safe.new (Nat.le_of_eq g221.symm)
  have V_b106 := V_b106.ext E221
  have E_b106 := E_b106.ext E221
  have V_b206 := V_b206.ext E221
  have E_b206 := E_b206.ext E221
  have O_ := O_.ext E221
  have sf_b106 := Safe.ext E221 CR.1 sf_b106
  have sf_b206 := Safe.ext E221 CR.1 sf_b206
  have sf_b221 := Safe.ext E221 CR.1 sf_b221
  have CR := CR.trans (CHr.ext E221 CR.1)
  have hk_ := Nat.le_trans hk_ E221.1
  have Z_ : n0 ≤ h221.size := Nat.le_trans Z_ E221.1
  have E_b221 := A221
  have F_value_b221 : Fld Z h221 b221 "java/lang/String" "value" "[B" .null := D221 (Or.inr (W_ hw 10 rfl)) (ty := (.array .byte)) (by decide)
  have F_coder_b221 : Fld Z h221 b221 "java/lang/String" "coder" "B" (.int (0 : Int32)) := D221 (Or.inr (W_ hw 11 rfl)) (ty := .byte) (by decide)
  refine .st st221 ?_
  show OwnGoW p e below s Z own_EL _ _ _ T221 (mkF m 407 _ [(.ref b221)])
  refine .dup X221 hx (hb hby at_407) rfl ?_
  refine .aload X221 hx (hb hby at_408) rfl rfl ?_
  have hp222 : ∀ c ∈ ([ch107, ch109, ch111, ch113, ch115, ch117, ch119] : List Int32), ¬ c < 0 ∧ ¬ (255 : Int32) < c := by
    intro c hc
    simp only [List.mem_cons, List.not_mem_nil, or_false] at hc
    rcases hc with rfl | rfl | rfl | rfl | rfl | rfl | rfl
    · exact hp_ch107
    · exact hp_ch109
    · exact hp_ch111
    · exact hp_ch113
    · exact hp_ch115
    · exact hp_ch117
    · exact hp_ch119
  obtain ⟨_, _, ⟨T223, L223, k223, n223⟩, -, X223, ⟨Lc223, hQ223, l223, y223, z223⟩, st223⟩ := X221.specialBack hx (y := (⟨"java/lang/String", "<init>", "([C)V"⟩ : MethodName)) rfl hown (mvT hZ (W_ hw 40 rfl)) (mvT hZ (W_ hw 41 rfl)) (mvT hZ (W_ hw 42 rfl)) (by decide) (StrChars.Road.backV (W := 1) hZ (own_ws hw) (kI := 4) (W_ hw 8 rfl) (cs := ([ch107, ch109, ch111, ch113, ch115, ch117, ch119] : List Int32)) (bs := ([ch107, ch109, ch111, ch113, ch115, ch117, ch119] : List Int32).map (fun c => c.toInt8.toInt32)) (n := 7) g_b221 Z_ E_b221 F_value_b221 F_coder_b221 V_b206 (S_CS.ext O_.2) P_CS rfl rfl (by decide) (by decide) hp222 rfl (by decide) (by decide)) (g := (mkF m 410 #[.val (.int p1), .val (.long p2), .second, .val (.long p3), .second, .val (.int (7 : Int32)), .val (.int lt), .val (.int mo), .val (.int kk), .val (.int bi), .val (.ref b106), .val (.ref b206), .unset, .unset, .unset] [(.ref b206), (.ref b221), (.ref b221)])) rfl (by rw [hml]; rfl) (Steps.refl _) (a := b221) (argsL := [(.ref b206)]) (rest := [(.ref b221)]) (lenOf pd_9 rfl) rfl (Nat.le_of_eq rfl) (hb hby at_410) (fun _ _ => ⟨rfl, e221, (by decide : 23 + 1 ≤ _), (by decide : 421 + 7 ≤ _)⟩)
  dsimp only [Pt.U, Pt.locs, Pt.cells, Pt.slots] at X223 l223 y223 z223 st223 hQ223
  subst l223 y223 z223
  obtain ⟨rfl, N223q, K223, Ex223, Fc_b221, t223, kb223, gt223, zz223, nt223, Fv_b221, V223⟩ := hQ223
  have N223 := Fr.app N220 N223q
  have zt223 : h221.size ≤ t223 := zz223
  have ne_b106_t223 : b106 ≠ t223 := Nat.ne_of_lt (Nat.lt_of_lt_of_le V_b106.lt zt223)
  have ne_b206_t223 : b206 ≠ t223 := Nat.ne_of_lt (Nat.lt_of_lt_of_le V_b206.lt zt223)
  have ne_b221_t223 : b221 ≠ t223 := Nat.ne_of_lt (Nat.lt_of_lt_of_le E_b221.lt zt223)
  have g_t223 : n0 ≤ t223 := Nat.le_trans Z_ zt223
  have V223 : Arv Z T223.heap t223 kb223 .byte (7 : Int32) [(.int ch107.toInt8.toInt32), (.int ch109.toInt8.toInt32), (.int ch111.toInt8.toInt32), (.int ch113.toInt8.toInt32), (.int ch115.toInt8.toInt32), (.int ch117.toInt8.toInt32), (.int ch119.toInt8.toInt32)] (.int (0 : Int32)) := V223
  have Z_ : n0 ≤ T223.heap.size := Nat.le_trans Z_ K223.1
  have V_b106 := V_b106.keep K223 (ninS ne_b106_b221 nin0)
  have E_b106 := E_b106.keep K223
  have V_b206 := V_b206.keep K223 (ninS ne_b206_b221 nin0)
  have E_b206 := E_b206.keep K223
  have E_b221 := E_b221.keep K223
  have O_ := O_.keep K223 (allS g_b221 all0)
  have sf_b106' := Safe.keep K223 (sfS sf_b221 sf0) CR.1 sf_b106
  have sf_b206' := Safe.keep K223 (sfS sf_b221 sf0) CR.1 sf_b206
  have sf_b221' := Safe.keep K223 (sfS sf_b221 sf0) CR.1 sf_b221
  have CR := CR.trans (CHr.keep K223 (sfS sf_b221 sf0) CR.1)
  have hk_ := Nat.le_trans hk_ K223.1
  have sf_b106 := sf_b106'
  have sf_b206 := sf_b206'
  have sf_b221 := sf_b221'
  refine .st (fun _ => st223.trans) ?_
  show OwnGoW p e below s Z own_EL _ _ _ T223 (mkF m 413 _ [(.ref b221)])
  refine .astore X223 hx (hb hby at_413) rfl (L' := #[.val (.int p1), .val (.long p2), .second, .val (.long p3), .second, .val (.int (7 : Int32)), .val (.int lt), .val (.int mo), .val (.int kk), .val (.int bi), .val (.ref b106), .val (.ref b206), .val (.ref b221), .unset, .unset]) rfl ?_
  refine .iload X223 hx (hb hby at_415) rfl ?_
  refine .bipush X223 hx (hb hby at_417) own_kb9 ?_
  refine .icmpYes (pc := 419) X223 hx 510 (hb hby at_419) (feq ((by decide) : ¬ ((7 : Int32) = (9 : Int32)))).2 (by decide) (by decide) ?_
  refine .iconst X223 hx (hb hby at_510) own_ki0 ?_
  refine .istore X223 hx (hb hby at_511) (L' := #[.val (.int p1), .val (.long p2), .second, .val (.long p3), .second, .val (.int (7 : Int32)), .val (.int lt), .val (.int mo), .val (.int kk), .val (.int bi), .val (.ref b106), .val (.ref b206), .val (.ref b221), .val (.int (0 : Int32)), .unset]) rfl ?_
  refine .iload X223 hx (hb hby at_513) rfl ?_
  refine .iconst X223 hx (hb hby at_515) own_ki2 ?_
  refine .icmpYes (pc := 516) X223 hx 541 (hb hby at_516) (feq ((by decide) : ¬ ((7 : Int32) = (2 : Int32)))).2 (by decide) (by decide) ?_
  refine .iconst X223 hx (hb hby at_541) own_ki0 ?_
  refine .istore X223 hx (hb hby at_542) (L' := #[.val (.int p1), .val (.long p2), .second, .val (.long p3), .second, .val (.int (7 : Int32)), .val (.int lt), .val (.int mo), .val (.int kk), .val (.int bi), .val (.ref b106), .val (.ref b206), .val (.ref b221), .val (.int (0 : Int32)), .val (.int (0 : Int32))]) rfl ?_
  refine .aload X223 hx (hb hby at_544) rfl rfl ?_
  obtain ⟨_, _, ⟨T224, L224, k224, n224⟩, -, X224, hS224, hg224, ⟨Lc224, hQ224, l224, y224, z224, CN224⟩, st224⟩ := callSS (s := s.setVm vm1) X223 hx (y := (⟨"com/example/mapweft/mapweft/Options", "isVerbose", "(Ljava/lang/String;)Z"⟩ : MethodName)) hown (mvT hZ (W_ hw 51 rfl)) (mvT hZ (W_ hw 52 rfl)) (mvT hZ (W_ hw 53 rfl)) (mvT hZ (W_ hw 54 rfl)) (by decide) (backOfSH (s := s) (vm0 := vm1) (W := 0) (rmisVN l Z a0 hw [] b221 t223 kb223 (7 : Int32) [(.int ch107.toInt8.toInt32), (.int ch109.toInt8.toInt32), (.int ch111.toInt8.toInt32), (.int ch113.toInt8.toInt32), (.int ch115.toInt8.toInt32), (.int ch117.toInt8.toInt32), (.int ch119.toInt8.toInt32)] zc T223.heap n0 Z_ O_ S_CS P_CS E_b221 Fc_b221 Fv_b221 V223 (by decide) (by decide)) hZ (W_ hw 54 rfl) (W_ hw 53 rfl) (by decide) (by decide) (own_hEL hw) CR.1) (g := (mkF m 546 #[.val (.int p1), .val (.long p2), .second, .val (.long p3), .second, .val (.int (7 : Int32)), .val (.int lt), .val (.int mo), .val (.int kk), .val (.int bi), .val (.ref b106), .val (.ref b206), .val (.ref b221), .val (.int (0 : Int32)), .val (.int (0 : Int32))] [(.ref b221)])) rfl (by rw [hml]; rfl) (argsL := [(.ref b221)]) (rest := []) (lenOf pd_10 rfl) rfl (Nat.le_of_eq rfl) (hb hby at_546) (fun _ _ => ⟨rfl, rfl, (by decide : 24 + 4 ≤ _), (by decide : 428 + 52 ≤ _)⟩)
  dsimp only [Pt.U, Pt.locs, Pt.cells, Pt.slots] at X224 hS224 hg224 l224 y224 z224 CN224 st224 hQ224
  subst l224 y224 z224
  obtain ⟨X224, hS_, hZ, hown⟩ := rebS hS_ (show _ ≤ T223.heap.size by rw [(rfl : T223.heap = T223.heap)]; exact hk_) X224 hS224 hg224 hZ hown
  obtain ⟨rfl, N224q, K224⟩ := hQ224
  have N224 := Fr.app N223 N224q
  have lt_b106 : b106 < T223.heap.size := V_b106.lt
  have lt_b206 : b206 < T223.heap.size := V_b206.lt
  have lt_b221 : b221 < T223.heap.size := E_b221.lt
  have Z_ : n0 ≤ T224.heap.size := Nat.le_trans Z_ K224.1
  have V_b106 := V_b106.keep K224 nin0
  have E_b106 := E_b106.keep K224
  have V_b206 := V_b206.keep K224 nin0
  have E_b206 := E_b206.keep K224
  have E_b221 := E_b221.keep K224
  have Fc_b221 := Fc_b221.keep K224 nin0
  have Fv_b221 := Fv_b221.keep K224 nin0
  have V223 := V223.keep K224 nin0
  have O_ := O_.keep K224 all0
  have sf_b106 := CN224.safe lt_b106 sf_b106
  have sf_b206 := CN224.safe lt_b206 sf_b206
  have sf_b221 := CN224.safe lt_b221 sf_b221
  have CR := CR.trans CN224
  have hk_ := Nat.le_refl T224.heap.size
  refine .st (fun _ => st224.trans) ?_
  show OwnGoW p e below s Z own_EL _ _ _ T224 (mkF m 549 _ [(.int (0 : Int32))])
  refine .iload X224 hx (hb hby at_549) rfl ?_
  refine .ifNo X224 hx (hb hby at_551) ((if0 _ _).trans (teq ((by decide) : (0 : Int32) = (0 : Int32))).2) ?_
  refine .iload X224 hx (hb hby at_554) rfl ?_
  refine .ifYes (pc := 556) X224 hx 563 (hb hby at_556) ((if0 _ _).trans (teq ((by decide) : (0 : Int32) = (0 : Int32))).1) (by decide) (by decide) ?_
  refine .iconst X224 hx (hb hby at_563) own_ki0 ?_
  refine .icmpNo X224 hx (hb hby at_564) (teq ((by decide) : (0 : Int32) = (0 : Int32))).2 ?_
  refine .iconst X224 hx (hb hby at_567) own_ki1 ?_
  refine .goto (pc := 568) X224 hx 572 (hb hby at_568) (by decide) (by decide) ?_
  exact OwnGoW.retN (s := s) (vm0 := T224.vm) X224 hS_ hk_ rfl hZ (own_hEL hw) CR hx (t := .boolean) hret hlk (by simp) (hb hby at_572) (by show Q0 Z p1 p2 p3 zc fmv h0 n0 _ T224.heap _; exact ⟨rfl, N224⟩) (by decide) (by decide)
theorem sg8 {p : Program} {l : Launch} {e : Env} {s : State} {m : MethodId} {below : List Frame} {meth : Method} {c : Code} {Z : State} {a0 : Array Value} {T0 : State} {locs : List Loc} {vm1 : Vm} {k1 : Nat} {h1 : Heap} (p1 : Int32) (p2 : Int64) (p3 : Int64) (zc : Int32) (fmv : Value) (lt : Int32) (mo : Int32) (kk : Int32) (bi : Int32) (ch107 : Int32) (ch109 : Int32) (ch111 : Int32) (ch113 : Int32) (ch115 : Int32) (ch117 : Int32) (ch119 : Int32) (ch121 : Int32) (ch123 : Int32) (ch125 : Int32) (b106 : Addr) (k106 : ClassId) (h0 : Heap) (n0 : Nat) (hw : ∀ d ∈ tables_1, d.before a0 Z = true)
    (X0 : Stand p l e room_1 (s.setVm vm1) m #[(.int p1), (.long p2), (.long p3)] below meth c T0 locs 21 410) (hx : p.tables.exec = Jvm.exec) (hby : c.code = code) (hml : c.maxLocals = 15) (hret : meth.sig.returnType = ret) (hlk : meth.locks = false) (hown : (s.setVm vm1).vm.findClass "com/example/mapweft/mapweft/OptionsIsVerbosePinLaw" = some m.cls) (hnm : meth.name = "law") (hZ : Z.Warmed39 (s.setVm vm1).vm) (e0 : T0.heap = h1) (N0 : Fr n0 locs) (Z_ : n0 ≤ h1.size) (hS_ : s.Since vm1 k1) (hk_ : k1 ≤ h1.size) (CR : CHr Z own_EL s.vm s.heap vm1 h1) (S_CS : Sta Z Z.heap "java/lang/String" "COMPACT_STRINGS" "Z" (.int zc)) (P_CS : ¬ zc = (0 : Int32)) (S_SF : Sta Z Z.heap "jdk/internal/util/Preconditions" "SIOOBE_FORMATTER" "Ljava/util/function/BiFunction;" fmv) (rf_fmv : fmv.isRef = true) (V_b106 : Arv Z h1 b106 k106 .char (10 : Int32) [(.int ch107), (.int ch109), (.int ch111), (.int ch113), (.int ch115), (.int ch117), (.int ch119), (.int ch121), (.int ch123), (.int ch125)] (.int (0 : Int32))) (E_b106 : Exa Z h1 b106 "[C") (sf_b106 : Safe Z own_EL vm1 h1 b106) (O_ : Old Z n0 h1) (g_b106 : n0 ≤ b106) (hp_ch107 : ¬ ch107 < 0 ∧ ¬ (255 : Int32) < ch107) (hp_ch109 : ¬ ch109 < 0 ∧ ¬ (255 : Int32) < ch109) (hp_ch111 : ¬ ch111 < 0 ∧ ¬ (255 : Int32) < ch111) (hp_ch113 : ¬ ch113 < 0 ∧ ¬ (255 : Int32) < ch113) (hp_ch115 : ¬ ch115 < 0 ∧ ¬ (255 : Int32) < ch115) (hp_ch117 : ¬ ch117 < 0 ∧ ¬ (255 : Int32) < ch117) (hp_ch119 : ¬ ch119 < 0 ∧ ¬ (255 : Int32) < ch119) (hp_ch121 : ¬ ch121 < 0 ∧ ¬ (255 : Int32) < ch121) (hp_ch123 : ¬ ch123 < 0 ∧ ¬ (255 : Int32) < ch123) (hp_ch125 : ¬ ch125 < 0 ∧ ¬ (255 : Int32) < ch125) :
    OwnGoW p e below s Z own_EL room_1.cells room_1.slots (Q0 Z p1 p2 p3 zc fmv h0 n0) T0 (mkF m 247 #[.val (.int p1), .val (.long p2), .second, .val (.long p3), .second, .val (.int (8 : Int32)), .val (.int lt), .val (.int mo), .val (.int kk), .val (.int bi), .val (.ref b106), .unset, .unset, .unset, .unset] []) := by
  show OwnGoW p e below s Z own_EL _ _ _ T0 (mkF m 247 _ [])
  refine .iload X0 hx (hb hby at_247) rfl ?_
  obtain ⟨T225, h225, k225, X225, e225, E225, A225, Ex225, st225⟩ := newPE X0 hx hZ (W_ hw 0 rfl) e0 (g := (mkF m 249 #[.val (.int p1), .val (.long p2), .second, .val (.long p3), .second, .val (.int (8 : Int32)), .val (.int lt), .val (.int mo), .val (.int kk), .val (.int bi), .val (.ref b106), .unset, .unset, .unset, .unset] [(.int (8 : Int32))])) rfl (hb hby at_249) rfl (by decide) (cap := 8) (by decide) (by decide) (by decide) (by decide) (ad := "[C") (by decide)
  obtain ⟨b225, g225⟩ : ∃ z, z = h1.size := ⟨_, rfl⟩
  rw [← g225] at A225 Ex225 st225
  have ne_b106_b225 : b106 ≠ b225 := Nat.ne_of_lt (Nat.lt_of_lt_of_le V_b106.lt (Nat.le_of_eq g225.symm))
  have g_b225 : n0 ≤ b225 := Nat.le_trans Z_ (Nat.le_of_eq g225.symm)
  have sf_b225 : Safe Z own_EL vm1 h1 b225 := Safe.new (Nat.le_of_eq g225.symm)
  have V_b106 := V_b106.ext E225
  have E_b106 := E_b106.ext E225
  have O_ := O_.ext E225
  have sf_b106 := Safe.ext E225 CR.1 sf_b106
  have sf_b225 := Safe.ext E225 CR.1 sf_b225
  have CR := CR.trans (CHr.ext E225 CR.1)
  have hk_ := Nat.le_trans hk_ E225.1
  have Z_ : n0 ≤ h225.size := Nat.le_trans Z_ E225.1
  have V_b225 : Arv Z h225 b225 k225 .char (8 : Int32) [(.int (0 : Int32)), (.int (0 : Int32)), (.int (0 : Int32)), (.int (0 : Int32)), (.int (0 : Int32)), (.int (0 : Int32)), (.int (0 : Int32)), (.int (0 : Int32))] (.int (0 : Int32)) := (Arv.new A225 (by decide)).pad (pad_rep [] (.int (0 : Int32)) 8)
  have E_b225 := Ex225
  refine .st st225 ?_
  show OwnGoW p e below s Z own_EL _ _ _ T225 (mkF m 251 _ [(.ref b225)])
  refine .astore X225 hx (hb hby at_251) rfl (L' := #[.val (.int p1), .val (.long p2), .second, .val (.long p3), .second, .val (.int (8 : Int32)), .val (.int lt), .val (.int mo), .val (.int kk), .val (.int bi), .val (.ref b106), .val (.ref b225), .unset, .unset, .unset]) rfl ?_
  refine .iload X225 hx (hb hby at_253) rfl ?_
  refine .ifNo X225 hx (hb hby at_255) ((if0 _ _).trans (tlt ((by decide) : (0 : Int32) < (8 : Int32))).2.2.2) ?_
  refine .aload X225 hx (hb hby at_258) rfl rfl ?_
  refine .iconst X225 hx (hb hby at_260) own_ki0 ?_
  refine .aload X225 hx (hb hby at_261) rfl rfl ?_
  refine .iconst X225 hx (hb hby at_263) own_ki0 ?_
  obtain ⟨cl226, Ar226, -, S226, -, H226, -⟩ := id V_b106
  have hin226 : ¬ ((0 : Int32) < 0 ∨ cl226.slots.size ≤ ((0 : Int32)).toNatClampNeg) := inb_of S226 ⟨by decide, by decide⟩
  refine .st (fun _ => X225.caload hx (j := (0 : Int32)) (v := (.int ch107)) (by first | exact Ar226.1 | (rw [e225]; exact Ar226.1)) (State.isArrayOf_alike hZ.alike Ar226.2.1) Ar226.2.2 hin226 (H226.at hin226 rfl) (g := (mkF m 264 #[.val (.int p1), .val (.long p2), .second, .val (.long p3), .second, .val (.int (8 : Int32)), .val (.int lt), .val (.int mo), .val (.int kk), .val (.int bi), .val (.ref b106), .val (.ref b225), .unset, .unset, .unset] [(.int (0 : Int32)), (.ref b106), (.int (0 : Int32)), (.ref b225)])) rfl rfl (hb hby at_264) _) ?_
  show OwnGoW p e below s Z own_EL _ _ _ T225 (mkF m 265 _ [(.int ch107), (.int (0 : Int32)), (.ref b225)])
  obtain ⟨cl227, Ar227, q227, S227, N227, H227, G227⟩ := id V_b225
  have hin227 : ¬ ((0 : Int32) < 0 ∨ cl227.slots.size ≤ ((0 : Int32)).toNatClampNeg) := inb_of S227 ⟨by decide, by decide⟩
  obtain ⟨T227, h227, X227, e227, W227, st227⟩ := stC X225 hx hZ e225 Ar227 (j := (0 : Int32)) hin227 (g := (mkF m 265 #[.val (.int p1), .val (.long p2), .second, .val (.long p3), .second, .val (.int (8 : Int32)), .val (.int lt), .val (.int mo), .val (.int kk), .val (.int bi), .val (.ref b106), .val (.ref b225), .unset, .unset, .unset] [(.int ch107), (.int (0 : Int32)), (.ref b225)])) rfl rfl (hb hby at_265)
  have V_b225 : Arv Z h227 b225 k225 .char (8 : Int32) [(.int (nar .char ch107)), (.int (0 : Int32)), (.int (0 : Int32)), (.int (0 : Int32)), (.int (0 : Int32)), (.int (0 : Int32)), (.int (0 : Int32)), (.int (0 : Int32))] (.int (0 : Int32)) := Arv.set Ar227 q227 S227 N227 H227 G227 (fits_nar_char _) W227 0 rfl (Nat.le_of_ble_eq_true rfl)
  rw [show nar .char ch107 = ch107 from (own_lnc hp_ch107)] at V_b225
  have V_b106 := V_b106.other W227 ne_b106_b225
  have E_b106 := E_b106.wr W227
  have E_b225 := E_b225.wr W227
  have O_ := O_.wr W227 g_b225
  have sf_ := sf_b225
  have CR0 := CR.1
  have CR := CR.trans (CHr.wr W227 sf_ CR.1)
  have sf_b106 := Safe.wr W227 sf_ CR0 sf_b106
  have sf_b225 := Safe.wr W227 sf_ CR0 sf_b225
  have hk_ := Nat.le_trans hk_ (Nat.le_of_eq W227.size.symm)
  have N227 := Fr.snoc X227 N0 g_b225
  have Z_ : n0 ≤ h227.size := by rw [W227.size]; exact Z_
  refine .st st227 ?_
  show OwnGoW p e below s Z own_EL _ _ _ T227 (mkF m 266 _ [])
  refine .iload X227 hx (hb hby at_266) rfl ?_
  refine .iconst X227 hx (hb hby at_268) own_ki1 ?_
  refine .icmpNo X227 hx (hb hby at_269) (tlt ((by decide) : (1 : Int32) < (8 : Int32))).2.2.2 ?_
  refine .aload X227 hx (hb hby at_272) rfl rfl ?_
  refine .iconst X227 hx (hb hby at_274) own_ki1 ?_
  refine .aload X227 hx (hb hby at_275) rfl rfl ?_
  refine .iconst X227 hx (hb hby at_277) own_ki1 ?_
  obtain ⟨cl228, Ar228, -, S228, -, H228, -⟩ := id V_b106
  have hin228 : ¬ ((1 : Int32) < 0 ∨ cl228.slots.size ≤ ((1 : Int32)).toNatClampNeg) := inb_of S228 ⟨by decide, by decide⟩
  refine .st (fun _ => X227.caload hx (j := (1 : Int32)) (v := (.int ch109)) (by first | exact Ar228.1 | (rw [e227]; exact Ar228.1)) (State.isArrayOf_alike hZ.alike Ar228.2.1) Ar228.2.2 hin228 (H228.at hin228 rfl) (g := (mkF m 278 #[.val (.int p1), .val (.long p2), .second, .val (.long p3), .second, .val (.int (8 : Int32)), .val (.int lt), .val (.int mo), .val (.int kk), .val (.int bi), .val (.ref b106), .val (.ref b225), .unset, .unset, .unset] [(.int (1 : Int32)), (.ref b106), (.int (1 : Int32)), (.ref b225)])) rfl rfl (hb hby at_278) _) ?_
  show OwnGoW p e below s Z own_EL _ _ _ T227 (mkF m 279 _ [(.int ch109), (.int (1 : Int32)), (.ref b225)])
  obtain ⟨cl229, Ar229, q229, S229, N229, H229, G229⟩ := id V_b225
  have hin229 : ¬ ((1 : Int32) < 0 ∨ cl229.slots.size ≤ ((1 : Int32)).toNatClampNeg) := inb_of S229 ⟨by decide, by decide⟩
  obtain ⟨T229, h229, X229, e229, W229, st229⟩ := stC X227 hx hZ e227 Ar229 (j := (1 : Int32)) hin229 (g := (mkF m 279 #[.val (.int p1), .val (.long p2), .second, .val (.long p3), .second, .val (.int (8 : Int32)), .val (.int lt), .val (.int mo), .val (.int kk), .val (.int bi), .val (.ref b106), .val (.ref b225), .unset, .unset, .unset] [(.int ch109), (.int (1 : Int32)), (.ref b225)])) rfl rfl (hb hby at_279)
  have V_b225 : Arv Z h229 b225 k225 .char (8 : Int32) [(.int ch107), (.int (nar .char ch109)), (.int (0 : Int32)), (.int (0 : Int32)), (.int (0 : Int32)), (.int (0 : Int32)), (.int (0 : Int32)), (.int (0 : Int32))] (.int (0 : Int32)) := Arv.set Ar229 q229 S229 N229 H229 G229 (fits_nar_char _) W229 1 rfl (Nat.le_of_ble_eq_true rfl)
  rw [show nar .char ch109 = ch109 from (own_lnc hp_ch109)] at V_b225
  have V_b106 := V_b106.other W229 ne_b106_b225
  have E_b106 := E_b106.wr W229
  have E_b225 := E_b225.wr W229
  have O_ := O_.wr W229 g_b225
  have sf_ := sf_b225
  have CR0 := CR.1
  have CR := CR.trans (CHr.wr W229 sf_ CR.1)
  have sf_b106 := Safe.wr W229 sf_ CR0 sf_b106
  have sf_b225 := Safe.wr W229 sf_ CR0 sf_b225
  have hk_ := Nat.le_trans hk_ (Nat.le_of_eq W229.size.symm)
  have N229 := Fr.snoc X229 N227 g_b225
  have Z_ : n0 ≤ h229.size := by rw [W229.size]; exact Z_
  refine .st st229 ?_
  show OwnGoW p e below s Z own_EL _ _ _ T229 (mkF m 280 _ [])
  refine .iload X229 hx (hb hby at_280) rfl ?_
  refine .iconst X229 hx (hb hby at_282) own_ki2 ?_
  refine .icmpNo X229 hx (hb hby at_283) (tlt ((by decide) : (2 : Int32) < (8 : Int32))).2.2.2 ?_
  refine .aload X229 hx (hb hby at_286) rfl rfl ?_
  refine .iconst X229 hx (hb hby at_288) own_ki2 ?_
  refine .aload X229 hx (hb hby at_289) rfl rfl ?_
  refine .iconst X229 hx (hb hby at_291) own_ki2 ?_
  obtain ⟨cl230, Ar230, -, S230, -, H230, -⟩ := id V_b106
  have hin230 : ¬ ((2 : Int32) < 0 ∨ cl230.slots.size ≤ ((2 : Int32)).toNatClampNeg) := inb_of S230 ⟨by decide, by decide⟩
  refine .st (fun _ => X229.caload hx (j := (2 : Int32)) (v := (.int ch111)) (by first | exact Ar230.1 | (rw [e229]; exact Ar230.1)) (State.isArrayOf_alike hZ.alike Ar230.2.1) Ar230.2.2 hin230 (H230.at hin230 rfl) (g := (mkF m 292 #[.val (.int p1), .val (.long p2), .second, .val (.long p3), .second, .val (.int (8 : Int32)), .val (.int lt), .val (.int mo), .val (.int kk), .val (.int bi), .val (.ref b106), .val (.ref b225), .unset, .unset, .unset] [(.int (2 : Int32)), (.ref b106), (.int (2 : Int32)), (.ref b225)])) rfl rfl (hb hby at_292) _) ?_
  show OwnGoW p e below s Z own_EL _ _ _ T229 (mkF m 293 _ [(.int ch111), (.int (2 : Int32)), (.ref b225)])
  obtain ⟨cl231, Ar231, q231, S231, N231, H231, G231⟩ := id V_b225
  have hin231 : ¬ ((2 : Int32) < 0 ∨ cl231.slots.size ≤ ((2 : Int32)).toNatClampNeg) := inb_of S231 ⟨by decide, by decide⟩
  obtain ⟨T231, h231, X231, e231, W231, st231⟩ := stC X229 hx hZ e229 Ar231 (j := (2 : Int32)) hin231 (g := (mkF m 293 #[.val (.int p1), .val (.long p2), .second, .val (.long p3), .second, .val (.int (8 : Int32)), .val (.int lt), .val (.int mo), .val (.int kk), .val (.int bi), .val (.ref b106), .val (.ref b225), .unset, .unset, .unset] [(.int ch111), (.int (2 : Int32)), (.ref b225)])) rfl rfl (hb hby at_293)
  have V_b225 : Arv Z h231 b225 k225 .char (8 : Int32) [(.int ch107), (.int ch109), (.int (nar .char ch111)), (.int (0 : Int32)), (.int (0 : Int32)), (.int (0 : Int32)), (.int (0 : Int32)), (.int (0 : Int32))] (.int (0 : Int32)) := Arv.set Ar231 q231 S231 N231 H231 G231 (fits_nar_char _) W231 2 rfl (Nat.le_of_ble_eq_true rfl)
  rw [show nar .char ch111 = ch111 from (own_lnc hp_ch111)] at V_b225
  have V_b106 := V_b106.other W231 ne_b106_b225
  have E_b106 := E_b106.wr W231
  have E_b225 := E_b225.wr W231
  have O_ := O_.wr W231 g_b225
  have sf_ := sf_b225
  have CR0 := CR.1
  have CR := CR.trans (CHr.wr W231 sf_ CR.1)
  have sf_b106 := Safe.wr W231 sf_ CR0 sf_b106
  have sf_b225 := Safe.wr W231 sf_ CR0 sf_b225
  have hk_ := Nat.le_trans hk_ (Nat.le_of_eq W231.size.symm)
  have N231 := Fr.snoc X231 N229 g_b225
  have Z_ : n0 ≤ h231.size := by rw [W231.size]; exact Z_
  refine .st st231 ?_
  show OwnGoW p e below s Z own_EL _ _ _ T231 (mkF m 294 _ [])
  refine .iload X231 hx (hb hby at_294) rfl ?_
  refine .iconst X231 hx (hb hby at_296) own_ki3 ?_
  refine .icmpNo X231 hx (hb hby at_297) (tlt ((by decide) : (3 : Int32) < (8 : Int32))).2.2.2 ?_
  refine .aload X231 hx (hb hby at_300) rfl rfl ?_
  refine .iconst X231 hx (hb hby at_302) own_ki3 ?_
  refine .aload X231 hx (hb hby at_303) rfl rfl ?_
  refine .iconst X231 hx (hb hby at_305) own_ki3 ?_
  obtain ⟨cl232, Ar232, -, S232, -, H232, -⟩ := id V_b106
  have hin232 : ¬ ((3 : Int32) < 0 ∨ cl232.slots.size ≤ ((3 : Int32)).toNatClampNeg) := inb_of S232 ⟨by decide, by decide⟩
  refine .st (fun _ => X231.caload hx (j := (3 : Int32)) (v := (.int ch113)) (by first | exact Ar232.1 | (rw [e231]; exact Ar232.1)) (State.isArrayOf_alike hZ.alike Ar232.2.1) Ar232.2.2 hin232 (H232.at hin232 rfl) (g := (mkF m 306 #[.val (.int p1), .val (.long p2), .second, .val (.long p3), .second, .val (.int (8 : Int32)), .val (.int lt), .val (.int mo), .val (.int kk), .val (.int bi), .val (.ref b106), .val (.ref b225), .unset, .unset, .unset] [(.int (3 : Int32)), (.ref b106), (.int (3 : Int32)), (.ref b225)])) rfl rfl (hb hby at_306) _) ?_
  show OwnGoW p e below s Z own_EL _ _ _ T231 (mkF m 307 _ [(.int ch113), (.int (3 : Int32)), (.ref b225)])
  obtain ⟨cl233, Ar233, q233, S233, N233, H233, G233⟩ := id V_b225
  have hin233 : ¬ ((3 : Int32) < 0 ∨ cl233.slots.size ≤ ((3 : Int32)).toNatClampNeg) := inb_of S233 ⟨by decide, by decide⟩
  obtain ⟨T233, h233, X233, e233, W233, st233⟩ := stC X231 hx hZ e231 Ar233 (j := (3 : Int32)) hin233 (g := (mkF m 307 #[.val (.int p1), .val (.long p2), .second, .val (.long p3), .second, .val (.int (8 : Int32)), .val (.int lt), .val (.int mo), .val (.int kk), .val (.int bi), .val (.ref b106), .val (.ref b225), .unset, .unset, .unset] [(.int ch113), (.int (3 : Int32)), (.ref b225)])) rfl rfl (hb hby at_307)
  have V_b225 : Arv Z h233 b225 k225 .char (8 : Int32) [(.int ch107), (.int ch109), (.int ch111), (.int (nar .char ch113)), (.int (0 : Int32)), (.int (0 : Int32)), (.int (0 : Int32)), (.int (0 : Int32))] (.int (0 : Int32)) := Arv.set Ar233 q233 S233 N233 H233 G233 (fits_nar_char _) W233 3 rfl (Nat.le_of_ble_eq_true rfl)
  rw [show nar .char ch113 = ch113 from (own_lnc hp_ch113)] at V_b225
  have V_b106 := V_b106.other W233 ne_b106_b225
  have E_b106 := E_b106.wr W233
  have E_b225 := E_b225.wr W233
  have O_ := O_.wr W233 g_b225
  have sf_ := sf_b225
  have CR0 := CR.1
  have CR := CR.trans (CHr.wr W233 sf_ CR.1)
  have sf_b106 := Safe.wr W233 sf_ CR0 sf_b106
  have sf_b225 := Safe.wr W233 sf_ CR0 sf_b225
  have hk_ := Nat.le_trans hk_ (Nat.le_of_eq W233.size.symm)
  have N233 := Fr.snoc X233 N231 g_b225
  have Z_ : n0 ≤ h233.size := by rw [W233.size]; exact Z_
  refine .st st233 ?_
  show OwnGoW p e below s Z own_EL _ _ _ T233 (mkF m 308 _ [])
  refine .iload X233 hx (hb hby at_308) rfl ?_
  refine .iconst X233 hx (hb hby at_310) own_ki4 ?_
  refine .icmpNo X233 hx (hb hby at_311) (tlt ((by decide) : (4 : Int32) < (8 : Int32))).2.2.2 ?_
  refine .aload X233 hx (hb hby at_314) rfl rfl ?_
  refine .iconst X233 hx (hb hby at_316) own_ki4 ?_
  refine .aload X233 hx (hb hby at_317) rfl rfl ?_
  refine .iconst X233 hx (hb hby at_319) own_ki4 ?_
  obtain ⟨cl234, Ar234, -, S234, -, H234, -⟩ := id V_b106
  have hin234 : ¬ ((4 : Int32) < 0 ∨ cl234.slots.size ≤ ((4 : Int32)).toNatClampNeg) := inb_of S234 ⟨by decide, by decide⟩
  refine .st (fun _ => X233.caload hx (j := (4 : Int32)) (v := (.int ch115)) (by first | exact Ar234.1 | (rw [e233]; exact Ar234.1)) (State.isArrayOf_alike hZ.alike Ar234.2.1) Ar234.2.2 hin234 (H234.at hin234 rfl) (g := (mkF m 320 #[.val (.int p1), .val (.long p2), .second, .val (.long p3), .second, .val (.int (8 : Int32)), .val (.int lt), .val (.int mo), .val (.int kk), .val (.int bi), .val (.ref b106), .val (.ref b225), .unset, .unset, .unset] [(.int (4 : Int32)), (.ref b106), (.int (4 : Int32)), (.ref b225)])) rfl rfl (hb hby at_320) _) ?_
  show OwnGoW p e below s Z own_EL _ _ _ T233 (mkF m 321 _ [(.int ch115), (.int (4 : Int32)), (.ref b225)])
  obtain ⟨cl235, Ar235, q235, S235, N235, H235, G235⟩ := id V_b225
  have hin235 : ¬ ((4 : Int32) < 0 ∨ cl235.slots.size ≤ ((4 : Int32)).toNatClampNeg) := inb_of S235 ⟨by decide, by decide⟩
  obtain ⟨T235, h235, X235, e235, W235, st235⟩ := stC X233 hx hZ e233 Ar235 (j := (4 : Int32)) hin235 (g := (mkF m 321 #[.val (.int p1), .val (.long p2), .second, .val (.long p3), .second, .val (.int (8 : Int32)), .val (.int lt), .val (.int mo), .val (.int kk), .val (.int bi), .val (.ref b106), .val (.ref b225), .unset, .unset, .unset] [(.int ch115), (.int (4 : Int32)), (.ref b225)])) rfl rfl (hb hby at_321)
  have V_b225 : Arv Z h235 b225 k225 .char (8 : Int32) [(.int ch107), (.int ch109), (.int ch111), (.int ch113), (.int (nar .char ch115)), (.int (0 : Int32)), (.int (0 : Int32)), (.int (0 : Int32))] (.int (0 : Int32)) := Arv.set Ar235 q235 S235 N235 H235 G235 (fits_nar_char _) W235 4 rfl (Nat.le_of_ble_eq_true rfl)
  rw [show nar .char ch115 = ch115 from (own_lnc hp_ch115)] at V_b225
  have V_b106 := V_b106.other W235 ne_b106_b225
  have E_b106 := E_b106.wr W235
  have E_b225 := E_b225.wr W235
  have O_ := O_.wr W235 g_b225
  have sf_ := sf_b225
  have CR0 := CR.1
  have CR := CR.trans (CHr.wr W235 sf_ CR.1)
  have sf_b106 := Safe.wr W235 sf_ CR0 sf_b106
  have sf_b225 := Safe.wr W235 sf_ CR0 sf_b225
  have hk_ := Nat.le_trans hk_ (Nat.le_of_eq W235.size.symm)
  have N235 := Fr.snoc X235 N233 g_b225
  have Z_ : n0 ≤ h235.size := by rw [W235.size]; exact Z_
  refine .st st235 ?_
  show OwnGoW p e below s Z own_EL _ _ _ T235 (mkF m 322 _ [])
  refine .iload X235 hx (hb hby at_322) rfl ?_
  refine .iconst X235 hx (hb hby at_324) own_ki5 ?_
  refine .icmpNo X235 hx (hb hby at_325) (tlt ((by decide) : (5 : Int32) < (8 : Int32))).2.2.2 ?_
  refine .aload X235 hx (hb hby at_328) rfl rfl ?_
  refine .iconst X235 hx (hb hby at_330) own_ki5 ?_
  refine .aload X235 hx (hb hby at_331) rfl rfl ?_
  refine .iconst X235 hx (hb hby at_333) own_ki5 ?_
  obtain ⟨cl236, Ar236, -, S236, -, H236, -⟩ := id V_b106
  have hin236 : ¬ ((5 : Int32) < 0 ∨ cl236.slots.size ≤ ((5 : Int32)).toNatClampNeg) := inb_of S236 ⟨by decide, by decide⟩
  refine .st (fun _ => X235.caload hx (j := (5 : Int32)) (v := (.int ch117)) (by first | exact Ar236.1 | (rw [e235]; exact Ar236.1)) (State.isArrayOf_alike hZ.alike Ar236.2.1) Ar236.2.2 hin236 (H236.at hin236 rfl) (g := (mkF m 334 #[.val (.int p1), .val (.long p2), .second, .val (.long p3), .second, .val (.int (8 : Int32)), .val (.int lt), .val (.int mo), .val (.int kk), .val (.int bi), .val (.ref b106), .val (.ref b225), .unset, .unset, .unset] [(.int (5 : Int32)), (.ref b106), (.int (5 : Int32)), (.ref b225)])) rfl rfl (hb hby at_334) _) ?_
  show OwnGoW p e below s Z own_EL _ _ _ T235 (mkF m 335 _ [(.int ch117), (.int (5 : Int32)), (.ref b225)])
  obtain ⟨cl237, Ar237, q237, S237, N237, H237, G237⟩ := id V_b225
  have hin237 : ¬ ((5 : Int32) < 0 ∨ cl237.slots.size ≤ ((5 : Int32)).toNatClampNeg) := inb_of S237 ⟨by decide, by decide⟩
  obtain ⟨T237, h237, X237, e237, W237, st237⟩ := stC X235 hx hZ e235 Ar237 (j := (5 : Int32)) hin237 (g := (mkF m 335 #[.val (.int p1), .val (.long p2), .second, .val (.long p3), .second, .val (.int (8 : Int32)), .val (.int lt), .val (.int mo), .val (.int kk), .val (.int bi), .val (.ref b106), .val (.ref b225), .unset, .unset, .unset] [(.int ch117), (.int (5 : Int32)), (.ref b225)])) rfl rfl (hb hby at_335)
  have V_b225 : Arv Z h237 b225 k225 .char (8 : Int32) [(.int ch107), (.int ch109), (.int ch111), (.int ch113), (.int ch115), (.int (nar .char ch117)), (.int (0 : Int32)), (.int (0 : Int32))] (.int (0 : Int32)) := Arv.set Ar237 q237 S237 N237 H237 G237 (fits_nar_char _) W237 5 rfl (Nat.le_of_ble_eq_true rfl)
  rw [show nar .char ch117 = ch117 from (own_lnc hp_ch117)] at V_b225
  have V_b106 := V_b106.other W237 ne_b106_b225
  have E_b106 := E_b106.wr W237
  have E_b225 := E_b225.wr W237
  have O_ := O_.wr W237 g_b225
  have sf_ := sf_b225
  have CR0 := CR.1
  have CR := CR.trans (CHr.wr W237 sf_ CR.1)
  have sf_b106 := Safe.wr W237 sf_ CR0 sf_b106
  have sf_b225 := Safe.wr W237 sf_ CR0 sf_b225
  have hk_ := Nat.le_trans hk_ (Nat.le_of_eq W237.size.symm)
  have N237 := Fr.snoc X237 N235 g_b225
  have Z_ : n0 ≤ h237.size := by rw [W237.size]; exact Z_
  refine .st st237 ?_
  show OwnGoW p e below s Z own_EL _ _ _ T237 (mkF m 336 _ [])
  refine .iload X237 hx (hb hby at_336) rfl ?_
  refine .bipush X237 hx (hb hby at_338) own_kb6 ?_
  refine .icmpNo X237 hx (hb hby at_340) (tlt ((by decide) : (6 : Int32) < (8 : Int32))).2.2.2 ?_
  refine .aload X237 hx (hb hby at_343) rfl rfl ?_
  refine .bipush X237 hx (hb hby at_345) own_kb6 ?_
  refine .aload X237 hx (hb hby at_347) rfl rfl ?_
  refine .bipush X237 hx (hb hby at_349) own_kb6 ?_
  obtain ⟨cl238, Ar238, -, S238, -, H238, -⟩ := id V_b106
  have hin238 : ¬ ((6 : Int32) < 0 ∨ cl238.slots.size ≤ ((6 : Int32)).toNatClampNeg) := inb_of S238 ⟨by decide, by decide⟩
  refine .st (fun _ => X237.caload hx (j := (6 : Int32)) (v := (.int ch119)) (by first | exact Ar238.1 | (rw [e237]; exact Ar238.1)) (State.isArrayOf_alike hZ.alike Ar238.2.1) Ar238.2.2 hin238 (H238.at hin238 rfl) (g := (mkF m 351 #[.val (.int p1), .val (.long p2), .second, .val (.long p3), .second, .val (.int (8 : Int32)), .val (.int lt), .val (.int mo), .val (.int kk), .val (.int bi), .val (.ref b106), .val (.ref b225), .unset, .unset, .unset] [(.int (6 : Int32)), (.ref b106), (.int (6 : Int32)), (.ref b225)])) rfl rfl (hb hby at_351) _) ?_
  show OwnGoW p e below s Z own_EL _ _ _ T237 (mkF m 352 _ [(.int ch119), (.int (6 : Int32)), (.ref b225)])
  obtain ⟨cl239, Ar239, q239, S239, N239, H239, G239⟩ := id V_b225
  have hin239 : ¬ ((6 : Int32) < 0 ∨ cl239.slots.size ≤ ((6 : Int32)).toNatClampNeg) := inb_of S239 ⟨by decide, by decide⟩
  obtain ⟨T239, h239, X239, e239, W239, st239⟩ := stC X237 hx hZ e237 Ar239 (j := (6 : Int32)) hin239 (g := (mkF m 352 #[.val (.int p1), .val (.long p2), .second, .val (.long p3), .second, .val (.int (8 : Int32)), .val (.int lt), .val (.int mo), .val (.int kk), .val (.int bi), .val (.ref b106), .val (.ref b225), .unset, .unset, .unset] [(.int ch119), (.int (6 : Int32)), (.ref b225)])) rfl rfl (hb hby at_352)
  have V_b225 : Arv Z h239 b225 k225 .char (8 : Int32) [(.int ch107), (.int ch109), (.int ch111), (.int ch113), (.int ch115), (.int ch117), (.int (nar .char ch119)), (.int (0 : Int32))] (.int (0 : Int32)) := Arv.set Ar239 q239 S239 N239 H239 G239 (fits_nar_char _) W239 6 rfl (Nat.le_of_ble_eq_true rfl)
  rw [show nar .char ch119 = ch119 from (own_lnc hp_ch119)] at V_b225
  have V_b106 := V_b106.other W239 ne_b106_b225
  have E_b106 := E_b106.wr W239
  have E_b225 := E_b225.wr W239
  have O_ := O_.wr W239 g_b225
  have sf_ := sf_b225
  have CR0 := CR.1
  have CR := CR.trans (CHr.wr W239 sf_ CR.1)
  have sf_b106 := Safe.wr W239 sf_ CR0 sf_b106
  have sf_b225 := Safe.wr W239 sf_ CR0 sf_b225
  have hk_ := Nat.le_trans hk_ (Nat.le_of_eq W239.size.symm)
  have N239 := Fr.snoc X239 N237 g_b225
  have Z_ : n0 ≤ h239.size := by rw [W239.size]; exact Z_
  refine .st st239 ?_
  show OwnGoW p e below s Z own_EL _ _ _ T239 (mkF m 353 _ [])
  refine .iload X239 hx (hb hby at_353) rfl ?_
  refine .bipush X239 hx (hb hby at_355) own_kb7 ?_
  refine .icmpNo X239 hx (hb hby at_357) (tlt ((by decide) : (7 : Int32) < (8 : Int32))).2.2.2 ?_
  refine .aload X239 hx (hb hby at_360) rfl rfl ?_
  refine .bipush X239 hx (hb hby at_362) own_kb7 ?_
  refine .aload X239 hx (hb hby at_364) rfl rfl ?_
  refine .bipush X239 hx (hb hby at_366) own_kb7 ?_
  obtain ⟨cl240, Ar240, -, S240, -, H240, -⟩ := id V_b106
  have hin240 : ¬ ((7 : Int32) < 0 ∨ cl240.slots.size ≤ ((7 : Int32)).toNatClampNeg) := inb_of S240 ⟨by decide, by decide⟩
  refine .st (fun _ => X239.caload hx (j := (7 : Int32)) (v := (.int ch121)) (by first | exact Ar240.1 | (rw [e239]; exact Ar240.1)) (State.isArrayOf_alike hZ.alike Ar240.2.1) Ar240.2.2 hin240 (H240.at hin240 rfl) (g := (mkF m 368 #[.val (.int p1), .val (.long p2), .second, .val (.long p3), .second, .val (.int (8 : Int32)), .val (.int lt), .val (.int mo), .val (.int kk), .val (.int bi), .val (.ref b106), .val (.ref b225), .unset, .unset, .unset] [(.int (7 : Int32)), (.ref b106), (.int (7 : Int32)), (.ref b225)])) rfl rfl (hb hby at_368) _) ?_
  show OwnGoW p e below s Z own_EL _ _ _ T239 (mkF m 369 _ [(.int ch121), (.int (7 : Int32)), (.ref b225)])
  obtain ⟨cl241, Ar241, q241, S241, N241, H241, G241⟩ := id V_b225
  have hin241 : ¬ ((7 : Int32) < 0 ∨ cl241.slots.size ≤ ((7 : Int32)).toNatClampNeg) := inb_of S241 ⟨by decide, by decide⟩
  obtain ⟨T241, h241, X241, e241, W241, st241⟩ := stC X239 hx hZ e239 Ar241 (j := (7 : Int32)) hin241 (g := (mkF m 369 #[.val (.int p1), .val (.long p2), .second, .val (.long p3), .second, .val (.int (8 : Int32)), .val (.int lt), .val (.int mo), .val (.int kk), .val (.int bi), .val (.ref b106), .val (.ref b225), .unset, .unset, .unset] [(.int ch121), (.int (7 : Int32)), (.ref b225)])) rfl rfl (hb hby at_369)
  have V_b225 : Arv Z h241 b225 k225 .char (8 : Int32) [(.int ch107), (.int ch109), (.int ch111), (.int ch113), (.int ch115), (.int ch117), (.int ch119), (.int (nar .char ch121))] (.int (0 : Int32)) := Arv.set Ar241 q241 S241 N241 H241 G241 (fits_nar_char _) W241 7 rfl (Nat.le_of_ble_eq_true rfl)
  rw [show nar .char ch121 = ch121 from (own_lnc hp_ch121)] at V_b225
  have V_b106 := V_b106.other W241 ne_b106_b225
  have E_b106 := E_b106.wr W241
  have E_b225 := E_b225.wr W241
  have O_ := O_.wr W241 g_b225
  have sf_ := sf_b225
  have CR0 := CR.1
  have CR := CR.trans (CHr.wr W241 sf_ CR.1)
  have sf_b106 := Safe.wr W241 sf_ CR0 sf_b106
  have sf_b225 := Safe.wr W241 sf_ CR0 sf_b225
  have hk_ := Nat.le_trans hk_ (Nat.le_of_eq W241.size.symm)
  have N241 := Fr.snoc X241 N239 g_b225
  have Z_ : n0 ≤ h241.size := by rw [W241.size]; exact Z_
  refine .st st241 ?_
  show OwnGoW p e below s Z own_EL _ _ _ T241 (mkF m 370 _ [])
  refine .iload X241 hx (hb hby at_370) rfl ?_
  refine .bipush X241 hx (hb hby at_372) own_kb8 ?_
  refine .icmpYes (pc := 374) X241 hx 387 (hb hby at_374) (flt ((by decide) : ¬ ((8 : Int32) < (8 : Int32)))).2.2.2 (by decide) (by decide) ?_
  refine .iload X241 hx (hb hby at_387) rfl ?_
  refine .bipush X241 hx (hb hby at_389) own_kb9 ?_
  refine .icmpYes (pc := 391) X241 hx 404 (hb hby at_391) (flt ((by decide) : ¬ ((9 : Int32) < (8 : Int32)))).2.2.2 (by decide) (by decide) ?_
  obtain ⟨T242, h242, X242, e242, E242, A242, D242, -, st242⟩ := newO X241 hx hZ hown (W_ hw 39 rfl) (W_ hw 8 rfl) (W_ hw 7 rfl) e241 (g := (mkF m 404 #[.val (.int p1), .val (.long p2), .second, .val (.long p3), .second, .val (.int (8 : Int32)), .val (.int lt), .val (.int mo), .val (.int kk), .val (.int bi), .val (.ref b106), .val (.ref b225), .unset, .unset, .unset] [])) rfl (hb hby at_404) (by decide) (by decide)
  obtain ⟨b242, g242⟩ : ∃ z, z = h241.size := ⟨_, rfl⟩
  rw [← g242] at A242 D242 st242
  have ne_b106_b242 : b106 ≠ b242 := Nat.ne_of_lt (Nat.lt_of_lt_of_le V_b106.lt (Nat.le_of_eq g242.symm))
  have ne_b225_b242 : b225 ≠ b242 := Nat.ne_of_lt (Nat.lt_of_lt_of_le V_b225.lt (Nat.le_of_eq g242.symm))
  have g_b242 : n0 ≤ b242 := Nat.le_trans Z_ (Nat.le_of_eq g242.symm)
  have sf_b242 : Safe Z own_EL vm1 h241 b242 := Safe.new (Nat.le_of_eq g242.symm)
  have V_b106 := V_b106.ext E242
  have E_b106 := E_b106.ext E242
  have V_b225 := V_b225.ext E242
  have E_b225 := E_b225.ext E242
  have O_ := O_.ext E242
  have sf_b106 := Safe.ext E242 CR.1 sf_b106
  have sf_b225 := Safe.ext E242 CR.1 sf_b225
  have sf_b242 := Safe.ext E242 CR.1 sf_b242
  have CR := CR.trans (CHr.ext E242 CR.1)
  have hk_ := Nat.le_trans hk_ E242.1
  have Z_ : n0 ≤ h242.size := Nat.le_trans Z_ E242.1
  have E_b242 := A242
  have F_value_b242 : Fld Z h242 b242 "java/lang/String" "value" "[B" .null := D242 (Or.inr (W_ hw 10 rfl)) (ty := (.array .byte)) (by decide)
  have F_coder_b242 : Fld Z h242 b242 "java/lang/String" "coder" "B" (.int (0 : Int32)) := D242 (Or.inr (W_ hw 11 rfl)) (ty := .byte) (by decide)
  refine .st st242 ?_
  show OwnGoW p e below s Z own_EL _ _ _ T242 (mkF m 407 _ [(.ref b242)])
  refine .dup X242 hx (hb hby at_407) rfl ?_
  refine .aload X242 hx (hb hby at_408) rfl rfl ?_
  have hp243 : ∀ c ∈ ([ch107, ch109, ch111, ch113, ch115, ch117, ch119, ch121] : List Int32), ¬ c < 0 ∧ ¬ (255 : Int32) < c := by
    intro c hc
    simp only [List.mem_cons, List.not_mem_nil, or_false] at hc
    rcases hc with rfl | rfl | rfl | rfl | rfl | rfl | rfl | rfl
    · exact hp_ch107
    · exact hp_ch109
    · exact hp_ch111
    · exact hp_ch113
    · exact hp_ch115
    · exact hp_ch117
    · exact hp_ch119
    · exact hp_ch121
  obtain ⟨_, _, ⟨T244, L244, k244, n244⟩, -, X244, ⟨Lc244, hQ244, l244, y244, z244⟩, st244⟩ := X242.specialBack hx (y := (⟨"java/lang/String", "<init>", "([C)V"⟩ : MethodName)) rfl hown (mvT hZ (W_ hw 40 rfl)) (mvT hZ (W_ hw 41 rfl)) (mvT hZ (W_ hw 42 rfl)) (by decide) (StrChars.Road.backV (W := 1) hZ (own_ws hw) (kI := 4) (W_ hw 8 rfl) (cs := ([ch107, ch109, ch111, ch113, ch115, ch117, ch119, ch121] : List Int32)) (bs := ([ch107, ch109, ch111, ch113, ch115, ch117, ch119, ch121] : List Int32).map (fun c => c.toInt8.toInt32)) (n := 8) g_b242 Z_ E_b242 F_value_b242 F_coder_b242 V_b225 (S_CS.ext O_.2) P_CS rfl rfl (by decide) (by decide) hp243 rfl (by decide) (by decide)) (g := (mkF m 410 #[.val (.int p1), .val (.long p2), .second, .val (.long p3), .second, .val (.int (8 : Int32)), .val (.int lt), .val (.int mo), .val (.int kk), .val (.int bi), .val (.ref b106), .val (.ref b225), .unset, .unset, .unset] [(.ref b225), (.ref b242), (.ref b242)])) rfl (by rw [hml]; rfl) (Steps.refl _) (a := b242) (argsL := [(.ref b225)]) (rest := [(.ref b242)]) (lenOf pd_9 rfl) rfl (Nat.le_of_eq rfl) (hb hby at_410) (fun _ _ => ⟨rfl, e242, (by decide : 23 + 1 ≤ _), (by decide : 422 + 8 ≤ _)⟩)
  dsimp only [Pt.U, Pt.locs, Pt.cells, Pt.slots] at X244 l244 y244 z244 st244 hQ244
  subst l244 y244 z244
  obtain ⟨rfl, N244q, K244, Ex244, Fc_b242, t244, kb244, gt244, zz244, nt244, Fv_b242, V244⟩ := hQ244
  have N244 := Fr.app N241 N244q
  have zt244 : h242.size ≤ t244 := zz244
  have ne_b106_t244 : b106 ≠ t244 := Nat.ne_of_lt (Nat.lt_of_lt_of_le V_b106.lt zt244)
  have ne_b225_t244 : b225 ≠ t244 := Nat.ne_of_lt (Nat.lt_of_lt_of_le V_b225.lt zt244)
  have ne_b242_t244 : b242 ≠ t244 := Nat.ne_of_lt (Nat.lt_of_lt_of_le E_b242.lt zt244)
  have g_t244 : n0 ≤ t244 := Nat.le_trans Z_ zt244
  have V244 : Arv Z T244.heap t244 kb244 .byte (8 : Int32) [(.int ch107.toInt8.toInt32), (.int ch109.toInt8.toInt32), (.int ch111.toInt8.toInt32), (.int ch113.toInt8.toInt32), (.int ch115.toInt8.toInt32), (.int ch117.toInt8.toInt32), (.int ch119.toInt8.toInt32), (.int ch121.toInt8.toInt32)] (.int (0 : Int32)) := V244
  have Z_ : n0 ≤ T244.heap.size := Nat.le_trans Z_ K244.1
  have V_b106 := V_b106.keep K244 (ninS ne_b106_b242 nin0)
  have E_b106 := E_b106.keep K244
  have V_b225 := V_b225.keep K244 (ninS ne_b225_b242 nin0)
  have E_b225 := E_b225.keep K244
  have E_b242 := E_b242.keep K244
  have O_ := O_.keep K244 (allS g_b242 all0)
  have sf_b106' := Safe.keep K244 (sfS sf_b242 sf0) CR.1 sf_b106
  have sf_b225' := Safe.keep K244 (sfS sf_b242 sf0) CR.1 sf_b225
  have sf_b242' := Safe.keep K244 (sfS sf_b242 sf0) CR.1 sf_b242
  have CR := CR.trans (CHr.keep K244 (sfS sf_b242 sf0) CR.1)
  have hk_ := Nat.le_trans hk_ K244.1
  have sf_b106 := sf_b106'
  have sf_b225 := sf_b225'
  have sf_b242 := sf_b242'
  refine .st (fun _ => st244.trans) ?_
  show OwnGoW p e below s Z own_EL _ _ _ T244 (mkF m 413 _ [(.ref b242)])
  refine .astore X244 hx (hb hby at_413) rfl (L' := #[.val (.int p1), .val (.long p2), .second, .val (.long p3), .second, .val (.int (8 : Int32)), .val (.int lt), .val (.int mo), .val (.int kk), .val (.int bi), .val (.ref b106), .val (.ref b225), .val (.ref b242), .unset, .unset]) rfl ?_
  refine .iload X244 hx (hb hby at_415) rfl ?_
  refine .bipush X244 hx (hb hby at_417) own_kb9 ?_
  refine .icmpYes (pc := 419) X244 hx 510 (hb hby at_419) (feq ((by decide) : ¬ ((8 : Int32) = (9 : Int32)))).2 (by decide) (by decide) ?_
  refine .iconst X244 hx (hb hby at_510) own_ki0 ?_
  refine .istore X244 hx (hb hby at_511) (L' := #[.val (.int p1), .val (.long p2), .second, .val (.long p3), .second, .val (.int (8 : Int32)), .val (.int lt), .val (.int mo), .val (.int kk), .val (.int bi), .val (.ref b106), .val (.ref b225), .val (.ref b242), .val (.int (0 : Int32)), .unset]) rfl ?_
  refine .iload X244 hx (hb hby at_513) rfl ?_
  refine .iconst X244 hx (hb hby at_515) own_ki2 ?_
  refine .icmpYes (pc := 516) X244 hx 541 (hb hby at_516) (feq ((by decide) : ¬ ((8 : Int32) = (2 : Int32)))).2 (by decide) (by decide) ?_
  refine .iconst X244 hx (hb hby at_541) own_ki0 ?_
  refine .istore X244 hx (hb hby at_542) (L' := #[.val (.int p1), .val (.long p2), .second, .val (.long p3), .second, .val (.int (8 : Int32)), .val (.int lt), .val (.int mo), .val (.int kk), .val (.int bi), .val (.ref b106), .val (.ref b225), .val (.ref b242), .val (.int (0 : Int32)), .val (.int (0 : Int32))]) rfl ?_
  refine .aload X244 hx (hb hby at_544) rfl rfl ?_
  obtain ⟨_, _, ⟨T245, L245, k245, n245⟩, -, X245, hS245, hg245, ⟨Lc245, hQ245, l245, y245, z245, CN245⟩, st245⟩ := callSS (s := s.setVm vm1) X244 hx (y := (⟨"com/example/mapweft/mapweft/Options", "isVerbose", "(Ljava/lang/String;)Z"⟩ : MethodName)) hown (mvT hZ (W_ hw 51 rfl)) (mvT hZ (W_ hw 52 rfl)) (mvT hZ (W_ hw 53 rfl)) (mvT hZ (W_ hw 54 rfl)) (by decide) (backOfSH (s := s) (vm0 := vm1) (W := 0) (rmisVN l Z a0 hw [] b242 t244 kb244 (8 : Int32) [(.int ch107.toInt8.toInt32), (.int ch109.toInt8.toInt32), (.int ch111.toInt8.toInt32), (.int ch113.toInt8.toInt32), (.int ch115.toInt8.toInt32), (.int ch117.toInt8.toInt32), (.int ch119.toInt8.toInt32), (.int ch121.toInt8.toInt32)] zc T244.heap n0 Z_ O_ S_CS P_CS E_b242 Fc_b242 Fv_b242 V244 (by decide) (by decide)) hZ (W_ hw 54 rfl) (W_ hw 53 rfl) (by decide) (by decide) (own_hEL hw) CR.1) (g := (mkF m 546 #[.val (.int p1), .val (.long p2), .second, .val (.long p3), .second, .val (.int (8 : Int32)), .val (.int lt), .val (.int mo), .val (.int kk), .val (.int bi), .val (.ref b106), .val (.ref b225), .val (.ref b242), .val (.int (0 : Int32)), .val (.int (0 : Int32))] [(.ref b242)])) rfl (by rw [hml]; rfl) (argsL := [(.ref b242)]) (rest := []) (lenOf pd_10 rfl) rfl (Nat.le_of_eq rfl) (hb hby at_546) (fun _ _ => ⟨rfl, rfl, (by decide : 24 + 4 ≤ _), (by decide : 430 + 52 ≤ _)⟩)
  dsimp only [Pt.U, Pt.locs, Pt.cells, Pt.slots] at X245 hS245 hg245 l245 y245 z245 CN245 st245 hQ245
  subst l245 y245 z245
  obtain ⟨X245, hS_, hZ, hown⟩ := rebS hS_ (show _ ≤ T244.heap.size by rw [(rfl : T244.heap = T244.heap)]; exact hk_) X245 hS245 hg245 hZ hown
  obtain ⟨rfl, N245q, K245⟩ := hQ245
  have N245 := Fr.app N244 N245q
  have lt_b106 : b106 < T244.heap.size := V_b106.lt
  have lt_b225 : b225 < T244.heap.size := V_b225.lt
  have lt_b242 : b242 < T244.heap.size := E_b242.lt
  have Z_ : n0 ≤ T245.heap.size := Nat.le_trans Z_ K245.1
  have V_b106 := V_b106.keep K245 nin0
  have E_b106 := E_b106.keep K245
  have V_b225 := V_b225.keep K245 nin0
  have E_b225 := E_b225.keep K245
  have E_b242 := E_b242.keep K245
  have Fc_b242 := Fc_b242.keep K245 nin0
  have Fv_b242 := Fv_b242.keep K245 nin0
  have V244 := V244.keep K245 nin0
  have O_ := O_.keep K245 all0
  have sf_b106 := CN245.safe lt_b106 sf_b106
  have sf_b225 := CN245.safe lt_b225 sf_b225
  have sf_b242 := CN245.safe lt_b242 sf_b242
  have CR := CR.trans CN245
  have hk_ := Nat.le_refl T245.heap.size
  refine .st (fun _ => st245.trans) ?_
  show OwnGoW p e below s Z own_EL _ _ _ T245 (mkF m 549 _ [(.int (0 : Int32))])
  refine .iload X245 hx (hb hby at_549) rfl ?_
  refine .ifNo X245 hx (hb hby at_551) ((if0 _ _).trans (teq ((by decide) : (0 : Int32) = (0 : Int32))).2) ?_
  refine .iload X245 hx (hb hby at_554) rfl ?_
  refine .ifYes (pc := 556) X245 hx 563 (hb hby at_556) ((if0 _ _).trans (teq ((by decide) : (0 : Int32) = (0 : Int32))).1) (by decide) (by decide) ?_
  refine .iconst X245 hx (hb hby at_563) own_ki0 ?_
  refine .icmpNo X245 hx (hb hby at_564) (teq ((by decide) : (0 : Int32) = (0 : Int32))).2 ?_
  refine .iconst X245 hx (hb hby at_567) own_ki1 ?_
  refine .goto (pc := 568) X245 hx 572 (hb hby at_568) (by decide) (by decide) ?_
  exact OwnGoW.retN (s := s) (vm0 := T245.vm) X245 hS_ hk_ rfl hZ (own_hEL hw) CR hx (t := .boolean) hret hlk (by simp) (hb hby at_572) (by show Q0 Z p1 p2 p3 zc fmv h0 n0 _ T245.heap _; exact ⟨rfl, N245⟩) (by decide) (by decide)
theorem sg9 {p : Program} {l : Launch} {e : Env} {s : State} {m : MethodId} {below : List Frame} {meth : Method} {c : Code} {Z : State} {a0 : Array Value} {T0 : State} {locs : List Loc} {vm1 : Vm} {k1 : Nat} {h1 : Heap} (p1 : Int32) (p2 : Int64) (p3 : Int64) (zc : Int32) (fmv : Value) (lt : Int32) (mo : Int32) (kk : Int32) (bi : Int32) (ch107 : Int32) (ch109 : Int32) (ch111 : Int32) (ch113 : Int32) (ch115 : Int32) (ch117 : Int32) (ch119 : Int32) (ch121 : Int32) (ch123 : Int32) (ch125 : Int32) (b106 : Addr) (k106 : ClassId) (h0 : Heap) (n0 : Nat) (hw : ∀ d ∈ tables_1, d.before a0 Z = true)
    (X0 : Stand p l e room_1 (s.setVm vm1) m #[(.int p1), (.long p2), (.long p3)] below meth c T0 locs 21 410) (hx : p.tables.exec = Jvm.exec) (hby : c.code = code) (hml : c.maxLocals = 15) (hret : meth.sig.returnType = ret) (hlk : meth.locks = false) (hown : (s.setVm vm1).vm.findClass "com/example/mapweft/mapweft/OptionsIsVerbosePinLaw" = some m.cls) (hnm : meth.name = "law") (hZ : Z.Warmed39 (s.setVm vm1).vm) (e0 : T0.heap = h1) (N0 : Fr n0 locs) (Z_ : n0 ≤ h1.size) (hS_ : s.Since vm1 k1) (hk_ : k1 ≤ h1.size) (CR : CHr Z own_EL s.vm s.heap vm1 h1) (S_CS : Sta Z Z.heap "java/lang/String" "COMPACT_STRINGS" "Z" (.int zc)) (P_CS : ¬ zc = (0 : Int32)) (S_SF : Sta Z Z.heap "jdk/internal/util/Preconditions" "SIOOBE_FORMATTER" "Ljava/util/function/BiFunction;" fmv) (rf_fmv : fmv.isRef = true) (V_b106 : Arv Z h1 b106 k106 .char (10 : Int32) [(.int ch107), (.int ch109), (.int ch111), (.int ch113), (.int ch115), (.int ch117), (.int ch119), (.int ch121), (.int ch123), (.int ch125)] (.int (0 : Int32))) (E_b106 : Exa Z h1 b106 "[C") (sf_b106 : Safe Z own_EL vm1 h1 b106) (O_ : Old Z n0 h1) (g_b106 : n0 ≤ b106) (hp_ch107 : ¬ ch107 < 0 ∧ ¬ (255 : Int32) < ch107) (hp_ch109 : ¬ ch109 < 0 ∧ ¬ (255 : Int32) < ch109) (hp_ch111 : ¬ ch111 < 0 ∧ ¬ (255 : Int32) < ch111) (hp_ch113 : ¬ ch113 < 0 ∧ ¬ (255 : Int32) < ch113) (hp_ch115 : ¬ ch115 < 0 ∧ ¬ (255 : Int32) < ch115) (hp_ch117 : ¬ ch117 < 0 ∧ ¬ (255 : Int32) < ch117) (hp_ch119 : ¬ ch119 < 0 ∧ ¬ (255 : Int32) < ch119) (hp_ch121 : ¬ ch121 < 0 ∧ ¬ (255 : Int32) < ch121) (hp_ch123 : ¬ ch123 < 0 ∧ ¬ (255 : Int32) < ch123) (hp_ch125 : ¬ ch125 < 0 ∧ ¬ (255 : Int32) < ch125) :
    OwnGoW p e below s Z own_EL room_1.cells room_1.slots (Q0 Z p1 p2 p3 zc fmv h0 n0) T0 (mkF m 247 #[.val (.int p1), .val (.long p2), .second, .val (.long p3), .second, .val (.int (9 : Int32)), .val (.int lt), .val (.int mo), .val (.int kk), .val (.int bi), .val (.ref b106), .unset, .unset, .unset, .unset] []) := by
  show OwnGoW p e below s Z own_EL _ _ _ T0 (mkF m 247 _ [])
  refine .iload X0 hx (hb hby at_247) rfl ?_
  obtain ⟨T246, h246, k246, X246, e246, E246, A246, Ex246, st246⟩ := newPE X0 hx hZ (W_ hw 0 rfl) e0 (g := (mkF m 249 #[.val (.int p1), .val (.long p2), .second, .val (.long p3), .second, .val (.int (9 : Int32)), .val (.int lt), .val (.int mo), .val (.int kk), .val (.int bi), .val (.ref b106), .unset, .unset, .unset, .unset] [(.int (9 : Int32))])) rfl (hb hby at_249) rfl (by decide) (cap := 9) (by decide) (by decide) (by decide) (by decide) (ad := "[C") (by decide)
  obtain ⟨b246, g246⟩ : ∃ z, z = h1.size := ⟨_, rfl⟩
  rw [← g246] at A246 Ex246 st246
  have ne_b106_b246 : b106 ≠ b246 := Nat.ne_of_lt (Nat.lt_of_lt_of_le V_b106.lt (Nat.le_of_eq g246.symm))
  have g_b246 : n0 ≤ b246 := Nat.le_trans Z_ (Nat.le_of_eq g246.symm)
  have sf_b246 : Safe Z own_EL vm1 h1 b246 := Safe.new (Nat.le_of_eq g246.symm)
  have V_b106 := V_b106.ext E246
  have E_b106 := E_b106.ext E246
  have O_ := O_.ext E246
  have sf_b106 := Safe.ext E246 CR.1 sf_b106
  have sf_b246 := Safe.ext E246 CR.1 sf_b246
  have CR := CR.trans (CHr.ext E246 CR.1)
  have hk_ := Nat.le_trans hk_ E246.1
  have Z_ : n0 ≤ h246.size := Nat.le_trans Z_ E246.1
  have V_b246 : Arv Z h246 b246 k246 .char (9 : Int32) [(.int (0 : Int32)), (.int (0 : Int32)), (.int (0 : Int32)), (.int (0 : Int32)), (.int (0 : Int32)), (.int (0 : Int32)), (.int (0 : Int32)), (.int (0 : Int32)), (.int (0 : Int32))] (.int (0 : Int32)) := (Arv.new A246 (by decide)).pad (pad_rep [] (.int (0 : Int32)) 9)
  have E_b246 := Ex246
  refine .st st246 ?_
  show OwnGoW p e below s Z own_EL _ _ _ T246 (mkF m 251 _ [(.ref b246)])
  refine .astore X246 hx (hb hby at_251) rfl (L' := #[.val (.int p1), .val (.long p2), .second, .val (.long p3), .second, .val (.int (9 : Int32)), .val (.int lt), .val (.int mo), .val (.int kk), .val (.int bi), .val (.ref b106), .val (.ref b246), .unset, .unset, .unset]) rfl ?_
  refine .iload X246 hx (hb hby at_253) rfl ?_
  refine .ifNo X246 hx (hb hby at_255) ((if0 _ _).trans (tlt ((by decide) : (0 : Int32) < (9 : Int32))).2.2.2) ?_
  refine .aload X246 hx (hb hby at_258) rfl rfl ?_
  refine .iconst X246 hx (hb hby at_260) own_ki0 ?_
  refine .aload X246 hx (hb hby at_261) rfl rfl ?_
  refine .iconst X246 hx (hb hby at_263) own_ki0 ?_
  obtain ⟨cl247, Ar247, -, S247, -, H247, -⟩ := id V_b106
  have hin247 : ¬ ((0 : Int32) < 0 ∨ cl247.slots.size ≤ ((0 : Int32)).toNatClampNeg) := inb_of S247 ⟨by decide, by decide⟩
  refine .st (fun _ => X246.caload hx (j := (0 : Int32)) (v := (.int ch107)) (by first | exact Ar247.1 | (rw [e246]; exact Ar247.1)) (State.isArrayOf_alike hZ.alike Ar247.2.1) Ar247.2.2 hin247 (H247.at hin247 rfl) (g := (mkF m 264 #[.val (.int p1), .val (.long p2), .second, .val (.long p3), .second, .val (.int (9 : Int32)), .val (.int lt), .val (.int mo), .val (.int kk), .val (.int bi), .val (.ref b106), .val (.ref b246), .unset, .unset, .unset] [(.int (0 : Int32)), (.ref b106), (.int (0 : Int32)), (.ref b246)])) rfl rfl (hb hby at_264) _) ?_
  show OwnGoW p e below s Z own_EL _ _ _ T246 (mkF m 265 _ [(.int ch107), (.int (0 : Int32)), (.ref b246)])
  obtain ⟨cl248, Ar248, q248, S248, N248, H248, G248⟩ := id V_b246
  have hin248 : ¬ ((0 : Int32) < 0 ∨ cl248.slots.size ≤ ((0 : Int32)).toNatClampNeg) := inb_of S248 ⟨by decide, by decide⟩
  obtain ⟨T248, h248, X248, e248, W248, st248⟩ := stC X246 hx hZ e246 Ar248 (j := (0 : Int32)) hin248 (g := (mkF m 265 #[.val (.int p1), .val (.long p2), .second, .val (.long p3), .second, .val (.int (9 : Int32)), .val (.int lt), .val (.int mo), .val (.int kk), .val (.int bi), .val (.ref b106), .val (.ref b246), .unset, .unset, .unset] [(.int ch107), (.int (0 : Int32)), (.ref b246)])) rfl rfl (hb hby at_265)
  have V_b246 : Arv Z h248 b246 k246 .char (9 : Int32) [(.int (nar .char ch107)), (.int (0 : Int32)), (.int (0 : Int32)), (.int (0 : Int32)), (.int (0 : Int32)), (.int (0 : Int32)), (.int (0 : Int32)), (.int (0 : Int32)), (.int (0 : Int32))] (.int (0 : Int32)) := Arv.set Ar248 q248 S248 N248 H248 G248 (fits_nar_char _) W248 0 rfl (Nat.le_of_ble_eq_true rfl)
  rw [show nar .char ch107 = ch107 from (own_lnc hp_ch107)] at V_b246
  have V_b106 := V_b106.other W248 ne_b106_b246
  have E_b106 := E_b106.wr W248
  have E_b246 := E_b246.wr W248
  have O_ := O_.wr W248 g_b246
  have sf_ := sf_b246
  have CR0 := CR.1
  have CR := CR.trans (CHr.wr W248 sf_ CR.1)
  have sf_b106 := Safe.wr W248 sf_ CR0 sf_b106
  have sf_b246 := Safe.wr W248 sf_ CR0 sf_b246
  have hk_ := Nat.le_trans hk_ (Nat.le_of_eq W248.size.symm)
  have N248 := Fr.snoc X248 N0 g_b246
  have Z_ : n0 ≤ h248.size := by rw [W248.size]; exact Z_
  refine .st st248 ?_
  show OwnGoW p e below s Z own_EL _ _ _ T248 (mkF m 266 _ [])
  refine .iload X248 hx (hb hby at_266) rfl ?_
  refine .iconst X248 hx (hb hby at_268) own_ki1 ?_
  refine .icmpNo X248 hx (hb hby at_269) (tlt ((by decide) : (1 : Int32) < (9 : Int32))).2.2.2 ?_
  refine .aload X248 hx (hb hby at_272) rfl rfl ?_
  refine .iconst X248 hx (hb hby at_274) own_ki1 ?_
  refine .aload X248 hx (hb hby at_275) rfl rfl ?_
  refine .iconst X248 hx (hb hby at_277) own_ki1 ?_
  obtain ⟨cl249, Ar249, -, S249, -, H249, -⟩ := id V_b106
  have hin249 : ¬ ((1 : Int32) < 0 ∨ cl249.slots.size ≤ ((1 : Int32)).toNatClampNeg) := inb_of S249 ⟨by decide, by decide⟩
  refine .st (fun _ => X248.caload hx (j := (1 : Int32)) (v := (.int ch109)) (by first | exact Ar249.1 | (rw [e248]; exact Ar249.1)) (State.isArrayOf_alike hZ.alike Ar249.2.1) Ar249.2.2 hin249 (H249.at hin249 rfl) (g := (mkF m 278 #[.val (.int p1), .val (.long p2), .second, .val (.long p3), .second, .val (.int (9 : Int32)), .val (.int lt), .val (.int mo), .val (.int kk), .val (.int bi), .val (.ref b106), .val (.ref b246), .unset, .unset, .unset] [(.int (1 : Int32)), (.ref b106), (.int (1 : Int32)), (.ref b246)])) rfl rfl (hb hby at_278) _) ?_
  show OwnGoW p e below s Z own_EL _ _ _ T248 (mkF m 279 _ [(.int ch109), (.int (1 : Int32)), (.ref b246)])
  obtain ⟨cl250, Ar250, q250, S250, N250, H250, G250⟩ := id V_b246
  have hin250 : ¬ ((1 : Int32) < 0 ∨ cl250.slots.size ≤ ((1 : Int32)).toNatClampNeg) := inb_of S250 ⟨by decide, by decide⟩
  obtain ⟨T250, h250, X250, e250, W250, st250⟩ := stC X248 hx hZ e248 Ar250 (j := (1 : Int32)) hin250 (g := (mkF m 279 #[.val (.int p1), .val (.long p2), .second, .val (.long p3), .second, .val (.int (9 : Int32)), .val (.int lt), .val (.int mo), .val (.int kk), .val (.int bi), .val (.ref b106), .val (.ref b246), .unset, .unset, .unset] [(.int ch109), (.int (1 : Int32)), (.ref b246)])) rfl rfl (hb hby at_279)
  have V_b246 : Arv Z h250 b246 k246 .char (9 : Int32) [(.int ch107), (.int (nar .char ch109)), (.int (0 : Int32)), (.int (0 : Int32)), (.int (0 : Int32)), (.int (0 : Int32)), (.int (0 : Int32)), (.int (0 : Int32)), (.int (0 : Int32))] (.int (0 : Int32)) := Arv.set Ar250 q250 S250 N250 H250 G250 (fits_nar_char _) W250 1 rfl (Nat.le_of_ble_eq_true rfl)
  rw [show nar .char ch109 = ch109 from (own_lnc hp_ch109)] at V_b246
  have V_b106 := V_b106.other W250 ne_b106_b246
  have E_b106 := E_b106.wr W250
  have E_b246 := E_b246.wr W250
  have O_ := O_.wr W250 g_b246
  have sf_ := sf_b246
  have CR0 := CR.1
  have CR := CR.trans (CHr.wr W250 sf_ CR.1)
  have sf_b106 := Safe.wr W250 sf_ CR0 sf_b106
  have sf_b246 := Safe.wr W250 sf_ CR0 sf_b246
  have hk_ := Nat.le_trans hk_ (Nat.le_of_eq W250.size.symm)
  have N250 := Fr.snoc X250 N248 g_b246
  have Z_ : n0 ≤ h250.size := by rw [W250.size]; exact Z_
  refine .st st250 ?_
  show OwnGoW p e below s Z own_EL _ _ _ T250 (mkF m 280 _ [])
  refine .iload X250 hx (hb hby at_280) rfl ?_
  refine .iconst X250 hx (hb hby at_282) own_ki2 ?_
  refine .icmpNo X250 hx (hb hby at_283) (tlt ((by decide) : (2 : Int32) < (9 : Int32))).2.2.2 ?_
  refine .aload X250 hx (hb hby at_286) rfl rfl ?_
  refine .iconst X250 hx (hb hby at_288) own_ki2 ?_
  refine .aload X250 hx (hb hby at_289) rfl rfl ?_
  refine .iconst X250 hx (hb hby at_291) own_ki2 ?_
  obtain ⟨cl251, Ar251, -, S251, -, H251, -⟩ := id V_b106
  have hin251 : ¬ ((2 : Int32) < 0 ∨ cl251.slots.size ≤ ((2 : Int32)).toNatClampNeg) := inb_of S251 ⟨by decide, by decide⟩
  refine .st (fun _ => X250.caload hx (j := (2 : Int32)) (v := (.int ch111)) (by first | exact Ar251.1 | (rw [e250]; exact Ar251.1)) (State.isArrayOf_alike hZ.alike Ar251.2.1) Ar251.2.2 hin251 (H251.at hin251 rfl) (g := (mkF m 292 #[.val (.int p1), .val (.long p2), .second, .val (.long p3), .second, .val (.int (9 : Int32)), .val (.int lt), .val (.int mo), .val (.int kk), .val (.int bi), .val (.ref b106), .val (.ref b246), .unset, .unset, .unset] [(.int (2 : Int32)), (.ref b106), (.int (2 : Int32)), (.ref b246)])) rfl rfl (hb hby at_292) _) ?_
  show OwnGoW p e below s Z own_EL _ _ _ T250 (mkF m 293 _ [(.int ch111), (.int (2 : Int32)), (.ref b246)])
  obtain ⟨cl252, Ar252, q252, S252, N252, H252, G252⟩ := id V_b246
  have hin252 : ¬ ((2 : Int32) < 0 ∨ cl252.slots.size ≤ ((2 : Int32)).toNatClampNeg) := inb_of S252 ⟨by decide, by decide⟩
  obtain ⟨T252, h252, X252, e252, W252, st252⟩ := stC X250 hx hZ e250 Ar252 (j := (2 : Int32)) hin252 (g := (mkF m 293 #[.val (.int p1), .val (.long p2), .second, .val (.long p3), .second, .val (.int (9 : Int32)), .val (.int lt), .val (.int mo), .val (.int kk), .val (.int bi), .val (.ref b106), .val (.ref b246), .unset, .unset, .unset] [(.int ch111), (.int (2 : Int32)), (.ref b246)])) rfl rfl (hb hby at_293)
  have V_b246 : Arv Z h252 b246 k246 .char (9 : Int32) [(.int ch107), (.int ch109), (.int (nar .char ch111)), (.int (0 : Int32)), (.int (0 : Int32)), (.int (0 : Int32)), (.int (0 : Int32)), (.int (0 : Int32)), (.int (0 : Int32))] (.int (0 : Int32)) := Arv.set Ar252 q252 S252 N252 H252 G252 (fits_nar_char _) W252 2 rfl (Nat.le_of_ble_eq_true rfl)
  rw [show nar .char ch111 = ch111 from (own_lnc hp_ch111)] at V_b246
  have V_b106 := V_b106.other W252 ne_b106_b246
  have E_b106 := E_b106.wr W252
  have E_b246 := E_b246.wr W252
  have O_ := O_.wr W252 g_b246
  have sf_ := sf_b246
  have CR0 := CR.1
  have CR := CR.trans (CHr.wr W252 sf_ CR.1)
  have sf_b106 := Safe.wr W252 sf_ CR0 sf_b106
  have sf_b246 := Safe.wr W252 sf_ CR0 sf_b246
  have hk_ := Nat.le_trans hk_ (Nat.le_of_eq W252.size.symm)
  have N252 := Fr.snoc X252 N250 g_b246
  have Z_ : n0 ≤ h252.size := by rw [W252.size]; exact Z_
  refine .st st252 ?_
  show OwnGoW p e below s Z own_EL _ _ _ T252 (mkF m 294 _ [])
  refine .iload X252 hx (hb hby at_294) rfl ?_
  refine .iconst X252 hx (hb hby at_296) own_ki3 ?_
  refine .icmpNo X252 hx (hb hby at_297) (tlt ((by decide) : (3 : Int32) < (9 : Int32))).2.2.2 ?_
  refine .aload X252 hx (hb hby at_300) rfl rfl ?_
  refine .iconst X252 hx (hb hby at_302) own_ki3 ?_
  refine .aload X252 hx (hb hby at_303) rfl rfl ?_
  refine .iconst X252 hx (hb hby at_305) own_ki3 ?_
  obtain ⟨cl253, Ar253, -, S253, -, H253, -⟩ := id V_b106
  have hin253 : ¬ ((3 : Int32) < 0 ∨ cl253.slots.size ≤ ((3 : Int32)).toNatClampNeg) := inb_of S253 ⟨by decide, by decide⟩
  refine .st (fun _ => X252.caload hx (j := (3 : Int32)) (v := (.int ch113)) (by first | exact Ar253.1 | (rw [e252]; exact Ar253.1)) (State.isArrayOf_alike hZ.alike Ar253.2.1) Ar253.2.2 hin253 (H253.at hin253 rfl) (g := (mkF m 306 #[.val (.int p1), .val (.long p2), .second, .val (.long p3), .second, .val (.int (9 : Int32)), .val (.int lt), .val (.int mo), .val (.int kk), .val (.int bi), .val (.ref b106), .val (.ref b246), .unset, .unset, .unset] [(.int (3 : Int32)), (.ref b106), (.int (3 : Int32)), (.ref b246)])) rfl rfl (hb hby at_306) _) ?_
  show OwnGoW p e below s Z own_EL _ _ _ T252 (mkF m 307 _ [(.int ch113), (.int (3 : Int32)), (.ref b246)])
  obtain ⟨cl254, Ar254, q254, S254, N254, H254, G254⟩ := id V_b246
  have hin254 : ¬ ((3 : Int32) < 0 ∨ cl254.slots.size ≤ ((3 : Int32)).toNatClampNeg) := inb_of S254 ⟨by decide, by decide⟩
  obtain ⟨T254, h254, X254, e254, W254, st254⟩ := stC X252 hx hZ e252 Ar254 (j := (3 : Int32)) hin254 (g := (mkF m 307 #[.val (.int p1), .val (.long p2), .second, .val (.long p3), .second, .val (.int (9 : Int32)), .val (.int lt), .val (.int mo), .val (.int kk), .val (.int bi), .val (.ref b106), .val (.ref b246), .unset, .unset, .unset] [(.int ch113), (.int (3 : Int32)), (.ref b246)])) rfl rfl (hb hby at_307)
  have V_b246 : Arv Z h254 b246 k246 .char (9 : Int32) [(.int ch107), (.int ch109), (.int ch111), (.int (nar .char ch113)), (.int (0 : Int32)), (.int (0 : Int32)), (.int (0 : Int32)), (.int (0 : Int32)), (.int (0 : Int32))] (.int (0 : Int32)) := Arv.set Ar254 q254 S254 N254 H254 G254 (fits_nar_char _) W254 3 rfl (Nat.le_of_ble_eq_true rfl)
  rw [show nar .char ch113 = ch113 from (own_lnc hp_ch113)] at V_b246
  have V_b106 := V_b106.other W254 ne_b106_b246
  have E_b106 := E_b106.wr W254
  have E_b246 := E_b246.wr W254
  have O_ := O_.wr W254 g_b246
  have sf_ := sf_b246
  have CR0 := CR.1
  have CR := CR.trans (CHr.wr W254 sf_ CR.1)
  have sf_b106 := Safe.wr W254 sf_ CR0 sf_b106
  have sf_b246 := Safe.wr W254 sf_ CR0 sf_b246
  have hk_ := Nat.le_trans hk_ (Nat.le_of_eq W254.size.symm)
  have N254 := Fr.snoc X254 N252 g_b246
  have Z_ : n0 ≤ h254.size := by rw [W254.size]; exact Z_
  refine .st st254 ?_
  show OwnGoW p e below s Z own_EL _ _ _ T254 (mkF m 308 _ [])
  refine .iload X254 hx (hb hby at_308) rfl ?_
  refine .iconst X254 hx (hb hby at_310) own_ki4 ?_
  refine .icmpNo X254 hx (hb hby at_311) (tlt ((by decide) : (4 : Int32) < (9 : Int32))).2.2.2 ?_
  refine .aload X254 hx (hb hby at_314) rfl rfl ?_
  refine .iconst X254 hx (hb hby at_316) own_ki4 ?_
  refine .aload X254 hx (hb hby at_317) rfl rfl ?_
  refine .iconst X254 hx (hb hby at_319) own_ki4 ?_
  obtain ⟨cl255, Ar255, -, S255, -, H255, -⟩ := id V_b106
  have hin255 : ¬ ((4 : Int32) < 0 ∨ cl255.slots.size ≤ ((4 : Int32)).toNatClampNeg) := inb_of S255 ⟨by decide, by decide⟩
  refine .st (fun _ => X254.caload hx (j := (4 : Int32)) (v := (.int ch115)) (by first | exact Ar255.1 | (rw [e254]; exact Ar255.1)) (State.isArrayOf_alike hZ.alike Ar255.2.1) Ar255.2.2 hin255 (H255.at hin255 rfl) (g := (mkF m 320 #[.val (.int p1), .val (.long p2), .second, .val (.long p3), .second, .val (.int (9 : Int32)), .val (.int lt), .val (.int mo), .val (.int kk), .val (.int bi), .val (.ref b106), .val (.ref b246), .unset, .unset, .unset] [(.int (4 : Int32)), (.ref b106), (.int (4 : Int32)), (.ref b246)])) rfl rfl (hb hby at_320) _) ?_
  show OwnGoW p e below s Z own_EL _ _ _ T254 (mkF m 321 _ [(.int ch115), (.int (4 : Int32)), (.ref b246)])
  obtain ⟨cl256, Ar256, q256, S256, N256, H256, G256⟩ := id V_b246
  have hin256 : ¬ ((4 : Int32) < 0 ∨ cl256.slots.size ≤ ((4 : Int32)).toNatClampNeg) := inb_of S256 ⟨by decide, by decide⟩
  obtain ⟨T256, h256, X256, e256, W256, st256⟩ := stC X254 hx hZ e254 Ar256 (j := (4 : Int32)) hin256 (g := (mkF m 321 #[.val (.int p1), .val (.long p2), .second, .val (.long p3), .second, .val (.int (9 : Int32)), .val (.int lt), .val (.int mo), .val (.int kk), .val (.int bi), .val (.ref b106), .val (.ref b246), .unset, .unset, .unset] [(.int ch115), (.int (4 : Int32)), (.ref b246)])) rfl rfl (hb hby at_321)
  have V_b246 : Arv Z h256 b246 k246 .char (9 : Int32) [(.int ch107), (.int ch109), (.int ch111), (.int ch113), (.int (nar .char ch115)), (.int (0 : Int32)), (.int (0 : Int32)), (.int (0 : Int32)), (.int (0 : Int32))] (.int (0 : Int32)) := Arv.set Ar256 q256 S256 N256 H256 G256 (fits_nar_char _) W256 4 rfl (Nat.le_of_ble_eq_true rfl)
  rw [show nar .char ch115 = ch115 from (own_lnc hp_ch115)] at V_b246
  have V_b106 := V_b106.other W256 ne_b106_b246
  have E_b106 := E_b106.wr W256
  have E_b246 := E_b246.wr W256
  have O_ := O_.wr W256 g_b246
  have sf_ := sf_b246
  have CR0 := CR.1
  have CR := CR.trans (CHr.wr W256 sf_ CR.1)
  have sf_b106 := Safe.wr W256 sf_ CR0 sf_b106
  have sf_b246 := Safe.wr W256 sf_ CR0 sf_b246
  have hk_ := Nat.le_trans hk_ (Nat.le_of_eq W256.size.symm)
  have N256 := Fr.snoc X256 N254 g_b246
  have Z_ : n0 ≤ h256.size := by rw [W256.size]; exact Z_
  refine .st st256 ?_
  show OwnGoW p e below s Z own_EL _ _ _ T256 (mkF m 322 _ [])
  refine .iload X256 hx (hb hby at_322) rfl ?_
  refine .iconst X256 hx (hb hby at_324) own_ki5 ?_
  refine .icmpNo X256 hx (hb hby at_325) (tlt ((by decide) : (5 : Int32) < (9 : Int32))).2.2.2 ?_
  refine .aload X256 hx (hb hby at_328) rfl rfl ?_
  refine .iconst X256 hx (hb hby at_330) own_ki5 ?_
  refine .aload X256 hx (hb hby at_331) rfl rfl ?_
  refine .iconst X256 hx (hb hby at_333) own_ki5 ?_
  obtain ⟨cl257, Ar257, -, S257, -, H257, -⟩ := id V_b106
  have hin257 : ¬ ((5 : Int32) < 0 ∨ cl257.slots.size ≤ ((5 : Int32)).toNatClampNeg) := inb_of S257 ⟨by decide, by decide⟩
  refine .st (fun _ => X256.caload hx (j := (5 : Int32)) (v := (.int ch117)) (by first | exact Ar257.1 | (rw [e256]; exact Ar257.1)) (State.isArrayOf_alike hZ.alike Ar257.2.1) Ar257.2.2 hin257 (H257.at hin257 rfl) (g := (mkF m 334 #[.val (.int p1), .val (.long p2), .second, .val (.long p3), .second, .val (.int (9 : Int32)), .val (.int lt), .val (.int mo), .val (.int kk), .val (.int bi), .val (.ref b106), .val (.ref b246), .unset, .unset, .unset] [(.int (5 : Int32)), (.ref b106), (.int (5 : Int32)), (.ref b246)])) rfl rfl (hb hby at_334) _) ?_
  show OwnGoW p e below s Z own_EL _ _ _ T256 (mkF m 335 _ [(.int ch117), (.int (5 : Int32)), (.ref b246)])
  obtain ⟨cl258, Ar258, q258, S258, N258, H258, G258⟩ := id V_b246
  have hin258 : ¬ ((5 : Int32) < 0 ∨ cl258.slots.size ≤ ((5 : Int32)).toNatClampNeg) := inb_of S258 ⟨by decide, by decide⟩
  obtain ⟨T258, h258, X258, e258, W258, st258⟩ := stC X256 hx hZ e256 Ar258 (j := (5 : Int32)) hin258 (g := (mkF m 335 #[.val (.int p1), .val (.long p2), .second, .val (.long p3), .second, .val (.int (9 : Int32)), .val (.int lt), .val (.int mo), .val (.int kk), .val (.int bi), .val (.ref b106), .val (.ref b246), .unset, .unset, .unset] [(.int ch117), (.int (5 : Int32)), (.ref b246)])) rfl rfl (hb hby at_335)
  have V_b246 : Arv Z h258 b246 k246 .char (9 : Int32) [(.int ch107), (.int ch109), (.int ch111), (.int ch113), (.int ch115), (.int (nar .char ch117)), (.int (0 : Int32)), (.int (0 : Int32)), (.int (0 : Int32))] (.int (0 : Int32)) := Arv.set Ar258 q258 S258 N258 H258 G258 (fits_nar_char _) W258 5 rfl (Nat.le_of_ble_eq_true rfl)
  rw [show nar .char ch117 = ch117 from (own_lnc hp_ch117)] at V_b246
  have V_b106 := V_b106.other W258 ne_b106_b246
  have E_b106 := E_b106.wr W258
  have E_b246 := E_b246.wr W258
  have O_ := O_.wr W258 g_b246
  have sf_ := sf_b246
  have CR0 := CR.1
  have CR := CR.trans (CHr.wr W258 sf_ CR.1)
  have sf_b106 := Safe.wr W258 sf_ CR0 sf_b106
  have sf_b246 := Safe.wr W258 sf_ CR0 sf_b246
  have hk_ := Nat.le_trans hk_ (Nat.le_of_eq W258.size.symm)
  have N258 := Fr.snoc X258 N256 g_b246
  have Z_ : n0 ≤ h258.size := by rw [W258.size]; exact Z_
  refine .st st258 ?_
  show OwnGoW p e below s Z own_EL _ _ _ T258 (mkF m 336 _ [])
  refine .iload X258 hx (hb hby at_336) rfl ?_
  refine .bipush X258 hx (hb hby at_338) own_kb6 ?_
  refine .icmpNo X258 hx (hb hby at_340) (tlt ((by decide) : (6 : Int32) < (9 : Int32))).2.2.2 ?_
  refine .aload X258 hx (hb hby at_343) rfl rfl ?_
  refine .bipush X258 hx (hb hby at_345) own_kb6 ?_
  refine .aload X258 hx (hb hby at_347) rfl rfl ?_
  refine .bipush X258 hx (hb hby at_349) own_kb6 ?_
  obtain ⟨cl259, Ar259, -, S259, -, H259, -⟩ := id V_b106
  have hin259 : ¬ ((6 : Int32) < 0 ∨ cl259.slots.size ≤ ((6 : Int32)).toNatClampNeg) := inb_of S259 ⟨by decide, by decide⟩
  refine .st (fun _ => X258.caload hx (j := (6 : Int32)) (v := (.int ch119)) (by first | exact Ar259.1 | (rw [e258]; exact Ar259.1)) (State.isArrayOf_alike hZ.alike Ar259.2.1) Ar259.2.2 hin259 (H259.at hin259 rfl) (g := (mkF m 351 #[.val (.int p1), .val (.long p2), .second, .val (.long p3), .second, .val (.int (9 : Int32)), .val (.int lt), .val (.int mo), .val (.int kk), .val (.int bi), .val (.ref b106), .val (.ref b246), .unset, .unset, .unset] [(.int (6 : Int32)), (.ref b106), (.int (6 : Int32)), (.ref b246)])) rfl rfl (hb hby at_351) _) ?_
  show OwnGoW p e below s Z own_EL _ _ _ T258 (mkF m 352 _ [(.int ch119), (.int (6 : Int32)), (.ref b246)])
  obtain ⟨cl260, Ar260, q260, S260, N260, H260, G260⟩ := id V_b246
  have hin260 : ¬ ((6 : Int32) < 0 ∨ cl260.slots.size ≤ ((6 : Int32)).toNatClampNeg) := inb_of S260 ⟨by decide, by decide⟩
  obtain ⟨T260, h260, X260, e260, W260, st260⟩ := stC X258 hx hZ e258 Ar260 (j := (6 : Int32)) hin260 (g := (mkF m 352 #[.val (.int p1), .val (.long p2), .second, .val (.long p3), .second, .val (.int (9 : Int32)), .val (.int lt), .val (.int mo), .val (.int kk), .val (.int bi), .val (.ref b106), .val (.ref b246), .unset, .unset, .unset] [(.int ch119), (.int (6 : Int32)), (.ref b246)])) rfl rfl (hb hby at_352)
  have V_b246 : Arv Z h260 b246 k246 .char (9 : Int32) [(.int ch107), (.int ch109), (.int ch111), (.int ch113), (.int ch115), (.int ch117), (.int (nar .char ch119)), (.int (0 : Int32)), (.int (0 : Int32))] (.int (0 : Int32)) := Arv.set Ar260 q260 S260 N260 H260 G260 (fits_nar_char _) W260 6 rfl (Nat.le_of_ble_eq_true rfl)
  rw [show nar .char ch119 = ch119 from (own_lnc hp_ch119)] at V_b246
  have V_b106 := V_b106.other W260 ne_b106_b246
  have E_b106 := E_b106.wr W260
  have E_b246 := E_b246.wr W260
  have O_ := O_.wr W260 g_b246
  have sf_ := sf_b246
  have CR0 := CR.1
  have CR := CR.trans (CHr.wr W260 sf_ CR.1)
  have sf_b106 := Safe.wr W260 sf_ CR0 sf_b106
  have sf_b246 := Safe.wr W260 sf_ CR0 sf_b246
  have hk_ := Nat.le_trans hk_ (Nat.le_of_eq W260.size.symm)
  have N260 := Fr.snoc X260 N258 g_b246
  have Z_ : n0 ≤ h260.size := by rw [W260.size]; exact Z_
  refine .st st260 ?_
  show OwnGoW p e below s Z own_EL _ _ _ T260 (mkF m 353 _ [])
  refine .iload X260 hx (hb hby at_353) rfl ?_
  refine .bipush X260 hx (hb hby at_355) own_kb7 ?_
  refine .icmpNo X260 hx (hb hby at_357) (tlt ((by decide) : (7 : Int32) < (9 : Int32))).2.2.2 ?_
  refine .aload X260 hx (hb hby at_360) rfl rfl ?_
  refine .bipush X260 hx (hb hby at_362) own_kb7 ?_
  refine .aload X260 hx (hb hby at_364) rfl rfl ?_
  refine .bipush X260 hx (hb hby at_366) own_kb7 ?_
  obtain ⟨cl261, Ar261, -, S261, -, H261, -⟩ := id V_b106
  have hin261 : ¬ ((7 : Int32) < 0 ∨ cl261.slots.size ≤ ((7 : Int32)).toNatClampNeg) := inb_of S261 ⟨by decide, by decide⟩
  refine .st (fun _ => X260.caload hx (j := (7 : Int32)) (v := (.int ch121)) (by first | exact Ar261.1 | (rw [e260]; exact Ar261.1)) (State.isArrayOf_alike hZ.alike Ar261.2.1) Ar261.2.2 hin261 (H261.at hin261 rfl) (g := (mkF m 368 #[.val (.int p1), .val (.long p2), .second, .val (.long p3), .second, .val (.int (9 : Int32)), .val (.int lt), .val (.int mo), .val (.int kk), .val (.int bi), .val (.ref b106), .val (.ref b246), .unset, .unset, .unset] [(.int (7 : Int32)), (.ref b106), (.int (7 : Int32)), (.ref b246)])) rfl rfl (hb hby at_368) _) ?_
  show OwnGoW p e below s Z own_EL _ _ _ T260 (mkF m 369 _ [(.int ch121), (.int (7 : Int32)), (.ref b246)])
  obtain ⟨cl262, Ar262, q262, S262, N262, H262, G262⟩ := id V_b246
  have hin262 : ¬ ((7 : Int32) < 0 ∨ cl262.slots.size ≤ ((7 : Int32)).toNatClampNeg) := inb_of S262 ⟨by decide, by decide⟩
  obtain ⟨T262, h262, X262, e262, W262, st262⟩ := stC X260 hx hZ e260 Ar262 (j := (7 : Int32)) hin262 (g := (mkF m 369 #[.val (.int p1), .val (.long p2), .second, .val (.long p3), .second, .val (.int (9 : Int32)), .val (.int lt), .val (.int mo), .val (.int kk), .val (.int bi), .val (.ref b106), .val (.ref b246), .unset, .unset, .unset] [(.int ch121), (.int (7 : Int32)), (.ref b246)])) rfl rfl (hb hby at_369)
  have V_b246 : Arv Z h262 b246 k246 .char (9 : Int32) [(.int ch107), (.int ch109), (.int ch111), (.int ch113), (.int ch115), (.int ch117), (.int ch119), (.int (nar .char ch121)), (.int (0 : Int32))] (.int (0 : Int32)) := Arv.set Ar262 q262 S262 N262 H262 G262 (fits_nar_char _) W262 7 rfl (Nat.le_of_ble_eq_true rfl)
  rw [show nar .char ch121 = ch121 from (own_lnc hp_ch121)] at V_b246
  have V_b106 := V_b106.other W262 ne_b106_b246
  have E_b106 := E_b106.wr W262
  have E_b246 := E_b246.wr W262
  have O_ := O_.wr W262 g_b246
  have sf_ := sf_b246
  have CR0 := CR.1
  have CR := CR.trans (CHr.wr W262 sf_ CR.1)
  have sf_b106 := Safe.wr W262 sf_ CR0 sf_b106
  have sf_b246 := Safe.wr W262 sf_ CR0 sf_b246
  have hk_ := Nat.le_trans hk_ (Nat.le_of_eq W262.size.symm)
  have N262 := Fr.snoc X262 N260 g_b246
  have Z_ : n0 ≤ h262.size := by rw [W262.size]; exact Z_
  refine .st st262 ?_
  show OwnGoW p e below s Z own_EL _ _ _ T262 (mkF m 370 _ [])
  refine .iload X262 hx (hb hby at_370) rfl ?_
  refine .bipush X262 hx (hb hby at_372) own_kb8 ?_
  refine .icmpNo X262 hx (hb hby at_374) (tlt ((by decide) : (8 : Int32) < (9 : Int32))).2.2.2 ?_
  refine .aload X262 hx (hb hby at_377) rfl rfl ?_
  refine .bipush X262 hx (hb hby at_379) own_kb8 ?_
  refine .aload X262 hx (hb hby at_381) rfl rfl ?_
  refine .bipush X262 hx (hb hby at_383) own_kb8 ?_
  obtain ⟨cl263, Ar263, -, S263, -, H263, -⟩ := id V_b106
  have hin263 : ¬ ((8 : Int32) < 0 ∨ cl263.slots.size ≤ ((8 : Int32)).toNatClampNeg) := inb_of S263 ⟨by decide, by decide⟩
  refine .st (fun _ => X262.caload hx (j := (8 : Int32)) (v := (.int ch123)) (by first | exact Ar263.1 | (rw [e262]; exact Ar263.1)) (State.isArrayOf_alike hZ.alike Ar263.2.1) Ar263.2.2 hin263 (H263.at hin263 rfl) (g := (mkF m 385 #[.val (.int p1), .val (.long p2), .second, .val (.long p3), .second, .val (.int (9 : Int32)), .val (.int lt), .val (.int mo), .val (.int kk), .val (.int bi), .val (.ref b106), .val (.ref b246), .unset, .unset, .unset] [(.int (8 : Int32)), (.ref b106), (.int (8 : Int32)), (.ref b246)])) rfl rfl (hb hby at_385) _) ?_
  show OwnGoW p e below s Z own_EL _ _ _ T262 (mkF m 386 _ [(.int ch123), (.int (8 : Int32)), (.ref b246)])
  obtain ⟨cl264, Ar264, q264, S264, N264, H264, G264⟩ := id V_b246
  have hin264 : ¬ ((8 : Int32) < 0 ∨ cl264.slots.size ≤ ((8 : Int32)).toNatClampNeg) := inb_of S264 ⟨by decide, by decide⟩
  obtain ⟨T264, h264, X264, e264, W264, st264⟩ := stC X262 hx hZ e262 Ar264 (j := (8 : Int32)) hin264 (g := (mkF m 386 #[.val (.int p1), .val (.long p2), .second, .val (.long p3), .second, .val (.int (9 : Int32)), .val (.int lt), .val (.int mo), .val (.int kk), .val (.int bi), .val (.ref b106), .val (.ref b246), .unset, .unset, .unset] [(.int ch123), (.int (8 : Int32)), (.ref b246)])) rfl rfl (hb hby at_386)
  have V_b246 : Arv Z h264 b246 k246 .char (9 : Int32) [(.int ch107), (.int ch109), (.int ch111), (.int ch113), (.int ch115), (.int ch117), (.int ch119), (.int ch121), (.int (nar .char ch123))] (.int (0 : Int32)) := Arv.set Ar264 q264 S264 N264 H264 G264 (fits_nar_char _) W264 8 rfl (Nat.le_of_ble_eq_true rfl)
  rw [show nar .char ch123 = ch123 from (own_lnc hp_ch123)] at V_b246
  have V_b106 := V_b106.other W264 ne_b106_b246
  have E_b106 := E_b106.wr W264
  have E_b246 := E_b246.wr W264
  have O_ := O_.wr W264 g_b246
  have sf_ := sf_b246
  have CR0 := CR.1
  have CR := CR.trans (CHr.wr W264 sf_ CR.1)
  have sf_b106 := Safe.wr W264 sf_ CR0 sf_b106
  have sf_b246 := Safe.wr W264 sf_ CR0 sf_b246
  have hk_ := Nat.le_trans hk_ (Nat.le_of_eq W264.size.symm)
  have N264 := Fr.snoc X264 N262 g_b246
  have Z_ : n0 ≤ h264.size := by rw [W264.size]; exact Z_
  refine .st st264 ?_
  show OwnGoW p e below s Z own_EL _ _ _ T264 (mkF m 387 _ [])
  refine .iload X264 hx (hb hby at_387) rfl ?_
  refine .bipush X264 hx (hb hby at_389) own_kb9 ?_
  refine .icmpYes (pc := 391) X264 hx 404 (hb hby at_391) (flt ((by decide) : ¬ ((9 : Int32) < (9 : Int32)))).2.2.2 (by decide) (by decide) ?_
  obtain ⟨T265, h265, X265, e265, E265, A265, D265, -, st265⟩ := newO X264 hx hZ hown (W_ hw 39 rfl) (W_ hw 8 rfl) (W_ hw 7 rfl) e264 (g := (mkF m 404 #[.val (.int p1), .val (.long p2), .second, .val (.long p3), .second, .val (.int (9 : Int32)), .val (.int lt), .val (.int mo), .val (.int kk), .val (.int bi), .val (.ref b106), .val (.ref b246), .unset, .unset, .unset] [])) rfl (hb hby at_404) (by decide) (by decide)
  obtain ⟨b265, g265⟩ : ∃ z, z = h264.size := ⟨_, rfl⟩
  rw [← g265] at A265 D265 st265
  have ne_b106_b265 : b106 ≠ b265 := Nat.ne_of_lt (Nat.lt_of_lt_of_le V_b106.lt (Nat.le_of_eq g265.symm))
  have ne_b246_b265 : b246 ≠ b265 := Nat.ne_of_lt (Nat.lt_of_lt_of_le V_b246.lt (Nat.le_of_eq g265.symm))
  have g_b265 : n0 ≤ b265 := Nat.le_trans Z_ (Nat.le_of_eq g265.symm)
  have sf_b265 : Safe Z own_EL vm1 h264 b265 := Safe.new (Nat.le_of_eq g265.symm)
  have V_b106 := V_b106.ext E265
  have E_b106 := E_b106.ext E265
  have V_b246 := V_b246.ext E265
  have E_b246 := E_b246.ext E265
  have O_ := O_.ext E265
  have sf_b106 := Safe.ext E265 CR.1 sf_b106
  have sf_b246 := Safe.ext E265 CR.1 sf_b246
  have sf_b265 := Safe.ext E265 CR.1 sf_b265
  have CR := CR.trans (CHr.ext E265 CR.1)
  have hk_ := Nat.le_trans hk_ E265.1
  have Z_ : n0 ≤ h265.size := Nat.le_trans Z_ E265.1
  have E_b265 := A265
  have F_value_b265 : Fld Z h265 b265 "java/lang/String" "value" "[B" .null := D265 (Or.inr (W_ hw 10 rfl)) (ty := (.array .byte)) (by decide)
  have F_coder_b265 : Fld Z h265 b265 "java/lang/String" "coder" "B" (.int (0 : Int32)) := D265 (Or.inr (W_ hw 11 rfl)) (ty := .byte) (by decide)
  refine .st st265 ?_
  show OwnGoW p e below s Z own_EL _ _ _ T265 (mkF m 407 _ [(.ref b265)])
  refine .dup X265 hx (hb hby at_407) rfl ?_
  refine .aload X265 hx (hb hby at_408) rfl rfl ?_
  have hp266 : ∀ c ∈ ([ch107, ch109, ch111, ch113, ch115, ch117, ch119, ch121, ch123] : List Int32), ¬ c < 0 ∧ ¬ (255 : Int32) < c := by
    intro c hc
    simp only [List.mem_cons, List.not_mem_nil, or_false] at hc
    rcases hc with rfl | rfl | rfl | rfl | rfl | rfl | rfl | rfl | rfl
    · exact hp_ch107
    · exact hp_ch109
    · exact hp_ch111
    · exact hp_ch113
    · exact hp_ch115
    · exact hp_ch117
    · exact hp_ch119
    · exact hp_ch121
    · exact hp_ch123
  obtain ⟨_, _, ⟨T267, L267, k267, n267⟩, -, X267, ⟨Lc267, hQ267, l267, y267, z267⟩, st267⟩ := X265.specialBack hx (y := (⟨"java/lang/String", "<init>", "([C)V"⟩ : MethodName)) rfl hown (mvT hZ (W_ hw 40 rfl)) (mvT hZ (W_ hw 41 rfl)) (mvT hZ (W_ hw 42 rfl)) (by decide) (StrChars.Road.backV (W := 1) hZ (own_ws hw) (kI := 4) (W_ hw 8 rfl) (cs := ([ch107, ch109, ch111, ch113, ch115, ch117, ch119, ch121, ch123] : List Int32)) (bs := ([ch107, ch109, ch111, ch113, ch115, ch117, ch119, ch121, ch123] : List Int32).map (fun c => c.toInt8.toInt32)) (n := 9) g_b265 Z_ E_b265 F_value_b265 F_coder_b265 V_b246 (S_CS.ext O_.2) P_CS rfl rfl (by decide) (by decide) hp266 rfl (by decide) (by decide)) (g := (mkF m 410 #[.val (.int p1), .val (.long p2), .second, .val (.long p3), .second, .val (.int (9 : Int32)), .val (.int lt), .val (.int mo), .val (.int kk), .val (.int bi), .val (.ref b106), .val (.ref b246), .unset, .unset, .unset] [(.ref b246), (.ref b265), (.ref b265)])) rfl (by rw [hml]; rfl) (Steps.refl _) (a := b265) (argsL := [(.ref b246)]) (rest := [(.ref b265)]) (lenOf pd_9 rfl) rfl (Nat.le_of_eq rfl) (hb hby at_410) (fun _ _ => ⟨rfl, e265, (by decide : 23 + 1 ≤ _), (by decide : 423 + 9 ≤ _)⟩)
  dsimp only [Pt.U, Pt.locs, Pt.cells, Pt.slots] at X267 l267 y267 z267 st267 hQ267
  subst l267 y267 z267
  obtain ⟨rfl, N267q, K267, Ex267, Fc_b265, t267, kb267, gt267, zz267, nt267, Fv_b265, V267⟩ := hQ267
  have N267 := Fr.app N264 N267q
  have zt267 : h265.size ≤ t267 := zz267
  have ne_b106_t267 : b106 ≠ t267 := Nat.ne_of_lt (Nat.lt_of_lt_of_le V_b106.lt zt267)
  have ne_b246_t267 : b246 ≠ t267 := Nat.ne_of_lt (Nat.lt_of_lt_of_le V_b246.lt zt267)
  have ne_b265_t267 : b265 ≠ t267 := Nat.ne_of_lt (Nat.lt_of_lt_of_le E_b265.lt zt267)
  have g_t267 : n0 ≤ t267 := Nat.le_trans Z_ zt267
  have V267 : Arv Z T267.heap t267 kb267 .byte (9 : Int32) [(.int ch107.toInt8.toInt32), (.int ch109.toInt8.toInt32), (.int ch111.toInt8.toInt32), (.int ch113.toInt8.toInt32), (.int ch115.toInt8.toInt32), (.int ch117.toInt8.toInt32), (.int ch119.toInt8.toInt32), (.int ch121.toInt8.toInt32), (.int ch123.toInt8.toInt32)] (.int (0 : Int32)) := V267
  have Z_ : n0 ≤ T267.heap.size := Nat.le_trans Z_ K267.1
  have V_b106 := V_b106.keep K267 (ninS ne_b106_b265 nin0)
  have E_b106 := E_b106.keep K267
  have V_b246 := V_b246.keep K267 (ninS ne_b246_b265 nin0)
  have E_b246 := E_b246.keep K267
  have E_b265 := E_b265.keep K267
  have O_ := O_.keep K267 (allS g_b265 all0)
  have sf_b106' := Safe.keep K267 (sfS sf_b265 sf0) CR.1 sf_b106
  have sf_b246' := Safe.keep K267 (sfS sf_b265 sf0) CR.1 sf_b246
  have sf_b265' := Safe.keep K267 (sfS sf_b265 sf0) CR.1 sf_b265
  have CR := CR.trans (CHr.keep K267 (sfS sf_b265 sf0) CR.1)
  have hk_ := Nat.le_trans hk_ K267.1
  have sf_b106 := sf_b106'
  have sf_b246 := sf_b246'
  have sf_b265 := sf_b265'
  refine .st (fun _ => st267.trans) ?_
  show OwnGoW p e below s Z own_EL _ _ _ T267 (mkF m 413 _ [(.ref b265)])
  refine .astore X267 hx (hb hby at_413) rfl (L' := #[.val (.int p1), .val (.long p2), .second, .val (.long p3), .second, .val (.int (9 : Int32)), .val (.int lt), .val (.int mo), .val (.int kk), .val (.int bi), .val (.ref b106), .val (.ref b246), .val (.ref b265), .unset, .unset]) rfl ?_
  refine .iload X267 hx (hb hby at_415) rfl ?_
  refine .bipush X267 hx (hb hby at_417) own_kb9 ?_
  refine .icmpNo X267 hx (hb hby at_419) (teq ((by decide) : (9 : Int32) = (9 : Int32))).2 ?_
  refine .aload X267 hx (hb hby at_422) rfl rfl ?_
  refine .iconst X267 hx (hb hby at_424) own_ki0 ?_
  obtain ⟨cl268, Ar268, -, S268, -, H268, -⟩ := id V_b106
  have hin268 : ¬ ((0 : Int32) < 0 ∨ cl268.slots.size ≤ ((0 : Int32)).toNatClampNeg) := inb_of S268 ⟨by decide, by decide⟩
  refine .st (fun _ => X267.caload hx (j := (0 : Int32)) (v := (.int ch107)) (by first | exact Ar268.1 | (rw [rfl]; exact Ar268.1)) (State.isArrayOf_alike hZ.alike Ar268.2.1) Ar268.2.2 hin268 (H268.at hin268 rfl) (g := (mkF m 425 #[.val (.int p1), .val (.long p2), .second, .val (.long p3), .second, .val (.int (9 : Int32)), .val (.int lt), .val (.int mo), .val (.int kk), .val (.int bi), .val (.ref b106), .val (.ref b246), .val (.ref b265), .unset, .unset] [(.int (0 : Int32)), (.ref b106)])) rfl rfl (hb hby at_425) _) ?_
  show OwnGoW p e below s Z own_EL _ _ _ T267 (mkF m 426 _ [(.int ch107)])
  refine .bipush X267 hx (hb hby at_426) own_kb45 ?_
  refine OwnGoW.join (T1 := T267) (P := fun z_ : Int32 => (z_ = (1 : Int32) ∧ (ch107.toInt8.toInt32 = (45 : Int32) ∧ ch109.toInt8.toInt32 = (45 : Int32) ∧ ch111.toInt8.toInt32 = (118 : Int32) ∧ ch113.toInt8.toInt32 = (101 : Int32) ∧ ch115.toInt8.toInt32 = (114 : Int32) ∧ ch117.toInt8.toInt32 = (98 : Int32) ∧ ch119.toInt8.toInt32 = (111 : Int32) ∧ ch121.toInt8.toInt32 = (115 : Int32) ∧ ch123.toInt8.toInt32 = (101 : Int32))) ∨ (z_ = (0 : Int32) ∧ ¬ (ch107.toInt8.toInt32 = (45 : Int32) ∧ ch109.toInt8.toInt32 = (45 : Int32) ∧ ch111.toInt8.toInt32 = (118 : Int32) ∧ ch113.toInt8.toInt32 = (101 : Int32) ∧ ch115.toInt8.toInt32 = (114 : Int32) ∧ ch117.toInt8.toInt32 = (98 : Int32) ∧ ch119.toInt8.toInt32 = (111 : Int32) ∧ ch121.toInt8.toInt32 = (115 : Int32) ∧ ch123.toInt8.toInt32 = (101 : Int32)))) (f := fun z_ : Int32 => mkF m 511 #[.val (.int p1), .val (.long p2), .second, .val (.long p3), .second, .val (.int (9 : Int32)), .val (.int lt), .val (.int mo), .val (.int kk), .val (.int bi), .val (.ref b106), .val (.ref b246), .val (.ref b265), .unset, .unset] [(.int z_)]) ?_ ?_
  · intro z_ hu
    obtain ⟨uu, hz_⟩ : ∃ u : Int32, u = z_ := ⟨_, rfl⟩
    subst hz_
    replace hu : (uu = (1 : Int32) ∧ (ch107.toInt8.toInt32 = (45 : Int32) ∧ ch109.toInt8.toInt32 = (45 : Int32) ∧ ch111.toInt8.toInt32 = (118 : Int32) ∧ ch113.toInt8.toInt32 = (101 : Int32) ∧ ch115.toInt8.toInt32 = (114 : Int32) ∧ ch117.toInt8.toInt32 = (98 : Int32) ∧ ch119.toInt8.toInt32 = (111 : Int32) ∧ ch121.toInt8.toInt32 = (115 : Int32) ∧ ch123.toInt8.toInt32 = (101 : Int32))) ∨ (uu = (0 : Int32) ∧ ¬ (ch107.toInt8.toInt32 = (45 : Int32) ∧ ch109.toInt8.toInt32 = (45 : Int32) ∧ ch111.toInt8.toInt32 = (118 : Int32) ∧ ch113.toInt8.toInt32 = (101 : Int32) ∧ ch115.toInt8.toInt32 = (114 : Int32) ∧ ch117.toInt8.toInt32 = (98 : Int32) ∧ ch119.toInt8.toInt32 = (111 : Int32) ∧ ch121.toInt8.toInt32 = (115 : Int32) ∧ ch123.toInt8.toInt32 = (101 : Int32))) := hu
    show OwnGoW p e below s Z own_EL _ _ _ T267 (mkF m 511 #[.val (.int p1), .val (.long p2), .second, .val (.long p3), .second, .val (.int (9 : Int32)), .val (.int lt), .val (.int mo), .val (.int kk), .val (.int bi), .val (.ref b106), .val (.ref b246), .val (.ref b265), .unset, .unset] [(.int uu)])
    refine .istore X267 hx (hb hby at_511) (L' := #[.val (.int p1), .val (.long p2), .second, .val (.long p3), .second, .val (.int (9 : Int32)), .val (.int lt), .val (.int mo), .val (.int kk), .val (.int bi), .val (.ref b106), .val (.ref b246), .val (.ref b265), .val (.int uu), .unset]) rfl ?_
    refine .iload X267 hx (hb hby at_513) rfl ?_
    refine .iconst X267 hx (hb hby at_515) own_ki2 ?_
    refine .icmpYes (pc := 516) X267 hx 541 (hb hby at_516) (feq ((by decide) : ¬ ((9 : Int32) = (2 : Int32)))).2 (by decide) (by decide) ?_
    refine .iconst X267 hx (hb hby at_541) own_ki0 ?_
    refine .istore X267 hx (hb hby at_542) (L' := #[.val (.int p1), .val (.long p2), .second, .val (.long p3), .second, .val (.int (9 : Int32)), .val (.int lt), .val (.int mo), .val (.int kk), .val (.int bi), .val (.ref b106), .val (.ref b246), .val (.ref b265), .val (.int uu), .val (.int (0 : Int32))]) rfl ?_
    refine .aload X267 hx (hb hby at_544) rfl rfl ?_
    obtain ⟨_, _, ⟨T278, L278, k278, n278⟩, -, X278, hS278, hg278, ⟨Lc278, hQ278, l278, y278, z278, CN278⟩, st278⟩ := callSS (s := s.setVm vm1) X267 hx (y := (⟨"com/example/mapweft/mapweft/Options", "isVerbose", "(Ljava/lang/String;)Z"⟩ : MethodName)) hown (mvT hZ (W_ hw 51 rfl)) (mvT hZ (W_ hw 52 rfl)) (mvT hZ (W_ hw 53 rfl)) (mvT hZ (W_ hw 54 rfl)) (by decide) (backOfSH (s := s) (vm0 := vm1) (W := 0) (rmisV9 l Z a0 hw [] b265 t267 kb267 ch107.toInt8.toInt32 ch109.toInt8.toInt32 ch111.toInt8.toInt32 ch113.toInt8.toInt32 ch115.toInt8.toInt32 ch117.toInt8.toInt32 ch119.toInt8.toInt32 ch121.toInt8.toInt32 ch123.toInt8.toInt32 zc T267.heap n0 Z_ O_ S_CS P_CS E_b265 Fc_b265 Fv_b265 V267) hZ (W_ hw 54 rfl) (W_ hw 53 rfl) (by decide) (by decide) (own_hEL hw) CR.1) (g := (mkF m 546 #[.val (.int p1), .val (.long p2), .second, .val (.long p3), .second, .val (.int (9 : Int32)), .val (.int lt), .val (.int mo), .val (.int kk), .val (.int bi), .val (.ref b106), .val (.ref b246), .val (.ref b265), .val (.int uu), .val (.int (0 : Int32))] [(.ref b265)])) rfl (by rw [hml]; rfl) (argsL := [(.ref b265)]) (rest := []) (lenOf pd_10 rfl) rfl (Nat.le_of_eq rfl) (hb hby at_546) (fun _ _ => ⟨rfl, rfl, (by decide : 24 + 4 ≤ _), (by decide : 432 + 52 ≤ _)⟩)
    dsimp only [Pt.U, Pt.locs, Pt.cells, Pt.slots] at X278 hS278 hg278 l278 y278 z278 CN278 st278 hQ278
    subst l278 y278 z278
    obtain ⟨X278, hS_, hZ, hown⟩ := rebS hS_ (show _ ≤ T267.heap.size by rw [(rfl : T267.heap = T267.heap)]; exact hk_) X278 hS278 hg278 hZ hown
    obtain ⟨r278, rfl, N278q, K278, hr278⟩ := hQ278
    have N278 := Fr.app N267 N278q
    have lt_b106 : b106 < T267.heap.size := V_b106.lt
    have lt_b246 : b246 < T267.heap.size := V_b246.lt
    have lt_b265 : b265 < T267.heap.size := E_b265.lt
    have Z_ : n0 ≤ T278.heap.size := Nat.le_trans Z_ K278.1
    have V_b106 := V_b106.keep K278 nin0
    have E_b106 := E_b106.keep K278
    have V_b246 := V_b246.keep K278 nin0
    have E_b246 := E_b246.keep K278
    have E_b265 := E_b265.keep K278
    have Fc_b265 := Fc_b265.keep K278 nin0
    have Fv_b265 := Fv_b265.keep K278 nin0
    have V267 := V267.keep K278 nin0
    have O_ := O_.keep K278 all0
    have sf_b106 := CN278.safe lt_b106 sf_b106
    have sf_b246 := CN278.safe lt_b246 sf_b246
    have sf_b265 := CN278.safe lt_b265 sf_b265
    have CR := CR.trans CN278
    have hk_ := Nat.le_refl T278.heap.size
    refine .st (fun _ => st278.trans) ?_
    show OwnGoW p e below s Z own_EL _ _ _ T278 (mkF m 549 _ [(.int r278)])
    rcases hu with ⟨rfl, hu⟩ | ⟨rfl, hu⟩
    · rcases hr278 with ⟨rfl, hr⟩ | ⟨rfl, hr⟩
      · show OwnGoW p e below s Z own_EL _ _ _ T278 (mkF m 549 #[.val (.int p1), .val (.long p2), .second, .val (.long p3), .second, .val (.int (9 : Int32)), .val (.int lt), .val (.int mo), .val (.int kk), .val (.int bi), .val (.ref b106), .val (.ref b246), .val (.ref b265), .val (.int (1 : Int32)), .val (.int (0 : Int32))] [(.int (1 : Int32))])
        refine .iload X278 hx (hb hby at_549) rfl ?_
        refine .ifYes (pc := 551) X278 hx 559 (hb hby at_551) ((if0 _ _).trans (feq ((by decide) : ¬ ((1 : Int32) = (0 : Int32)))).2) (by decide) (by decide) ?_
        refine .iconst X278 hx (hb hby at_559) own_ki1 ?_
        refine .goto (pc := 560) X278 hx 564 (hb hby at_560) (by decide) (by decide) ?_
        refine .icmpNo X278 hx (hb hby at_564) (teq ((by decide) : (1 : Int32) = (1 : Int32))).2 ?_
        refine .iconst X278 hx (hb hby at_567) own_ki1 ?_
        refine .goto (pc := 568) X278 hx 572 (hb hby at_568) (by decide) (by decide) ?_
        exact OwnGoW.retN (s := s) (vm0 := T278.vm) X278 hS_ hk_ rfl hZ (own_hEL hw) CR hx (t := .boolean) hret hlk (by simp) (hb hby at_572) (by show Q0 Z p1 p2 p3 zc fmv h0 n0 _ T278.heap _; exact ⟨rfl, N278⟩) (by decide) (by decide)
      · exact absurd hu hr
    · rcases hr278 with ⟨rfl, hr⟩ | ⟨rfl, hr⟩
      · exact absurd hr hu
      · show OwnGoW p e below s Z own_EL _ _ _ T278 (mkF m 549 #[.val (.int p1), .val (.long p2), .second, .val (.long p3), .second, .val (.int (9 : Int32)), .val (.int lt), .val (.int mo), .val (.int kk), .val (.int bi), .val (.ref b106), .val (.ref b246), .val (.ref b265), .val (.int (0 : Int32)), .val (.int (0 : Int32))] [(.int (0 : Int32))])
        refine .iload X278 hx (hb hby at_549) rfl ?_
        refine .ifNo X278 hx (hb hby at_551) ((if0 _ _).trans (teq ((by decide) : (0 : Int32) = (0 : Int32))).2) ?_
        refine .iload X278 hx (hb hby at_554) rfl ?_
        refine .ifYes (pc := 556) X278 hx 563 (hb hby at_556) ((if0 _ _).trans (teq ((by decide) : (0 : Int32) = (0 : Int32))).1) (by decide) (by decide) ?_
        refine .iconst X278 hx (hb hby at_563) own_ki0 ?_
        refine .icmpNo X278 hx (hb hby at_564) (teq ((by decide) : (0 : Int32) = (0 : Int32))).2 ?_
        refine .iconst X278 hx (hb hby at_567) own_ki1 ?_
        refine .goto (pc := 568) X278 hx 572 (hb hby at_568) (by decide) (by decide) ?_
        exact OwnGoW.retN (s := s) (vm0 := T278.vm) X278 hS_ hk_ rfl hZ (own_hEL hw) CR hx (t := .boolean) hret hlk (by simp) (hb hby at_572) (by show Q0 Z p1 p2 p3 zc fmv h0 n0 _ T278.heap _; exact ⟨rfl, N278⟩) (by decide) (by decide)
  · intro key269
    by_cases q0 : ch107 = (45 : Int32)
    · refine .icmpNo X267 hx (hb hby at_428) (teq (q0 : ch107 = (45 : Int32))).2 ?_
      refine .aload X267 hx (hb hby at_431) rfl rfl ?_
      refine .iconst X267 hx (hb hby at_433) own_ki1 ?_
      obtain ⟨cl270, Ar270, -, S270, -, H270, -⟩ := id V_b106
      have hin270 : ¬ ((1 : Int32) < 0 ∨ cl270.slots.size ≤ ((1 : Int32)).toNatClampNeg) := inb_of S270 ⟨by decide, by decide⟩
      refine .st (fun _ => X267.caload hx (j := (1 : Int32)) (v := (.int ch109)) (by first | exact Ar270.1 | (rw [rfl]; exact Ar270.1)) (State.isArrayOf_alike hZ.alike Ar270.2.1) Ar270.2.2 hin270 (H270.at hin270 rfl) (g := (mkF m 434 #[.val (.int p1), .val (.long p2), .second, .val (.long p3), .second, .val (.int (9 : Int32)), .val (.int lt), .val (.int mo), .val (.int kk), .val (.int bi), .val (.ref b106), .val (.ref b246), .val (.ref b265), .unset, .unset] [(.int (1 : Int32)), (.ref b106)])) rfl rfl (hb hby at_434) _) ?_
      show OwnGoW p e below s Z own_EL _ _ _ T267 (mkF m 435 _ [(.int ch109)])
      refine .bipush X267 hx (hb hby at_435) own_kb45 ?_
      by_cases q1 : ch109 = (45 : Int32)
      · refine .icmpNo X267 hx (hb hby at_437) (teq (q1 : ch109 = (45 : Int32))).2 ?_
        refine .aload X267 hx (hb hby at_440) rfl rfl ?_
        refine .iconst X267 hx (hb hby at_442) own_ki2 ?_
        obtain ⟨cl271, Ar271, -, S271, -, H271, -⟩ := id V_b106
        have hin271 : ¬ ((2 : Int32) < 0 ∨ cl271.slots.size ≤ ((2 : Int32)).toNatClampNeg) := inb_of S271 ⟨by decide, by decide⟩
        refine .st (fun _ => X267.caload hx (j := (2 : Int32)) (v := (.int ch111)) (by first | exact Ar271.1 | (rw [rfl]; exact Ar271.1)) (State.isArrayOf_alike hZ.alike Ar271.2.1) Ar271.2.2 hin271 (H271.at hin271 rfl) (g := (mkF m 443 #[.val (.int p1), .val (.long p2), .second, .val (.long p3), .second, .val (.int (9 : Int32)), .val (.int lt), .val (.int mo), .val (.int kk), .val (.int bi), .val (.ref b106), .val (.ref b246), .val (.ref b265), .unset, .unset] [(.int (2 : Int32)), (.ref b106)])) rfl rfl (hb hby at_443) _) ?_
        show OwnGoW p e below s Z own_EL _ _ _ T267 (mkF m 444 _ [(.int ch111)])
        refine .bipush X267 hx (hb hby at_444) own_kb118 ?_
        by_cases q2 : ch111 = (118 : Int32)
        · refine .icmpNo X267 hx (hb hby at_446) (teq (q2 : ch111 = (118 : Int32))).2 ?_
          refine .aload X267 hx (hb hby at_449) rfl rfl ?_
          refine .iconst X267 hx (hb hby at_451) own_ki3 ?_
          obtain ⟨cl272, Ar272, -, S272, -, H272, -⟩ := id V_b106
          have hin272 : ¬ ((3 : Int32) < 0 ∨ cl272.slots.size ≤ ((3 : Int32)).toNatClampNeg) := inb_of S272 ⟨by decide, by decide⟩
          refine .st (fun _ => X267.caload hx (j := (3 : Int32)) (v := (.int ch113)) (by first | exact Ar272.1 | (rw [rfl]; exact Ar272.1)) (State.isArrayOf_alike hZ.alike Ar272.2.1) Ar272.2.2 hin272 (H272.at hin272 rfl) (g := (mkF m 452 #[.val (.int p1), .val (.long p2), .second, .val (.long p3), .second, .val (.int (9 : Int32)), .val (.int lt), .val (.int mo), .val (.int kk), .val (.int bi), .val (.ref b106), .val (.ref b246), .val (.ref b265), .unset, .unset] [(.int (3 : Int32)), (.ref b106)])) rfl rfl (hb hby at_452) _) ?_
          show OwnGoW p e below s Z own_EL _ _ _ T267 (mkF m 453 _ [(.int ch113)])
          refine .bipush X267 hx (hb hby at_453) own_kb101 ?_
          by_cases q3 : ch113 = (101 : Int32)
          · refine .icmpNo X267 hx (hb hby at_455) (teq (q3 : ch113 = (101 : Int32))).2 ?_
            refine .aload X267 hx (hb hby at_458) rfl rfl ?_
            refine .iconst X267 hx (hb hby at_460) own_ki4 ?_
            obtain ⟨cl273, Ar273, -, S273, -, H273, -⟩ := id V_b106
            have hin273 : ¬ ((4 : Int32) < 0 ∨ cl273.slots.size ≤ ((4 : Int32)).toNatClampNeg) := inb_of S273 ⟨by decide, by decide⟩
            refine .st (fun _ => X267.caload hx (j := (4 : Int32)) (v := (.int ch115)) (by first | exact Ar273.1 | (rw [rfl]; exact Ar273.1)) (State.isArrayOf_alike hZ.alike Ar273.2.1) Ar273.2.2 hin273 (H273.at hin273 rfl) (g := (mkF m 461 #[.val (.int p1), .val (.long p2), .second, .val (.long p3), .second, .val (.int (9 : Int32)), .val (.int lt), .val (.int mo), .val (.int kk), .val (.int bi), .val (.ref b106), .val (.ref b246), .val (.ref b265), .unset, .unset] [(.int (4 : Int32)), (.ref b106)])) rfl rfl (hb hby at_461) _) ?_
            show OwnGoW p e below s Z own_EL _ _ _ T267 (mkF m 462 _ [(.int ch115)])
            refine .bipush X267 hx (hb hby at_462) own_kb114 ?_
            by_cases q4 : ch115 = (114 : Int32)
            · refine .icmpNo X267 hx (hb hby at_464) (teq (q4 : ch115 = (114 : Int32))).2 ?_
              refine .aload X267 hx (hb hby at_467) rfl rfl ?_
              refine .iconst X267 hx (hb hby at_469) own_ki5 ?_
              obtain ⟨cl274, Ar274, -, S274, -, H274, -⟩ := id V_b106
              have hin274 : ¬ ((5 : Int32) < 0 ∨ cl274.slots.size ≤ ((5 : Int32)).toNatClampNeg) := inb_of S274 ⟨by decide, by decide⟩
              refine .st (fun _ => X267.caload hx (j := (5 : Int32)) (v := (.int ch117)) (by first | exact Ar274.1 | (rw [rfl]; exact Ar274.1)) (State.isArrayOf_alike hZ.alike Ar274.2.1) Ar274.2.2 hin274 (H274.at hin274 rfl) (g := (mkF m 470 #[.val (.int p1), .val (.long p2), .second, .val (.long p3), .second, .val (.int (9 : Int32)), .val (.int lt), .val (.int mo), .val (.int kk), .val (.int bi), .val (.ref b106), .val (.ref b246), .val (.ref b265), .unset, .unset] [(.int (5 : Int32)), (.ref b106)])) rfl rfl (hb hby at_470) _) ?_
              show OwnGoW p e below s Z own_EL _ _ _ T267 (mkF m 471 _ [(.int ch117)])
              refine .bipush X267 hx (hb hby at_471) own_kb98 ?_
              by_cases q5 : ch117 = (98 : Int32)
              · refine .icmpNo X267 hx (hb hby at_473) (teq (q5 : ch117 = (98 : Int32))).2 ?_
                refine .aload X267 hx (hb hby at_476) rfl rfl ?_
                refine .bipush X267 hx (hb hby at_478) own_kb6 ?_
                obtain ⟨cl275, Ar275, -, S275, -, H275, -⟩ := id V_b106
                have hin275 : ¬ ((6 : Int32) < 0 ∨ cl275.slots.size ≤ ((6 : Int32)).toNatClampNeg) := inb_of S275 ⟨by decide, by decide⟩
                refine .st (fun _ => X267.caload hx (j := (6 : Int32)) (v := (.int ch119)) (by first | exact Ar275.1 | (rw [rfl]; exact Ar275.1)) (State.isArrayOf_alike hZ.alike Ar275.2.1) Ar275.2.2 hin275 (H275.at hin275 rfl) (g := (mkF m 480 #[.val (.int p1), .val (.long p2), .second, .val (.long p3), .second, .val (.int (9 : Int32)), .val (.int lt), .val (.int mo), .val (.int kk), .val (.int bi), .val (.ref b106), .val (.ref b246), .val (.ref b265), .unset, .unset] [(.int (6 : Int32)), (.ref b106)])) rfl rfl (hb hby at_480) _) ?_
                show OwnGoW p e below s Z own_EL _ _ _ T267 (mkF m 481 _ [(.int ch119)])
                refine .bipush X267 hx (hb hby at_481) own_kb111 ?_
                by_cases q6 : ch119 = (111 : Int32)
                · refine .icmpNo X267 hx (hb hby at_483) (teq (q6 : ch119 = (111 : Int32))).2 ?_
                  refine .aload X267 hx (hb hby at_486) rfl rfl ?_
                  refine .bipush X267 hx (hb hby at_488) own_kb7 ?_
                  obtain ⟨cl276, Ar276, -, S276, -, H276, -⟩ := id V_b106
                  have hin276 : ¬ ((7 : Int32) < 0 ∨ cl276.slots.size ≤ ((7 : Int32)).toNatClampNeg) := inb_of S276 ⟨by decide, by decide⟩
                  refine .st (fun _ => X267.caload hx (j := (7 : Int32)) (v := (.int ch121)) (by first | exact Ar276.1 | (rw [rfl]; exact Ar276.1)) (State.isArrayOf_alike hZ.alike Ar276.2.1) Ar276.2.2 hin276 (H276.at hin276 rfl) (g := (mkF m 490 #[.val (.int p1), .val (.long p2), .second, .val (.long p3), .second, .val (.int (9 : Int32)), .val (.int lt), .val (.int mo), .val (.int kk), .val (.int bi), .val (.ref b106), .val (.ref b246), .val (.ref b265), .unset, .unset] [(.int (7 : Int32)), (.ref b106)])) rfl rfl (hb hby at_490) _) ?_
                  show OwnGoW p e below s Z own_EL _ _ _ T267 (mkF m 491 _ [(.int ch121)])
                  refine .bipush X267 hx (hb hby at_491) own_kb115 ?_
                  by_cases q7 : ch121 = (115 : Int32)
                  · refine .icmpNo X267 hx (hb hby at_493) (teq (q7 : ch121 = (115 : Int32))).2 ?_
                    refine .aload X267 hx (hb hby at_496) rfl rfl ?_
                    refine .bipush X267 hx (hb hby at_498) own_kb8 ?_
                    obtain ⟨cl277, Ar277, -, S277, -, H277, -⟩ := id V_b106
                    have hin277 : ¬ ((8 : Int32) < 0 ∨ cl277.slots.size ≤ ((8 : Int32)).toNatClampNeg) := inb_of S277 ⟨by decide, by decide⟩
                    refine .st (fun _ => X267.caload hx (j := (8 : Int32)) (v := (.int ch123)) (by first | exact Ar277.1 | (rw [rfl]; exact Ar277.1)) (State.isArrayOf_alike hZ.alike Ar277.2.1) Ar277.2.2 hin277 (H277.at hin277 rfl) (g := (mkF m 500 #[.val (.int p1), .val (.long p2), .second, .val (.long p3), .second, .val (.int (9 : Int32)), .val (.int lt), .val (.int mo), .val (.int kk), .val (.int bi), .val (.ref b106), .val (.ref b246), .val (.ref b265), .unset, .unset] [(.int (8 : Int32)), (.ref b106)])) rfl rfl (hb hby at_500) _) ?_
                    show OwnGoW p e below s Z own_EL _ _ _ T267 (mkF m 501 _ [(.int ch123)])
                    refine .bipush X267 hx (hb hby at_501) own_kb101 ?_
                    by_cases q8 : ch123 = (101 : Int32)
                    · refine .icmpNo X267 hx (hb hby at_503) (teq (q8 : ch123 = (101 : Int32))).2 ?_
                      refine .iconst X267 hx (hb hby at_506) own_ki1 ?_
                      refine .goto (pc := 507) X267 hx 511 (hb hby at_507) (by decide) (by decide) ?_
                      exact key269 _ (Or.inl ⟨rfl, (own_lb45 hp_ch107).2 q0, (own_lb45 hp_ch109).2 q1, (own_lb118 hp_ch111).2 q2, (own_lb101 hp_ch113).2 q3, (own_lb114 hp_ch115).2 q4, (own_lb98 hp_ch117).2 q5, (own_lb111 hp_ch119).2 q6, (own_lb115 hp_ch121).2 q7, (own_lb101 hp_ch123).2 q8⟩)
                    · refine .icmpYes (pc := 503) X267 hx 510 (hb hby at_503) (feq (q8 : ¬ (ch123 = (101 : Int32)))).2 (by decide) (by decide) ?_
                      refine .iconst X267 hx (hb hby at_510) own_ki0 ?_
                      exact key269 _ (Or.inr ⟨rfl, fun z => q8 ((own_lb101 hp_ch123).1 z.2.2.2.2.2.2.2.2)⟩)
                  · refine .icmpYes (pc := 493) X267 hx 510 (hb hby at_493) (feq (q7 : ¬ (ch121 = (115 : Int32)))).2 (by decide) (by decide) ?_
                    refine .iconst X267 hx (hb hby at_510) own_ki0 ?_
                    exact key269 _ (Or.inr ⟨rfl, fun z => q7 ((own_lb115 hp_ch121).1 z.2.2.2.2.2.2.2.1)⟩)
                · refine .icmpYes (pc := 483) X267 hx 510 (hb hby at_483) (feq (q6 : ¬ (ch119 = (111 : Int32)))).2 (by decide) (by decide) ?_
                  refine .iconst X267 hx (hb hby at_510) own_ki0 ?_
                  exact key269 _ (Or.inr ⟨rfl, fun z => q6 ((own_lb111 hp_ch119).1 z.2.2.2.2.2.2.1)⟩)
              · refine .icmpYes (pc := 473) X267 hx 510 (hb hby at_473) (feq (q5 : ¬ (ch117 = (98 : Int32)))).2 (by decide) (by decide) ?_
                refine .iconst X267 hx (hb hby at_510) own_ki0 ?_
                exact key269 _ (Or.inr ⟨rfl, fun z => q5 ((own_lb98 hp_ch117).1 z.2.2.2.2.2.1)⟩)
            · refine .icmpYes (pc := 464) X267 hx 510 (hb hby at_464) (feq (q4 : ¬ (ch115 = (114 : Int32)))).2 (by decide) (by decide) ?_
              refine .iconst X267 hx (hb hby at_510) own_ki0 ?_
              exact key269 _ (Or.inr ⟨rfl, fun z => q4 ((own_lb114 hp_ch115).1 z.2.2.2.2.1)⟩)
          · refine .icmpYes (pc := 455) X267 hx 510 (hb hby at_455) (feq (q3 : ¬ (ch113 = (101 : Int32)))).2 (by decide) (by decide) ?_
            refine .iconst X267 hx (hb hby at_510) own_ki0 ?_
            exact key269 _ (Or.inr ⟨rfl, fun z => q3 ((own_lb101 hp_ch113).1 z.2.2.2.1)⟩)
        · refine .icmpYes (pc := 446) X267 hx 510 (hb hby at_446) (feq (q2 : ¬ (ch111 = (118 : Int32)))).2 (by decide) (by decide) ?_
          refine .iconst X267 hx (hb hby at_510) own_ki0 ?_
          exact key269 _ (Or.inr ⟨rfl, fun z => q2 ((own_lb118 hp_ch111).1 z.2.2.1)⟩)
      · refine .icmpYes (pc := 437) X267 hx 510 (hb hby at_437) (feq (q1 : ¬ (ch109 = (45 : Int32)))).2 (by decide) (by decide) ?_
        refine .iconst X267 hx (hb hby at_510) own_ki0 ?_
        exact key269 _ (Or.inr ⟨rfl, fun z => q1 ((own_lb45 hp_ch109).1 z.2.1)⟩)
    · refine .icmpYes (pc := 428) X267 hx 510 (hb hby at_428) (feq (q0 : ¬ (ch107 = (45 : Int32)))).2 (by decide) (by decide) ?_
      refine .iconst X267 hx (hb hby at_510) own_ki0 ?_
      exact key269 _ (Or.inr ⟨rfl, fun z => q0 ((own_lb45 hp_ch107).1 z.1)⟩)
theorem sg10 {p : Program} {l : Launch} {e : Env} {s : State} {m : MethodId} {below : List Frame} {meth : Method} {c : Code} {Z : State} {a0 : Array Value} {T0 : State} {locs : List Loc} {vm1 : Vm} {k1 : Nat} {h1 : Heap} (p1 : Int32) (p2 : Int64) (p3 : Int64) (zc : Int32) (fmv : Value) (lt : Int32) (mo : Int32) (kk : Int32) (bi : Int32) (ch107 : Int32) (ch109 : Int32) (ch111 : Int32) (ch113 : Int32) (ch115 : Int32) (ch117 : Int32) (ch119 : Int32) (ch121 : Int32) (ch123 : Int32) (ch125 : Int32) (b106 : Addr) (k106 : ClassId) (h0 : Heap) (n0 : Nat) (hw : ∀ d ∈ tables_1, d.before a0 Z = true)
    (X0 : Stand p l e room_1 (s.setVm vm1) m #[(.int p1), (.long p2), (.long p3)] below meth c T0 locs 21 410) (hx : p.tables.exec = Jvm.exec) (hby : c.code = code) (hml : c.maxLocals = 15) (hret : meth.sig.returnType = ret) (hlk : meth.locks = false) (hown : (s.setVm vm1).vm.findClass "com/example/mapweft/mapweft/OptionsIsVerbosePinLaw" = some m.cls) (hnm : meth.name = "law") (hZ : Z.Warmed39 (s.setVm vm1).vm) (e0 : T0.heap = h1) (N0 : Fr n0 locs) (Z_ : n0 ≤ h1.size) (hS_ : s.Since vm1 k1) (hk_ : k1 ≤ h1.size) (CR : CHr Z own_EL s.vm s.heap vm1 h1) (S_CS : Sta Z Z.heap "java/lang/String" "COMPACT_STRINGS" "Z" (.int zc)) (P_CS : ¬ zc = (0 : Int32)) (S_SF : Sta Z Z.heap "jdk/internal/util/Preconditions" "SIOOBE_FORMATTER" "Ljava/util/function/BiFunction;" fmv) (rf_fmv : fmv.isRef = true) (V_b106 : Arv Z h1 b106 k106 .char (10 : Int32) [(.int ch107), (.int ch109), (.int ch111), (.int ch113), (.int ch115), (.int ch117), (.int ch119), (.int ch121), (.int ch123), (.int ch125)] (.int (0 : Int32))) (E_b106 : Exa Z h1 b106 "[C") (sf_b106 : Safe Z own_EL vm1 h1 b106) (O_ : Old Z n0 h1) (g_b106 : n0 ≤ b106) (hp_ch107 : ¬ ch107 < 0 ∧ ¬ (255 : Int32) < ch107) (hp_ch109 : ¬ ch109 < 0 ∧ ¬ (255 : Int32) < ch109) (hp_ch111 : ¬ ch111 < 0 ∧ ¬ (255 : Int32) < ch111) (hp_ch113 : ¬ ch113 < 0 ∧ ¬ (255 : Int32) < ch113) (hp_ch115 : ¬ ch115 < 0 ∧ ¬ (255 : Int32) < ch115) (hp_ch117 : ¬ ch117 < 0 ∧ ¬ (255 : Int32) < ch117) (hp_ch119 : ¬ ch119 < 0 ∧ ¬ (255 : Int32) < ch119) (hp_ch121 : ¬ ch121 < 0 ∧ ¬ (255 : Int32) < ch121) (hp_ch123 : ¬ ch123 < 0 ∧ ¬ (255 : Int32) < ch123) (hp_ch125 : ¬ ch125 < 0 ∧ ¬ (255 : Int32) < ch125) :
    OwnGoW p e below s Z own_EL room_1.cells room_1.slots (Q0 Z p1 p2 p3 zc fmv h0 n0) T0 (mkF m 247 #[.val (.int p1), .val (.long p2), .second, .val (.long p3), .second, .val (.int (10 : Int32)), .val (.int lt), .val (.int mo), .val (.int kk), .val (.int bi), .val (.ref b106), .unset, .unset, .unset, .unset] []) := by
  show OwnGoW p e below s Z own_EL _ _ _ T0 (mkF m 247 _ [])
  refine .iload X0 hx (hb hby at_247) rfl ?_
  obtain ⟨T279, h279, k279, X279, e279, E279, A279, Ex279, st279⟩ := newPE X0 hx hZ (W_ hw 0 rfl) e0 (g := (mkF m 249 #[.val (.int p1), .val (.long p2), .second, .val (.long p3), .second, .val (.int (10 : Int32)), .val (.int lt), .val (.int mo), .val (.int kk), .val (.int bi), .val (.ref b106), .unset, .unset, .unset, .unset] [(.int (10 : Int32))])) rfl (hb hby at_249) rfl (by decide) (cap := 10) (by decide) (by decide) (by decide) (by decide) (ad := "[C") (by decide)
  obtain ⟨b279, g279⟩ : ∃ z, z = h1.size := ⟨_, rfl⟩
  rw [← g279] at A279 Ex279 st279
  have ne_b106_b279 : b106 ≠ b279 := Nat.ne_of_lt (Nat.lt_of_lt_of_le V_b106.lt (Nat.le_of_eq g279.symm))
  have g_b279 : n0 ≤ b279 := Nat.le_trans Z_ (Nat.le_of_eq g279.symm)
  have sf_b279 : Safe Z own_EL vm1 h1 b279 := Safe.new (Nat.le_of_eq g279.symm)
  have V_b106 := V_b106.ext E279
  have E_b106 := E_b106.ext E279
  have O_ := O_.ext E279
  have sf_b106 := Safe.ext E279 CR.1 sf_b106
  have sf_b279 := Safe.ext E279 CR.1 sf_b279
  have CR := CR.trans (CHr.ext E279 CR.1)
  have hk_ := Nat.le_trans hk_ E279.1
  have Z_ : n0 ≤ h279.size := Nat.le_trans Z_ E279.1
  have V_b279 : Arv Z h279 b279 k279 .char (10 : Int32) [(.int (0 : Int32)), (.int (0 : Int32)), (.int (0 : Int32)), (.int (0 : Int32)), (.int (0 : Int32)), (.int (0 : Int32)), (.int (0 : Int32)), (.int (0 : Int32)), (.int (0 : Int32)), (.int (0 : Int32))] (.int (0 : Int32)) := (Arv.new A279 (by decide)).pad (pad_rep [] (.int (0 : Int32)) 10)
  have E_b279 := Ex279
  refine .st st279 ?_
  show OwnGoW p e below s Z own_EL _ _ _ T279 (mkF m 251 _ [(.ref b279)])
  refine .astore X279 hx (hb hby at_251) rfl (L' := #[.val (.int p1), .val (.long p2), .second, .val (.long p3), .second, .val (.int (10 : Int32)), .val (.int lt), .val (.int mo), .val (.int kk), .val (.int bi), .val (.ref b106), .val (.ref b279), .unset, .unset, .unset]) rfl ?_
  refine .iload X279 hx (hb hby at_253) rfl ?_
  refine .ifNo X279 hx (hb hby at_255) ((if0 _ _).trans (tlt ((by decide) : (0 : Int32) < (10 : Int32))).2.2.2) ?_
  refine .aload X279 hx (hb hby at_258) rfl rfl ?_
  refine .iconst X279 hx (hb hby at_260) own_ki0 ?_
  refine .aload X279 hx (hb hby at_261) rfl rfl ?_
  refine .iconst X279 hx (hb hby at_263) own_ki0 ?_
  obtain ⟨cl280, Ar280, -, S280, -, H280, -⟩ := id V_b106
  have hin280 : ¬ ((0 : Int32) < 0 ∨ cl280.slots.size ≤ ((0 : Int32)).toNatClampNeg) := inb_of S280 ⟨by decide, by decide⟩
  refine .st (fun _ => X279.caload hx (j := (0 : Int32)) (v := (.int ch107)) (by first | exact Ar280.1 | (rw [e279]; exact Ar280.1)) (State.isArrayOf_alike hZ.alike Ar280.2.1) Ar280.2.2 hin280 (H280.at hin280 rfl) (g := (mkF m 264 #[.val (.int p1), .val (.long p2), .second, .val (.long p3), .second, .val (.int (10 : Int32)), .val (.int lt), .val (.int mo), .val (.int kk), .val (.int bi), .val (.ref b106), .val (.ref b279), .unset, .unset, .unset] [(.int (0 : Int32)), (.ref b106), (.int (0 : Int32)), (.ref b279)])) rfl rfl (hb hby at_264) _) ?_
  show OwnGoW p e below s Z own_EL _ _ _ T279 (mkF m 265 _ [(.int ch107), (.int (0 : Int32)), (.ref b279)])
  obtain ⟨cl281, Ar281, q281, S281, N281, H281, G281⟩ := id V_b279
  have hin281 : ¬ ((0 : Int32) < 0 ∨ cl281.slots.size ≤ ((0 : Int32)).toNatClampNeg) := inb_of S281 ⟨by decide, by decide⟩
  obtain ⟨T281, h281, X281, e281, W281, st281⟩ := stC X279 hx hZ e279 Ar281 (j := (0 : Int32)) hin281 (g := (mkF m 265 #[.val (.int p1), .val (.long p2), .second, .val (.long p3), .second, .val (.int (10 : Int32)), .val (.int lt), .val (.int mo), .val (.int kk), .val (.int bi), .val (.ref b106), .val (.ref b279), .unset, .unset, .unset] [(.int ch107), (.int (0 : Int32)), (.ref b279)])) rfl rfl (hb hby at_265)
  have V_b279 : Arv Z h281 b279 k279 .char (10 : Int32) [(.int (nar .char ch107)), (.int (0 : Int32)), (.int (0 : Int32)), (.int (0 : Int32)), (.int (0 : Int32)), (.int (0 : Int32)), (.int (0 : Int32)), (.int (0 : Int32)), (.int (0 : Int32)), (.int (0 : Int32))] (.int (0 : Int32)) := Arv.set Ar281 q281 S281 N281 H281 G281 (fits_nar_char _) W281 0 rfl (Nat.le_of_ble_eq_true rfl)
  rw [show nar .char ch107 = ch107 from (own_lnc hp_ch107)] at V_b279
  have V_b106 := V_b106.other W281 ne_b106_b279
  have E_b106 := E_b106.wr W281
  have E_b279 := E_b279.wr W281
  have O_ := O_.wr W281 g_b279
  have sf_ := sf_b279
  have CR0 := CR.1
  have CR := CR.trans (CHr.wr W281 sf_ CR.1)
  have sf_b106 := Safe.wr W281 sf_ CR0 sf_b106
  have sf_b279 := Safe.wr W281 sf_ CR0 sf_b279
  have hk_ := Nat.le_trans hk_ (Nat.le_of_eq W281.size.symm)
  have N281 := Fr.snoc X281 N0 g_b279
  have Z_ : n0 ≤ h281.size := by rw [W281.size]; exact Z_
  refine .st st281 ?_
  show OwnGoW p e below s Z own_EL _ _ _ T281 (mkF m 266 _ [])
  refine .iload X281 hx (hb hby at_266) rfl ?_
  refine .iconst X281 hx (hb hby at_268) own_ki1 ?_
  refine .icmpNo X281 hx (hb hby at_269) (tlt ((by decide) : (1 : Int32) < (10 : Int32))).2.2.2 ?_
  refine .aload X281 hx (hb hby at_272) rfl rfl ?_
  refine .iconst X281 hx (hb hby at_274) own_ki1 ?_
  refine .aload X281 hx (hb hby at_275) rfl rfl ?_
  refine .iconst X281 hx (hb hby at_277) own_ki1 ?_
  obtain ⟨cl282, Ar282, -, S282, -, H282, -⟩ := id V_b106
  have hin282 : ¬ ((1 : Int32) < 0 ∨ cl282.slots.size ≤ ((1 : Int32)).toNatClampNeg) := inb_of S282 ⟨by decide, by decide⟩
  refine .st (fun _ => X281.caload hx (j := (1 : Int32)) (v := (.int ch109)) (by first | exact Ar282.1 | (rw [e281]; exact Ar282.1)) (State.isArrayOf_alike hZ.alike Ar282.2.1) Ar282.2.2 hin282 (H282.at hin282 rfl) (g := (mkF m 278 #[.val (.int p1), .val (.long p2), .second, .val (.long p3), .second, .val (.int (10 : Int32)), .val (.int lt), .val (.int mo), .val (.int kk), .val (.int bi), .val (.ref b106), .val (.ref b279), .unset, .unset, .unset] [(.int (1 : Int32)), (.ref b106), (.int (1 : Int32)), (.ref b279)])) rfl rfl (hb hby at_278) _) ?_
  show OwnGoW p e below s Z own_EL _ _ _ T281 (mkF m 279 _ [(.int ch109), (.int (1 : Int32)), (.ref b279)])
  obtain ⟨cl283, Ar283, q283, S283, N283, H283, G283⟩ := id V_b279
  have hin283 : ¬ ((1 : Int32) < 0 ∨ cl283.slots.size ≤ ((1 : Int32)).toNatClampNeg) := inb_of S283 ⟨by decide, by decide⟩
  obtain ⟨T283, h283, X283, e283, W283, st283⟩ := stC X281 hx hZ e281 Ar283 (j := (1 : Int32)) hin283 (g := (mkF m 279 #[.val (.int p1), .val (.long p2), .second, .val (.long p3), .second, .val (.int (10 : Int32)), .val (.int lt), .val (.int mo), .val (.int kk), .val (.int bi), .val (.ref b106), .val (.ref b279), .unset, .unset, .unset] [(.int ch109), (.int (1 : Int32)), (.ref b279)])) rfl rfl (hb hby at_279)
  have V_b279 : Arv Z h283 b279 k279 .char (10 : Int32) [(.int ch107), (.int (nar .char ch109)), (.int (0 : Int32)), (.int (0 : Int32)), (.int (0 : Int32)), (.int (0 : Int32)), (.int (0 : Int32)), (.int (0 : Int32)), (.int (0 : Int32)), (.int (0 : Int32))] (.int (0 : Int32)) := Arv.set Ar283 q283 S283 N283 H283 G283 (fits_nar_char _) W283 1 rfl (Nat.le_of_ble_eq_true rfl)
  rw [show nar .char ch109 = ch109 from (own_lnc hp_ch109)] at V_b279
  have V_b106 := V_b106.other W283 ne_b106_b279
  have E_b106 := E_b106.wr W283
  have E_b279 := E_b279.wr W283
  have O_ := O_.wr W283 g_b279
  have sf_ := sf_b279
  have CR0 := CR.1
  have CR := CR.trans (CHr.wr W283 sf_ CR.1)
  have sf_b106 := Safe.wr W283 sf_ CR0 sf_b106
  have sf_b279 := Safe.wr W283 sf_ CR0 sf_b279
  have hk_ := Nat.le_trans hk_ (Nat.le_of_eq W283.size.symm)
  have N283 := Fr.snoc X283 N281 g_b279
  have Z_ : n0 ≤ h283.size := by rw [W283.size]; exact Z_
  refine .st st283 ?_
  show OwnGoW p e below s Z own_EL _ _ _ T283 (mkF m 280 _ [])
  refine .iload X283 hx (hb hby at_280) rfl ?_
  refine .iconst X283 hx (hb hby at_282) own_ki2 ?_
  refine .icmpNo X283 hx (hb hby at_283) (tlt ((by decide) : (2 : Int32) < (10 : Int32))).2.2.2 ?_
  refine .aload X283 hx (hb hby at_286) rfl rfl ?_
  refine .iconst X283 hx (hb hby at_288) own_ki2 ?_
  refine .aload X283 hx (hb hby at_289) rfl rfl ?_
  refine .iconst X283 hx (hb hby at_291) own_ki2 ?_
  obtain ⟨cl284, Ar284, -, S284, -, H284, -⟩ := id V_b106
  have hin284 : ¬ ((2 : Int32) < 0 ∨ cl284.slots.size ≤ ((2 : Int32)).toNatClampNeg) := inb_of S284 ⟨by decide, by decide⟩
  refine .st (fun _ => X283.caload hx (j := (2 : Int32)) (v := (.int ch111)) (by first | exact Ar284.1 | (rw [e283]; exact Ar284.1)) (State.isArrayOf_alike hZ.alike Ar284.2.1) Ar284.2.2 hin284 (H284.at hin284 rfl) (g := (mkF m 292 #[.val (.int p1), .val (.long p2), .second, .val (.long p3), .second, .val (.int (10 : Int32)), .val (.int lt), .val (.int mo), .val (.int kk), .val (.int bi), .val (.ref b106), .val (.ref b279), .unset, .unset, .unset] [(.int (2 : Int32)), (.ref b106), (.int (2 : Int32)), (.ref b279)])) rfl rfl (hb hby at_292) _) ?_
  show OwnGoW p e below s Z own_EL _ _ _ T283 (mkF m 293 _ [(.int ch111), (.int (2 : Int32)), (.ref b279)])
  obtain ⟨cl285, Ar285, q285, S285, N285, H285, G285⟩ := id V_b279
  have hin285 : ¬ ((2 : Int32) < 0 ∨ cl285.slots.size ≤ ((2 : Int32)).toNatClampNeg) := inb_of S285 ⟨by decide, by decide⟩
  obtain ⟨T285, h285, X285, e285, W285, st285⟩ := stC X283 hx hZ e283 Ar285 (j := (2 : Int32)) hin285 (g := (mkF m 293 #[.val (.int p1), .val (.long p2), .second, .val (.long p3), .second, .val (.int (10 : Int32)), .val (.int lt), .val (.int mo), .val (.int kk), .val (.int bi), .val (.ref b106), .val (.ref b279), .unset, .unset, .unset] [(.int ch111), (.int (2 : Int32)), (.ref b279)])) rfl rfl (hb hby at_293)
  have V_b279 : Arv Z h285 b279 k279 .char (10 : Int32) [(.int ch107), (.int ch109), (.int (nar .char ch111)), (.int (0 : Int32)), (.int (0 : Int32)), (.int (0 : Int32)), (.int (0 : Int32)), (.int (0 : Int32)), (.int (0 : Int32)), (.int (0 : Int32))] (.int (0 : Int32)) := Arv.set Ar285 q285 S285 N285 H285 G285 (fits_nar_char _) W285 2 rfl (Nat.le_of_ble_eq_true rfl)
  rw [show nar .char ch111 = ch111 from (own_lnc hp_ch111)] at V_b279
  have V_b106 := V_b106.other W285 ne_b106_b279
  have E_b106 := E_b106.wr W285
  have E_b279 := E_b279.wr W285
  have O_ := O_.wr W285 g_b279
  have sf_ := sf_b279
  have CR0 := CR.1
  have CR := CR.trans (CHr.wr W285 sf_ CR.1)
  have sf_b106 := Safe.wr W285 sf_ CR0 sf_b106
  have sf_b279 := Safe.wr W285 sf_ CR0 sf_b279
  have hk_ := Nat.le_trans hk_ (Nat.le_of_eq W285.size.symm)
  have N285 := Fr.snoc X285 N283 g_b279
  have Z_ : n0 ≤ h285.size := by rw [W285.size]; exact Z_
  refine .st st285 ?_
  show OwnGoW p e below s Z own_EL _ _ _ T285 (mkF m 294 _ [])
  refine .iload X285 hx (hb hby at_294) rfl ?_
  refine .iconst X285 hx (hb hby at_296) own_ki3 ?_
  refine .icmpNo X285 hx (hb hby at_297) (tlt ((by decide) : (3 : Int32) < (10 : Int32))).2.2.2 ?_
  refine .aload X285 hx (hb hby at_300) rfl rfl ?_
  refine .iconst X285 hx (hb hby at_302) own_ki3 ?_
  refine .aload X285 hx (hb hby at_303) rfl rfl ?_
  refine .iconst X285 hx (hb hby at_305) own_ki3 ?_
  obtain ⟨cl286, Ar286, -, S286, -, H286, -⟩ := id V_b106
  have hin286 : ¬ ((3 : Int32) < 0 ∨ cl286.slots.size ≤ ((3 : Int32)).toNatClampNeg) := inb_of S286 ⟨by decide, by decide⟩
  refine .st (fun _ => X285.caload hx (j := (3 : Int32)) (v := (.int ch113)) (by first | exact Ar286.1 | (rw [e285]; exact Ar286.1)) (State.isArrayOf_alike hZ.alike Ar286.2.1) Ar286.2.2 hin286 (H286.at hin286 rfl) (g := (mkF m 306 #[.val (.int p1), .val (.long p2), .second, .val (.long p3), .second, .val (.int (10 : Int32)), .val (.int lt), .val (.int mo), .val (.int kk), .val (.int bi), .val (.ref b106), .val (.ref b279), .unset, .unset, .unset] [(.int (3 : Int32)), (.ref b106), (.int (3 : Int32)), (.ref b279)])) rfl rfl (hb hby at_306) _) ?_
  show OwnGoW p e below s Z own_EL _ _ _ T285 (mkF m 307 _ [(.int ch113), (.int (3 : Int32)), (.ref b279)])
  obtain ⟨cl287, Ar287, q287, S287, N287, H287, G287⟩ := id V_b279
  have hin287 : ¬ ((3 : Int32) < 0 ∨ cl287.slots.size ≤ ((3 : Int32)).toNatClampNeg) := inb_of S287 ⟨by decide, by decide⟩
  obtain ⟨T287, h287, X287, e287, W287, st287⟩ := stC X285 hx hZ e285 Ar287 (j := (3 : Int32)) hin287 (g := (mkF m 307 #[.val (.int p1), .val (.long p2), .second, .val (.long p3), .second, .val (.int (10 : Int32)), .val (.int lt), .val (.int mo), .val (.int kk), .val (.int bi), .val (.ref b106), .val (.ref b279), .unset, .unset, .unset] [(.int ch113), (.int (3 : Int32)), (.ref b279)])) rfl rfl (hb hby at_307)
  have V_b279 : Arv Z h287 b279 k279 .char (10 : Int32) [(.int ch107), (.int ch109), (.int ch111), (.int (nar .char ch113)), (.int (0 : Int32)), (.int (0 : Int32)), (.int (0 : Int32)), (.int (0 : Int32)), (.int (0 : Int32)), (.int (0 : Int32))] (.int (0 : Int32)) := Arv.set Ar287 q287 S287 N287 H287 G287 (fits_nar_char _) W287 3 rfl (Nat.le_of_ble_eq_true rfl)
  rw [show nar .char ch113 = ch113 from (own_lnc hp_ch113)] at V_b279
  have V_b106 := V_b106.other W287 ne_b106_b279
  have E_b106 := E_b106.wr W287
  have E_b279 := E_b279.wr W287
  have O_ := O_.wr W287 g_b279
  have sf_ := sf_b279
  have CR0 := CR.1
  have CR := CR.trans (CHr.wr W287 sf_ CR.1)
  have sf_b106 := Safe.wr W287 sf_ CR0 sf_b106
  have sf_b279 := Safe.wr W287 sf_ CR0 sf_b279
  have hk_ := Nat.le_trans hk_ (Nat.le_of_eq W287.size.symm)
  have N287 := Fr.snoc X287 N285 g_b279
  have Z_ : n0 ≤ h287.size := by rw [W287.size]; exact Z_
  refine .st st287 ?_
  show OwnGoW p e below s Z own_EL _ _ _ T287 (mkF m 308 _ [])
  refine .iload X287 hx (hb hby at_308) rfl ?_
  refine .iconst X287 hx (hb hby at_310) own_ki4 ?_
  refine .icmpNo X287 hx (hb hby at_311) (tlt ((by decide) : (4 : Int32) < (10 : Int32))).2.2.2 ?_
  refine .aload X287 hx (hb hby at_314) rfl rfl ?_
  refine .iconst X287 hx (hb hby at_316) own_ki4 ?_
  refine .aload X287 hx (hb hby at_317) rfl rfl ?_
  refine .iconst X287 hx (hb hby at_319) own_ki4 ?_
  obtain ⟨cl288, Ar288, -, S288, -, H288, -⟩ := id V_b106
  have hin288 : ¬ ((4 : Int32) < 0 ∨ cl288.slots.size ≤ ((4 : Int32)).toNatClampNeg) := inb_of S288 ⟨by decide, by decide⟩
  refine .st (fun _ => X287.caload hx (j := (4 : Int32)) (v := (.int ch115)) (by first | exact Ar288.1 | (rw [e287]; exact Ar288.1)) (State.isArrayOf_alike hZ.alike Ar288.2.1) Ar288.2.2 hin288 (H288.at hin288 rfl) (g := (mkF m 320 #[.val (.int p1), .val (.long p2), .second, .val (.long p3), .second, .val (.int (10 : Int32)), .val (.int lt), .val (.int mo), .val (.int kk), .val (.int bi), .val (.ref b106), .val (.ref b279), .unset, .unset, .unset] [(.int (4 : Int32)), (.ref b106), (.int (4 : Int32)), (.ref b279)])) rfl rfl (hb hby at_320) _) ?_
  show OwnGoW p e below s Z own_EL _ _ _ T287 (mkF m 321 _ [(.int ch115), (.int (4 : Int32)), (.ref b279)])
  obtain ⟨cl289, Ar289, q289, S289, N289, H289, G289⟩ := id V_b279
  have hin289 : ¬ ((4 : Int32) < 0 ∨ cl289.slots.size ≤ ((4 : Int32)).toNatClampNeg) := inb_of S289 ⟨by decide, by decide⟩
  obtain ⟨T289, h289, X289, e289, W289, st289⟩ := stC X287 hx hZ e287 Ar289 (j := (4 : Int32)) hin289 (g := (mkF m 321 #[.val (.int p1), .val (.long p2), .second, .val (.long p3), .second, .val (.int (10 : Int32)), .val (.int lt), .val (.int mo), .val (.int kk), .val (.int bi), .val (.ref b106), .val (.ref b279), .unset, .unset, .unset] [(.int ch115), (.int (4 : Int32)), (.ref b279)])) rfl rfl (hb hby at_321)
  have V_b279 : Arv Z h289 b279 k279 .char (10 : Int32) [(.int ch107), (.int ch109), (.int ch111), (.int ch113), (.int (nar .char ch115)), (.int (0 : Int32)), (.int (0 : Int32)), (.int (0 : Int32)), (.int (0 : Int32)), (.int (0 : Int32))] (.int (0 : Int32)) := Arv.set Ar289 q289 S289 N289 H289 G289 (fits_nar_char _) W289 4 rfl (Nat.le_of_ble_eq_true rfl)
  rw [show nar .char ch115 = ch115 from (own_lnc hp_ch115)] at V_b279
  have V_b106 := V_b106.other W289 ne_b106_b279
  have E_b106 := E_b106.wr W289
  have E_b279 := E_b279.wr W289
  have O_ := O_.wr W289 g_b279
  have sf_ := sf_b279
  have CR0 := CR.1
  have CR := CR.trans (CHr.wr W289 sf_ CR.1)
  have sf_b106 := Safe.wr W289 sf_ CR0 sf_b106
  have sf_b279 := Safe.wr W289 sf_ CR0 sf_b279
  have hk_ := Nat.le_trans hk_ (Nat.le_of_eq W289.size.symm)
  have N289 := Fr.snoc X289 N287 g_b279
  have Z_ : n0 ≤ h289.size := by rw [W289.size]; exact Z_
  refine .st st289 ?_
  show OwnGoW p e below s Z own_EL _ _ _ T289 (mkF m 322 _ [])
  refine .iload X289 hx (hb hby at_322) rfl ?_
  refine .iconst X289 hx (hb hby at_324) own_ki5 ?_
  refine .icmpNo X289 hx (hb hby at_325) (tlt ((by decide) : (5 : Int32) < (10 : Int32))).2.2.2 ?_
  refine .aload X289 hx (hb hby at_328) rfl rfl ?_
  refine .iconst X289 hx (hb hby at_330) own_ki5 ?_
  refine .aload X289 hx (hb hby at_331) rfl rfl ?_
  refine .iconst X289 hx (hb hby at_333) own_ki5 ?_
  obtain ⟨cl290, Ar290, -, S290, -, H290, -⟩ := id V_b106
  have hin290 : ¬ ((5 : Int32) < 0 ∨ cl290.slots.size ≤ ((5 : Int32)).toNatClampNeg) := inb_of S290 ⟨by decide, by decide⟩
  refine .st (fun _ => X289.caload hx (j := (5 : Int32)) (v := (.int ch117)) (by first | exact Ar290.1 | (rw [e289]; exact Ar290.1)) (State.isArrayOf_alike hZ.alike Ar290.2.1) Ar290.2.2 hin290 (H290.at hin290 rfl) (g := (mkF m 334 #[.val (.int p1), .val (.long p2), .second, .val (.long p3), .second, .val (.int (10 : Int32)), .val (.int lt), .val (.int mo), .val (.int kk), .val (.int bi), .val (.ref b106), .val (.ref b279), .unset, .unset, .unset] [(.int (5 : Int32)), (.ref b106), (.int (5 : Int32)), (.ref b279)])) rfl rfl (hb hby at_334) _) ?_
  show OwnGoW p e below s Z own_EL _ _ _ T289 (mkF m 335 _ [(.int ch117), (.int (5 : Int32)), (.ref b279)])
  obtain ⟨cl291, Ar291, q291, S291, N291, H291, G291⟩ := id V_b279
  have hin291 : ¬ ((5 : Int32) < 0 ∨ cl291.slots.size ≤ ((5 : Int32)).toNatClampNeg) := inb_of S291 ⟨by decide, by decide⟩
  obtain ⟨T291, h291, X291, e291, W291, st291⟩ := stC X289 hx hZ e289 Ar291 (j := (5 : Int32)) hin291 (g := (mkF m 335 #[.val (.int p1), .val (.long p2), .second, .val (.long p3), .second, .val (.int (10 : Int32)), .val (.int lt), .val (.int mo), .val (.int kk), .val (.int bi), .val (.ref b106), .val (.ref b279), .unset, .unset, .unset] [(.int ch117), (.int (5 : Int32)), (.ref b279)])) rfl rfl (hb hby at_335)
  have V_b279 : Arv Z h291 b279 k279 .char (10 : Int32) [(.int ch107), (.int ch109), (.int ch111), (.int ch113), (.int ch115), (.int (nar .char ch117)), (.int (0 : Int32)), (.int (0 : Int32)), (.int (0 : Int32)), (.int (0 : Int32))] (.int (0 : Int32)) := Arv.set Ar291 q291 S291 N291 H291 G291 (fits_nar_char _) W291 5 rfl (Nat.le_of_ble_eq_true rfl)
  rw [show nar .char ch117 = ch117 from (own_lnc hp_ch117)] at V_b279
  have V_b106 := V_b106.other W291 ne_b106_b279
  have E_b106 := E_b106.wr W291
  have E_b279 := E_b279.wr W291
  have O_ := O_.wr W291 g_b279
  have sf_ := sf_b279
  have CR0 := CR.1
  have CR := CR.trans (CHr.wr W291 sf_ CR.1)
  have sf_b106 := Safe.wr W291 sf_ CR0 sf_b106
  have sf_b279 := Safe.wr W291 sf_ CR0 sf_b279
  have hk_ := Nat.le_trans hk_ (Nat.le_of_eq W291.size.symm)
  have N291 := Fr.snoc X291 N289 g_b279
  have Z_ : n0 ≤ h291.size := by rw [W291.size]; exact Z_
  refine .st st291 ?_
  show OwnGoW p e below s Z own_EL _ _ _ T291 (mkF m 336 _ [])
  refine .iload X291 hx (hb hby at_336) rfl ?_
  refine .bipush X291 hx (hb hby at_338) own_kb6 ?_
  refine .icmpNo X291 hx (hb hby at_340) (tlt ((by decide) : (6 : Int32) < (10 : Int32))).2.2.2 ?_
  refine .aload X291 hx (hb hby at_343) rfl rfl ?_
  refine .bipush X291 hx (hb hby at_345) own_kb6 ?_
  refine .aload X291 hx (hb hby at_347) rfl rfl ?_
  refine .bipush X291 hx (hb hby at_349) own_kb6 ?_
  obtain ⟨cl292, Ar292, -, S292, -, H292, -⟩ := id V_b106
  have hin292 : ¬ ((6 : Int32) < 0 ∨ cl292.slots.size ≤ ((6 : Int32)).toNatClampNeg) := inb_of S292 ⟨by decide, by decide⟩
  refine .st (fun _ => X291.caload hx (j := (6 : Int32)) (v := (.int ch119)) (by first | exact Ar292.1 | (rw [e291]; exact Ar292.1)) (State.isArrayOf_alike hZ.alike Ar292.2.1) Ar292.2.2 hin292 (H292.at hin292 rfl) (g := (mkF m 351 #[.val (.int p1), .val (.long p2), .second, .val (.long p3), .second, .val (.int (10 : Int32)), .val (.int lt), .val (.int mo), .val (.int kk), .val (.int bi), .val (.ref b106), .val (.ref b279), .unset, .unset, .unset] [(.int (6 : Int32)), (.ref b106), (.int (6 : Int32)), (.ref b279)])) rfl rfl (hb hby at_351) _) ?_
  show OwnGoW p e below s Z own_EL _ _ _ T291 (mkF m 352 _ [(.int ch119), (.int (6 : Int32)), (.ref b279)])
  obtain ⟨cl293, Ar293, q293, S293, N293, H293, G293⟩ := id V_b279
  have hin293 : ¬ ((6 : Int32) < 0 ∨ cl293.slots.size ≤ ((6 : Int32)).toNatClampNeg) := inb_of S293 ⟨by decide, by decide⟩
  obtain ⟨T293, h293, X293, e293, W293, st293⟩ := stC X291 hx hZ e291 Ar293 (j := (6 : Int32)) hin293 (g := (mkF m 352 #[.val (.int p1), .val (.long p2), .second, .val (.long p3), .second, .val (.int (10 : Int32)), .val (.int lt), .val (.int mo), .val (.int kk), .val (.int bi), .val (.ref b106), .val (.ref b279), .unset, .unset, .unset] [(.int ch119), (.int (6 : Int32)), (.ref b279)])) rfl rfl (hb hby at_352)
  have V_b279 : Arv Z h293 b279 k279 .char (10 : Int32) [(.int ch107), (.int ch109), (.int ch111), (.int ch113), (.int ch115), (.int ch117), (.int (nar .char ch119)), (.int (0 : Int32)), (.int (0 : Int32)), (.int (0 : Int32))] (.int (0 : Int32)) := Arv.set Ar293 q293 S293 N293 H293 G293 (fits_nar_char _) W293 6 rfl (Nat.le_of_ble_eq_true rfl)
  rw [show nar .char ch119 = ch119 from (own_lnc hp_ch119)] at V_b279
  have V_b106 := V_b106.other W293 ne_b106_b279
  have E_b106 := E_b106.wr W293
  have E_b279 := E_b279.wr W293
  have O_ := O_.wr W293 g_b279
  have sf_ := sf_b279
  have CR0 := CR.1
  have CR := CR.trans (CHr.wr W293 sf_ CR.1)
  have sf_b106 := Safe.wr W293 sf_ CR0 sf_b106
  have sf_b279 := Safe.wr W293 sf_ CR0 sf_b279
  have hk_ := Nat.le_trans hk_ (Nat.le_of_eq W293.size.symm)
  have N293 := Fr.snoc X293 N291 g_b279
  have Z_ : n0 ≤ h293.size := by rw [W293.size]; exact Z_
  refine .st st293 ?_
  show OwnGoW p e below s Z own_EL _ _ _ T293 (mkF m 353 _ [])
  refine .iload X293 hx (hb hby at_353) rfl ?_
  refine .bipush X293 hx (hb hby at_355) own_kb7 ?_
  refine .icmpNo X293 hx (hb hby at_357) (tlt ((by decide) : (7 : Int32) < (10 : Int32))).2.2.2 ?_
  refine .aload X293 hx (hb hby at_360) rfl rfl ?_
  refine .bipush X293 hx (hb hby at_362) own_kb7 ?_
  refine .aload X293 hx (hb hby at_364) rfl rfl ?_
  refine .bipush X293 hx (hb hby at_366) own_kb7 ?_
  obtain ⟨cl294, Ar294, -, S294, -, H294, -⟩ := id V_b106
  have hin294 : ¬ ((7 : Int32) < 0 ∨ cl294.slots.size ≤ ((7 : Int32)).toNatClampNeg) := inb_of S294 ⟨by decide, by decide⟩
  refine .st (fun _ => X293.caload hx (j := (7 : Int32)) (v := (.int ch121)) (by first | exact Ar294.1 | (rw [e293]; exact Ar294.1)) (State.isArrayOf_alike hZ.alike Ar294.2.1) Ar294.2.2 hin294 (H294.at hin294 rfl) (g := (mkF m 368 #[.val (.int p1), .val (.long p2), .second, .val (.long p3), .second, .val (.int (10 : Int32)), .val (.int lt), .val (.int mo), .val (.int kk), .val (.int bi), .val (.ref b106), .val (.ref b279), .unset, .unset, .unset] [(.int (7 : Int32)), (.ref b106), (.int (7 : Int32)), (.ref b279)])) rfl rfl (hb hby at_368) _) ?_
  show OwnGoW p e below s Z own_EL _ _ _ T293 (mkF m 369 _ [(.int ch121), (.int (7 : Int32)), (.ref b279)])
  obtain ⟨cl295, Ar295, q295, S295, N295, H295, G295⟩ := id V_b279
  have hin295 : ¬ ((7 : Int32) < 0 ∨ cl295.slots.size ≤ ((7 : Int32)).toNatClampNeg) := inb_of S295 ⟨by decide, by decide⟩
  obtain ⟨T295, h295, X295, e295, W295, st295⟩ := stC X293 hx hZ e293 Ar295 (j := (7 : Int32)) hin295 (g := (mkF m 369 #[.val (.int p1), .val (.long p2), .second, .val (.long p3), .second, .val (.int (10 : Int32)), .val (.int lt), .val (.int mo), .val (.int kk), .val (.int bi), .val (.ref b106), .val (.ref b279), .unset, .unset, .unset] [(.int ch121), (.int (7 : Int32)), (.ref b279)])) rfl rfl (hb hby at_369)
  have V_b279 : Arv Z h295 b279 k279 .char (10 : Int32) [(.int ch107), (.int ch109), (.int ch111), (.int ch113), (.int ch115), (.int ch117), (.int ch119), (.int (nar .char ch121)), (.int (0 : Int32)), (.int (0 : Int32))] (.int (0 : Int32)) := Arv.set Ar295 q295 S295 N295 H295 G295 (fits_nar_char _) W295 7 rfl (Nat.le_of_ble_eq_true rfl)
  rw [show nar .char ch121 = ch121 from (own_lnc hp_ch121)] at V_b279
  have V_b106 := V_b106.other W295 ne_b106_b279
  have E_b106 := E_b106.wr W295
  have E_b279 := E_b279.wr W295
  have O_ := O_.wr W295 g_b279
  have sf_ := sf_b279
  have CR0 := CR.1
  have CR := CR.trans (CHr.wr W295 sf_ CR.1)
  have sf_b106 := Safe.wr W295 sf_ CR0 sf_b106
  have sf_b279 := Safe.wr W295 sf_ CR0 sf_b279
  have hk_ := Nat.le_trans hk_ (Nat.le_of_eq W295.size.symm)
  have N295 := Fr.snoc X295 N293 g_b279
  have Z_ : n0 ≤ h295.size := by rw [W295.size]; exact Z_
  refine .st st295 ?_
  show OwnGoW p e below s Z own_EL _ _ _ T295 (mkF m 370 _ [])
  refine .iload X295 hx (hb hby at_370) rfl ?_
  refine .bipush X295 hx (hb hby at_372) own_kb8 ?_
  refine .icmpNo X295 hx (hb hby at_374) (tlt ((by decide) : (8 : Int32) < (10 : Int32))).2.2.2 ?_
  refine .aload X295 hx (hb hby at_377) rfl rfl ?_
  refine .bipush X295 hx (hb hby at_379) own_kb8 ?_
  refine .aload X295 hx (hb hby at_381) rfl rfl ?_
  refine .bipush X295 hx (hb hby at_383) own_kb8 ?_
  obtain ⟨cl296, Ar296, -, S296, -, H296, -⟩ := id V_b106
  have hin296 : ¬ ((8 : Int32) < 0 ∨ cl296.slots.size ≤ ((8 : Int32)).toNatClampNeg) := inb_of S296 ⟨by decide, by decide⟩
  refine .st (fun _ => X295.caload hx (j := (8 : Int32)) (v := (.int ch123)) (by first | exact Ar296.1 | (rw [e295]; exact Ar296.1)) (State.isArrayOf_alike hZ.alike Ar296.2.1) Ar296.2.2 hin296 (H296.at hin296 rfl) (g := (mkF m 385 #[.val (.int p1), .val (.long p2), .second, .val (.long p3), .second, .val (.int (10 : Int32)), .val (.int lt), .val (.int mo), .val (.int kk), .val (.int bi), .val (.ref b106), .val (.ref b279), .unset, .unset, .unset] [(.int (8 : Int32)), (.ref b106), (.int (8 : Int32)), (.ref b279)])) rfl rfl (hb hby at_385) _) ?_
  show OwnGoW p e below s Z own_EL _ _ _ T295 (mkF m 386 _ [(.int ch123), (.int (8 : Int32)), (.ref b279)])
  obtain ⟨cl297, Ar297, q297, S297, N297, H297, G297⟩ := id V_b279
  have hin297 : ¬ ((8 : Int32) < 0 ∨ cl297.slots.size ≤ ((8 : Int32)).toNatClampNeg) := inb_of S297 ⟨by decide, by decide⟩
  obtain ⟨T297, h297, X297, e297, W297, st297⟩ := stC X295 hx hZ e295 Ar297 (j := (8 : Int32)) hin297 (g := (mkF m 386 #[.val (.int p1), .val (.long p2), .second, .val (.long p3), .second, .val (.int (10 : Int32)), .val (.int lt), .val (.int mo), .val (.int kk), .val (.int bi), .val (.ref b106), .val (.ref b279), .unset, .unset, .unset] [(.int ch123), (.int (8 : Int32)), (.ref b279)])) rfl rfl (hb hby at_386)
  have V_b279 : Arv Z h297 b279 k279 .char (10 : Int32) [(.int ch107), (.int ch109), (.int ch111), (.int ch113), (.int ch115), (.int ch117), (.int ch119), (.int ch121), (.int (nar .char ch123)), (.int (0 : Int32))] (.int (0 : Int32)) := Arv.set Ar297 q297 S297 N297 H297 G297 (fits_nar_char _) W297 8 rfl (Nat.le_of_ble_eq_true rfl)
  rw [show nar .char ch123 = ch123 from (own_lnc hp_ch123)] at V_b279
  have V_b106 := V_b106.other W297 ne_b106_b279
  have E_b106 := E_b106.wr W297
  have E_b279 := E_b279.wr W297
  have O_ := O_.wr W297 g_b279
  have sf_ := sf_b279
  have CR0 := CR.1
  have CR := CR.trans (CHr.wr W297 sf_ CR.1)
  have sf_b106 := Safe.wr W297 sf_ CR0 sf_b106
  have sf_b279 := Safe.wr W297 sf_ CR0 sf_b279
  have hk_ := Nat.le_trans hk_ (Nat.le_of_eq W297.size.symm)
  have N297 := Fr.snoc X297 N295 g_b279
  have Z_ : n0 ≤ h297.size := by rw [W297.size]; exact Z_
  refine .st st297 ?_
  show OwnGoW p e below s Z own_EL _ _ _ T297 (mkF m 387 _ [])
  refine .iload X297 hx (hb hby at_387) rfl ?_
  refine .bipush X297 hx (hb hby at_389) own_kb9 ?_
  refine .icmpNo X297 hx (hb hby at_391) (tlt ((by decide) : (9 : Int32) < (10 : Int32))).2.2.2 ?_
  refine .aload X297 hx (hb hby at_394) rfl rfl ?_
  refine .bipush X297 hx (hb hby at_396) own_kb9 ?_
  refine .aload X297 hx (hb hby at_398) rfl rfl ?_
  refine .bipush X297 hx (hb hby at_400) own_kb9 ?_
  obtain ⟨cl298, Ar298, -, S298, -, H298, -⟩ := id V_b106
  have hin298 : ¬ ((9 : Int32) < 0 ∨ cl298.slots.size ≤ ((9 : Int32)).toNatClampNeg) := inb_of S298 ⟨by decide, by decide⟩
  refine .st (fun _ => X297.caload hx (j := (9 : Int32)) (v := (.int ch125)) (by first | exact Ar298.1 | (rw [e297]; exact Ar298.1)) (State.isArrayOf_alike hZ.alike Ar298.2.1) Ar298.2.2 hin298 (H298.at hin298 rfl) (g := (mkF m 402 #[.val (.int p1), .val (.long p2), .second, .val (.long p3), .second, .val (.int (10 : Int32)), .val (.int lt), .val (.int mo), .val (.int kk), .val (.int bi), .val (.ref b106), .val (.ref b279), .unset, .unset, .unset] [(.int (9 : Int32)), (.ref b106), (.int (9 : Int32)), (.ref b279)])) rfl rfl (hb hby at_402) _) ?_
  show OwnGoW p e below s Z own_EL _ _ _ T297 (mkF m 403 _ [(.int ch125), (.int (9 : Int32)), (.ref b279)])
  obtain ⟨cl299, Ar299, q299, S299, N299, H299, G299⟩ := id V_b279
  have hin299 : ¬ ((9 : Int32) < 0 ∨ cl299.slots.size ≤ ((9 : Int32)).toNatClampNeg) := inb_of S299 ⟨by decide, by decide⟩
  obtain ⟨T299, h299, X299, e299, W299, st299⟩ := stC X297 hx hZ e297 Ar299 (j := (9 : Int32)) hin299 (g := (mkF m 403 #[.val (.int p1), .val (.long p2), .second, .val (.long p3), .second, .val (.int (10 : Int32)), .val (.int lt), .val (.int mo), .val (.int kk), .val (.int bi), .val (.ref b106), .val (.ref b279), .unset, .unset, .unset] [(.int ch125), (.int (9 : Int32)), (.ref b279)])) rfl rfl (hb hby at_403)
  have V_b279 : Arv Z h299 b279 k279 .char (10 : Int32) [(.int ch107), (.int ch109), (.int ch111), (.int ch113), (.int ch115), (.int ch117), (.int ch119), (.int ch121), (.int ch123), (.int (nar .char ch125))] (.int (0 : Int32)) := Arv.set Ar299 q299 S299 N299 H299 G299 (fits_nar_char _) W299 9 rfl (Nat.le_of_ble_eq_true rfl)
  rw [show nar .char ch125 = ch125 from (own_lnc hp_ch125)] at V_b279
  have V_b106 := V_b106.other W299 ne_b106_b279
  have E_b106 := E_b106.wr W299
  have E_b279 := E_b279.wr W299
  have O_ := O_.wr W299 g_b279
  have sf_ := sf_b279
  have CR0 := CR.1
  have CR := CR.trans (CHr.wr W299 sf_ CR.1)
  have sf_b106 := Safe.wr W299 sf_ CR0 sf_b106
  have sf_b279 := Safe.wr W299 sf_ CR0 sf_b279
  have hk_ := Nat.le_trans hk_ (Nat.le_of_eq W299.size.symm)
  have N299 := Fr.snoc X299 N297 g_b279
  have Z_ : n0 ≤ h299.size := by rw [W299.size]; exact Z_
  refine .st st299 ?_
  show OwnGoW p e below s Z own_EL _ _ _ T299 (mkF m 404 _ [])
  obtain ⟨T300, h300, X300, e300, E300, A300, D300, -, st300⟩ := newO X299 hx hZ hown (W_ hw 39 rfl) (W_ hw 8 rfl) (W_ hw 7 rfl) e299 (g := (mkF m 404 #[.val (.int p1), .val (.long p2), .second, .val (.long p3), .second, .val (.int (10 : Int32)), .val (.int lt), .val (.int mo), .val (.int kk), .val (.int bi), .val (.ref b106), .val (.ref b279), .unset, .unset, .unset] [])) rfl (hb hby at_404) (by decide) (by decide)
  obtain ⟨b300, g300⟩ : ∃ z, z = h299.size := ⟨_, rfl⟩
  rw [← g300] at A300 D300 st300
  have ne_b106_b300 : b106 ≠ b300 := Nat.ne_of_lt (Nat.lt_of_lt_of_le V_b106.lt (Nat.le_of_eq g300.symm))
  have ne_b279_b300 : b279 ≠ b300 := Nat.ne_of_lt (Nat.lt_of_lt_of_le V_b279.lt (Nat.le_of_eq g300.symm))
  have g_b300 : n0 ≤ b300 := Nat.le_trans Z_ (Nat.le_of_eq g300.symm)
  have sf_b300 : Safe Z own_EL vm1 h299 b300 := Safe.new (Nat.le_of_eq g300.symm)
  have V_b106 := V_b106.ext E300
  have E_b106 := E_b106.ext E300
  have V_b279 := V_b279.ext E300
  have E_b279 := E_b279.ext E300
  have O_ := O_.ext E300
  have sf_b106 := Safe.ext E300 CR.1 sf_b106
  have sf_b279 := Safe.ext E300 CR.1 sf_b279
  have sf_b300 := Safe.ext E300 CR.1 sf_b300
  have CR := CR.trans (CHr.ext E300 CR.1)
  have hk_ := Nat.le_trans hk_ E300.1
  have Z_ : n0 ≤ h300.size := Nat.le_trans Z_ E300.1
  have E_b300 := A300
  have F_value_b300 : Fld Z h300 b300 "java/lang/String" "value" "[B" .null := D300 (Or.inr (W_ hw 10 rfl)) (ty := (.array .byte)) (by decide)
  have F_coder_b300 : Fld Z h300 b300 "java/lang/String" "coder" "B" (.int (0 : Int32)) := D300 (Or.inr (W_ hw 11 rfl)) (ty := .byte) (by decide)
  refine .st st300 ?_
  show OwnGoW p e below s Z own_EL _ _ _ T300 (mkF m 407 _ [(.ref b300)])
  refine .dup X300 hx (hb hby at_407) rfl ?_
  refine .aload X300 hx (hb hby at_408) rfl rfl ?_
  have hp301 : ∀ c ∈ ([ch107, ch109, ch111, ch113, ch115, ch117, ch119, ch121, ch123, ch125] : List Int32), ¬ c < 0 ∧ ¬ (255 : Int32) < c := by
    intro c hc
    simp only [List.mem_cons, List.not_mem_nil, or_false] at hc
    rcases hc with rfl | rfl | rfl | rfl | rfl | rfl | rfl | rfl | rfl | rfl
    · exact hp_ch107
    · exact hp_ch109
    · exact hp_ch111
    · exact hp_ch113
    · exact hp_ch115
    · exact hp_ch117
    · exact hp_ch119
    · exact hp_ch121
    · exact hp_ch123
    · exact hp_ch125
  obtain ⟨_, _, ⟨T302, L302, k302, n302⟩, -, X302, ⟨Lc302, hQ302, l302, y302, z302⟩, st302⟩ := X300.specialBack hx (y := (⟨"java/lang/String", "<init>", "([C)V"⟩ : MethodName)) rfl hown (mvT hZ (W_ hw 40 rfl)) (mvT hZ (W_ hw 41 rfl)) (mvT hZ (W_ hw 42 rfl)) (by decide) (StrChars.Road.backV (W := 1) hZ (own_ws hw) (kI := 4) (W_ hw 8 rfl) (cs := ([ch107, ch109, ch111, ch113, ch115, ch117, ch119, ch121, ch123, ch125] : List Int32)) (bs := ([ch107, ch109, ch111, ch113, ch115, ch117, ch119, ch121, ch123, ch125] : List Int32).map (fun c => c.toInt8.toInt32)) (n := 10) g_b300 Z_ E_b300 F_value_b300 F_coder_b300 V_b279 (S_CS.ext O_.2) P_CS rfl rfl (by decide) (by decide) hp301 rfl (by decide) (by decide)) (g := (mkF m 410 #[.val (.int p1), .val (.long p2), .second, .val (.long p3), .second, .val (.int (10 : Int32)), .val (.int lt), .val (.int mo), .val (.int kk), .val (.int bi), .val (.ref b106), .val (.ref b279), .unset, .unset, .unset] [(.ref b279), (.ref b300), (.ref b300)])) rfl (by rw [hml]; rfl) (Steps.refl _) (a := b300) (argsL := [(.ref b279)]) (rest := [(.ref b300)]) (lenOf pd_9 rfl) rfl (Nat.le_of_eq rfl) (hb hby at_410) (fun _ _ => ⟨rfl, e300, (by decide : 23 + 1 ≤ _), (by decide : 424 + 10 ≤ _)⟩)
  dsimp only [Pt.U, Pt.locs, Pt.cells, Pt.slots] at X302 l302 y302 z302 st302 hQ302
  subst l302 y302 z302
  obtain ⟨rfl, N302q, K302, Ex302, Fc_b300, t302, kb302, gt302, zz302, nt302, Fv_b300, V302⟩ := hQ302
  have N302 := Fr.app N299 N302q
  have zt302 : h300.size ≤ t302 := zz302
  have ne_b106_t302 : b106 ≠ t302 := Nat.ne_of_lt (Nat.lt_of_lt_of_le V_b106.lt zt302)
  have ne_b279_t302 : b279 ≠ t302 := Nat.ne_of_lt (Nat.lt_of_lt_of_le V_b279.lt zt302)
  have ne_b300_t302 : b300 ≠ t302 := Nat.ne_of_lt (Nat.lt_of_lt_of_le E_b300.lt zt302)
  have g_t302 : n0 ≤ t302 := Nat.le_trans Z_ zt302
  have V302 : Arv Z T302.heap t302 kb302 .byte (10 : Int32) [(.int ch107.toInt8.toInt32), (.int ch109.toInt8.toInt32), (.int ch111.toInt8.toInt32), (.int ch113.toInt8.toInt32), (.int ch115.toInt8.toInt32), (.int ch117.toInt8.toInt32), (.int ch119.toInt8.toInt32), (.int ch121.toInt8.toInt32), (.int ch123.toInt8.toInt32), (.int ch125.toInt8.toInt32)] (.int (0 : Int32)) := V302
  have Z_ : n0 ≤ T302.heap.size := Nat.le_trans Z_ K302.1
  have V_b106 := V_b106.keep K302 (ninS ne_b106_b300 nin0)
  have E_b106 := E_b106.keep K302
  have V_b279 := V_b279.keep K302 (ninS ne_b279_b300 nin0)
  have E_b279 := E_b279.keep K302
  have E_b300 := E_b300.keep K302
  have O_ := O_.keep K302 (allS g_b300 all0)
  have sf_b106' := Safe.keep K302 (sfS sf_b300 sf0) CR.1 sf_b106
  have sf_b279' := Safe.keep K302 (sfS sf_b300 sf0) CR.1 sf_b279
  have sf_b300' := Safe.keep K302 (sfS sf_b300 sf0) CR.1 sf_b300
  have CR := CR.trans (CHr.keep K302 (sfS sf_b300 sf0) CR.1)
  have hk_ := Nat.le_trans hk_ K302.1
  have sf_b106 := sf_b106'
  have sf_b279 := sf_b279'
  have sf_b300 := sf_b300'
  refine .st (fun _ => st302.trans) ?_
  show OwnGoW p e below s Z own_EL _ _ _ T302 (mkF m 413 _ [(.ref b300)])
  refine .astore X302 hx (hb hby at_413) rfl (L' := #[.val (.int p1), .val (.long p2), .second, .val (.long p3), .second, .val (.int (10 : Int32)), .val (.int lt), .val (.int mo), .val (.int kk), .val (.int bi), .val (.ref b106), .val (.ref b279), .val (.ref b300), .unset, .unset]) rfl ?_
  refine .iload X302 hx (hb hby at_415) rfl ?_
  refine .bipush X302 hx (hb hby at_417) own_kb9 ?_
  refine .icmpYes (pc := 419) X302 hx 510 (hb hby at_419) (feq ((by decide) : ¬ ((10 : Int32) = (9 : Int32)))).2 (by decide) (by decide) ?_
  refine .iconst X302 hx (hb hby at_510) own_ki0 ?_
  refine .istore X302 hx (hb hby at_511) (L' := #[.val (.int p1), .val (.long p2), .second, .val (.long p3), .second, .val (.int (10 : Int32)), .val (.int lt), .val (.int mo), .val (.int kk), .val (.int bi), .val (.ref b106), .val (.ref b279), .val (.ref b300), .val (.int (0 : Int32)), .unset]) rfl ?_
  refine .iload X302 hx (hb hby at_513) rfl ?_
  refine .iconst X302 hx (hb hby at_515) own_ki2 ?_
  refine .icmpYes (pc := 516) X302 hx 541 (hb hby at_516) (feq ((by decide) : ¬ ((10 : Int32) = (2 : Int32)))).2 (by decide) (by decide) ?_
  refine .iconst X302 hx (hb hby at_541) own_ki0 ?_
  refine .istore X302 hx (hb hby at_542) (L' := #[.val (.int p1), .val (.long p2), .second, .val (.long p3), .second, .val (.int (10 : Int32)), .val (.int lt), .val (.int mo), .val (.int kk), .val (.int bi), .val (.ref b106), .val (.ref b279), .val (.ref b300), .val (.int (0 : Int32)), .val (.int (0 : Int32))]) rfl ?_
  refine .aload X302 hx (hb hby at_544) rfl rfl ?_
  obtain ⟨_, _, ⟨T303, L303, k303, n303⟩, -, X303, hS303, hg303, ⟨Lc303, hQ303, l303, y303, z303, CN303⟩, st303⟩ := callSS (s := s.setVm vm1) X302 hx (y := (⟨"com/example/mapweft/mapweft/Options", "isVerbose", "(Ljava/lang/String;)Z"⟩ : MethodName)) hown (mvT hZ (W_ hw 51 rfl)) (mvT hZ (W_ hw 52 rfl)) (mvT hZ (W_ hw 53 rfl)) (mvT hZ (W_ hw 54 rfl)) (by decide) (backOfSH (s := s) (vm0 := vm1) (W := 0) (rmisVN l Z a0 hw [] b300 t302 kb302 (10 : Int32) [(.int ch107.toInt8.toInt32), (.int ch109.toInt8.toInt32), (.int ch111.toInt8.toInt32), (.int ch113.toInt8.toInt32), (.int ch115.toInt8.toInt32), (.int ch117.toInt8.toInt32), (.int ch119.toInt8.toInt32), (.int ch121.toInt8.toInt32), (.int ch123.toInt8.toInt32), (.int ch125.toInt8.toInt32)] zc T302.heap n0 Z_ O_ S_CS P_CS E_b300 Fc_b300 Fv_b300 V302 (by decide) (by decide)) hZ (W_ hw 54 rfl) (W_ hw 53 rfl) (by decide) (by decide) (own_hEL hw) CR.1) (g := (mkF m 546 #[.val (.int p1), .val (.long p2), .second, .val (.long p3), .second, .val (.int (10 : Int32)), .val (.int lt), .val (.int mo), .val (.int kk), .val (.int bi), .val (.ref b106), .val (.ref b279), .val (.ref b300), .val (.int (0 : Int32)), .val (.int (0 : Int32))] [(.ref b300)])) rfl (by rw [hml]; rfl) (argsL := [(.ref b300)]) (rest := []) (lenOf pd_10 rfl) rfl (Nat.le_of_eq rfl) (hb hby at_546) (fun _ _ => ⟨rfl, rfl, (by decide : 24 + 4 ≤ _), (by decide : 434 + 52 ≤ _)⟩)
  dsimp only [Pt.U, Pt.locs, Pt.cells, Pt.slots] at X303 hS303 hg303 l303 y303 z303 CN303 st303 hQ303
  subst l303 y303 z303
  obtain ⟨X303, hS_, hZ, hown⟩ := rebS hS_ (show _ ≤ T302.heap.size by rw [(rfl : T302.heap = T302.heap)]; exact hk_) X303 hS303 hg303 hZ hown
  obtain ⟨rfl, N303q, K303⟩ := hQ303
  have N303 := Fr.app N302 N303q
  have lt_b106 : b106 < T302.heap.size := V_b106.lt
  have lt_b279 : b279 < T302.heap.size := V_b279.lt
  have lt_b300 : b300 < T302.heap.size := E_b300.lt
  have Z_ : n0 ≤ T303.heap.size := Nat.le_trans Z_ K303.1
  have V_b106 := V_b106.keep K303 nin0
  have E_b106 := E_b106.keep K303
  have V_b279 := V_b279.keep K303 nin0
  have E_b279 := E_b279.keep K303
  have E_b300 := E_b300.keep K303
  have Fc_b300 := Fc_b300.keep K303 nin0
  have Fv_b300 := Fv_b300.keep K303 nin0
  have V302 := V302.keep K303 nin0
  have O_ := O_.keep K303 all0
  have sf_b106 := CN303.safe lt_b106 sf_b106
  have sf_b279 := CN303.safe lt_b279 sf_b279
  have sf_b300 := CN303.safe lt_b300 sf_b300
  have CR := CR.trans CN303
  have hk_ := Nat.le_refl T303.heap.size
  refine .st (fun _ => st303.trans) ?_
  show OwnGoW p e below s Z own_EL _ _ _ T303 (mkF m 549 _ [(.int (0 : Int32))])
  refine .iload X303 hx (hb hby at_549) rfl ?_
  refine .ifNo X303 hx (hb hby at_551) ((if0 _ _).trans (teq ((by decide) : (0 : Int32) = (0 : Int32))).2) ?_
  refine .iload X303 hx (hb hby at_554) rfl ?_
  refine .ifYes (pc := 556) X303 hx 563 (hb hby at_556) ((if0 _ _).trans (teq ((by decide) : (0 : Int32) = (0 : Int32))).1) (by decide) (by decide) ?_
  refine .iconst X303 hx (hb hby at_563) own_ki0 ?_
  refine .icmpNo X303 hx (hb hby at_564) (teq ((by decide) : (0 : Int32) = (0 : Int32))).2 ?_
  refine .iconst X303 hx (hb hby at_567) own_ki1 ?_
  refine .goto (pc := 568) X303 hx 572 (hb hby at_568) (by decide) (by decide) ?_
  exact OwnGoW.retN (s := s) (vm0 := T303.vm) X303 hS_ hk_ rfl hZ (own_hEL hw) CR hx (t := .boolean) hret hlk (by simp) (hb hby at_572) (by show Q0 Z p1 p2 p3 zc fmv h0 n0 _ T303.heap _; exact ⟨rfl, N303⟩) (by decide) (by decide)
theorem rm0 (l : Launch) (Z : State) (a0 : Array Value) (hw : own_tb a0 Z) (ws : List Jvm.Cond) (p1 : Int32) (p2 : Int64) (p3 : Int64) (zc : Int32) (fmv : Value) (h0 : Heap) (n0 : Nat) (Z0 : n0 ≤ h0.size) (O_ : Old Z n0 h0) (S_CS : Sta Z Z.heap "java/lang/String" "COMPACT_STRINGS" "Z" (.int zc)) (P_CS : ¬ zc = (0 : Int32)) (S_SF : Sta Z Z.heap "jdk/internal/util/Preconditions" "SIOOBE_FORMATTER" "Ljava/util/function/BiFunction;" fmv) (rf_fmv : fmv.isRef = true) :
    OwnMetW l x code maxLocals ret ws room_1 #[(.int p1), (.long p2), (.long p3)] Z h0 (Q0 Z p1 p2 p3 zc fmv h0 n0) := by
  refine own_metW (EL := own_EL) (plainFor_of_name pn_1) ?_
  intro p e s m below meth c s₁ X0 hx hby hml hret hlk hown hnm hZ e0 hS_ CR
  have hk_ := Nat.le_refl h0.size
  have N0 := Fr.nil n0
  have Z_ := Z0
  refine OwnGoW.cast (ef_0 m p1 p2 p3) ?_
  have hml : c.maxLocals = 15 := hml
  show OwnGoW p e below s Z own_EL _ _ _ s₁ (mkF m 0 _ [])
  refine .iloadN X0 hx (hb hby at_0) rfl ?_
  refine .bipush X0 hx (hb hby at_1) own_kb15 ?_
  refine .st (fun _ => XS.iand X0.here hx rfl (hb hby at_3) rfl) ?_
  show OwnGoW p e below s Z own_EL _ _ _ s₁ (mkF m 4 _ [(.int (p1 &&& (15 : Int32)))])
  refine .bipush X0 hx (hb hby at_4) own_kb11 ?_
  refine .st (fun _ => iremM (g := (mkF m 6 #[.val (.int p1), .val (.long p2), .second, .val (.long p3), .second, .unset, .unset, .unset, .unset, .unset, .unset, .unset, .unset, .unset, .unset] [(.int (11 : Int32)), (.int (p1 &&& (15 : Int32)))])) X0 hx rfl (hb hby at_6) rfl (by decide)) ?_
  show OwnGoW p e below s Z own_EL _ _ _ s₁ (mkF m 7 _ [(.int ((p1 &&& (15 : Int32)) % (11 : Int32)))])
  obtain ⟨nn, hnn⟩ : ∃ z : Int32, z = ((p1 &&& (15 : Int32)) % (11 : Int32)) := ⟨_, rfl⟩
  rw [← hnn]
  show OwnGoW p e below s Z own_EL _ _ _ s₁ (mkF m 7 _ [(.int nn)])
  refine .istore X0 hx (hb hby at_7) (L' := #[.val (.int p1), .val (.long p2), .second, .val (.long p3), .second, .val (.int nn), .unset, .unset, .unset, .unset, .unset, .unset, .unset, .unset, .unset]) rfl ?_
  refine .iloadN X0 hx (hb hby at_9) rfl ?_
  refine .iconst X0 hx (hb hby at_10) own_ki4 ?_
  refine .st (fun _ => XS.iushr X0.here hx rfl (hb hby at_11) rfl) ?_
  show OwnGoW p e below s Z own_EL _ _ _ s₁ (mkF m 12 _ [(.int ((p1.toUInt32 >>> ((4 : Int32) &&& 31).toUInt32).toInt32))])
  refine .iconst X0 hx (hb hby at_12) own_ki1 ?_
  refine .st (fun _ => XS.iand X0.here hx rfl (hb hby at_13) rfl) ?_
  show OwnGoW p e below s Z own_EL _ _ _ s₁ (mkF m 14 _ [(.int (((p1.toUInt32 >>> ((4 : Int32) &&& 31).toUInt32).toInt32) &&& (1 : Int32)))])
  refine OwnGoW.join (T1 := s₁) (P := fun z_ : Int32 => True) (f := fun z_ : Int32 => mkF m 22 #[.val (.int p1), .val (.long p2), .second, .val (.long p3), .second, .val (.int nn), .unset, .unset, .unset, .unset, .unset, .unset, .unset, .unset, .unset] [(.int z_)]) ?_ ?_
  · intro z_ hj
    obtain ⟨lt, hz_⟩ : ∃ u : Int32, u = z_ := ⟨_, rfl⟩
    subst hz_
    show OwnGoW p e below s Z own_EL _ _ _ s₁ (mkF m 22 #[.val (.int p1), .val (.long p2), .second, .val (.long p3), .second, .val (.int nn), .unset, .unset, .unset, .unset, .unset, .unset, .unset, .unset, .unset] [(.int lt)])
    refine .istore X0 hx (hb hby at_22) (L' := #[.val (.int p1), .val (.long p2), .second, .val (.long p3), .second, .val (.int nn), .val (.int lt), .unset, .unset, .unset, .unset, .unset, .unset, .unset, .unset]) rfl ?_
    refine .iloadN X0 hx (hb hby at_24) rfl ?_
    refine .iconst X0 hx (hb hby at_25) own_ki5 ?_
    refine .st (fun _ => XS.iushr X0.here hx rfl (hb hby at_26) rfl) ?_
    show OwnGoW p e below s Z own_EL _ _ _ s₁ (mkF m 27 _ [(.int ((p1.toUInt32 >>> ((5 : Int32) &&& 31).toUInt32).toInt32))])
    refine .iconst X0 hx (hb hby at_27) own_ki3 ?_
    refine .st (fun _ => XS.iand X0.here hx rfl (hb hby at_28) rfl) ?_
    show OwnGoW p e below s Z own_EL _ _ _ s₁ (mkF m 29 _ [(.int (((p1.toUInt32 >>> ((5 : Int32) &&& 31).toUInt32).toInt32) &&& (3 : Int32)))])
    obtain ⟨mo, hmo⟩ : ∃ z : Int32, z = (((p1.toUInt32 >>> ((5 : Int32) &&& 31).toUInt32).toInt32) &&& (3 : Int32)) := ⟨_, rfl⟩
    rw [← hmo]
    show OwnGoW p e below s Z own_EL _ _ _ s₁ (mkF m 29 _ [(.int mo)])
    refine .istore X0 hx (hb hby at_29) (L' := #[.val (.int p1), .val (.long p2), .second, .val (.long p3), .second, .val (.int nn), .val (.int lt), .val (.int mo), .unset, .unset, .unset, .unset, .unset, .unset, .unset]) rfl ?_
    refine .iloadN X0 hx (hb hby at_31) rfl ?_
    refine .bipush X0 hx (hb hby at_32) own_kb7 ?_
    refine .st (fun _ => XS.iushr X0.here hx rfl (hb hby at_34) rfl) ?_
    show OwnGoW p e below s Z own_EL _ _ _ s₁ (mkF m 35 _ [(.int ((p1.toUInt32 >>> ((7 : Int32) &&& 31).toUInt32).toInt32))])
    refine .bipush X0 hx (hb hby at_35) own_kb15 ?_
    refine .st (fun _ => XS.iand X0.here hx rfl (hb hby at_37) rfl) ?_
    show OwnGoW p e below s Z own_EL _ _ _ s₁ (mkF m 38 _ [(.int (((p1.toUInt32 >>> ((7 : Int32) &&& 31).toUInt32).toInt32) &&& (15 : Int32)))])
    refine .bipush X0 hx (hb hby at_38) own_kb10 ?_
    refine .st (fun _ => iremM (g := (mkF m 40 #[.val (.int p1), .val (.long p2), .second, .val (.long p3), .second, .val (.int nn), .val (.int lt), .val (.int mo), .unset, .unset, .unset, .unset, .unset, .unset, .unset] [(.int (10 : Int32)), (.int (((p1.toUInt32 >>> ((7 : Int32) &&& 31).toUInt32).toInt32) &&& (15 : Int32)))])) X0 hx rfl (hb hby at_40) rfl (by decide)) ?_
    show OwnGoW p e below s Z own_EL _ _ _ s₁ (mkF m 41 _ [(.int ((((p1.toUInt32 >>> ((7 : Int32) &&& 31).toUInt32).toInt32) &&& (15 : Int32)) % (10 : Int32)))])
    obtain ⟨kk, hkk⟩ : ∃ z : Int32, z = ((((p1.toUInt32 >>> ((7 : Int32) &&& 31).toUInt32).toInt32) &&& (15 : Int32)) % (10 : Int32)) := ⟨_, rfl⟩
    rw [← hkk]
    show OwnGoW p e below s Z own_EL _ _ _ s₁ (mkF m 41 _ [(.int kk)])
    refine .istore X0 hx (hb hby at_41) (L' := #[.val (.int p1), .val (.long p2), .second, .val (.long p3), .second, .val (.int nn), .val (.int lt), .val (.int mo), .val (.int kk), .unset, .unset, .unset, .unset, .unset, .unset]) rfl ?_
    refine .iloadN X0 hx (hb hby at_43) rfl ?_
    refine .bipush X0 hx (hb hby at_44) own_kb11 ?_
    refine .st (fun _ => XS.iushr X0.here hx rfl (hb hby at_46) rfl) ?_
    show OwnGoW p e below s Z own_EL _ _ _ s₁ (mkF m 47 _ [(.int ((p1.toUInt32 >>> ((11 : Int32) &&& 31).toUInt32).toInt32))])
    refine .sipush X0 hx (hb hby at_47) own_ks1023 ?_
    refine .st (fun _ => XS.iand X0.here hx rfl (hb hby at_50) rfl) ?_
    show OwnGoW p e below s Z own_EL _ _ _ s₁ (mkF m 51 _ [(.int (((p1.toUInt32 >>> ((11 : Int32) &&& 31).toUInt32).toInt32) &&& (1023 : Int32)))])
    obtain ⟨bi, hbi⟩ : ∃ z : Int32, z = (((p1.toUInt32 >>> ((11 : Int32) &&& 31).toUInt32).toInt32) &&& (1023 : Int32)) := ⟨_, rfl⟩
    rw [← hbi]
    show OwnGoW p e below s Z own_EL _ _ _ s₁ (mkF m 51 _ [(.int bi)])
    refine .istore X0 hx (hb hby at_51) (L' := #[.val (.int p1), .val (.long p2), .second, .val (.long p3), .second, .val (.int nn), .val (.int lt), .val (.int mo), .val (.int kk), .val (.int bi), .unset, .unset, .unset, .unset, .unset]) rfl ?_
    refine .bipush X0 hx (hb hby at_53) own_kb10 ?_
    obtain ⟨T106, h106, k106, X106, e106, E106, A106, Ex106, st106⟩ := newPE X0 hx hZ (W_ hw 0 rfl) e0 (g := (mkF m 55 #[.val (.int p1), .val (.long p2), .second, .val (.long p3), .second, .val (.int nn), .val (.int lt), .val (.int mo), .val (.int kk), .val (.int bi), .unset, .unset, .unset, .unset, .unset] [(.int (10 : Int32))])) rfl (hb hby at_55) rfl (by decide) (cap := 10) (by decide) (by decide) (by decide) (by decide) (ad := "[C") (by decide)
    obtain ⟨b106, g106⟩ : ∃ z, z = h0.size := ⟨_, rfl⟩
    rw [← g106] at A106 Ex106 st106
    have g_b106 : n0 ≤ b106 := Nat.le_trans Z_ (Nat.le_of_eq g106.symm)
    have sf_b106 : Safe Z own_EL s.vm h0 b106 := Safe.new (Nat.le_of_eq g106.symm)
    have O_ := O_.ext E106
    have sf_b106 := Safe.ext E106 CR.1 sf_b106
    have CR := CR.trans (CHr.ext E106 CR.1)
    have hk_ := Nat.le_trans hk_ E106.1
    have Z_ : n0 ≤ h106.size := Nat.le_trans Z_ E106.1
    have V_b106 : Arv Z h106 b106 k106 .char (10 : Int32) [(.int (0 : Int32)), (.int (0 : Int32)), (.int (0 : Int32)), (.int (0 : Int32)), (.int (0 : Int32)), (.int (0 : Int32)), (.int (0 : Int32)), (.int (0 : Int32)), (.int (0 : Int32)), (.int (0 : Int32))] (.int (0 : Int32)) := (Arv.new A106 (by decide)).pad (pad_rep [] (.int (0 : Int32)) 10)
    have E_b106 := Ex106
    refine .st st106 ?_
    show OwnGoW p e below s Z own_EL _ _ _ T106 (mkF m 57 _ [(.ref b106)])
    refine .astore X106 hx (hb hby at_57) rfl (L' := #[.val (.int p1), .val (.long p2), .second, .val (.long p3), .second, .val (.int nn), .val (.int lt), .val (.int mo), .val (.int kk), .val (.int bi), .val (.ref b106), .unset, .unset, .unset, .unset]) rfl ?_
    refine .aload X106 hx (hb hby at_59) rfl rfl ?_
    refine .iconst X106 hx (hb hby at_61) own_ki0 ?_
    refine .iconst X106 hx (hb hby at_62) own_ki0 ?_
    refine .iload X106 hx (hb hby at_63) rfl ?_
    refine .iload X106 hx (hb hby at_65) rfl ?_
    refine .iload X106 hx (hb hby at_67) rfl ?_
    refine .iload X106 hx (hb hby at_69) rfl ?_
    refine .st (fun _ => XS.lloadN X106.here hx rfl (hb hby at_71) rfl) ?_
    show OwnGoW p e below s Z own_EL _ _ _ T106 (mkF m 72 _ [(.long p2), (.int bi), (.int kk), (.int mo), (.int lt), (.int (0 : Int32)), (.int (0 : Int32)), (.ref b106)])
    refine .st (fun _ => XS.lloadN X106.here hx rfl (hb hby at_72) rfl) ?_
    show OwnGoW p e below s Z own_EL _ _ _ T106 (mkF m 73 _ [(.long p3), (.long p2), (.int bi), (.int kk), (.int mo), (.int lt), (.int (0 : Int32)), (.int (0 : Int32)), (.ref b106)])
    obtain ⟨_, _, ⟨T107, L107, k107, n107⟩, -, X107, hS107, hg107, ⟨Lc107, hQ107, l107, y107, z107, CN107⟩, st107⟩ := callSS (s := s.setVm s.vm) X106 hx (y := (⟨"com/example/mapweft/mapweft/OptionsIsVerbosePinLaw", "at", "(IZIIIJJ)C"⟩ : MethodName)) hown (mvT hZ (W_ hw 1 rfl)) (mvT hZ (W_ hw 2 rfl)) (mvT hZ (W_ hw 3 rfl)) (mvT hZ (W_ hw 4 rfl)) (by decide) (backOfSH (s := s) (vm0 := s.vm) (W := 2) (rmat l Z a0 hw [] (0 : Int32) lt mo kk bi p2 p3 zc fmv h106 n0 Z_ O_ S_CS P_CS S_SF rf_fmv (by decide)) hZ (W_ hw 4 rfl) (W_ hw 3 rfl) (by decide) (by decide) (own_hEL hw) CR.1) (g := (mkF m 73 #[.val (.int p1), .val (.long p2), .second, .val (.long p3), .second, .val (.int nn), .val (.int lt), .val (.int mo), .val (.int kk), .val (.int bi), .val (.ref b106), .unset, .unset, .unset, .unset] [(.long p3), (.long p2), (.int bi), (.int kk), (.int mo), (.int lt), (.int (0 : Int32)), (.int (0 : Int32)), (.ref b106)])) rfl (by rw [hml]; rfl) (argsL := [(.int (0 : Int32)), (.int lt), (.int mo), (.int kk), (.int bi), (.long p2), (.long p3)]) (rest := [(.int (0 : Int32)), (.ref b106)]) (lenOf pd_8 rfl) rfl (Nat.le_of_eq rfl) (hb hby at_73) (fun _ _ => ⟨rfl, e106, (by decide : 1 + 2 ≤ _), (by decide : 10 + 40 ≤ _)⟩)
    dsimp only [Pt.U, Pt.locs, Pt.cells, Pt.slots] at X107 hS107 hg107 l107 y107 z107 CN107 st107 hQ107
    subst l107 y107 z107
    obtain ⟨X107, hS_, hZ, hown⟩ := rebS hS_ (show _ ≤ T106.heap.size by rw [(e106 : T106.heap = h106)]; exact hk_) X107 hS107 hg107 hZ hown
    obtain ⟨ch107, rfl, N107q, K107, hp_ch107⟩ := hQ107
    have N107 := Fr.app N0 N107q
    have lt_b106 : b106 < h106.size := V_b106.lt
    have Z_ : n0 ≤ T107.heap.size := Nat.le_trans Z_ K107.1
    have V_b106 := V_b106.keep K107 nin0
    have E_b106 := E_b106.keep K107
    have O_ := O_.keep K107 all0
    have sf_b106 := CN107.safe lt_b106 sf_b106
    have CR := CR.trans CN107
    have hk_ := Nat.le_refl T107.heap.size
    refine .st (fun _ => st107.trans) ?_
    show OwnGoW p e below s Z own_EL _ _ _ T107 (mkF m 76 _ [(.int ch107), (.int (0 : Int32)), (.ref b106)])
    obtain ⟨cl108, Ar108, q108, S108, N108, H108, G108⟩ := id V_b106
    have hin108 : ¬ ((0 : Int32) < 0 ∨ cl108.slots.size ≤ ((0 : Int32)).toNatClampNeg) := inb_of S108 ⟨by decide, by decide⟩
    obtain ⟨T108, h108, X108, e108, W108, st108⟩ := stC X107 hx hZ rfl Ar108 (j := (0 : Int32)) hin108 (g := (mkF m 76 #[.val (.int p1), .val (.long p2), .second, .val (.long p3), .second, .val (.int nn), .val (.int lt), .val (.int mo), .val (.int kk), .val (.int bi), .val (.ref b106), .unset, .unset, .unset, .unset] [(.int ch107), (.int (0 : Int32)), (.ref b106)])) rfl rfl (hb hby at_76)
    have V_b106 : Arv Z h108 b106 k106 .char (10 : Int32) [(.int (nar .char ch107)), (.int (0 : Int32)), (.int (0 : Int32)), (.int (0 : Int32)), (.int (0 : Int32)), (.int (0 : Int32)), (.int (0 : Int32)), (.int (0 : Int32)), (.int (0 : Int32)), (.int (0 : Int32))] (.int (0 : Int32)) := Arv.set Ar108 q108 S108 N108 H108 G108 (fits_nar_char _) W108 0 rfl (Nat.le_of_ble_eq_true rfl)
    rw [show nar .char ch107 = ch107 from (own_lnc hp_ch107)] at V_b106
    have E_b106 := E_b106.wr W108
    have O_ := O_.wr W108 g_b106
    have sf_ := sf_b106
    have CR0 := CR.1
    have CR := CR.trans (CHr.wr W108 sf_ CR.1)
    have sf_b106 := Safe.wr W108 sf_ CR0 sf_b106
    have hk_ := Nat.le_trans hk_ (Nat.le_of_eq W108.size.symm)
    have N108 := Fr.snoc X108 N107 g_b106
    have Z_ : n0 ≤ h108.size := by rw [W108.size]; exact Z_
    refine .st st108 ?_
    show OwnGoW p e below s Z own_EL _ _ _ T108 (mkF m 77 _ [])
    refine .aload X108 hx (hb hby at_77) rfl rfl ?_
    refine .iconst X108 hx (hb hby at_79) own_ki1 ?_
    refine .iconst X108 hx (hb hby at_80) own_ki1 ?_
    refine .iload X108 hx (hb hby at_81) rfl ?_
    refine .iload X108 hx (hb hby at_83) rfl ?_
    refine .iload X108 hx (hb hby at_85) rfl ?_
    refine .iload X108 hx (hb hby at_87) rfl ?_
    refine .st (fun _ => XS.lloadN X108.here hx rfl (hb hby at_89) rfl) ?_
    show OwnGoW p e below s Z own_EL _ _ _ T108 (mkF m 90 _ [(.long p2), (.int bi), (.int kk), (.int mo), (.int lt), (.int (1 : Int32)), (.int (1 : Int32)), (.ref b106)])
    refine .st (fun _ => XS.lloadN X108.here hx rfl (hb hby at_90) rfl) ?_
    show OwnGoW p e below s Z own_EL _ _ _ T108 (mkF m 91 _ [(.long p3), (.long p2), (.int bi), (.int kk), (.int mo), (.int lt), (.int (1 : Int32)), (.int (1 : Int32)), (.ref b106)])
    obtain ⟨_, _, ⟨T109, L109, k109, n109⟩, -, X109, hS109, hg109, ⟨Lc109, hQ109, l109, y109, z109, CN109⟩, st109⟩ := callSS (s := s.setVm T107.vm) X108 hx (y := (⟨"com/example/mapweft/mapweft/OptionsIsVerbosePinLaw", "at", "(IZIIIJJ)C"⟩ : MethodName)) hown (mvT hZ (W_ hw 1 rfl)) (mvT hZ (W_ hw 2 rfl)) (mvT hZ (W_ hw 3 rfl)) (mvT hZ (W_ hw 4 rfl)) (by decide) (backOfSH (s := s) (vm0 := T107.vm) (W := 2) (rmat l Z a0 hw [] (1 : Int32) lt mo kk bi p2 p3 zc fmv h108 n0 Z_ O_ S_CS P_CS S_SF rf_fmv (by decide)) hZ (W_ hw 4 rfl) (W_ hw 3 rfl) (by decide) (by decide) (own_hEL hw) CR.1) (g := (mkF m 91 #[.val (.int p1), .val (.long p2), .second, .val (.long p3), .second, .val (.int nn), .val (.int lt), .val (.int mo), .val (.int kk), .val (.int bi), .val (.ref b106), .unset, .unset, .unset, .unset] [(.long p3), (.long p2), (.int bi), (.int kk), (.int mo), (.int lt), (.int (1 : Int32)), (.int (1 : Int32)), (.ref b106)])) rfl (by rw [hml]; rfl) (argsL := [(.int (1 : Int32)), (.int lt), (.int mo), (.int kk), (.int bi), (.long p2), (.long p3)]) (rest := [(.int (1 : Int32)), (.ref b106)]) (lenOf pd_8 rfl) rfl (Nat.le_of_eq rfl) (hb hby at_91) (fun _ _ => ⟨rfl, e108, (by decide : 3 + 2 ≤ _), (by decide : 50 + 40 ≤ _)⟩)
    dsimp only [Pt.U, Pt.locs, Pt.cells, Pt.slots] at X109 hS109 hg109 l109 y109 z109 CN109 st109 hQ109
    subst l109 y109 z109
    obtain ⟨X109, hS_, hZ, hown⟩ := rebS hS_ (show _ ≤ T108.heap.size by rw [(e108 : T108.heap = h108)]; exact hk_) X109 hS109 hg109 hZ hown
    obtain ⟨ch109, rfl, N109q, K109, hp_ch109⟩ := hQ109
    have N109 := Fr.app N108 N109q
    have lt_b106 : b106 < h108.size := V_b106.lt
    have Z_ : n0 ≤ T109.heap.size := Nat.le_trans Z_ K109.1
    have V_b106 := V_b106.keep K109 nin0
    have E_b106 := E_b106.keep K109
    have O_ := O_.keep K109 all0
    have sf_b106 := CN109.safe lt_b106 sf_b106
    have CR := CR.trans CN109
    have hk_ := Nat.le_refl T109.heap.size
    refine .st (fun _ => st109.trans) ?_
    show OwnGoW p e below s Z own_EL _ _ _ T109 (mkF m 94 _ [(.int ch109), (.int (1 : Int32)), (.ref b106)])
    obtain ⟨cl110, Ar110, q110, S110, N110, H110, G110⟩ := id V_b106
    have hin110 : ¬ ((1 : Int32) < 0 ∨ cl110.slots.size ≤ ((1 : Int32)).toNatClampNeg) := inb_of S110 ⟨by decide, by decide⟩
    obtain ⟨T110, h110, X110, e110, W110, st110⟩ := stC X109 hx hZ rfl Ar110 (j := (1 : Int32)) hin110 (g := (mkF m 94 #[.val (.int p1), .val (.long p2), .second, .val (.long p3), .second, .val (.int nn), .val (.int lt), .val (.int mo), .val (.int kk), .val (.int bi), .val (.ref b106), .unset, .unset, .unset, .unset] [(.int ch109), (.int (1 : Int32)), (.ref b106)])) rfl rfl (hb hby at_94)
    have V_b106 : Arv Z h110 b106 k106 .char (10 : Int32) [(.int ch107), (.int (nar .char ch109)), (.int (0 : Int32)), (.int (0 : Int32)), (.int (0 : Int32)), (.int (0 : Int32)), (.int (0 : Int32)), (.int (0 : Int32)), (.int (0 : Int32)), (.int (0 : Int32))] (.int (0 : Int32)) := Arv.set Ar110 q110 S110 N110 H110 G110 (fits_nar_char _) W110 1 rfl (Nat.le_of_ble_eq_true rfl)
    rw [show nar .char ch109 = ch109 from (own_lnc hp_ch109)] at V_b106
    have E_b106 := E_b106.wr W110
    have O_ := O_.wr W110 g_b106
    have sf_ := sf_b106
    have CR0 := CR.1
    have CR := CR.trans (CHr.wr W110 sf_ CR.1)
    have sf_b106 := Safe.wr W110 sf_ CR0 sf_b106
    have hk_ := Nat.le_trans hk_ (Nat.le_of_eq W110.size.symm)
    have N110 := Fr.snoc X110 N109 g_b106
    have Z_ : n0 ≤ h110.size := by rw [W110.size]; exact Z_
    refine .st st110 ?_
    show OwnGoW p e below s Z own_EL _ _ _ T110 (mkF m 95 _ [])
    refine .aload X110 hx (hb hby at_95) rfl rfl ?_
    refine .iconst X110 hx (hb hby at_97) own_ki2 ?_
    refine .iconst X110 hx (hb hby at_98) own_ki2 ?_
    refine .iload X110 hx (hb hby at_99) rfl ?_
    refine .iload X110 hx (hb hby at_101) rfl ?_
    refine .iload X110 hx (hb hby at_103) rfl ?_
    refine .iload X110 hx (hb hby at_105) rfl ?_
    refine .st (fun _ => XS.lloadN X110.here hx rfl (hb hby at_107) rfl) ?_
    show OwnGoW p e below s Z own_EL _ _ _ T110 (mkF m 108 _ [(.long p2), (.int bi), (.int kk), (.int mo), (.int lt), (.int (2 : Int32)), (.int (2 : Int32)), (.ref b106)])
    refine .st (fun _ => XS.lloadN X110.here hx rfl (hb hby at_108) rfl) ?_
    show OwnGoW p e below s Z own_EL _ _ _ T110 (mkF m 109 _ [(.long p3), (.long p2), (.int bi), (.int kk), (.int mo), (.int lt), (.int (2 : Int32)), (.int (2 : Int32)), (.ref b106)])
    obtain ⟨_, _, ⟨T111, L111, k111, n111⟩, -, X111, hS111, hg111, ⟨Lc111, hQ111, l111, y111, z111, CN111⟩, st111⟩ := callSS (s := s.setVm T109.vm) X110 hx (y := (⟨"com/example/mapweft/mapweft/OptionsIsVerbosePinLaw", "at", "(IZIIIJJ)C"⟩ : MethodName)) hown (mvT hZ (W_ hw 1 rfl)) (mvT hZ (W_ hw 2 rfl)) (mvT hZ (W_ hw 3 rfl)) (mvT hZ (W_ hw 4 rfl)) (by decide) (backOfSH (s := s) (vm0 := T109.vm) (W := 2) (rmat l Z a0 hw [] (2 : Int32) lt mo kk bi p2 p3 zc fmv h110 n0 Z_ O_ S_CS P_CS S_SF rf_fmv (by decide)) hZ (W_ hw 4 rfl) (W_ hw 3 rfl) (by decide) (by decide) (own_hEL hw) CR.1) (g := (mkF m 109 #[.val (.int p1), .val (.long p2), .second, .val (.long p3), .second, .val (.int nn), .val (.int lt), .val (.int mo), .val (.int kk), .val (.int bi), .val (.ref b106), .unset, .unset, .unset, .unset] [(.long p3), (.long p2), (.int bi), (.int kk), (.int mo), (.int lt), (.int (2 : Int32)), (.int (2 : Int32)), (.ref b106)])) rfl (by rw [hml]; rfl) (argsL := [(.int (2 : Int32)), (.int lt), (.int mo), (.int kk), (.int bi), (.long p2), (.long p3)]) (rest := [(.int (2 : Int32)), (.ref b106)]) (lenOf pd_8 rfl) rfl (Nat.le_of_eq rfl) (hb hby at_109) (fun _ _ => ⟨rfl, e110, (by decide : 5 + 2 ≤ _), (by decide : 90 + 40 ≤ _)⟩)
    dsimp only [Pt.U, Pt.locs, Pt.cells, Pt.slots] at X111 hS111 hg111 l111 y111 z111 CN111 st111 hQ111
    subst l111 y111 z111
    obtain ⟨X111, hS_, hZ, hown⟩ := rebS hS_ (show _ ≤ T110.heap.size by rw [(e110 : T110.heap = h110)]; exact hk_) X111 hS111 hg111 hZ hown
    obtain ⟨ch111, rfl, N111q, K111, hp_ch111⟩ := hQ111
    have N111 := Fr.app N110 N111q
    have lt_b106 : b106 < h110.size := V_b106.lt
    have Z_ : n0 ≤ T111.heap.size := Nat.le_trans Z_ K111.1
    have V_b106 := V_b106.keep K111 nin0
    have E_b106 := E_b106.keep K111
    have O_ := O_.keep K111 all0
    have sf_b106 := CN111.safe lt_b106 sf_b106
    have CR := CR.trans CN111
    have hk_ := Nat.le_refl T111.heap.size
    refine .st (fun _ => st111.trans) ?_
    show OwnGoW p e below s Z own_EL _ _ _ T111 (mkF m 112 _ [(.int ch111), (.int (2 : Int32)), (.ref b106)])
    obtain ⟨cl112, Ar112, q112, S112, N112, H112, G112⟩ := id V_b106
    have hin112 : ¬ ((2 : Int32) < 0 ∨ cl112.slots.size ≤ ((2 : Int32)).toNatClampNeg) := inb_of S112 ⟨by decide, by decide⟩
    obtain ⟨T112, h112, X112, e112, W112, st112⟩ := stC X111 hx hZ rfl Ar112 (j := (2 : Int32)) hin112 (g := (mkF m 112 #[.val (.int p1), .val (.long p2), .second, .val (.long p3), .second, .val (.int nn), .val (.int lt), .val (.int mo), .val (.int kk), .val (.int bi), .val (.ref b106), .unset, .unset, .unset, .unset] [(.int ch111), (.int (2 : Int32)), (.ref b106)])) rfl rfl (hb hby at_112)
    have V_b106 : Arv Z h112 b106 k106 .char (10 : Int32) [(.int ch107), (.int ch109), (.int (nar .char ch111)), (.int (0 : Int32)), (.int (0 : Int32)), (.int (0 : Int32)), (.int (0 : Int32)), (.int (0 : Int32)), (.int (0 : Int32)), (.int (0 : Int32))] (.int (0 : Int32)) := Arv.set Ar112 q112 S112 N112 H112 G112 (fits_nar_char _) W112 2 rfl (Nat.le_of_ble_eq_true rfl)
    rw [show nar .char ch111 = ch111 from (own_lnc hp_ch111)] at V_b106
    have E_b106 := E_b106.wr W112
    have O_ := O_.wr W112 g_b106
    have sf_ := sf_b106
    have CR0 := CR.1
    have CR := CR.trans (CHr.wr W112 sf_ CR.1)
    have sf_b106 := Safe.wr W112 sf_ CR0 sf_b106
    have hk_ := Nat.le_trans hk_ (Nat.le_of_eq W112.size.symm)
    have N112 := Fr.snoc X112 N111 g_b106
    have Z_ : n0 ≤ h112.size := by rw [W112.size]; exact Z_
    refine .st st112 ?_
    show OwnGoW p e below s Z own_EL _ _ _ T112 (mkF m 113 _ [])
    refine .aload X112 hx (hb hby at_113) rfl rfl ?_
    refine .iconst X112 hx (hb hby at_115) own_ki3 ?_
    refine .iconst X112 hx (hb hby at_116) own_ki3 ?_
    refine .iload X112 hx (hb hby at_117) rfl ?_
    refine .iload X112 hx (hb hby at_119) rfl ?_
    refine .iload X112 hx (hb hby at_121) rfl ?_
    refine .iload X112 hx (hb hby at_123) rfl ?_
    refine .st (fun _ => XS.lloadN X112.here hx rfl (hb hby at_125) rfl) ?_
    show OwnGoW p e below s Z own_EL _ _ _ T112 (mkF m 126 _ [(.long p2), (.int bi), (.int kk), (.int mo), (.int lt), (.int (3 : Int32)), (.int (3 : Int32)), (.ref b106)])
    refine .st (fun _ => XS.lloadN X112.here hx rfl (hb hby at_126) rfl) ?_
    show OwnGoW p e below s Z own_EL _ _ _ T112 (mkF m 127 _ [(.long p3), (.long p2), (.int bi), (.int kk), (.int mo), (.int lt), (.int (3 : Int32)), (.int (3 : Int32)), (.ref b106)])
    obtain ⟨_, _, ⟨T113, L113, k113, n113⟩, -, X113, hS113, hg113, ⟨Lc113, hQ113, l113, y113, z113, CN113⟩, st113⟩ := callSS (s := s.setVm T111.vm) X112 hx (y := (⟨"com/example/mapweft/mapweft/OptionsIsVerbosePinLaw", "at", "(IZIIIJJ)C"⟩ : MethodName)) hown (mvT hZ (W_ hw 1 rfl)) (mvT hZ (W_ hw 2 rfl)) (mvT hZ (W_ hw 3 rfl)) (mvT hZ (W_ hw 4 rfl)) (by decide) (backOfSH (s := s) (vm0 := T111.vm) (W := 2) (rmat l Z a0 hw [] (3 : Int32) lt mo kk bi p2 p3 zc fmv h112 n0 Z_ O_ S_CS P_CS S_SF rf_fmv (by decide)) hZ (W_ hw 4 rfl) (W_ hw 3 rfl) (by decide) (by decide) (own_hEL hw) CR.1) (g := (mkF m 127 #[.val (.int p1), .val (.long p2), .second, .val (.long p3), .second, .val (.int nn), .val (.int lt), .val (.int mo), .val (.int kk), .val (.int bi), .val (.ref b106), .unset, .unset, .unset, .unset] [(.long p3), (.long p2), (.int bi), (.int kk), (.int mo), (.int lt), (.int (3 : Int32)), (.int (3 : Int32)), (.ref b106)])) rfl (by rw [hml]; rfl) (argsL := [(.int (3 : Int32)), (.int lt), (.int mo), (.int kk), (.int bi), (.long p2), (.long p3)]) (rest := [(.int (3 : Int32)), (.ref b106)]) (lenOf pd_8 rfl) rfl (Nat.le_of_eq rfl) (hb hby at_127) (fun _ _ => ⟨rfl, e112, (by decide : 7 + 2 ≤ _), (by decide : 130 + 40 ≤ _)⟩)
    dsimp only [Pt.U, Pt.locs, Pt.cells, Pt.slots] at X113 hS113 hg113 l113 y113 z113 CN113 st113 hQ113
    subst l113 y113 z113
    obtain ⟨X113, hS_, hZ, hown⟩ := rebS hS_ (show _ ≤ T112.heap.size by rw [(e112 : T112.heap = h112)]; exact hk_) X113 hS113 hg113 hZ hown
    obtain ⟨ch113, rfl, N113q, K113, hp_ch113⟩ := hQ113
    have N113 := Fr.app N112 N113q
    have lt_b106 : b106 < h112.size := V_b106.lt
    have Z_ : n0 ≤ T113.heap.size := Nat.le_trans Z_ K113.1
    have V_b106 := V_b106.keep K113 nin0
    have E_b106 := E_b106.keep K113
    have O_ := O_.keep K113 all0
    have sf_b106 := CN113.safe lt_b106 sf_b106
    have CR := CR.trans CN113
    have hk_ := Nat.le_refl T113.heap.size
    refine .st (fun _ => st113.trans) ?_
    show OwnGoW p e below s Z own_EL _ _ _ T113 (mkF m 130 _ [(.int ch113), (.int (3 : Int32)), (.ref b106)])
    obtain ⟨cl114, Ar114, q114, S114, N114, H114, G114⟩ := id V_b106
    have hin114 : ¬ ((3 : Int32) < 0 ∨ cl114.slots.size ≤ ((3 : Int32)).toNatClampNeg) := inb_of S114 ⟨by decide, by decide⟩
    obtain ⟨T114, h114, X114, e114, W114, st114⟩ := stC X113 hx hZ rfl Ar114 (j := (3 : Int32)) hin114 (g := (mkF m 130 #[.val (.int p1), .val (.long p2), .second, .val (.long p3), .second, .val (.int nn), .val (.int lt), .val (.int mo), .val (.int kk), .val (.int bi), .val (.ref b106), .unset, .unset, .unset, .unset] [(.int ch113), (.int (3 : Int32)), (.ref b106)])) rfl rfl (hb hby at_130)
    have V_b106 : Arv Z h114 b106 k106 .char (10 : Int32) [(.int ch107), (.int ch109), (.int ch111), (.int (nar .char ch113)), (.int (0 : Int32)), (.int (0 : Int32)), (.int (0 : Int32)), (.int (0 : Int32)), (.int (0 : Int32)), (.int (0 : Int32))] (.int (0 : Int32)) := Arv.set Ar114 q114 S114 N114 H114 G114 (fits_nar_char _) W114 3 rfl (Nat.le_of_ble_eq_true rfl)
    rw [show nar .char ch113 = ch113 from (own_lnc hp_ch113)] at V_b106
    have E_b106 := E_b106.wr W114
    have O_ := O_.wr W114 g_b106
    have sf_ := sf_b106
    have CR0 := CR.1
    have CR := CR.trans (CHr.wr W114 sf_ CR.1)
    have sf_b106 := Safe.wr W114 sf_ CR0 sf_b106
    have hk_ := Nat.le_trans hk_ (Nat.le_of_eq W114.size.symm)
    have N114 := Fr.snoc X114 N113 g_b106
    have Z_ : n0 ≤ h114.size := by rw [W114.size]; exact Z_
    refine .st st114 ?_
    show OwnGoW p e below s Z own_EL _ _ _ T114 (mkF m 131 _ [])
    refine .aload X114 hx (hb hby at_131) rfl rfl ?_
    refine .iconst X114 hx (hb hby at_133) own_ki4 ?_
    refine .iconst X114 hx (hb hby at_134) own_ki4 ?_
    refine .iload X114 hx (hb hby at_135) rfl ?_
    refine .iload X114 hx (hb hby at_137) rfl ?_
    refine .iload X114 hx (hb hby at_139) rfl ?_
    refine .iload X114 hx (hb hby at_141) rfl ?_
    refine .st (fun _ => XS.lloadN X114.here hx rfl (hb hby at_143) rfl) ?_
    show OwnGoW p e below s Z own_EL _ _ _ T114 (mkF m 144 _ [(.long p2), (.int bi), (.int kk), (.int mo), (.int lt), (.int (4 : Int32)), (.int (4 : Int32)), (.ref b106)])
    refine .st (fun _ => XS.lloadN X114.here hx rfl (hb hby at_144) rfl) ?_
    show OwnGoW p e below s Z own_EL _ _ _ T114 (mkF m 145 _ [(.long p3), (.long p2), (.int bi), (.int kk), (.int mo), (.int lt), (.int (4 : Int32)), (.int (4 : Int32)), (.ref b106)])
    obtain ⟨_, _, ⟨T115, L115, k115, n115⟩, -, X115, hS115, hg115, ⟨Lc115, hQ115, l115, y115, z115, CN115⟩, st115⟩ := callSS (s := s.setVm T113.vm) X114 hx (y := (⟨"com/example/mapweft/mapweft/OptionsIsVerbosePinLaw", "at", "(IZIIIJJ)C"⟩ : MethodName)) hown (mvT hZ (W_ hw 1 rfl)) (mvT hZ (W_ hw 2 rfl)) (mvT hZ (W_ hw 3 rfl)) (mvT hZ (W_ hw 4 rfl)) (by decide) (backOfSH (s := s) (vm0 := T113.vm) (W := 2) (rmat l Z a0 hw [] (4 : Int32) lt mo kk bi p2 p3 zc fmv h114 n0 Z_ O_ S_CS P_CS S_SF rf_fmv (by decide)) hZ (W_ hw 4 rfl) (W_ hw 3 rfl) (by decide) (by decide) (own_hEL hw) CR.1) (g := (mkF m 145 #[.val (.int p1), .val (.long p2), .second, .val (.long p3), .second, .val (.int nn), .val (.int lt), .val (.int mo), .val (.int kk), .val (.int bi), .val (.ref b106), .unset, .unset, .unset, .unset] [(.long p3), (.long p2), (.int bi), (.int kk), (.int mo), (.int lt), (.int (4 : Int32)), (.int (4 : Int32)), (.ref b106)])) rfl (by rw [hml]; rfl) (argsL := [(.int (4 : Int32)), (.int lt), (.int mo), (.int kk), (.int bi), (.long p2), (.long p3)]) (rest := [(.int (4 : Int32)), (.ref b106)]) (lenOf pd_8 rfl) rfl (Nat.le_of_eq rfl) (hb hby at_145) (fun _ _ => ⟨rfl, e114, (by decide : 9 + 2 ≤ _), (by decide : 170 + 40 ≤ _)⟩)
    dsimp only [Pt.U, Pt.locs, Pt.cells, Pt.slots] at X115 hS115 hg115 l115 y115 z115 CN115 st115 hQ115
    subst l115 y115 z115
    obtain ⟨X115, hS_, hZ, hown⟩ := rebS hS_ (show _ ≤ T114.heap.size by rw [(e114 : T114.heap = h114)]; exact hk_) X115 hS115 hg115 hZ hown
    obtain ⟨ch115, rfl, N115q, K115, hp_ch115⟩ := hQ115
    have N115 := Fr.app N114 N115q
    have lt_b106 : b106 < h114.size := V_b106.lt
    have Z_ : n0 ≤ T115.heap.size := Nat.le_trans Z_ K115.1
    have V_b106 := V_b106.keep K115 nin0
    have E_b106 := E_b106.keep K115
    have O_ := O_.keep K115 all0
    have sf_b106 := CN115.safe lt_b106 sf_b106
    have CR := CR.trans CN115
    have hk_ := Nat.le_refl T115.heap.size
    refine .st (fun _ => st115.trans) ?_
    show OwnGoW p e below s Z own_EL _ _ _ T115 (mkF m 148 _ [(.int ch115), (.int (4 : Int32)), (.ref b106)])
    obtain ⟨cl116, Ar116, q116, S116, N116, H116, G116⟩ := id V_b106
    have hin116 : ¬ ((4 : Int32) < 0 ∨ cl116.slots.size ≤ ((4 : Int32)).toNatClampNeg) := inb_of S116 ⟨by decide, by decide⟩
    obtain ⟨T116, h116, X116, e116, W116, st116⟩ := stC X115 hx hZ rfl Ar116 (j := (4 : Int32)) hin116 (g := (mkF m 148 #[.val (.int p1), .val (.long p2), .second, .val (.long p3), .second, .val (.int nn), .val (.int lt), .val (.int mo), .val (.int kk), .val (.int bi), .val (.ref b106), .unset, .unset, .unset, .unset] [(.int ch115), (.int (4 : Int32)), (.ref b106)])) rfl rfl (hb hby at_148)
    have V_b106 : Arv Z h116 b106 k106 .char (10 : Int32) [(.int ch107), (.int ch109), (.int ch111), (.int ch113), (.int (nar .char ch115)), (.int (0 : Int32)), (.int (0 : Int32)), (.int (0 : Int32)), (.int (0 : Int32)), (.int (0 : Int32))] (.int (0 : Int32)) := Arv.set Ar116 q116 S116 N116 H116 G116 (fits_nar_char _) W116 4 rfl (Nat.le_of_ble_eq_true rfl)
    rw [show nar .char ch115 = ch115 from (own_lnc hp_ch115)] at V_b106
    have E_b106 := E_b106.wr W116
    have O_ := O_.wr W116 g_b106
    have sf_ := sf_b106
    have CR0 := CR.1
    have CR := CR.trans (CHr.wr W116 sf_ CR.1)
    have sf_b106 := Safe.wr W116 sf_ CR0 sf_b106
    have hk_ := Nat.le_trans hk_ (Nat.le_of_eq W116.size.symm)
    have N116 := Fr.snoc X116 N115 g_b106
    have Z_ : n0 ≤ h116.size := by rw [W116.size]; exact Z_
    refine .st st116 ?_
    show OwnGoW p e below s Z own_EL _ _ _ T116 (mkF m 149 _ [])
    refine .aload X116 hx (hb hby at_149) rfl rfl ?_
    refine .iconst X116 hx (hb hby at_151) own_ki5 ?_
    refine .iconst X116 hx (hb hby at_152) own_ki5 ?_
    refine .iload X116 hx (hb hby at_153) rfl ?_
    refine .iload X116 hx (hb hby at_155) rfl ?_
    refine .iload X116 hx (hb hby at_157) rfl ?_
    refine .iload X116 hx (hb hby at_159) rfl ?_
    refine .st (fun _ => XS.lloadN X116.here hx rfl (hb hby at_161) rfl) ?_
    show OwnGoW p e below s Z own_EL _ _ _ T116 (mkF m 162 _ [(.long p2), (.int bi), (.int kk), (.int mo), (.int lt), (.int (5 : Int32)), (.int (5 : Int32)), (.ref b106)])
    refine .st (fun _ => XS.lloadN X116.here hx rfl (hb hby at_162) rfl) ?_
    show OwnGoW p e below s Z own_EL _ _ _ T116 (mkF m 163 _ [(.long p3), (.long p2), (.int bi), (.int kk), (.int mo), (.int lt), (.int (5 : Int32)), (.int (5 : Int32)), (.ref b106)])
    obtain ⟨_, _, ⟨T117, L117, k117, n117⟩, -, X117, hS117, hg117, ⟨Lc117, hQ117, l117, y117, z117, CN117⟩, st117⟩ := callSS (s := s.setVm T115.vm) X116 hx (y := (⟨"com/example/mapweft/mapweft/OptionsIsVerbosePinLaw", "at", "(IZIIIJJ)C"⟩ : MethodName)) hown (mvT hZ (W_ hw 1 rfl)) (mvT hZ (W_ hw 2 rfl)) (mvT hZ (W_ hw 3 rfl)) (mvT hZ (W_ hw 4 rfl)) (by decide) (backOfSH (s := s) (vm0 := T115.vm) (W := 2) (rmat l Z a0 hw [] (5 : Int32) lt mo kk bi p2 p3 zc fmv h116 n0 Z_ O_ S_CS P_CS S_SF rf_fmv (by decide)) hZ (W_ hw 4 rfl) (W_ hw 3 rfl) (by decide) (by decide) (own_hEL hw) CR.1) (g := (mkF m 163 #[.val (.int p1), .val (.long p2), .second, .val (.long p3), .second, .val (.int nn), .val (.int lt), .val (.int mo), .val (.int kk), .val (.int bi), .val (.ref b106), .unset, .unset, .unset, .unset] [(.long p3), (.long p2), (.int bi), (.int kk), (.int mo), (.int lt), (.int (5 : Int32)), (.int (5 : Int32)), (.ref b106)])) rfl (by rw [hml]; rfl) (argsL := [(.int (5 : Int32)), (.int lt), (.int mo), (.int kk), (.int bi), (.long p2), (.long p3)]) (rest := [(.int (5 : Int32)), (.ref b106)]) (lenOf pd_8 rfl) rfl (Nat.le_of_eq rfl) (hb hby at_163) (fun _ _ => ⟨rfl, e116, (by decide : 11 + 2 ≤ _), (by decide : 210 + 40 ≤ _)⟩)
    dsimp only [Pt.U, Pt.locs, Pt.cells, Pt.slots] at X117 hS117 hg117 l117 y117 z117 CN117 st117 hQ117
    subst l117 y117 z117
    obtain ⟨X117, hS_, hZ, hown⟩ := rebS hS_ (show _ ≤ T116.heap.size by rw [(e116 : T116.heap = h116)]; exact hk_) X117 hS117 hg117 hZ hown
    obtain ⟨ch117, rfl, N117q, K117, hp_ch117⟩ := hQ117
    have N117 := Fr.app N116 N117q
    have lt_b106 : b106 < h116.size := V_b106.lt
    have Z_ : n0 ≤ T117.heap.size := Nat.le_trans Z_ K117.1
    have V_b106 := V_b106.keep K117 nin0
    have E_b106 := E_b106.keep K117
    have O_ := O_.keep K117 all0
    have sf_b106 := CN117.safe lt_b106 sf_b106
    have CR := CR.trans CN117
    have hk_ := Nat.le_refl T117.heap.size
    refine .st (fun _ => st117.trans) ?_
    show OwnGoW p e below s Z own_EL _ _ _ T117 (mkF m 166 _ [(.int ch117), (.int (5 : Int32)), (.ref b106)])
    obtain ⟨cl118, Ar118, q118, S118, N118, H118, G118⟩ := id V_b106
    have hin118 : ¬ ((5 : Int32) < 0 ∨ cl118.slots.size ≤ ((5 : Int32)).toNatClampNeg) := inb_of S118 ⟨by decide, by decide⟩
    obtain ⟨T118, h118, X118, e118, W118, st118⟩ := stC X117 hx hZ rfl Ar118 (j := (5 : Int32)) hin118 (g := (mkF m 166 #[.val (.int p1), .val (.long p2), .second, .val (.long p3), .second, .val (.int nn), .val (.int lt), .val (.int mo), .val (.int kk), .val (.int bi), .val (.ref b106), .unset, .unset, .unset, .unset] [(.int ch117), (.int (5 : Int32)), (.ref b106)])) rfl rfl (hb hby at_166)
    have V_b106 : Arv Z h118 b106 k106 .char (10 : Int32) [(.int ch107), (.int ch109), (.int ch111), (.int ch113), (.int ch115), (.int (nar .char ch117)), (.int (0 : Int32)), (.int (0 : Int32)), (.int (0 : Int32)), (.int (0 : Int32))] (.int (0 : Int32)) := Arv.set Ar118 q118 S118 N118 H118 G118 (fits_nar_char _) W118 5 rfl (Nat.le_of_ble_eq_true rfl)
    rw [show nar .char ch117 = ch117 from (own_lnc hp_ch117)] at V_b106
    have E_b106 := E_b106.wr W118
    have O_ := O_.wr W118 g_b106
    have sf_ := sf_b106
    have CR0 := CR.1
    have CR := CR.trans (CHr.wr W118 sf_ CR.1)
    have sf_b106 := Safe.wr W118 sf_ CR0 sf_b106
    have hk_ := Nat.le_trans hk_ (Nat.le_of_eq W118.size.symm)
    have N118 := Fr.snoc X118 N117 g_b106
    have Z_ : n0 ≤ h118.size := by rw [W118.size]; exact Z_
    refine .st st118 ?_
    show OwnGoW p e below s Z own_EL _ _ _ T118 (mkF m 167 _ [])
    refine .aload X118 hx (hb hby at_167) rfl rfl ?_
    refine .bipush X118 hx (hb hby at_169) own_kb6 ?_
    refine .bipush X118 hx (hb hby at_171) own_kb6 ?_
    refine .iload X118 hx (hb hby at_173) rfl ?_
    refine .iload X118 hx (hb hby at_175) rfl ?_
    refine .iload X118 hx (hb hby at_177) rfl ?_
    refine .iload X118 hx (hb hby at_179) rfl ?_
    refine .st (fun _ => XS.lloadN X118.here hx rfl (hb hby at_181) rfl) ?_
    show OwnGoW p e below s Z own_EL _ _ _ T118 (mkF m 182 _ [(.long p2), (.int bi), (.int kk), (.int mo), (.int lt), (.int (6 : Int32)), (.int (6 : Int32)), (.ref b106)])
    refine .st (fun _ => XS.lloadN X118.here hx rfl (hb hby at_182) rfl) ?_
    show OwnGoW p e below s Z own_EL _ _ _ T118 (mkF m 183 _ [(.long p3), (.long p2), (.int bi), (.int kk), (.int mo), (.int lt), (.int (6 : Int32)), (.int (6 : Int32)), (.ref b106)])
    obtain ⟨_, _, ⟨T119, L119, k119, n119⟩, -, X119, hS119, hg119, ⟨Lc119, hQ119, l119, y119, z119, CN119⟩, st119⟩ := callSS (s := s.setVm T117.vm) X118 hx (y := (⟨"com/example/mapweft/mapweft/OptionsIsVerbosePinLaw", "at", "(IZIIIJJ)C"⟩ : MethodName)) hown (mvT hZ (W_ hw 1 rfl)) (mvT hZ (W_ hw 2 rfl)) (mvT hZ (W_ hw 3 rfl)) (mvT hZ (W_ hw 4 rfl)) (by decide) (backOfSH (s := s) (vm0 := T117.vm) (W := 2) (rmat l Z a0 hw [] (6 : Int32) lt mo kk bi p2 p3 zc fmv h118 n0 Z_ O_ S_CS P_CS S_SF rf_fmv (by decide)) hZ (W_ hw 4 rfl) (W_ hw 3 rfl) (by decide) (by decide) (own_hEL hw) CR.1) (g := (mkF m 183 #[.val (.int p1), .val (.long p2), .second, .val (.long p3), .second, .val (.int nn), .val (.int lt), .val (.int mo), .val (.int kk), .val (.int bi), .val (.ref b106), .unset, .unset, .unset, .unset] [(.long p3), (.long p2), (.int bi), (.int kk), (.int mo), (.int lt), (.int (6 : Int32)), (.int (6 : Int32)), (.ref b106)])) rfl (by rw [hml]; rfl) (argsL := [(.int (6 : Int32)), (.int lt), (.int mo), (.int kk), (.int bi), (.long p2), (.long p3)]) (rest := [(.int (6 : Int32)), (.ref b106)]) (lenOf pd_8 rfl) rfl (Nat.le_of_eq rfl) (hb hby at_183) (fun _ _ => ⟨rfl, e118, (by decide : 13 + 2 ≤ _), (by decide : 250 + 40 ≤ _)⟩)
    dsimp only [Pt.U, Pt.locs, Pt.cells, Pt.slots] at X119 hS119 hg119 l119 y119 z119 CN119 st119 hQ119
    subst l119 y119 z119
    obtain ⟨X119, hS_, hZ, hown⟩ := rebS hS_ (show _ ≤ T118.heap.size by rw [(e118 : T118.heap = h118)]; exact hk_) X119 hS119 hg119 hZ hown
    obtain ⟨ch119, rfl, N119q, K119, hp_ch119⟩ := hQ119
    have N119 := Fr.app N118 N119q
    have lt_b106 : b106 < h118.size := V_b106.lt
    have Z_ : n0 ≤ T119.heap.size := Nat.le_trans Z_ K119.1
    have V_b106 := V_b106.keep K119 nin0
    have E_b106 := E_b106.keep K119
    have O_ := O_.keep K119 all0
    have sf_b106 := CN119.safe lt_b106 sf_b106
    have CR := CR.trans CN119
    have hk_ := Nat.le_refl T119.heap.size
    refine .st (fun _ => st119.trans) ?_
    show OwnGoW p e below s Z own_EL _ _ _ T119 (mkF m 186 _ [(.int ch119), (.int (6 : Int32)), (.ref b106)])
    obtain ⟨cl120, Ar120, q120, S120, N120, H120, G120⟩ := id V_b106
    have hin120 : ¬ ((6 : Int32) < 0 ∨ cl120.slots.size ≤ ((6 : Int32)).toNatClampNeg) := inb_of S120 ⟨by decide, by decide⟩
    obtain ⟨T120, h120, X120, e120, W120, st120⟩ := stC X119 hx hZ rfl Ar120 (j := (6 : Int32)) hin120 (g := (mkF m 186 #[.val (.int p1), .val (.long p2), .second, .val (.long p3), .second, .val (.int nn), .val (.int lt), .val (.int mo), .val (.int kk), .val (.int bi), .val (.ref b106), .unset, .unset, .unset, .unset] [(.int ch119), (.int (6 : Int32)), (.ref b106)])) rfl rfl (hb hby at_186)
    have V_b106 : Arv Z h120 b106 k106 .char (10 : Int32) [(.int ch107), (.int ch109), (.int ch111), (.int ch113), (.int ch115), (.int ch117), (.int (nar .char ch119)), (.int (0 : Int32)), (.int (0 : Int32)), (.int (0 : Int32))] (.int (0 : Int32)) := Arv.set Ar120 q120 S120 N120 H120 G120 (fits_nar_char _) W120 6 rfl (Nat.le_of_ble_eq_true rfl)
    rw [show nar .char ch119 = ch119 from (own_lnc hp_ch119)] at V_b106
    have E_b106 := E_b106.wr W120
    have O_ := O_.wr W120 g_b106
    have sf_ := sf_b106
    have CR0 := CR.1
    have CR := CR.trans (CHr.wr W120 sf_ CR.1)
    have sf_b106 := Safe.wr W120 sf_ CR0 sf_b106
    have hk_ := Nat.le_trans hk_ (Nat.le_of_eq W120.size.symm)
    have N120 := Fr.snoc X120 N119 g_b106
    have Z_ : n0 ≤ h120.size := by rw [W120.size]; exact Z_
    refine .st st120 ?_
    show OwnGoW p e below s Z own_EL _ _ _ T120 (mkF m 187 _ [])
    refine .aload X120 hx (hb hby at_187) rfl rfl ?_
    refine .bipush X120 hx (hb hby at_189) own_kb7 ?_
    refine .bipush X120 hx (hb hby at_191) own_kb7 ?_
    refine .iload X120 hx (hb hby at_193) rfl ?_
    refine .iload X120 hx (hb hby at_195) rfl ?_
    refine .iload X120 hx (hb hby at_197) rfl ?_
    refine .iload X120 hx (hb hby at_199) rfl ?_
    refine .st (fun _ => XS.lloadN X120.here hx rfl (hb hby at_201) rfl) ?_
    show OwnGoW p e below s Z own_EL _ _ _ T120 (mkF m 202 _ [(.long p2), (.int bi), (.int kk), (.int mo), (.int lt), (.int (7 : Int32)), (.int (7 : Int32)), (.ref b106)])
    refine .st (fun _ => XS.lloadN X120.here hx rfl (hb hby at_202) rfl) ?_
    show OwnGoW p e below s Z own_EL _ _ _ T120 (mkF m 203 _ [(.long p3), (.long p2), (.int bi), (.int kk), (.int mo), (.int lt), (.int (7 : Int32)), (.int (7 : Int32)), (.ref b106)])
    obtain ⟨_, _, ⟨T121, L121, k121, n121⟩, -, X121, hS121, hg121, ⟨Lc121, hQ121, l121, y121, z121, CN121⟩, st121⟩ := callSS (s := s.setVm T119.vm) X120 hx (y := (⟨"com/example/mapweft/mapweft/OptionsIsVerbosePinLaw", "at", "(IZIIIJJ)C"⟩ : MethodName)) hown (mvT hZ (W_ hw 1 rfl)) (mvT hZ (W_ hw 2 rfl)) (mvT hZ (W_ hw 3 rfl)) (mvT hZ (W_ hw 4 rfl)) (by decide) (backOfSH (s := s) (vm0 := T119.vm) (W := 2) (rmat l Z a0 hw [] (7 : Int32) lt mo kk bi p2 p3 zc fmv h120 n0 Z_ O_ S_CS P_CS S_SF rf_fmv (by decide)) hZ (W_ hw 4 rfl) (W_ hw 3 rfl) (by decide) (by decide) (own_hEL hw) CR.1) (g := (mkF m 203 #[.val (.int p1), .val (.long p2), .second, .val (.long p3), .second, .val (.int nn), .val (.int lt), .val (.int mo), .val (.int kk), .val (.int bi), .val (.ref b106), .unset, .unset, .unset, .unset] [(.long p3), (.long p2), (.int bi), (.int kk), (.int mo), (.int lt), (.int (7 : Int32)), (.int (7 : Int32)), (.ref b106)])) rfl (by rw [hml]; rfl) (argsL := [(.int (7 : Int32)), (.int lt), (.int mo), (.int kk), (.int bi), (.long p2), (.long p3)]) (rest := [(.int (7 : Int32)), (.ref b106)]) (lenOf pd_8 rfl) rfl (Nat.le_of_eq rfl) (hb hby at_203) (fun _ _ => ⟨rfl, e120, (by decide : 15 + 2 ≤ _), (by decide : 290 + 40 ≤ _)⟩)
    dsimp only [Pt.U, Pt.locs, Pt.cells, Pt.slots] at X121 hS121 hg121 l121 y121 z121 CN121 st121 hQ121
    subst l121 y121 z121
    obtain ⟨X121, hS_, hZ, hown⟩ := rebS hS_ (show _ ≤ T120.heap.size by rw [(e120 : T120.heap = h120)]; exact hk_) X121 hS121 hg121 hZ hown
    obtain ⟨ch121, rfl, N121q, K121, hp_ch121⟩ := hQ121
    have N121 := Fr.app N120 N121q
    have lt_b106 : b106 < h120.size := V_b106.lt
    have Z_ : n0 ≤ T121.heap.size := Nat.le_trans Z_ K121.1
    have V_b106 := V_b106.keep K121 nin0
    have E_b106 := E_b106.keep K121
    have O_ := O_.keep K121 all0
    have sf_b106 := CN121.safe lt_b106 sf_b106
    have CR := CR.trans CN121
    have hk_ := Nat.le_refl T121.heap.size
    refine .st (fun _ => st121.trans) ?_
    show OwnGoW p e below s Z own_EL _ _ _ T121 (mkF m 206 _ [(.int ch121), (.int (7 : Int32)), (.ref b106)])
    obtain ⟨cl122, Ar122, q122, S122, N122, H122, G122⟩ := id V_b106
    have hin122 : ¬ ((7 : Int32) < 0 ∨ cl122.slots.size ≤ ((7 : Int32)).toNatClampNeg) := inb_of S122 ⟨by decide, by decide⟩
    obtain ⟨T122, h122, X122, e122, W122, st122⟩ := stC X121 hx hZ rfl Ar122 (j := (7 : Int32)) hin122 (g := (mkF m 206 #[.val (.int p1), .val (.long p2), .second, .val (.long p3), .second, .val (.int nn), .val (.int lt), .val (.int mo), .val (.int kk), .val (.int bi), .val (.ref b106), .unset, .unset, .unset, .unset] [(.int ch121), (.int (7 : Int32)), (.ref b106)])) rfl rfl (hb hby at_206)
    have V_b106 : Arv Z h122 b106 k106 .char (10 : Int32) [(.int ch107), (.int ch109), (.int ch111), (.int ch113), (.int ch115), (.int ch117), (.int ch119), (.int (nar .char ch121)), (.int (0 : Int32)), (.int (0 : Int32))] (.int (0 : Int32)) := Arv.set Ar122 q122 S122 N122 H122 G122 (fits_nar_char _) W122 7 rfl (Nat.le_of_ble_eq_true rfl)
    rw [show nar .char ch121 = ch121 from (own_lnc hp_ch121)] at V_b106
    have E_b106 := E_b106.wr W122
    have O_ := O_.wr W122 g_b106
    have sf_ := sf_b106
    have CR0 := CR.1
    have CR := CR.trans (CHr.wr W122 sf_ CR.1)
    have sf_b106 := Safe.wr W122 sf_ CR0 sf_b106
    have hk_ := Nat.le_trans hk_ (Nat.le_of_eq W122.size.symm)
    have N122 := Fr.snoc X122 N121 g_b106
    have Z_ : n0 ≤ h122.size := by rw [W122.size]; exact Z_
    refine .st st122 ?_
    show OwnGoW p e below s Z own_EL _ _ _ T122 (mkF m 207 _ [])
    refine .aload X122 hx (hb hby at_207) rfl rfl ?_
    refine .bipush X122 hx (hb hby at_209) own_kb8 ?_
    refine .bipush X122 hx (hb hby at_211) own_kb8 ?_
    refine .iload X122 hx (hb hby at_213) rfl ?_
    refine .iload X122 hx (hb hby at_215) rfl ?_
    refine .iload X122 hx (hb hby at_217) rfl ?_
    refine .iload X122 hx (hb hby at_219) rfl ?_
    refine .st (fun _ => XS.lloadN X122.here hx rfl (hb hby at_221) rfl) ?_
    show OwnGoW p e below s Z own_EL _ _ _ T122 (mkF m 222 _ [(.long p2), (.int bi), (.int kk), (.int mo), (.int lt), (.int (8 : Int32)), (.int (8 : Int32)), (.ref b106)])
    refine .st (fun _ => XS.lloadN X122.here hx rfl (hb hby at_222) rfl) ?_
    show OwnGoW p e below s Z own_EL _ _ _ T122 (mkF m 223 _ [(.long p3), (.long p2), (.int bi), (.int kk), (.int mo), (.int lt), (.int (8 : Int32)), (.int (8 : Int32)), (.ref b106)])
    obtain ⟨_, _, ⟨T123, L123, k123, n123⟩, -, X123, hS123, hg123, ⟨Lc123, hQ123, l123, y123, z123, CN123⟩, st123⟩ := callSS (s := s.setVm T121.vm) X122 hx (y := (⟨"com/example/mapweft/mapweft/OptionsIsVerbosePinLaw", "at", "(IZIIIJJ)C"⟩ : MethodName)) hown (mvT hZ (W_ hw 1 rfl)) (mvT hZ (W_ hw 2 rfl)) (mvT hZ (W_ hw 3 rfl)) (mvT hZ (W_ hw 4 rfl)) (by decide) (backOfSH (s := s) (vm0 := T121.vm) (W := 2) (rmat l Z a0 hw [] (8 : Int32) lt mo kk bi p2 p3 zc fmv h122 n0 Z_ O_ S_CS P_CS S_SF rf_fmv (by decide)) hZ (W_ hw 4 rfl) (W_ hw 3 rfl) (by decide) (by decide) (own_hEL hw) CR.1) (g := (mkF m 223 #[.val (.int p1), .val (.long p2), .second, .val (.long p3), .second, .val (.int nn), .val (.int lt), .val (.int mo), .val (.int kk), .val (.int bi), .val (.ref b106), .unset, .unset, .unset, .unset] [(.long p3), (.long p2), (.int bi), (.int kk), (.int mo), (.int lt), (.int (8 : Int32)), (.int (8 : Int32)), (.ref b106)])) rfl (by rw [hml]; rfl) (argsL := [(.int (8 : Int32)), (.int lt), (.int mo), (.int kk), (.int bi), (.long p2), (.long p3)]) (rest := [(.int (8 : Int32)), (.ref b106)]) (lenOf pd_8 rfl) rfl (Nat.le_of_eq rfl) (hb hby at_223) (fun _ _ => ⟨rfl, e122, (by decide : 17 + 2 ≤ _), (by decide : 330 + 40 ≤ _)⟩)
    dsimp only [Pt.U, Pt.locs, Pt.cells, Pt.slots] at X123 hS123 hg123 l123 y123 z123 CN123 st123 hQ123
    subst l123 y123 z123
    obtain ⟨X123, hS_, hZ, hown⟩ := rebS hS_ (show _ ≤ T122.heap.size by rw [(e122 : T122.heap = h122)]; exact hk_) X123 hS123 hg123 hZ hown
    obtain ⟨ch123, rfl, N123q, K123, hp_ch123⟩ := hQ123
    have N123 := Fr.app N122 N123q
    have lt_b106 : b106 < h122.size := V_b106.lt
    have Z_ : n0 ≤ T123.heap.size := Nat.le_trans Z_ K123.1
    have V_b106 := V_b106.keep K123 nin0
    have E_b106 := E_b106.keep K123
    have O_ := O_.keep K123 all0
    have sf_b106 := CN123.safe lt_b106 sf_b106
    have CR := CR.trans CN123
    have hk_ := Nat.le_refl T123.heap.size
    refine .st (fun _ => st123.trans) ?_
    show OwnGoW p e below s Z own_EL _ _ _ T123 (mkF m 226 _ [(.int ch123), (.int (8 : Int32)), (.ref b106)])
    obtain ⟨cl124, Ar124, q124, S124, N124, H124, G124⟩ := id V_b106
    have hin124 : ¬ ((8 : Int32) < 0 ∨ cl124.slots.size ≤ ((8 : Int32)).toNatClampNeg) := inb_of S124 ⟨by decide, by decide⟩
    obtain ⟨T124, h124, X124, e124, W124, st124⟩ := stC X123 hx hZ rfl Ar124 (j := (8 : Int32)) hin124 (g := (mkF m 226 #[.val (.int p1), .val (.long p2), .second, .val (.long p3), .second, .val (.int nn), .val (.int lt), .val (.int mo), .val (.int kk), .val (.int bi), .val (.ref b106), .unset, .unset, .unset, .unset] [(.int ch123), (.int (8 : Int32)), (.ref b106)])) rfl rfl (hb hby at_226)
    have V_b106 : Arv Z h124 b106 k106 .char (10 : Int32) [(.int ch107), (.int ch109), (.int ch111), (.int ch113), (.int ch115), (.int ch117), (.int ch119), (.int ch121), (.int (nar .char ch123)), (.int (0 : Int32))] (.int (0 : Int32)) := Arv.set Ar124 q124 S124 N124 H124 G124 (fits_nar_char _) W124 8 rfl (Nat.le_of_ble_eq_true rfl)
    rw [show nar .char ch123 = ch123 from (own_lnc hp_ch123)] at V_b106
    have E_b106 := E_b106.wr W124
    have O_ := O_.wr W124 g_b106
    have sf_ := sf_b106
    have CR0 := CR.1
    have CR := CR.trans (CHr.wr W124 sf_ CR.1)
    have sf_b106 := Safe.wr W124 sf_ CR0 sf_b106
    have hk_ := Nat.le_trans hk_ (Nat.le_of_eq W124.size.symm)
    have N124 := Fr.snoc X124 N123 g_b106
    have Z_ : n0 ≤ h124.size := by rw [W124.size]; exact Z_
    refine .st st124 ?_
    show OwnGoW p e below s Z own_EL _ _ _ T124 (mkF m 227 _ [])
    refine .aload X124 hx (hb hby at_227) rfl rfl ?_
    refine .bipush X124 hx (hb hby at_229) own_kb9 ?_
    refine .bipush X124 hx (hb hby at_231) own_kb9 ?_
    refine .iload X124 hx (hb hby at_233) rfl ?_
    refine .iload X124 hx (hb hby at_235) rfl ?_
    refine .iload X124 hx (hb hby at_237) rfl ?_
    refine .iload X124 hx (hb hby at_239) rfl ?_
    refine .st (fun _ => XS.lloadN X124.here hx rfl (hb hby at_241) rfl) ?_
    show OwnGoW p e below s Z own_EL _ _ _ T124 (mkF m 242 _ [(.long p2), (.int bi), (.int kk), (.int mo), (.int lt), (.int (9 : Int32)), (.int (9 : Int32)), (.ref b106)])
    refine .st (fun _ => XS.lloadN X124.here hx rfl (hb hby at_242) rfl) ?_
    show OwnGoW p e below s Z own_EL _ _ _ T124 (mkF m 243 _ [(.long p3), (.long p2), (.int bi), (.int kk), (.int mo), (.int lt), (.int (9 : Int32)), (.int (9 : Int32)), (.ref b106)])
    obtain ⟨_, _, ⟨T125, L125, k125, n125⟩, -, X125, hS125, hg125, ⟨Lc125, hQ125, l125, y125, z125, CN125⟩, st125⟩ := callSS (s := s.setVm T123.vm) X124 hx (y := (⟨"com/example/mapweft/mapweft/OptionsIsVerbosePinLaw", "at", "(IZIIIJJ)C"⟩ : MethodName)) hown (mvT hZ (W_ hw 1 rfl)) (mvT hZ (W_ hw 2 rfl)) (mvT hZ (W_ hw 3 rfl)) (mvT hZ (W_ hw 4 rfl)) (by decide) (backOfSH (s := s) (vm0 := T123.vm) (W := 2) (rmat l Z a0 hw [] (9 : Int32) lt mo kk bi p2 p3 zc fmv h124 n0 Z_ O_ S_CS P_CS S_SF rf_fmv (by decide)) hZ (W_ hw 4 rfl) (W_ hw 3 rfl) (by decide) (by decide) (own_hEL hw) CR.1) (g := (mkF m 243 #[.val (.int p1), .val (.long p2), .second, .val (.long p3), .second, .val (.int nn), .val (.int lt), .val (.int mo), .val (.int kk), .val (.int bi), .val (.ref b106), .unset, .unset, .unset, .unset] [(.long p3), (.long p2), (.int bi), (.int kk), (.int mo), (.int lt), (.int (9 : Int32)), (.int (9 : Int32)), (.ref b106)])) rfl (by rw [hml]; rfl) (argsL := [(.int (9 : Int32)), (.int lt), (.int mo), (.int kk), (.int bi), (.long p2), (.long p3)]) (rest := [(.int (9 : Int32)), (.ref b106)]) (lenOf pd_8 rfl) rfl (Nat.le_of_eq rfl) (hb hby at_243) (fun _ _ => ⟨rfl, e124, (by decide : 19 + 2 ≤ _), (by decide : 370 + 40 ≤ _)⟩)
    dsimp only [Pt.U, Pt.locs, Pt.cells, Pt.slots] at X125 hS125 hg125 l125 y125 z125 CN125 st125 hQ125
    subst l125 y125 z125
    obtain ⟨X125, hS_, hZ, hown⟩ := rebS hS_ (show _ ≤ T124.heap.size by rw [(e124 : T124.heap = h124)]; exact hk_) X125 hS125 hg125 hZ hown
    obtain ⟨ch125, rfl, N125q, K125, hp_ch125⟩ := hQ125
    have N125 := Fr.app N124 N125q
    have lt_b106 : b106 < h124.size := V_b106.lt
    have Z_ : n0 ≤ T125.heap.size := Nat.le_trans Z_ K125.1
    have V_b106 := V_b106.keep K125 nin0
    have E_b106 := E_b106.keep K125
    have O_ := O_.keep K125 all0
    have sf_b106 := CN125.safe lt_b106 sf_b106
    have CR := CR.trans CN125
    have hk_ := Nat.le_refl T125.heap.size
    refine .st (fun _ => st125.trans) ?_
    show OwnGoW p e below s Z own_EL _ _ _ T125 (mkF m 246 _ [(.int ch125), (.int (9 : Int32)), (.ref b106)])
    obtain ⟨cl126, Ar126, q126, S126, N126, H126, G126⟩ := id V_b106
    have hin126 : ¬ ((9 : Int32) < 0 ∨ cl126.slots.size ≤ ((9 : Int32)).toNatClampNeg) := inb_of S126 ⟨by decide, by decide⟩
    obtain ⟨T126, h126, X126, e126, W126, st126⟩ := stC X125 hx hZ rfl Ar126 (j := (9 : Int32)) hin126 (g := (mkF m 246 #[.val (.int p1), .val (.long p2), .second, .val (.long p3), .second, .val (.int nn), .val (.int lt), .val (.int mo), .val (.int kk), .val (.int bi), .val (.ref b106), .unset, .unset, .unset, .unset] [(.int ch125), (.int (9 : Int32)), (.ref b106)])) rfl rfl (hb hby at_246)
    have V_b106 : Arv Z h126 b106 k106 .char (10 : Int32) [(.int ch107), (.int ch109), (.int ch111), (.int ch113), (.int ch115), (.int ch117), (.int ch119), (.int ch121), (.int ch123), (.int (nar .char ch125))] (.int (0 : Int32)) := Arv.set Ar126 q126 S126 N126 H126 G126 (fits_nar_char _) W126 9 rfl (Nat.le_of_ble_eq_true rfl)
    rw [show nar .char ch125 = ch125 from (own_lnc hp_ch125)] at V_b106
    have E_b106 := E_b106.wr W126
    have O_ := O_.wr W126 g_b106
    have sf_ := sf_b106
    have CR0 := CR.1
    have CR := CR.trans (CHr.wr W126 sf_ CR.1)
    have sf_b106 := Safe.wr W126 sf_ CR0 sf_b106
    have hk_ := Nat.le_trans hk_ (Nat.le_of_eq W126.size.symm)
    have N126 := Fr.snoc X126 N125 g_b106
    have Z_ : n0 ≤ h126.size := by rw [W126.size]; exact Z_
    refine .st st126 ?_
    show OwnGoW p e below s Z own_EL _ _ _ T126 (mkF m 247 _ [])
    rcases own_m11 p1 _ hnn with rfl | rfl | rfl | rfl | rfl | rfl | rfl | rfl | rfl | rfl | rfl
    · show OwnGoW p e below s Z own_EL _ _ _ T126 (mkF m 247 #[.val (.int p1), .val (.long p2), .second, .val (.long p3), .second, .val (.int (0 : Int32)), .val (.int lt), .val (.int mo), .val (.int kk), .val (.int bi), .val (.ref b106), .unset, .unset, .unset, .unset] [])
      exact sg0 p1 p2 p3 zc fmv lt mo kk bi ch107 ch109 ch111 ch113 ch115 ch117 ch119 ch121 ch123 ch125 b106 k106 h0 n0 hw X126 hx hby hml hret hlk hown hnm hZ e126 N126 Z_ hS_ hk_ CR S_CS P_CS S_SF rf_fmv V_b106 E_b106 sf_b106 O_ g_b106 hp_ch107 hp_ch109 hp_ch111 hp_ch113 hp_ch115 hp_ch117 hp_ch119 hp_ch121 hp_ch123 hp_ch125
    · show OwnGoW p e below s Z own_EL _ _ _ T126 (mkF m 247 #[.val (.int p1), .val (.long p2), .second, .val (.long p3), .second, .val (.int (1 : Int32)), .val (.int lt), .val (.int mo), .val (.int kk), .val (.int bi), .val (.ref b106), .unset, .unset, .unset, .unset] [])
      exact sg1 p1 p2 p3 zc fmv lt mo kk bi ch107 ch109 ch111 ch113 ch115 ch117 ch119 ch121 ch123 ch125 b106 k106 h0 n0 hw X126 hx hby hml hret hlk hown hnm hZ e126 N126 Z_ hS_ hk_ CR S_CS P_CS S_SF rf_fmv V_b106 E_b106 sf_b106 O_ g_b106 hp_ch107 hp_ch109 hp_ch111 hp_ch113 hp_ch115 hp_ch117 hp_ch119 hp_ch121 hp_ch123 hp_ch125
    · show OwnGoW p e below s Z own_EL _ _ _ T126 (mkF m 247 #[.val (.int p1), .val (.long p2), .second, .val (.long p3), .second, .val (.int (2 : Int32)), .val (.int lt), .val (.int mo), .val (.int kk), .val (.int bi), .val (.ref b106), .unset, .unset, .unset, .unset] [])
      exact sg2 p1 p2 p3 zc fmv lt mo kk bi ch107 ch109 ch111 ch113 ch115 ch117 ch119 ch121 ch123 ch125 b106 k106 h0 n0 hw X126 hx hby hml hret hlk hown hnm hZ e126 N126 Z_ hS_ hk_ CR S_CS P_CS S_SF rf_fmv V_b106 E_b106 sf_b106 O_ g_b106 hp_ch107 hp_ch109 hp_ch111 hp_ch113 hp_ch115 hp_ch117 hp_ch119 hp_ch121 hp_ch123 hp_ch125
    · show OwnGoW p e below s Z own_EL _ _ _ T126 (mkF m 247 #[.val (.int p1), .val (.long p2), .second, .val (.long p3), .second, .val (.int (3 : Int32)), .val (.int lt), .val (.int mo), .val (.int kk), .val (.int bi), .val (.ref b106), .unset, .unset, .unset, .unset] [])
      exact sg3 p1 p2 p3 zc fmv lt mo kk bi ch107 ch109 ch111 ch113 ch115 ch117 ch119 ch121 ch123 ch125 b106 k106 h0 n0 hw X126 hx hby hml hret hlk hown hnm hZ e126 N126 Z_ hS_ hk_ CR S_CS P_CS S_SF rf_fmv V_b106 E_b106 sf_b106 O_ g_b106 hp_ch107 hp_ch109 hp_ch111 hp_ch113 hp_ch115 hp_ch117 hp_ch119 hp_ch121 hp_ch123 hp_ch125
    · show OwnGoW p e below s Z own_EL _ _ _ T126 (mkF m 247 #[.val (.int p1), .val (.long p2), .second, .val (.long p3), .second, .val (.int (4 : Int32)), .val (.int lt), .val (.int mo), .val (.int kk), .val (.int bi), .val (.ref b106), .unset, .unset, .unset, .unset] [])
      exact sg4 p1 p2 p3 zc fmv lt mo kk bi ch107 ch109 ch111 ch113 ch115 ch117 ch119 ch121 ch123 ch125 b106 k106 h0 n0 hw X126 hx hby hml hret hlk hown hnm hZ e126 N126 Z_ hS_ hk_ CR S_CS P_CS S_SF rf_fmv V_b106 E_b106 sf_b106 O_ g_b106 hp_ch107 hp_ch109 hp_ch111 hp_ch113 hp_ch115 hp_ch117 hp_ch119 hp_ch121 hp_ch123 hp_ch125
    · show OwnGoW p e below s Z own_EL _ _ _ T126 (mkF m 247 #[.val (.int p1), .val (.long p2), .second, .val (.long p3), .second, .val (.int (5 : Int32)), .val (.int lt), .val (.int mo), .val (.int kk), .val (.int bi), .val (.ref b106), .unset, .unset, .unset, .unset] [])
      exact sg5 p1 p2 p3 zc fmv lt mo kk bi ch107 ch109 ch111 ch113 ch115 ch117 ch119 ch121 ch123 ch125 b106 k106 h0 n0 hw X126 hx hby hml hret hlk hown hnm hZ e126 N126 Z_ hS_ hk_ CR S_CS P_CS S_SF rf_fmv V_b106 E_b106 sf_b106 O_ g_b106 hp_ch107 hp_ch109 hp_ch111 hp_ch113 hp_ch115 hp_ch117 hp_ch119 hp_ch121 hp_ch123 hp_ch125
    · show OwnGoW p e below s Z own_EL _ _ _ T126 (mkF m 247 #[.val (.int p1), .val (.long p2), .second, .val (.long p3), .second, .val (.int (6 : Int32)), .val (.int lt), .val (.int mo), .val (.int kk), .val (.int bi), .val (.ref b106), .unset, .unset, .unset, .unset] [])
      exact sg6 p1 p2 p3 zc fmv lt mo kk bi ch107 ch109 ch111 ch113 ch115 ch117 ch119 ch121 ch123 ch125 b106 k106 h0 n0 hw X126 hx hby hml hret hlk hown hnm hZ e126 N126 Z_ hS_ hk_ CR S_CS P_CS S_SF rf_fmv V_b106 E_b106 sf_b106 O_ g_b106 hp_ch107 hp_ch109 hp_ch111 hp_ch113 hp_ch115 hp_ch117 hp_ch119 hp_ch121 hp_ch123 hp_ch125
    · show OwnGoW p e below s Z own_EL _ _ _ T126 (mkF m 247 #[.val (.int p1), .val (.long p2), .second, .val (.long p3), .second, .val (.int (7 : Int32)), .val (.int lt), .val (.int mo), .val (.int kk), .val (.int bi), .val (.ref b106), .unset, .unset, .unset, .unset] [])
      exact sg7 p1 p2 p3 zc fmv lt mo kk bi ch107 ch109 ch111 ch113 ch115 ch117 ch119 ch121 ch123 ch125 b106 k106 h0 n0 hw X126 hx hby hml hret hlk hown hnm hZ e126 N126 Z_ hS_ hk_ CR S_CS P_CS S_SF rf_fmv V_b106 E_b106 sf_b106 O_ g_b106 hp_ch107 hp_ch109 hp_ch111 hp_ch113 hp_ch115 hp_ch117 hp_ch119 hp_ch121 hp_ch123 hp_ch125
    · show OwnGoW p e below s Z own_EL _ _ _ T126 (mkF m 247 #[.val (.int p1), .val (.long p2), .second, .val (.long p3), .second, .val (.int (8 : Int32)), .val (.int lt), .val (.int mo), .val (.int kk), .val (.int bi), .val (.ref b106), .unset, .unset, .unset, .unset] [])
      exact sg8 p1 p2 p3 zc fmv lt mo kk bi ch107 ch109 ch111 ch113 ch115 ch117 ch119 ch121 ch123 ch125 b106 k106 h0 n0 hw X126 hx hby hml hret hlk hown hnm hZ e126 N126 Z_ hS_ hk_ CR S_CS P_CS S_SF rf_fmv V_b106 E_b106 sf_b106 O_ g_b106 hp_ch107 hp_ch109 hp_ch111 hp_ch113 hp_ch115 hp_ch117 hp_ch119 hp_ch121 hp_ch123 hp_ch125
    · show OwnGoW p e below s Z own_EL _ _ _ T126 (mkF m 247 #[.val (.int p1), .val (.long p2), .second, .val (.long p3), .second, .val (.int (9 : Int32)), .val (.int lt), .val (.int mo), .val (.int kk), .val (.int bi), .val (.ref b106), .unset, .unset, .unset, .unset] [])
      exact sg9 p1 p2 p3 zc fmv lt mo kk bi ch107 ch109 ch111 ch113 ch115 ch117 ch119 ch121 ch123 ch125 b106 k106 h0 n0 hw X126 hx hby hml hret hlk hown hnm hZ e126 N126 Z_ hS_ hk_ CR S_CS P_CS S_SF rf_fmv V_b106 E_b106 sf_b106 O_ g_b106 hp_ch107 hp_ch109 hp_ch111 hp_ch113 hp_ch115 hp_ch117 hp_ch119 hp_ch121 hp_ch123 hp_ch125
    · show OwnGoW p e below s Z own_EL _ _ _ T126 (mkF m 247 #[.val (.int p1), .val (.long p2), .second, .val (.long p3), .second, .val (.int (10 : Int32)), .val (.int lt), .val (.int mo), .val (.int kk), .val (.int bi), .val (.ref b106), .unset, .unset, .unset, .unset] [])
      exact sg10 p1 p2 p3 zc fmv lt mo kk bi ch107 ch109 ch111 ch113 ch115 ch117 ch119 ch121 ch123 ch125 b106 k106 h0 n0 hw X126 hx hby hml hret hlk hown hnm hZ e126 N126 Z_ hS_ hk_ CR S_CS P_CS S_SF rf_fmv V_b106 E_b106 sf_b106 O_ g_b106 hp_ch107 hp_ch109 hp_ch111 hp_ch113 hp_ch115 hp_ch117 hp_ch119 hp_ch121 hp_ch123 hp_ch125
  · intro key105
    by_cases hl : (((p1.toUInt32 >>> ((4 : Int32) &&& 31).toUInt32).toInt32) &&& (1 : Int32)) = (0 : Int32)
    · refine .ifNo X0 hx (hb hby at_14) ((if0 _ _).trans (teq (hl : (((p1.toUInt32 >>> ((4 : Int32) &&& 31).toUInt32).toInt32) &&& (1 : Int32)) = (0 : Int32))).2) ?_
      refine .iconst X0 hx (hb hby at_17) own_ki1 ?_
      refine .goto (pc := 18) X0 hx 22 (hb hby at_18) (by decide) (by decide) ?_
      exact key105 _ trivial
    · refine .ifYes (pc := 14) X0 hx 21 (hb hby at_14) ((if0 _ _).trans (feq (hl : ¬ ((((p1.toUInt32 >>> ((4 : Int32) &&& 31).toUInt32).toInt32) &&& (1 : Int32)) = (0 : Int32)))).2) (by decide) (by decide) ?_
      refine .iconst X0 hx (hb hby at_21) own_ki0 ?_
      exact key105 _ trivial
theorem comes_1 {Post : Tables → Env → Array Value → State → Outcome → State → Prop} (hpost : ∀ tb e args s v u, (limb_1_1.after args s (.returned v) u = true ∧ limb_1_2.after args s (.returned v) u = true ∧ True) → ReturnedEndW s (.returned v) u (Jvm.fieldLocs frame_1_writes args s ++ Jvm.arrayLocs frame_1_arrays args s ++ Jvm.staticLocs frame_1_statics s) 32 5312 → Post tb e args s (.returned v) u) :
    ArmFor flags0 classFile x code maxLocals ret World_1 tables_1 room_1 Calls_1 rest_1 Pre_1 Post := by
  intro l hfl _ _ p e ha hc hk s m args below hf hA hF happ hP
  obtain ⟨hcalls, hrest, hpre⟩ := hP
  obtain ⟨-, -, -, hnamed, -, -, -, hat⟩ := (Spec.applies_iff hf).mp happ
  obtain ⟨hg, hn⟩ := and_e (Cond.before_iff.mp (show (Jvm.Cond.and given_1 narrow_1).before args s = true from hpre))
  obtain ⟨hcnt, hg⟩ := and_e hg
  obtain ⟨hg0, hg⟩ := and_e hg
  obtain ⟨hg1, hg⟩ := and_e hg
  have hg2 := hg
  obtain ⟨w0, w1, w2, rfl⟩ : ∃ w0 w1 w2 : Value, args = #[w0, w1, w2] := by
    have hs : args.size = 3 := by simpa [Cond.value, given_1] using hcnt
    obtain ⟨L⟩ := args
    match L, hs with
    | [w0, w1, w2], _ => exact ⟨w0, w1, w2, rfl⟩
  have hw := fun d (hd : d ∈ tables_1) => atoms_spec (ws := Jvm.Cond.code x code maxLocals ret :: tables_1) hat d (List.mem_cons_of_mem _ hd)
  have hfit : Fit s := fun {y c} hc i hi => by
    obtain ⟨ha, rfl⟩ := Array.getElem?_eq_some_iff.mp hc
    have q := List.all_eq_true.mp ((Array.all_eq_true_iff_forall_mem.mp hF) _ (Array.getElem_mem ha)) i (List.mem_range.mpr hi)
    simpa [Array.getElem?_eq_getElem hi] using q
  obtain ⟨i0, ei0⟩ := is_v hg0
  obtain rfl : w0 = (.int i0) := Option.some.inj ei0
  obtain ⟨i1, ei1⟩ := isL_v hg1
  obtain rfl : w1 = (.long i1) := Option.some.inj ei1
  obtain ⟨i2, ei2⟩ := isL_v hg2
  obtain rfl : w2 = (.long i2) := Option.some.inj ei2
  obtain ⟨hsets, hown0⟩ := atoms_of _ (rest_1_c_eq ▸ (show rest_1_c.before _ s = true from hrest))
  obtain ⟨zc, ev_zc⟩ := is_v (Cond.before_iff.mp (hsets _ (List.mem_of_getElem? (i := 1) rfl)))
  have S_CS := Sta.start ev_zc (Or.inl (hsets _ (List.mem_of_getElem? (i := 0) rfl)))
  have P_CS : ¬ zc = (0 : Int32) := gotF (Cond.eq_ints ev_zc (Term.int_eval (0))) (not_v (Cond.before_iff.mp (hsets _ (List.mem_of_getElem? (i := 2) rfl))))
  obtain ⟨fmv, ev_fm, rf_fmv⟩ := isR_v (Cond.before_iff.mp (hsets _ (List.mem_of_getElem? (i := 8) rfl)))
  have S_SF := Sta.start ev_fm (Or.inl (hsets _ (List.mem_of_getElem? (i := 7) rfl)))
  obtain ⟨n, o, h1, h2, h3, _, L, rfl, ⟨rfl, N⟩, -, hq⟩ := rm0 l s _ hw tables_1 i0 i1 i2 zc fmv s.heap s.heap.size (Nat.le_refl _) (Old.start s) S_CS P_CS S_SF rf_fmv  p e ha hc hk s m _ below hf ((Spec.applies_iff_loose hf).mp happ).1 ⟨rfl, State.Warmed39.refl s, rfl, (CHv.start (own_hEL hw) (fun q hq => (hcalls.1 : Jvm.Lit.constsHeld consts_1 s) q ((by decide : ∀ q ∈ own_EL, q ∈ consts_1) q hq)) (hsets _ (List.mem_of_getElem? (i := 2) rfl)) (W_ hw 9 rfl) (W_ hw 8 rfl))⟩ trivial
  refine ⟨n, _, h1, h2, h3, hpost _ _ _ _ _ _ ⟨Cond.after_iff.mpr rfl, Cond.after_iff.mpr (eq_i res_at (Term.int_eval (1)) rfl), trivial⟩ ⟨hq.1, hq.2.1, hq.2.2.1, (hq.2.2.2.sift fun y hy => Or.inr (N y hy)).mono (by decide) (by decide)⟩⟩
theorem main_1_1 : Claimed_1_1 := comes_1 fun _ _ _ _ _ _ h hF => ⟨h.1, hF⟩
theorem main_1_2 : Claimed_1_2 := comes_1 fun _ _ _ _ _ _ h hF => ⟨h.2.1, hF⟩
end Jvm.Pilot.@@N@@
namespace Jvm.Pilot.@@N@@
open Jvm Jvm.ClassFile Sem Op Lib Jvm.Free Jvm.Stand Jvm.Pilot.@@N@@.Jvm.D
/-! MADE BY PROGRAM (witnessworld.py) out of the Statement's table words and the real class files: 20 classes; the members and pool entries that the words name. The judged class is class 1, her method 1. -/
namespace start1
open Jvm.ClassFile
def u (s : String) : CpInfo := .utf8 (stringToUtf16 s)
/-- a pool by its gaps: so many unusable entries, then the entry; so many at the end -/
def gap : Nat → List CpInfo → List CpInfo
  | 0, r => r
  | n + 1, r => .unusable :: gap n r
def poolList (es : List (Nat × CpInfo)) (last : Nat) : List CpInfo := es.foldr (fun e r => gap e.1 (e.2 :: r)) (gap last [])
def pool (es : List (Nat × CpInfo)) (last : Nat) : Array CpInfo := ⟨poolList es last⟩
def fileOf (pool : Array CpInfo) (this : Nat) (attrs : Array Attribute := #[]) (ms : Array MethodInfo := #[]) (fl : Nat := 33) (sup : Nat := 0) (ifs : Array Nat := #[]) (fds : Array FieldInfo := #[]) : ClassFile where
  minorVersion := 0
  majorVersion := 65
  constantPool := pool
  accessFlags := fl
  thisClass := this
  superClass := sup
  interfaces := ifs
  fields := fds
  methods := ms
  attributes := attrs
def plain (name : String) (sup : Option ClassId) : Class where
  name := name
  kind := .ordinary
  loader := none
  accessFlags := 33
  super := sup
  interfaces := #[]
  cf := none
  fields := #[]
  methods := #[]
  instanceTypes := #[]
  staticTypes := #[]
  resolved := #[]
  callSites := []
  init := .initialized
  statics := none
  mirror := none

def pool0 : Array CpInfo := pool [(5, u "<init>"), (0, u "()V"), (1, .class_ 10), (1, u "java/lang/Object")] 113

def k0c0 : Code := { maxStack := 0, maxLocals := 1, code := object_method_1_code, exceptionTable := #[], attributes := #[] }
def k0m0 : Method := { name := "<init>", desc := "()V", sig := { parameters := [], returnType := none }, accessFlags := 1, code := some k0c0 }
/-- java/lang/Object -/
def k0 : Class := { plain "java/lang/Object" none with
  accessFlags := 33
  interfaces := #[]
  cf := some (fileOf pool0 8 #[] #[{ accessFlags := 1, nameIndex := 5, descriptorIndex := 6, attributes := #[] }] 33 0 #[] #[])
  fields := #[]
  methods := #[k0m0]
  instanceTypes := #[]
  staticTypes := #[]
  resolved := Array.replicate 124 none
  statics := none }

def pool1 : Array CpInfo := pool [(2, .class_ 4), (1, u "java/lang/Object"), (0, u "<init>"), (0, u "()V"), (0, .methodref 8 9), (0, .class_ 10), (0, .nameAndType 11 12), (0, u "com/example/mapweft/mapweft/OptionsIsVerbosePinLaw"), (0, u "at"), (0, u "(IZIIIJJ)C"), (0, .class_ 14), (0, u "java/lang/String"), (0, .methodref 13 16), (0, .nameAndType 5 17), (0, u "([C)V"), (0, .methodref 19 20), (0, .class_ 21), (0, .nameAndType 22 23), (0, u "com/example/mapweft/mapweft/Options"), (0, u "isVerbose"), (0, u "(Ljava/lang/String;)Z"), (0, .long 255), (1, .string 27), (0, u "--verbose"), (0, .methodref 13 29), (0, .nameAndType 30 31), (0, u "charAt"), (0, u "(I)C"), (0, .string 33), (0, u "-v"), (2, u "law"), (0, u "(IJJ)Z")] 5

def k1m0 : Method := { name := "<init>", desc := "()V", sig := { parameters := [], returnType := none }, accessFlags := 1, code := none }
def k1c1 : Code := { maxStack := 11, maxLocals := 15, code := code, exceptionTable := #[], attributes := #[] }
def k1m1 : Method := { name := "law", desc := "(IJJ)Z", sig := { parameters := [.int, .long, .long], returnType := some .boolean }, accessFlags := 9, code := some k1c1 }
def k1c2 : Code := { maxStack := 4, maxLocals := 14, code := method_3_code, exceptionTable := #[], attributes := #[] }
def k1m2 : Method := { name := "at", desc := "(IZIIIJJ)C", sig := { parameters := [.int, .boolean, .int, .int, .int, .long, .long], returnType := some .char }, accessFlags := 10, code := some k1c2 }
/-- com/example/mapweft/mapweft/OptionsIsVerbosePinLaw -/
def k1 : Class := { plain "com/example/mapweft/mapweft/OptionsIsVerbosePinLaw" (some 0) with
  accessFlags := 49
  interfaces := #[]
  cf := some (fileOf pool1 8 #[] #[{ accessFlags := 1, nameIndex := 5, descriptorIndex := 6, attributes := #[] }, { accessFlags := 9, nameIndex := 36, descriptorIndex := 37, attributes := #[] }, { accessFlags := 10, nameIndex := 11, descriptorIndex := 12, attributes := #[] }] 49 2 #[] #[])
  fields := #[]
  methods := #[k1m0, k1m1, k1m2]
  instanceTypes := #[]
  staticTypes := #[]
  resolved := Array.replicate 43 none
  statics := none }

def pool2 : Array CpInfo := pool [(1, .class_ 2), (0, u "java/io/Serializable"), (0, .class_ 4), (0, u "java/lang/Object")] 2

/-- java/io/Serializable -/
def k2 : Class := { plain "java/io/Serializable" (some 0) with
  accessFlags := 1537
  interfaces := #[]
  cf := some (fileOf pool2 1 #[] #[] 1537 3 #[] #[])
  fields := #[]
  methods := #[]
  instanceTypes := #[]
  staticTypes := #[]
  resolved := Array.replicate 7 none
  statics := none }

def pool3 : Array CpInfo := pool [(1, .class_ 2), (0, u "java/lang/Comparable"), (0, .class_ 4), (0, u "java/lang/Object")] 7

/-- java/lang/Comparable -/
def k3 : Class := { plain "java/lang/Comparable" (some 0) with
  accessFlags := 1537
  interfaces := #[]
  cf := some (fileOf pool3 1 #[] #[] 1537 3 #[] #[])
  fields := #[]
  methods := #[]
  instanceTypes := #[]
  staticTypes := #[]
  resolved := Array.replicate 12 none
  statics := none }

def pool4 : Array CpInfo := pool [(2, .class_ 4), (1, u "java/lang/CharSequence"), (42, .class_ 48), (0, u "java/lang/CharSequence$1CodePointIterator"), (10, .class_ 60), (0, u "java/lang/CharSequence$1CharIterator"), (5, .class_ 67), (0, u "java/lang/Object")] 63

/-- java/lang/CharSequence -/
def k4 : Class := { plain "java/lang/CharSequence" (some 0) with
  accessFlags := 1537
  interfaces := #[]
  cf := some (fileOf pool4 2 #[.nestMembers #[47, 59]] #[] 1537 66 #[] #[])
  fields := #[]
  methods := #[]
  instanceTypes := #[]
  staticTypes := #[]
  resolved := Array.replicate 131 none
  statics := none }

def pool5 : Array CpInfo := pool [(1, .class_ 2), (0, u "java/lang/constant/Constable"), (0, .class_ 4), (0, u "java/lang/Object")] 6

/-- java/lang/constant/Constable -/
def k5 : Class := { plain "java/lang/constant/Constable" (some 0) with
  accessFlags := 1537
  interfaces := #[]
  cf := some (fileOf pool5 1 #[] #[] 1537 3 #[] #[])
  fields := #[]
  methods := #[]
  instanceTypes := #[]
  staticTypes := #[]
  resolved := Array.replicate 11 none
  statics := none }

def pool6 : Array CpInfo := pool [(1, .class_ 2), (0, u "java/lang/constant/ConstantDesc"), (0, .class_ 4), (0, u "java/lang/Object")] 32

/-- java/lang/constant/ConstantDesc -/
def k6 : Class := { plain "java/lang/constant/ConstantDesc" (some 0) with
  accessFlags := 1537
  interfaces := #[]
  cf := some (fileOf pool6 1 #[] #[] 1537 3 #[] #[])
  fields := #[]
  methods := #[]
  instanceTypes := #[]
  staticTypes := #[]
  resolved := Array.replicate 37 none
  statics := none }

def pool7 : Array CpInfo := pool [(1, .methodref 2 3), (0, .class_ 4), (0, .nameAndType 5 6), (0, u "java/lang/Object"), (0, u "<init>"), (0, u "()V"), (0, .string 8), (0, u ""), (0, .fieldref 10 11), (0, .class_ 12), (0, .nameAndType 13 14), (0, u "java/lang/String"), (0, u "value"), (0, u "[B"), (0, .fieldref 10 16), (0, .nameAndType 17 18), (0, u "coder"), (0, u "B"), (2, u "hash"), (0, u "I"), (2, u "hashIsZero"), (0, u "Z"), (0, .methodref 10 28), (0, .nameAndType 5 29), (0, u "([CIILjava/lang/Void;)V"), (8, .fieldref 10 39), (0, .nameAndType 40 26), (0, u "COMPACT_STRINGS"), (1, .class_ 44), (1, u "java/lang/StringUTF16"), (0, u "compress"), (1, .methodref 42 48), (0, .nameAndType 49 50), (0, u "coderFromArrayLen"), (0, u "([BI)B"), (56, .class_ 109), (1, u "java/lang/StringLatin1"), (32, u "()Z"), (34, .methodref 42 178), (0, .nameAndType 45 179), (0, u "([CII)[B"), (183, u "([BI)C"), (27, u "(II)V"), (35, u "(I)C"), (64, .methodref 10 493), (0, .nameAndType 494 142), (0, u "isLatin1"), (0, .methodref 107 496), (0, .nameAndType 497 363), (0, u "charAt"), (3, u "checkIndex"), (39, .methodref 107 542), (0, .nameAndType 543 544), (0, u "equals"), (0, u "([B[B)Z"), (28, u "(Ljava/lang/Object;)Z"), (1, .class_ 576), (0, u "java/lang/CharSequence"), (22, u "CASE_INSENSITIVE_ORDER"), (0, u "Ljava/util/Comparator;"), (409, u "([C)V"), (42, .fieldref 1054 1055), (0, .class_ 1056), (0, .nameAndType 1057 1058), (0, u "jdk/internal/util/Preconditions"), (0, u "SIOOBE_FORMATTER"), (0, u "Ljava/util/function/BiFunction;"), (0, .methodref 1054 1060), (0, .nameAndType 501 1061), (0, u "(IILjava/util/function/BiFunction;)I"), (39, u "serialPersistentFields"), (0, u "[Ljava/io/ObjectStreamField;"), (0, .class_ 1104), (0, u "java/lang/String$CaseInsensitiveComparator"), (1, .class_ 1107), (0, u "java/io/Serializable"), (0, .class_ 1109), (0, u "java/lang/Comparable"), (0, .class_ 1111), (0, u "java/lang/constant/Constable"), (0, .class_ 1113), (0, u "java/lang/constant/ConstantDesc"), (2, u "serialVersionUID"), (0, u "J"), (3, u "REPL"), (0, u "C"), (2, u "LATIN1"), (1, u "UTF16")] 323

def k7m0 : Method := { name := "<init>", desc := "()V", sig := { parameters := [], returnType := none }, accessFlags := 1, code := none }
def k7c1 : Code := { maxStack := 5, maxLocals := 2, code := jdk_42_method_3_code, exceptionTable := #[], attributes := #[] }
def k7m1 : Method := { name := "<init>", desc := "([C)V", sig := { parameters := [(.array .char)], returnType := none }, accessFlags := 1, code := some k7c1 }
def k7c2 : Code := { maxStack := 2, maxLocals := 2, code := jdk_42_method_56_code, exceptionTable := #[], attributes := #[] }
def k7m2 : Method := { name := "charAt", desc := "(I)C", sig := { parameters := [.int], returnType := some .char }, accessFlags := 1, code := some k7c2 }
def k7c3 : Code := { maxStack := 2, maxLocals := 3, code := jdk_42_method_66_code, exceptionTable := #[], attributes := #[] }
def k7m3 : Method := { name := "equals", desc := "(Ljava/lang/Object;)Z", sig := { parameters := [(.object "java/lang/Object")], returnType := some .boolean }, accessFlags := 1, code := some k7c3 }
def k7c4 : Code := { maxStack := 4, maxLocals := 6, code := jdk_42_method_149_code, exceptionTable := #[], attributes := #[] }
def k7m4 : Method := { name := "<init>", desc := "([CIILjava/lang/Void;)V", sig := { parameters := [(.array .char), .int, .int, (.object "java/lang/Void")], returnType := none }, accessFlags := 2, code := some k7c4 }
def k7c5 : Code := { maxStack := 1, maxLocals := 1, code := jdk_42_method_154_code, exceptionTable := #[], attributes := #[] }
def k7m5 : Method := { name := "isLatin1", desc := "()Z", sig := { parameters := [], returnType := some .boolean }, accessFlags := 0, code := some k7c5 }
def k7c6 : Code := { maxStack := 3, maxLocals := 2, code := jdk_42_method_155_code, exceptionTable := #[], attributes := #[] }
def k7m6 : Method := { name := "checkIndex", desc := "(II)V", sig := { parameters := [.int, .int], returnType := none }, accessFlags := 8, code := some k7c6 }
/-- java/lang/String -/
def k7 : Class := { plain "java/lang/String" (some 0) with
  accessFlags := 49
  interfaces := #[2, 3, 4, 5, 6]
  cf := some (fileOf pool7 10 #[.nestMembers #[1103]] #[{ accessFlags := 1, nameIndex := 5, descriptorIndex := 6, attributes := #[] }, { accessFlags := 1, nameIndex := 5, descriptorIndex := 1010, attributes := #[] }, { accessFlags := 1, nameIndex := 497, descriptorIndex := 427, attributes := #[] }, { accessFlags := 1, nameIndex := 543, descriptorIndex := 573, attributes := #[] }, { accessFlags := 2, nameIndex := 5, descriptorIndex := 29, attributes := #[] }, { accessFlags := 0, nameIndex := 494, descriptorIndex := 142, attributes := #[] }, { accessFlags := 8, nameIndex := 501, descriptorIndex := 391, attributes := #[] }] 49 2 #[1106, 1108, 575, 1110, 1112] #[{ accessFlags := 18, nameIndex := 13, descriptorIndex := 14, attributes := #[] }, { accessFlags := 18, nameIndex := 17, descriptorIndex := 18, attributes := #[] }, { accessFlags := 2, nameIndex := 21, descriptorIndex := 22, attributes := #[] }, { accessFlags := 2, nameIndex := 25, descriptorIndex := 26, attributes := #[] }, { accessFlags := 26, nameIndex := 1116, descriptorIndex := 1117, attributes := #[] }, { accessFlags := 24, nameIndex := 40, descriptorIndex := 26, attributes := #[] }, { accessFlags := 26, nameIndex := 1101, descriptorIndex := 1102, attributes := #[] }, { accessFlags := 26, nameIndex := 1121, descriptorIndex := 1122, attributes := #[] }, { accessFlags := 25, nameIndex := 599, descriptorIndex := 600, attributes := #[] }, { accessFlags := 24, nameIndex := 1125, descriptorIndex := 18, attributes := #[] }, { accessFlags := 24, nameIndex := 1127, descriptorIndex := 18, attributes := #[] }])
  fields := #[{ name := "value", type := (.array .byte), accessFlags := 18, slot := 0, constantValue := 0 }, { name := "coder", type := .byte, accessFlags := 18, slot := 1, constantValue := 0 }, { name := "hash", type := .int, accessFlags := 2, slot := 2, constantValue := 0 }, { name := "hashIsZero", type := .boolean, accessFlags := 2, slot := 3, constantValue := 0 }, { name := "serialVersionUID", type := .long, accessFlags := 26, slot := 0, constantValue := 0 }, { name := "COMPACT_STRINGS", type := .boolean, accessFlags := 24, slot := 1, constantValue := 0 }, { name := "serialPersistentFields", type := (.array (.object "java/io/ObjectStreamField")), accessFlags := 26, slot := 2, constantValue := 0 }, { name := "REPL", type := .char, accessFlags := 26, slot := 3, constantValue := 0 }, { name := "CASE_INSENSITIVE_ORDER", type := (.object "java/util/Comparator"), accessFlags := 25, slot := 4, constantValue := 0 }, { name := "LATIN1", type := .byte, accessFlags := 24, slot := 5, constantValue := 0 }, { name := "UTF16", type := .byte, accessFlags := 24, slot := 6, constantValue := 0 }]
  methods := #[k7m0, k7m1, k7m2, k7m3, k7m4, k7m5, k7m6]
  instanceTypes := #[(.array .byte), .byte, .int, .boolean]
  staticTypes := #[.long, .boolean, (.array (.object "java/io/ObjectStreamField")), .char, (.object "java/util/Comparator"), .byte, .byte]
  resolved := Array.replicate 1451 none
  statics := some 0 }

def pool8 : Array CpInfo := pool [(1, .class_ 2), (0, u "java/lang/String"), (1, .class_ 6), (1, u "java/lang/Object"), (0, u "<init>"), (0, u "()V"), (0, .methodref 1 10), (0, .nameAndType 11 12), (0, u "checkIndex"), (0, u "(II)V"), (1, .class_ 16), (1, u "java/lang/StringLatin1"), (36, u "([BI)C"), (67, u "$assertionsDisabled"), (0, u "Z"), (98, .class_ 223), (1, u "java/lang/StringLatin1$LinesSpliterator"), (28, u "charAt"), (28, u "equals"), (0, u "([B[B)Z"), (107, .class_ 391), (0, u "java/lang/StringLatin1$CharsSpliterator")] 3

def k8m0 : Method := { name := "<init>", desc := "()V", sig := { parameters := [], returnType := none }, accessFlags := 0, code := none }
def k8c1 : Code := { maxStack := 2, maxLocals := 2, code := jdk_43_method_2_code, exceptionTable := #[], attributes := #[] }
def k8m1 : Method := { name := "charAt", desc := "([BI)C", sig := { parameters := [(.array .byte), .int], returnType := some .char }, accessFlags := 9, code := some k8c1 }
def k8c2 : Code := { maxStack := 3, maxLocals := 3, code := jdk_43_method_13_code, exceptionTable := #[], attributes := #[] }
def k8m2 : Method := { name := "equals", desc := "([B[B)Z", sig := { parameters := [(.array .byte), (.array .byte)], returnType := some .boolean }, accessFlags := 9, code := some k8c2 }
/-- java/lang/StringLatin1 -/
def k8 : Class := { plain "java/lang/StringLatin1" (some 0) with
  accessFlags := 48
  interfaces := #[]
  cf := some (fileOf pool8 14 #[.nestMembers #[390, 221]] #[{ accessFlags := 0, nameIndex := 7, descriptorIndex := 8, attributes := #[] }, { accessFlags := 9, nameIndex := 252, descriptorIndex := 53, attributes := #[] }, { accessFlags := 9, nameIndex := 281, descriptorIndex := 282, attributes := #[] }] 48 4 #[] #[{ accessFlags := 4120, nameIndex := 121, descriptorIndex := 122, attributes := #[] }])
  fields := #[{ name := "$assertionsDisabled", type := .boolean, accessFlags := 4120, slot := 0, constantValue := 0 }]
  methods := #[k8m0, k8m1, k8m2]
  instanceTypes := #[]
  staticTypes := #[.boolean]
  resolved := Array.replicate 395 none
  statics := none }

def pool9 : Array CpInfo := pool [(2, .class_ 4), (1, u "java/lang/Object"), (0, u "<init>"), (0, u "()V"), (17, .class_ 26), (1, u "jdk/internal/util/Preconditions"), (6, u "checkIndex"), (21, .class_ 56), (0, u "jdk/internal/util/Preconditions$4"), (57, .class_ 115), (0, u "jdk/internal/util/Preconditions$1"), (7, u "SIOOBE_FORMATTER"), (0, u "Ljava/util/function/BiFunction;"), (0, .class_ 126), (0, u "jdk/internal/util/Preconditions$2"), (3, u "AIOOBE_FORMATTER"), (0, .class_ 132), (0, u "jdk/internal/util/Preconditions$3"), (3, u "IOOBE_FORMATTER"), (41, u "(IILjava/util/function/BiFunction;)I")] 15

def k9m0 : Method := { name := "<init>", desc := "()V", sig := { parameters := [], returnType := none }, accessFlags := 1, code := none }
def k9c1 : Code := { maxStack := 3, maxLocals := 3, code := jdk_41_method_11_code, exceptionTable := #[], attributes := #[] }
def k9m1 : Method := { name := "checkIndex", desc := "(IILjava/util/function/BiFunction;)I", sig := { parameters := [.int, .int, (.object "java/util/function/BiFunction")], returnType := some .int }, accessFlags := 9, code := some k9c1 }
/-- jdk/internal/util/Preconditions -/
def k9 : Class := { plain "jdk/internal/util/Preconditions" (some 0) with
  accessFlags := 33
  interfaces := #[]
  cf := some (fileOf pool9 24 #[.nestMembers #[55, 131, 125, 114]] #[{ accessFlags := 1, nameIndex := 5, descriptorIndex := 6, attributes := #[] }, { accessFlags := 9, nameIndex := 33, descriptorIndex := 178, attributes := #[] }] 33 2 #[] #[{ accessFlags := 25, nameIndex := 123, descriptorIndex := 124, attributes := #[] }, { accessFlags := 25, nameIndex := 130, descriptorIndex := 124, attributes := #[] }, { accessFlags := 25, nameIndex := 136, descriptorIndex := 124, attributes := #[] }])
  fields := #[{ name := "SIOOBE_FORMATTER", type := (.object "java/util/function/BiFunction"), accessFlags := 25, slot := 0, constantValue := 0 }, { name := "AIOOBE_FORMATTER", type := (.object "java/util/function/BiFunction"), accessFlags := 25, slot := 1, constantValue := 0 }, { name := "IOOBE_FORMATTER", type := (.object "java/util/function/BiFunction"), accessFlags := 25, slot := 2, constantValue := 0 }]
  methods := #[k9m0, k9m1]
  instanceTypes := #[]
  staticTypes := #[(.object "java/util/function/BiFunction"), (.object "java/util/function/BiFunction"), (.object "java/util/function/BiFunction")]
  resolved := Array.replicate 194 none
  statics := some 1 }

def pool10 : Array CpInfo := pool [(2, .class_ 4), (1, u "java/lang/Object"), (3, .class_ 10), (1, u "com/example/mapweft/mapweft/Options"), (0, u "values"), (0, u "Ljava/util/Map;"), (2, u "operands"), (2, u "moreOperands"), (0, u "Ljava/util/List;"), (2, u "verbose"), (0, u "Z"), (0, .string 25), (0, u "--verbose"), (0, .methodref 27 28), (0, .class_ 29), (0, .nameAndType 30 31), (0, u "java/lang/String"), (0, u "equals"), (0, u "(Ljava/lang/Object;)Z"), (0, .string 33), (0, u "-v"), (18, u "isVerbose"), (0, u "(Ljava/lang/String;)Z"), (155, u "PREFIX"), (0, u "Ljava/lang/String;"), (1, u "VERBOSE"), (0, u "VERBOSE_SHORT")] 78

def k10c0 : Code := { maxStack := 2, maxLocals := 1, code := prog_4_method_2_code, exceptionTable := #[], attributes := #[] }
def k10m0 : Method := { name := "isVerbose", desc := "(Ljava/lang/String;)Z", sig := { parameters := [(.object "java/lang/String")], returnType := some .boolean }, accessFlags := 8, code := some k10c0 }
/-- com/example/mapweft/mapweft/Options -/
def k10 : Class := { plain "com/example/mapweft/mapweft/Options" (some 0) with
  accessFlags := 48
  interfaces := #[]
  cf := some (fileOf pool10 8 #[] #[{ accessFlags := 8, nameIndex := 52, descriptorIndex := 53, attributes := #[] }] 48 2 #[] #[{ accessFlags := 26, nameIndex := 209, descriptorIndex := 210, attributes := #[] }, { accessFlags := 24, nameIndex := 212, descriptorIndex := 210, attributes := #[] }, { accessFlags := 24, nameIndex := 213, descriptorIndex := 210, attributes := #[] }, { accessFlags := 18, nameIndex := 11, descriptorIndex := 12, attributes := #[] }, { accessFlags := 18, nameIndex := 15, descriptorIndex := 12, attributes := #[] }, { accessFlags := 18, nameIndex := 18, descriptorIndex := 19, attributes := #[] }, { accessFlags := 18, nameIndex := 22, descriptorIndex := 23, attributes := #[] }])
  fields := #[{ name := "PREFIX", type := (.object "java/lang/String"), accessFlags := 26, slot := 0, constantValue := 0 }, { name := "VERBOSE", type := (.object "java/lang/String"), accessFlags := 24, slot := 1, constantValue := 0 }, { name := "VERBOSE_SHORT", type := (.object "java/lang/String"), accessFlags := 24, slot := 2, constantValue := 0 }, { name := "values", type := (.object "java/util/Map"), accessFlags := 18, slot := 0, constantValue := 0 }, { name := "operands", type := (.object "java/util/Map"), accessFlags := 18, slot := 1, constantValue := 0 }, { name := "moreOperands", type := (.object "java/util/List"), accessFlags := 18, slot := 2, constantValue := 0 }, { name := "verbose", type := .boolean, accessFlags := 18, slot := 3, constantValue := 0 }]
  methods := #[k10m0]
  instanceTypes := #[(.object "java/util/Map"), (.object "java/util/Map"), (.object "java/util/List"), .boolean]
  staticTypes := #[(.object "java/lang/String"), (.object "java/lang/String"), (.object "java/lang/String")]
  resolved := Array.replicate 292 none
  statics := none }

def pool11 : Array CpInfo := pool [(6, .class_ 8), (1, u "java/lang/Object"), (0, u "<init>"), (0, u "()V"), (1, .class_ 14), (1, u "java/lang/StringUTF16"), (31, u "$assertionsDisabled"), (0, u "Z"), (13, u "HI_BYTE_SHIFT"), (0, u "I"), (2, u "LO_BYTE_SHIFT"), (49, .methodref 12 116), (0, .nameAndType 117 118), (0, u "compress"), (0, u "([CI[BII)I"), (3, u "([CII)[B"), (138, u "coderFromArrayLen"), (0, u "([BI)B"), (106, .class_ 371), (1, u "java/lang/StringUTF16$LinesSpliterator"), (58, u "MAX_LENGTH"), (196, .class_ 628), (0, u "java/lang/StringUTF16$CodePointsSpliterator"), (0, .class_ 630), (0, u "java/lang/StringUTF16$CharsSpliterator")] 4

def k11m0 : Method := { name := "<init>", desc := "()V", sig := { parameters := [], returnType := none }, accessFlags := 0, code := none }
def k11c1 : Code := { maxStack := 2, maxLocals := 2, code := jdk_52_method_15_code, exceptionTable := #[], attributes := #[] }
def k11m1 : Method := { name := "coderFromArrayLen", desc := "([BI)B", sig := { parameters := [(.array .byte), .int], returnType := some .byte }, accessFlags := 8, code := some k11c1 }
def k11c2 : Code := { maxStack := 5, maxLocals := 6, code := jdk_52_method_16_code, exceptionTable := #[], attributes := #[] }
def k11m2 : Method := { name := "compress", desc := "([CII)[B", sig := { parameters := [(.array .char), .int, .int], returnType := some (.array .byte) }, accessFlags := 9, code := some k11c2 }
def k11c3 : Code := { maxStack := 3, maxLocals := 7, code := jdk_52_method_21_code, exceptionTable := #[], attributes := #[] }
def k11m3 : Method := { name := "compress", desc := "([CI[BII)I", sig := { parameters := [(.array .char), .int, (.array .byte), .int, .int], returnType := some .int }, accessFlags := 9, code := some k11c3 }
/-- java/lang/StringUTF16 -/
def k11 : Class := { plain "java/lang/StringUTF16" (some 0) with
  accessFlags := 48
  interfaces := #[]
  cf := some (fileOf pool11 12 #[.nestMembers #[627, 629, 369]] #[{ accessFlags := 0, nameIndex := 9, descriptorIndex := 10, attributes := #[] }, { accessFlags := 8, nameIndex := 261, descriptorIndex := 262, attributes := #[] }, { accessFlags := 9, nameIndex := 117, descriptorIndex := 122, attributes := #[] }, { accessFlags := 9, nameIndex := 117, descriptorIndex := 118, attributes := #[] }] 48 6 #[] #[{ accessFlags := 26, nameIndex := 61, descriptorIndex := 62, attributes := #[] }, { accessFlags := 26, nameIndex := 65, descriptorIndex := 62, attributes := #[] }, { accessFlags := 24, nameIndex := 430, descriptorIndex := 62, attributes := #[] }, { accessFlags := 4120, nameIndex := 46, descriptorIndex := 47, attributes := #[] }])
  fields := #[{ name := "HI_BYTE_SHIFT", type := .int, accessFlags := 26, slot := 0, constantValue := 0 }, { name := "LO_BYTE_SHIFT", type := .int, accessFlags := 26, slot := 1, constantValue := 0 }, { name := "MAX_LENGTH", type := .int, accessFlags := 24, slot := 2, constantValue := 0 }, { name := "$assertionsDisabled", type := .boolean, accessFlags := 4120, slot := 3, constantValue := 0 }]
  methods := #[k11m0, k11m1, k11m2, k11m3]
  instanceTypes := #[]
  staticTypes := #[.int, .int, .int, .boolean]
  resolved := Array.replicate 635 none
  statics := none }

def pool12 : Array CpInfo := pool [(9, u "<init>"), (6, .class_ 18), (1, u "java/lang/Object"), (0, u "()V"), (1, .class_ 23), (1, u "jdk/internal/util/ArraysSupport"), (0, u "LOG2_ARRAY_LONG_INDEX_SCALE"), (0, u "I"), (2, u "U"), (0, u "Ljdk/internal/misc/Unsafe;"), (8, u "BIG_ENDIAN"), (0, u "Z"), (8, u "LOG2_BYTE_BIT_SIZE"), (4, u "LOG2_ARRAY_INT_INDEX_SCALE"), (54, u "JLA"), (0, u "Ljdk/internal/access/JavaLangAccess;"), (11, u "LOG2_ARRAY_BOOLEAN_INDEX_SCALE"), (9, u "LOG2_ARRAY_BYTE_INDEX_SCALE"), (5, u "LOG2_ARRAY_CHAR_INDEX_SCALE"), (5, u "LOG2_ARRAY_SHORT_INDEX_SCALE"), (18, u "LOG2_ARRAY_FLOAT_INDEX_SCALE"), (24, u "LOG2_ARRAY_DOUBLE_INDEX_SCALE"), (89, u "T_BOOLEAN"), (2, u "T_CHAR"), (1, u "T_FLOAT"), (1, u "T_DOUBLE"), (1, u "T_BYTE"), (1, u "T_SHORT"), (1, u "T_INT"), (1, u "T_LONG"), (1, u "SOFT_MAX_ARRAY_LENGTH")] 83

def k12m0 : Method := { name := "<init>", desc := "()V", sig := { parameters := [], returnType := none }, accessFlags := 2, code := none }
/-- jdk/internal/util/ArraysSupport -/
def k12 : Class := { plain "jdk/internal/util/ArraysSupport" (some 0) with
  accessFlags := 33
  interfaces := #[]
  cf := some (fileOf pool12 21 #[] #[{ accessFlags := 2, nameIndex := 9, descriptorIndex := 19, attributes := #[] }] 33 16 #[] #[{ accessFlags := 24, nameIndex := 28, descriptorIndex := 29, attributes := #[] }, { accessFlags := 26, nameIndex := 38, descriptorIndex := 39, attributes := #[] }, { accessFlags := 25, nameIndex := 121, descriptorIndex := 25, attributes := #[] }, { accessFlags := 25, nameIndex := 131, descriptorIndex := 25, attributes := #[] }, { accessFlags := 25, nameIndex := 137, descriptorIndex := 25, attributes := #[] }, { accessFlags := 25, nameIndex := 143, descriptorIndex := 25, attributes := #[] }, { accessFlags := 25, nameIndex := 53, descriptorIndex := 25, attributes := #[] }, { accessFlags := 25, nameIndex := 24, descriptorIndex := 25, attributes := #[] }, { accessFlags := 25, nameIndex := 162, descriptorIndex := 25, attributes := #[] }, { accessFlags := 25, nameIndex := 187, descriptorIndex := 25, attributes := #[] }, { accessFlags := 26, nameIndex := 48, descriptorIndex := 25, attributes := #[] }, { accessFlags := 25, nameIndex := 277, descriptorIndex := 25, attributes := #[] }, { accessFlags := 25, nameIndex := 280, descriptorIndex := 25, attributes := #[] }, { accessFlags := 25, nameIndex := 282, descriptorIndex := 25, attributes := #[] }, { accessFlags := 25, nameIndex := 284, descriptorIndex := 25, attributes := #[] }, { accessFlags := 25, nameIndex := 286, descriptorIndex := 25, attributes := #[] }, { accessFlags := 25, nameIndex := 288, descriptorIndex := 25, attributes := #[] }, { accessFlags := 25, nameIndex := 290, descriptorIndex := 25, attributes := #[] }, { accessFlags := 25, nameIndex := 292, descriptorIndex := 25, attributes := #[] }, { accessFlags := 26, nameIndex := 108, descriptorIndex := 109, attributes := #[] }, { accessFlags := 25, nameIndex := 294, descriptorIndex := 25, attributes := #[] }])
  fields := #[{ name := "U", type := (.object "jdk/internal/misc/Unsafe"), accessFlags := 24, slot := 0, constantValue := 0 }, { name := "BIG_ENDIAN", type := .boolean, accessFlags := 26, slot := 1, constantValue := 0 }, { name := "LOG2_ARRAY_BOOLEAN_INDEX_SCALE", type := .int, accessFlags := 25, slot := 2, constantValue := 0 }, { name := "LOG2_ARRAY_BYTE_INDEX_SCALE", type := .int, accessFlags := 25, slot := 3, constantValue := 0 }, { name := "LOG2_ARRAY_CHAR_INDEX_SCALE", type := .int, accessFlags := 25, slot := 4, constantValue := 0 }, { name := "LOG2_ARRAY_SHORT_INDEX_SCALE", type := .int, accessFlags := 25, slot := 5, constantValue := 0 }, { name := "LOG2_ARRAY_INT_INDEX_SCALE", type := .int, accessFlags := 25, slot := 6, constantValue := 0 }, { name := "LOG2_ARRAY_LONG_INDEX_SCALE", type := .int, accessFlags := 25, slot := 7, constantValue := 0 }, { name := "LOG2_ARRAY_FLOAT_INDEX_SCALE", type := .int, accessFlags := 25, slot := 8, constantValue := 0 }, { name := "LOG2_ARRAY_DOUBLE_INDEX_SCALE", type := .int, accessFlags := 25, slot := 9, constantValue := 0 }, { name := "LOG2_BYTE_BIT_SIZE", type := .int, accessFlags := 26, slot := 10, constantValue := 0 }, { name := "T_BOOLEAN", type := .int, accessFlags := 25, slot := 11, constantValue := 0 }, { name := "T_CHAR", type := .int, accessFlags := 25, slot := 12, constantValue := 0 }, { name := "T_FLOAT", type := .int, accessFlags := 25, slot := 13, constantValue := 0 }, { name := "T_DOUBLE", type := .int, accessFlags := 25, slot := 14, constantValue := 0 }, { name := "T_BYTE", type := .int, accessFlags := 25, slot := 15, constantValue := 0 }, { name := "T_SHORT", type := .int, accessFlags := 25, slot := 16, constantValue := 0 }, { name := "T_INT", type := .int, accessFlags := 25, slot := 17, constantValue := 0 }, { name := "T_LONG", type := .int, accessFlags := 25, slot := 18, constantValue := 0 }, { name := "JLA", type := (.object "jdk/internal/access/JavaLangAccess"), accessFlags := 26, slot := 19, constantValue := 0 }, { name := "SOFT_MAX_ARRAY_LENGTH", type := .int, accessFlags := 25, slot := 20, constantValue := 0 }]
  methods := #[k12m0]
  instanceTypes := #[]
  staticTypes := #[(.object "jdk/internal/misc/Unsafe"), .boolean, .int, .int, .int, .int, .int, .int, .int, .int, .int, .int, .int, .int, .int, .int, .int, .int, .int, (.object "jdk/internal/access/JavaLangAccess"), .int]
  resolved := Array.replicate 378 none
  statics := none }

def pool13 : Array CpInfo := pool [(1, u "java/lang/Cloneable"), (0, .class_ 1), (0, u "java/lang/Object"), (0, .class_ 3)] 3

/-- java/lang/Cloneable -/
def k13 : Class := { plain "java/lang/Cloneable" (some 0) with
  accessFlags := 1537
  interfaces := #[]
  cf := some (fileOf pool13 2 #[] #[] 1537 4 #[] #[])
  fields := #[]
  methods := #[]
  instanceTypes := #[]
  staticTypes := #[]
  resolved := Array.replicate 8 none
  statics := none }

/-- the primitive byte -/
def k14 : Class := { plain "byte" none with kind := .primitive 'B', accessFlags := 0x411 }
/-- [B -/
def k15 : Class := { plain "[B" (some 0) with kind := .array 14 .byte, interfaces := #[13, 2], accessFlags := 1041 }

/-- the primitive char -/
def k16 : Class := { plain "char" none with kind := .primitive 'C', accessFlags := 0x411 }
/-- [C -/
def k17 : Class := { plain "[C" (some 0) with kind := .array 16 .char, interfaces := #[13, 2], accessFlags := 1041 }

/-- the primitive int -/
def k18 : Class := { plain "int" none with kind := .primitive 'I', accessFlags := 0x411 }
/-- [I -/
def k19 : Class := { plain "[I" (some 0) with kind := .array 18 .int, interfaces := #[13, 2], accessFlags := 1041 }

def heap : Heap := #[{ cls := 7, slots := #[.long 0, .int 1, .null, .int 0, .null, .int 0, .int 0], vm := .statics 7 },
  { cls := 9, slots := #[.null, .null, .null], vm := .statics 9 }]
def classes : Array Class := #[k0, k1, k2, k3, k4, k5, k6, k7, k8, k9, k10, k11, k12, k13, k14, k15, k16, k17, k18, k19]
def interned : List (Array UInt16 × Addr) := []
def slotsUsed : Nat := 10
def theMethod : MethodId := ⟨1, 1⟩
def args0 : Array Value := #[.int 2, .long 5, .long 7]
def aboutOver (below : List Frame) : State where
  vm := { classes := classes, interned := interned.toArray }
  heap := heap
  slotsUsed := slotsUsed
  threads := #[{ frames := .invoking theMethod args0 :: below }]
def below0 : List Frame := [.native { method := ⟨0, 0⟩, args := #[] }]
def about1 : State := aboutOver below0
def p0 : Program := .bare "" "" ""
def e0 : Env := launch0.env 0 0 0
theorem w_frames : about1.frames = Frame.invoking theMethod args0 :: below0 := rfl
set_option maxRecDepth 65536 in
theorem w_args : argsFit about1.vm theMethod args0 = true := by decide +kernel
set_option maxRecDepth 65536 in
theorem w_heap : heapFits about1 = true := by decide +kernel
set_option maxRecDepth 65536 in
theorem w_runnable : about1.curStatus? = some .runnable := by decide +kernel
set_option maxRecDepth 65536 in
theorem w_alone : about1.alone = true := by decide +kernel
set_option maxRecDepth 65536 in
theorem w_named : about1.methodNamed? x = some theMethod := by decide +kernel
set_option maxRecDepth 65536 in
theorem w_hears : about1.hears theMethod below0 = true := by decide +kernel
set_option maxRecDepth 65536 in
theorem w_ripe : about1.ripe theMethod args0 below0 = true := by decide +kernel
theorem w_running : about1.status = .running := rfl
set_option maxRecDepth 65536 in
theorem w_room : about1.hasRoom e0.platform room_1 = true :=
  launch0.hasRoom_least _ room_1 (by decide +kernel) (by decide +kernel) (by decide +kernel) (by decide +kernel) (by decide +kernel) (by decide +kernel)
theorem allAtoms_all (ts : List Jvm.Cond) (a : Array Jvm.Value) (st : Jvm.State) : (allAtoms ts).before a st = ts.all (fun c => c.before a st) := by
  induction ts with
  | nil => rfl
  | cons c t ih =>
    show (Jvm.Cond.and c (allAtoms t)).before a st = _
    rw [Jvm.Cond.before_and, ih, List.all_cons]
def words1 : List Jvm.Cond := Jvm.Cond.code x code maxLocals ret :: tables_1
/-- a 'code' word, met by the world's own term for the bytes: nothing is compared byte by byte -/
theorem code_word {y : MethodName} {bytes : ByteArray} {mx : Nat} {rt : Option FieldType} {a : Array Value} {s : State} {m : MethodId} {meth : Method} {c : Code} (h1 : s.methodNamed? y = some m) (h2 : s.vm.method? m = some meth) (h3 : meth.code = some c) (h4 : c.code = bytes)
    (h5 : (c.maxLocals == mx && c.exceptionTable.isEmpty && decide (c.maxStack ≤ mostOperands) && decide (meth.sig.returnType = rt) && !meth.locks && decide (parseMethodDescriptor y.desc = some meth.sig)) = true) : (Jvm.Cond.code y bytes mx rt).before a s = true := by
  simp only [Bool.and_eq_true, beq_iff_eq, Bool.not_eq_true', decide_eq_true_eq] at h5
  obtain ⟨⟨⟨⟨⟨g1, g2⟩, g3⟩, g4⟩, g5⟩, g6⟩ := h5
  simp [Cond.before, Cond.holds, Cond.value, h1, h2, h3, h4, g1, g2, g3, g4, g5, g6]
def isCode : Jvm.Cond → Bool
  | .code _ _ _ _ => true
  | _ => false
theorem all_split {L : List Jvm.Cond} {P : Jvm.Cond → Bool} (h1 : L.all (fun c => isCode c || P c) = true) (h2 : ∀ c ∈ L.filter isCode, P c = true) : L.all P = true := by
  refine List.all_eq_true.mpr fun c hc => ?_
  have h := List.all_eq_true.mp h1 c hc
  rcases Bool.eq_false_or_eq_true (isCode c) with hi | hi
  · exact h2 c (List.mem_filter.mpr ⟨hc, hi⟩)
  · simpa [hi] using h
set_option maxRecDepth 65536 in
theorem w_c0 : (Jvm.Cond.code x code maxLocals ret).before args0 about1 = true := code_word (m := ⟨1, 1⟩) (meth := k1m1) (c := k1c1) (by decide +kernel) rfl rfl rfl (by decide +kernel)
set_option maxRecDepth 65536 in
theorem w_c1 : (Jvm.Cond.code ({ cls := "com/example/mapweft/mapweft/OptionsIsVerbosePinLaw", name := "at", desc := "(IZIIIJJ)C" } : Jvm.MethodName) method_3_code (14 : Nat) (Option.some Jvm.ClassFile.FieldType.char)).before args0 about1 = true := code_word (m := ⟨1, 2⟩) (meth := k1m2) (c := k1c2) (by decide +kernel) rfl rfl rfl (by decide +kernel)
set_option maxRecDepth 65536 in
theorem w_c2 : (Jvm.Cond.code ({ cls := "java/lang/String", name := "charAt", desc := "(I)C" } : Jvm.MethodName) jdk_42_method_56_code (2 : Nat) (Option.some Jvm.ClassFile.FieldType.char)).before args0 about1 = true := code_word (m := ⟨7, 2⟩) (meth := k7m2) (c := k7c2) (by decide +kernel) rfl rfl rfl (by decide +kernel)
set_option maxRecDepth 65536 in
theorem w_c3 : (Jvm.Cond.code ({ cls := "java/lang/String", name := "isLatin1", desc := "()Z" } : Jvm.MethodName) jdk_42_method_154_code (1 : Nat) (Option.some Jvm.ClassFile.FieldType.boolean)).before args0 about1 = true := code_word (m := ⟨7, 5⟩) (meth := k7m5) (c := k7c5) (by decide +kernel) rfl rfl rfl (by decide +kernel)
set_option maxRecDepth 65536 in
theorem w_c4 : (Jvm.Cond.code ({ cls := "java/lang/StringLatin1", name := "charAt", desc := "([BI)C" } : Jvm.MethodName) jdk_43_method_2_code (2 : Nat) (Option.some Jvm.ClassFile.FieldType.char)).before args0 about1 = true := code_word (m := ⟨8, 1⟩) (meth := k8m1) (c := k8c1) (by decide +kernel) rfl rfl rfl (by decide +kernel)
set_option maxRecDepth 65536 in
theorem w_c5 : (Jvm.Cond.code ({ cls := "java/lang/String", name := "checkIndex", desc := "(II)V" } : Jvm.MethodName) jdk_42_method_155_code (2 : Nat) (Option.none : Option Jvm.ClassFile.FieldType)).before args0 about1 = true := code_word (m := ⟨7, 6⟩) (meth := k7m6) (c := k7c6) (by decide +kernel) rfl rfl rfl (by decide +kernel)
set_option maxRecDepth 65536 in
theorem w_c6 : (Jvm.Cond.code ({ cls := "jdk/internal/util/Preconditions", name := "checkIndex", desc := "(IILjava/util/function/BiFunction;)I" } : Jvm.MethodName) jdk_41_method_11_code (3 : Nat) (Option.some Jvm.ClassFile.FieldType.int)).before args0 about1 = true := code_word (m := ⟨9, 1⟩) (meth := k9m1) (c := k9c1) (by decide +kernel) rfl rfl rfl (by decide +kernel)
set_option maxRecDepth 65536 in
theorem w_c7 : (Jvm.Cond.code ({ cls := "java/lang/String", name := "<init>", desc := "([C)V" } : Jvm.MethodName) jdk_42_method_3_code (2 : Nat) (Option.none : Option Jvm.ClassFile.FieldType)).before args0 about1 = true := code_word (m := ⟨7, 1⟩) (meth := k7m1) (c := k7c1) (by decide +kernel) rfl rfl rfl (by decide +kernel)
set_option maxRecDepth 65536 in
theorem w_c8 : (Jvm.Cond.code ({ cls := "java/lang/String", name := "<init>", desc := "([CIILjava/lang/Void;)V" } : Jvm.MethodName) jdk_42_method_149_code (6 : Nat) (Option.none : Option Jvm.ClassFile.FieldType)).before args0 about1 = true := code_word (m := ⟨7, 4⟩) (meth := k7m4) (c := k7c4) (by decide +kernel) rfl rfl rfl (by decide +kernel)
set_option maxRecDepth 65536 in
theorem w_c9 : (Jvm.Cond.code ({ cls := "java/lang/Object", name := "<init>", desc := "()V" } : Jvm.MethodName) object_method_1_code (1 : Nat) (Option.none : Option Jvm.ClassFile.FieldType)).before args0 about1 = true := code_word (m := ⟨0, 0⟩) (meth := k0m0) (c := k0c0) (by decide +kernel) rfl rfl rfl (by decide +kernel)
set_option maxRecDepth 65536 in
theorem w_c10 : (Jvm.Cond.code ({ cls := "com/example/mapweft/mapweft/Options", name := "isVerbose", desc := "(Ljava/lang/String;)Z" } : Jvm.MethodName) prog_4_method_2_code (1 : Nat) (Option.some Jvm.ClassFile.FieldType.boolean)).before args0 about1 = true := code_word (m := ⟨10, 0⟩) (meth := k10m0) (c := k10c0) (by decide +kernel) rfl rfl rfl (by decide +kernel)
set_option maxRecDepth 65536 in
theorem w_c11 : (Jvm.Cond.code ({ cls := "java/lang/String", name := "equals", desc := "(Ljava/lang/Object;)Z" } : Jvm.MethodName) jdk_42_method_66_code (3 : Nat) (Option.some Jvm.ClassFile.FieldType.boolean)).before args0 about1 = true := code_word (m := ⟨7, 3⟩) (meth := k7m3) (c := k7c3) (by decide +kernel) rfl rfl rfl (by decide +kernel)
set_option maxRecDepth 65536 in
theorem w_c12 : (Jvm.Cond.code ({ cls := "java/lang/StringLatin1", name := "equals", desc := "([B[B)Z" } : Jvm.MethodName) jdk_43_method_13_code (3 : Nat) (Option.some Jvm.ClassFile.FieldType.boolean)).before args0 about1 = true := code_word (m := ⟨8, 2⟩) (meth := k8m2) (c := k8c2) (by decide +kernel) rfl rfl rfl (by decide +kernel)
set_option maxRecDepth 65536 in
theorem w_c13 : (Jvm.Cond.code ({ cls := "java/lang/StringUTF16", name := "compress", desc := "([CII)[B" } : Jvm.MethodName) jdk_52_method_16_code (6 : Nat) (Option.some (Jvm.ClassFile.FieldType.array Jvm.ClassFile.FieldType.byte))).before args0 about1 = true := code_word (m := ⟨11, 2⟩) (meth := k11m2) (c := k11c2) (by decide +kernel) rfl rfl rfl (by decide +kernel)
set_option maxRecDepth 65536 in
theorem w_c14 : (Jvm.Cond.code ({ cls := "java/lang/StringUTF16", name := "compress", desc := "([CI[BII)I" } : Jvm.MethodName) jdk_52_method_21_code (7 : Nat) (Option.some Jvm.ClassFile.FieldType.int)).before args0 about1 = true := code_word (m := ⟨11, 3⟩) (meth := k11m3) (c := k11c3) (by decide +kernel) rfl rfl rfl (by decide +kernel)
set_option maxRecDepth 65536 in
theorem w_c15 : (Jvm.Cond.code ({ cls := "java/lang/StringUTF16", name := "coderFromArrayLen", desc := "([BI)B" } : Jvm.MethodName) jdk_52_method_15_code (2 : Nat) (Option.some Jvm.ClassFile.FieldType.byte)).before args0 about1 = true := code_word (m := ⟨11, 1⟩) (meth := k11m1) (c := k11c1) (by decide +kernel) rfl rfl rfl (by decide +kernel)
def codes1 : List Jvm.Cond := [Jvm.Cond.code x code maxLocals ret, Jvm.Cond.code ({ cls := "com/example/mapweft/mapweft/OptionsIsVerbosePinLaw", name := "at", desc := "(IZIIIJJ)C" } : Jvm.MethodName) method_3_code (14 : Nat) (Option.some Jvm.ClassFile.FieldType.char), Jvm.Cond.code ({ cls := "java/lang/String", name := "charAt", desc := "(I)C" } : Jvm.MethodName) jdk_42_method_56_code (2 : Nat) (Option.some Jvm.ClassFile.FieldType.char), Jvm.Cond.code ({ cls := "java/lang/String", name := "isLatin1", desc := "()Z" } : Jvm.MethodName) jdk_42_method_154_code (1 : Nat) (Option.some Jvm.ClassFile.FieldType.boolean), Jvm.Cond.code ({ cls := "java/lang/StringLatin1", name := "charAt", desc := "([BI)C" } : Jvm.MethodName) jdk_43_method_2_code (2 : Nat) (Option.some Jvm.ClassFile.FieldType.char), Jvm.Cond.code ({ cls := "java/lang/String", name := "checkIndex", desc := "(II)V" } : Jvm.MethodName) jdk_42_method_155_code (2 : Nat) (Option.none : Option Jvm.ClassFile.FieldType), Jvm.Cond.code ({ cls := "jdk/internal/util/Preconditions", name := "checkIndex", desc := "(IILjava/util/function/BiFunction;)I" } : Jvm.MethodName) jdk_41_method_11_code (3 : Nat) (Option.some Jvm.ClassFile.FieldType.int), Jvm.Cond.code ({ cls := "java/lang/String", name := "<init>", desc := "([C)V" } : Jvm.MethodName) jdk_42_method_3_code (2 : Nat) (Option.none : Option Jvm.ClassFile.FieldType), Jvm.Cond.code ({ cls := "java/lang/String", name := "<init>", desc := "([CIILjava/lang/Void;)V" } : Jvm.MethodName) jdk_42_method_149_code (6 : Nat) (Option.none : Option Jvm.ClassFile.FieldType), Jvm.Cond.code ({ cls := "java/lang/Object", name := "<init>", desc := "()V" } : Jvm.MethodName) object_method_1_code (1 : Nat) (Option.none : Option Jvm.ClassFile.FieldType), Jvm.Cond.code ({ cls := "com/example/mapweft/mapweft/Options", name := "isVerbose", desc := "(Ljava/lang/String;)Z" } : Jvm.MethodName) prog_4_method_2_code (1 : Nat) (Option.some Jvm.ClassFile.FieldType.boolean), Jvm.Cond.code ({ cls := "java/lang/String", name := "equals", desc := "(Ljava/lang/Object;)Z" } : Jvm.MethodName) jdk_42_method_66_code (3 : Nat) (Option.some Jvm.ClassFile.FieldType.boolean), Jvm.Cond.code ({ cls := "java/lang/StringLatin1", name := "equals", desc := "([B[B)Z" } : Jvm.MethodName) jdk_43_method_13_code (3 : Nat) (Option.some Jvm.ClassFile.FieldType.boolean), Jvm.Cond.code ({ cls := "java/lang/StringUTF16", name := "compress", desc := "([CII)[B" } : Jvm.MethodName) jdk_52_method_16_code (6 : Nat) (Option.some (Jvm.ClassFile.FieldType.array Jvm.ClassFile.FieldType.byte)), Jvm.Cond.code ({ cls := "java/lang/StringUTF16", name := "compress", desc := "([CI[BII)I" } : Jvm.MethodName) jdk_52_method_21_code (7 : Nat) (Option.some Jvm.ClassFile.FieldType.int), Jvm.Cond.code ({ cls := "java/lang/StringUTF16", name := "coderFromArrayLen", desc := "([BI)B" } : Jvm.MethodName) jdk_52_method_15_code (2 : Nat) (Option.some Jvm.ClassFile.FieldType.byte)]
set_option maxRecDepth 65536 in
theorem codes_eq : words1.filter isCode = codes1 := rfl
theorem w_codes : ∀ c ∈ words1.filter isCode, c.before args0 about1 = true := by
  rw [codes_eq]
  intro c hc
  simp only [codes1, List.mem_cons, List.not_mem_nil, or_false] at hc
  rcases hc with rfl | rfl | rfl | rfl | rfl | rfl | rfl | rfl | rfl | rfl | rfl | rfl | rfl | rfl | rfl | rfl
  · exact w_c0
  · exact w_c1
  · exact w_c2
  · exact w_c3
  · exact w_c4
  · exact w_c5
  · exact w_c6
  · exact w_c7
  · exact w_c8
  · exact w_c9
  · exact w_c10
  · exact w_c11
  · exact w_c12
  · exact w_c13
  · exact w_c14
  · exact w_c15
set_option maxRecDepth 65536 in
theorem w_t1 : (words1.take 24).all (fun c => isCode c || c.before args0 about1) = true := by decide +kernel
set_option maxRecDepth 65536 in
theorem w_t2 : ((words1.drop 24).take 24).all (fun c => isCode c || c.before args0 about1) = true := by decide +kernel
set_option maxRecDepth 65536 in
theorem w_t3 : (((words1.drop 24).drop 24).take 24).all (fun c => isCode c || c.before args0 about1) = true := by decide +kernel
set_option maxRecDepth 65536 in
theorem w_t4 : (((words1.drop 24).drop 24).drop 24).all (fun c => isCode c || c.before args0 about1) = true := by decide +kernel
theorem w_tables : (allAtoms (Jvm.Cond.code x code maxLocals ret :: tables_1)).before args0 about1 = true := by
  rw [allAtoms_all]
  show words1.all (fun c => c.before args0 about1) = true
  refine all_split ?_ w_codes
  rw [← List.take_append_drop 24 words1, List.all_append, w_t1, ← List.take_append_drop 24 (words1.drop 24), List.all_append, w_t2, ← List.take_append_drop 24 ((words1.drop 24).drop 24), List.all_append, w_t3, w_t4]
  rfl
set_option maxRecDepth 65536 in
theorem w_rest : rest_1_c.before args0 about1 = true := by decide +kernel
set_option maxRecDepth 65536 in
theorem w_case : (Jvm.Cond.and given_1 narrow_1).before args0 about1 = true := by decide +kernel
set_option maxRecDepth 65536 in
theorem w_consts : constsHeld consts_1 about1 := Jvm.Lit.constsHeldB_iff.mp (by decide +kernel)
theorem w_applies : (headSpec (Jvm.Cond.code x code maxLocals ret :: tables_1) room_1).applies x e0.platform about1 = true :=
  (Spec.applies_iff w_frames).mpr ⟨w_running, w_runnable, w_alone, w_named, w_hears, w_ripe, w_room, w_tables⟩
theorem atStart : AtStart classFile x code maxLocals ret World_1 tables_1 room_1 Calls_1 rest_1 Pre_1 launch0 p0 e0 about1 theMethod args0 below0 :=
  ⟨lists_1, trivial, launch0.admits_env _ _ _, launch0.least_env, fairChoices_fair.cas, fairChoices_fair.clock, w_frames, w_args, w_heap, w_applies, ⟨w_consts, trivial⟩, w_rest, w_case⟩
end start1
theorem witness_1 : WitnessClaimed_1 := ⟨start1.p0, start1.e0, start1.about1, start1.theMethod, start1.args0, start1.below0, start1.atStart⟩
end Jvm.Pilot.@@N@@
