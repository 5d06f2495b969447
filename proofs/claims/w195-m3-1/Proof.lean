import JvmDerived
import JvmDerived.Pilot.@@N@@Statement
import JvmDerived.Pilot.@@N@@Code
set_option linter.unusedVariables false
set_option linter.unusedSimpArgs false
namespace Jvm.RoadKit
open Sem ClassFile Op Lib Jvm.Stand Jvm.Free Jvm.LawKit
section Own
variable {p : Program} {l : Launch} {e : Env} {R : Room} {s : State} {m : MethodId} {args : Array Value} {below : List Frame} {meth : Method} {c : Code} {T T' : State} {locs : List Loc} {cells slots rc rs : Nat} {Q : Option Value → Heap → List Loc → Prop} {g g' : JFrame}
/-- from the state T with the top frame g the run ends in a return of which Q is true -/
def OwnGo (p : Program) (e : Env) (below : List Frame) (s : State) (rc rs : Nat) (Q : Option Value → Heap → List Loc → Prop) (T : State) (g : JFrame) : Prop :=
  ∃ (U : State) (o : Outcome), Steps p.tables e below (T.setTop g) U ∧ U.status = .running ∧ Ended U below o ∧ ∃ v L, o = .returned v ∧ Q v U.heap L ∧ FrameEnd s o U L rc rs
theorem OwnGo.st (k : ∀ target, Steps p.tables e below (T'.setTop g') target → Steps p.tables e below (T.setTop g) target) (h : OwnGo p e below s rc rs Q T' g') : OwnGo p e below s rc rs Q T g := by
  obtain ⟨U, o, h1, h2⟩ := h
  exact ⟨U, o, k _ h1, h2⟩
theorem OwnGo.join {ι : Type} {P : ι → Prop} {f : ι → JFrame} {T1 : State} (h : ∀ i, P i → OwnGo p e below s rc rs Q T1 (f i)) (k : (∀ i, P i → OwnGo p e below s rc rs Q T1 (f i)) → OwnGo p e below s rc rs Q T g) : OwnGo p e below s rc rs Q T g := k h
theorem OwnGo.cast (q : g = g') (h : OwnGo p e below s rc rs Q T g') : OwnGo p e below s rc rs Q T g := q ▸ h
theorem OwnGo.ret (X : Stand p l e R s m args below meth c T locs cells slots) (hx : p.tables.exec = Jvm.exec) {pc : Nat} {Ls : Array Slot} {w : Value} {t : FieldType} {i : Instr} {rest : List Value} (hret : meth.sig.returnType = some t) (hlk : meth.locks = false) (hn : narrow t w = w)
    (hi : (i = .ireturn ∧ (t = .int ∨ t = .boolean ∨ t = .byte ∨ t = .char ∨ t = .short) ∧ ∃ z, w = .int z) ∨ (i = .lreturn ∧ t = .long ∧ ∃ z, w = .long z) ∨ (i = .dreturn ∧ t = .double ∧ ∃ z, w = .double z) ∨ (i = .freturn ∧ t = .float ∧ ∃ z, w = .float z) ∨ (i = .areturn ∧ t.isReference = true ∧ w.isRef = true))
    (hd : decode c.code pc = .ok (i, 1)) (hQ : Q (some w) T.heap locs) (hc : cells ≤ rc) (hs : slots ≤ rs) : OwnGo p e below s rc rs Q T (mkF m pc Ls (w :: rest)) := by
  obtain ⟨fs, hr, hrun, hended, hW, hsame⟩ := X.leave (v := some w) (fun h => by rw [hret] at h; cases h) hlk
  exact ⟨_, _, retOut X hx hret hn hi hd hr, hrun, hended, _, _, rfl, hQ, ⟨_, rfl⟩, hW, hsame.mono hc hs⟩
theorem OwnGo.retN (X : Stand p l e R s m args below meth c T locs cells slots) (hx : p.tables.exec = Jvm.exec) {pc : Nat} {Ls : Array Slot} {z : Int32} {t : FieldType} {rest : List Value} (hret : meth.sig.returnType = some t) (hlk : meth.locks = false) (ht : t = .boolean ∨ t = .byte ∨ t = .char ∨ t = .short)
    (hd : decode c.code pc = .ok (.ireturn, 1)) (hQ : Q (some (.int (nar t z))) T.heap locs) (hc : cells ≤ rc) (hs : slots ≤ rs) : OwnGo p e below s rc rs Q T (mkF m pc Ls (.int z :: rest)) := by
  obtain ⟨fs, hr, hrun, hended, hW, hsame⟩ := X.leave (v := some (.int (nar t z))) (fun h => by rw [hret] at h; cases h) hlk
  exact ⟨_, _, Jvm.RoadKit.retN X hx hret ht hd hr, hrun, hended, _, _, rfl, hQ, ⟨_, rfl⟩, hW, hsame.mono hc hs⟩
theorem OwnGo.retV (X : Stand p l e R s m args below meth c T locs cells slots) (hx : p.tables.exec = Jvm.exec) {pc : Nat} {Ls : Array Slot} (hret : meth.sig.returnType = none) (hlk : meth.locks = false)
    (hd : decode c.code pc = .ok (.return_, 1)) (hQ : Q none T.heap locs) (hc : cells ≤ rc) (hs : slots ≤ rs) : OwnGo p e below s rc rs Q T (mkF m pc Ls []) := by
  obtain ⟨fs, hr, hrun, hended, hW, hsame⟩ := X.leave (v := none) (fun _ => rfl) hlk
  exact ⟨_, _, X.returnOut hx hret hd hr, hrun, hended, _, _, rfl, hQ, ⟨_, rfl⟩, hW, hsame.mono hc hs⟩
theorem own_met {y : MethodName} {bytes : ByteArray} {maxL : Nat} {ret : Option FieldType} {ws : List Jvm.Cond} {rm : Room} {Z : State} {as' : Array Value} {h0 : Heap} (hp : plainFor y = true)
    (body : ∀ (p : Program) (e : Env) (s : State) (m : MethodId) (below : List Frame) (meth : Method) (c : Code) (s₁ : State), Stand p l e rm s m as' below meth c s₁ [] 0 0 → p.tables.exec = Jvm.exec → c.code = bytes → c.maxLocals = maxL → meth.sig.returnType = ret → meth.locks = false → s.vm.findClass y.cls = some m.cls → meth.name = y.name → Z.Warmed39 s.vm → s₁.heap = h0 →
      OwnGo p e below s rm.cells rm.slots Q s₁ (entryFrame m as' maxL)) :
    MetFree l y (head1 (Jvm.Cond.code y bytes maxL ret :: ws) rm) (fun a U => a = as' ∧ Z.Warmed39 U.vm ∧ U.heap = h0) (fun _ _ _ _ _ => True) (fun _ U o U' => ∃ v L, o = .returned v ∧ Q v U'.heap L ∧ FrameEnd U o U' L rm.cells rm.slots) := by
  refine MetFree.of_bodySF hp hisR ?_
  intro p e s m args below meth c s₁ Bd hml0 hP hK
  obtain ⟨rfl, hZ, hh⟩ := hP
  exact body p e s m below meth c s₁ (Stand.of_body Bd) Bd.exec Bd.bytes hml0 Bd.returns Bd.notSynchronized (findClass_of_methodNamed Bd.named) (name_of_methodNamed Bd.named Bd.method).1 hZ (by rw [← hh, Bd.state]; rfl)
theorem own_len {Z : State} {h : Heap} {a : Addr} {cl : Cell} {ty : FieldType} {z : Int32} (hZ : Z.Warmed39 s.vm) (q : cl.slots.size.toInt32 = z) (A : Arr Z h a cl ty) (X : Stand p l e R s m args below meth c T locs cells slots) (eT : T.heap = h) (hx : p.tables.exec = Jvm.exec) {rest : List Value}
    (hg : g.method = m) (hst : g.stack = .ref a :: rest) (hd : decode c.code g.pc = .ok (.arraylength, 1)) (target : State) (k : Steps p.tables e below (T.setTop { g with pc := g.pc + 1, stack := .int z :: rest }) target) : Steps p.tables e below (T.setTop g) target := by
  refine X.arraylength hx (by rw [eT]; exact A.1) (State.isArrayOf_alike hZ.alike A.2.1) hg hst hd _ ?_
  rw [q]; exact k
theorem own_eqi {args : Array Value} {first U : State} {o : Option Outcome} {idx : List Nat} {a : Term} {k : Int32} (h : (Jvm.Cond.eq a (.int k)).value args first o U idx = some true) : a.eval args first o idx U = some (.int k) := Cond.eq_int (b := .int k) (by simp only [Cond.holds, h]; rfl) rfl
theorem own_eqv {args : Array Value} {first U : State} {o : Option Outcome} {idx : List Nat} {a b : Term} {v : Value} (h : (Jvm.Cond.eq a b).value args first o U idx = some true) (hb : b.eval args first o idx U = some v) (hv : v.isRef = true) : a.eval args first o idx U = some v := by
  obtain ⟨x, y, h1, h2, k1, k2⟩ := cmp_v (Or.inl h)
  cases h2.symm.trans hb
  have hx : x.isRef = true := by cases x <;> cases v <;> simp [Kin, Value.isRef] at k1 k2 hv ⊢
  rw [h1, gotT (eq_R h1 h2 hx hv) h]
theorem own_lenv {Z : State} {args : Array Value} {t : Term} {a : Addr} {cl : Cell} {ty : FieldType} {z : Int32} (ev : t.eval args Z none [] Z = some (.ref a)) (A : Arr Z Z.heap a cl ty) (h : (Jvm.Cond.eq (.length t) (.int z)).value args Z none Z [] = some true) : cl.slots.size < 2 ^ 31 ∧ cl.slots.size.toInt32 = z := by
  have e := own_eqi h
  have hA := A.fin (Vm.Alike.refl _)
  refine ⟨SBG.length_lt ev hA e, ?_⟩
  obtain ⟨a', c', e1, e2, e3⟩ := Term.length_spec e
  cases ev.symm.trans e1
  cases hA.symm.trans e2
  exact (Value.int.inj e3).symm
theorem own_elem {Z : State} {args : Array Value} {t : Term} {a : Addr} {cl : Cell} {ty : FieldType} {k : Int32} {v : Value} (ev : t.eval args Z none [] Z = some (.ref a)) (A : Arr Z Z.heap a cl ty) (h : (Term.elem t (.int k)).eval args Z none [] Z = some v) : cl.slots[k.toNatClampNeg]? = some v := (elem_in h ev rfl A.1).2
theorem own_narR {w : Value} {t : FieldType} (h : w.isRef = true) (ht : t.isReference = true) : narrow t w = w := by
  cases w <;> simp [Value.isRef] at h <;> cases t <;> simp [FieldType.isReference] at ht <;> rfl
theorem own_selp {C : String} {x y z : MethodName} (hz : (Jvm.Cond.selects C x z).before args s = true) (hcls : z.cls = y.cls) (hpriv : s.PrivateAt y) (hinst : (Jvm.Cond.instanceMethod y).before args s = true) (hy : y.cls ≠ "java/lang/invoke/MethodHandle" ∧ y.cls ≠ "java/lang/invoke/VarHandle") : (Jvm.Cond.selects y.cls y y).before args s = true := by
  obtain ⟨c, r, mz, h1, h2, h3, h4, mk, h5, h6⟩ := Cond.selects_spec hz
  exact selects_self_of_private (by rw [← hcls]; exact findClass_of_methodNamed h3) h5 h6 hpriv hinst hy
theorem own_nface {C : String} {x y z : MethodName} (hz : (Jvm.Cond.selects C x z).before args s = true) (hcls : z.cls = y.cls) : NotFace s y := fun r0 h0 => by
  obtain ⟨c, r, mz, h1, h2, h3, h4, mk, h5, h6⟩ := Cond.selects_spec hz
  have e1 : s.vm.findClass y.cls = some mz.cls := by rw [← hcls]; exact findClass_of_methodNamed h3
  have e2 : r0.cls = mz.cls := Option.some.inj ((findClass_of_methodNamed h0).symm.trans e1)
  exact ⟨mk, by rw [e2]; exact h5, h6⟩
theorem own_same {C : String} {x y z : MethodName} (hz : (Jvm.Cond.selects C x z).before args s = true) (hcls : z.cls = y.cls) (hinst : (Jvm.Cond.instanceMethod y).before args s = true) (hy : y.cls ≠ "java/lang/invoke/MethodHandle" ∧ y.cls ≠ "java/lang/invoke/VarHandle") : (Jvm.Cond.sameMethod y.cls y.cls y.name y.desc).before args s = true := by
  obtain ⟨c, r, mz, h1, h2, h3, h4, mk, h5, h6⟩ := Cond.selects_spec hz
  obtain ⟨ym, methM, hnamed, -, -, -⟩ := Cond.instanceMethod_spec hinst
  have hf : s.methodFound? y.cls y.name y.desc = some ym := State.methodFound?_of_named hnamed hy
  have hc : s.vm.findClass y.cls = some mz.cls := by rw [← hcls]; exact findClass_of_methodNamed h3
  simp [Cond.before, Cond.holds, Cond.value, hc, hf, hnamed, h5, h6]
theorem own_cat {w : Value} (h : w.isRef = true) : w.category = 1 := by cases w <;> simp [Value.isRef] at h <;> rfl
/-- an array of n places, whatever they hold -/
def OwnArr (Z : State) (h : Heap) (a : Addr) (ty : FieldType) (n : Nat) : Prop := ∃ cl : Cell, Arr Z h a cl ty ∧ cl.slots.size = n
theorem OwnArr.lt {Z : State} {h : Heap} {a : Addr} {ty : FieldType} {n : Nat} (F : OwnArr Z h a ty n) : a < h.size := by obtain ⟨_, A, -⟩ := F; exact A.lt
theorem OwnArr.ext {Z : State} {h h' : Heap} {a : Addr} {ty : FieldType} {n : Nat} (F : OwnArr Z h a ty n) (E : Ext h h') : OwnArr Z h' a ty n := by obtain ⟨c, A, S⟩ := F; exact ⟨c, A.ext E, S⟩
theorem OwnArr.keep {Z : State} {h h' : Heap} {a : Addr} {ty : FieldType} {n : Nat} {ws : List Addr} (F : OwnArr Z h a ty n) (K : Keep h h' ws) : OwnArr Z h' a ty n := by
  obtain ⟨c, ⟨A1, ⟨q1, q2⟩, A3⟩, S⟩ := F
  obtain ⟨c', e1, e2, e3, e4⟩ := K.2.2 _ _ A1
  exact ⟨c', ⟨e1, ⟨by rw [e3]; exact q1, by rw [e2]; exact q2⟩, by rw [e3]; exact A3⟩, e4.trans S⟩
theorem OwnArr.wr {Z : State} {h h' : Heap} {a b : Addr} {ty : FieldType} {n sl : Nat} {v : Value} (F : OwnArr Z h a ty n) (W : Wr h h' b sl v) : OwnArr Z h' a ty n := F.keep (Keep.of_wr W)
theorem OwnArr.of {Z : State} {h : Heap} {a : Addr} {k : ClassId} {ty : FieldType} {z : Int32} {vs : List Value} {d : Value} (F : Arv Z h a k ty z vs d) : OwnArr Z h a ty z.toNatClampNeg := by obtain ⟨c, A, -, S, -⟩ := F; exact ⟨c, A, S⟩
/-- an array of n ints (or bytes, chars, ..): place j holds f j -/
def OwnFn (Z : State) (h : Heap) (a : Addr) (ty : FieldType) (n : Nat) (f : Nat → Int32) : Prop := ∃ cl : Cell, Arr Z h a cl ty ∧ cl.slots.size = n ∧ ∀ j, j < n → cl.slots[j]? = some (.int (f j))
theorem OwnFn.lt {Z : State} {h : Heap} {a : Addr} {ty : FieldType} {n : Nat} {f : Nat → Int32} (F : OwnFn Z h a ty n f) : a < h.size := by obtain ⟨_, A, -⟩ := F; exact A.lt
theorem OwnFn.ext {Z : State} {h h' : Heap} {a : Addr} {ty : FieldType} {n : Nat} {f : Nat → Int32} (F : OwnFn Z h a ty n f) (E : Ext h h') : OwnFn Z h' a ty n f := by obtain ⟨c, A, r⟩ := F; exact ⟨c, A.ext E, r⟩
theorem OwnFn.keep {Z : State} {h h' : Heap} {a : Addr} {ty : FieldType} {n : Nat} {f : Nat → Int32} {ws : List Addr} (F : OwnFn Z h a ty n f) (K : Keep h h' ws) (q : a ∉ ws) : OwnFn Z h' a ty n f := by obtain ⟨c, A, r⟩ := F; exact ⟨c, ⟨K.2.1 a c A.1 q, A.2⟩, r⟩
theorem OwnFn.other {Z : State} {h h' : Heap} {a b : Addr} {ty : FieldType} {n sl : Nat} {f : Nat → Int32} {v : Value} (F : OwnFn Z h a ty n f) (W : Wr h h' b sl v) (q : a ≠ b) : OwnFn Z h' a ty n f := by obtain ⟨c, A, r⟩ := F; exact ⟨c, A.other W q, r⟩
theorem OwnFn.set {Z : State} {h h' : Heap} {a : Addr} {ty : FieldType} {n sl : Nat} {f : Nat → Int32} {v : Int32} (F : OwnFn Z h a ty n f) (W : Wr h h' a sl (.int v)) : OwnFn Z h' a ty n (fun j => if j = sl then v else f j) := by
  obtain ⟨c, A, S, H⟩ := F
  refine ⟨_, A.same W, by simp [Cell.setSlot, S], fun j hj => ?_⟩
  have e : (c.setSlot sl (.int v)).slots[j]? = if sl = j then some (.int v) else c.slots[j]? := by
    have hj' : j < c.slots.size := S ▸ hj
    simp only [Cell.setSlot, Array.getElem?_setIfInBounds]
    by_cases q : sl = j
    · subst q; simp [hj']
    · simp [q]
  rw [e]
  by_cases q : j = sl
  · subst q; simp
  · simp [q, Ne.symm q, H j hj]
theorem OwnFn.new {Z : State} {h : Heap} {a : Addr} {k : ClassId} {ty : FieldType} {z : Int32} (A : Arr Z h a (newA k ty z) ty) (hd : defaultValue ty = .int 0) : OwnFn Z h a ty z.toNatClampNeg (fun _ => 0) :=
  ⟨_, A, sz_new _ _ _, fun j hj => by simp [newA, hd, hj]⟩
theorem own_nb (x : Int32) : nar .byte x.toInt8.toInt32 = x.toInt8.toInt32 := by
  show (x.toInt8.toInt32).toInt8.toInt32 = _
  rw [Int8.toInt8_toInt32]
theorem OwnGo.iload (X : Stand p l e R s m args below meth c T locs cells slots) (hx : p.tables.exec = Jvm.exec) {pc : Nat} {L : Array Slot} {S : List Value} {k : Nat} {v : Int32} (hd : decode c.code pc = .ok (.iload k, 2)) (hl : L[k]? = some (.val (.int v))) (h : OwnGo p e below s rc rs Q T (mkF m (pc + 2) L (.int v :: S))) : OwnGo p e below s rc rs Q T (mkF m pc L S) := by
  exact .st (fun _ => XS.iload X.here hx rfl hd hl) h
theorem OwnGo.iloadN (X : Stand p l e R s m args below meth c T locs cells slots) (hx : p.tables.exec = Jvm.exec) {pc : Nat} {L : Array Slot} {S : List Value} {k : Fin 4} {v : Int32} (hd : decode c.code pc = .ok (.iload_n k, 1)) (hl : L[k.val]? = some (.val (.int v))) (h : OwnGo p e below s rc rs Q T (mkF m (pc + 1) L (.int v :: S))) : OwnGo p e below s rc rs Q T (mkF m pc L S) := by
  exact .st (fun _ => XS.iloadN X.here hx rfl hd hl) h
theorem OwnGo.aload (X : Stand p l e R s m args below meth c T locs cells slots) (hx : p.tables.exec = Jvm.exec) {pc : Nat} {L : Array Slot} {S : List Value} {k : Nat} {v : Value} (hd : decode c.code pc = .ok (.aload k, 2)) (hl : L[k]? = some (.val v)) (hv : v.isRef = true) (h : OwnGo p e below s rc rs Q T (mkF m (pc + 2) L (v :: S))) : OwnGo p e below s rc rs Q T (mkF m pc L S) := by
  exact .st (fun _ => XS.aload X.here hx rfl hd hl hv) h
theorem OwnGo.aloadN (X : Stand p l e R s m args below meth c T locs cells slots) (hx : p.tables.exec = Jvm.exec) {pc : Nat} {L : Array Slot} {S : List Value} {k : Fin 4} {v : Value} (hd : decode c.code pc = .ok (.aload_n k, 1)) (hl : L[k.val]? = some (.val v)) (hv : v.isRef = true) (h : OwnGo p e below s rc rs Q T (mkF m (pc + 1) L (v :: S))) : OwnGo p e below s rc rs Q T (mkF m pc L S) := by
  exact .st (fun _ => XS.aloadN X.here hx rfl hd hl hv) h
theorem OwnGo.iconst (X : Stand p l e R s m args below meth c T locs cells slots) (hx : p.tables.exec = Jvm.exec) {pc : Nat} {L : Array Slot} {S : List Value} {i : Int} {n : Int32} (hd : decode c.code pc = .ok (.iconst i, 1)) (hn : Int32.ofInt i = n) (h : OwnGo p e below s rc rs Q T (mkF m (pc + 1) L (.int n :: S))) : OwnGo p e below s rc rs Q T (mkF m pc L S) := by
  subst hn
  exact .st (fun _ => XS.iconst X.here hx rfl hd) h
theorem OwnGo.bipush (X : Stand p l e R s m args below meth c T locs cells slots) (hx : p.tables.exec = Jvm.exec) {pc : Nat} {L : Array Slot} {S : List Value} {i : Int} {n : Int32} (hd : decode c.code pc = .ok (.bipush i, 2)) (hn : (Int8.ofInt i).toInt32 = n) (h : OwnGo p e below s rc rs Q T (mkF m (pc + 2) L (.int n :: S))) : OwnGo p e below s rc rs Q T (mkF m pc L S) := by
  subst hn
  exact .st (fun _ => XS.bipush X.here hx rfl hd) h
theorem OwnGo.sipush (X : Stand p l e R s m args below meth c T locs cells slots) (hx : p.tables.exec = Jvm.exec) {pc : Nat} {L : Array Slot} {S : List Value} {i : Int} {n : Int32} (hd : decode c.code pc = .ok (.sipush i, 3)) (hn : (Int16.ofInt i).toInt32 = n) (h : OwnGo p e below s rc rs Q T (mkF m (pc + 3) L (.int n :: S))) : OwnGo p e below s rc rs Q T (mkF m pc L S) := by
  subst hn
  exact .st (fun _ => XS.sipush X.here hx rfl hd) h
theorem OwnGo.aconstNull (X : Stand p l e R s m args below meth c T locs cells slots) (hx : p.tables.exec = Jvm.exec) {pc : Nat} {L : Array Slot} {S : List Value}  (hd : decode c.code pc = .ok (.aconst_null, 1)) (h : OwnGo p e below s rc rs Q T (mkF m (pc + 1) L (.null :: S))) : OwnGo p e below s rc rs Q T (mkF m pc L S) := by
  exact .st (fun _ => XS.aconstNull X.here hx rfl hd) h
theorem OwnGo.dup (X : Stand p l e R s m args below meth c T locs cells slots) (hx : p.tables.exec = Jvm.exec) {pc : Nat} {L : Array Slot} {S : List Value} {x : Value} (hd : decode c.code pc = .ok (.dup, 1)) (hc : x.category = 1) (h : OwnGo p e below s rc rs Q T (mkF m (pc + 1) L (x :: x :: S))) : OwnGo p e below s rc rs Q T (mkF m pc L (x :: S)) := by
  exact .st (fun _ => XS.dup X.here hx rfl hd rfl hc) h
theorem OwnGo.goto (X : Stand p l e R s m args below meth c T locs cells slots) (hx : p.tables.exec = Jvm.exec) {pc : Nat} {L : Array Slot} {S : List Value} {o : Int} (pc' : Nat) (hd : decode c.code pc = .ok (.goto o, 3)) (ho : 0 ≤ (pc : Int) + o) (hp : ((pc : Int) + o).toNat = pc') (h : OwnGo p e below s rc rs Q T (mkF m pc' L S)) : OwnGo p e below s rc rs Q T (mkF m pc L S) := by
  exact .st (fun _ => XS.goto X.here hx rfl rfl hd ho hp) h
theorem OwnGo.istore (X : Stand p l e R s m args below meth c T locs cells slots) (hx : p.tables.exec = Jvm.exec) {pc : Nat} {L : Array Slot} {S : List Value} {k : Nat} {x : Int32} {L' : Array Slot} (hd : decode c.code pc = .ok (.istore k, 2)) (hl : storeLocals L k (.int x) = some L') (h : OwnGo p e below s rc rs Q T (mkF m (pc + 2) L' S)) : OwnGo p e below s rc rs Q T (mkF m pc L (.int x :: S)) := by
  exact .st (fun _ => XS.istore X.here hx rfl hd rfl hl) h
theorem OwnGo.istoreN (X : Stand p l e R s m args below meth c T locs cells slots) (hx : p.tables.exec = Jvm.exec) {pc : Nat} {L : Array Slot} {S : List Value} {k : Fin 4} {x : Int32} {L' : Array Slot} (hd : decode c.code pc = .ok (.istore_n k, 1)) (hl : storeLocals L k.val (.int x) = some L') (h : OwnGo p e below s rc rs Q T (mkF m (pc + 1) L' S)) : OwnGo p e below s rc rs Q T (mkF m pc L (.int x :: S)) := by
  exact .st (fun _ => XS.istoreN X.here hx rfl hd rfl hl) h
theorem OwnGo.astore (X : Stand p l e R s m args below meth c T locs cells slots) (hx : p.tables.exec = Jvm.exec) {pc : Nat} {L : Array Slot} {S : List Value} {k : Nat} {x : Value} {L' : Array Slot} (hd : decode c.code pc = .ok (.astore k, 2)) (hv : x.isRef = true) (hl : storeLocals L k x = some L') (h : OwnGo p e below s rc rs Q T (mkF m (pc + 2) L' S)) : OwnGo p e below s rc rs Q T (mkF m pc L (x :: S)) := by
  exact .st (fun _ => XS.astore X.here hx rfl hd rfl hv hl) h
theorem OwnGo.astoreN (X : Stand p l e R s m args below meth c T locs cells slots) (hx : p.tables.exec = Jvm.exec) {pc : Nat} {L : Array Slot} {S : List Value} {k : Fin 4} {x : Value} {L' : Array Slot} (hd : decode c.code pc = .ok (.astore_n k, 1)) (hv : x.isRef = true) (hl : storeLocals L k.val x = some L') (h : OwnGo p e below s rc rs Q T (mkF m (pc + 1) L' S)) : OwnGo p e below s rc rs Q T (mkF m pc L (x :: S)) := by
  exact .st (fun _ => XS.astoreN X.here hx rfl hd rfl hv hl) h
theorem OwnGo.iinc (X : Stand p l e R s m args below meth c T locs cells slots) (hx : p.tables.exec = Jvm.exec) {pc : Nat} {L : Array Slot} {S : List Value} {k : Nat} {cst : Int} {x y : Int32} {L' : Array Slot} (hd : decode c.code pc = .ok (.iinc k cst, 3)) (hl : L[k]? = some (.val (.int x))) (hn : x + Int32.ofInt cst = y) (hl' : storeLocals L k (.int y) = some L') (h : OwnGo p e below s rc rs Q T (mkF m (pc + 3) L' S)) : OwnGo p e below s rc rs Q T (mkF m pc L S) := by
  subst hn
  exact .st (fun _ => XS.iinc X.here hx rfl hd hl hl') h
theorem OwnGo.ifNo (X : Stand p l e R s m args below meth c T locs cells slots) (hx : p.tables.exec = Jvm.exec) {pc : Nat} {L : Array Slot} {S : List Value} {cd : ClassFile.Cond} {o : Int} {x : Int32} (hd : decode c.code pc = .ok (.ifCond cd o, 3)) (hc : ifCond.holds cd x = false) (h : OwnGo p e below s rc rs Q T (mkF m (pc + 3) L S)) : OwnGo p e below s rc rs Q T (mkF m pc L (.int x :: S)) := by
  exact .st (fun _ => XS.ifNo X.here hx rfl hd rfl hc) h
theorem OwnGo.ifYes (X : Stand p l e R s m args below meth c T locs cells slots) (hx : p.tables.exec = Jvm.exec) {pc : Nat} {L : Array Slot} {S : List Value} {cd : ClassFile.Cond} {o : Int} {x : Int32} (pc' : Nat) (hd : decode c.code pc = .ok (.ifCond cd o, 3)) (hc : ifCond.holds cd x = true) (ho : 0 ≤ (pc : Int) + o) (hp : ((pc : Int) + o).toNat = pc') (h : OwnGo p e below s rc rs Q T (mkF m pc' L S)) : OwnGo p e below s rc rs Q T (mkF m pc L (.int x :: S)) := by
  exact .st (fun _ => XS.ifYes X.here hx rfl rfl hd rfl hc ho hp) h
theorem OwnGo.icmpNo (X : Stand p l e R s m args below meth c T locs cells slots) (hx : p.tables.exec = Jvm.exec) {pc : Nat} {L : Array Slot} {S : List Value} {cd : ClassFile.Cond} {o : Int} {x y : Int32} (hd : decode c.code pc = .ok (.if_icmp cd o, 3)) (hc : if_icmp.holds cd x y = false) (h : OwnGo p e below s rc rs Q T (mkF m (pc + 3) L S)) : OwnGo p e below s rc rs Q T (mkF m pc L (.int y :: .int x :: S)) := by
  exact .st (fun _ => XS.icmpNo X.here hx rfl hd rfl hc) h
theorem OwnGo.icmpYes (X : Stand p l e R s m args below meth c T locs cells slots) (hx : p.tables.exec = Jvm.exec) {pc : Nat} {L : Array Slot} {S : List Value} {cd : ClassFile.Cond} {o : Int} {x y : Int32} (pc' : Nat) (hd : decode c.code pc = .ok (.if_icmp cd o, 3)) (hc : if_icmp.holds cd x y = true) (ho : 0 ≤ (pc : Int) + o) (hp : ((pc : Int) + o).toNat = pc') (h : OwnGo p e below s rc rs Q T (mkF m pc' L S)) : OwnGo p e below s rc rs Q T (mkF m pc L (.int y :: .int x :: S)) := by
  exact .st (fun _ => XS.icmpYes X.here hx rfl rfl hd rfl hc ho hp) h
end Own
end Jvm.RoadKit
namespace Jvm.RoadKit
open Sem ClassFile Op Lib Jvm.Stand Jvm.Free Jvm.LawKit
section OwnW
variable {p : Program} {l : Launch} {e : Env} {R : Room} {s : State} {vm0 : Vm} {m : MethodId} {args : Array Value} {below : List Frame} {meth : Method} {c : Code} {T T' Z : State} {locs : List Loc} {cells slots rc rs k0 : Nat} {Q : Option Value → Heap → List Loc → Prop} {g g' : JFrame} {EL : List (String × Nat)} {a0 : Array Value} {h0 h : Heap}
/-- the same, where String constants may be loaded: the wide frame, and the booked constants' invariant -/
def OwnGoW (p : Program) (e : Env) (below : List Frame) (s Z : State) (EL : List (String × Nat)) (rc rs : Nat) (Q : Option Value → Heap → List Loc → Prop) (T : State) (g : JFrame) : Prop :=
  ∃ (U : State) (o : Outcome), Steps p.tables e below (T.setTop g) U ∧ U.status = .running ∧ Ended U below o ∧ ∃ v L, o = .returned v ∧ Q v U.heap L ∧ CHr Z EL s.vm s.heap U.vm U.heap ∧ ReturnedEndW s o U L rc rs
theorem OwnGoW.st (k : ∀ target, Steps p.tables e below (T'.setTop g') target → Steps p.tables e below (T.setTop g) target) (h : OwnGoW p e below s Z EL rc rs Q T' g') : OwnGoW p e below s Z EL rc rs Q T g := by
  obtain ⟨U, o, h1, h2⟩ := h
  exact ⟨U, o, k _ h1, h2⟩
theorem OwnGoW.join {ι : Type} {P : ι → Prop} {f : ι → JFrame} {T1 : State} (h : ∀ i, P i → OwnGoW p e below s Z EL rc rs Q T1 (f i)) (k : (∀ i, P i → OwnGoW p e below s Z EL rc rs Q T1 (f i)) → OwnGoW p e below s Z EL rc rs Q T g) : OwnGoW p e below s Z EL rc rs Q T g := k h
theorem OwnGoW.cast (q : g = g') (h : OwnGoW p e below s Z EL rc rs Q T g') : OwnGoW p e below s Z EL rc rs Q T g := q ▸ h
theorem OwnGoW.ret (X : Stand p l e R (s.setVm vm0) m args below meth c T locs cells slots) (hS : s.Since vm0 k0) (hk : k0 ≤ h.size) (eT : T.heap = h) (hZ : Z.Warmed39 (s.setVm vm0).vm) (hEL : EW Z a0 EL) (CR : CHr Z EL s.vm s.heap vm0 h) (hx : p.tables.exec = Jvm.exec) {pc : Nat} {Ls : Array Slot} {w : Value} {t : FieldType} {i : Instr} {rest : List Value} (hret : meth.sig.returnType = some t) (hlk : meth.locks = false) (hn : narrow t w = w)
    (hi : (i = .ireturn ∧ (t = .int ∨ t = .boolean ∨ t = .byte ∨ t = .char ∨ t = .short) ∧ ∃ z, w = .int z) ∨ (i = .lreturn ∧ t = .long ∧ ∃ z, w = .long z) ∨ (i = .dreturn ∧ t = .double ∧ ∃ z, w = .double z) ∨ (i = .freturn ∧ t = .float ∧ ∃ z, w = .float z) ∨ (i = .areturn ∧ t.isReference = true ∧ w.isRef = true))
    (hd : decode c.code pc = .ok (i, 1)) (hQ : Q (some w) T.heap locs) (hc : cells ≤ rc) (hs : slots ≤ rs) : OwnGoW p e below s Z EL rc rs Q T (mkF m pc Ls (w :: rest)) := by
  subst eT
  have CX : CHr Z EL vm0 T.heap T.vm T.heap := CHv.at X hZ hEL CR.1
  obtain ⟨fs, hr, hrun, hended, e1, e2, e3, e4⟩ := X.leaveW (v := some w) hS hk (fun h => by rw [hret] at h; cases h) hlk
  exact ⟨_, _, retOut X hx hret hn hi hd hr, hrun, hended, _, _, rfl, hQ, CR.trans CX, e1, e2, e3, e4.mono hc hs⟩
theorem OwnGoW.retN (X : Stand p l e R (s.setVm vm0) m args below meth c T locs cells slots) (hS : s.Since vm0 k0) (hk : k0 ≤ h.size) (eT : T.heap = h) (hZ : Z.Warmed39 (s.setVm vm0).vm) (hEL : EW Z a0 EL) (CR : CHr Z EL s.vm s.heap vm0 h) (hx : p.tables.exec = Jvm.exec) {pc : Nat} {Ls : Array Slot} {z : Int32} {t : FieldType} {rest : List Value} (hret : meth.sig.returnType = some t) (hlk : meth.locks = false) (ht : t = .boolean ∨ t = .byte ∨ t = .char ∨ t = .short)
    (hd : decode c.code pc = .ok (.ireturn, 1)) (hQ : Q (some (.int (nar t z))) T.heap locs) (hc : cells ≤ rc) (hs : slots ≤ rs) : OwnGoW p e below s Z EL rc rs Q T (mkF m pc Ls (.int z :: rest)) := by
  subst eT
  have CX : CHr Z EL vm0 T.heap T.vm T.heap := CHv.at X hZ hEL CR.1
  obtain ⟨fs, hr, hrun, hended, e1, e2, e3, e4⟩ := X.leaveW (v := some (.int (nar t z))) hS hk (fun h => by rw [hret] at h; cases h) hlk
  exact ⟨_, _, Jvm.RoadKit.retN X hx hret ht hd hr, hrun, hended, _, _, rfl, hQ, CR.trans CX, e1, e2, e3, e4.mono hc hs⟩
theorem OwnGoW.retV (X : Stand p l e R (s.setVm vm0) m args below meth c T locs cells slots) (hS : s.Since vm0 k0) (hk : k0 ≤ h.size) (eT : T.heap = h) (hZ : Z.Warmed39 (s.setVm vm0).vm) (hEL : EW Z a0 EL) (CR : CHr Z EL s.vm s.heap vm0 h) (hx : p.tables.exec = Jvm.exec) {pc : Nat} {Ls : Array Slot} (hret : meth.sig.returnType = none) (hlk : meth.locks = false)
    (hd : decode c.code pc = .ok (.return_, 1)) (hQ : Q none T.heap locs) (hc : cells ≤ rc) (hs : slots ≤ rs) : OwnGoW p e below s Z EL rc rs Q T (mkF m pc Ls []) := by
  subst eT
  have CX : CHr Z EL vm0 T.heap T.vm T.heap := CHv.at X hZ hEL CR.1
  obtain ⟨fs, hr, hrun, hended, e1, e2, e3, e4⟩ := X.leaveW (v := none) hS hk (fun _ => rfl) hlk
  exact ⟨_, _, X.returnOut hx hret hd hr, hrun, hended, _, _, rfl, hQ, CR.trans CX, e1, e2, e3, e4.mono hc hs⟩
theorem own_metW {y : MethodName} {bytes : ByteArray} {maxL : Nat} {ret : Option FieldType} {ws : List Jvm.Cond} {rm : Room} {as' : Array Value} (hp : plainFor y = true)
    (body : ∀ (p : Program) (e : Env) (s : State) (m : MethodId) (below : List Frame) (meth : Method) (c : Code) (s₁ : State), Stand p l e rm (s.setVm s.vm) m as' below meth c s₁ [] 0 0 → p.tables.exec = Jvm.exec → c.code = bytes → c.maxLocals = maxL → meth.sig.returnType = ret → meth.locks = false → (s.setVm s.vm).vm.findClass y.cls = some m.cls → meth.name = y.name → Z.Warmed39 (s.setVm s.vm).vm → s₁.heap = h0 →
      s.Since s.vm h0.size → CHr Z EL s.vm s.heap s.vm h0 → OwnGoW p e below s Z EL rm.cells rm.slots Q s₁ (entryFrame m as' maxL)) :
    MetFree l y (head1 (Jvm.Cond.code y bytes maxL ret :: ws) rm) (fun a U => a = as' ∧ Z.Warmed39 U.vm ∧ U.heap = h0 ∧ CHv Z EL U.vm h0) (fun _ _ _ _ _ => True) (fun _ U o U' => ∃ v L, o = .returned v ∧ Q v U'.heap L ∧ CHr Z EL U.vm U.heap U'.vm U'.heap ∧ ReturnedEndW U o U' L rm.cells rm.slots) := by
  refine MetFree.of_bodySF hp hisR ?_
  intro p e s m args below meth c s₁ Bd hml0 hP hK
  obtain ⟨rfl, hZ, hh, hC⟩ := hP
  subst hh
  exact body p e s m below meth c s₁ (Stand.of_body Bd) Bd.exec Bd.bytes hml0 Bd.returns Bd.notSynchronized (findClass_of_methodNamed Bd.named) (name_of_methodNamed Bd.named Bd.method).1 hZ (by rw [Bd.state]; rfl) ((State.WarmedH.refl s).since _) (CHr.refl hC)
theorem OwnGoW.iload (X : Stand p l e R (s.setVm vm0) m args below meth c T locs cells slots) (hx : p.tables.exec = Jvm.exec) {pc : Nat} {L : Array Slot} {S : List Value} {k : Nat} {v : Int32} (hd : decode c.code pc = .ok (.iload k, 2)) (hl : L[k]? = some (.val (.int v))) (h : OwnGoW p e below s Z EL rc rs Q T (mkF m (pc + 2) L (.int v :: S))) : OwnGoW p e below s Z EL rc rs Q T (mkF m pc L S) := by
  exact .st (fun _ => XS.iload X.here hx rfl hd hl) h
theorem OwnGoW.iloadN (X : Stand p l e R (s.setVm vm0) m args below meth c T locs cells slots) (hx : p.tables.exec = Jvm.exec) {pc : Nat} {L : Array Slot} {S : List Value} {k : Fin 4} {v : Int32} (hd : decode c.code pc = .ok (.iload_n k, 1)) (hl : L[k.val]? = some (.val (.int v))) (h : OwnGoW p e below s Z EL rc rs Q T (mkF m (pc + 1) L (.int v :: S))) : OwnGoW p e below s Z EL rc rs Q T (mkF m pc L S) := by
  exact .st (fun _ => XS.iloadN X.here hx rfl hd hl) h
theorem OwnGoW.aload (X : Stand p l e R (s.setVm vm0) m args below meth c T locs cells slots) (hx : p.tables.exec = Jvm.exec) {pc : Nat} {L : Array Slot} {S : List Value} {k : Nat} {v : Value} (hd : decode c.code pc = .ok (.aload k, 2)) (hl : L[k]? = some (.val v)) (hv : v.isRef = true) (h : OwnGoW p e below s Z EL rc rs Q T (mkF m (pc + 2) L (v :: S))) : OwnGoW p e below s Z EL rc rs Q T (mkF m pc L S) := by
  exact .st (fun _ => XS.aload X.here hx rfl hd hl hv) h
theorem OwnGoW.aloadN (X : Stand p l e R (s.setVm vm0) m args below meth c T locs cells slots) (hx : p.tables.exec = Jvm.exec) {pc : Nat} {L : Array Slot} {S : List Value} {k : Fin 4} {v : Value} (hd : decode c.code pc = .ok (.aload_n k, 1)) (hl : L[k.val]? = some (.val v)) (hv : v.isRef = true) (h : OwnGoW p e below s Z EL rc rs Q T (mkF m (pc + 1) L (v :: S))) : OwnGoW p e below s Z EL rc rs Q T (mkF m pc L S) := by
  exact .st (fun _ => XS.aloadN X.here hx rfl hd hl hv) h
theorem OwnGoW.iconst (X : Stand p l e R (s.setVm vm0) m args below meth c T locs cells slots) (hx : p.tables.exec = Jvm.exec) {pc : Nat} {L : Array Slot} {S : List Value} {i : Int} {n : Int32} (hd : decode c.code pc = .ok (.iconst i, 1)) (hn : Int32.ofInt i = n) (h : OwnGoW p e below s Z EL rc rs Q T (mkF m (pc + 1) L (.int n :: S))) : OwnGoW p e below s Z EL rc rs Q T (mkF m pc L S) := by
  subst hn
  exact .st (fun _ => XS.iconst X.here hx rfl hd) h
theorem OwnGoW.bipush (X : Stand p l e R (s.setVm vm0) m args below meth c T locs cells slots) (hx : p.tables.exec = Jvm.exec) {pc : Nat} {L : Array Slot} {S : List Value} {i : Int} {n : Int32} (hd : decode c.code pc = .ok (.bipush i, 2)) (hn : (Int8.ofInt i).toInt32 = n) (h : OwnGoW p e below s Z EL rc rs Q T (mkF m (pc + 2) L (.int n :: S))) : OwnGoW p e below s Z EL rc rs Q T (mkF m pc L S) := by
  subst hn
  exact .st (fun _ => XS.bipush X.here hx rfl hd) h
theorem OwnGoW.sipush (X : Stand p l e R (s.setVm vm0) m args below meth c T locs cells slots) (hx : p.tables.exec = Jvm.exec) {pc : Nat} {L : Array Slot} {S : List Value} {i : Int} {n : Int32} (hd : decode c.code pc = .ok (.sipush i, 3)) (hn : (Int16.ofInt i).toInt32 = n) (h : OwnGoW p e below s Z EL rc rs Q T (mkF m (pc + 3) L (.int n :: S))) : OwnGoW p e below s Z EL rc rs Q T (mkF m pc L S) := by
  subst hn
  exact .st (fun _ => XS.sipush X.here hx rfl hd) h
theorem OwnGoW.aconstNull (X : Stand p l e R (s.setVm vm0) m args below meth c T locs cells slots) (hx : p.tables.exec = Jvm.exec) {pc : Nat} {L : Array Slot} {S : List Value}  (hd : decode c.code pc = .ok (.aconst_null, 1)) (h : OwnGoW p e below s Z EL rc rs Q T (mkF m (pc + 1) L (.null :: S))) : OwnGoW p e below s Z EL rc rs Q T (mkF m pc L S) := by
  exact .st (fun _ => XS.aconstNull X.here hx rfl hd) h
theorem OwnGoW.dup (X : Stand p l e R (s.setVm vm0) m args below meth c T locs cells slots) (hx : p.tables.exec = Jvm.exec) {pc : Nat} {L : Array Slot} {S : List Value} {x : Value} (hd : decode c.code pc = .ok (.dup, 1)) (hc : x.category = 1) (h : OwnGoW p e below s Z EL rc rs Q T (mkF m (pc + 1) L (x :: x :: S))) : OwnGoW p e below s Z EL rc rs Q T (mkF m pc L (x :: S)) := by
  exact .st (fun _ => XS.dup X.here hx rfl hd rfl hc) h
theorem OwnGoW.goto (X : Stand p l e R (s.setVm vm0) m args below meth c T locs cells slots) (hx : p.tables.exec = Jvm.exec) {pc : Nat} {L : Array Slot} {S : List Value} {o : Int} (pc' : Nat) (hd : decode c.code pc = .ok (.goto o, 3)) (ho : 0 ≤ (pc : Int) + o) (hp : ((pc : Int) + o).toNat = pc') (h : OwnGoW p e below s Z EL rc rs Q T (mkF m pc' L S)) : OwnGoW p e below s Z EL rc rs Q T (mkF m pc L S) := by
  exact .st (fun _ => XS.goto X.here hx rfl rfl hd ho hp) h
theorem OwnGoW.istore (X : Stand p l e R (s.setVm vm0) m args below meth c T locs cells slots) (hx : p.tables.exec = Jvm.exec) {pc : Nat} {L : Array Slot} {S : List Value} {k : Nat} {x : Int32} {L' : Array Slot} (hd : decode c.code pc = .ok (.istore k, 2)) (hl : storeLocals L k (.int x) = some L') (h : OwnGoW p e below s Z EL rc rs Q T (mkF m (pc + 2) L' S)) : OwnGoW p e below s Z EL rc rs Q T (mkF m pc L (.int x :: S)) := by
  exact .st (fun _ => XS.istore X.here hx rfl hd rfl hl) h
theorem OwnGoW.istoreN (X : Stand p l e R (s.setVm vm0) m args below meth c T locs cells slots) (hx : p.tables.exec = Jvm.exec) {pc : Nat} {L : Array Slot} {S : List Value} {k : Fin 4} {x : Int32} {L' : Array Slot} (hd : decode c.code pc = .ok (.istore_n k, 1)) (hl : storeLocals L k.val (.int x) = some L') (h : OwnGoW p e below s Z EL rc rs Q T (mkF m (pc + 1) L' S)) : OwnGoW p e below s Z EL rc rs Q T (mkF m pc L (.int x :: S)) := by
  exact .st (fun _ => XS.istoreN X.here hx rfl hd rfl hl) h
theorem OwnGoW.astore (X : Stand p l e R (s.setVm vm0) m args below meth c T locs cells slots) (hx : p.tables.exec = Jvm.exec) {pc : Nat} {L : Array Slot} {S : List Value} {k : Nat} {x : Value} {L' : Array Slot} (hd : decode c.code pc = .ok (.astore k, 2)) (hv : x.isRef = true) (hl : storeLocals L k x = some L') (h : OwnGoW p e below s Z EL rc rs Q T (mkF m (pc + 2) L' S)) : OwnGoW p e below s Z EL rc rs Q T (mkF m pc L (x :: S)) := by
  exact .st (fun _ => XS.astore X.here hx rfl hd rfl hv hl) h
theorem OwnGoW.astoreN (X : Stand p l e R (s.setVm vm0) m args below meth c T locs cells slots) (hx : p.tables.exec = Jvm.exec) {pc : Nat} {L : Array Slot} {S : List Value} {k : Fin 4} {x : Value} {L' : Array Slot} (hd : decode c.code pc = .ok (.astore_n k, 1)) (hv : x.isRef = true) (hl : storeLocals L k.val x = some L') (h : OwnGoW p e below s Z EL rc rs Q T (mkF m (pc + 1) L' S)) : OwnGoW p e below s Z EL rc rs Q T (mkF m pc L (x :: S)) := by
  exact .st (fun _ => XS.astoreN X.here hx rfl hd rfl hv hl) h
theorem OwnGoW.iinc (X : Stand p l e R (s.setVm vm0) m args below meth c T locs cells slots) (hx : p.tables.exec = Jvm.exec) {pc : Nat} {L : Array Slot} {S : List Value} {k : Nat} {cst : Int} {x y : Int32} {L' : Array Slot} (hd : decode c.code pc = .ok (.iinc k cst, 3)) (hl : L[k]? = some (.val (.int x))) (hn : x + Int32.ofInt cst = y) (hl' : storeLocals L k (.int y) = some L') (h : OwnGoW p e below s Z EL rc rs Q T (mkF m (pc + 3) L' S)) : OwnGoW p e below s Z EL rc rs Q T (mkF m pc L S) := by
  subst hn
  exact .st (fun _ => XS.iinc X.here hx rfl hd hl hl') h
theorem OwnGoW.ifNo (X : Stand p l e R (s.setVm vm0) m args below meth c T locs cells slots) (hx : p.tables.exec = Jvm.exec) {pc : Nat} {L : Array Slot} {S : List Value} {cd : ClassFile.Cond} {o : Int} {x : Int32} (hd : decode c.code pc = .ok (.ifCond cd o, 3)) (hc : ifCond.holds cd x = false) (h : OwnGoW p e below s Z EL rc rs Q T (mkF m (pc + 3) L S)) : OwnGoW p e below s Z EL rc rs Q T (mkF m pc L (.int x :: S)) := by
  exact .st (fun _ => XS.ifNo X.here hx rfl hd rfl hc) h
theorem OwnGoW.ifYes (X : Stand p l e R (s.setVm vm0) m args below meth c T locs cells slots) (hx : p.tables.exec = Jvm.exec) {pc : Nat} {L : Array Slot} {S : List Value} {cd : ClassFile.Cond} {o : Int} {x : Int32} (pc' : Nat) (hd : decode c.code pc = .ok (.ifCond cd o, 3)) (hc : ifCond.holds cd x = true) (ho : 0 ≤ (pc : Int) + o) (hp : ((pc : Int) + o).toNat = pc') (h : OwnGoW p e below s Z EL rc rs Q T (mkF m pc' L S)) : OwnGoW p e below s Z EL rc rs Q T (mkF m pc L (.int x :: S)) := by
  exact .st (fun _ => XS.ifYes X.here hx rfl rfl hd rfl hc ho hp) h
theorem OwnGoW.icmpNo (X : Stand p l e R (s.setVm vm0) m args below meth c T locs cells slots) (hx : p.tables.exec = Jvm.exec) {pc : Nat} {L : Array Slot} {S : List Value} {cd : ClassFile.Cond} {o : Int} {x y : Int32} (hd : decode c.code pc = .ok (.if_icmp cd o, 3)) (hc : if_icmp.holds cd x y = false) (h : OwnGoW p e below s Z EL rc rs Q T (mkF m (pc + 3) L S)) : OwnGoW p e below s Z EL rc rs Q T (mkF m pc L (.int y :: .int x :: S)) := by
  exact .st (fun _ => XS.icmpNo X.here hx rfl hd rfl hc) h
theorem OwnGoW.icmpYes (X : Stand p l e R (s.setVm vm0) m args below meth c T locs cells slots) (hx : p.tables.exec = Jvm.exec) {pc : Nat} {L : Array Slot} {S : List Value} {cd : ClassFile.Cond} {o : Int} {x y : Int32} (pc' : Nat) (hd : decode c.code pc = .ok (.if_icmp cd o, 3)) (hc : if_icmp.holds cd x y = true) (ho : 0 ≤ (pc : Int) + o) (hp : ((pc : Int) + o).toNat = pc') (h : OwnGoW p e below s Z EL rc rs Q T (mkF m pc' L S)) : OwnGoW p e below s Z EL rc rs Q T (mkF m pc L (.int y :: .int x :: S)) := by
  exact .st (fun _ => XS.icmpYes X.here hx rfl rfl hd rfl hc ho hp) h
end OwnW
end Jvm.RoadKit
namespace Jvm.RoadKit
open Sem ClassFile Op Lib Jvm.Stand Jvm.Free Jvm.LawKit
/-- a String whose value is null is no booked constant -/
theorem own_safe_null {Z : State} {EL : List (String × Nat)} {vm : Vm} {h : Heap} {x : Addr} (hal : Z.vm.Alike vm) (E : Exa Z h x "java/lang/String") (Fv : Fld Z h x "java/lang/String" "value" "[B" .null) : Safe Z EL vm h x := fun B => by
  obtain ⟨p, -, u, a, -, q, -, F, rfl | rfl⟩ := B
  · obtain ⟨cell, cf, k, i, f, e1, e2, -, -, -, -, e7⟩ := Fv
    cases (show h[q.sa]? = some q.sC from F.ha).symm.trans e1
    obtain ⟨cS, ⟨⟨-, -, -, ⟨c1, k1, i1, f1, -⟩, -, -, -, v1, -⟩, -⟩, -⟩ := F
    obtain ⟨k3, e3, -⟩ := State.fieldFound?_setVm (s := { Z with heap := h }) hal (show ({ Z with heap := h } : State).fieldFound? _ _ _ = _ from e2)
    have e4 := (show (Wst Z vm h).fieldFound? _ _ _ = _ from e3).symm.trans f1
    simp only [Option.some.injEq, Prod.mk.injEq] at e4
    rw [← e4.2.2.2, e7] at v1
    simp at v1
  · obtain ⟨cell, k, e1, e2, e3, -, -⟩ := E
    cases (show h[q.sd]? = some q.SA from F.hd).symm.trans e1
    obtain ⟨cS, -, -, f, -⟩ := F
    have f := (hal.findClass "[B" _).symm.trans (show vm.findClass "[B" = _ from f)
    obtain ⟨k1, q1, q2⟩ := Vm.findClass_spec f
    obtain ⟨k2, q3, q4⟩ := Vm.findClass_spec e2
    cases q1.symm.trans q3
    exact absurd (q2.symm.trans q4) (by decide)
end Jvm.RoadKit
set_option maxRecDepth 65536
set_option maxHeartbeats 40000000
namespace Jvm.Pilot.@@N@@
open Jvm Jvm.ClassFile Sem Op Lib Jvm.Free Jvm.Stand Jvm.LawKit Jvm.RoadKit Bundle Jvm.Pilot.@@N@@.Jvm.D
theorem W_ {Z : State} {a0 : Array Value} {d : Jvm.Cond} (hw : ∀ d ∈ tables_1, d.before a0 Z = true) (i : Nat) (h : tables_1[i]? = some d) : d.before a0 Z = true := hw d (List.mem_of_getElem? h)
abbrev own_tb (a0 : Array Value) (Z : State) : Prop := ∀ d ∈ tables_1, d.before a0 Z = true
abbrev OwnMet (l : Launch) (y : MethodName) (bytes : ByteArray) (ml : Nat) (rt : Option FieldType) (ws : List Jvm.Cond) (rm : Room) (as' : Array Value) (Z : State) (h0 : Heap) (Q : Option Value → Heap → List Loc → Prop) : Prop := MetFree l y (head1 (Jvm.Cond.code y bytes ml rt :: ws) rm) (fun as_ UU => as_ = as' ∧ Z.Warmed39 UU.vm ∧ UU.heap = h0) (fun _ _ _ _ _ => True) (fun _ UU oo UU' => ∃ vv LL, oo = .returned vv ∧ Q vv UU'.heap LL ∧ FrameEnd UU oo UU' LL rm.cells rm.slots)
def own_EL : List (String × Nat) := [("java/lang/String", 7)]
theorem own_sAt : ∀ a ∈ Bundle.stringAtoms, a ∈ tables_1 := by decide +kernel
theorem own_wS {Z : State} {a0 : Array Value} (hw : ∀ d ∈ tables_1, d.before a0 Z = true) : ∀ a ∈ Bundle.stringAtoms, a.before a0 Z = true := fun a ha => hw a (own_sAt a ha)
theorem own_hEL {Z : State} {a0 : Array Value} (hw : ∀ d ∈ tables_1, d.before a0 Z = true) : EW Z a0 own_EL := (EW.cons (W_ hw 19 rfl) (by decide) EW.nil)
theorem own_sh0 (z : Int32) : (z >>> ((0 : Int32) &&& 31)) = z := by
  apply Int32.toBitVec_inj.mp
  show BitVec.sshiftRight _ _ = _
  simp
theorem own_m5 (p n : Int32) (h : n = ((p &&& (2147483647 : Int32)) % (5 : Int32))) : n = (0 : Int32) ∨ n = (1 : Int32) ∨ n = (2 : Int32) ∨ n = (3 : Int32) ∨ n = (4 : Int32) := by
  have h1 := c_and p 2147483647 (by decide)
  have h2 := (c_irem (p &&& 2147483647) 5 5 (by decide)).1 h1.1
  rw [← h] at h2
  simp only [← Int32.toInt_inj]
  have e0 : (0 : Int32).toInt = 0 := by decide
  have e1 : (1 : Int32).toInt = 1 := by decide
  have e2 : (2 : Int32).toInt = 2 := by decide
  have e3 : (3 : Int32).toInt = 3 := by decide
  have e4 : (4 : Int32).toInt = 4 := by decide
  rw [e0, e1, e2, e3, e4]
  omega
theorem own_same1 {a b : Int32} {P : Prop} (h : (a = (1 : Int32) ∧ ¬ P) ∨ (a = (0 : Int32) ∧ P)) (k : (b = (1 : Int32) ∧ ¬ P) ∨ (b = (0 : Int32) ∧ P)) : a = b := by
  rcases h with ⟨rfl, h⟩ | ⟨rfl, h⟩ <;> rcases k with ⟨rfl, k⟩ | ⟨rfl, k⟩ <;> first | rfl | exact absurd k h | exact absurd h k
def own_lo (c : Int32) : Int32 := (c >>> ((0 : Int32) &&& 31)).toInt8.toInt32
def own_hi (c : Int32) : Int32 := (c >>> ((8 : Int32) &&& 31)).toInt8.toInt32
def own_u (c : Int32) : Prop := ¬ c < (0 : Int32) ∧ ¬ (65535 : Int32) < c
theorem own_u_of (p : Int32) : own_u (p.toUInt32.toUInt16.toUInt32.toInt32) := by
  have h2 := c_i2c p
  have e0 : (0 : Int32).toInt = 0 := by decide
  have e1 : (65535 : Int32).toInt = 65535 := by decide
  constructor
  · rw [Int32.lt_iff_toInt_lt]; omega
  · rw [Int32.lt_iff_toInt_lt]; omega
theorem own_uch {c : Int32} (h : own_u c) : ((((own_lo c &&& (255 : Int32)) <<< ((0 : Int32) &&& 31)) ||| ((own_hi c &&& (255 : Int32)) <<< ((8 : Int32) &&& 31))).toUInt32.toUInt16.toUInt32.toInt32) = c := by
  obtain ⟨h0, h1⟩ := h
  rw [Int32.lt_iff_toInt_lt] at h0 h1
  have e0 : (0 : Int32).toInt = 0 := by decide
  have e1 : (65535 : Int32).toInt = 65535 := by decide
  have a1 := c_ishr c 0 0 (by decide)
  have a2 := c_ishr c 8 8 (by decide)
  have b1 := c_i2b (c >>> ((0 : Int32) &&& 31))
  have b2 := c_i2b (c >>> ((8 : Int32) &&& 31))
  have m1 := c_mask (own_lo c) 255 8 (by decide) (by decide)
  have m2 := c_mask (own_hi c) 255 8 (by decide) (by decide)
  rw [show (c >>> ((0 : Int32) &&& 31)).toInt8.toInt32 = own_lo c from rfl] at b1
  rw [show (c >>> ((8 : Int32) &&& 31)).toInt8.toInt32 = own_hi c from rfl] at b2
  have p0 : ((2 ^ 0 : Nat) : Int) = 1 := by decide
  have p8 : ((2 ^ 8 : Nat) : Int) = 256 := by decide
  rw [p0] at a1
  rw [p8] at a2 m1 m2
  generalize own_lo c &&& (255 : Int32) = x at *
  generalize own_hi c &&& (255 : Int32) = y at *
  have s1 := c_ishl x 0 0 (by decide)
  have s2 := c_ishl y 8 8 (by decide)
  rw [p0] at s1
  rw [p8] at s2
  have rx := rng32 (x <<< ((0 : Int32) &&& 31))
  have ry := rng32 (y <<< ((8 : Int32) &&& 31))
  generalize x <<< ((0 : Int32) &&& 31) = u at *
  generalize y <<< ((8 : Int32) &&& 31) = v at *
  have o := c_or' u v 8 (by decide) 256 (by decide) (by omega) (by omega) (by omega)
  have ro := rng32 (u ||| v)
  generalize u ||| v = w at *
  have q := c_i2c w
  apply Int32.toInt_inj.mp
  omega
theorem own_unc {c : Int32} (h : own_u c) : nar .char c = c := by
  obtain ⟨h0, h1⟩ := h
  rw [Int32.lt_iff_toInt_lt] at h0 h1
  have e0 : (0 : Int32).toInt = 0 := by decide
  have e1 : (65535 : Int32).toInt = 65535 := by decide
  have q := c_i2c c
  show c.toUInt32.toUInt16.toUInt32.toInt32 = c
  apply Int32.toInt_inj.mp
  omega
theorem own_b32 {c : Int32} (h : own_u c) (h1 : ¬ (255 : Int32) < c) : c.toInt8.toInt32 = (32 : Int32) ↔ c = (32 : Int32) := by
  obtain ⟨h0, -⟩ := h
  rw [Int32.lt_iff_toInt_lt] at h0 h1
  have e0 : (0 : Int32).toInt = 0 := by decide
  have e1 : (255 : Int32).toInt = 255 := by decide
  have e2 : (32 : Int32).toInt = 32 := by decide
  have q := c_i2b c
  rw [← Int32.toInt_inj, ← Int32.toInt_inj, e2]
  omega
theorem own_nand {A B : Prop} (h : ¬ (¬ A ∧ B)) : A ∨ ¬ B := (Classical.em A).elim Or.inl (fun n => Or.inr (fun b => h ⟨n, b⟩))
def own_S1 (Z : State) (h : Heap) (x t : Addr) (kb : ClassId) (c0 : Int32) : Prop := Exa Z h x "java/lang/String" ∧ Fld Z h x "java/lang/String" "value" "[B" (.ref t) ∧ ((Fld Z h x "java/lang/String" "coder" "B" (.int (0 : Int32)) ∧ Arv Z h t kb .byte (1 : Int32) [(.int c0.toInt8.toInt32)] (.int (0 : Int32)) ∧ (¬ (255 : Int32) < c0)) ∨ (Fld Z h x "java/lang/String" "coder" "B" (.int (1 : Int32)) ∧ Arv Z h t kb .byte (2 : Int32) [(.int (own_lo c0)), (.int (own_hi c0))] (.int (0 : Int32))))
def own_S2 (Z : State) (h : Heap) (x t : Addr) (kb : ClassId) (c0 : Int32) (c1 : Int32) : Prop := Exa Z h x "java/lang/String" ∧ Fld Z h x "java/lang/String" "value" "[B" (.ref t) ∧ ((Fld Z h x "java/lang/String" "coder" "B" (.int (0 : Int32)) ∧ Arv Z h t kb .byte (2 : Int32) [(.int c0.toInt8.toInt32), (.int c1.toInt8.toInt32)] (.int (0 : Int32)) ∧ (¬ (255 : Int32) < c0 ∧ ¬ (255 : Int32) < c1)) ∨ (Fld Z h x "java/lang/String" "coder" "B" (.int (1 : Int32)) ∧ Arv Z h t kb .byte (4 : Int32) [(.int (own_lo c0)), (.int (own_hi c0)), (.int (own_lo c1)), (.int (own_hi c1))] (.int (0 : Int32))))
def own_S3 (Z : State) (h : Heap) (x t : Addr) (kb : ClassId) (c0 : Int32) (c1 : Int32) (c2 : Int32) : Prop := Exa Z h x "java/lang/String" ∧ Fld Z h x "java/lang/String" "value" "[B" (.ref t) ∧ ((Fld Z h x "java/lang/String" "coder" "B" (.int (0 : Int32)) ∧ Arv Z h t kb .byte (3 : Int32) [(.int c0.toInt8.toInt32), (.int c1.toInt8.toInt32), (.int c2.toInt8.toInt32)] (.int (0 : Int32)) ∧ (¬ (255 : Int32) < c0 ∧ ¬ (255 : Int32) < c1 ∧ ¬ (255 : Int32) < c2)) ∨ (Fld Z h x "java/lang/String" "coder" "B" (.int (1 : Int32)) ∧ Arv Z h t kb .byte (6 : Int32) [(.int (own_lo c0)), (.int (own_hi c0)), (.int (own_lo c1)), (.int (own_hi c1)), (.int (own_lo c2)), (.int (own_hi c2))] (.int (0 : Int32))))
def own_S4 (Z : State) (h : Heap) (x t : Addr) (kb : ClassId) (c0 : Int32) (c1 : Int32) (c2 : Int32) (c3 : Int32) : Prop := Exa Z h x "java/lang/String" ∧ Fld Z h x "java/lang/String" "value" "[B" (.ref t) ∧ ((Fld Z h x "java/lang/String" "coder" "B" (.int (0 : Int32)) ∧ Arv Z h t kb .byte (4 : Int32) [(.int c0.toInt8.toInt32), (.int c1.toInt8.toInt32), (.int c2.toInt8.toInt32), (.int c3.toInt8.toInt32)] (.int (0 : Int32)) ∧ (¬ (255 : Int32) < c0 ∧ ¬ (255 : Int32) < c1 ∧ ¬ (255 : Int32) < c2 ∧ ¬ (255 : Int32) < c3)) ∨ (Fld Z h x "java/lang/String" "coder" "B" (.int (1 : Int32)) ∧ Arv Z h t kb .byte (8 : Int32) [(.int (own_lo c0)), (.int (own_hi c0)), (.int (own_lo c1)), (.int (own_hi c1)), (.int (own_lo c2)), (.int (own_hi c2)), (.int (own_lo c3)), (.int (own_hi c3))] (.int (0 : Int32))))
abbrev OwnMetW (l : Launch) (y : MethodName) (bytes : ByteArray) (ml : Nat) (rt : Option FieldType) (ws : List Jvm.Cond) (rm : Room) (as' : Array Value) (Z : State) (h0 : Heap) (Q : Option Value → Heap → List Loc → Prop) : Prop := MetFree l y (head1 (Jvm.Cond.code y bytes ml rt :: ws) rm) (fun as_ UU => as_ = as' ∧ Z.Warmed39 UU.vm ∧ UU.heap = h0 ∧ CHv Z own_EL UU.vm h0) (fun _ _ _ _ _ => True) (fun _ UU oo UU' => ∃ vv LL, oo = .returned vv ∧ Q vv UU'.heap LL ∧ CHr Z own_EL UU.vm UU.heap UU'.vm UU'.heap ∧ ReturnedEndW UU oo UU' LL rm.cells rm.slots)
theorem d1_0 : decode method_3_code 0 = .ok (.iload_n 0, 1) := by decide +kernel
theorem d1_1 : decode method_3_code 1 = .ok (.ifCond .ne 14, 3) := by decide +kernel
theorem d1_4 : decode method_3_code 4 = .ok (.new 15, 3) := by decide +kernel
theorem d1_7 : decode method_3_code 7 = .ok (.dup, 1) := by decide +kernel
theorem d1_8 : decode method_3_code 8 = .ok (.iconst 0, 1) := by decide +kernel
theorem d1_9 : decode method_3_code 9 = .ok (.newarray .char, 2) := by decide +kernel
theorem d1_11 : decode method_3_code 11 = .ok (.invokespecial 26, 3) := by decide +kernel
theorem d1_14 : decode method_3_code 14 = .ok (.areturn, 1) := by decide +kernel
theorem d1_15 : decode method_3_code 15 = .ok (.iload_n 0, 1) := by decide +kernel
theorem d1_16 : decode method_3_code 16 = .ok (.iconst 1, 1) := by decide +kernel
theorem d1_17 : decode method_3_code 17 = .ok (.if_icmp .ne 8, 3) := by decide +kernel
theorem d1_20 : decode method_3_code 20 = .ok (.iload_n 1, 1) := by decide +kernel
theorem d1_21 : decode method_3_code 21 = .ok (.invokestatic 29, 3) := by decide +kernel
theorem d1_24 : decode method_3_code 24 = .ok (.areturn, 1) := by decide +kernel
theorem d1_25 : decode method_3_code 25 = .ok (.iload_n 0, 1) := by decide +kernel
theorem d1_26 : decode method_3_code 26 = .ok (.iconst 2, 1) := by decide +kernel
theorem d1_27 : decode method_3_code 27 = .ok (.if_icmp .ne 22, 3) := by decide +kernel
theorem d1_30 : decode method_3_code 30 = .ok (.new 15, 3) := by decide +kernel
theorem d1_33 : decode method_3_code 33 = .ok (.dup, 1) := by decide +kernel
theorem d1_34 : decode method_3_code 34 = .ok (.iconst 2, 1) := by decide +kernel
theorem d1_35 : decode method_3_code 35 = .ok (.newarray .char, 2) := by decide +kernel
theorem d1_37 : decode method_3_code 37 = .ok (.dup, 1) := by decide +kernel
theorem d1_38 : decode method_3_code 38 = .ok (.iconst 0, 1) := by decide +kernel
theorem d1_39 : decode method_3_code 39 = .ok (.iload_n 1, 1) := by decide +kernel
theorem d1_40 : decode method_3_code 40 = .ok (.castore, 1) := by decide +kernel
theorem d1_41 : decode method_3_code 41 = .ok (.dup, 1) := by decide +kernel
theorem d1_42 : decode method_3_code 42 = .ok (.iconst 1, 1) := by decide +kernel
theorem d1_43 : decode method_3_code 43 = .ok (.iload_n 2, 1) := by decide +kernel
theorem d1_44 : decode method_3_code 44 = .ok (.castore, 1) := by decide +kernel
theorem d1_45 : decode method_3_code 45 = .ok (.invokespecial 26, 3) := by decide +kernel
theorem d1_48 : decode method_3_code 48 = .ok (.areturn, 1) := by decide +kernel
theorem d1_49 : decode method_3_code 49 = .ok (.iload_n 0, 1) := by decide +kernel
theorem d1_50 : decode method_3_code 50 = .ok (.iconst 3, 1) := by decide +kernel
theorem d1_51 : decode method_3_code 51 = .ok (.if_icmp .ne 26, 3) := by decide +kernel
theorem d1_54 : decode method_3_code 54 = .ok (.new 15, 3) := by decide +kernel
theorem d1_57 : decode method_3_code 57 = .ok (.dup, 1) := by decide +kernel
theorem d1_58 : decode method_3_code 58 = .ok (.iconst 3, 1) := by decide +kernel
theorem d1_59 : decode method_3_code 59 = .ok (.newarray .char, 2) := by decide +kernel
theorem d1_61 : decode method_3_code 61 = .ok (.dup, 1) := by decide +kernel
theorem d1_62 : decode method_3_code 62 = .ok (.iconst 0, 1) := by decide +kernel
theorem d1_63 : decode method_3_code 63 = .ok (.iload_n 1, 1) := by decide +kernel
theorem d1_64 : decode method_3_code 64 = .ok (.castore, 1) := by decide +kernel
theorem d1_65 : decode method_3_code 65 = .ok (.dup, 1) := by decide +kernel
theorem d1_66 : decode method_3_code 66 = .ok (.iconst 1, 1) := by decide +kernel
theorem d1_67 : decode method_3_code 67 = .ok (.iload_n 2, 1) := by decide +kernel
theorem d1_68 : decode method_3_code 68 = .ok (.castore, 1) := by decide +kernel
theorem d1_69 : decode method_3_code 69 = .ok (.dup, 1) := by decide +kernel
theorem d1_70 : decode method_3_code 70 = .ok (.iconst 2, 1) := by decide +kernel
theorem d1_71 : decode method_3_code 71 = .ok (.iload_n 3, 1) := by decide +kernel
theorem d1_72 : decode method_3_code 72 = .ok (.castore, 1) := by decide +kernel
theorem d1_73 : decode method_3_code 73 = .ok (.invokespecial 26, 3) := by decide +kernel
theorem d1_76 : decode method_3_code 76 = .ok (.areturn, 1) := by decide +kernel
theorem d1_77 : decode method_3_code 77 = .ok (.new 15, 3) := by decide +kernel
theorem d1_80 : decode method_3_code 80 = .ok (.dup, 1) := by decide +kernel
theorem d1_81 : decode method_3_code 81 = .ok (.iconst 4, 1) := by decide +kernel
theorem d1_82 : decode method_3_code 82 = .ok (.newarray .char, 2) := by decide +kernel
theorem d1_84 : decode method_3_code 84 = .ok (.dup, 1) := by decide +kernel
theorem d1_85 : decode method_3_code 85 = .ok (.iconst 0, 1) := by decide +kernel
theorem d1_86 : decode method_3_code 86 = .ok (.iload_n 1, 1) := by decide +kernel
theorem d1_87 : decode method_3_code 87 = .ok (.castore, 1) := by decide +kernel
theorem d1_88 : decode method_3_code 88 = .ok (.dup, 1) := by decide +kernel
theorem d1_89 : decode method_3_code 89 = .ok (.iconst 1, 1) := by decide +kernel
theorem d1_90 : decode method_3_code 90 = .ok (.iload_n 2, 1) := by decide +kernel
theorem d1_91 : decode method_3_code 91 = .ok (.castore, 1) := by decide +kernel
theorem d1_92 : decode method_3_code 92 = .ok (.dup, 1) := by decide +kernel
theorem d1_93 : decode method_3_code 93 = .ok (.iconst 2, 1) := by decide +kernel
theorem d1_94 : decode method_3_code 94 = .ok (.iload_n 3, 1) := by decide +kernel
theorem d1_95 : decode method_3_code 95 = .ok (.castore, 1) := by decide +kernel
theorem d1_96 : decode method_3_code 96 = .ok (.dup, 1) := by decide +kernel
theorem d1_97 : decode method_3_code 97 = .ok (.iconst 3, 1) := by decide +kernel
theorem d1_98 : decode method_3_code 98 = .ok (.iload 4, 2) := by decide +kernel
theorem d1_100 : decode method_3_code 100 = .ok (.castore, 1) := by decide +kernel
theorem d1_101 : decode method_3_code 101 = .ok (.invokespecial 26, 3) := by decide +kernel
theorem d1_104 : decode method_3_code 104 = .ok (.areturn, 1) := by decide +kernel
theorem d2_0 : decode jdk_42_method_3_code 0 = .ok (.aload_n 0, 1) := by decide +kernel
theorem d2_1 : decode jdk_42_method_3_code 1 = .ok (.aload_n 1, 1) := by decide +kernel
theorem d2_2 : decode jdk_42_method_3_code 2 = .ok (.iconst 0, 1) := by decide +kernel
theorem d2_3 : decode jdk_42_method_3_code 3 = .ok (.aload_n 1, 1) := by decide +kernel
theorem d2_4 : decode jdk_42_method_3_code 4 = .ok (.arraylength, 1) := by decide +kernel
theorem d2_5 : decode jdk_42_method_3_code 5 = .ok (.aconst_null, 1) := by decide +kernel
theorem d2_6 : decode jdk_42_method_3_code 6 = .ok (.invokespecial 27, 3) := by decide +kernel
theorem d2_9 : decode jdk_42_method_3_code 9 = .ok (.return_, 1) := by decide +kernel
theorem d3_0 : decode jdk_42_method_149_code 0 = .ok (.aload_n 0, 1) := by decide +kernel
theorem d3_1 : decode jdk_42_method_149_code 1 = .ok (.invokespecial 1, 3) := by decide +kernel
theorem d3_4 : decode jdk_42_method_149_code 4 = .ok (.iload_n 3, 1) := by decide +kernel
theorem d3_5 : decode jdk_42_method_149_code 5 = .ok (.ifCond .ne 22, 3) := by decide +kernel
theorem d3_8 : decode jdk_42_method_149_code 8 = .ok (.aload_n 0, 1) := by decide +kernel
theorem d3_9 : decode jdk_42_method_149_code 9 = .ok (.ldc 7, 2) := by decide +kernel
theorem d3_11 : decode jdk_42_method_149_code 11 = .ok (.getfield 9, 3) := by decide +kernel
theorem d3_14 : decode jdk_42_method_149_code 14 = .ok (.putfield 9, 3) := by decide +kernel
theorem d3_17 : decode jdk_42_method_149_code 17 = .ok (.aload_n 0, 1) := by decide +kernel
theorem d3_18 : decode jdk_42_method_149_code 18 = .ok (.ldc 7, 2) := by decide +kernel
theorem d3_20 : decode jdk_42_method_149_code 20 = .ok (.getfield 15, 3) := by decide +kernel
theorem d3_23 : decode jdk_42_method_149_code 23 = .ok (.putfield 15, 3) := by decide +kernel
theorem d3_26 : decode jdk_42_method_149_code 26 = .ok (.return_, 1) := by decide +kernel
theorem d3_27 : decode jdk_42_method_149_code 27 = .ok (.getstatic 38, 3) := by decide +kernel
theorem d3_30 : decode jdk_42_method_149_code 30 = .ok (.ifCond .eq 28, 3) := by decide +kernel
theorem d3_33 : decode jdk_42_method_149_code 33 = .ok (.aload_n 1, 1) := by decide +kernel
theorem d3_34 : decode jdk_42_method_149_code 34 = .ok (.iload_n 2, 1) := by decide +kernel
theorem d3_35 : decode jdk_42_method_149_code 35 = .ok (.iload_n 3, 1) := by decide +kernel
theorem d3_36 : decode jdk_42_method_149_code 36 = .ok (.invokestatic 177, 3) := by decide +kernel
theorem d3_39 : decode jdk_42_method_149_code 39 = .ok (.astore 5, 2) := by decide +kernel
theorem d3_41 : decode jdk_42_method_149_code 41 = .ok (.aload_n 0, 1) := by decide +kernel
theorem d3_42 : decode jdk_42_method_149_code 42 = .ok (.aload 5, 2) := by decide +kernel
theorem d3_44 : decode jdk_42_method_149_code 44 = .ok (.iload_n 3, 1) := by decide +kernel
theorem d3_45 : decode jdk_42_method_149_code 45 = .ok (.invokestatic 47, 3) := by decide +kernel
theorem d3_48 : decode jdk_42_method_149_code 48 = .ok (.putfield 15, 3) := by decide +kernel
theorem d3_51 : decode jdk_42_method_149_code 51 = .ok (.aload_n 0, 1) := by decide +kernel
theorem d3_52 : decode jdk_42_method_149_code 52 = .ok (.aload 5, 2) := by decide +kernel
theorem d3_54 : decode jdk_42_method_149_code 54 = .ok (.putfield 9, 3) := by decide +kernel
theorem d3_57 : decode jdk_42_method_149_code 57 = .ok (.return_, 1) := by decide +kernel
theorem d5_0 : decode jdk_42_method_54_code 0 = .ok (.aload_n 0, 1) := by decide +kernel
theorem d5_1 : decode jdk_42_method_54_code 1 = .ok (.getfield 9, 3) := by decide +kernel
theorem d5_4 : decode jdk_42_method_54_code 4 = .ok (.arraylength, 1) := by decide +kernel
theorem d5_5 : decode jdk_42_method_54_code 5 = .ok (.aload_n 0, 1) := by decide +kernel
theorem d5_6 : decode jdk_42_method_54_code 6 = .ok (.invokevirtual 335, 3) := by decide +kernel
theorem d5_9 : decode jdk_42_method_54_code 9 = .ok (.ishr, 1) := by decide +kernel
theorem d5_10 : decode jdk_42_method_54_code 10 = .ok (.ireturn, 1) := by decide +kernel
theorem d6_0 : decode jdk_42_method_152_code 0 = .ok (.getstatic 38, 3) := by decide +kernel
theorem d6_3 : decode jdk_42_method_152_code 3 = .ok (.ifCond .eq 10, 3) := by decide +kernel
theorem d6_6 : decode jdk_42_method_152_code 6 = .ok (.aload_n 0, 1) := by decide +kernel
theorem d6_7 : decode jdk_42_method_152_code 7 = .ok (.getfield 15, 3) := by decide +kernel
theorem d6_10 : decode jdk_42_method_152_code 10 = .ok (.goto 4, 3) := by decide +kernel
theorem d6_14 : decode jdk_42_method_152_code 14 = .ok (.ireturn, 1) := by decide +kernel
theorem d7_0 : decode prog_27_method_5_code 0 = .ok (.aload_n 0, 1) := by decide +kernel
theorem d7_1 : decode prog_27_method_5_code 1 = .ok (.invokevirtual 57, 3) := by decide +kernel
theorem d7_4 : decode prog_27_method_5_code 4 = .ok (.ifCond .ne 16, 3) := by decide +kernel
theorem d7_7 : decode prog_27_method_5_code 7 = .ok (.aload_n 0, 1) := by decide +kernel
theorem d7_8 : decode prog_27_method_5_code 8 = .ok (.bipush 32, 2) := by decide +kernel
theorem d7_10 : decode prog_27_method_5_code 10 = .ok (.invokevirtual 136, 3) := by decide +kernel
theorem d7_13 : decode prog_27_method_5_code 13 = .ok (.ifCond .ge 7, 3) := by decide +kernel
theorem d7_16 : decode prog_27_method_5_code 16 = .ok (.iconst 1, 1) := by decide +kernel
theorem d7_17 : decode prog_27_method_5_code 17 = .ok (.goto 4, 3) := by decide +kernel
theorem d7_20 : decode prog_27_method_5_code 20 = .ok (.iconst 0, 1) := by decide +kernel
theorem d7_21 : decode prog_27_method_5_code 21 = .ok (.ireturn, 1) := by decide +kernel
theorem d8_0 : decode jdk_42_method_55_code 0 = .ok (.aload_n 0, 1) := by decide +kernel
theorem d8_1 : decode jdk_42_method_55_code 1 = .ok (.getfield 9, 3) := by decide +kernel
theorem d8_4 : decode jdk_42_method_55_code 4 = .ok (.arraylength, 1) := by decide +kernel
theorem d8_5 : decode jdk_42_method_55_code 5 = .ok (.ifCond .ne 7, 3) := by decide +kernel
theorem d8_8 : decode jdk_42_method_55_code 8 = .ok (.iconst 1, 1) := by decide +kernel
theorem d8_9 : decode jdk_42_method_55_code 9 = .ok (.goto 4, 3) := by decide +kernel
theorem d8_12 : decode jdk_42_method_55_code 12 = .ok (.iconst 0, 1) := by decide +kernel
theorem d8_13 : decode jdk_42_method_55_code 13 = .ok (.ireturn, 1) := by decide +kernel
theorem d9_0 : decode jdk_52_method_16_code 0 = .ok (.iload_n 2, 1) := by decide +kernel
theorem d9_1 : decode jdk_52_method_16_code 1 = .ok (.newarray .byte, 2) := by decide +kernel
theorem d9_3 : decode jdk_52_method_16_code 3 = .ok (.astore_n 3, 1) := by decide +kernel
theorem d9_4 : decode jdk_52_method_16_code 4 = .ok (.aload_n 0, 1) := by decide +kernel
theorem d9_5 : decode jdk_52_method_16_code 5 = .ok (.iload_n 1, 1) := by decide +kernel
theorem d9_6 : decode jdk_52_method_16_code 6 = .ok (.aload_n 3, 1) := by decide +kernel
theorem d9_7 : decode jdk_52_method_16_code 7 = .ok (.iconst 0, 1) := by decide +kernel
theorem d9_8 : decode jdk_52_method_16_code 8 = .ok (.iload_n 2, 1) := by decide +kernel
theorem d9_9 : decode jdk_52_method_16_code 9 = .ok (.invokestatic 115, 3) := by decide +kernel
theorem d9_12 : decode jdk_52_method_16_code 12 = .ok (.istore 4, 2) := by decide +kernel
theorem d9_14 : decode jdk_52_method_16_code 14 = .ok (.iload 4, 2) := by decide +kernel
theorem d9_16 : decode jdk_52_method_16_code 16 = .ok (.iload_n 2, 1) := by decide +kernel
theorem d9_17 : decode jdk_52_method_16_code 17 = .ok (.if_icmp .eq 40, 3) := by decide +kernel
theorem d9_20 : decode jdk_52_method_16_code 20 = .ok (.aload_n 0, 1) := by decide +kernel
theorem d9_21 : decode jdk_52_method_16_code 21 = .ok (.iload_n 1, 1) := by decide +kernel
theorem d9_22 : decode jdk_52_method_16_code 22 = .ok (.iload_n 2, 1) := by decide +kernel
theorem d9_23 : decode jdk_52_method_16_code 23 = .ok (.invokestatic 119, 3) := by decide +kernel
theorem d9_26 : decode jdk_52_method_16_code 26 = .ok (.astore 5, 2) := by decide +kernel
theorem d9_28 : decode jdk_52_method_16_code 28 = .ok (.aload 5, 2) := by decide +kernel
theorem d9_30 : decode jdk_52_method_16_code 30 = .ok (.iload 4, 2) := by decide +kernel
theorem d9_32 : decode jdk_52_method_16_code 32 = .ok (.invokestatic 71, 3) := by decide +kernel
theorem d9_35 : decode jdk_52_method_16_code 35 = .ok (.sipush 255, 3) := by decide +kernel
theorem d9_38 : decode jdk_52_method_16_code 38 = .ok (.if_icmp .gt 16, 3) := by decide +kernel
theorem d9_54 : decode jdk_52_method_16_code 54 = .ok (.aload 5, 2) := by decide +kernel
theorem d9_56 : decode jdk_52_method_16_code 56 = .ok (.areturn, 1) := by decide +kernel
theorem d9_57 : decode jdk_52_method_16_code 57 = .ok (.aload_n 3, 1) := by decide +kernel
theorem d9_58 : decode jdk_52_method_16_code 58 = .ok (.areturn, 1) := by decide +kernel
theorem d10_0 : decode jdk_52_method_21_code 0 = .ok (.iconst 0, 1) := by decide +kernel
theorem d10_1 : decode jdk_52_method_21_code 1 = .ok (.istore 5, 2) := by decide +kernel
theorem d10_3 : decode jdk_52_method_21_code 3 = .ok (.iload 5, 2) := by decide +kernel
theorem d10_5 : decode jdk_52_method_21_code 5 = .ok (.iload 4, 2) := by decide +kernel
theorem d10_7 : decode jdk_52_method_21_code 7 = .ok (.if_icmp .ge 37, 3) := by decide +kernel
theorem d10_10 : decode jdk_52_method_21_code 10 = .ok (.aload_n 0, 1) := by decide +kernel
theorem d10_11 : decode jdk_52_method_21_code 11 = .ok (.iload_n 1, 1) := by decide +kernel
theorem d10_12 : decode jdk_52_method_21_code 12 = .ok (.caload, 1) := by decide +kernel
theorem d10_13 : decode jdk_52_method_21_code 13 = .ok (.istore 6, 2) := by decide +kernel
theorem d10_15 : decode jdk_52_method_21_code 15 = .ok (.iload 6, 2) := by decide +kernel
theorem d10_17 : decode jdk_52_method_21_code 17 = .ok (.sipush 255, 3) := by decide +kernel
theorem d10_20 : decode jdk_52_method_21_code 20 = .ok (.if_icmp .le 6, 3) := by decide +kernel
theorem d10_23 : decode jdk_52_method_21_code 23 = .ok (.iload 5, 2) := by decide +kernel
theorem d10_25 : decode jdk_52_method_21_code 25 = .ok (.ireturn, 1) := by decide +kernel
theorem d10_26 : decode jdk_52_method_21_code 26 = .ok (.aload_n 2, 1) := by decide +kernel
theorem d10_27 : decode jdk_52_method_21_code 27 = .ok (.iload_n 3, 1) := by decide +kernel
theorem d10_28 : decode jdk_52_method_21_code 28 = .ok (.iload 6, 2) := by decide +kernel
theorem d10_30 : decode jdk_52_method_21_code 30 = .ok (.i2b, 1) := by decide +kernel
theorem d10_31 : decode jdk_52_method_21_code 31 = .ok (.bastore, 1) := by decide +kernel
theorem d10_32 : decode jdk_52_method_21_code 32 = .ok (.iinc 1 1, 3) := by decide +kernel
theorem d10_35 : decode jdk_52_method_21_code 35 = .ok (.iinc 3 1, 3) := by decide +kernel
theorem d10_38 : decode jdk_52_method_21_code 38 = .ok (.iinc 5 1, 3) := by decide +kernel
theorem d10_41 : decode jdk_52_method_21_code 41 = .ok (.goto (-38), 3) := by decide +kernel
theorem d10_44 : decode jdk_52_method_21_code 44 = .ok (.iload 4, 2) := by decide +kernel
theorem d10_46 : decode jdk_52_method_21_code 46 = .ok (.ireturn, 1) := by decide +kernel
theorem d11_0 : decode jdk_52_method_15_code 0 = .ok (.iload_n 1, 1) := by decide +kernel
theorem d11_1 : decode jdk_52_method_15_code 1 = .ok (.aload_n 0, 1) := by decide +kernel
theorem d11_2 : decode jdk_52_method_15_code 2 = .ok (.arraylength, 1) := by decide +kernel
theorem d11_3 : decode jdk_52_method_15_code 3 = .ok (.isub, 1) := by decide +kernel
theorem d11_4 : decode jdk_52_method_15_code 4 = .ok (.bipush 31, 2) := by decide +kernel
theorem d11_6 : decode jdk_52_method_15_code 6 = .ok (.iushr, 1) := by decide +kernel
theorem d11_7 : decode jdk_52_method_15_code 7 = .ok (.i2b, 1) := by decide +kernel
theorem d11_8 : decode jdk_52_method_15_code 8 = .ok (.ireturn, 1) := by decide +kernel
theorem d12_0 : decode jdk_42_method_79_code 0 = .ok (.aload_n 0, 1) := by decide +kernel
theorem d12_1 : decode jdk_42_method_79_code 1 = .ok (.iload_n 1, 1) := by decide +kernel
theorem d12_2 : decode jdk_42_method_79_code 2 = .ok (.iconst 0, 1) := by decide +kernel
theorem d12_3 : decode jdk_42_method_79_code 3 = .ok (.invokevirtual 633, 3) := by decide +kernel
theorem d12_6 : decode jdk_42_method_79_code 6 = .ok (.ireturn, 1) := by decide +kernel
theorem d13_0 : decode jdk_42_method_80_code 0 = .ok (.aload_n 0, 1) := by decide +kernel
theorem d13_1 : decode jdk_42_method_80_code 1 = .ok (.invokevirtual 492, 3) := by decide +kernel
theorem d13_4 : decode jdk_42_method_80_code 4 = .ok (.ifCond .eq 19, 3) := by decide +kernel
theorem d13_7 : decode jdk_42_method_80_code 7 = .ok (.aload_n 0, 1) := by decide +kernel
theorem d13_8 : decode jdk_42_method_80_code 8 = .ok (.getfield 9, 3) := by decide +kernel
theorem d13_11 : decode jdk_42_method_80_code 11 = .ok (.iload_n 1, 1) := by decide +kernel
theorem d13_12 : decode jdk_42_method_80_code 12 = .ok (.iload_n 2, 1) := by decide +kernel
theorem d13_13 : decode jdk_42_method_80_code 13 = .ok (.aload_n 0, 1) := by decide +kernel
theorem d13_14 : decode jdk_42_method_80_code 14 = .ok (.invokevirtual 505, 3) := by decide +kernel
theorem d13_17 : decode jdk_42_method_80_code 17 = .ok (.invokestatic 637, 3) := by decide +kernel
theorem d13_20 : decode jdk_42_method_80_code 20 = .ok (.goto 16, 3) := by decide +kernel
theorem d13_23 : decode jdk_42_method_80_code 23 = .ok (.aload_n 0, 1) := by decide +kernel
theorem d13_24 : decode jdk_42_method_80_code 24 = .ok (.getfield 9, 3) := by decide +kernel
theorem d13_27 : decode jdk_42_method_80_code 27 = .ok (.iload_n 1, 1) := by decide +kernel
theorem d13_28 : decode jdk_42_method_80_code 28 = .ok (.iload_n 2, 1) := by decide +kernel
theorem d13_29 : decode jdk_42_method_80_code 29 = .ok (.aload_n 0, 1) := by decide +kernel
theorem d13_30 : decode jdk_42_method_80_code 30 = .ok (.invokevirtual 505, 3) := by decide +kernel
theorem d13_33 : decode jdk_42_method_80_code 33 = .ok (.invokestatic 640, 3) := by decide +kernel
theorem d13_36 : decode jdk_42_method_80_code 36 = .ok (.ireturn, 1) := by decide +kernel
theorem d14_0 : decode jdk_42_method_154_code 0 = .ok (.getstatic 38, 3) := by decide +kernel
theorem d14_3 : decode jdk_42_method_154_code 3 = .ok (.ifCond .eq 14, 3) := by decide +kernel
theorem d14_6 : decode jdk_42_method_154_code 6 = .ok (.aload_n 0, 1) := by decide +kernel
theorem d14_7 : decode jdk_42_method_154_code 7 = .ok (.getfield 15, 3) := by decide +kernel
theorem d14_10 : decode jdk_42_method_154_code 10 = .ok (.ifCond .ne 7, 3) := by decide +kernel
theorem d14_13 : decode jdk_42_method_154_code 13 = .ok (.iconst 1, 1) := by decide +kernel
theorem d14_14 : decode jdk_42_method_154_code 14 = .ok (.goto 4, 3) := by decide +kernel
theorem d14_17 : decode jdk_42_method_154_code 17 = .ok (.iconst 0, 1) := by decide +kernel
theorem d14_18 : decode jdk_42_method_154_code 18 = .ok (.ireturn, 1) := by decide +kernel
theorem d15_0 : decode jdk_43_method_22_code 0 = .ok (.iload_n 1, 1) := by decide +kernel
theorem d15_1 : decode jdk_43_method_22_code 1 = .ok (.invokestatic 88, 3) := by decide +kernel
theorem d15_4 : decode jdk_43_method_22_code 4 = .ok (.ifCond .ne 5, 3) := by decide +kernel
theorem d15_9 : decode jdk_43_method_22_code 9 = .ok (.iload_n 2, 1) := by decide +kernel
theorem d15_10 : decode jdk_43_method_22_code 10 = .ok (.iconst 0, 1) := by decide +kernel
theorem d15_11 : decode jdk_43_method_22_code 11 = .ok (.invokestatic 92, 3) := by decide +kernel
theorem d15_14 : decode jdk_43_method_22_code 14 = .ok (.istore_n 2, 1) := by decide +kernel
theorem d15_15 : decode jdk_43_method_22_code 15 = .ok (.iload_n 3, 1) := by decide +kernel
theorem d15_16 : decode jdk_43_method_22_code 16 = .ok (.aload_n 0, 1) := by decide +kernel
theorem d15_17 : decode jdk_43_method_22_code 17 = .ok (.arraylength, 1) := by decide +kernel
theorem d15_18 : decode jdk_43_method_22_code 18 = .ok (.invokestatic 38, 3) := by decide +kernel
theorem d15_21 : decode jdk_43_method_22_code 21 = .ok (.istore_n 3, 1) := by decide +kernel
theorem d15_22 : decode jdk_43_method_22_code 22 = .ok (.iload_n 2, 1) := by decide +kernel
theorem d15_23 : decode jdk_43_method_22_code 23 = .ok (.iload_n 3, 1) := by decide +kernel
theorem d15_24 : decode jdk_43_method_22_code 24 = .ok (.if_icmp .lt 5, 3) := by decide +kernel
theorem d15_29 : decode jdk_43_method_22_code 29 = .ok (.aload_n 0, 1) := by decide +kernel
theorem d15_30 : decode jdk_43_method_22_code 30 = .ok (.iload_n 1, 1) := by decide +kernel
theorem d15_31 : decode jdk_43_method_22_code 31 = .ok (.iload_n 2, 1) := by decide +kernel
theorem d15_32 : decode jdk_43_method_22_code 32 = .ok (.iload_n 3, 1) := by decide +kernel
theorem d15_33 : decode jdk_43_method_22_code 33 = .ok (.invokestatic 95, 3) := by decide +kernel
theorem d15_36 : decode jdk_43_method_22_code 36 = .ok (.ireturn, 1) := by decide +kernel
theorem d16_0 : decode jdk_43_method_4_code 0 = .ok (.iload_n 0, 1) := by decide +kernel
theorem d16_1 : decode jdk_43_method_4_code 1 = .ok (.ifCond .lt 14, 3) := by decide +kernel
theorem d16_4 : decode jdk_43_method_4_code 4 = .ok (.iload_n 0, 1) := by decide +kernel
theorem d16_5 : decode jdk_43_method_4_code 5 = .ok (.sipush 255, 3) := by decide +kernel
theorem d16_8 : decode jdk_43_method_4_code 8 = .ok (.if_icmp .gt 7, 3) := by decide +kernel
theorem d16_11 : decode jdk_43_method_4_code 11 = .ok (.iconst 1, 1) := by decide +kernel
theorem d16_12 : decode jdk_43_method_4_code 12 = .ok (.goto 4, 3) := by decide +kernel
theorem d16_16 : decode jdk_43_method_4_code 16 = .ok (.ireturn, 1) := by decide +kernel
theorem d17_0 : decode jdk_29_method_65_code 0 = .ok (.iload_n 0, 1) := by decide +kernel
theorem d17_1 : decode jdk_29_method_65_code 1 = .ok (.iload_n 1, 1) := by decide +kernel
theorem d17_2 : decode jdk_29_method_65_code 2 = .ok (.if_icmp .lt 7, 3) := by decide +kernel
theorem d17_5 : decode jdk_29_method_65_code 5 = .ok (.iload_n 0, 1) := by decide +kernel
theorem d17_6 : decode jdk_29_method_65_code 6 = .ok (.goto 4, 3) := by decide +kernel
theorem d17_10 : decode jdk_29_method_65_code 10 = .ok (.ireturn, 1) := by decide +kernel
theorem d18_0 : decode jdk_29_method_69_code 0 = .ok (.iload_n 0, 1) := by decide +kernel
theorem d18_1 : decode jdk_29_method_69_code 1 = .ok (.iload_n 1, 1) := by decide +kernel
theorem d18_2 : decode jdk_29_method_69_code 2 = .ok (.if_icmp .gt 7, 3) := by decide +kernel
theorem d18_5 : decode jdk_29_method_69_code 5 = .ok (.iload_n 0, 1) := by decide +kernel
theorem d18_6 : decode jdk_29_method_69_code 6 = .ok (.goto 4, 3) := by decide +kernel
theorem d18_10 : decode jdk_29_method_69_code 10 = .ok (.ireturn, 1) := by decide +kernel
theorem d19_0 : decode jdk_43_method_23_code 0 = .ok (.iload_n 1, 1) := by decide +kernel
theorem d19_1 : decode jdk_43_method_23_code 1 = .ok (.i2b, 1) := by decide +kernel
theorem d19_2 : decode jdk_43_method_23_code 2 = .ok (.istore 4, 2) := by decide +kernel
theorem d19_4 : decode jdk_43_method_23_code 4 = .ok (.iload_n 2, 1) := by decide +kernel
theorem d19_5 : decode jdk_43_method_23_code 5 = .ok (.istore 5, 2) := by decide +kernel
theorem d19_7 : decode jdk_43_method_23_code 7 = .ok (.iload 5, 2) := by decide +kernel
theorem d19_9 : decode jdk_43_method_23_code 9 = .ok (.iload_n 3, 1) := by decide +kernel
theorem d19_10 : decode jdk_43_method_23_code 10 = .ok (.if_icmp .ge 21, 3) := by decide +kernel
theorem d19_13 : decode jdk_43_method_23_code 13 = .ok (.aload_n 0, 1) := by decide +kernel
theorem d19_14 : decode jdk_43_method_23_code 14 = .ok (.iload 5, 2) := by decide +kernel
theorem d19_16 : decode jdk_43_method_23_code 16 = .ok (.baload, 1) := by decide +kernel
theorem d19_17 : decode jdk_43_method_23_code 17 = .ok (.iload 4, 2) := by decide +kernel
theorem d19_19 : decode jdk_43_method_23_code 19 = .ok (.if_icmp .ne 6, 3) := by decide +kernel
theorem d19_22 : decode jdk_43_method_23_code 22 = .ok (.iload 5, 2) := by decide +kernel
theorem d19_24 : decode jdk_43_method_23_code 24 = .ok (.ireturn, 1) := by decide +kernel
theorem d19_25 : decode jdk_43_method_23_code 25 = .ok (.iinc 5 1, 3) := by decide +kernel
theorem d19_28 : decode jdk_43_method_23_code 28 = .ok (.goto (-21), 3) := by decide +kernel
theorem d19_31 : decode jdk_43_method_23_code 31 = .ok (.iconst (-1), 1) := by decide +kernel
theorem d19_32 : decode jdk_43_method_23_code 32 = .ok (.ireturn, 1) := by decide +kernel
theorem d20_0 : decode jdk_52_method_14_code 0 = .ok (.iload_n 2, 1) := by decide +kernel
theorem d20_1 : decode jdk_52_method_14_code 1 = .ok (.invokestatic 107, 3) := by decide +kernel
theorem d20_4 : decode jdk_52_method_14_code 4 = .ok (.astore_n 3, 1) := by decide +kernel
theorem d20_5 : decode jdk_52_method_14_code 5 = .ok (.iconst 0, 1) := by decide +kernel
theorem d20_6 : decode jdk_52_method_14_code 6 = .ok (.istore 4, 2) := by decide +kernel
theorem d20_8 : decode jdk_52_method_14_code 8 = .ok (.iload 4, 2) := by decide +kernel
theorem d20_10 : decode jdk_52_method_14_code 10 = .ok (.iload_n 2, 1) := by decide +kernel
theorem d20_11 : decode jdk_52_method_14_code 11 = .ok (.if_icmp .ge 21, 3) := by decide +kernel
theorem d20_14 : decode jdk_52_method_14_code 14 = .ok (.aload_n 3, 1) := by decide +kernel
theorem d20_15 : decode jdk_52_method_14_code 15 = .ok (.iload 4, 2) := by decide +kernel
theorem d20_17 : decode jdk_52_method_14_code 17 = .ok (.aload_n 0, 1) := by decide +kernel
theorem d20_18 : decode jdk_52_method_14_code 18 = .ok (.iload_n 1, 1) := by decide +kernel
theorem d20_19 : decode jdk_52_method_14_code 19 = .ok (.caload, 1) := by decide +kernel
theorem d20_20 : decode jdk_52_method_14_code 20 = .ok (.invokestatic 111, 3) := by decide +kernel
theorem d20_23 : decode jdk_52_method_14_code 23 = .ok (.iinc 1 1, 3) := by decide +kernel
theorem d20_26 : decode jdk_52_method_14_code 26 = .ok (.iinc 4 1, 3) := by decide +kernel
theorem d20_29 : decode jdk_52_method_14_code 29 = .ok (.goto (-21), 3) := by decide +kernel
theorem d20_32 : decode jdk_52_method_14_code 32 = .ok (.aload_n 3, 1) := by decide +kernel
theorem d20_33 : decode jdk_52_method_14_code 33 = .ok (.areturn, 1) := by decide +kernel
theorem d21_0 : decode jdk_52_method_2_code 0 = .ok (.iload_n 0, 1) := by decide +kernel
theorem d21_1 : decode jdk_52_method_2_code 1 = .ok (.invokestatic 11, 3) := by decide +kernel
theorem d21_4 : decode jdk_52_method_2_code 4 = .ok (.newarray .byte, 2) := by decide +kernel
theorem d21_6 : decode jdk_52_method_2_code 6 = .ok (.areturn, 1) := by decide +kernel
theorem d22_0 : decode jdk_52_method_3_code 0 = .ok (.iload_n 0, 1) := by decide +kernel
theorem d22_1 : decode jdk_52_method_3_code 1 = .ok (.ifCond .ge 11, 3) := by decide +kernel
theorem d22_12 : decode jdk_52_method_3_code 12 = .ok (.iload_n 0, 1) := by decide +kernel
theorem d22_13 : decode jdk_52_method_3_code 13 = .ok (.ldc 20, 2) := by decide +kernel
theorem d22_15 : decode jdk_52_method_3_code 15 = .ok (.if_icmp .lt 40, 3) := by decide +kernel
theorem d22_55 : decode jdk_52_method_3_code 55 = .ok (.iload_n 0, 1) := by decide +kernel
theorem d22_56 : decode jdk_52_method_3_code 56 = .ok (.iconst 1, 1) := by decide +kernel
theorem d22_57 : decode jdk_52_method_3_code 57 = .ok (.ishl, 1) := by decide +kernel
theorem d22_58 : decode jdk_52_method_3_code 58 = .ok (.ireturn, 1) := by decide +kernel
theorem d23_0 : decode jdk_52_method_4_code 0 = .ok (.getstatic 44, 3) := by decide +kernel
theorem d23_3 : decode jdk_52_method_4_code 3 = .ok (.ifCond .ne 25, 3) := by decide +kernel
theorem d23_28 : decode jdk_52_method_4_code 28 = .ok (.iload_n 1, 1) := by decide +kernel
theorem d23_29 : decode jdk_52_method_4_code 29 = .ok (.iconst 1, 1) := by decide +kernel
theorem d23_30 : decode jdk_52_method_4_code 30 = .ok (.ishl, 1) := by decide +kernel
theorem d23_31 : decode jdk_52_method_4_code 31 = .ok (.istore_n 1, 1) := by decide +kernel
theorem d23_32 : decode jdk_52_method_4_code 32 = .ok (.aload_n 0, 1) := by decide +kernel
theorem d23_33 : decode jdk_52_method_4_code 33 = .ok (.iload_n 1, 1) := by decide +kernel
theorem d23_34 : decode jdk_52_method_4_code 34 = .ok (.iinc 1 1, 3) := by decide +kernel
theorem d23_37 : decode jdk_52_method_4_code 37 = .ok (.iload_n 2, 1) := by decide +kernel
theorem d23_38 : decode jdk_52_method_4_code 38 = .ok (.getstatic 59, 3) := by decide +kernel
theorem d23_41 : decode jdk_52_method_4_code 41 = .ok (.ishr, 1) := by decide +kernel
theorem d23_42 : decode jdk_52_method_4_code 42 = .ok (.i2b, 1) := by decide +kernel
theorem d23_43 : decode jdk_52_method_4_code 43 = .ok (.bastore, 1) := by decide +kernel
theorem d23_44 : decode jdk_52_method_4_code 44 = .ok (.aload_n 0, 1) := by decide +kernel
theorem d23_45 : decode jdk_52_method_4_code 45 = .ok (.iload_n 1, 1) := by decide +kernel
theorem d23_46 : decode jdk_52_method_4_code 46 = .ok (.iload_n 2, 1) := by decide +kernel
theorem d23_47 : decode jdk_52_method_4_code 47 = .ok (.getstatic 63, 3) := by decide +kernel
theorem d23_50 : decode jdk_52_method_4_code 50 = .ok (.ishr, 1) := by decide +kernel
theorem d23_51 : decode jdk_52_method_4_code 51 = .ok (.i2b, 1) := by decide +kernel
theorem d23_52 : decode jdk_52_method_4_code 52 = .ok (.bastore, 1) := by decide +kernel
theorem d23_53 : decode jdk_52_method_4_code 53 = .ok (.return_, 1) := by decide +kernel
theorem d24_0 : decode jdk_52_method_5_code 0 = .ok (.getstatic 44, 3) := by decide +kernel
theorem d24_3 : decode jdk_52_method_5_code 3 = .ok (.ifCond .ne 25, 3) := by decide +kernel
theorem d24_28 : decode jdk_52_method_5_code 28 = .ok (.iload_n 1, 1) := by decide +kernel
theorem d24_29 : decode jdk_52_method_5_code 29 = .ok (.iconst 1, 1) := by decide +kernel
theorem d24_30 : decode jdk_52_method_5_code 30 = .ok (.ishl, 1) := by decide +kernel
theorem d24_31 : decode jdk_52_method_5_code 31 = .ok (.istore_n 1, 1) := by decide +kernel
theorem d24_32 : decode jdk_52_method_5_code 32 = .ok (.aload_n 0, 1) := by decide +kernel
theorem d24_33 : decode jdk_52_method_5_code 33 = .ok (.iload_n 1, 1) := by decide +kernel
theorem d24_34 : decode jdk_52_method_5_code 34 = .ok (.iinc 1 1, 3) := by decide +kernel
theorem d24_37 : decode jdk_52_method_5_code 37 = .ok (.baload, 1) := by decide +kernel
theorem d24_38 : decode jdk_52_method_5_code 38 = .ok (.sipush 255, 3) := by decide +kernel
theorem d24_41 : decode jdk_52_method_5_code 41 = .ok (.iand, 1) := by decide +kernel
theorem d24_42 : decode jdk_52_method_5_code 42 = .ok (.getstatic 59, 3) := by decide +kernel
theorem d24_45 : decode jdk_52_method_5_code 45 = .ok (.ishl, 1) := by decide +kernel
theorem d24_46 : decode jdk_52_method_5_code 46 = .ok (.aload_n 0, 1) := by decide +kernel
theorem d24_47 : decode jdk_52_method_5_code 47 = .ok (.iload_n 1, 1) := by decide +kernel
theorem d24_48 : decode jdk_52_method_5_code 48 = .ok (.baload, 1) := by decide +kernel
theorem d24_49 : decode jdk_52_method_5_code 49 = .ok (.sipush 255, 3) := by decide +kernel
theorem d24_52 : decode jdk_52_method_5_code 52 = .ok (.iand, 1) := by decide +kernel
theorem d24_53 : decode jdk_52_method_5_code 53 = .ok (.getstatic 63, 3) := by decide +kernel
theorem d24_56 : decode jdk_52_method_5_code 56 = .ok (.ishl, 1) := by decide +kernel
theorem d24_57 : decode jdk_52_method_5_code 57 = .ok (.ior, 1) := by decide +kernel
theorem d24_58 : decode jdk_52_method_5_code 58 = .ok (.i2c, 1) := by decide +kernel
theorem d24_59 : decode jdk_52_method_5_code 59 = .ok (.ireturn, 1) := by decide +kernel
theorem d25_0 : decode jdk_52_method_40_code 0 = .ok (.iload_n 2, 1) := by decide +kernel
theorem d25_1 : decode jdk_52_method_40_code 1 = .ok (.iconst 0, 1) := by decide +kernel
theorem d25_2 : decode jdk_52_method_40_code 2 = .ok (.invokestatic 224, 3) := by decide +kernel
theorem d25_5 : decode jdk_52_method_40_code 5 = .ok (.istore_n 2, 1) := by decide +kernel
theorem d25_6 : decode jdk_52_method_40_code 6 = .ok (.iload_n 3, 1) := by decide +kernel
theorem d25_7 : decode jdk_52_method_40_code 7 = .ok (.aload_n 0, 1) := by decide +kernel
theorem d25_8 : decode jdk_52_method_40_code 8 = .ok (.arraylength, 1) := by decide +kernel
theorem d25_9 : decode jdk_52_method_40_code 9 = .ok (.iconst 1, 1) := by decide +kernel
theorem d25_10 : decode jdk_52_method_40_code 10 = .ok (.ishr, 1) := by decide +kernel
theorem d25_11 : decode jdk_52_method_40_code 11 = .ok (.invokestatic 183, 3) := by decide +kernel
theorem d25_14 : decode jdk_52_method_40_code 14 = .ok (.istore_n 3, 1) := by decide +kernel
theorem d25_15 : decode jdk_52_method_40_code 15 = .ok (.iload_n 2, 1) := by decide +kernel
theorem d25_16 : decode jdk_52_method_40_code 16 = .ok (.iload_n 3, 1) := by decide +kernel
theorem d25_17 : decode jdk_52_method_40_code 17 = .ok (.if_icmp .lt 5, 3) := by decide +kernel
theorem d25_22 : decode jdk_52_method_40_code 22 = .ok (.iload_n 1, 1) := by decide +kernel
theorem d25_23 : decode jdk_52_method_40_code 23 = .ok (.ldc 227, 2) := by decide +kernel
theorem d25_25 : decode jdk_52_method_40_code 25 = .ok (.if_icmp .ge 11, 3) := by decide +kernel
theorem d25_28 : decode jdk_52_method_40_code 28 = .ok (.aload_n 0, 1) := by decide +kernel
theorem d25_29 : decode jdk_52_method_40_code 29 = .ok (.iload_n 1, 1) := by decide +kernel
theorem d25_30 : decode jdk_52_method_40_code 30 = .ok (.iload_n 2, 1) := by decide +kernel
theorem d25_31 : decode jdk_52_method_40_code 31 = .ok (.iload_n 3, 1) := by decide +kernel
theorem d25_32 : decode jdk_52_method_40_code 32 = .ok (.invokestatic 228, 3) := by decide +kernel
theorem d25_35 : decode jdk_52_method_40_code 35 = .ok (.ireturn, 1) := by decide +kernel
theorem d26_0 : decode jdk_52_method_47_code 0 = .ok (.iload_n 2, 1) := by decide +kernel
theorem d26_1 : decode jdk_52_method_47_code 1 = .ok (.iload_n 3, 1) := by decide +kernel
theorem d26_2 : decode jdk_52_method_47_code 2 = .ok (.aload_n 0, 1) := by decide +kernel
theorem d26_3 : decode jdk_52_method_47_code 3 = .ok (.invokestatic 96, 3) := by decide +kernel
theorem d26_6 : decode jdk_52_method_47_code 6 = .ok (.aload_n 0, 1) := by decide +kernel
theorem d26_7 : decode jdk_52_method_47_code 7 = .ok (.iload_n 1, 1) := by decide +kernel
theorem d26_8 : decode jdk_52_method_47_code 8 = .ok (.iload_n 2, 1) := by decide +kernel
theorem d26_9 : decode jdk_52_method_47_code 9 = .ok (.iload_n 3, 1) := by decide +kernel
theorem d26_10 : decode jdk_52_method_47_code 10 = .ok (.invokestatic 244, 3) := by decide +kernel
theorem d26_13 : decode jdk_52_method_47_code 13 = .ok (.ireturn, 1) := by decide +kernel
theorem d27_0 : decode jdk_52_method_93_code 0 = .ok (.iload_n 0, 1) := by decide +kernel
theorem d27_1 : decode jdk_52_method_93_code 1 = .ok (.iload_n 1, 1) := by decide +kernel
theorem d27_2 : decode jdk_52_method_93_code 2 = .ok (.aload_n 2, 1) := by decide +kernel
theorem d27_3 : decode jdk_52_method_93_code 3 = .ok (.invokestatic 48, 3) := by decide +kernel
theorem d27_6 : decode jdk_52_method_93_code 6 = .ok (.invokestatic 241, 3) := by decide +kernel
theorem d27_9 : decode jdk_52_method_93_code 9 = .ok (.return_, 1) := by decide +kernel
theorem d28_0 : decode jdk_52_method_6_code 0 = .ok (.aload_n 0, 1) := by decide +kernel
theorem d28_1 : decode jdk_52_method_6_code 1 = .ok (.arraylength, 1) := by decide +kernel
theorem d28_2 : decode jdk_52_method_6_code 2 = .ok (.iconst 1, 1) := by decide +kernel
theorem d28_3 : decode jdk_52_method_6_code 3 = .ok (.ishr, 1) := by decide +kernel
theorem d28_4 : decode jdk_52_method_6_code 4 = .ok (.ireturn, 1) := by decide +kernel
theorem d29_0 : decode jdk_42_method_158_code 0 = .ok (.iload_n 0, 1) := by decide +kernel
theorem d29_1 : decode jdk_42_method_158_code 1 = .ok (.iload_n 1, 1) := by decide +kernel
theorem d29_2 : decode jdk_42_method_158_code 2 = .ok (.iload_n 2, 1) := by decide +kernel
theorem d29_3 : decode jdk_42_method_158_code 3 = .ok (.getstatic 1053, 3) := by decide +kernel
theorem d29_6 : decode jdk_42_method_158_code 6 = .ok (.invokestatic 1062, 3) := by decide +kernel
theorem d29_9 : decode jdk_42_method_158_code 9 = .ok (.pop, 1) := by decide +kernel
theorem d29_10 : decode jdk_42_method_158_code 10 = .ok (.return_, 1) := by decide +kernel
theorem d30_0 : decode jdk_41_method_12_code 0 = .ok (.iload_n 0, 1) := by decide +kernel
theorem d30_1 : decode jdk_41_method_12_code 1 = .ok (.ifCond .lt 13, 3) := by decide +kernel
theorem d30_4 : decode jdk_41_method_12_code 4 = .ok (.iload_n 0, 1) := by decide +kernel
theorem d30_5 : decode jdk_41_method_12_code 5 = .ok (.iload_n 1, 1) := by decide +kernel
theorem d30_6 : decode jdk_41_method_12_code 6 = .ok (.if_icmp .gt 8, 3) := by decide +kernel
theorem d30_9 : decode jdk_41_method_12_code 9 = .ok (.iload_n 1, 1) := by decide +kernel
theorem d30_10 : decode jdk_41_method_12_code 10 = .ok (.iload_n 2, 1) := by decide +kernel
theorem d30_11 : decode jdk_41_method_12_code 11 = .ok (.if_icmp .le 11, 3) := by decide +kernel
theorem d30_22 : decode jdk_41_method_12_code 22 = .ok (.iload_n 0, 1) := by decide +kernel
theorem d30_23 : decode jdk_41_method_12_code 23 = .ok (.ireturn, 1) := by decide +kernel
theorem d31_0 : decode jdk_52_method_48_code 0 = .ok (.iload_n 2, 1) := by decide +kernel
theorem d31_1 : decode jdk_52_method_48_code 1 = .ok (.istore 4, 2) := by decide +kernel
theorem d31_3 : decode jdk_52_method_48_code 3 = .ok (.iload 4, 2) := by decide +kernel
theorem d31_5 : decode jdk_52_method_48_code 5 = .ok (.iload_n 3, 1) := by decide +kernel
theorem d31_6 : decode jdk_52_method_48_code 6 = .ok (.if_icmp .ge 22, 3) := by decide +kernel
theorem d31_9 : decode jdk_52_method_48_code 9 = .ok (.aload_n 0, 1) := by decide +kernel
theorem d31_10 : decode jdk_52_method_48_code 10 = .ok (.iload 4, 2) := by decide +kernel
theorem d31_12 : decode jdk_52_method_48_code 12 = .ok (.invokestatic 71, 3) := by decide +kernel
theorem d31_15 : decode jdk_52_method_48_code 15 = .ok (.iload_n 1, 1) := by decide +kernel
theorem d31_16 : decode jdk_52_method_48_code 16 = .ok (.if_icmp .ne 6, 3) := by decide +kernel
theorem d31_19 : decode jdk_52_method_48_code 19 = .ok (.iload 4, 2) := by decide +kernel
theorem d31_21 : decode jdk_52_method_48_code 21 = .ok (.ireturn, 1) := by decide +kernel
theorem d31_22 : decode jdk_52_method_48_code 22 = .ok (.iinc 4 1, 3) := by decide +kernel
theorem d31_25 : decode jdk_52_method_48_code 25 = .ok (.goto (-22), 3) := by decide +kernel
theorem d31_28 : decode jdk_52_method_48_code 28 = .ok (.iconst (-1), 1) := by decide +kernel
theorem d31_29 : decode jdk_52_method_48_code 29 = .ok (.ireturn, 1) := by decide +kernel
theorem d32_0 : decode jdk_42_method_139_code 0 = .ok (.getstatic 38, 3) := by decide +kernel
theorem d32_3 : decode jdk_42_method_139_code 3 = .ok (.ifCond .eq 23, 3) := by decide +kernel
theorem d32_6 : decode jdk_42_method_139_code 6 = .ok (.iload_n 0, 1) := by decide +kernel
theorem d32_7 : decode jdk_42_method_139_code 7 = .ok (.invokestatic 1015, 3) := by decide +kernel
theorem d32_10 : decode jdk_42_method_139_code 10 = .ok (.ifCond .eq 16, 3) := by decide +kernel
theorem d32_13 : decode jdk_42_method_139_code 13 = .ok (.new 10, 3) := by decide +kernel
theorem d32_16 : decode jdk_42_method_139_code 16 = .ok (.dup, 1) := by decide +kernel
theorem d32_17 : decode jdk_42_method_139_code 17 = .ok (.iload_n 0, 1) := by decide +kernel
theorem d32_18 : decode jdk_42_method_139_code 18 = .ok (.invokestatic 1018, 3) := by decide +kernel
theorem d32_21 : decode jdk_42_method_139_code 21 = .ok (.iconst 0, 1) := by decide +kernel
theorem d32_22 : decode jdk_42_method_139_code 22 = .ok (.invokespecial 209, 3) := by decide +kernel
theorem d32_25 : decode jdk_42_method_139_code 25 = .ok (.areturn, 1) := by decide +kernel
theorem d32_26 : decode jdk_42_method_139_code 26 = .ok (.new 10, 3) := by decide +kernel
theorem d32_29 : decode jdk_42_method_139_code 29 = .ok (.dup, 1) := by decide +kernel
theorem d32_30 : decode jdk_42_method_139_code 30 = .ok (.iload_n 0, 1) := by decide +kernel
theorem d32_31 : decode jdk_42_method_139_code 31 = .ok (.invokestatic 1021, 3) := by decide +kernel
theorem d32_34 : decode jdk_42_method_139_code 34 = .ok (.iconst 1, 1) := by decide +kernel
theorem d32_35 : decode jdk_42_method_139_code 35 = .ok (.invokespecial 209, 3) := by decide +kernel
theorem d32_38 : decode jdk_42_method_139_code 38 = .ok (.areturn, 1) := by decide +kernel
theorem d33_0 : decode jdk_43_method_3_code 0 = .ok (.iload_n 0, 1) := by decide +kernel
theorem d33_1 : decode jdk_43_method_3_code 1 = .ok (.sipush 255, 3) := by decide +kernel
theorem d33_4 : decode jdk_43_method_3_code 4 = .ok (.if_icmp .gt 7, 3) := by decide +kernel
theorem d33_7 : decode jdk_43_method_3_code 7 = .ok (.iconst 1, 1) := by decide +kernel
theorem d33_8 : decode jdk_43_method_3_code 8 = .ok (.goto 4, 3) := by decide +kernel
theorem d33_11 : decode jdk_43_method_3_code 11 = .ok (.iconst 0, 1) := by decide +kernel
theorem d33_12 : decode jdk_43_method_3_code 12 = .ok (.ireturn, 1) := by decide +kernel
theorem d34_0 : decode jdk_43_method_46_code 0 = .ok (.iconst 1, 1) := by decide +kernel
theorem d34_1 : decode jdk_43_method_46_code 1 = .ok (.newarray .byte, 2) := by decide +kernel
theorem d34_3 : decode jdk_43_method_46_code 3 = .ok (.dup, 1) := by decide +kernel
theorem d34_4 : decode jdk_43_method_46_code 4 = .ok (.iconst 0, 1) := by decide +kernel
theorem d34_5 : decode jdk_43_method_46_code 5 = .ok (.iload_n 0, 1) := by decide +kernel
theorem d34_6 : decode jdk_43_method_46_code 6 = .ok (.i2b, 1) := by decide +kernel
theorem d34_7 : decode jdk_43_method_46_code 7 = .ok (.bastore, 1) := by decide +kernel
theorem d34_8 : decode jdk_43_method_46_code 8 = .ok (.areturn, 1) := by decide +kernel
theorem d35_0 : decode jdk_42_method_151_code 0 = .ok (.aload_n 0, 1) := by decide +kernel
theorem d35_1 : decode jdk_42_method_151_code 1 = .ok (.invokespecial 1, 3) := by decide +kernel
theorem d35_4 : decode jdk_42_method_151_code 4 = .ok (.aload_n 0, 1) := by decide +kernel
theorem d35_5 : decode jdk_42_method_151_code 5 = .ok (.aload_n 1, 1) := by decide +kernel
theorem d35_6 : decode jdk_42_method_151_code 6 = .ok (.putfield 9, 3) := by decide +kernel
theorem d35_9 : decode jdk_42_method_151_code 9 = .ok (.aload_n 0, 1) := by decide +kernel
theorem d35_10 : decode jdk_42_method_151_code 10 = .ok (.iload_n 2, 1) := by decide +kernel
theorem d35_11 : decode jdk_42_method_151_code 11 = .ok (.putfield 15, 3) := by decide +kernel
theorem d35_14 : decode jdk_42_method_151_code 14 = .ok (.return_, 1) := by decide +kernel
theorem d36_0 : decode jdk_52_method_24_code 0 = .ok (.iconst 2, 1) := by decide +kernel
theorem d36_1 : decode jdk_52_method_24_code 1 = .ok (.newarray .byte, 2) := by decide +kernel
theorem d36_3 : decode jdk_52_method_24_code 3 = .ok (.astore_n 1, 1) := by decide +kernel
theorem d36_4 : decode jdk_52_method_24_code 4 = .ok (.aload_n 1, 1) := by decide +kernel
theorem d36_5 : decode jdk_52_method_24_code 5 = .ok (.iconst 0, 1) := by decide +kernel
theorem d36_6 : decode jdk_52_method_24_code 6 = .ok (.iload_n 0, 1) := by decide +kernel
theorem d36_7 : decode jdk_52_method_24_code 7 = .ok (.invokestatic 111, 3) := by decide +kernel
theorem d36_10 : decode jdk_52_method_24_code 10 = .ok (.aload_n 1, 1) := by decide +kernel
theorem d36_11 : decode jdk_52_method_24_code 11 = .ok (.areturn, 1) := by decide +kernel
theorem pd_0 : parseMethodDescriptor "()B" = some ⟨[], some .byte⟩ := by decide +kernel
theorem pd_1 : parseMethodDescriptor "(C)Z" = some ⟨[.char], some .boolean⟩ := by decide +kernel
theorem pd_2 : parseMethodDescriptor "(C)[B" = some ⟨[.char], some (.array .byte)⟩ := by decide +kernel
theorem pd_3 : parseMethodDescriptor "([BB)V" = some ⟨[(.array .byte), .byte], none⟩ := by decide +kernel
theorem pd_4 : parseMethodDescriptor "([BII)V" = some ⟨[(.array .byte), .int, .int], none⟩ := by decide +kernel
theorem pd_5 : parseMethodDescriptor "(I)I" = some ⟨[.int], some .int⟩ := by decide +kernel
theorem pd_6 : parseMethodDescriptor "(I)[B" = some ⟨[.int], some (.array .byte)⟩ := by decide +kernel
theorem pd_7 : parseMethodDescriptor "([CI[BII)I" = some ⟨[(.array .char), .int, (.array .byte), .int, .int], some .int⟩ := by decide +kernel
theorem pd_8 : parseMethodDescriptor "([CII)[B" = some ⟨[(.array .char), .int, .int], some (.array .byte)⟩ := by decide +kernel
theorem pd_9 : parseMethodDescriptor "([BI)C" = some ⟨[(.array .byte), .int], some .char⟩ := by decide +kernel
theorem pd_10 : parseMethodDescriptor "([BI)B" = some ⟨[(.array .byte), .int], some .byte⟩ := by decide +kernel
theorem pd_11 : parseMethodDescriptor "([CIILjava/lang/Void;)V" = some ⟨[(.array .char), .int, .int, (.object "java/lang/Void")], none⟩ := by decide +kernel
theorem pd_12 : parseMethodDescriptor "(C)Ljava/lang/String;" = some ⟨[.char], some (.object "java/lang/String")⟩ := by decide +kernel
theorem pd_13 : parseMethodDescriptor "([C)V" = some ⟨[(.array .char)], none⟩ := by decide +kernel
theorem pd_14 : parseMethodDescriptor "(IIILjava/util/function/BiFunction;)I" = some ⟨[.int, .int, .int, (.object "java/util/function/BiFunction")], some .int⟩ := by decide +kernel
theorem pd_15 : parseMethodDescriptor "([B)I" = some ⟨[(.array .byte)], some .int⟩ := by decide +kernel
theorem pd_16 : parseMethodDescriptor "(III)V" = some ⟨[.int, .int, .int], none⟩ := by decide +kernel
theorem pd_17 : parseMethodDescriptor "(I)Z" = some ⟨[.int], some .boolean⟩ := by decide +kernel
theorem pd_18 : parseMethodDescriptor "(II)I" = some ⟨[.int, .int], some .int⟩ := by decide +kernel
theorem pd_19 : parseMethodDescriptor "([BIII)I" = some ⟨[(.array .byte), .int, .int, .int], some .int⟩ := by decide +kernel
theorem pd_20 : parseMethodDescriptor "(II[B)V" = some ⟨[.int, .int, (.array .byte)], none⟩ := by decide +kernel
theorem pd_21 : parseMethodDescriptor "()Z" = some ⟨[], some .boolean⟩ := by decide +kernel
theorem pd_22 : parseMethodDescriptor "()I" = some ⟨[], some .int⟩ := by decide +kernel
theorem pd_23 : parseMethodDescriptor "(ICCCC)Ljava/lang/String;" = some ⟨[.int, .char, .char, .char, .char], some (.object "java/lang/String")⟩ := by decide +kernel
theorem pd_24 : parseMethodDescriptor "(Ljava/lang/String;)Z" = some ⟨[(.object "java/lang/String")], some .boolean⟩ := by decide +kernel
theorem pn_6 : plainName "java/lang/String" = true := by first | (simp [plainName, overriddenIn]; done) | decide +kernel
theorem pn_33 : plainName "java/lang/StringLatin1" = true := by first | (simp [plainName, overriddenIn]; done) | decide +kernel
theorem pn_23 : plainName "java/lang/StringUTF16" = true := by first | (simp [plainName, overriddenIn]; done) | decide +kernel
theorem pn_1 : plainName "com/example/tightrope/tightrope/format/TextFormatIsWordPinLaw" = true := by first | (simp [plainName, overriddenIn]; done) | decide +kernel
theorem pf_17 : plainFor (⟨"java/lang/Math", "max", "(II)I"⟩ : MethodName) = true := by decide +kernel
theorem pf_18 : plainFor (⟨"java/lang/Math", "min", "(II)I"⟩ : MethodName) = true := by decide +kernel
theorem pn_30 : plainName "jdk/internal/util/Preconditions" = true := by first | (simp [plainName, overriddenIn]; done) | decide +kernel
theorem pn_7 : plainName "com/example/tightrope/tightrope/format/TextFormat" = true := by first | (simp [plainName, overriddenIn]; done) | decide +kernel
theorem ef_coder (m : MethodId) (x0 : Addr) : entryFrame m #[(.ref x0)] 1 = mkF m 0 #[.val (.ref x0)] [] := by first | (simp [entryFrame, mkF, argsToLocals, Value.category]; done) | rfl
theorem ef_length (m : MethodId) (x0 : Addr) : entryFrame m #[(.ref x0)] 1 = mkF m 0 #[.val (.ref x0)] [] := by first | (simp [entryFrame, mkF, argsToLocals, Value.category]; done) | rfl
theorem ef_isLatin1 (m : MethodId) (x0 : Addr) : entryFrame m #[(.ref x0)] 1 = mkF m 0 #[.val (.ref x0)] [] := by first | (simp [entryFrame, mkF, argsToLocals, Value.category]; done) | rfl
theorem own_ki1 : Int32.ofInt 1 = (1 : Int32) := by decide
theorem ef_canEnc (m : MethodId) (x0 : Int32) : entryFrame m #[(.int x0)] 1 = mkF m 0 #[.val (.int x0)] [] := by first | (simp [entryFrame, mkF, argsToLocals, Value.category]; done) | rfl
theorem own_ks255 : (Int16.ofInt 255).toInt32 = (255 : Int32) := by decide
theorem ef_toB1 (m : MethodId) (x0 : Int32) : entryFrame m #[(.int x0)] 1 = mkF m 0 #[.val (.int x0)] [] := by first | (simp [entryFrame, mkF, argsToLocals, Value.category]; done) | rfl
theorem own_ki0 : Int32.ofInt 0 = (0 : Int32) := by decide
theorem ef_iniBB (m : MethodId) (x0 : Addr) (x1 : Addr) (x2 : Int32) : entryFrame m #[(.ref x0), (.ref x1), (.int x2)] 3 = mkF m 0 #[.val (.ref x0), .val (.ref x1), .val (.int x2)] [] := by first | (simp [entryFrame, mkF, argsToLocals, Value.category]; done) | rfl
theorem ef_valueOfC (m : MethodId) (x0 : Int32) : entryFrame m #[(.int x0)] 1 = mkF m 0 #[.val (.int x0)] [] := by first | (simp [entryFrame, mkF, argsToLocals, Value.category]; done) | rfl
theorem ef_putC0 (m : MethodId) (x0 : Addr) (x1 : Int32) (x2 : Int32) : entryFrame m #[(.ref x0), (.int x1), (.int x2)] 3 = mkF m 0 #[.val (.ref x0), .val (.int x1), .val (.int x2)] [] := by first | (simp [entryFrame, mkF, argsToLocals, Value.category]; done) | rfl
theorem own_ka0_1 : (0 : Int32) + Int32.ofInt 1 = (1 : Int32) := by decide
theorem ef_getC0 (m : MethodId) (x0 : Addr) (x1 : Int32) : entryFrame m #[(.ref x0), (.int x1)] 2 = mkF m 0 #[.val (.ref x0), .val (.int x1)] [] := by first | (simp [entryFrame, mkF, argsToLocals, Value.category]; done) | rfl
theorem ef_putC1 (m : MethodId) (x0 : Addr) (x1 : Int32) (x2 : Int32) : entryFrame m #[(.ref x0), (.int x1), (.int x2)] 3 = mkF m 0 #[.val (.ref x0), .val (.int x1), .val (.int x2)] [] := by first | (simp [entryFrame, mkF, argsToLocals, Value.category]; done) | rfl
theorem own_ka2_1 : (2 : Int32) + Int32.ofInt 1 = (3 : Int32) := by decide
theorem ef_getC1 (m : MethodId) (x0 : Addr) (x1 : Int32) : entryFrame m #[(.ref x0), (.int x1)] 2 = mkF m 0 #[.val (.ref x0), .val (.int x1)] [] := by first | (simp [entryFrame, mkF, argsToLocals, Value.category]; done) | rfl
theorem ef_putC2 (m : MethodId) (x0 : Addr) (x1 : Int32) (x2 : Int32) : entryFrame m #[(.ref x0), (.int x1), (.int x2)] 3 = mkF m 0 #[.val (.ref x0), .val (.int x1), .val (.int x2)] [] := by first | (simp [entryFrame, mkF, argsToLocals, Value.category]; done) | rfl
theorem own_ka4_1 : (4 : Int32) + Int32.ofInt 1 = (5 : Int32) := by decide
theorem ef_getC2 (m : MethodId) (x0 : Addr) (x1 : Int32) : entryFrame m #[(.ref x0), (.int x1)] 2 = mkF m 0 #[.val (.ref x0), .val (.int x1)] [] := by first | (simp [entryFrame, mkF, argsToLocals, Value.category]; done) | rfl
theorem ef_putC3 (m : MethodId) (x0 : Addr) (x1 : Int32) (x2 : Int32) : entryFrame m #[(.ref x0), (.int x1), (.int x2)] 3 = mkF m 0 #[.val (.ref x0), .val (.int x1), .val (.int x2)] [] := by first | (simp [entryFrame, mkF, argsToLocals, Value.category]; done) | rfl
theorem own_ka6_1 : (6 : Int32) + Int32.ofInt 1 = (7 : Int32) := by decide
theorem ef_getC3 (m : MethodId) (x0 : Addr) (x1 : Int32) : entryFrame m #[(.ref x0), (.int x1)] 2 = mkF m 0 #[.val (.ref x0), .val (.int x1)] [] := by first | (simp [entryFrame, mkF, argsToLocals, Value.category]; done) | rfl
theorem ef_toBu1 (m : MethodId) (x0 : Int32) : entryFrame m #[(.int x0)] 2 = mkF m 0 #[.val (.int x0), .unset] [] := by first | (simp [entryFrame, mkF, argsToLocals, Value.category]; done) | rfl
theorem own_ki2 : Int32.ofInt 2 = (2 : Int32) := by decide
theorem ef_nbl2 (m : MethodId) (x0 : Int32) : entryFrame m #[(.int x0)] 1 = mkF m 0 #[.val (.int x0)] [] := by first | (simp [entryFrame, mkF, argsToLocals, Value.category]; done) | rfl
theorem own_bg2_lt_1073741823 : (2 : Int32) < (1073741823 : Int32) := by decide
theorem ef_nbf2 (m : MethodId) (x0 : Int32) : entryFrame m #[(.int x0)] 1 = mkF m 0 #[.val (.int x0)] [] := by first | (simp [entryFrame, mkF, argsToLocals, Value.category]; done) | rfl
theorem ef_toB2 (m : MethodId) (x0 : Addr) (x1 : Int32) (x2 : Int32) : entryFrame m #[(.ref x0), (.int x1), (.int x2)] 5 = mkF m 0 #[.val (.ref x0), .val (.int x1), .val (.int x2), .unset, .unset] [] := by first | (simp [entryFrame, mkF, argsToLocals, Value.category]; done) | rfl
theorem own_ka1_1 : (1 : Int32) + Int32.ofInt 1 = (2 : Int32) := by decide
theorem ef_nbl3 (m : MethodId) (x0 : Int32) : entryFrame m #[(.int x0)] 1 = mkF m 0 #[.val (.int x0)] [] := by first | (simp [entryFrame, mkF, argsToLocals, Value.category]; done) | rfl
theorem own_bg3_lt_1073741823 : (3 : Int32) < (1073741823 : Int32) := by decide
theorem ef_nbf3 (m : MethodId) (x0 : Int32) : entryFrame m #[(.int x0)] 1 = mkF m 0 #[.val (.int x0)] [] := by first | (simp [entryFrame, mkF, argsToLocals, Value.category]; done) | rfl
theorem ef_toB3 (m : MethodId) (x0 : Addr) (x1 : Int32) (x2 : Int32) : entryFrame m #[(.ref x0), (.int x1), (.int x2)] 5 = mkF m 0 #[.val (.ref x0), .val (.int x1), .val (.int x2), .unset, .unset] [] := by first | (simp [entryFrame, mkF, argsToLocals, Value.category]; done) | rfl
theorem ef_nbl4 (m : MethodId) (x0 : Int32) : entryFrame m #[(.int x0)] 1 = mkF m 0 #[.val (.int x0)] [] := by first | (simp [entryFrame, mkF, argsToLocals, Value.category]; done) | rfl
theorem own_bg4_lt_1073741823 : (4 : Int32) < (1073741823 : Int32) := by decide
theorem ef_nbf4 (m : MethodId) (x0 : Int32) : entryFrame m #[(.int x0)] 1 = mkF m 0 #[.val (.int x0)] [] := by first | (simp [entryFrame, mkF, argsToLocals, Value.category]; done) | rfl
theorem ef_toB4 (m : MethodId) (x0 : Addr) (x1 : Int32) (x2 : Int32) : entryFrame m #[(.ref x0), (.int x1), (.int x2)] 5 = mkF m 0 #[.val (.ref x0), .val (.int x1), .val (.int x2), .unset, .unset] [] := by first | (simp [entryFrame, mkF, argsToLocals, Value.category]; done) | rfl
theorem own_ka3_1 : (3 : Int32) + Int32.ofInt 1 = (4 : Int32) := by decide
theorem ef_cmpL2 (m : MethodId) (x0 : Addr) (x1 : Int32) (x2 : Addr) (x3 : Int32) (x4 : Int32) : entryFrame m #[(.ref x0), (.int x1), (.ref x2), (.int x3), (.int x4)] 7 = mkF m 0 #[.val (.ref x0), .val (.int x1), .val (.ref x2), .val (.int x3), .val (.int x4), .unset, .unset] [] := by first | (simp [entryFrame, mkF, argsToLocals, Value.category]; done) | rfl
theorem ef_cmpU2 (m : MethodId) (x0 : Addr) (x1 : Int32) (x2 : Addr) (x3 : Int32) (x4 : Int32) : entryFrame m #[(.ref x0), (.int x1), (.ref x2), (.int x3), (.int x4)] 7 = mkF m 0 #[.val (.ref x0), .val (.int x1), .val (.ref x2), .val (.int x3), .val (.int x4), .unset, .unset] [] := by first | (simp [entryFrame, mkF, argsToLocals, Value.category]; done) | rfl
theorem ef_cpL2 (m : MethodId) (x0 : Addr) (x1 : Int32) (x2 : Int32) : entryFrame m #[(.ref x0), (.int x1), (.int x2)] 6 = mkF m 0 #[.val (.ref x0), .val (.int x1), .val (.int x2), .unset, .unset, .unset] [] := by first | (simp [entryFrame, mkF, argsToLocals, Value.category]; done) | rfl
theorem ef_cpU2 (m : MethodId) (x0 : Addr) (x1 : Int32) (x2 : Int32) : entryFrame m #[(.ref x0), (.int x1), (.int x2)] 6 = mkF m 0 #[.val (.ref x0), .val (.int x1), .val (.int x2), .unset, .unset, .unset] [] := by first | (simp [entryFrame, mkF, argsToLocals, Value.category]; done) | rfl
theorem ef_cmpL3 (m : MethodId) (x0 : Addr) (x1 : Int32) (x2 : Addr) (x3 : Int32) (x4 : Int32) : entryFrame m #[(.ref x0), (.int x1), (.ref x2), (.int x3), (.int x4)] 7 = mkF m 0 #[.val (.ref x0), .val (.int x1), .val (.ref x2), .val (.int x3), .val (.int x4), .unset, .unset] [] := by first | (simp [entryFrame, mkF, argsToLocals, Value.category]; done) | rfl
theorem ef_cmpU3 (m : MethodId) (x0 : Addr) (x1 : Int32) (x2 : Addr) (x3 : Int32) (x4 : Int32) : entryFrame m #[(.ref x0), (.int x1), (.ref x2), (.int x3), (.int x4)] 7 = mkF m 0 #[.val (.ref x0), .val (.int x1), .val (.ref x2), .val (.int x3), .val (.int x4), .unset, .unset] [] := by first | (simp [entryFrame, mkF, argsToLocals, Value.category]; done) | rfl
theorem ef_cpL3 (m : MethodId) (x0 : Addr) (x1 : Int32) (x2 : Int32) : entryFrame m #[(.ref x0), (.int x1), (.int x2)] 6 = mkF m 0 #[.val (.ref x0), .val (.int x1), .val (.int x2), .unset, .unset, .unset] [] := by first | (simp [entryFrame, mkF, argsToLocals, Value.category]; done) | rfl
theorem ef_cpU3 (m : MethodId) (x0 : Addr) (x1 : Int32) (x2 : Int32) : entryFrame m #[(.ref x0), (.int x1), (.int x2)] 6 = mkF m 0 #[.val (.ref x0), .val (.int x1), .val (.int x2), .unset, .unset, .unset] [] := by first | (simp [entryFrame, mkF, argsToLocals, Value.category]; done) | rfl
theorem ef_cmpL4 (m : MethodId) (x0 : Addr) (x1 : Int32) (x2 : Addr) (x3 : Int32) (x4 : Int32) : entryFrame m #[(.ref x0), (.int x1), (.ref x2), (.int x3), (.int x4)] 7 = mkF m 0 #[.val (.ref x0), .val (.int x1), .val (.ref x2), .val (.int x3), .val (.int x4), .unset, .unset] [] := by first | (simp [entryFrame, mkF, argsToLocals, Value.category]; done) | rfl
theorem ef_cmpU4 (m : MethodId) (x0 : Addr) (x1 : Int32) (x2 : Addr) (x3 : Int32) (x4 : Int32) : entryFrame m #[(.ref x0), (.int x1), (.ref x2), (.int x3), (.int x4)] 7 = mkF m 0 #[.val (.ref x0), .val (.int x1), .val (.ref x2), .val (.int x3), .val (.int x4), .unset, .unset] [] := by first | (simp [entryFrame, mkF, argsToLocals, Value.category]; done) | rfl
theorem ef_cpL4 (m : MethodId) (x0 : Addr) (x1 : Int32) (x2 : Int32) : entryFrame m #[(.ref x0), (.int x1), (.int x2)] 6 = mkF m 0 #[.val (.ref x0), .val (.int x1), .val (.int x2), .unset, .unset, .unset] [] := by first | (simp [entryFrame, mkF, argsToLocals, Value.category]; done) | rfl
theorem ef_cpU4 (m : MethodId) (x0 : Addr) (x1 : Int32) (x2 : Int32) : entryFrame m #[(.ref x0), (.int x1), (.int x2)] 6 = mkF m 0 #[.val (.ref x0), .val (.int x1), .val (.int x2), .unset, .unset, .unset] [] := by first | (simp [entryFrame, mkF, argsToLocals, Value.category]; done) | rfl
theorem ef_cfl2_0 (m : MethodId) (x0 : Addr) (x1 : Int32) : entryFrame m #[(.ref x0), (.int x1)] 2 = mkF m 0 #[.val (.ref x0), .val (.int x1)] [] := by first | (simp [entryFrame, mkF, argsToLocals, Value.category]; done) | rfl
theorem own_kb31 : (Int8.ofInt 31).toInt32 = (31 : Int32) := by decide
theorem ef_cfl2_1 (m : MethodId) (x0 : Addr) (x1 : Int32) : entryFrame m #[(.ref x0), (.int x1)] 2 = mkF m 0 #[.val (.ref x0), .val (.int x1)] [] := by first | (simp [entryFrame, mkF, argsToLocals, Value.category]; done) | rfl
theorem ef_cfl3_0 (m : MethodId) (x0 : Addr) (x1 : Int32) : entryFrame m #[(.ref x0), (.int x1)] 2 = mkF m 0 #[.val (.ref x0), .val (.int x1)] [] := by first | (simp [entryFrame, mkF, argsToLocals, Value.category]; done) | rfl
theorem ef_cfl3_1 (m : MethodId) (x0 : Addr) (x1 : Int32) : entryFrame m #[(.ref x0), (.int x1)] 2 = mkF m 0 #[.val (.ref x0), .val (.int x1)] [] := by first | (simp [entryFrame, mkF, argsToLocals, Value.category]; done) | rfl
theorem ef_cfl4_0 (m : MethodId) (x0 : Addr) (x1 : Int32) : entryFrame m #[(.ref x0), (.int x1)] 2 = mkF m 0 #[.val (.ref x0), .val (.int x1)] [] := by first | (simp [entryFrame, mkF, argsToLocals, Value.category]; done) | rfl
theorem ef_cfl4_1 (m : MethodId) (x0 : Addr) (x1 : Int32) : entryFrame m #[(.ref x0), (.int x1)] 2 = mkF m 0 #[.val (.ref x0), .val (.int x1)] [] := by first | (simp [entryFrame, mkF, argsToLocals, Value.category]; done) | rfl
theorem ef_iV2 (m : MethodId) (x0 : Addr) (x1 : Addr) (x2 : Int32) (x3 : Int32) : entryFrame m #[(.ref x0), (.ref x1), (.int x2), (.int x3), .null] 6 = mkF m 0 #[.val (.ref x0), .val (.ref x1), .val (.int x2), .val (.int x3), .val .null, .unset] [] := by first | (simp [entryFrame, mkF, argsToLocals, Value.category]; done) | rfl
theorem ef_iC2 (m : MethodId) (x0 : Addr) (x1 : Addr) : entryFrame m #[(.ref x0), (.ref x1)] 2 = mkF m 0 #[.val (.ref x0), .val (.ref x1)] [] := by first | (simp [entryFrame, mkF, argsToLocals, Value.category]; done) | rfl
theorem ef_iV3 (m : MethodId) (x0 : Addr) (x1 : Addr) (x2 : Int32) (x3 : Int32) : entryFrame m #[(.ref x0), (.ref x1), (.int x2), (.int x3), .null] 6 = mkF m 0 #[.val (.ref x0), .val (.ref x1), .val (.int x2), .val (.int x3), .val .null, .unset] [] := by first | (simp [entryFrame, mkF, argsToLocals, Value.category]; done) | rfl
theorem ef_iC3 (m : MethodId) (x0 : Addr) (x1 : Addr) : entryFrame m #[(.ref x0), (.ref x1)] 2 = mkF m 0 #[.val (.ref x0), .val (.ref x1)] [] := by first | (simp [entryFrame, mkF, argsToLocals, Value.category]; done) | rfl
theorem ef_iV4 (m : MethodId) (x0 : Addr) (x1 : Addr) (x2 : Int32) (x3 : Int32) : entryFrame m #[(.ref x0), (.ref x1), (.int x2), (.int x3), .null] 6 = mkF m 0 #[.val (.ref x0), .val (.ref x1), .val (.int x2), .val (.int x3), .val .null, .unset] [] := by first | (simp [entryFrame, mkF, argsToLocals, Value.category]; done) | rfl
theorem ef_iC4 (m : MethodId) (x0 : Addr) (x1 : Addr) : entryFrame m #[(.ref x0), (.ref x1)] 2 = mkF m 0 #[.val (.ref x0), .val (.ref x1)] [] := by first | (simp [entryFrame, mkF, argsToLocals, Value.category]; done) | rfl
theorem ef_canE0 (m : MethodId) (x0 : Int32) : entryFrame m #[(.int x0)] 1 = mkF m 0 #[.val (.int x0)] [] := by first | (simp [entryFrame, mkF, argsToLocals, Value.category]; done) | rfl
theorem ef_iniB1 (m : MethodId) (x0 : Addr) (x1 : Addr) (x2 : Int32) : entryFrame m #[(.ref x0), (.ref x1), (.int x2)] 3 = mkF m 0 #[.val (.ref x0), .val (.ref x1), .val (.int x2)] [] := by first | (simp [entryFrame, mkF, argsToLocals, Value.category]; done) | rfl
theorem ef_valU (m : MethodId) (x0 : Int32) : entryFrame m #[(.int x0)] 1 = mkF m 0 #[.val (.int x0)] [] := by first | (simp [entryFrame, mkF, argsToLocals, Value.category]; done) | rfl
theorem ef_mk1 (m : MethodId) (x0 : Int32) (x1 : Int32) (x2 : Int32) (x3 : Int32) (x4 : Int32) : entryFrame m #[(.int x0), (.int x1), (.int x2), (.int x3), (.int x4)] 5 = mkF m 0 #[.val (.int x0), .val (.int x1), .val (.int x2), .val (.int x3), .val (.int x4)] [] := by first | (simp [entryFrame, mkF, argsToLocals, Value.category]; done) | rfl
theorem ef_mk2 (m : MethodId) (x0 : Int32) (x1 : Int32) (x2 : Int32) (x3 : Int32) (x4 : Int32) : entryFrame m #[(.int x0), (.int x1), (.int x2), (.int x3), (.int x4)] 5 = mkF m 0 #[.val (.int x0), .val (.int x1), .val (.int x2), .val (.int x3), .val (.int x4)] [] := by first | (simp [entryFrame, mkF, argsToLocals, Value.category]; done) | rfl
theorem ef_mk3 (m : MethodId) (x0 : Int32) (x1 : Int32) (x2 : Int32) (x3 : Int32) (x4 : Int32) : entryFrame m #[(.int x0), (.int x1), (.int x2), (.int x3), (.int x4)] 5 = mkF m 0 #[.val (.int x0), .val (.int x1), .val (.int x2), .val (.int x3), .val (.int x4)] [] := by first | (simp [entryFrame, mkF, argsToLocals, Value.category]; done) | rfl
theorem own_ki3 : Int32.ofInt 3 = (3 : Int32) := by decide
theorem ef_mk4 (m : MethodId) (x0 : Int32) (x1 : Int32) (x2 : Int32) (x3 : Int32) (x4 : Int32) : entryFrame m #[(.int x0), (.int x1), (.int x2), (.int x3), (.int x4)] 5 = mkF m 0 #[.val (.int x0), .val (.int x1), .val (.int x2), .val (.int x3), .val (.int x4)] [] := by first | (simp [entryFrame, mkF, argsToLocals, Value.category]; done) | rfl
theorem own_ki4 : Int32.ofInt 4 = (4 : Int32) := by decide
theorem ef_iV0 (m : MethodId) (x0 : Addr) (x1 : Addr) (x2 : Int32) (x3 : Int32) : entryFrame m #[(.ref x0), (.ref x1), (.int x2), (.int x3), .null] 6 = mkF m 0 #[.val (.ref x0), .val (.ref x1), .val (.int x2), .val (.int x3), .val .null, .unset] [] := by first | (simp [entryFrame, mkF, argsToLocals, Value.category]; done) | rfl
theorem ef_iC0 (m : MethodId) (x0 : Addr) (x1 : Addr) : entryFrame m #[(.ref x0), (.ref x1)] 2 = mkF m 0 #[.val (.ref x0), .val (.ref x1)] [] := by first | (simp [entryFrame, mkF, argsToLocals, Value.category]; done) | rfl
theorem ef_mk0 (m : MethodId) (x0 : Int32) (x1 : Int32) (x2 : Int32) (x3 : Int32) (x4 : Int32) : entryFrame m #[(.int x0), (.int x1), (.int x2), (.int x3), (.int x4)] 5 = mkF m 0 #[.val (.int x0), .val (.int x1), .val (.int x2), .val (.int x3), .val (.int x4)] [] := by first | (simp [entryFrame, mkF, argsToLocals, Value.category]; done) | rfl
theorem ef_coder1 (m : MethodId) (x0 : Addr) : entryFrame m #[(.ref x0)] 1 = mkF m 0 #[.val (.ref x0)] [] := by first | (simp [entryFrame, mkF, argsToLocals, Value.category]; done) | rfl
theorem ef_isL1 (m : MethodId) (x0 : Addr) : entryFrame m #[(.ref x0)] 1 = mkF m 0 #[.val (.ref x0)] [] := by first | (simp [entryFrame, mkF, argsToLocals, Value.category]; done) | rfl
theorem ef_empN (m : MethodId) (x0 : Addr) : entryFrame m #[(.ref x0)] 1 = mkF m 0 #[.val (.ref x0)] [] := by first | (simp [entryFrame, mkF, argsToLocals, Value.category]; done) | rfl
theorem ef_empY (m : MethodId) (x0 : Addr) : entryFrame m #[(.ref x0)] 1 = mkF m 0 #[.val (.ref x0)] [] := by first | (simp [entryFrame, mkF, argsToLocals, Value.category]; done) | rfl
theorem ef_max0 (m : MethodId) (x0 : Int32) (x1 : Int32) : entryFrame m #[(.int x0), (.int x1)] 2 = mkF m 0 #[.val (.int x0), .val (.int x1)] [] := by first | (simp [entryFrame, mkF, argsToLocals, Value.category]; done) | rfl
theorem ef_minZ (m : MethodId) (x0 : Int32) (x1 : Int32) : entryFrame m #[(.int x0), (.int x1)] 2 = mkF m 0 #[.val (.int x0), .val (.int x1)] [] := by first | (simp [entryFrame, mkF, argsToLocals, Value.category]; done) | rfl
theorem ef_canI (m : MethodId) (x0 : Int32) : entryFrame m #[(.int x0)] 1 = mkF m 0 #[.val (.int x0)] [] := by first | (simp [entryFrame, mkF, argsToLocals, Value.category]; done) | rfl
theorem ef_ulen (m : MethodId) (x0 : Addr) : entryFrame m #[(.ref x0)] 1 = mkF m 0 #[.val (.ref x0)] [] := by first | (simp [entryFrame, mkF, argsToLocals, Value.category]; done) | rfl
theorem ef_cft (m : MethodId) (x0 : Int32) (x1 : Int32) (x2 : Int32) (x3 : Value) (hx3 : x3.category = 1) : entryFrame m #[(.int x0), (.int x1), (.int x2), x3] 4 = mkF m 0 #[.val (.int x0), .val (.int x1), .val (.int x2), .val x3] [] := by cases x3 <;> first | (simp [Value.category] at hx3; done) | (first | (simp [entryFrame, mkF, argsToLocals, Value.category]; done) | rfl)
theorem ef_cbe (m : MethodId) (x0 : Int32) (x1 : Int32) (x2 : Int32) : entryFrame m #[(.int x0), (.int x1), (.int x2)] 3 = mkF m 0 #[.val (.int x0), .val (.int x1), .val (.int x2)] [] := by first | (simp [entryFrame, mkF, argsToLocals, Value.category]; done) | rfl
theorem ef_cub (m : MethodId) (x0 : Int32) (x1 : Int32) (x2 : Addr) : entryFrame m #[(.int x0), (.int x1), (.ref x2)] 3 = mkF m 0 #[.val (.int x0), .val (.int x1), .val (.ref x2)] [] := by first | (simp [entryFrame, mkF, argsToLocals, Value.category]; done) | rfl
theorem ef_ilc1 (m : MethodId) (x0 : Addr) (x1 : Int32) (x2 : Int32) (x3 : Int32) : entryFrame m #[(.ref x0), (.int x1), (.int x2), (.int x3)] 6 = mkF m 0 #[.val (.ref x0), .val (.int x1), .val (.int x2), .val (.int x3), .unset, .unset] [] := by first | (simp [entryFrame, mkF, argsToLocals, Value.category]; done) | rfl
theorem own_kim1 : Int32.ofInt (-1) = (-1 : Int32) := by decide
theorem ef_iL1 (m : MethodId) (x0 : Addr) (x1 : Int32) (x2 : Int32) (x3 : Int32) : entryFrame m #[(.ref x0), (.int x1), (.int x2), (.int x3)] 4 = mkF m 0 #[.val (.ref x0), .val (.int x1), .val (.int x2), .val (.int x3)] [] := by first | (simp [entryFrame, mkF, argsToLocals, Value.category]; done) | rfl
theorem ef_iuu1 (m : MethodId) (x0 : Addr) (x1 : Int32) (x2 : Int32) (x3 : Int32) : entryFrame m #[(.ref x0), (.int x1), (.int x2), (.int x3)] 5 = mkF m 0 #[.val (.ref x0), .val (.int x1), .val (.int x2), .val (.int x3), .unset] [] := by first | (simp [entryFrame, mkF, argsToLocals, Value.category]; done) | rfl
theorem ef_iuc1 (m : MethodId) (x0 : Addr) (x1 : Int32) (x2 : Int32) (x3 : Int32) : entryFrame m #[(.ref x0), (.int x1), (.int x2), (.int x3)] 4 = mkF m 0 #[.val (.ref x0), .val (.int x1), .val (.int x2), .val (.int x3)] [] := by first | (simp [entryFrame, mkF, argsToLocals, Value.category]; done) | rfl
theorem ef_iU1 (m : MethodId) (x0 : Addr) (x1 : Int32) (x2 : Int32) (x3 : Int32) : entryFrame m #[(.ref x0), (.int x1), (.int x2), (.int x3)] 4 = mkF m 0 #[.val (.ref x0), .val (.int x1), .val (.int x2), .val (.int x3)] [] := by first | (simp [entryFrame, mkF, argsToLocals, Value.category]; done) | rfl
theorem own_bg32_lt_65536 : (32 : Int32) < (65536 : Int32) := by decide
theorem ef_slen1 (m : MethodId) (x0 : Addr) : entryFrame m #[(.ref x0)] 1 = mkF m 0 #[.val (.ref x0)] [] := by first | (simp [entryFrame, mkF, argsToLocals, Value.category]; done) | rfl
theorem ef_sidx1 (m : MethodId) (x0 : Addr) (x1 : Int32) (x2 : Int32) : entryFrame m #[(.ref x0), (.int x1), (.int x2)] 3 = mkF m 0 #[.val (.ref x0), .val (.int x1), .val (.int x2)] [] := by first | (simp [entryFrame, mkF, argsToLocals, Value.category]; done) | rfl
theorem ef_sidI1 (m : MethodId) (x0 : Addr) (x1 : Int32) : entryFrame m #[(.ref x0), (.int x1)] 2 = mkF m 0 #[.val (.ref x0), .val (.int x1)] [] := by first | (simp [entryFrame, mkF, argsToLocals, Value.category]; done) | rfl
theorem ef_isW1 (m : MethodId) (x0 : Addr) : entryFrame m #[(.ref x0)] 1 = mkF m 0 #[.val (.ref x0)] [] := by first | (simp [entryFrame, mkF, argsToLocals, Value.category]; done) | rfl
theorem own_kb32 : (Int8.ofInt 32).toInt32 = (32 : Int32) := by decide
theorem ef_ilc2 (m : MethodId) (x0 : Addr) (x1 : Int32) (x2 : Int32) (x3 : Int32) : entryFrame m #[(.ref x0), (.int x1), (.int x2), (.int x3)] 6 = mkF m 0 #[.val (.ref x0), .val (.int x1), .val (.int x2), .val (.int x3), .unset, .unset] [] := by first | (simp [entryFrame, mkF, argsToLocals, Value.category]; done) | rfl
theorem ef_iL2 (m : MethodId) (x0 : Addr) (x1 : Int32) (x2 : Int32) (x3 : Int32) : entryFrame m #[(.ref x0), (.int x1), (.int x2), (.int x3)] 4 = mkF m 0 #[.val (.ref x0), .val (.int x1), .val (.int x2), .val (.int x3)] [] := by first | (simp [entryFrame, mkF, argsToLocals, Value.category]; done) | rfl
theorem ef_iuu2 (m : MethodId) (x0 : Addr) (x1 : Int32) (x2 : Int32) (x3 : Int32) : entryFrame m #[(.ref x0), (.int x1), (.int x2), (.int x3)] 5 = mkF m 0 #[.val (.ref x0), .val (.int x1), .val (.int x2), .val (.int x3), .unset] [] := by first | (simp [entryFrame, mkF, argsToLocals, Value.category]; done) | rfl
theorem ef_iuc2 (m : MethodId) (x0 : Addr) (x1 : Int32) (x2 : Int32) (x3 : Int32) : entryFrame m #[(.ref x0), (.int x1), (.int x2), (.int x3)] 4 = mkF m 0 #[.val (.ref x0), .val (.int x1), .val (.int x2), .val (.int x3)] [] := by first | (simp [entryFrame, mkF, argsToLocals, Value.category]; done) | rfl
theorem ef_iU2 (m : MethodId) (x0 : Addr) (x1 : Int32) (x2 : Int32) (x3 : Int32) : entryFrame m #[(.ref x0), (.int x1), (.int x2), (.int x3)] 4 = mkF m 0 #[.val (.ref x0), .val (.int x1), .val (.int x2), .val (.int x3)] [] := by first | (simp [entryFrame, mkF, argsToLocals, Value.category]; done) | rfl
theorem ef_slen2 (m : MethodId) (x0 : Addr) : entryFrame m #[(.ref x0)] 1 = mkF m 0 #[.val (.ref x0)] [] := by first | (simp [entryFrame, mkF, argsToLocals, Value.category]; done) | rfl
theorem ef_sidx2 (m : MethodId) (x0 : Addr) (x1 : Int32) (x2 : Int32) : entryFrame m #[(.ref x0), (.int x1), (.int x2)] 3 = mkF m 0 #[.val (.ref x0), .val (.int x1), .val (.int x2)] [] := by first | (simp [entryFrame, mkF, argsToLocals, Value.category]; done) | rfl
theorem ef_sidI2 (m : MethodId) (x0 : Addr) (x1 : Int32) : entryFrame m #[(.ref x0), (.int x1)] 2 = mkF m 0 #[.val (.ref x0), .val (.int x1)] [] := by first | (simp [entryFrame, mkF, argsToLocals, Value.category]; done) | rfl
theorem ef_isW2 (m : MethodId) (x0 : Addr) : entryFrame m #[(.ref x0)] 1 = mkF m 0 #[.val (.ref x0)] [] := by first | (simp [entryFrame, mkF, argsToLocals, Value.category]; done) | rfl
theorem ef_ilc3 (m : MethodId) (x0 : Addr) (x1 : Int32) (x2 : Int32) (x3 : Int32) : entryFrame m #[(.ref x0), (.int x1), (.int x2), (.int x3)] 6 = mkF m 0 #[.val (.ref x0), .val (.int x1), .val (.int x2), .val (.int x3), .unset, .unset] [] := by first | (simp [entryFrame, mkF, argsToLocals, Value.category]; done) | rfl
theorem ef_iL3 (m : MethodId) (x0 : Addr) (x1 : Int32) (x2 : Int32) (x3 : Int32) : entryFrame m #[(.ref x0), (.int x1), (.int x2), (.int x3)] 4 = mkF m 0 #[.val (.ref x0), .val (.int x1), .val (.int x2), .val (.int x3)] [] := by first | (simp [entryFrame, mkF, argsToLocals, Value.category]; done) | rfl
theorem ef_iuu3 (m : MethodId) (x0 : Addr) (x1 : Int32) (x2 : Int32) (x3 : Int32) : entryFrame m #[(.ref x0), (.int x1), (.int x2), (.int x3)] 5 = mkF m 0 #[.val (.ref x0), .val (.int x1), .val (.int x2), .val (.int x3), .unset] [] := by first | (simp [entryFrame, mkF, argsToLocals, Value.category]; done) | rfl
theorem ef_iuc3 (m : MethodId) (x0 : Addr) (x1 : Int32) (x2 : Int32) (x3 : Int32) : entryFrame m #[(.ref x0), (.int x1), (.int x2), (.int x3)] 4 = mkF m 0 #[.val (.ref x0), .val (.int x1), .val (.int x2), .val (.int x3)] [] := by first | (simp [entryFrame, mkF, argsToLocals, Value.category]; done) | rfl
theorem ef_iU3 (m : MethodId) (x0 : Addr) (x1 : Int32) (x2 : Int32) (x3 : Int32) : entryFrame m #[(.ref x0), (.int x1), (.int x2), (.int x3)] 4 = mkF m 0 #[.val (.ref x0), .val (.int x1), .val (.int x2), .val (.int x3)] [] := by first | (simp [entryFrame, mkF, argsToLocals, Value.category]; done) | rfl
theorem ef_slen3 (m : MethodId) (x0 : Addr) : entryFrame m #[(.ref x0)] 1 = mkF m 0 #[.val (.ref x0)] [] := by first | (simp [entryFrame, mkF, argsToLocals, Value.category]; done) | rfl
theorem ef_sidx3 (m : MethodId) (x0 : Addr) (x1 : Int32) (x2 : Int32) : entryFrame m #[(.ref x0), (.int x1), (.int x2)] 3 = mkF m 0 #[.val (.ref x0), .val (.int x1), .val (.int x2)] [] := by first | (simp [entryFrame, mkF, argsToLocals, Value.category]; done) | rfl
theorem ef_sidI3 (m : MethodId) (x0 : Addr) (x1 : Int32) : entryFrame m #[(.ref x0), (.int x1)] 2 = mkF m 0 #[.val (.ref x0), .val (.int x1)] [] := by first | (simp [entryFrame, mkF, argsToLocals, Value.category]; done) | rfl
theorem ef_isW3 (m : MethodId) (x0 : Addr) : entryFrame m #[(.ref x0)] 1 = mkF m 0 #[.val (.ref x0)] [] := by first | (simp [entryFrame, mkF, argsToLocals, Value.category]; done) | rfl
theorem ef_ilc4 (m : MethodId) (x0 : Addr) (x1 : Int32) (x2 : Int32) (x3 : Int32) : entryFrame m #[(.ref x0), (.int x1), (.int x2), (.int x3)] 6 = mkF m 0 #[.val (.ref x0), .val (.int x1), .val (.int x2), .val (.int x3), .unset, .unset] [] := by first | (simp [entryFrame, mkF, argsToLocals, Value.category]; done) | rfl
theorem ef_iL4 (m : MethodId) (x0 : Addr) (x1 : Int32) (x2 : Int32) (x3 : Int32) : entryFrame m #[(.ref x0), (.int x1), (.int x2), (.int x3)] 4 = mkF m 0 #[.val (.ref x0), .val (.int x1), .val (.int x2), .val (.int x3)] [] := by first | (simp [entryFrame, mkF, argsToLocals, Value.category]; done) | rfl
theorem ef_iuu4 (m : MethodId) (x0 : Addr) (x1 : Int32) (x2 : Int32) (x3 : Int32) : entryFrame m #[(.ref x0), (.int x1), (.int x2), (.int x3)] 5 = mkF m 0 #[.val (.ref x0), .val (.int x1), .val (.int x2), .val (.int x3), .unset] [] := by first | (simp [entryFrame, mkF, argsToLocals, Value.category]; done) | rfl
theorem ef_iuc4 (m : MethodId) (x0 : Addr) (x1 : Int32) (x2 : Int32) (x3 : Int32) : entryFrame m #[(.ref x0), (.int x1), (.int x2), (.int x3)] 4 = mkF m 0 #[.val (.ref x0), .val (.int x1), .val (.int x2), .val (.int x3)] [] := by first | (simp [entryFrame, mkF, argsToLocals, Value.category]; done) | rfl
theorem ef_iU4 (m : MethodId) (x0 : Addr) (x1 : Int32) (x2 : Int32) (x3 : Int32) : entryFrame m #[(.ref x0), (.int x1), (.int x2), (.int x3)] 4 = mkF m 0 #[.val (.ref x0), .val (.int x1), .val (.int x2), .val (.int x3)] [] := by first | (simp [entryFrame, mkF, argsToLocals, Value.category]; done) | rfl
theorem ef_slen4 (m : MethodId) (x0 : Addr) : entryFrame m #[(.ref x0)] 1 = mkF m 0 #[.val (.ref x0)] [] := by first | (simp [entryFrame, mkF, argsToLocals, Value.category]; done) | rfl
theorem ef_sidx4 (m : MethodId) (x0 : Addr) (x1 : Int32) (x2 : Int32) : entryFrame m #[(.ref x0), (.int x1), (.int x2)] 3 = mkF m 0 #[.val (.ref x0), .val (.int x1), .val (.int x2)] [] := by first | (simp [entryFrame, mkF, argsToLocals, Value.category]; done) | rfl
theorem ef_sidI4 (m : MethodId) (x0 : Addr) (x1 : Int32) : entryFrame m #[(.ref x0), (.int x1)] 2 = mkF m 0 #[.val (.ref x0), .val (.int x1)] [] := by first | (simp [entryFrame, mkF, argsToLocals, Value.category]; done) | rfl
theorem ef_isW4 (m : MethodId) (x0 : Addr) : entryFrame m #[(.ref x0)] 1 = mkF m 0 #[.val (.ref x0)] [] := by first | (simp [entryFrame, mkF, argsToLocals, Value.category]; done) | rfl
theorem ef_isW0 (m : MethodId) (x0 : Addr) : entryFrame m #[(.ref x0)] 1 = mkF m 0 #[.val (.ref x0)] [] := by first | (simp [entryFrame, mkF, argsToLocals, Value.category]; done) | rfl
theorem ef_0 (m : MethodId) (x0 : Int32) (x1 : Int32) (x2 : Int32) (x3 : Int32) (x4 : Int32) : entryFrame m #[(.int x0), (.int x1), (.int x2), (.int x3), (.int x4)] maxLocals = mkF m 0 #[.val (.int x0), .val (.int x1), .val (.int x2), .val (.int x3), .val (.int x4), .unset, .unset, .unset, .unset, .unset, .unset, .unset] [] := by first | (simp [entryFrame, mkF, argsToLocals, Value.category, maxLocals]; done) | rfl
theorem own_ki5 : Int32.ofInt 5 = (5 : Int32) := by decide
def Qcoder (Z : State) (a : Addr) (zc : Int32) (h0 : Heap) (n0 : Nat) (v : Option Value) (h : Heap) (L : List Loc) : Prop := v = some (.int (0 : Int32)) ∧ Fr n0 L ∧ h = h0
theorem rmcoder (l : Launch) (Z : State) (a0 : Array Value) (hw : own_tb a0 Z) (ws : List Jvm.Cond) (a : Addr) (zc : Int32) (h0 : Heap) (n0 : Nat) (Z0 : n0 ≤ h0.size) (O_ : Old Z n0 h0) (S_CS : Sta Z Z.heap "java/lang/String" "COMPACT_STRINGS" "Z" (.int zc)) (P_CS : ¬ zc = (0 : Int32)) (Fc : Fld Z h0 a "java/lang/String" "coder" "B" (.int (0 : Int32))) :
    OwnMet l (⟨"java/lang/String", "coder", "()B"⟩ : MethodName) jdk_42_method_152_code 1 (some .byte) ws ({ frames := 0, cells := 0, slots := 0, locals := 0 } : Room) #[(.ref a)] Z h0 (Qcoder Z a zc h0 n0) := by
  refine own_met (plainFor_of_name pn_6) ?_
  intro p e s m below meth c s₁ X0 hx hby hml hret hlk hown hnm hZ e0
  have N0 := Fr.nil n0
  have Z_ := Z0
  refine OwnGo.cast (ef_coder m a) ?_
  show OwnGo p e below s _ _ _ s₁ (mkF m 0 _ [])
  obtain ⟨T1, X1, e1, st1⟩ := getS2 X0 hx hZ hown (host := "") (Or.inl (W_ hw 37 rfl)) Via.refl e0 (S_CS.ext O_.2) (g := (mkF m 0 #[.val (.ref a)] [])) rfl (hb hby d6_0)
  refine .st st1 ?_
  show OwnGo p e below s _ _ _ T1 (mkF m 3 _ [(.int zc)])
  refine .ifNo X1 hx (hb hby d6_3) ((if0 _ _).trans (feq (P_CS : ¬ (zc = (0 : Int32)))).1) ?_
  refine .aloadN X1 hx (hb hby d6_6) rfl rfl ?_
  obtain ⟨T2, X2, e2, st2⟩ := getF X1 hx hZ hown (host := "") (Or.inl (W_ hw 26 rfl)) Via.refl e1 Fc (g := (mkF m 7 #[.val (.ref a)] [(.ref a)])) rfl rfl (hb hby d6_7)
  refine .st st2 ?_
  show OwnGo p e below s _ _ _ T2 (mkF m 10 _ [(.int (0 : Int32))])
  refine .goto (pc := 10) X2 hx 14 (hb hby d6_10) (by decide) (by decide) ?_
  exact OwnGo.retN X2 hx (t := .byte) hret hlk (by simp) (hb hby d6_14) (by show Qcoder Z a zc h0 n0 _ T2.heap _; rw [e2]; exact ⟨rfl, N0, rfl⟩) (by decide) (by decide)
def Qlength (Z : State) (a : Addr) (t : Addr) (kc : ClassId) (z : Int32) (vs : List Value) (zc : Int32) (h0 : Heap) (n0 : Nat) (v : Option Value) (h : Heap) (L : List Loc) : Prop := v = some (.int z) ∧ Fr n0 L ∧ h = h0
theorem rmlength (l : Launch) (Z : State) (a0 : Array Value) (hw : own_tb a0 Z) (ws : List Jvm.Cond) (a : Addr) (t : Addr) (kc : ClassId) (z : Int32) (vs : List Value) (zc : Int32) (h0 : Heap) (n0 : Nat) (Z0 : n0 ≤ h0.size) (O_ : Old Z n0 h0) (S_CS : Sta Z Z.heap "java/lang/String" "COMPACT_STRINGS" "Z" (.int zc)) (P_CS : ¬ zc = (0 : Int32)) (E_a : Exa Z h0 a "java/lang/String") (Fc : Fld Z h0 a "java/lang/String" "coder" "B" (.int (0 : Int32))) (Fv : Fld Z h0 a "java/lang/String" "value" "[B" (.ref t)) (V : Arv Z h0 t kc .byte z vs (.int (0 : Int32))) :
    OwnMet l (⟨"java/lang/String", "length", "()I"⟩ : MethodName) jdk_42_method_54_code 1 (some .int) ws ({ frames := 1, cells := 0, slots := 0, locals := 13 } : Room) #[(.ref a)] Z h0 (Qlength Z a t kc z vs zc h0 n0) := by
  refine own_met (plainFor_of_name pn_6) ?_
  intro p e s m below meth c s₁ X0 hx hby hml hret hlk hown hnm hZ e0
  have N0 := Fr.nil n0
  have Z_ := Z0
  refine OwnGo.cast (ef_length m a) ?_
  show OwnGo p e below s _ _ _ s₁ (mkF m 0 _ [])
  refine .aloadN X0 hx (hb hby d5_0) rfl rfl ?_
  obtain ⟨T3, X3, e3, st3⟩ := getF X0 hx hZ hown (host := "") (Or.inl (W_ hw 25 rfl)) Via.refl e0 Fv (g := (mkF m 1 #[.val (.ref a)] [(.ref a)])) rfl rfl (hb hby d5_1)
  refine .st st3 ?_
  show OwnGo p e below s _ _ _ T3 (mkF m 4 _ [(.ref t)])
  obtain ⟨cl4, Ar4, -, S4, N4, -, -⟩ := id V
  refine .st (fun _ => own_len hZ (len_of S4 N4) Ar4 X3 e3 hx (g := (mkF m 4 #[.val (.ref a)] [(.ref t)])) rfl rfl (hb hby d5_4) _) ?_
  show OwnGo p e below s _ _ _ T3 (mkF m 5 _ [(.int z)])
  refine .aloadN X3 hx (hb hby d5_5) rfl rfl ?_
  obtain ⟨cq5, kq5, q5a, q5b, q5c⟩ := isOf hZ e3 E_a
  obtain ⟨_, _, ⟨T5, L5, k5, n5⟩, -, X5, ⟨Lc5, hQ5, l5, y5, z5⟩, st5⟩ := X3.virtualBack hx (y := (⟨"java/lang/String", "coder", "()B"⟩ : MethodName)) (z := (⟨"java/lang/String", "coder", "()B"⟩ : MethodName)) hown (mvT hZ (W_ hw 32 rfl)) (mvT hZ (W_ hw 33 rfl)) (notFace_of_selects (args := #[]) (mvT hZ (W_ hw 35 rfl))) (mvT hZ (W_ hw 35 rfl)) (mvT hZ (W_ hw 34 rfl)) (by decide) (backOf (W := 1) (rmcoder l Z a0 hw [] a zc h0 n0 Z_ O_ S_CS P_CS Fc) hZ (W_ hw 36 rfl) (W_ hw 7 rfl) (by decide) (by decide)) q5a q5c (g := (mkF m 6 #[.val (.ref a)] [(.ref a), (.int z)])) rfl (by rw [hml]; rfl) (Steps.refl _) (argsL := []) (rest := [(.int z)]) (lenOf pd_0 rfl) rfl (Nat.le_of_eq rfl) (hb hby d5_6) (fun _ _ => ⟨rfl, e3, (by decide : 0 + 0 ≤ _), (by decide : 0 + 0 ≤ _)⟩)
  dsimp only [Pt.U, Pt.locs, Pt.cells, Pt.slots] at X5 l5 y5 z5 st5 hQ5
  subst l5 y5 z5
  obtain ⟨rfl, N5q, e5⟩ := hQ5
  have N5 := Fr.app N0 N5q
  refine .st (fun _ => st5.trans) ?_
  show OwnGo p e below s _ _ _ T5 (mkF m 9 _ [(.int (0 : Int32)), (.int z)])
  refine .st (fun _ => XS.ishr X5.here hx rfl (hb hby d5_9) rfl) ?_
  show OwnGo p e below s _ _ _ T5 (mkF m 10 _ [(.int (z >>> ((0 : Int32) &&& 31)))])
  rw [own_sh0]
  show OwnGo p e below s _ _ _ T5 (mkF m 10 _ [(.int z)])
  exact OwnGo.ret X5 hx hret hlk rfl (Or.inl ⟨rfl, Or.inl rfl, _, rfl⟩) (hb hby d5_10) (by show Qlength Z a t kc z vs zc h0 n0 _ T5.heap _; rw [e5]; exact ⟨rfl, N5, rfl⟩) (by decide) (by decide)
def QisLatin1 (Z : State) (a : Addr) (zc : Int32) (h0 : Heap) (n0 : Nat) (v : Option Value) (h : Heap) (L : List Loc) : Prop := v = some (.int (1 : Int32)) ∧ Fr n0 L ∧ h = h0
theorem rmisLatin1 (l : Launch) (Z : State) (a0 : Array Value) (hw : own_tb a0 Z) (ws : List Jvm.Cond) (a : Addr) (zc : Int32) (h0 : Heap) (n0 : Nat) (Z0 : n0 ≤ h0.size) (O_ : Old Z n0 h0) (S_CS : Sta Z Z.heap "java/lang/String" "COMPACT_STRINGS" "Z" (.int zc)) (P_CS : ¬ zc = (0 : Int32)) (Fc : Fld Z h0 a "java/lang/String" "coder" "B" (.int (0 : Int32))) :
    OwnMet l (⟨"java/lang/String", "isLatin1", "()Z"⟩ : MethodName) jdk_42_method_154_code 1 (some .boolean) ws ({ frames := 0, cells := 0, slots := 0, locals := 0 } : Room) #[(.ref a)] Z h0 (QisLatin1 Z a zc h0 n0) := by
  refine own_met (plainFor_of_name pn_6) ?_
  intro p e s m below meth c s₁ X0 hx hby hml hret hlk hown hnm hZ e0
  have N0 := Fr.nil n0
  have Z_ := Z0
  refine OwnGo.cast (ef_isLatin1 m a) ?_
  show OwnGo p e below s _ _ _ s₁ (mkF m 0 _ [])
  obtain ⟨T6, X6, e6, st6⟩ := getS2 X0 hx hZ hown (host := "") (Or.inl (W_ hw 37 rfl)) Via.refl e0 (S_CS.ext O_.2) (g := (mkF m 0 #[.val (.ref a)] [])) rfl (hb hby d14_0)
  refine .st st6 ?_
  show OwnGo p e below s _ _ _ T6 (mkF m 3 _ [(.int zc)])
  refine .ifNo X6 hx (hb hby d14_3) ((if0 _ _).trans (feq (P_CS : ¬ (zc = (0 : Int32)))).1) ?_
  refine .aloadN X6 hx (hb hby d14_6) rfl rfl ?_
  obtain ⟨T7, X7, e7, st7⟩ := getF X6 hx hZ hown (host := "") (Or.inl (W_ hw 26 rfl)) Via.refl e6 Fc (g := (mkF m 7 #[.val (.ref a)] [(.ref a)])) rfl rfl (hb hby d14_7)
  refine .st st7 ?_
  show OwnGo p e below s _ _ _ T7 (mkF m 10 _ [(.int (0 : Int32))])
  refine .ifNo X7 hx (hb hby d14_10) ((if0 _ _).trans (teq (rfl : (0 : Int32) = (0 : Int32))).2) ?_
  refine .iconst X7 hx (hb hby d14_13) own_ki1 ?_
  refine .goto (pc := 14) X7 hx 18 (hb hby d14_14) (by decide) (by decide) ?_
  exact OwnGo.retN X7 hx (t := .boolean) hret hlk (by simp) (hb hby d14_18) (by show QisLatin1 Z a zc h0 n0 _ T7.heap _; rw [e7]; exact ⟨rfl, N0, rfl⟩) (by decide) (by decide)
def QcanEnc (Z : State) (cc : Int32) (h0 : Heap) (n0 : Nat) (v : Option Value) (h : Heap) (L : List Loc) : Prop := v = some (.int (1 : Int32)) ∧ Fr n0 L ∧ h = h0
theorem rmcanEnc (l : Launch) (Z : State) (a0 : Array Value) (hw : own_tb a0 Z) (ws : List Jvm.Cond) (cc : Int32) (h0 : Heap) (n0 : Nat) (Z0 : n0 ≤ h0.size) (hc : ¬ (255 : Int32) < cc) :
    OwnMet l (⟨"java/lang/StringLatin1", "canEncode", "(C)Z"⟩ : MethodName) jdk_43_method_3_code 1 (some .boolean) ws ({ frames := 0, cells := 0, slots := 0, locals := 0 } : Room) #[(.int cc)] Z h0 (QcanEnc Z cc h0 n0) := by
  refine own_met (plainFor_of_name pn_33) ?_
  intro p e s m below meth c s₁ X0 hx hby hml hret hlk hown hnm hZ e0
  have N0 := Fr.nil n0
  have Z_ := Z0
  refine OwnGo.cast (ef_canEnc m cc) ?_
  show OwnGo p e below s _ _ _ s₁ (mkF m 0 _ [])
  refine .iloadN X0 hx (hb hby d33_0) rfl ?_
  refine .sipush X0 hx (hb hby d33_1) own_ks255 ?_
  refine .icmpNo X0 hx (hb hby d33_4) (flt (hc : ¬ ((255 : Int32) < cc))).2.2.1 ?_
  refine .iconst X0 hx (hb hby d33_7) own_ki1 ?_
  refine .goto (pc := 8) X0 hx 12 (hb hby d33_8) (by decide) (by decide) ?_
  exact OwnGo.retN X0 hx (t := .boolean) hret hlk (by simp) (hb hby d33_12) (by show QcanEnc Z cc h0 n0 _ s₁.heap _; rw [e0]; exact ⟨rfl, N0, rfl⟩) (by decide) (by decide)
def QtoB1 (Z : State) (cc : Int32) (h0 : Heap) (n0 : Nat) (v : Option Value) (h : Heap) (L : List Loc) : Prop := ∃ (t : Addr) (kb : ClassId), v = some (.ref t) ∧ Fr n0 L ∧ Keep h0 h [] ∧ Arv Z h t kb .byte (1 : Int32) [(.int cc.toInt8.toInt32)] (.int (0 : Int32)) ∧ h0.size ≤ t
theorem rmtoB1 (l : Launch) (Z : State) (a0 : Array Value) (hw : own_tb a0 Z) (ws : List Jvm.Cond) (cc : Int32) (h0 : Heap) (n0 : Nat) (Z0 : n0 ≤ h0.size) :
    OwnMet l (⟨"java/lang/StringLatin1", "toBytes", "(C)[B"⟩ : MethodName) jdk_43_method_46_code 1 (some (.array .byte)) ws ({ frames := 0, cells := 1, slots := 1, locals := 0 } : Room) #[(.int cc)] Z h0 (QtoB1 Z cc h0 n0) := by
  refine own_met (plainFor_of_name pn_33) ?_
  intro p e s m below meth c s₁ X0 hx hby hml hret hlk hown hnm hZ e0
  have N0 := Fr.nil n0
  have Z_ := Z0
  refine OwnGo.cast (ef_toB1 m cc) ?_
  show OwnGo p e below s _ _ _ s₁ (mkF m 0 _ [])
  have Kp : Keep h0 h0 [] := Keep.refl h0 []
  refine .iconst X0 hx (hb hby d34_0) own_ki1 ?_
  obtain ⟨T8, h8, k8, X8, e8, E8, A8, Ex8, st8⟩ := newPE X0 hx hZ (W_ hw 20 rfl) e0 (g := (mkF m 1 #[.val (.int cc)] [(.int (1 : Int32))])) rfl (hb hby d34_1) rfl (by decide) (cap := 1) (by decide) (by decide) (by decide) (by decide) (ad := "[B") (by decide)
  obtain ⟨b8, g8⟩ : ∃ z, z = h0.size := ⟨_, rfl⟩
  rw [← g8] at A8 Ex8 st8
  have g_b8 : n0 ≤ b8 := Nat.le_trans Z_ (Nat.le_of_eq g8.symm)
  have sz_b8 : h0.size ≤ b8 := Nat.le_trans Kp.1 (Nat.le_of_eq g8.symm)
  have Kp := Kp.ext E8
  have Z_ : n0 ≤ h8.size := Nat.le_trans Z_ E8.1
  have V_b8 : Arv Z h8 b8 k8 .byte (1 : Int32) [(.int (0 : Int32))] (.int (0 : Int32)) := (Arv.new A8 (by decide)).pad (pad_rep [] (.int (0 : Int32)) 1)
  have E_b8 := Ex8
  refine .st st8 ?_
  show OwnGo p e below s _ _ _ T8 (mkF m 3 _ [(.ref b8)])
  refine .dup X8 hx (hb hby d34_3) rfl ?_
  refine .iconst X8 hx (hb hby d34_4) own_ki0 ?_
  refine .iloadN X8 hx (hb hby d34_5) rfl ?_
  refine .st (fun _ => XS.i2b X8.here hx rfl (hb hby d34_6) rfl) ?_
  show OwnGo p e below s _ _ _ T8 (mkF m 7 _ [(.int (cc.toInt8.toInt32)), (.int (0 : Int32)), (.ref b8), (.ref b8)])
  obtain ⟨cl9, Ar9, q9, S9, N9, H9, G9⟩ := id V_b8
  have hin9 : ¬ ((0 : Int32) < 0 ∨ cl9.slots.size ≤ ((0 : Int32)).toNatClampNeg) := inb_of S9 ⟨by decide, by decide⟩
  obtain ⟨T9, h9, X9, e9, W9, st9⟩ := stB X8 hx hZ e8 Ar9 (j := (0 : Int32)) hin9 (g := (mkF m 7 #[.val (.int cc)] [(.int (cc.toInt8.toInt32)), (.int (0 : Int32)), (.ref b8), (.ref b8)])) rfl rfl (hb hby d34_7)
  have V_b8 : Arv Z h9 b8 k8 .byte (1 : Int32) [(.int (nar .byte (cc.toInt8.toInt32)))] (.int (0 : Int32)) := Arv.set Ar9 q9 S9 N9 H9 G9 (fits_nar_byte _) W9 0 rfl (Nat.le_of_ble_eq_true rfl)
  rw [show nar .byte (cc.toInt8.toInt32) = (cc.toInt8.toInt32) from own_nb _] at V_b8
  have E_b8 := E_b8.wr W9
  have Kp := Kp.wr W9 (Or.inr sz_b8)
  have N9 := Fr.snoc X9 N0 g_b8
  have Z_ : n0 ≤ h9.size := by rw [W9.size]; exact Z_
  refine .st st9 ?_
  show OwnGo p e below s _ _ _ T9 (mkF m 8 _ [(.ref b8)])
  exact OwnGo.ret X9 hx hret hlk rfl (Or.inr (Or.inr (Or.inr (Or.inr ⟨rfl, rfl, rfl⟩)))) (hb hby d34_8) (by show QtoB1 Z cc h0 n0 _ T9.heap _; rw [e9]; exact ⟨b8, k8, rfl, N9, Kp, V_b8, sz_b8⟩) (by decide) (by decide)
def QiniBB (Z : State) (x : Addr) (t : Addr) (h0 : Heap) (n0 : Nat) (v : Option Value) (h : Heap) (L : List Loc) : Prop := v = none ∧ Fr n0 L ∧ Keep h0 h [x] ∧ Exa Z h x "java/lang/String" ∧ Fld Z h x "java/lang/String" "coder" "B" (.int (0 : Int32)) ∧ Fld Z h x "java/lang/String" "value" "[B" (.ref t)
theorem rminiBB (l : Launch) (Z : State) (a0 : Array Value) (hw : own_tb a0 Z) (ws : List Jvm.Cond) (x : Addr) (t : Addr) (h0 : Heap) (n0 : Nat) (Z0 : n0 ≤ h0.size) (E_x : Exa Z h0 x "java/lang/String") (Fv : Fld Z h0 x "java/lang/String" "value" "[B" .null) (Fc : Fld Z h0 x "java/lang/String" "coder" "B" (.int (0 : Int32))) (g_x : n0 ≤ x) :
    OwnMet l (⟨"java/lang/String", "<init>", "([BB)V"⟩ : MethodName) jdk_42_method_151_code 3 none ws ({ frames := 1, cells := 0, slots := 0, locals := 12 } : Room) #[(.ref x), (.ref t), (.int (0 : Int32))] Z h0 (QiniBB Z x t h0 n0) := by
  refine own_met (plainFor_of_name pn_6) ?_
  intro p e s m below meth c s₁ X0 hx hby hml hret hlk hown hnm hZ e0
  have N0 := Fr.nil n0
  have Z_ := Z0
  refine OwnGo.cast (ef_iniBB m x t (0 : Int32)) ?_
  show OwnGo p e below s _ _ _ s₁ (mkF m 0 _ [])
  have Kp : Keep h0 h0 [x] := Keep.refl h0 [x]
  refine .aloadN X0 hx (hb hby d35_0) rfl rfl ?_
  obtain ⟨T10, X10, e10, st10⟩ := initO X0 hx hZ hown (W_ hw 16 rfl) (W_ hw 17 rfl) (W_ hw 18 rfl) e0 (g := (mkF m 1 #[.val (.ref x), .val (.ref t), .val (.int (0 : Int32))] [(.ref x)])) rfl (by rw [hml]; rfl) rfl (hb hby d35_1) (by decide) (W := 0) (Nat.le_of_eq rfl) (by decide)
  refine .st st10 ?_
  show OwnGo p e below s _ _ _ T10 (mkF m 4 _ [])
  refine .aloadN X10 hx (hb hby d35_4) rfl rfl ?_
  refine .aloadN X10 hx (hb hby d35_5) rfl rfl ?_
  obtain ⟨T11, h11, X11, e11, W11, st11⟩ := putF X10 hx hZ hown (host := "") (Or.inl (W_ hw 25 rfl)) Via.refl e10 Fv E_x (Or.inr ⟨(W_ hw 21 rfl), rfl, hnm⟩) (W_ hw 6 rfl) (ty := (.array .byte)) (by decide) rfl rfl (g := (mkF m 6 #[.val (.ref x), .val (.ref t), .val (.int (0 : Int32))] [(.ref t), (.ref x)])) rfl rfl (hb hby d35_6)
  have E_x := E_x.wr W11
  have Fv := Fv.same W11
  have Fc := Fc.other W11 (Or.inr (slot_ne (Or.inr (W_ hw 22 rfl)) (Or.inr (W_ hw 21 rfl)) (by decide) (t := .byte) (t' := (.array .byte)) (by decide) (by decide)))
  have Kp := Kp.wr W11 (Or.inl (List.mem_of_getElem? (i := 0) rfl))
  have N11 := Fr.snoc X11 N0 g_x
  have Z_ : n0 ≤ h11.size := by rw [W11.size]; exact Z_
  refine .st st11 ?_
  show OwnGo p e below s _ _ _ T11 (mkF m 9 _ [])
  refine .aloadN X11 hx (hb hby d35_9) rfl rfl ?_
  refine .iloadN X11 hx (hb hby d35_10) rfl ?_
  obtain ⟨T12, h12, X12, e12, W12, st12⟩ := putFN X11 hx hZ hown (W_ hw 26 rfl) Via.refl e11 Fc E_x (Or.inr ⟨(W_ hw 22 rfl), rfl, hnm⟩) (W_ hw 6 rfl) (ty := .byte) (v' := (.int (0 : Int32))) (by decide) rfl (by decide) (g := (mkF m 11 #[.val (.ref x), .val (.ref t), .val (.int (0 : Int32))] [(.int (0 : Int32)), (.ref x)])) rfl rfl (hb hby d35_11)
  have E_x := E_x.wr W12
  have Fv := Fv.other W12 (Or.inr (slot_ne (Or.inr (W_ hw 21 rfl)) (Or.inr (W_ hw 22 rfl)) (by decide) (t := (.array .byte)) (t' := .byte) (by decide) (by decide)))
  have Fc := Fc.same W12
  have Kp := Kp.wr W12 (Or.inl (List.mem_of_getElem? (i := 0) rfl))
  have N12 := Fr.snoc X12 N11 g_x
  have Z_ : n0 ≤ h12.size := by rw [W12.size]; exact Z_
  refine .st st12 ?_
  show OwnGo p e below s _ _ _ T12 (mkF m 14 _ [])
  exact OwnGo.retV X12 hx hret hlk (hb hby d35_14) (by show QiniBB Z x t h0 n0 _ T12.heap _; rw [e12]; exact ⟨rfl, N12, Kp, E_x, Fc, Fv⟩) (by decide) (by decide)
def QvalueOfC (Z : State) (cc : Int32) (zc : Int32) (h0 : Heap) (n0 : Nat) (v : Option Value) (h : Heap) (L : List Loc) : Prop := ∃ (x t : Addr) (kb : ClassId), v = some (.ref x) ∧ Fr n0 L ∧ Keep h0 h [] ∧ Exa Z h x "java/lang/String" ∧ Fld Z h x "java/lang/String" "coder" "B" (.int (0 : Int32)) ∧ Fld Z h x "java/lang/String" "value" "[B" (.ref t) ∧ Arv Z h t kb .byte (1 : Int32) [(.int cc.toInt8.toInt32)] (.int (0 : Int32)) ∧ h0.size ≤ x ∧ h0.size ≤ t
theorem rmvalueOfC (l : Launch) (Z : State) (a0 : Array Value) (hw : own_tb a0 Z) (ws : List Jvm.Cond) (cc : Int32) (zc : Int32) (h0 : Heap) (n0 : Nat) (Z0 : n0 ≤ h0.size) (O_ : Old Z n0 h0) (S_CS : Sta Z Z.heap "java/lang/String" "COMPACT_STRINGS" "Z" (.int zc)) (P_CS : ¬ zc = (0 : Int32)) (hc : ¬ (255 : Int32) < cc) :
    OwnMet l (⟨"java/lang/String", "valueOf", "(C)Ljava/lang/String;"⟩ : MethodName) jdk_42_method_139_code 1 (some (.object "java/lang/String")) ws ({ frames := 2, cells := 2, slots := 5, locals := 27 } : Room) #[(.int cc)] Z h0 (QvalueOfC Z cc zc h0 n0) := by
  refine own_met (plainFor_of_name pn_6) ?_
  intro p e s m below meth c s₁ X0 hx hby hml hret hlk hown hnm hZ e0
  have N0 := Fr.nil n0
  have Z_ := Z0
  refine OwnGo.cast (ef_valueOfC m cc) ?_
  show OwnGo p e below s _ _ _ s₁ (mkF m 0 _ [])
  have Kp : Keep h0 h0 [] := Keep.refl h0 []
  obtain ⟨T13, X13, e13, st13⟩ := getS2 X0 hx hZ hown (host := "") (Or.inl (W_ hw 37 rfl)) Via.refl e0 (S_CS.ext O_.2) (g := (mkF m 0 #[.val (.int cc)] [])) rfl (hb hby d32_0)
  refine .st st13 ?_
  show OwnGo p e below s _ _ _ T13 (mkF m 3 _ [(.int zc)])
  refine .ifNo X13 hx (hb hby d32_3) ((if0 _ _).trans (feq (P_CS : ¬ (zc = (0 : Int32)))).1) ?_
  refine .iloadN X13 hx (hb hby d32_6) rfl ?_
  obtain ⟨_, _, ⟨T14, L14, k14, n14⟩, -, X14, ⟨Lc14, hQ14, l14, y14, z14⟩, st14⟩ := Jvm.LawKit.callS X13 hx (y := (⟨"java/lang/StringLatin1", "canEncode", "(C)Z"⟩ : MethodName)) hown (mvT hZ (W_ hw 138 rfl)) (mvT hZ (W_ hw 139 rfl)) (mvT hZ (W_ hw 75 rfl)) (mvT hZ (W_ hw 140 rfl)) (by decide) (backOf (W := 0) (rmcanEnc l Z a0 hw [] cc h0 n0 Z_ hc) hZ (W_ hw 140 rfl) (W_ hw 75 rfl) (by decide) (by decide)) (g := (mkF m 7 #[.val (.int cc)] [(.int cc)])) rfl (by rw [hml]; rfl) (argsL := [(.int cc)]) (rest := []) (lenOf pd_1 rfl) rfl (Nat.le_of_eq rfl) (hb hby d32_7) (fun _ _ => ⟨rfl, e13, (by decide : 0 + 0 ≤ _), (by decide : 0 + 0 ≤ _)⟩)
  dsimp only [Pt.U, Pt.locs, Pt.cells, Pt.slots] at X14 l14 y14 z14 st14 hQ14
  subst l14 y14 z14
  obtain ⟨rfl, N14q, e14⟩ := hQ14
  have N14 := Fr.app N0 N14q
  refine .st st14 ?_
  show OwnGo p e below s _ _ _ T14 (mkF m 10 _ [(.int (1 : Int32))])
  refine .ifNo X14 hx (hb hby d32_10) ((if0 _ _).trans (feq ((by decide) : ¬ ((1 : Int32) = (0 : Int32)))).1) ?_
  obtain ⟨T15, h15, X15, e15, E15, A15, D15, -, st15⟩ := newO X14 hx hZ hown (W_ hw 141 rfl) (W_ hw 6 rfl) (W_ hw 7 rfl) e14 (g := (mkF m 13 #[.val (.int cc)] [])) rfl (hb hby d32_13) (by decide) (by decide)
  obtain ⟨b15, g15⟩ : ∃ z, z = h0.size := ⟨_, rfl⟩
  rw [← g15] at A15 D15 st15
  have g_b15 : n0 ≤ b15 := Nat.le_trans Z_ (Nat.le_of_eq g15.symm)
  have sz_b15 : h0.size ≤ b15 := Nat.le_trans Kp.1 (Nat.le_of_eq g15.symm)
  have O_ := O_.ext E15
  have Kp := Kp.ext E15
  have Z_ : n0 ≤ h15.size := Nat.le_trans Z_ E15.1
  have E_b15 := A15
  have F_value_b15 : Fld Z h15 b15 "java/lang/String" "value" "[B" .null := D15 (Or.inr (W_ hw 21 rfl)) (ty := (.array .byte)) (by decide)
  have F_coder_b15 : Fld Z h15 b15 "java/lang/String" "coder" "B" (.int (0 : Int32)) := D15 (Or.inr (W_ hw 22 rfl)) (ty := .byte) (by decide)
  refine .st st15 ?_
  show OwnGo p e below s _ _ _ T15 (mkF m 16 _ [(.ref b15)])
  refine .dup X15 hx (hb hby d32_16) rfl ?_
  refine .iloadN X15 hx (hb hby d32_17) rfl ?_
  obtain ⟨_, _, ⟨T16, L16, k16, n16⟩, -, X16, ⟨Lc16, hQ16, l16, y16, z16⟩, st16⟩ := Jvm.LawKit.callS X15 hx (y := (⟨"java/lang/StringLatin1", "toBytes", "(C)[B"⟩ : MethodName)) hown (mvT hZ (W_ hw 142 rfl)) (mvT hZ (W_ hw 143 rfl)) (mvT hZ (W_ hw 75 rfl)) (mvT hZ (W_ hw 144 rfl)) (by decide) (backOf (W := 2) (rmtoB1 l Z a0 hw [] cc h15 n0 Z_ ) hZ (W_ hw 144 rfl) (W_ hw 75 rfl) (by decide) (by decide)) (g := (mkF m 18 #[.val (.int cc)] [(.int cc), (.ref b15), (.ref b15)])) rfl (by rw [hml]; rfl) (argsL := [(.int cc)]) (rest := [(.ref b15), (.ref b15)]) (lenOf pd_2 rfl) rfl (Nat.le_of_eq rfl) (hb hby d32_18) (fun _ _ => ⟨rfl, e15, (by decide : 1 + 1 ≤ _), (by decide : 4 + 1 ≤ _)⟩)
  dsimp only [Pt.U, Pt.locs, Pt.cells, Pt.slots] at X16 l16 y16 z16 st16 hQ16
  subst l16 y16 z16
  obtain ⟨t16, kb16, rfl, N16q, K16, V16, zt16⟩ := hQ16
  have N16 := Fr.app N14 N16q
  have ne_b15_t16 : b15 ≠ t16 := Nat.ne_of_lt (Nat.lt_of_lt_of_le E_b15.lt zt16)
  have g_t16 : n0 ≤ t16 := Nat.le_trans Z_ zt16
  have sz_t16 : h0.size ≤ t16 := Nat.le_trans Kp.1 zt16
  have Z_ : n0 ≤ T16.heap.size := Nat.le_trans Z_ K16.1
  have E_b15 := E_b15.keep K16
  have F_value_b15 := F_value_b15.keep K16 nin0
  have F_coder_b15 := F_coder_b15.keep K16 nin0
  have O_ := O_.keep K16 all0
  have Kp := Kp.trans K16 all0
  refine .st st16 ?_
  show OwnGo p e below s _ _ _ T16 (mkF m 21 _ [(.ref t16), (.ref b15), (.ref b15)])
  refine .iconst X16 hx (hb hby d32_21) own_ki0 ?_
  obtain ⟨_, _, ⟨T17, L17, k17, n17⟩, -, X17, ⟨Lc17, hQ17, l17, y17, z17⟩, st17⟩ := X16.specialBack hx (y := (⟨"java/lang/String", "<init>", "([BB)V"⟩ : MethodName)) rfl hown (mvT hZ (W_ hw 145 rfl)) (mvT hZ (W_ hw 146 rfl)) (mvT hZ (W_ hw 147 rfl)) (by decide) (backOf (W := 1) (rminiBB l Z a0 hw [] b15 t16 T16.heap n0 Z_ E_b15 F_value_b15 F_coder_b15 g_b15) hZ (W_ hw 147 rfl) (W_ hw 7 rfl) (by decide) (by decide)) (g := (mkF m 22 #[.val (.int cc)] [(.int (0 : Int32)), (.ref t16), (.ref b15), (.ref b15)])) rfl (by rw [hml]; rfl) (Steps.refl _) (a := b15) (argsL := [(.ref t16), (.int (0 : Int32))]) (rest := [(.ref b15)]) (lenOf pd_3 rfl) rfl (Nat.le_of_eq rfl) (hb hby d32_22) (fun _ _ => ⟨rfl, rfl, (by decide : 2 + 0 ≤ _), (by decide : 5 + 0 ≤ _)⟩)
  dsimp only [Pt.U, Pt.locs, Pt.cells, Pt.slots] at X17 l17 y17 z17 st17 hQ17
  subst l17 y17 z17
  obtain ⟨rfl, N17q, K17, Ex17, Fc17, Fv17⟩ := hQ17
  have N17 := Fr.app N16 N17q
  have Z_ : n0 ≤ T17.heap.size := Nat.le_trans Z_ K17.1
  have E_b15 := E_b15.keep K17
  have V16 := V16.keep K17 (ninS (Ne.symm ne_b15_t16) nin0)
  have O_ := O_.keep K17 (allS g_b15 all0)
  have Kp := Kp.trans K17 (allS (Or.inr sz_b15) all0)
  refine .st (fun _ => st17.trans) ?_
  show OwnGo p e below s _ _ _ T17 (mkF m 25 _ [(.ref b15)])
  exact OwnGo.ret X17 hx hret hlk rfl (Or.inr (Or.inr (Or.inr (Or.inr ⟨rfl, rfl, rfl⟩)))) (hb hby d32_25) (by show QvalueOfC Z cc zc h0 n0 _ T17.heap _; exact ⟨b15, t16, kb16, rfl, N17, Kp, Ex17, Fc17, Fv17, V16, sz_b15, sz_t16⟩) (by decide) (by decide)
def QputC0 (Z : State) (t : Addr) (kc : ClassId) (cc : Int32) (z : Int32) (vs : List Value) (h0 : Heap) (n0 : Nat) (v : Option Value) (h : Heap) (L : List Loc) : Prop := v = none ∧ Fr n0 L ∧ Keep h0 h [t] ∧ Arv Z h t kc .byte z ((vs.set 0 (.int (own_lo cc))).set 1 (.int (own_hi cc))) (.int (0 : Int32))
theorem rmputC0 (l : Launch) (Z : State) (a0 : Array Value) (hw : own_tb a0 Z) (ws : List Jvm.Cond) (t : Addr) (kc : ClassId) (cc : Int32) (z : Int32) (vs : List Value) (h0 : Heap) (n0 : Nat) (Z0 : n0 ≤ h0.size) (O_ : Old Z n0 h0) (S_AD : Sta Z Z.heap "java/lang/StringUTF16" "$assertionsDisabled" "Z" (.int (1 : Int32))) (S_HB : Sta Z Z.heap "java/lang/StringUTF16" "HI_BYTE_SHIFT" "I" (.int (0 : Int32))) (S_LB : Sta Z Z.heap "java/lang/StringUTF16" "LO_BYTE_SHIFT" "I" (.int (8 : Int32))) (V_t : Arv Z h0 t kc .byte z vs (.int (0 : Int32))) (g_t : n0 ≤ t) (hz : ¬ (0 : Int32) < 0 ∧ (0 : Int32) < z) (hz' : ¬ (1 : Int32) < 0 ∧ (1 : Int32) < z) (hl : 1 < vs.length) :
    OwnMet l (⟨"java/lang/StringUTF16", "putChar", "([BII)V"⟩ : MethodName) jdk_52_method_4_code 3 none ws ({ frames := 0, cells := 0, slots := 0, locals := 0 } : Room) #[(.ref t), (.int (0 : Int32)), (.int cc)] Z h0 (QputC0 Z t kc cc z vs h0 n0) := by
  refine own_met (plainFor_of_name pn_23) ?_
  intro p e s m below meth c s₁ X0 hx hby hml hret hlk hown hnm hZ e0
  have N0 := Fr.nil n0
  have Z_ := Z0
  refine OwnGo.cast (ef_putC0 m t (0 : Int32) cc) ?_
  show OwnGo p e below s _ _ _ s₁ (mkF m 0 _ [])
  have Kp : Keep h0 h0 [t] := Keep.refl h0 [t]
  obtain ⟨T18, X18, e18, st18⟩ := getS2 X0 hx hZ hown (host := "") (Or.inl (W_ hw 103 rfl)) Via.refl e0 (S_AD.ext O_.2) (g := (mkF m 0 #[.val (.ref t), .val (.int (0 : Int32)), .val (.int cc)] [])) rfl (hb hby d23_0)
  refine .st st18 ?_
  show OwnGo p e below s _ _ _ T18 (mkF m 3 _ [(.int (1 : Int32))])
  refine .ifYes (pc := 3) X18 hx 28 (hb hby d23_3) ((if0 _ _).trans (feq ((by decide) : ¬ ((1 : Int32) = (0 : Int32)))).2) (by decide) (by decide) ?_
  refine .iloadN X18 hx (hb hby d23_28) rfl ?_
  refine .iconst X18 hx (hb hby d23_29) own_ki1 ?_
  refine .st (fun _ => XS.ishl X18.here hx rfl (hb hby d23_30) rfl) ?_
  show OwnGo p e below s _ _ _ T18 (mkF m 31 _ [(.int ((0 : Int32) <<< ((1 : Int32) &&& 31)))])
  rw [show ((0 : Int32) <<< ((1 : Int32) &&& 31)) = (0 : Int32) from by decide]
  show OwnGo p e below s _ _ _ T18 (mkF m 31 _ [(.int (0 : Int32))])
  refine .istoreN X18 hx (hb hby d23_31) (L' := #[.val (.ref t), .val (.int (0 : Int32)), .val (.int cc)]) rfl ?_
  refine .aloadN X18 hx (hb hby d23_32) rfl rfl ?_
  refine .iloadN X18 hx (hb hby d23_33) rfl ?_
  refine .iinc X18 hx (hb hby d23_34) rfl own_ka0_1 (L' := #[.val (.ref t), .val (.int (1 : Int32)), .val (.int cc)]) rfl ?_
  refine .iloadN X18 hx (hb hby d23_37) rfl ?_
  obtain ⟨T19, X19, e19, st19⟩ := getS2 X18 hx hZ hown (host := "") (Or.inl (W_ hw 104 rfl)) Via.refl e18 (S_HB.ext O_.2) (g := (mkF m 38 #[.val (.ref t), .val (.int (1 : Int32)), .val (.int cc)] [(.int cc), (.int (0 : Int32)), (.ref t)])) rfl (hb hby d23_38)
  refine .st st19 ?_
  show OwnGo p e below s _ _ _ T19 (mkF m 41 _ [(.int (0 : Int32)), (.int cc), (.int (0 : Int32)), (.ref t)])
  refine .st (fun _ => XS.ishr X19.here hx rfl (hb hby d23_41) rfl) ?_
  show OwnGo p e below s _ _ _ T19 (mkF m 42 _ [(.int (cc >>> ((0 : Int32) &&& 31))), (.int (0 : Int32)), (.ref t)])
  refine .st (fun _ => XS.i2b X19.here hx rfl (hb hby d23_42) rfl) ?_
  show OwnGo p e below s _ _ _ T19 (mkF m 43 _ [(.int ((cc >>> ((0 : Int32) &&& 31)).toInt8.toInt32)), (.int (0 : Int32)), (.ref t)])
  show OwnGo p e below s _ _ _ T19 (mkF m 43 _ [(.int (own_lo cc)), (.int (0 : Int32)), (.ref t)])
  obtain ⟨cl20, Ar20, q20, S20, N20, H20, G20⟩ := id V_t
  obtain ⟨T20, h20, X20, e20, W20, st20⟩ := stB X19 hx hZ e19 Ar20 (j := (0 : Int32)) (inb_of S20 hz) (g := (mkF m 43 #[.val (.ref t), .val (.int (1 : Int32)), .val (.int cc)] [(.int (own_lo cc)), (.int (0 : Int32)), (.ref t)])) rfl rfl (hb hby d23_43)
  have V' := Arv.set Ar20 q20 S20 N20 H20 G20 (fits_nar_byte _) W20 0 rfl (Nat.lt_of_succ_lt hl)
  rw [show (own_lo cc).toInt8.toInt32 = (own_lo cc) from (own_nb _)] at V'
  have O_ := O_.wr W20 g_t
  have Kp := Kp.wr W20 (Or.inl (List.mem_of_getElem? (i := 0) rfl))
  have N20 := Fr.snoc X20 N0 g_t
  have Z_ : n0 ≤ h20.size := by rw [W20.size]; exact Z_
  have V_t := V'
  refine .st st20 ?_
  show OwnGo p e below s _ _ _ T20 (mkF m 44 _ [])
  refine .aloadN X20 hx (hb hby d23_44) rfl rfl ?_
  refine .iloadN X20 hx (hb hby d23_45) rfl ?_
  refine .iloadN X20 hx (hb hby d23_46) rfl ?_
  obtain ⟨T21, X21, e21, st21⟩ := getS2 X20 hx hZ hown (host := "") (Or.inl (W_ hw 105 rfl)) Via.refl e20 (S_LB.ext O_.2) (g := (mkF m 47 #[.val (.ref t), .val (.int (1 : Int32)), .val (.int cc)] [(.int cc), (.int (1 : Int32)), (.ref t)])) rfl (hb hby d23_47)
  refine .st st21 ?_
  show OwnGo p e below s _ _ _ T21 (mkF m 50 _ [(.int (8 : Int32)), (.int cc), (.int (1 : Int32)), (.ref t)])
  refine .st (fun _ => XS.ishr X21.here hx rfl (hb hby d23_50) rfl) ?_
  show OwnGo p e below s _ _ _ T21 (mkF m 51 _ [(.int (cc >>> ((8 : Int32) &&& 31))), (.int (1 : Int32)), (.ref t)])
  refine .st (fun _ => XS.i2b X21.here hx rfl (hb hby d23_51) rfl) ?_
  show OwnGo p e below s _ _ _ T21 (mkF m 52 _ [(.int ((cc >>> ((8 : Int32) &&& 31)).toInt8.toInt32)), (.int (1 : Int32)), (.ref t)])
  show OwnGo p e below s _ _ _ T21 (mkF m 52 _ [(.int (own_hi cc)), (.int (1 : Int32)), (.ref t)])
  obtain ⟨cl22, Ar22, q22, S22, N22, H22, G22⟩ := id V_t
  obtain ⟨T22, h22, X22, e22, W22, st22⟩ := stB X21 hx hZ e21 Ar22 (j := (1 : Int32)) (inb_of S22 hz') (g := (mkF m 52 #[.val (.ref t), .val (.int (1 : Int32)), .val (.int cc)] [(.int (own_hi cc)), (.int (1 : Int32)), (.ref t)])) rfl rfl (hb hby d23_52)
  have V' := Arv.set Ar22 q22 S22 N22 H22 G22 (fits_nar_byte _) W22 1 rfl (by rw [List.length_set]; exact hl)
  rw [show (own_hi cc).toInt8.toInt32 = (own_hi cc) from (own_nb _)] at V'
  have O_ := O_.wr W22 g_t
  have Kp := Kp.wr W22 (Or.inl (List.mem_of_getElem? (i := 0) rfl))
  have N22 := Fr.snoc X22 N20 g_t
  have Z_ : n0 ≤ h22.size := by rw [W22.size]; exact Z_
  have V_t := V'
  refine .st st22 ?_
  show OwnGo p e below s _ _ _ T22 (mkF m 53 _ [])
  exact OwnGo.retV X22 hx hret hlk (hb hby d23_53) (by show QputC0 Z t kc cc z vs h0 n0 _ T22.heap _; rw [e22]; exact ⟨rfl, N22, Kp, V_t⟩) (by decide) (by decide)
def QgetC0 (Z : State) (t : Addr) (kc : ClassId) (cc : Int32) (z : Int32) (vs : List Value) (h0 : Heap) (n0 : Nat) (v : Option Value) (h : Heap) (L : List Loc) : Prop := v = some (.int cc) ∧ Fr n0 L ∧ h = h0
theorem rmgetC0 (l : Launch) (Z : State) (a0 : Array Value) (hw : own_tb a0 Z) (ws : List Jvm.Cond) (t : Addr) (kc : ClassId) (cc : Int32) (z : Int32) (vs : List Value) (h0 : Heap) (n0 : Nat) (Z0 : n0 ≤ h0.size) (O_ : Old Z n0 h0) (S_AD : Sta Z Z.heap "java/lang/StringUTF16" "$assertionsDisabled" "Z" (.int (1 : Int32))) (S_HB : Sta Z Z.heap "java/lang/StringUTF16" "HI_BYTE_SHIFT" "I" (.int (0 : Int32))) (S_LB : Sta Z Z.heap "java/lang/StringUTF16" "LO_BYTE_SHIFT" "I" (.int (8 : Int32))) (V_t : Arv Z h0 t kc .byte z vs (.int (0 : Int32))) (hz : ¬ (0 : Int32) < 0 ∧ (0 : Int32) < z) (hz' : ¬ (1 : Int32) < 0 ∧ (1 : Int32) < z) (ha : vs.getD 0 (.int (0 : Int32)) = .int (own_lo cc)) (ha' : vs.getD 1 (.int (0 : Int32)) = .int (own_hi cc)) (P_ : own_u cc) :
    OwnMet l (⟨"java/lang/StringUTF16", "getChar", "([BI)C"⟩ : MethodName) jdk_52_method_5_code 2 (some .char) ws ({ frames := 0, cells := 0, slots := 0, locals := 0 } : Room) #[(.ref t), (.int (0 : Int32))] Z h0 (QgetC0 Z t kc cc z vs h0 n0) := by
  refine own_met (plainFor_of_name pn_23) ?_
  intro p e s m below meth c s₁ X0 hx hby hml hret hlk hown hnm hZ e0
  have N0 := Fr.nil n0
  have Z_ := Z0
  refine OwnGo.cast (ef_getC0 m t (0 : Int32)) ?_
  show OwnGo p e below s _ _ _ s₁ (mkF m 0 _ [])
  obtain ⟨T23, X23, e23, st23⟩ := getS2 X0 hx hZ hown (host := "") (Or.inl (W_ hw 103 rfl)) Via.refl e0 (S_AD.ext O_.2) (g := (mkF m 0 #[.val (.ref t), .val (.int (0 : Int32))] [])) rfl (hb hby d24_0)
  refine .st st23 ?_
  show OwnGo p e below s _ _ _ T23 (mkF m 3 _ [(.int (1 : Int32))])
  refine .ifYes (pc := 3) X23 hx 28 (hb hby d24_3) ((if0 _ _).trans (feq ((by decide) : ¬ ((1 : Int32) = (0 : Int32)))).2) (by decide) (by decide) ?_
  refine .iloadN X23 hx (hb hby d24_28) rfl ?_
  refine .iconst X23 hx (hb hby d24_29) own_ki1 ?_
  refine .st (fun _ => XS.ishl X23.here hx rfl (hb hby d24_30) rfl) ?_
  show OwnGo p e below s _ _ _ T23 (mkF m 31 _ [(.int ((0 : Int32) <<< ((1 : Int32) &&& 31)))])
  rw [show ((0 : Int32) <<< ((1 : Int32) &&& 31)) = (0 : Int32) from by decide]
  show OwnGo p e below s _ _ _ T23 (mkF m 31 _ [(.int (0 : Int32))])
  refine .istoreN X23 hx (hb hby d24_31) (L' := #[.val (.ref t), .val (.int (0 : Int32))]) rfl ?_
  refine .aloadN X23 hx (hb hby d24_32) rfl rfl ?_
  refine .iloadN X23 hx (hb hby d24_33) rfl ?_
  refine .iinc X23 hx (hb hby d24_34) rfl own_ka0_1 (L' := #[.val (.ref t), .val (.int (1 : Int32))]) rfl ?_
  obtain ⟨cl24, Ar24, -, S24, -, H24, -⟩ := id V_t
  have hin24 : ¬ ((0 : Int32) < 0 ∨ cl24.slots.size ≤ ((0 : Int32)).toNatClampNeg) := inb_of S24 hz
  refine .st (fun _ => X23.baloadBytes hx (j := (0 : Int32)) (v := (.int (own_lo cc))) (by first | exact Ar24.1 | (rw [e23]; exact Ar24.1)) (State.isArrayOf_alike hZ.alike Ar24.2.1) Ar24.2.2 hin24 (H24.at hin24 ha) (g := (mkF m 37 #[.val (.ref t), .val (.int (1 : Int32))] [(.int (0 : Int32)), (.ref t)])) rfl rfl (hb hby d24_37) _) ?_
  show OwnGo p e below s _ _ _ T23 (mkF m 38 _ [(.int (own_lo cc))])
  refine .sipush X23 hx (hb hby d24_38) own_ks255 ?_
  refine .st (fun _ => XS.iand X23.here hx rfl (hb hby d24_41) rfl) ?_
  show OwnGo p e below s _ _ _ T23 (mkF m 42 _ [(.int ((own_lo cc) &&& (255 : Int32)))])
  obtain ⟨T25, X25, e25, st25⟩ := getS2 X23 hx hZ hown (host := "") (Or.inl (W_ hw 104 rfl)) Via.refl e23 (S_HB.ext O_.2) (g := (mkF m 42 #[.val (.ref t), .val (.int (1 : Int32))] [(.int ((own_lo cc) &&& (255 : Int32)))])) rfl (hb hby d24_42)
  refine .st st25 ?_
  show OwnGo p e below s _ _ _ T25 (mkF m 45 _ [(.int (0 : Int32)), (.int ((own_lo cc) &&& (255 : Int32)))])
  refine .st (fun _ => XS.ishl X25.here hx rfl (hb hby d24_45) rfl) ?_
  show OwnGo p e below s _ _ _ T25 (mkF m 46 _ [(.int (((own_lo cc) &&& (255 : Int32)) <<< ((0 : Int32) &&& 31)))])
  refine .aloadN X25 hx (hb hby d24_46) rfl rfl ?_
  refine .iloadN X25 hx (hb hby d24_47) rfl ?_
  obtain ⟨cl26, Ar26, -, S26, -, H26, -⟩ := id V_t
  have hin26 : ¬ ((1 : Int32) < 0 ∨ cl26.slots.size ≤ ((1 : Int32)).toNatClampNeg) := inb_of S26 hz'
  refine .st (fun _ => X25.baloadBytes hx (j := (1 : Int32)) (v := (.int (own_hi cc))) (by first | exact Ar26.1 | (rw [e25]; exact Ar26.1)) (State.isArrayOf_alike hZ.alike Ar26.2.1) Ar26.2.2 hin26 (H26.at hin26 ha') (g := (mkF m 48 #[.val (.ref t), .val (.int (1 : Int32))] [(.int (1 : Int32)), (.ref t), (.int (((own_lo cc) &&& (255 : Int32)) <<< ((0 : Int32) &&& 31)))])) rfl rfl (hb hby d24_48) _) ?_
  show OwnGo p e below s _ _ _ T25 (mkF m 49 _ [(.int (own_hi cc)), (.int (((own_lo cc) &&& (255 : Int32)) <<< ((0 : Int32) &&& 31)))])
  refine .sipush X25 hx (hb hby d24_49) own_ks255 ?_
  refine .st (fun _ => XS.iand X25.here hx rfl (hb hby d24_52) rfl) ?_
  show OwnGo p e below s _ _ _ T25 (mkF m 53 _ [(.int ((own_hi cc) &&& (255 : Int32))), (.int (((own_lo cc) &&& (255 : Int32)) <<< ((0 : Int32) &&& 31)))])
  obtain ⟨T27, X27, e27, st27⟩ := getS2 X25 hx hZ hown (host := "") (Or.inl (W_ hw 105 rfl)) Via.refl e25 (S_LB.ext O_.2) (g := (mkF m 53 #[.val (.ref t), .val (.int (1 : Int32))] [(.int ((own_hi cc) &&& (255 : Int32))), (.int (((own_lo cc) &&& (255 : Int32)) <<< ((0 : Int32) &&& 31)))])) rfl (hb hby d24_53)
  refine .st st27 ?_
  show OwnGo p e below s _ _ _ T27 (mkF m 56 _ [(.int (8 : Int32)), (.int ((own_hi cc) &&& (255 : Int32))), (.int (((own_lo cc) &&& (255 : Int32)) <<< ((0 : Int32) &&& 31)))])
  refine .st (fun _ => XS.ishl X27.here hx rfl (hb hby d24_56) rfl) ?_
  show OwnGo p e below s _ _ _ T27 (mkF m 57 _ [(.int (((own_hi cc) &&& (255 : Int32)) <<< ((8 : Int32) &&& 31))), (.int (((own_lo cc) &&& (255 : Int32)) <<< ((0 : Int32) &&& 31)))])
  refine .st (fun _ => XS.ior X27.here hx rfl (hb hby d24_57) rfl) ?_
  show OwnGo p e below s _ _ _ T27 (mkF m 58 _ [(.int ((((own_lo cc) &&& (255 : Int32)) <<< ((0 : Int32) &&& 31)) ||| (((own_hi cc) &&& (255 : Int32)) <<< ((8 : Int32) &&& 31))))])
  refine .st (fun _ => XS.i2c X27.here hx rfl (hb hby d24_58) rfl) ?_
  show OwnGo p e below s _ _ _ T27 (mkF m 59 _ [(.int (((((own_lo cc) &&& (255 : Int32)) <<< ((0 : Int32) &&& 31)) ||| (((own_hi cc) &&& (255 : Int32)) <<< ((8 : Int32) &&& 31))).toUInt32.toUInt16.toUInt32.toInt32))])
  rw [own_uch P_]
  show OwnGo p e below s _ _ _ T27 (mkF m 59 _ [(.int cc)])
  exact OwnGo.retN X27 hx (t := .char) hret hlk (by simp) (hb hby d24_59) (by show QgetC0 Z t kc cc z vs h0 n0 _ T27.heap _; rw [e27]; exact ⟨by rw [own_unc P_], N0, rfl⟩) (by decide) (by decide)
def QputC1 (Z : State) (t : Addr) (kc : ClassId) (cc : Int32) (z : Int32) (vs : List Value) (h0 : Heap) (n0 : Nat) (v : Option Value) (h : Heap) (L : List Loc) : Prop := v = none ∧ Fr n0 L ∧ Keep h0 h [t] ∧ Arv Z h t kc .byte z ((vs.set 2 (.int (own_lo cc))).set 3 (.int (own_hi cc))) (.int (0 : Int32))
theorem rmputC1 (l : Launch) (Z : State) (a0 : Array Value) (hw : own_tb a0 Z) (ws : List Jvm.Cond) (t : Addr) (kc : ClassId) (cc : Int32) (z : Int32) (vs : List Value) (h0 : Heap) (n0 : Nat) (Z0 : n0 ≤ h0.size) (O_ : Old Z n0 h0) (S_AD : Sta Z Z.heap "java/lang/StringUTF16" "$assertionsDisabled" "Z" (.int (1 : Int32))) (S_HB : Sta Z Z.heap "java/lang/StringUTF16" "HI_BYTE_SHIFT" "I" (.int (0 : Int32))) (S_LB : Sta Z Z.heap "java/lang/StringUTF16" "LO_BYTE_SHIFT" "I" (.int (8 : Int32))) (V_t : Arv Z h0 t kc .byte z vs (.int (0 : Int32))) (g_t : n0 ≤ t) (hz : ¬ (2 : Int32) < 0 ∧ (2 : Int32) < z) (hz' : ¬ (3 : Int32) < 0 ∧ (3 : Int32) < z) (hl : 3 < vs.length) :
    OwnMet l (⟨"java/lang/StringUTF16", "putChar", "([BII)V"⟩ : MethodName) jdk_52_method_4_code 3 none ws ({ frames := 0, cells := 0, slots := 0, locals := 0 } : Room) #[(.ref t), (.int (1 : Int32)), (.int cc)] Z h0 (QputC1 Z t kc cc z vs h0 n0) := by
  refine own_met (plainFor_of_name pn_23) ?_
  intro p e s m below meth c s₁ X0 hx hby hml hret hlk hown hnm hZ e0
  have N0 := Fr.nil n0
  have Z_ := Z0
  refine OwnGo.cast (ef_putC1 m t (1 : Int32) cc) ?_
  show OwnGo p e below s _ _ _ s₁ (mkF m 0 _ [])
  have Kp : Keep h0 h0 [t] := Keep.refl h0 [t]
  obtain ⟨T28, X28, e28, st28⟩ := getS2 X0 hx hZ hown (host := "") (Or.inl (W_ hw 103 rfl)) Via.refl e0 (S_AD.ext O_.2) (g := (mkF m 0 #[.val (.ref t), .val (.int (1 : Int32)), .val (.int cc)] [])) rfl (hb hby d23_0)
  refine .st st28 ?_
  show OwnGo p e below s _ _ _ T28 (mkF m 3 _ [(.int (1 : Int32))])
  refine .ifYes (pc := 3) X28 hx 28 (hb hby d23_3) ((if0 _ _).trans (feq ((by decide) : ¬ ((1 : Int32) = (0 : Int32)))).2) (by decide) (by decide) ?_
  refine .iloadN X28 hx (hb hby d23_28) rfl ?_
  refine .iconst X28 hx (hb hby d23_29) own_ki1 ?_
  refine .st (fun _ => XS.ishl X28.here hx rfl (hb hby d23_30) rfl) ?_
  show OwnGo p e below s _ _ _ T28 (mkF m 31 _ [(.int ((1 : Int32) <<< ((1 : Int32) &&& 31)))])
  rw [show ((1 : Int32) <<< ((1 : Int32) &&& 31)) = (2 : Int32) from by decide]
  show OwnGo p e below s _ _ _ T28 (mkF m 31 _ [(.int (2 : Int32))])
  refine .istoreN X28 hx (hb hby d23_31) (L' := #[.val (.ref t), .val (.int (2 : Int32)), .val (.int cc)]) rfl ?_
  refine .aloadN X28 hx (hb hby d23_32) rfl rfl ?_
  refine .iloadN X28 hx (hb hby d23_33) rfl ?_
  refine .iinc X28 hx (hb hby d23_34) rfl own_ka2_1 (L' := #[.val (.ref t), .val (.int (3 : Int32)), .val (.int cc)]) rfl ?_
  refine .iloadN X28 hx (hb hby d23_37) rfl ?_
  obtain ⟨T29, X29, e29, st29⟩ := getS2 X28 hx hZ hown (host := "") (Or.inl (W_ hw 104 rfl)) Via.refl e28 (S_HB.ext O_.2) (g := (mkF m 38 #[.val (.ref t), .val (.int (3 : Int32)), .val (.int cc)] [(.int cc), (.int (2 : Int32)), (.ref t)])) rfl (hb hby d23_38)
  refine .st st29 ?_
  show OwnGo p e below s _ _ _ T29 (mkF m 41 _ [(.int (0 : Int32)), (.int cc), (.int (2 : Int32)), (.ref t)])
  refine .st (fun _ => XS.ishr X29.here hx rfl (hb hby d23_41) rfl) ?_
  show OwnGo p e below s _ _ _ T29 (mkF m 42 _ [(.int (cc >>> ((0 : Int32) &&& 31))), (.int (2 : Int32)), (.ref t)])
  refine .st (fun _ => XS.i2b X29.here hx rfl (hb hby d23_42) rfl) ?_
  show OwnGo p e below s _ _ _ T29 (mkF m 43 _ [(.int ((cc >>> ((0 : Int32) &&& 31)).toInt8.toInt32)), (.int (2 : Int32)), (.ref t)])
  show OwnGo p e below s _ _ _ T29 (mkF m 43 _ [(.int (own_lo cc)), (.int (2 : Int32)), (.ref t)])
  obtain ⟨cl30, Ar30, q30, S30, N30, H30, G30⟩ := id V_t
  obtain ⟨T30, h30, X30, e30, W30, st30⟩ := stB X29 hx hZ e29 Ar30 (j := (2 : Int32)) (inb_of S30 hz) (g := (mkF m 43 #[.val (.ref t), .val (.int (3 : Int32)), .val (.int cc)] [(.int (own_lo cc)), (.int (2 : Int32)), (.ref t)])) rfl rfl (hb hby d23_43)
  have V' := Arv.set Ar30 q30 S30 N30 H30 G30 (fits_nar_byte _) W30 2 rfl (Nat.lt_of_succ_lt hl)
  rw [show (own_lo cc).toInt8.toInt32 = (own_lo cc) from (own_nb _)] at V'
  have O_ := O_.wr W30 g_t
  have Kp := Kp.wr W30 (Or.inl (List.mem_of_getElem? (i := 0) rfl))
  have N30 := Fr.snoc X30 N0 g_t
  have Z_ : n0 ≤ h30.size := by rw [W30.size]; exact Z_
  have V_t := V'
  refine .st st30 ?_
  show OwnGo p e below s _ _ _ T30 (mkF m 44 _ [])
  refine .aloadN X30 hx (hb hby d23_44) rfl rfl ?_
  refine .iloadN X30 hx (hb hby d23_45) rfl ?_
  refine .iloadN X30 hx (hb hby d23_46) rfl ?_
  obtain ⟨T31, X31, e31, st31⟩ := getS2 X30 hx hZ hown (host := "") (Or.inl (W_ hw 105 rfl)) Via.refl e30 (S_LB.ext O_.2) (g := (mkF m 47 #[.val (.ref t), .val (.int (3 : Int32)), .val (.int cc)] [(.int cc), (.int (3 : Int32)), (.ref t)])) rfl (hb hby d23_47)
  refine .st st31 ?_
  show OwnGo p e below s _ _ _ T31 (mkF m 50 _ [(.int (8 : Int32)), (.int cc), (.int (3 : Int32)), (.ref t)])
  refine .st (fun _ => XS.ishr X31.here hx rfl (hb hby d23_50) rfl) ?_
  show OwnGo p e below s _ _ _ T31 (mkF m 51 _ [(.int (cc >>> ((8 : Int32) &&& 31))), (.int (3 : Int32)), (.ref t)])
  refine .st (fun _ => XS.i2b X31.here hx rfl (hb hby d23_51) rfl) ?_
  show OwnGo p e below s _ _ _ T31 (mkF m 52 _ [(.int ((cc >>> ((8 : Int32) &&& 31)).toInt8.toInt32)), (.int (3 : Int32)), (.ref t)])
  show OwnGo p e below s _ _ _ T31 (mkF m 52 _ [(.int (own_hi cc)), (.int (3 : Int32)), (.ref t)])
  obtain ⟨cl32, Ar32, q32, S32, N32, H32, G32⟩ := id V_t
  obtain ⟨T32, h32, X32, e32, W32, st32⟩ := stB X31 hx hZ e31 Ar32 (j := (3 : Int32)) (inb_of S32 hz') (g := (mkF m 52 #[.val (.ref t), .val (.int (3 : Int32)), .val (.int cc)] [(.int (own_hi cc)), (.int (3 : Int32)), (.ref t)])) rfl rfl (hb hby d23_52)
  have V' := Arv.set Ar32 q32 S32 N32 H32 G32 (fits_nar_byte _) W32 3 rfl (by rw [List.length_set]; exact hl)
  rw [show (own_hi cc).toInt8.toInt32 = (own_hi cc) from (own_nb _)] at V'
  have O_ := O_.wr W32 g_t
  have Kp := Kp.wr W32 (Or.inl (List.mem_of_getElem? (i := 0) rfl))
  have N32 := Fr.snoc X32 N30 g_t
  have Z_ : n0 ≤ h32.size := by rw [W32.size]; exact Z_
  have V_t := V'
  refine .st st32 ?_
  show OwnGo p e below s _ _ _ T32 (mkF m 53 _ [])
  exact OwnGo.retV X32 hx hret hlk (hb hby d23_53) (by show QputC1 Z t kc cc z vs h0 n0 _ T32.heap _; rw [e32]; exact ⟨rfl, N32, Kp, V_t⟩) (by decide) (by decide)
def QgetC1 (Z : State) (t : Addr) (kc : ClassId) (cc : Int32) (z : Int32) (vs : List Value) (h0 : Heap) (n0 : Nat) (v : Option Value) (h : Heap) (L : List Loc) : Prop := v = some (.int cc) ∧ Fr n0 L ∧ h = h0
theorem rmgetC1 (l : Launch) (Z : State) (a0 : Array Value) (hw : own_tb a0 Z) (ws : List Jvm.Cond) (t : Addr) (kc : ClassId) (cc : Int32) (z : Int32) (vs : List Value) (h0 : Heap) (n0 : Nat) (Z0 : n0 ≤ h0.size) (O_ : Old Z n0 h0) (S_AD : Sta Z Z.heap "java/lang/StringUTF16" "$assertionsDisabled" "Z" (.int (1 : Int32))) (S_HB : Sta Z Z.heap "java/lang/StringUTF16" "HI_BYTE_SHIFT" "I" (.int (0 : Int32))) (S_LB : Sta Z Z.heap "java/lang/StringUTF16" "LO_BYTE_SHIFT" "I" (.int (8 : Int32))) (V_t : Arv Z h0 t kc .byte z vs (.int (0 : Int32))) (hz : ¬ (2 : Int32) < 0 ∧ (2 : Int32) < z) (hz' : ¬ (3 : Int32) < 0 ∧ (3 : Int32) < z) (ha : vs.getD 2 (.int (0 : Int32)) = .int (own_lo cc)) (ha' : vs.getD 3 (.int (0 : Int32)) = .int (own_hi cc)) (P_ : own_u cc) :
    OwnMet l (⟨"java/lang/StringUTF16", "getChar", "([BI)C"⟩ : MethodName) jdk_52_method_5_code 2 (some .char) ws ({ frames := 0, cells := 0, slots := 0, locals := 0 } : Room) #[(.ref t), (.int (1 : Int32))] Z h0 (QgetC1 Z t kc cc z vs h0 n0) := by
  refine own_met (plainFor_of_name pn_23) ?_
  intro p e s m below meth c s₁ X0 hx hby hml hret hlk hown hnm hZ e0
  have N0 := Fr.nil n0
  have Z_ := Z0
  refine OwnGo.cast (ef_getC1 m t (1 : Int32)) ?_
  show OwnGo p e below s _ _ _ s₁ (mkF m 0 _ [])
  obtain ⟨T33, X33, e33, st33⟩ := getS2 X0 hx hZ hown (host := "") (Or.inl (W_ hw 103 rfl)) Via.refl e0 (S_AD.ext O_.2) (g := (mkF m 0 #[.val (.ref t), .val (.int (1 : Int32))] [])) rfl (hb hby d24_0)
  refine .st st33 ?_
  show OwnGo p e below s _ _ _ T33 (mkF m 3 _ [(.int (1 : Int32))])
  refine .ifYes (pc := 3) X33 hx 28 (hb hby d24_3) ((if0 _ _).trans (feq ((by decide) : ¬ ((1 : Int32) = (0 : Int32)))).2) (by decide) (by decide) ?_
  refine .iloadN X33 hx (hb hby d24_28) rfl ?_
  refine .iconst X33 hx (hb hby d24_29) own_ki1 ?_
  refine .st (fun _ => XS.ishl X33.here hx rfl (hb hby d24_30) rfl) ?_
  show OwnGo p e below s _ _ _ T33 (mkF m 31 _ [(.int ((1 : Int32) <<< ((1 : Int32) &&& 31)))])
  rw [show ((1 : Int32) <<< ((1 : Int32) &&& 31)) = (2 : Int32) from by decide]
  show OwnGo p e below s _ _ _ T33 (mkF m 31 _ [(.int (2 : Int32))])
  refine .istoreN X33 hx (hb hby d24_31) (L' := #[.val (.ref t), .val (.int (2 : Int32))]) rfl ?_
  refine .aloadN X33 hx (hb hby d24_32) rfl rfl ?_
  refine .iloadN X33 hx (hb hby d24_33) rfl ?_
  refine .iinc X33 hx (hb hby d24_34) rfl own_ka2_1 (L' := #[.val (.ref t), .val (.int (3 : Int32))]) rfl ?_
  obtain ⟨cl34, Ar34, -, S34, -, H34, -⟩ := id V_t
  have hin34 : ¬ ((2 : Int32) < 0 ∨ cl34.slots.size ≤ ((2 : Int32)).toNatClampNeg) := inb_of S34 hz
  refine .st (fun _ => X33.baloadBytes hx (j := (2 : Int32)) (v := (.int (own_lo cc))) (by first | exact Ar34.1 | (rw [e33]; exact Ar34.1)) (State.isArrayOf_alike hZ.alike Ar34.2.1) Ar34.2.2 hin34 (H34.at hin34 ha) (g := (mkF m 37 #[.val (.ref t), .val (.int (3 : Int32))] [(.int (2 : Int32)), (.ref t)])) rfl rfl (hb hby d24_37) _) ?_
  show OwnGo p e below s _ _ _ T33 (mkF m 38 _ [(.int (own_lo cc))])
  refine .sipush X33 hx (hb hby d24_38) own_ks255 ?_
  refine .st (fun _ => XS.iand X33.here hx rfl (hb hby d24_41) rfl) ?_
  show OwnGo p e below s _ _ _ T33 (mkF m 42 _ [(.int ((own_lo cc) &&& (255 : Int32)))])
  obtain ⟨T35, X35, e35, st35⟩ := getS2 X33 hx hZ hown (host := "") (Or.inl (W_ hw 104 rfl)) Via.refl e33 (S_HB.ext O_.2) (g := (mkF m 42 #[.val (.ref t), .val (.int (3 : Int32))] [(.int ((own_lo cc) &&& (255 : Int32)))])) rfl (hb hby d24_42)
  refine .st st35 ?_
  show OwnGo p e below s _ _ _ T35 (mkF m 45 _ [(.int (0 : Int32)), (.int ((own_lo cc) &&& (255 : Int32)))])
  refine .st (fun _ => XS.ishl X35.here hx rfl (hb hby d24_45) rfl) ?_
  show OwnGo p e below s _ _ _ T35 (mkF m 46 _ [(.int (((own_lo cc) &&& (255 : Int32)) <<< ((0 : Int32) &&& 31)))])
  refine .aloadN X35 hx (hb hby d24_46) rfl rfl ?_
  refine .iloadN X35 hx (hb hby d24_47) rfl ?_
  obtain ⟨cl36, Ar36, -, S36, -, H36, -⟩ := id V_t
  have hin36 : ¬ ((3 : Int32) < 0 ∨ cl36.slots.size ≤ ((3 : Int32)).toNatClampNeg) := inb_of S36 hz'
  refine .st (fun _ => X35.baloadBytes hx (j := (3 : Int32)) (v := (.int (own_hi cc))) (by first | exact Ar36.1 | (rw [e35]; exact Ar36.1)) (State.isArrayOf_alike hZ.alike Ar36.2.1) Ar36.2.2 hin36 (H36.at hin36 ha') (g := (mkF m 48 #[.val (.ref t), .val (.int (3 : Int32))] [(.int (3 : Int32)), (.ref t), (.int (((own_lo cc) &&& (255 : Int32)) <<< ((0 : Int32) &&& 31)))])) rfl rfl (hb hby d24_48) _) ?_
  show OwnGo p e below s _ _ _ T35 (mkF m 49 _ [(.int (own_hi cc)), (.int (((own_lo cc) &&& (255 : Int32)) <<< ((0 : Int32) &&& 31)))])
  refine .sipush X35 hx (hb hby d24_49) own_ks255 ?_
  refine .st (fun _ => XS.iand X35.here hx rfl (hb hby d24_52) rfl) ?_
  show OwnGo p e below s _ _ _ T35 (mkF m 53 _ [(.int ((own_hi cc) &&& (255 : Int32))), (.int (((own_lo cc) &&& (255 : Int32)) <<< ((0 : Int32) &&& 31)))])
  obtain ⟨T37, X37, e37, st37⟩ := getS2 X35 hx hZ hown (host := "") (Or.inl (W_ hw 105 rfl)) Via.refl e35 (S_LB.ext O_.2) (g := (mkF m 53 #[.val (.ref t), .val (.int (3 : Int32))] [(.int ((own_hi cc) &&& (255 : Int32))), (.int (((own_lo cc) &&& (255 : Int32)) <<< ((0 : Int32) &&& 31)))])) rfl (hb hby d24_53)
  refine .st st37 ?_
  show OwnGo p e below s _ _ _ T37 (mkF m 56 _ [(.int (8 : Int32)), (.int ((own_hi cc) &&& (255 : Int32))), (.int (((own_lo cc) &&& (255 : Int32)) <<< ((0 : Int32) &&& 31)))])
  refine .st (fun _ => XS.ishl X37.here hx rfl (hb hby d24_56) rfl) ?_
  show OwnGo p e below s _ _ _ T37 (mkF m 57 _ [(.int (((own_hi cc) &&& (255 : Int32)) <<< ((8 : Int32) &&& 31))), (.int (((own_lo cc) &&& (255 : Int32)) <<< ((0 : Int32) &&& 31)))])
  refine .st (fun _ => XS.ior X37.here hx rfl (hb hby d24_57) rfl) ?_
  show OwnGo p e below s _ _ _ T37 (mkF m 58 _ [(.int ((((own_lo cc) &&& (255 : Int32)) <<< ((0 : Int32) &&& 31)) ||| (((own_hi cc) &&& (255 : Int32)) <<< ((8 : Int32) &&& 31))))])
  refine .st (fun _ => XS.i2c X37.here hx rfl (hb hby d24_58) rfl) ?_
  show OwnGo p e below s _ _ _ T37 (mkF m 59 _ [(.int (((((own_lo cc) &&& (255 : Int32)) <<< ((0 : Int32) &&& 31)) ||| (((own_hi cc) &&& (255 : Int32)) <<< ((8 : Int32) &&& 31))).toUInt32.toUInt16.toUInt32.toInt32))])
  rw [own_uch P_]
  show OwnGo p e below s _ _ _ T37 (mkF m 59 _ [(.int cc)])
  exact OwnGo.retN X37 hx (t := .char) hret hlk (by simp) (hb hby d24_59) (by show QgetC1 Z t kc cc z vs h0 n0 _ T37.heap _; rw [e37]; exact ⟨by rw [own_unc P_], N0, rfl⟩) (by decide) (by decide)
def QputC2 (Z : State) (t : Addr) (kc : ClassId) (cc : Int32) (z : Int32) (vs : List Value) (h0 : Heap) (n0 : Nat) (v : Option Value) (h : Heap) (L : List Loc) : Prop := v = none ∧ Fr n0 L ∧ Keep h0 h [t] ∧ Arv Z h t kc .byte z ((vs.set 4 (.int (own_lo cc))).set 5 (.int (own_hi cc))) (.int (0 : Int32))
theorem rmputC2 (l : Launch) (Z : State) (a0 : Array Value) (hw : own_tb a0 Z) (ws : List Jvm.Cond) (t : Addr) (kc : ClassId) (cc : Int32) (z : Int32) (vs : List Value) (h0 : Heap) (n0 : Nat) (Z0 : n0 ≤ h0.size) (O_ : Old Z n0 h0) (S_AD : Sta Z Z.heap "java/lang/StringUTF16" "$assertionsDisabled" "Z" (.int (1 : Int32))) (S_HB : Sta Z Z.heap "java/lang/StringUTF16" "HI_BYTE_SHIFT" "I" (.int (0 : Int32))) (S_LB : Sta Z Z.heap "java/lang/StringUTF16" "LO_BYTE_SHIFT" "I" (.int (8 : Int32))) (V_t : Arv Z h0 t kc .byte z vs (.int (0 : Int32))) (g_t : n0 ≤ t) (hz : ¬ (4 : Int32) < 0 ∧ (4 : Int32) < z) (hz' : ¬ (5 : Int32) < 0 ∧ (5 : Int32) < z) (hl : 5 < vs.length) :
    OwnMet l (⟨"java/lang/StringUTF16", "putChar", "([BII)V"⟩ : MethodName) jdk_52_method_4_code 3 none ws ({ frames := 0, cells := 0, slots := 0, locals := 0 } : Room) #[(.ref t), (.int (2 : Int32)), (.int cc)] Z h0 (QputC2 Z t kc cc z vs h0 n0) := by
  refine own_met (plainFor_of_name pn_23) ?_
  intro p e s m below meth c s₁ X0 hx hby hml hret hlk hown hnm hZ e0
  have N0 := Fr.nil n0
  have Z_ := Z0
  refine OwnGo.cast (ef_putC2 m t (2 : Int32) cc) ?_
  show OwnGo p e below s _ _ _ s₁ (mkF m 0 _ [])
  have Kp : Keep h0 h0 [t] := Keep.refl h0 [t]
  obtain ⟨T38, X38, e38, st38⟩ := getS2 X0 hx hZ hown (host := "") (Or.inl (W_ hw 103 rfl)) Via.refl e0 (S_AD.ext O_.2) (g := (mkF m 0 #[.val (.ref t), .val (.int (2 : Int32)), .val (.int cc)] [])) rfl (hb hby d23_0)
  refine .st st38 ?_
  show OwnGo p e below s _ _ _ T38 (mkF m 3 _ [(.int (1 : Int32))])
  refine .ifYes (pc := 3) X38 hx 28 (hb hby d23_3) ((if0 _ _).trans (feq ((by decide) : ¬ ((1 : Int32) = (0 : Int32)))).2) (by decide) (by decide) ?_
  refine .iloadN X38 hx (hb hby d23_28) rfl ?_
  refine .iconst X38 hx (hb hby d23_29) own_ki1 ?_
  refine .st (fun _ => XS.ishl X38.here hx rfl (hb hby d23_30) rfl) ?_
  show OwnGo p e below s _ _ _ T38 (mkF m 31 _ [(.int ((2 : Int32) <<< ((1 : Int32) &&& 31)))])
  rw [show ((2 : Int32) <<< ((1 : Int32) &&& 31)) = (4 : Int32) from by decide]
  show OwnGo p e below s _ _ _ T38 (mkF m 31 _ [(.int (4 : Int32))])
  refine .istoreN X38 hx (hb hby d23_31) (L' := #[.val (.ref t), .val (.int (4 : Int32)), .val (.int cc)]) rfl ?_
  refine .aloadN X38 hx (hb hby d23_32) rfl rfl ?_
  refine .iloadN X38 hx (hb hby d23_33) rfl ?_
  refine .iinc X38 hx (hb hby d23_34) rfl own_ka4_1 (L' := #[.val (.ref t), .val (.int (5 : Int32)), .val (.int cc)]) rfl ?_
  refine .iloadN X38 hx (hb hby d23_37) rfl ?_
  obtain ⟨T39, X39, e39, st39⟩ := getS2 X38 hx hZ hown (host := "") (Or.inl (W_ hw 104 rfl)) Via.refl e38 (S_HB.ext O_.2) (g := (mkF m 38 #[.val (.ref t), .val (.int (5 : Int32)), .val (.int cc)] [(.int cc), (.int (4 : Int32)), (.ref t)])) rfl (hb hby d23_38)
  refine .st st39 ?_
  show OwnGo p e below s _ _ _ T39 (mkF m 41 _ [(.int (0 : Int32)), (.int cc), (.int (4 : Int32)), (.ref t)])
  refine .st (fun _ => XS.ishr X39.here hx rfl (hb hby d23_41) rfl) ?_
  show OwnGo p e below s _ _ _ T39 (mkF m 42 _ [(.int (cc >>> ((0 : Int32) &&& 31))), (.int (4 : Int32)), (.ref t)])
  refine .st (fun _ => XS.i2b X39.here hx rfl (hb hby d23_42) rfl) ?_
  show OwnGo p e below s _ _ _ T39 (mkF m 43 _ [(.int ((cc >>> ((0 : Int32) &&& 31)).toInt8.toInt32)), (.int (4 : Int32)), (.ref t)])
  show OwnGo p e below s _ _ _ T39 (mkF m 43 _ [(.int (own_lo cc)), (.int (4 : Int32)), (.ref t)])
  obtain ⟨cl40, Ar40, q40, S40, N40, H40, G40⟩ := id V_t
  obtain ⟨T40, h40, X40, e40, W40, st40⟩ := stB X39 hx hZ e39 Ar40 (j := (4 : Int32)) (inb_of S40 hz) (g := (mkF m 43 #[.val (.ref t), .val (.int (5 : Int32)), .val (.int cc)] [(.int (own_lo cc)), (.int (4 : Int32)), (.ref t)])) rfl rfl (hb hby d23_43)
  have V' := Arv.set Ar40 q40 S40 N40 H40 G40 (fits_nar_byte _) W40 4 rfl (Nat.lt_of_succ_lt hl)
  rw [show (own_lo cc).toInt8.toInt32 = (own_lo cc) from (own_nb _)] at V'
  have O_ := O_.wr W40 g_t
  have Kp := Kp.wr W40 (Or.inl (List.mem_of_getElem? (i := 0) rfl))
  have N40 := Fr.snoc X40 N0 g_t
  have Z_ : n0 ≤ h40.size := by rw [W40.size]; exact Z_
  have V_t := V'
  refine .st st40 ?_
  show OwnGo p e below s _ _ _ T40 (mkF m 44 _ [])
  refine .aloadN X40 hx (hb hby d23_44) rfl rfl ?_
  refine .iloadN X40 hx (hb hby d23_45) rfl ?_
  refine .iloadN X40 hx (hb hby d23_46) rfl ?_
  obtain ⟨T41, X41, e41, st41⟩ := getS2 X40 hx hZ hown (host := "") (Or.inl (W_ hw 105 rfl)) Via.refl e40 (S_LB.ext O_.2) (g := (mkF m 47 #[.val (.ref t), .val (.int (5 : Int32)), .val (.int cc)] [(.int cc), (.int (5 : Int32)), (.ref t)])) rfl (hb hby d23_47)
  refine .st st41 ?_
  show OwnGo p e below s _ _ _ T41 (mkF m 50 _ [(.int (8 : Int32)), (.int cc), (.int (5 : Int32)), (.ref t)])
  refine .st (fun _ => XS.ishr X41.here hx rfl (hb hby d23_50) rfl) ?_
  show OwnGo p e below s _ _ _ T41 (mkF m 51 _ [(.int (cc >>> ((8 : Int32) &&& 31))), (.int (5 : Int32)), (.ref t)])
  refine .st (fun _ => XS.i2b X41.here hx rfl (hb hby d23_51) rfl) ?_
  show OwnGo p e below s _ _ _ T41 (mkF m 52 _ [(.int ((cc >>> ((8 : Int32) &&& 31)).toInt8.toInt32)), (.int (5 : Int32)), (.ref t)])
  show OwnGo p e below s _ _ _ T41 (mkF m 52 _ [(.int (own_hi cc)), (.int (5 : Int32)), (.ref t)])
  obtain ⟨cl42, Ar42, q42, S42, N42, H42, G42⟩ := id V_t
  obtain ⟨T42, h42, X42, e42, W42, st42⟩ := stB X41 hx hZ e41 Ar42 (j := (5 : Int32)) (inb_of S42 hz') (g := (mkF m 52 #[.val (.ref t), .val (.int (5 : Int32)), .val (.int cc)] [(.int (own_hi cc)), (.int (5 : Int32)), (.ref t)])) rfl rfl (hb hby d23_52)
  have V' := Arv.set Ar42 q42 S42 N42 H42 G42 (fits_nar_byte _) W42 5 rfl (by rw [List.length_set]; exact hl)
  rw [show (own_hi cc).toInt8.toInt32 = (own_hi cc) from (own_nb _)] at V'
  have O_ := O_.wr W42 g_t
  have Kp := Kp.wr W42 (Or.inl (List.mem_of_getElem? (i := 0) rfl))
  have N42 := Fr.snoc X42 N40 g_t
  have Z_ : n0 ≤ h42.size := by rw [W42.size]; exact Z_
  have V_t := V'
  refine .st st42 ?_
  show OwnGo p e below s _ _ _ T42 (mkF m 53 _ [])
  exact OwnGo.retV X42 hx hret hlk (hb hby d23_53) (by show QputC2 Z t kc cc z vs h0 n0 _ T42.heap _; rw [e42]; exact ⟨rfl, N42, Kp, V_t⟩) (by decide) (by decide)
def QgetC2 (Z : State) (t : Addr) (kc : ClassId) (cc : Int32) (z : Int32) (vs : List Value) (h0 : Heap) (n0 : Nat) (v : Option Value) (h : Heap) (L : List Loc) : Prop := v = some (.int cc) ∧ Fr n0 L ∧ h = h0
theorem rmgetC2 (l : Launch) (Z : State) (a0 : Array Value) (hw : own_tb a0 Z) (ws : List Jvm.Cond) (t : Addr) (kc : ClassId) (cc : Int32) (z : Int32) (vs : List Value) (h0 : Heap) (n0 : Nat) (Z0 : n0 ≤ h0.size) (O_ : Old Z n0 h0) (S_AD : Sta Z Z.heap "java/lang/StringUTF16" "$assertionsDisabled" "Z" (.int (1 : Int32))) (S_HB : Sta Z Z.heap "java/lang/StringUTF16" "HI_BYTE_SHIFT" "I" (.int (0 : Int32))) (S_LB : Sta Z Z.heap "java/lang/StringUTF16" "LO_BYTE_SHIFT" "I" (.int (8 : Int32))) (V_t : Arv Z h0 t kc .byte z vs (.int (0 : Int32))) (hz : ¬ (4 : Int32) < 0 ∧ (4 : Int32) < z) (hz' : ¬ (5 : Int32) < 0 ∧ (5 : Int32) < z) (ha : vs.getD 4 (.int (0 : Int32)) = .int (own_lo cc)) (ha' : vs.getD 5 (.int (0 : Int32)) = .int (own_hi cc)) (P_ : own_u cc) :
    OwnMet l (⟨"java/lang/StringUTF16", "getChar", "([BI)C"⟩ : MethodName) jdk_52_method_5_code 2 (some .char) ws ({ frames := 0, cells := 0, slots := 0, locals := 0 } : Room) #[(.ref t), (.int (2 : Int32))] Z h0 (QgetC2 Z t kc cc z vs h0 n0) := by
  refine own_met (plainFor_of_name pn_23) ?_
  intro p e s m below meth c s₁ X0 hx hby hml hret hlk hown hnm hZ e0
  have N0 := Fr.nil n0
  have Z_ := Z0
  refine OwnGo.cast (ef_getC2 m t (2 : Int32)) ?_
  show OwnGo p e below s _ _ _ s₁ (mkF m 0 _ [])
  obtain ⟨T43, X43, e43, st43⟩ := getS2 X0 hx hZ hown (host := "") (Or.inl (W_ hw 103 rfl)) Via.refl e0 (S_AD.ext O_.2) (g := (mkF m 0 #[.val (.ref t), .val (.int (2 : Int32))] [])) rfl (hb hby d24_0)
  refine .st st43 ?_
  show OwnGo p e below s _ _ _ T43 (mkF m 3 _ [(.int (1 : Int32))])
  refine .ifYes (pc := 3) X43 hx 28 (hb hby d24_3) ((if0 _ _).trans (feq ((by decide) : ¬ ((1 : Int32) = (0 : Int32)))).2) (by decide) (by decide) ?_
  refine .iloadN X43 hx (hb hby d24_28) rfl ?_
  refine .iconst X43 hx (hb hby d24_29) own_ki1 ?_
  refine .st (fun _ => XS.ishl X43.here hx rfl (hb hby d24_30) rfl) ?_
  show OwnGo p e below s _ _ _ T43 (mkF m 31 _ [(.int ((2 : Int32) <<< ((1 : Int32) &&& 31)))])
  rw [show ((2 : Int32) <<< ((1 : Int32) &&& 31)) = (4 : Int32) from by decide]
  show OwnGo p e below s _ _ _ T43 (mkF m 31 _ [(.int (4 : Int32))])
  refine .istoreN X43 hx (hb hby d24_31) (L' := #[.val (.ref t), .val (.int (4 : Int32))]) rfl ?_
  refine .aloadN X43 hx (hb hby d24_32) rfl rfl ?_
  refine .iloadN X43 hx (hb hby d24_33) rfl ?_
  refine .iinc X43 hx (hb hby d24_34) rfl own_ka4_1 (L' := #[.val (.ref t), .val (.int (5 : Int32))]) rfl ?_
  obtain ⟨cl44, Ar44, -, S44, -, H44, -⟩ := id V_t
  have hin44 : ¬ ((4 : Int32) < 0 ∨ cl44.slots.size ≤ ((4 : Int32)).toNatClampNeg) := inb_of S44 hz
  refine .st (fun _ => X43.baloadBytes hx (j := (4 : Int32)) (v := (.int (own_lo cc))) (by first | exact Ar44.1 | (rw [e43]; exact Ar44.1)) (State.isArrayOf_alike hZ.alike Ar44.2.1) Ar44.2.2 hin44 (H44.at hin44 ha) (g := (mkF m 37 #[.val (.ref t), .val (.int (5 : Int32))] [(.int (4 : Int32)), (.ref t)])) rfl rfl (hb hby d24_37) _) ?_
  show OwnGo p e below s _ _ _ T43 (mkF m 38 _ [(.int (own_lo cc))])
  refine .sipush X43 hx (hb hby d24_38) own_ks255 ?_
  refine .st (fun _ => XS.iand X43.here hx rfl (hb hby d24_41) rfl) ?_
  show OwnGo p e below s _ _ _ T43 (mkF m 42 _ [(.int ((own_lo cc) &&& (255 : Int32)))])
  obtain ⟨T45, X45, e45, st45⟩ := getS2 X43 hx hZ hown (host := "") (Or.inl (W_ hw 104 rfl)) Via.refl e43 (S_HB.ext O_.2) (g := (mkF m 42 #[.val (.ref t), .val (.int (5 : Int32))] [(.int ((own_lo cc) &&& (255 : Int32)))])) rfl (hb hby d24_42)
  refine .st st45 ?_
  show OwnGo p e below s _ _ _ T45 (mkF m 45 _ [(.int (0 : Int32)), (.int ((own_lo cc) &&& (255 : Int32)))])
  refine .st (fun _ => XS.ishl X45.here hx rfl (hb hby d24_45) rfl) ?_
  show OwnGo p e below s _ _ _ T45 (mkF m 46 _ [(.int (((own_lo cc) &&& (255 : Int32)) <<< ((0 : Int32) &&& 31)))])
  refine .aloadN X45 hx (hb hby d24_46) rfl rfl ?_
  refine .iloadN X45 hx (hb hby d24_47) rfl ?_
  obtain ⟨cl46, Ar46, -, S46, -, H46, -⟩ := id V_t
  have hin46 : ¬ ((5 : Int32) < 0 ∨ cl46.slots.size ≤ ((5 : Int32)).toNatClampNeg) := inb_of S46 hz'
  refine .st (fun _ => X45.baloadBytes hx (j := (5 : Int32)) (v := (.int (own_hi cc))) (by first | exact Ar46.1 | (rw [e45]; exact Ar46.1)) (State.isArrayOf_alike hZ.alike Ar46.2.1) Ar46.2.2 hin46 (H46.at hin46 ha') (g := (mkF m 48 #[.val (.ref t), .val (.int (5 : Int32))] [(.int (5 : Int32)), (.ref t), (.int (((own_lo cc) &&& (255 : Int32)) <<< ((0 : Int32) &&& 31)))])) rfl rfl (hb hby d24_48) _) ?_
  show OwnGo p e below s _ _ _ T45 (mkF m 49 _ [(.int (own_hi cc)), (.int (((own_lo cc) &&& (255 : Int32)) <<< ((0 : Int32) &&& 31)))])
  refine .sipush X45 hx (hb hby d24_49) own_ks255 ?_
  refine .st (fun _ => XS.iand X45.here hx rfl (hb hby d24_52) rfl) ?_
  show OwnGo p e below s _ _ _ T45 (mkF m 53 _ [(.int ((own_hi cc) &&& (255 : Int32))), (.int (((own_lo cc) &&& (255 : Int32)) <<< ((0 : Int32) &&& 31)))])
  obtain ⟨T47, X47, e47, st47⟩ := getS2 X45 hx hZ hown (host := "") (Or.inl (W_ hw 105 rfl)) Via.refl e45 (S_LB.ext O_.2) (g := (mkF m 53 #[.val (.ref t), .val (.int (5 : Int32))] [(.int ((own_hi cc) &&& (255 : Int32))), (.int (((own_lo cc) &&& (255 : Int32)) <<< ((0 : Int32) &&& 31)))])) rfl (hb hby d24_53)
  refine .st st47 ?_
  show OwnGo p e below s _ _ _ T47 (mkF m 56 _ [(.int (8 : Int32)), (.int ((own_hi cc) &&& (255 : Int32))), (.int (((own_lo cc) &&& (255 : Int32)) <<< ((0 : Int32) &&& 31)))])
  refine .st (fun _ => XS.ishl X47.here hx rfl (hb hby d24_56) rfl) ?_
  show OwnGo p e below s _ _ _ T47 (mkF m 57 _ [(.int (((own_hi cc) &&& (255 : Int32)) <<< ((8 : Int32) &&& 31))), (.int (((own_lo cc) &&& (255 : Int32)) <<< ((0 : Int32) &&& 31)))])
  refine .st (fun _ => XS.ior X47.here hx rfl (hb hby d24_57) rfl) ?_
  show OwnGo p e below s _ _ _ T47 (mkF m 58 _ [(.int ((((own_lo cc) &&& (255 : Int32)) <<< ((0 : Int32) &&& 31)) ||| (((own_hi cc) &&& (255 : Int32)) <<< ((8 : Int32) &&& 31))))])
  refine .st (fun _ => XS.i2c X47.here hx rfl (hb hby d24_58) rfl) ?_
  show OwnGo p e below s _ _ _ T47 (mkF m 59 _ [(.int (((((own_lo cc) &&& (255 : Int32)) <<< ((0 : Int32) &&& 31)) ||| (((own_hi cc) &&& (255 : Int32)) <<< ((8 : Int32) &&& 31))).toUInt32.toUInt16.toUInt32.toInt32))])
  rw [own_uch P_]
  show OwnGo p e below s _ _ _ T47 (mkF m 59 _ [(.int cc)])
  exact OwnGo.retN X47 hx (t := .char) hret hlk (by simp) (hb hby d24_59) (by show QgetC2 Z t kc cc z vs h0 n0 _ T47.heap _; rw [e47]; exact ⟨by rw [own_unc P_], N0, rfl⟩) (by decide) (by decide)
def QputC3 (Z : State) (t : Addr) (kc : ClassId) (cc : Int32) (z : Int32) (vs : List Value) (h0 : Heap) (n0 : Nat) (v : Option Value) (h : Heap) (L : List Loc) : Prop := v = none ∧ Fr n0 L ∧ Keep h0 h [t] ∧ Arv Z h t kc .byte z ((vs.set 6 (.int (own_lo cc))).set 7 (.int (own_hi cc))) (.int (0 : Int32))
theorem rmputC3 (l : Launch) (Z : State) (a0 : Array Value) (hw : own_tb a0 Z) (ws : List Jvm.Cond) (t : Addr) (kc : ClassId) (cc : Int32) (z : Int32) (vs : List Value) (h0 : Heap) (n0 : Nat) (Z0 : n0 ≤ h0.size) (O_ : Old Z n0 h0) (S_AD : Sta Z Z.heap "java/lang/StringUTF16" "$assertionsDisabled" "Z" (.int (1 : Int32))) (S_HB : Sta Z Z.heap "java/lang/StringUTF16" "HI_BYTE_SHIFT" "I" (.int (0 : Int32))) (S_LB : Sta Z Z.heap "java/lang/StringUTF16" "LO_BYTE_SHIFT" "I" (.int (8 : Int32))) (V_t : Arv Z h0 t kc .byte z vs (.int (0 : Int32))) (g_t : n0 ≤ t) (hz : ¬ (6 : Int32) < 0 ∧ (6 : Int32) < z) (hz' : ¬ (7 : Int32) < 0 ∧ (7 : Int32) < z) (hl : 7 < vs.length) :
    OwnMet l (⟨"java/lang/StringUTF16", "putChar", "([BII)V"⟩ : MethodName) jdk_52_method_4_code 3 none ws ({ frames := 0, cells := 0, slots := 0, locals := 0 } : Room) #[(.ref t), (.int (3 : Int32)), (.int cc)] Z h0 (QputC3 Z t kc cc z vs h0 n0) := by
  refine own_met (plainFor_of_name pn_23) ?_
  intro p e s m below meth c s₁ X0 hx hby hml hret hlk hown hnm hZ e0
  have N0 := Fr.nil n0
  have Z_ := Z0
  refine OwnGo.cast (ef_putC3 m t (3 : Int32) cc) ?_
  show OwnGo p e below s _ _ _ s₁ (mkF m 0 _ [])
  have Kp : Keep h0 h0 [t] := Keep.refl h0 [t]
  obtain ⟨T48, X48, e48, st48⟩ := getS2 X0 hx hZ hown (host := "") (Or.inl (W_ hw 103 rfl)) Via.refl e0 (S_AD.ext O_.2) (g := (mkF m 0 #[.val (.ref t), .val (.int (3 : Int32)), .val (.int cc)] [])) rfl (hb hby d23_0)
  refine .st st48 ?_
  show OwnGo p e below s _ _ _ T48 (mkF m 3 _ [(.int (1 : Int32))])
  refine .ifYes (pc := 3) X48 hx 28 (hb hby d23_3) ((if0 _ _).trans (feq ((by decide) : ¬ ((1 : Int32) = (0 : Int32)))).2) (by decide) (by decide) ?_
  refine .iloadN X48 hx (hb hby d23_28) rfl ?_
  refine .iconst X48 hx (hb hby d23_29) own_ki1 ?_
  refine .st (fun _ => XS.ishl X48.here hx rfl (hb hby d23_30) rfl) ?_
  show OwnGo p e below s _ _ _ T48 (mkF m 31 _ [(.int ((3 : Int32) <<< ((1 : Int32) &&& 31)))])
  rw [show ((3 : Int32) <<< ((1 : Int32) &&& 31)) = (6 : Int32) from by decide]
  show OwnGo p e below s _ _ _ T48 (mkF m 31 _ [(.int (6 : Int32))])
  refine .istoreN X48 hx (hb hby d23_31) (L' := #[.val (.ref t), .val (.int (6 : Int32)), .val (.int cc)]) rfl ?_
  refine .aloadN X48 hx (hb hby d23_32) rfl rfl ?_
  refine .iloadN X48 hx (hb hby d23_33) rfl ?_
  refine .iinc X48 hx (hb hby d23_34) rfl own_ka6_1 (L' := #[.val (.ref t), .val (.int (7 : Int32)), .val (.int cc)]) rfl ?_
  refine .iloadN X48 hx (hb hby d23_37) rfl ?_
  obtain ⟨T49, X49, e49, st49⟩ := getS2 X48 hx hZ hown (host := "") (Or.inl (W_ hw 104 rfl)) Via.refl e48 (S_HB.ext O_.2) (g := (mkF m 38 #[.val (.ref t), .val (.int (7 : Int32)), .val (.int cc)] [(.int cc), (.int (6 : Int32)), (.ref t)])) rfl (hb hby d23_38)
  refine .st st49 ?_
  show OwnGo p e below s _ _ _ T49 (mkF m 41 _ [(.int (0 : Int32)), (.int cc), (.int (6 : Int32)), (.ref t)])
  refine .st (fun _ => XS.ishr X49.here hx rfl (hb hby d23_41) rfl) ?_
  show OwnGo p e below s _ _ _ T49 (mkF m 42 _ [(.int (cc >>> ((0 : Int32) &&& 31))), (.int (6 : Int32)), (.ref t)])
  refine .st (fun _ => XS.i2b X49.here hx rfl (hb hby d23_42) rfl) ?_
  show OwnGo p e below s _ _ _ T49 (mkF m 43 _ [(.int ((cc >>> ((0 : Int32) &&& 31)).toInt8.toInt32)), (.int (6 : Int32)), (.ref t)])
  show OwnGo p e below s _ _ _ T49 (mkF m 43 _ [(.int (own_lo cc)), (.int (6 : Int32)), (.ref t)])
  obtain ⟨cl50, Ar50, q50, S50, N50, H50, G50⟩ := id V_t
  obtain ⟨T50, h50, X50, e50, W50, st50⟩ := stB X49 hx hZ e49 Ar50 (j := (6 : Int32)) (inb_of S50 hz) (g := (mkF m 43 #[.val (.ref t), .val (.int (7 : Int32)), .val (.int cc)] [(.int (own_lo cc)), (.int (6 : Int32)), (.ref t)])) rfl rfl (hb hby d23_43)
  have V' := Arv.set Ar50 q50 S50 N50 H50 G50 (fits_nar_byte _) W50 6 rfl (Nat.lt_of_succ_lt hl)
  rw [show (own_lo cc).toInt8.toInt32 = (own_lo cc) from (own_nb _)] at V'
  have O_ := O_.wr W50 g_t
  have Kp := Kp.wr W50 (Or.inl (List.mem_of_getElem? (i := 0) rfl))
  have N50 := Fr.snoc X50 N0 g_t
  have Z_ : n0 ≤ h50.size := by rw [W50.size]; exact Z_
  have V_t := V'
  refine .st st50 ?_
  show OwnGo p e below s _ _ _ T50 (mkF m 44 _ [])
  refine .aloadN X50 hx (hb hby d23_44) rfl rfl ?_
  refine .iloadN X50 hx (hb hby d23_45) rfl ?_
  refine .iloadN X50 hx (hb hby d23_46) rfl ?_
  obtain ⟨T51, X51, e51, st51⟩ := getS2 X50 hx hZ hown (host := "") (Or.inl (W_ hw 105 rfl)) Via.refl e50 (S_LB.ext O_.2) (g := (mkF m 47 #[.val (.ref t), .val (.int (7 : Int32)), .val (.int cc)] [(.int cc), (.int (7 : Int32)), (.ref t)])) rfl (hb hby d23_47)
  refine .st st51 ?_
  show OwnGo p e below s _ _ _ T51 (mkF m 50 _ [(.int (8 : Int32)), (.int cc), (.int (7 : Int32)), (.ref t)])
  refine .st (fun _ => XS.ishr X51.here hx rfl (hb hby d23_50) rfl) ?_
  show OwnGo p e below s _ _ _ T51 (mkF m 51 _ [(.int (cc >>> ((8 : Int32) &&& 31))), (.int (7 : Int32)), (.ref t)])
  refine .st (fun _ => XS.i2b X51.here hx rfl (hb hby d23_51) rfl) ?_
  show OwnGo p e below s _ _ _ T51 (mkF m 52 _ [(.int ((cc >>> ((8 : Int32) &&& 31)).toInt8.toInt32)), (.int (7 : Int32)), (.ref t)])
  show OwnGo p e below s _ _ _ T51 (mkF m 52 _ [(.int (own_hi cc)), (.int (7 : Int32)), (.ref t)])
  obtain ⟨cl52, Ar52, q52, S52, N52, H52, G52⟩ := id V_t
  obtain ⟨T52, h52, X52, e52, W52, st52⟩ := stB X51 hx hZ e51 Ar52 (j := (7 : Int32)) (inb_of S52 hz') (g := (mkF m 52 #[.val (.ref t), .val (.int (7 : Int32)), .val (.int cc)] [(.int (own_hi cc)), (.int (7 : Int32)), (.ref t)])) rfl rfl (hb hby d23_52)
  have V' := Arv.set Ar52 q52 S52 N52 H52 G52 (fits_nar_byte _) W52 7 rfl (by rw [List.length_set]; exact hl)
  rw [show (own_hi cc).toInt8.toInt32 = (own_hi cc) from (own_nb _)] at V'
  have O_ := O_.wr W52 g_t
  have Kp := Kp.wr W52 (Or.inl (List.mem_of_getElem? (i := 0) rfl))
  have N52 := Fr.snoc X52 N50 g_t
  have Z_ : n0 ≤ h52.size := by rw [W52.size]; exact Z_
  have V_t := V'
  refine .st st52 ?_
  show OwnGo p e below s _ _ _ T52 (mkF m 53 _ [])
  exact OwnGo.retV X52 hx hret hlk (hb hby d23_53) (by show QputC3 Z t kc cc z vs h0 n0 _ T52.heap _; rw [e52]; exact ⟨rfl, N52, Kp, V_t⟩) (by decide) (by decide)
def QgetC3 (Z : State) (t : Addr) (kc : ClassId) (cc : Int32) (z : Int32) (vs : List Value) (h0 : Heap) (n0 : Nat) (v : Option Value) (h : Heap) (L : List Loc) : Prop := v = some (.int cc) ∧ Fr n0 L ∧ h = h0
theorem rmgetC3 (l : Launch) (Z : State) (a0 : Array Value) (hw : own_tb a0 Z) (ws : List Jvm.Cond) (t : Addr) (kc : ClassId) (cc : Int32) (z : Int32) (vs : List Value) (h0 : Heap) (n0 : Nat) (Z0 : n0 ≤ h0.size) (O_ : Old Z n0 h0) (S_AD : Sta Z Z.heap "java/lang/StringUTF16" "$assertionsDisabled" "Z" (.int (1 : Int32))) (S_HB : Sta Z Z.heap "java/lang/StringUTF16" "HI_BYTE_SHIFT" "I" (.int (0 : Int32))) (S_LB : Sta Z Z.heap "java/lang/StringUTF16" "LO_BYTE_SHIFT" "I" (.int (8 : Int32))) (V_t : Arv Z h0 t kc .byte z vs (.int (0 : Int32))) (hz : ¬ (6 : Int32) < 0 ∧ (6 : Int32) < z) (hz' : ¬ (7 : Int32) < 0 ∧ (7 : Int32) < z) (ha : vs.getD 6 (.int (0 : Int32)) = .int (own_lo cc)) (ha' : vs.getD 7 (.int (0 : Int32)) = .int (own_hi cc)) (P_ : own_u cc) :
    OwnMet l (⟨"java/lang/StringUTF16", "getChar", "([BI)C"⟩ : MethodName) jdk_52_method_5_code 2 (some .char) ws ({ frames := 0, cells := 0, slots := 0, locals := 0 } : Room) #[(.ref t), (.int (3 : Int32))] Z h0 (QgetC3 Z t kc cc z vs h0 n0) := by
  refine own_met (plainFor_of_name pn_23) ?_
  intro p e s m below meth c s₁ X0 hx hby hml hret hlk hown hnm hZ e0
  have N0 := Fr.nil n0
  have Z_ := Z0
  refine OwnGo.cast (ef_getC3 m t (3 : Int32)) ?_
  show OwnGo p e below s _ _ _ s₁ (mkF m 0 _ [])
  obtain ⟨T53, X53, e53, st53⟩ := getS2 X0 hx hZ hown (host := "") (Or.inl (W_ hw 103 rfl)) Via.refl e0 (S_AD.ext O_.2) (g := (mkF m 0 #[.val (.ref t), .val (.int (3 : Int32))] [])) rfl (hb hby d24_0)
  refine .st st53 ?_
  show OwnGo p e below s _ _ _ T53 (mkF m 3 _ [(.int (1 : Int32))])
  refine .ifYes (pc := 3) X53 hx 28 (hb hby d24_3) ((if0 _ _).trans (feq ((by decide) : ¬ ((1 : Int32) = (0 : Int32)))).2) (by decide) (by decide) ?_
  refine .iloadN X53 hx (hb hby d24_28) rfl ?_
  refine .iconst X53 hx (hb hby d24_29) own_ki1 ?_
  refine .st (fun _ => XS.ishl X53.here hx rfl (hb hby d24_30) rfl) ?_
  show OwnGo p e below s _ _ _ T53 (mkF m 31 _ [(.int ((3 : Int32) <<< ((1 : Int32) &&& 31)))])
  rw [show ((3 : Int32) <<< ((1 : Int32) &&& 31)) = (6 : Int32) from by decide]
  show OwnGo p e below s _ _ _ T53 (mkF m 31 _ [(.int (6 : Int32))])
  refine .istoreN X53 hx (hb hby d24_31) (L' := #[.val (.ref t), .val (.int (6 : Int32))]) rfl ?_
  refine .aloadN X53 hx (hb hby d24_32) rfl rfl ?_
  refine .iloadN X53 hx (hb hby d24_33) rfl ?_
  refine .iinc X53 hx (hb hby d24_34) rfl own_ka6_1 (L' := #[.val (.ref t), .val (.int (7 : Int32))]) rfl ?_
  obtain ⟨cl54, Ar54, -, S54, -, H54, -⟩ := id V_t
  have hin54 : ¬ ((6 : Int32) < 0 ∨ cl54.slots.size ≤ ((6 : Int32)).toNatClampNeg) := inb_of S54 hz
  refine .st (fun _ => X53.baloadBytes hx (j := (6 : Int32)) (v := (.int (own_lo cc))) (by first | exact Ar54.1 | (rw [e53]; exact Ar54.1)) (State.isArrayOf_alike hZ.alike Ar54.2.1) Ar54.2.2 hin54 (H54.at hin54 ha) (g := (mkF m 37 #[.val (.ref t), .val (.int (7 : Int32))] [(.int (6 : Int32)), (.ref t)])) rfl rfl (hb hby d24_37) _) ?_
  show OwnGo p e below s _ _ _ T53 (mkF m 38 _ [(.int (own_lo cc))])
  refine .sipush X53 hx (hb hby d24_38) own_ks255 ?_
  refine .st (fun _ => XS.iand X53.here hx rfl (hb hby d24_41) rfl) ?_
  show OwnGo p e below s _ _ _ T53 (mkF m 42 _ [(.int ((own_lo cc) &&& (255 : Int32)))])
  obtain ⟨T55, X55, e55, st55⟩ := getS2 X53 hx hZ hown (host := "") (Or.inl (W_ hw 104 rfl)) Via.refl e53 (S_HB.ext O_.2) (g := (mkF m 42 #[.val (.ref t), .val (.int (7 : Int32))] [(.int ((own_lo cc) &&& (255 : Int32)))])) rfl (hb hby d24_42)
  refine .st st55 ?_
  show OwnGo p e below s _ _ _ T55 (mkF m 45 _ [(.int (0 : Int32)), (.int ((own_lo cc) &&& (255 : Int32)))])
  refine .st (fun _ => XS.ishl X55.here hx rfl (hb hby d24_45) rfl) ?_
  show OwnGo p e below s _ _ _ T55 (mkF m 46 _ [(.int (((own_lo cc) &&& (255 : Int32)) <<< ((0 : Int32) &&& 31)))])
  refine .aloadN X55 hx (hb hby d24_46) rfl rfl ?_
  refine .iloadN X55 hx (hb hby d24_47) rfl ?_
  obtain ⟨cl56, Ar56, -, S56, -, H56, -⟩ := id V_t
  have hin56 : ¬ ((7 : Int32) < 0 ∨ cl56.slots.size ≤ ((7 : Int32)).toNatClampNeg) := inb_of S56 hz'
  refine .st (fun _ => X55.baloadBytes hx (j := (7 : Int32)) (v := (.int (own_hi cc))) (by first | exact Ar56.1 | (rw [e55]; exact Ar56.1)) (State.isArrayOf_alike hZ.alike Ar56.2.1) Ar56.2.2 hin56 (H56.at hin56 ha') (g := (mkF m 48 #[.val (.ref t), .val (.int (7 : Int32))] [(.int (7 : Int32)), (.ref t), (.int (((own_lo cc) &&& (255 : Int32)) <<< ((0 : Int32) &&& 31)))])) rfl rfl (hb hby d24_48) _) ?_
  show OwnGo p e below s _ _ _ T55 (mkF m 49 _ [(.int (own_hi cc)), (.int (((own_lo cc) &&& (255 : Int32)) <<< ((0 : Int32) &&& 31)))])
  refine .sipush X55 hx (hb hby d24_49) own_ks255 ?_
  refine .st (fun _ => XS.iand X55.here hx rfl (hb hby d24_52) rfl) ?_
  show OwnGo p e below s _ _ _ T55 (mkF m 53 _ [(.int ((own_hi cc) &&& (255 : Int32))), (.int (((own_lo cc) &&& (255 : Int32)) <<< ((0 : Int32) &&& 31)))])
  obtain ⟨T57, X57, e57, st57⟩ := getS2 X55 hx hZ hown (host := "") (Or.inl (W_ hw 105 rfl)) Via.refl e55 (S_LB.ext O_.2) (g := (mkF m 53 #[.val (.ref t), .val (.int (7 : Int32))] [(.int ((own_hi cc) &&& (255 : Int32))), (.int (((own_lo cc) &&& (255 : Int32)) <<< ((0 : Int32) &&& 31)))])) rfl (hb hby d24_53)
  refine .st st57 ?_
  show OwnGo p e below s _ _ _ T57 (mkF m 56 _ [(.int (8 : Int32)), (.int ((own_hi cc) &&& (255 : Int32))), (.int (((own_lo cc) &&& (255 : Int32)) <<< ((0 : Int32) &&& 31)))])
  refine .st (fun _ => XS.ishl X57.here hx rfl (hb hby d24_56) rfl) ?_
  show OwnGo p e below s _ _ _ T57 (mkF m 57 _ [(.int (((own_hi cc) &&& (255 : Int32)) <<< ((8 : Int32) &&& 31))), (.int (((own_lo cc) &&& (255 : Int32)) <<< ((0 : Int32) &&& 31)))])
  refine .st (fun _ => XS.ior X57.here hx rfl (hb hby d24_57) rfl) ?_
  show OwnGo p e below s _ _ _ T57 (mkF m 58 _ [(.int ((((own_lo cc) &&& (255 : Int32)) <<< ((0 : Int32) &&& 31)) ||| (((own_hi cc) &&& (255 : Int32)) <<< ((8 : Int32) &&& 31))))])
  refine .st (fun _ => XS.i2c X57.here hx rfl (hb hby d24_58) rfl) ?_
  show OwnGo p e below s _ _ _ T57 (mkF m 59 _ [(.int (((((own_lo cc) &&& (255 : Int32)) <<< ((0 : Int32) &&& 31)) ||| (((own_hi cc) &&& (255 : Int32)) <<< ((8 : Int32) &&& 31))).toUInt32.toUInt16.toUInt32.toInt32))])
  rw [own_uch P_]
  show OwnGo p e below s _ _ _ T57 (mkF m 59 _ [(.int cc)])
  exact OwnGo.retN X57 hx (t := .char) hret hlk (by simp) (hb hby d24_59) (by show QgetC3 Z t kc cc z vs h0 n0 _ T57.heap _; rw [e57]; exact ⟨by rw [own_unc P_], N0, rfl⟩) (by decide) (by decide)
def QtoBu1 (Z : State) (c0 : Int32) (h0 : Heap) (n0 : Nat) (v : Option Value) (h : Heap) (L : List Loc) : Prop := ∃ (t : Addr) (kb : ClassId), v = some (.ref t) ∧ Fr n0 L ∧ Keep h0 h [] ∧ Arv Z h t kb .byte (2 : Int32) [(.int (own_lo c0)), (.int (own_hi c0))] (.int (0 : Int32)) ∧ h0.size ≤ t
theorem rmtoBu1 (l : Launch) (Z : State) (a0 : Array Value) (hw : own_tb a0 Z) (ws : List Jvm.Cond) (c0 : Int32) (h0 : Heap) (n0 : Nat) (Z0 : n0 ≤ h0.size) (O_ : Old Z n0 h0) (S_AD : Sta Z Z.heap "java/lang/StringUTF16" "$assertionsDisabled" "Z" (.int (1 : Int32))) (S_HB : Sta Z Z.heap "java/lang/StringUTF16" "HI_BYTE_SHIFT" "I" (.int (0 : Int32))) (S_LB : Sta Z Z.heap "java/lang/StringUTF16" "LO_BYTE_SHIFT" "I" (.int (8 : Int32))) :
    OwnMet l (⟨"java/lang/StringUTF16", "toBytes", "(C)[B"⟩ : MethodName) jdk_52_method_24_code 2 (some (.array .byte)) ws ({ frames := 1, cells := 1, slots := 2, locals := 14 } : Room) #[(.int c0)] Z h0 (QtoBu1 Z c0 h0 n0) := by
  refine own_met (plainFor_of_name pn_23) ?_
  intro p e s m below meth c s₁ X0 hx hby hml hret hlk hown hnm hZ e0
  have N0 := Fr.nil n0
  have Z_ := Z0
  refine OwnGo.cast (ef_toBu1 m c0) ?_
  show OwnGo p e below s _ _ _ s₁ (mkF m 0 _ [])
  have Kp : Keep h0 h0 [] := Keep.refl h0 []
  refine .iconst X0 hx (hb hby d36_0) own_ki2 ?_
  obtain ⟨T58, h58, k58, X58, e58, E58, A58, Ex58, st58⟩ := newPE X0 hx hZ (W_ hw 20 rfl) e0 (g := (mkF m 1 #[.val (.int c0), .unset] [(.int (2 : Int32))])) rfl (hb hby d36_1) rfl (by decide) (cap := 2) (by decide) (by decide) (by decide) (by decide) (ad := "[B") (by decide)
  obtain ⟨b58, g58⟩ : ∃ z, z = h0.size := ⟨_, rfl⟩
  rw [← g58] at A58 Ex58 st58
  have g_b58 : n0 ≤ b58 := Nat.le_trans Z_ (Nat.le_of_eq g58.symm)
  have sz_b58 : h0.size ≤ b58 := Nat.le_trans Kp.1 (Nat.le_of_eq g58.symm)
  have O_ := O_.ext E58
  have Kp := Kp.ext E58
  have Z_ : n0 ≤ h58.size := Nat.le_trans Z_ E58.1
  have V_b58 : Arv Z h58 b58 k58 .byte (2 : Int32) [(.int (0 : Int32)), (.int (0 : Int32))] (.int (0 : Int32)) := (Arv.new A58 (by decide)).pad (pad_rep [] (.int (0 : Int32)) 2)
  have E_b58 := Ex58
  refine .st st58 ?_
  show OwnGo p e below s _ _ _ T58 (mkF m 3 _ [(.ref b58)])
  refine .astoreN X58 hx (hb hby d36_3) rfl (L' := #[.val (.int c0), .val (.ref b58)]) rfl ?_
  refine .aloadN X58 hx (hb hby d36_4) rfl rfl ?_
  refine .iconst X58 hx (hb hby d36_5) own_ki0 ?_
  refine .iloadN X58 hx (hb hby d36_6) rfl ?_
  obtain ⟨_, _, ⟨T59, L59, k59, n59⟩, -, X59, ⟨Lc59, hQ59, l59, y59, z59⟩, st59⟩ := Jvm.LawKit.callS X58 hx (y := (⟨"java/lang/StringUTF16", "putChar", "([BII)V"⟩ : MethodName)) hown (mvT hZ (W_ hw 100 rfl)) (mvT hZ (W_ hw 101 rfl)) (mvT hZ (W_ hw 49 rfl)) (mvT hZ (W_ hw 102 rfl)) (by decide) (backOf (W := 0) (rmputC0 l Z a0 hw [] b58 k58 c0 (2 : Int32) [(.int (0 : Int32)), (.int (0 : Int32))] h58 n0 Z_ O_ S_AD S_HB S_LB V_b58 g_b58 ⟨by decide, by decide⟩ ⟨by decide, by decide⟩ (Nat.le_of_ble_eq_true rfl)) hZ (W_ hw 102 rfl) (W_ hw 49 rfl) (by decide) (by decide)) (g := (mkF m 7 #[.val (.int c0), .val (.ref b58)] [(.int c0), (.int (0 : Int32)), (.ref b58)])) rfl (by rw [hml]; rfl) (argsL := [(.ref b58), (.int (0 : Int32)), (.int c0)]) (rest := []) (lenOf pd_4 rfl) rfl (Nat.le_of_eq rfl) (hb hby d36_7) (fun _ _ => ⟨rfl, e58, (by decide : 1 + 0 ≤ _), (by decide : 2 + 0 ≤ _)⟩)
  dsimp only [Pt.U, Pt.locs, Pt.cells, Pt.slots] at X59 l59 y59 z59 st59 hQ59
  subst l59 y59 z59
  obtain ⟨rfl, N59q, K59, V59⟩ := hQ59
  have N59 := Fr.app N0 N59q
  have Z_ : n0 ≤ T59.heap.size := Nat.le_trans Z_ K59.1
  have E_b58 := E_b58.keep K59
  have O_ := O_.keep K59 (allS g_b58 all0)
  have Kp := Kp.trans K59 (allS (Or.inr sz_b58) all0)
  refine .st st59 ?_
  show OwnGo p e below s _ _ _ T59 (mkF m 10 _ [])
  have V59 : Arv Z T59.heap b58 k58 .byte (2 : Int32) [(.int (own_lo c0)), (.int (own_hi c0))] (.int (0 : Int32)) := V59
  refine .aloadN X59 hx (hb hby d36_10) rfl rfl ?_
  exact OwnGo.ret X59 hx hret hlk rfl (Or.inr (Or.inr (Or.inr (Or.inr ⟨rfl, rfl, rfl⟩)))) (hb hby d36_11) (by show QtoBu1 Z c0 h0 n0 _ T59.heap _; exact ⟨b58, k58, rfl, N59, Kp, V59, sz_b58⟩) (by decide) (by decide)
def Qnbl2 (Z : State)  (h0 : Heap) (n0 : Nat) (v : Option Value) (h : Heap) (L : List Loc) : Prop := v = some (.int (4 : Int32)) ∧ Fr n0 L ∧ h = h0
theorem rmnbl2 (l : Launch) (Z : State) (a0 : Array Value) (hw : own_tb a0 Z) (ws : List Jvm.Cond)  (h0 : Heap) (n0 : Nat) (Z0 : n0 ≤ h0.size) :
    OwnMet l (⟨"java/lang/StringUTF16", "newBytesLength", "(I)I"⟩ : MethodName) jdk_52_method_3_code 1 (some .int) ws ({ frames := 0, cells := 0, slots := 0, locals := 0 } : Room) #[(.int (2 : Int32))] Z h0 (Qnbl2 Z  h0 n0) := by
  refine own_met (plainFor_of_name pn_23) ?_
  intro p e s m below meth c s₁ X0 hx hby hml hret hlk hown hnm hZ e0
  have N0 := Fr.nil n0
  have Z_ := Z0
  refine OwnGo.cast (ef_nbl2 m (2 : Int32)) ?_
  show OwnGo p e below s _ _ _ s₁ (mkF m 0 _ [])
  refine .iloadN X0 hx (hb hby d22_0) rfl ?_
  refine .ifYes (pc := 1) X0 hx 12 (hb hby d22_1) ((if0 _ _).trans (flt ((by decide) : ¬ ((2 : Int32) < (0 : Int32)))).2.1) (by decide) (by decide) ?_
  refine .iloadN X0 hx (hb hby d22_12) rfl ?_
  refine .st (fun _ => X0.ldcInt hx hown (mvT hZ (W_ hw 99 rfl)) (g := (mkF m 13 #[.val (.int (2 : Int32))] [(.int (2 : Int32))])) rfl (hb hby d22_13) _) ?_
  show OwnGo p e below s _ _ _ s₁ (mkF m 15 _ [(.int (1073741823 : Int32)), (.int (2 : Int32))])
  refine .icmpYes (pc := 15) X0 hx 55 (hb hby d22_15) (tlt (own_bg2_lt_1073741823 : (2 : Int32) < (1073741823 : Int32))).1 (by decide) (by decide) ?_
  refine .iloadN X0 hx (hb hby d22_55) rfl ?_
  refine .iconst X0 hx (hb hby d22_56) own_ki1 ?_
  refine .st (fun _ => XS.ishl X0.here hx rfl (hb hby d22_57) rfl) ?_
  show OwnGo p e below s _ _ _ s₁ (mkF m 58 _ [(.int ((2 : Int32) <<< ((1 : Int32) &&& 31)))])
  rw [show ((2 : Int32) <<< ((1 : Int32) &&& 31)) = (4 : Int32) from by decide]
  show OwnGo p e below s _ _ _ s₁ (mkF m 58 _ [(.int (4 : Int32))])
  exact OwnGo.ret X0 hx hret hlk rfl (Or.inl ⟨rfl, Or.inl rfl, _, rfl⟩) (hb hby d22_58) (by show Qnbl2 Z  h0 n0 _ s₁.heap _; rw [e0]; exact ⟨rfl, N0, rfl⟩) (by decide) (by decide)
def Qnbf2 (Z : State)  (h0 : Heap) (n0 : Nat) (v : Option Value) (h : Heap) (L : List Loc) : Prop := ∃ (t : Addr) (kb : ClassId), v = some (.ref t) ∧ Fr n0 L ∧ Keep h0 h [] ∧ Arv Z h t kb .byte (4 : Int32) [(.int (0 : Int32)), (.int (0 : Int32)), (.int (0 : Int32)), (.int (0 : Int32))] (.int (0 : Int32)) ∧ h0.size ≤ t
theorem rmnbf2 (l : Launch) (Z : State) (a0 : Array Value) (hw : own_tb a0 Z) (ws : List Jvm.Cond)  (h0 : Heap) (n0 : Nat) (Z0 : n0 ≤ h0.size) :
    OwnMet l (⟨"java/lang/StringUTF16", "newBytesFor", "(I)[B"⟩ : MethodName) jdk_52_method_2_code 1 (some (.array .byte)) ws ({ frames := 1, cells := 1, slots := 4, locals := 12 } : Room) #[(.int (2 : Int32))] Z h0 (Qnbf2 Z  h0 n0) := by
  refine own_met (plainFor_of_name pn_23) ?_
  intro p e s m below meth c s₁ X0 hx hby hml hret hlk hown hnm hZ e0
  have N0 := Fr.nil n0
  have Z_ := Z0
  refine OwnGo.cast (ef_nbf2 m (2 : Int32)) ?_
  show OwnGo p e below s _ _ _ s₁ (mkF m 0 _ [])
  have Kp : Keep h0 h0 [] := Keep.refl h0 []
  refine .iloadN X0 hx (hb hby d21_0) rfl ?_
  obtain ⟨_, _, ⟨T60, L60, k60, n60⟩, -, X60, ⟨Lc60, hQ60, l60, y60, z60⟩, st60⟩ := Jvm.LawKit.callS X0 hx (y := (⟨"java/lang/StringUTF16", "newBytesLength", "(I)I"⟩ : MethodName)) hown (mvT hZ (W_ hw 96 rfl)) (mvT hZ (W_ hw 97 rfl)) (mvT hZ (W_ hw 49 rfl)) (mvT hZ (W_ hw 98 rfl)) (by decide) (backOf (W := 0) (rmnbl2 l Z a0 hw []  h0 n0 Z_ ) hZ (W_ hw 98 rfl) (W_ hw 49 rfl) (by decide) (by decide)) (g := (mkF m 1 #[.val (.int (2 : Int32))] [(.int (2 : Int32))])) rfl (by rw [hml]; rfl) (argsL := [(.int (2 : Int32))]) (rest := []) (lenOf pd_5 rfl) rfl (Nat.le_of_eq rfl) (hb hby d21_1) (fun _ _ => ⟨rfl, e0, (by decide : 0 + 0 ≤ _), (by decide : 0 + 0 ≤ _)⟩)
  dsimp only [Pt.U, Pt.locs, Pt.cells, Pt.slots] at X60 l60 y60 z60 st60 hQ60
  subst l60 y60 z60
  obtain ⟨rfl, N60q, e60⟩ := hQ60
  have N60 := Fr.app N0 N60q
  refine .st st60 ?_
  show OwnGo p e below s _ _ _ T60 (mkF m 4 _ [(.int (4 : Int32))])
  obtain ⟨T61, h61, k61, X61, e61, E61, A61, Ex61, st61⟩ := newPE X60 hx hZ (W_ hw 20 rfl) e60 (g := (mkF m 4 #[.val (.int (2 : Int32))] [(.int (4 : Int32))])) rfl (hb hby d21_4) rfl (by decide) (cap := 4) (by decide) (by decide) (by decide) (by decide) (ad := "[B") (by decide)
  obtain ⟨b61, g61⟩ : ∃ z, z = h0.size := ⟨_, rfl⟩
  rw [← g61] at A61 Ex61 st61
  have g_b61 : n0 ≤ b61 := Nat.le_trans Z_ (Nat.le_of_eq g61.symm)
  have sz_b61 : h0.size ≤ b61 := Nat.le_trans Kp.1 (Nat.le_of_eq g61.symm)
  have Kp := Kp.ext E61
  have Z_ : n0 ≤ h61.size := Nat.le_trans Z_ E61.1
  have V_b61 : Arv Z h61 b61 k61 .byte (4 : Int32) [(.int (0 : Int32)), (.int (0 : Int32)), (.int (0 : Int32)), (.int (0 : Int32))] (.int (0 : Int32)) := (Arv.new A61 (by decide)).pad (pad_rep [] (.int (0 : Int32)) 4)
  have E_b61 := Ex61
  refine .st st61 ?_
  show OwnGo p e below s _ _ _ T61 (mkF m 6 _ [(.ref b61)])
  exact OwnGo.ret X61 hx hret hlk rfl (Or.inr (Or.inr (Or.inr (Or.inr ⟨rfl, rfl, rfl⟩)))) (hb hby d21_6) (by show Qnbf2 Z  h0 n0 _ T61.heap _; rw [e61]; exact ⟨b61, k61, rfl, N60, Kp, V_b61, sz_b61⟩) (by decide) (by decide)
def QtoB2 (Z : State) (a : Addr) (ka : ClassId) (c0 : Int32) (c1 : Int32) (h0 : Heap) (n0 : Nat) (v : Option Value) (h : Heap) (L : List Loc) : Prop := ∃ (t : Addr) (kb : ClassId), v = some (.ref t) ∧ Fr n0 L ∧ Keep h0 h [] ∧ Arv Z h t kb .byte (4 : Int32) [(.int (own_lo c0)), (.int (own_hi c0)), (.int (own_lo c1)), (.int (own_hi c1))] (.int (0 : Int32)) ∧ h0.size ≤ t
theorem rmtoB2 (l : Launch) (Z : State) (a0 : Array Value) (hw : own_tb a0 Z) (ws : List Jvm.Cond) (a : Addr) (ka : ClassId) (c0 : Int32) (c1 : Int32) (h0 : Heap) (n0 : Nat) (Z0 : n0 ≤ h0.size) (O_ : Old Z n0 h0) (S_AD : Sta Z Z.heap "java/lang/StringUTF16" "$assertionsDisabled" "Z" (.int (1 : Int32))) (S_HB : Sta Z Z.heap "java/lang/StringUTF16" "HI_BYTE_SHIFT" "I" (.int (0 : Int32))) (S_LB : Sta Z Z.heap "java/lang/StringUTF16" "LO_BYTE_SHIFT" "I" (.int (8 : Int32))) (V_a : Arv Z h0 a ka .char (2 : Int32) [(.int c0), (.int c1)] (.int (0 : Int32))) :
    OwnMet l (⟨"java/lang/StringUTF16", "toBytes", "([CII)[B"⟩ : MethodName) jdk_52_method_14_code 5 (some (.array .byte)) ws ({ frames := 2, cells := 1, slots := 4, locals := 24 } : Room) #[(.ref a), (.int (0 : Int32)), (.int (2 : Int32))] Z h0 (QtoB2 Z a ka c0 c1 h0 n0) := by
  refine own_met (plainFor_of_name pn_23) ?_
  intro p e s m below meth c s₁ X0 hx hby hml hret hlk hown hnm hZ e0
  have N0 := Fr.nil n0
  have Z_ := Z0
  refine OwnGo.cast (ef_toB2 m a (0 : Int32) (2 : Int32)) ?_
  show OwnGo p e below s _ _ _ s₁ (mkF m 0 _ [])
  have Kp : Keep h0 h0 [] := Keep.refl h0 []
  refine .iloadN X0 hx (hb hby d20_0) rfl ?_
  obtain ⟨_, _, ⟨T62, L62, k62, n62⟩, -, X62, ⟨Lc62, hQ62, l62, y62, z62⟩, st62⟩ := Jvm.LawKit.callS X0 hx (y := (⟨"java/lang/StringUTF16", "newBytesFor", "(I)[B"⟩ : MethodName)) hown (mvT hZ (W_ hw 93 rfl)) (mvT hZ (W_ hw 94 rfl)) (mvT hZ (W_ hw 49 rfl)) (mvT hZ (W_ hw 95 rfl)) (by decide) (backOf (W := 0) (rmnbf2 l Z a0 hw []  h0 n0 Z_ ) hZ (W_ hw 95 rfl) (W_ hw 49 rfl) (by decide) (by decide)) (g := (mkF m 1 #[.val (.ref a), .val (.int (0 : Int32)), .val (.int (2 : Int32)), .unset, .unset] [(.int (2 : Int32))])) rfl (by rw [hml]; rfl) (argsL := [(.int (2 : Int32))]) (rest := []) (lenOf pd_6 rfl) rfl (Nat.le_of_eq rfl) (hb hby d20_1) (fun _ _ => ⟨rfl, e0, (by decide : 0 + 1 ≤ _), (by decide : 0 + 4 ≤ _)⟩)
  dsimp only [Pt.U, Pt.locs, Pt.cells, Pt.slots] at X62 l62 y62 z62 st62 hQ62
  subst l62 y62 z62
  obtain ⟨t62, kb62, rfl, N62q, K62, V62, zt62⟩ := hQ62
  have N62 := Fr.app N0 N62q
  have ne_a_t62 : a ≠ t62 := Nat.ne_of_lt (Nat.lt_of_lt_of_le V_a.lt zt62)
  have g_t62 : n0 ≤ t62 := Nat.le_trans Z_ zt62
  have sz_t62 : h0.size ≤ t62 := Nat.le_trans Kp.1 zt62
  have Z_ : n0 ≤ T62.heap.size := Nat.le_trans Z_ K62.1
  have V_a := V_a.keep K62 nin0
  have O_ := O_.keep K62 all0
  have Kp := Kp.trans K62 all0
  refine .st st62 ?_
  show OwnGo p e below s _ _ _ T62 (mkF m 4 _ [(.ref t62)])
  refine .astoreN X62 hx (hb hby d20_4) rfl (L' := #[.val (.ref a), .val (.int (0 : Int32)), .val (.int (2 : Int32)), .val (.ref t62), .unset]) rfl ?_
  refine .iconst X62 hx (hb hby d20_5) own_ki0 ?_
  refine .istore X62 hx (hb hby d20_6) (L' := #[.val (.ref a), .val (.int (0 : Int32)), .val (.int (2 : Int32)), .val (.ref t62), .val (.int (0 : Int32))]) rfl ?_
  refine .iload X62 hx (hb hby d20_8) rfl ?_
  refine .iloadN X62 hx (hb hby d20_10) rfl ?_
  refine .icmpNo X62 hx (hb hby d20_11) (tlt ((by decide) : (0 : Int32) < (2 : Int32))).2.1 ?_
  refine .aloadN X62 hx (hb hby d20_14) rfl rfl ?_
  refine .iload X62 hx (hb hby d20_15) rfl ?_
  refine .aloadN X62 hx (hb hby d20_17) rfl rfl ?_
  refine .iloadN X62 hx (hb hby d20_18) rfl ?_
  obtain ⟨cl63, Ar63, -, S63, -, H63, -⟩ := id V_a
  have hin63 : ¬ ((0 : Int32) < 0 ∨ cl63.slots.size ≤ ((0 : Int32)).toNatClampNeg) := inb_of S63 ⟨by decide, by decide⟩
  refine .st (fun _ => X62.caload hx (j := (0 : Int32)) (v := (.int c0)) (by first | exact Ar63.1 | (rw [rfl]; exact Ar63.1)) (State.isArrayOf_alike hZ.alike Ar63.2.1) Ar63.2.2 hin63 (H63.at hin63 rfl) (g := (mkF m 19 #[.val (.ref a), .val (.int (0 : Int32)), .val (.int (2 : Int32)), .val (.ref t62), .val (.int (0 : Int32))] [(.int (0 : Int32)), (.ref a), (.int (0 : Int32)), (.ref t62)])) rfl rfl (hb hby d20_19) _) ?_
  show OwnGo p e below s _ _ _ T62 (mkF m 20 _ [(.int c0), (.int (0 : Int32)), (.ref t62)])
  obtain ⟨_, _, ⟨T64, L64, k64, n64⟩, -, X64, ⟨Lc64, hQ64, l64, y64, z64⟩, st64⟩ := Jvm.LawKit.callS X62 hx (y := (⟨"java/lang/StringUTF16", "putChar", "([BII)V"⟩ : MethodName)) hown (mvT hZ (W_ hw 100 rfl)) (mvT hZ (W_ hw 101 rfl)) (mvT hZ (W_ hw 49 rfl)) (mvT hZ (W_ hw 102 rfl)) (by decide) (backOf (W := 0) (rmputC0 l Z a0 hw [] t62 kb62 c0 (4 : Int32) [(.int (0 : Int32)), (.int (0 : Int32)), (.int (0 : Int32)), (.int (0 : Int32))] T62.heap n0 Z_ O_ S_AD S_HB S_LB V62 g_t62 ⟨by decide, by decide⟩ ⟨by decide, by decide⟩ (Nat.le_of_ble_eq_true rfl)) hZ (W_ hw 102 rfl) (W_ hw 49 rfl) (by decide) (by decide)) (g := (mkF m 20 #[.val (.ref a), .val (.int (0 : Int32)), .val (.int (2 : Int32)), .val (.ref t62), .val (.int (0 : Int32))] [(.int c0), (.int (0 : Int32)), (.ref t62)])) rfl (by rw [hml]; rfl) (argsL := [(.ref t62), (.int (0 : Int32)), (.int c0)]) (rest := []) (lenOf pd_4 rfl) rfl (Nat.le_of_eq rfl) (hb hby d20_20) (fun _ _ => ⟨rfl, rfl, (by decide : 1 + 0 ≤ _), (by decide : 4 + 0 ≤ _)⟩)
  dsimp only [Pt.U, Pt.locs, Pt.cells, Pt.slots] at X64 l64 y64 z64 st64 hQ64
  subst l64 y64 z64
  obtain ⟨rfl, N64q, K64, V64⟩ := hQ64
  have N64 := Fr.app N62 N64q
  have Z_ : n0 ≤ T64.heap.size := Nat.le_trans Z_ K64.1
  have V_a := V_a.keep K64 (ninS ne_a_t62 nin0)
  have O_ := O_.keep K64 (allS g_t62 all0)
  have Kp := Kp.trans K64 (allS (Or.inr sz_t62) all0)
  refine .st st64 ?_
  show OwnGo p e below s _ _ _ T64 (mkF m 23 _ [])
  have V64 : Arv Z T64.heap t62 kb62 .byte (4 : Int32) [(.int (own_lo c0)), (.int (own_hi c0)), (.int (0 : Int32)), (.int (0 : Int32))] (.int (0 : Int32)) := V64
  refine .iinc X64 hx (hb hby d20_23) rfl own_ka0_1 (L' := #[.val (.ref a), .val (.int (1 : Int32)), .val (.int (2 : Int32)), .val (.ref t62), .val (.int (0 : Int32))]) rfl ?_
  refine .iinc X64 hx (hb hby d20_26) rfl own_ka0_1 (L' := #[.val (.ref a), .val (.int (1 : Int32)), .val (.int (2 : Int32)), .val (.ref t62), .val (.int (1 : Int32))]) rfl ?_
  refine .goto (pc := 29) X64 hx 8 (hb hby d20_29) (by decide) (by decide) ?_
  refine .iload X64 hx (hb hby d20_8) rfl ?_
  refine .iloadN X64 hx (hb hby d20_10) rfl ?_
  refine .icmpNo X64 hx (hb hby d20_11) (tlt ((by decide) : (1 : Int32) < (2 : Int32))).2.1 ?_
  refine .aloadN X64 hx (hb hby d20_14) rfl rfl ?_
  refine .iload X64 hx (hb hby d20_15) rfl ?_
  refine .aloadN X64 hx (hb hby d20_17) rfl rfl ?_
  refine .iloadN X64 hx (hb hby d20_18) rfl ?_
  obtain ⟨cl65, Ar65, -, S65, -, H65, -⟩ := id V_a
  have hin65 : ¬ ((1 : Int32) < 0 ∨ cl65.slots.size ≤ ((1 : Int32)).toNatClampNeg) := inb_of S65 ⟨by decide, by decide⟩
  refine .st (fun _ => X64.caload hx (j := (1 : Int32)) (v := (.int c1)) (by first | exact Ar65.1 | (rw [rfl]; exact Ar65.1)) (State.isArrayOf_alike hZ.alike Ar65.2.1) Ar65.2.2 hin65 (H65.at hin65 rfl) (g := (mkF m 19 #[.val (.ref a), .val (.int (1 : Int32)), .val (.int (2 : Int32)), .val (.ref t62), .val (.int (1 : Int32))] [(.int (1 : Int32)), (.ref a), (.int (1 : Int32)), (.ref t62)])) rfl rfl (hb hby d20_19) _) ?_
  show OwnGo p e below s _ _ _ T64 (mkF m 20 _ [(.int c1), (.int (1 : Int32)), (.ref t62)])
  obtain ⟨_, _, ⟨T66, L66, k66, n66⟩, -, X66, ⟨Lc66, hQ66, l66, y66, z66⟩, st66⟩ := Jvm.LawKit.callS X64 hx (y := (⟨"java/lang/StringUTF16", "putChar", "([BII)V"⟩ : MethodName)) hown (mvT hZ (W_ hw 100 rfl)) (mvT hZ (W_ hw 101 rfl)) (mvT hZ (W_ hw 49 rfl)) (mvT hZ (W_ hw 102 rfl)) (by decide) (backOf (W := 0) (rmputC1 l Z a0 hw [] t62 kb62 c1 (4 : Int32) [(.int (own_lo c0)), (.int (own_hi c0)), (.int (0 : Int32)), (.int (0 : Int32))] T64.heap n0 Z_ O_ S_AD S_HB S_LB V64 g_t62 ⟨by decide, by decide⟩ ⟨by decide, by decide⟩ (Nat.le_of_ble_eq_true rfl)) hZ (W_ hw 102 rfl) (W_ hw 49 rfl) (by decide) (by decide)) (g := (mkF m 20 #[.val (.ref a), .val (.int (1 : Int32)), .val (.int (2 : Int32)), .val (.ref t62), .val (.int (1 : Int32))] [(.int c1), (.int (1 : Int32)), (.ref t62)])) rfl (by rw [hml]; rfl) (argsL := [(.ref t62), (.int (1 : Int32)), (.int c1)]) (rest := []) (lenOf pd_4 rfl) rfl (Nat.le_of_eq rfl) (hb hby d20_20) (fun _ _ => ⟨rfl, rfl, (by decide : 1 + 0 ≤ _), (by decide : 4 + 0 ≤ _)⟩)
  dsimp only [Pt.U, Pt.locs, Pt.cells, Pt.slots] at X66 l66 y66 z66 st66 hQ66
  subst l66 y66 z66
  obtain ⟨rfl, N66q, K66, V66⟩ := hQ66
  have N66 := Fr.app N64 N66q
  have Z_ : n0 ≤ T66.heap.size := Nat.le_trans Z_ K66.1
  have V_a := V_a.keep K66 (ninS ne_a_t62 nin0)
  have O_ := O_.keep K66 (allS g_t62 all0)
  have Kp := Kp.trans K66 (allS (Or.inr sz_t62) all0)
  refine .st st66 ?_
  show OwnGo p e below s _ _ _ T66 (mkF m 23 _ [])
  have V66 : Arv Z T66.heap t62 kb62 .byte (4 : Int32) [(.int (own_lo c0)), (.int (own_hi c0)), (.int (own_lo c1)), (.int (own_hi c1))] (.int (0 : Int32)) := V66
  refine .iinc X66 hx (hb hby d20_23) rfl own_ka1_1 (L' := #[.val (.ref a), .val (.int (2 : Int32)), .val (.int (2 : Int32)), .val (.ref t62), .val (.int (1 : Int32))]) rfl ?_
  refine .iinc X66 hx (hb hby d20_26) rfl own_ka1_1 (L' := #[.val (.ref a), .val (.int (2 : Int32)), .val (.int (2 : Int32)), .val (.ref t62), .val (.int (2 : Int32))]) rfl ?_
  refine .goto (pc := 29) X66 hx 8 (hb hby d20_29) (by decide) (by decide) ?_
  refine .iload X66 hx (hb hby d20_8) rfl ?_
  refine .iloadN X66 hx (hb hby d20_10) rfl ?_
  refine .icmpYes (pc := 11) X66 hx 32 (hb hby d20_11) (flt ((by decide) : ¬ ((2 : Int32) < (2 : Int32)))).2.1 (by decide) (by decide) ?_
  refine .aloadN X66 hx (hb hby d20_32) rfl rfl ?_
  exact OwnGo.ret X66 hx hret hlk rfl (Or.inr (Or.inr (Or.inr (Or.inr ⟨rfl, rfl, rfl⟩)))) (hb hby d20_33) (by show QtoB2 Z a ka c0 c1 h0 n0 _ T66.heap _; exact ⟨t62, kb62, rfl, N66, Kp, V66, sz_t62⟩) (by decide) (by decide)
def Qnbl3 (Z : State)  (h0 : Heap) (n0 : Nat) (v : Option Value) (h : Heap) (L : List Loc) : Prop := v = some (.int (6 : Int32)) ∧ Fr n0 L ∧ h = h0
theorem rmnbl3 (l : Launch) (Z : State) (a0 : Array Value) (hw : own_tb a0 Z) (ws : List Jvm.Cond)  (h0 : Heap) (n0 : Nat) (Z0 : n0 ≤ h0.size) :
    OwnMet l (⟨"java/lang/StringUTF16", "newBytesLength", "(I)I"⟩ : MethodName) jdk_52_method_3_code 1 (some .int) ws ({ frames := 0, cells := 0, slots := 0, locals := 0 } : Room) #[(.int (3 : Int32))] Z h0 (Qnbl3 Z  h0 n0) := by
  refine own_met (plainFor_of_name pn_23) ?_
  intro p e s m below meth c s₁ X0 hx hby hml hret hlk hown hnm hZ e0
  have N0 := Fr.nil n0
  have Z_ := Z0
  refine OwnGo.cast (ef_nbl3 m (3 : Int32)) ?_
  show OwnGo p e below s _ _ _ s₁ (mkF m 0 _ [])
  refine .iloadN X0 hx (hb hby d22_0) rfl ?_
  refine .ifYes (pc := 1) X0 hx 12 (hb hby d22_1) ((if0 _ _).trans (flt ((by decide) : ¬ ((3 : Int32) < (0 : Int32)))).2.1) (by decide) (by decide) ?_
  refine .iloadN X0 hx (hb hby d22_12) rfl ?_
  refine .st (fun _ => X0.ldcInt hx hown (mvT hZ (W_ hw 99 rfl)) (g := (mkF m 13 #[.val (.int (3 : Int32))] [(.int (3 : Int32))])) rfl (hb hby d22_13) _) ?_
  show OwnGo p e below s _ _ _ s₁ (mkF m 15 _ [(.int (1073741823 : Int32)), (.int (3 : Int32))])
  refine .icmpYes (pc := 15) X0 hx 55 (hb hby d22_15) (tlt (own_bg3_lt_1073741823 : (3 : Int32) < (1073741823 : Int32))).1 (by decide) (by decide) ?_
  refine .iloadN X0 hx (hb hby d22_55) rfl ?_
  refine .iconst X0 hx (hb hby d22_56) own_ki1 ?_
  refine .st (fun _ => XS.ishl X0.here hx rfl (hb hby d22_57) rfl) ?_
  show OwnGo p e below s _ _ _ s₁ (mkF m 58 _ [(.int ((3 : Int32) <<< ((1 : Int32) &&& 31)))])
  rw [show ((3 : Int32) <<< ((1 : Int32) &&& 31)) = (6 : Int32) from by decide]
  show OwnGo p e below s _ _ _ s₁ (mkF m 58 _ [(.int (6 : Int32))])
  exact OwnGo.ret X0 hx hret hlk rfl (Or.inl ⟨rfl, Or.inl rfl, _, rfl⟩) (hb hby d22_58) (by show Qnbl3 Z  h0 n0 _ s₁.heap _; rw [e0]; exact ⟨rfl, N0, rfl⟩) (by decide) (by decide)
def Qnbf3 (Z : State)  (h0 : Heap) (n0 : Nat) (v : Option Value) (h : Heap) (L : List Loc) : Prop := ∃ (t : Addr) (kb : ClassId), v = some (.ref t) ∧ Fr n0 L ∧ Keep h0 h [] ∧ Arv Z h t kb .byte (6 : Int32) [(.int (0 : Int32)), (.int (0 : Int32)), (.int (0 : Int32)), (.int (0 : Int32)), (.int (0 : Int32)), (.int (0 : Int32))] (.int (0 : Int32)) ∧ h0.size ≤ t
theorem rmnbf3 (l : Launch) (Z : State) (a0 : Array Value) (hw : own_tb a0 Z) (ws : List Jvm.Cond)  (h0 : Heap) (n0 : Nat) (Z0 : n0 ≤ h0.size) :
    OwnMet l (⟨"java/lang/StringUTF16", "newBytesFor", "(I)[B"⟩ : MethodName) jdk_52_method_2_code 1 (some (.array .byte)) ws ({ frames := 1, cells := 1, slots := 6, locals := 12 } : Room) #[(.int (3 : Int32))] Z h0 (Qnbf3 Z  h0 n0) := by
  refine own_met (plainFor_of_name pn_23) ?_
  intro p e s m below meth c s₁ X0 hx hby hml hret hlk hown hnm hZ e0
  have N0 := Fr.nil n0
  have Z_ := Z0
  refine OwnGo.cast (ef_nbf3 m (3 : Int32)) ?_
  show OwnGo p e below s _ _ _ s₁ (mkF m 0 _ [])
  have Kp : Keep h0 h0 [] := Keep.refl h0 []
  refine .iloadN X0 hx (hb hby d21_0) rfl ?_
  obtain ⟨_, _, ⟨T67, L67, k67, n67⟩, -, X67, ⟨Lc67, hQ67, l67, y67, z67⟩, st67⟩ := Jvm.LawKit.callS X0 hx (y := (⟨"java/lang/StringUTF16", "newBytesLength", "(I)I"⟩ : MethodName)) hown (mvT hZ (W_ hw 96 rfl)) (mvT hZ (W_ hw 97 rfl)) (mvT hZ (W_ hw 49 rfl)) (mvT hZ (W_ hw 98 rfl)) (by decide) (backOf (W := 0) (rmnbl3 l Z a0 hw []  h0 n0 Z_ ) hZ (W_ hw 98 rfl) (W_ hw 49 rfl) (by decide) (by decide)) (g := (mkF m 1 #[.val (.int (3 : Int32))] [(.int (3 : Int32))])) rfl (by rw [hml]; rfl) (argsL := [(.int (3 : Int32))]) (rest := []) (lenOf pd_5 rfl) rfl (Nat.le_of_eq rfl) (hb hby d21_1) (fun _ _ => ⟨rfl, e0, (by decide : 0 + 0 ≤ _), (by decide : 0 + 0 ≤ _)⟩)
  dsimp only [Pt.U, Pt.locs, Pt.cells, Pt.slots] at X67 l67 y67 z67 st67 hQ67
  subst l67 y67 z67
  obtain ⟨rfl, N67q, e67⟩ := hQ67
  have N67 := Fr.app N0 N67q
  refine .st st67 ?_
  show OwnGo p e below s _ _ _ T67 (mkF m 4 _ [(.int (6 : Int32))])
  obtain ⟨T68, h68, k68, X68, e68, E68, A68, Ex68, st68⟩ := newPE X67 hx hZ (W_ hw 20 rfl) e67 (g := (mkF m 4 #[.val (.int (3 : Int32))] [(.int (6 : Int32))])) rfl (hb hby d21_4) rfl (by decide) (cap := 6) (by decide) (by decide) (by decide) (by decide) (ad := "[B") (by decide)
  obtain ⟨b68, g68⟩ : ∃ z, z = h0.size := ⟨_, rfl⟩
  rw [← g68] at A68 Ex68 st68
  have g_b68 : n0 ≤ b68 := Nat.le_trans Z_ (Nat.le_of_eq g68.symm)
  have sz_b68 : h0.size ≤ b68 := Nat.le_trans Kp.1 (Nat.le_of_eq g68.symm)
  have Kp := Kp.ext E68
  have Z_ : n0 ≤ h68.size := Nat.le_trans Z_ E68.1
  have V_b68 : Arv Z h68 b68 k68 .byte (6 : Int32) [(.int (0 : Int32)), (.int (0 : Int32)), (.int (0 : Int32)), (.int (0 : Int32)), (.int (0 : Int32)), (.int (0 : Int32))] (.int (0 : Int32)) := (Arv.new A68 (by decide)).pad (pad_rep [] (.int (0 : Int32)) 6)
  have E_b68 := Ex68
  refine .st st68 ?_
  show OwnGo p e below s _ _ _ T68 (mkF m 6 _ [(.ref b68)])
  exact OwnGo.ret X68 hx hret hlk rfl (Or.inr (Or.inr (Or.inr (Or.inr ⟨rfl, rfl, rfl⟩)))) (hb hby d21_6) (by show Qnbf3 Z  h0 n0 _ T68.heap _; rw [e68]; exact ⟨b68, k68, rfl, N67, Kp, V_b68, sz_b68⟩) (by decide) (by decide)
def QtoB3 (Z : State) (a : Addr) (ka : ClassId) (c0 : Int32) (c1 : Int32) (c2 : Int32) (h0 : Heap) (n0 : Nat) (v : Option Value) (h : Heap) (L : List Loc) : Prop := ∃ (t : Addr) (kb : ClassId), v = some (.ref t) ∧ Fr n0 L ∧ Keep h0 h [] ∧ Arv Z h t kb .byte (6 : Int32) [(.int (own_lo c0)), (.int (own_hi c0)), (.int (own_lo c1)), (.int (own_hi c1)), (.int (own_lo c2)), (.int (own_hi c2))] (.int (0 : Int32)) ∧ h0.size ≤ t
theorem rmtoB3 (l : Launch) (Z : State) (a0 : Array Value) (hw : own_tb a0 Z) (ws : List Jvm.Cond) (a : Addr) (ka : ClassId) (c0 : Int32) (c1 : Int32) (c2 : Int32) (h0 : Heap) (n0 : Nat) (Z0 : n0 ≤ h0.size) (O_ : Old Z n0 h0) (S_AD : Sta Z Z.heap "java/lang/StringUTF16" "$assertionsDisabled" "Z" (.int (1 : Int32))) (S_HB : Sta Z Z.heap "java/lang/StringUTF16" "HI_BYTE_SHIFT" "I" (.int (0 : Int32))) (S_LB : Sta Z Z.heap "java/lang/StringUTF16" "LO_BYTE_SHIFT" "I" (.int (8 : Int32))) (V_a : Arv Z h0 a ka .char (3 : Int32) [(.int c0), (.int c1), (.int c2)] (.int (0 : Int32))) :
    OwnMet l (⟨"java/lang/StringUTF16", "toBytes", "([CII)[B"⟩ : MethodName) jdk_52_method_14_code 5 (some (.array .byte)) ws ({ frames := 2, cells := 1, slots := 6, locals := 24 } : Room) #[(.ref a), (.int (0 : Int32)), (.int (3 : Int32))] Z h0 (QtoB3 Z a ka c0 c1 c2 h0 n0) := by
  refine own_met (plainFor_of_name pn_23) ?_
  intro p e s m below meth c s₁ X0 hx hby hml hret hlk hown hnm hZ e0
  have N0 := Fr.nil n0
  have Z_ := Z0
  refine OwnGo.cast (ef_toB3 m a (0 : Int32) (3 : Int32)) ?_
  show OwnGo p e below s _ _ _ s₁ (mkF m 0 _ [])
  have Kp : Keep h0 h0 [] := Keep.refl h0 []
  refine .iloadN X0 hx (hb hby d20_0) rfl ?_
  obtain ⟨_, _, ⟨T69, L69, k69, n69⟩, -, X69, ⟨Lc69, hQ69, l69, y69, z69⟩, st69⟩ := Jvm.LawKit.callS X0 hx (y := (⟨"java/lang/StringUTF16", "newBytesFor", "(I)[B"⟩ : MethodName)) hown (mvT hZ (W_ hw 93 rfl)) (mvT hZ (W_ hw 94 rfl)) (mvT hZ (W_ hw 49 rfl)) (mvT hZ (W_ hw 95 rfl)) (by decide) (backOf (W := 0) (rmnbf3 l Z a0 hw []  h0 n0 Z_ ) hZ (W_ hw 95 rfl) (W_ hw 49 rfl) (by decide) (by decide)) (g := (mkF m 1 #[.val (.ref a), .val (.int (0 : Int32)), .val (.int (3 : Int32)), .unset, .unset] [(.int (3 : Int32))])) rfl (by rw [hml]; rfl) (argsL := [(.int (3 : Int32))]) (rest := []) (lenOf pd_6 rfl) rfl (Nat.le_of_eq rfl) (hb hby d20_1) (fun _ _ => ⟨rfl, e0, (by decide : 0 + 1 ≤ _), (by decide : 0 + 6 ≤ _)⟩)
  dsimp only [Pt.U, Pt.locs, Pt.cells, Pt.slots] at X69 l69 y69 z69 st69 hQ69
  subst l69 y69 z69
  obtain ⟨t69, kb69, rfl, N69q, K69, V69, zt69⟩ := hQ69
  have N69 := Fr.app N0 N69q
  have ne_a_t69 : a ≠ t69 := Nat.ne_of_lt (Nat.lt_of_lt_of_le V_a.lt zt69)
  have g_t69 : n0 ≤ t69 := Nat.le_trans Z_ zt69
  have sz_t69 : h0.size ≤ t69 := Nat.le_trans Kp.1 zt69
  have Z_ : n0 ≤ T69.heap.size := Nat.le_trans Z_ K69.1
  have V_a := V_a.keep K69 nin0
  have O_ := O_.keep K69 all0
  have Kp := Kp.trans K69 all0
  refine .st st69 ?_
  show OwnGo p e below s _ _ _ T69 (mkF m 4 _ [(.ref t69)])
  refine .astoreN X69 hx (hb hby d20_4) rfl (L' := #[.val (.ref a), .val (.int (0 : Int32)), .val (.int (3 : Int32)), .val (.ref t69), .unset]) rfl ?_
  refine .iconst X69 hx (hb hby d20_5) own_ki0 ?_
  refine .istore X69 hx (hb hby d20_6) (L' := #[.val (.ref a), .val (.int (0 : Int32)), .val (.int (3 : Int32)), .val (.ref t69), .val (.int (0 : Int32))]) rfl ?_
  refine .iload X69 hx (hb hby d20_8) rfl ?_
  refine .iloadN X69 hx (hb hby d20_10) rfl ?_
  refine .icmpNo X69 hx (hb hby d20_11) (tlt ((by decide) : (0 : Int32) < (3 : Int32))).2.1 ?_
  refine .aloadN X69 hx (hb hby d20_14) rfl rfl ?_
  refine .iload X69 hx (hb hby d20_15) rfl ?_
  refine .aloadN X69 hx (hb hby d20_17) rfl rfl ?_
  refine .iloadN X69 hx (hb hby d20_18) rfl ?_
  obtain ⟨cl70, Ar70, -, S70, -, H70, -⟩ := id V_a
  have hin70 : ¬ ((0 : Int32) < 0 ∨ cl70.slots.size ≤ ((0 : Int32)).toNatClampNeg) := inb_of S70 ⟨by decide, by decide⟩
  refine .st (fun _ => X69.caload hx (j := (0 : Int32)) (v := (.int c0)) (by first | exact Ar70.1 | (rw [rfl]; exact Ar70.1)) (State.isArrayOf_alike hZ.alike Ar70.2.1) Ar70.2.2 hin70 (H70.at hin70 rfl) (g := (mkF m 19 #[.val (.ref a), .val (.int (0 : Int32)), .val (.int (3 : Int32)), .val (.ref t69), .val (.int (0 : Int32))] [(.int (0 : Int32)), (.ref a), (.int (0 : Int32)), (.ref t69)])) rfl rfl (hb hby d20_19) _) ?_
  show OwnGo p e below s _ _ _ T69 (mkF m 20 _ [(.int c0), (.int (0 : Int32)), (.ref t69)])
  obtain ⟨_, _, ⟨T71, L71, k71, n71⟩, -, X71, ⟨Lc71, hQ71, l71, y71, z71⟩, st71⟩ := Jvm.LawKit.callS X69 hx (y := (⟨"java/lang/StringUTF16", "putChar", "([BII)V"⟩ : MethodName)) hown (mvT hZ (W_ hw 100 rfl)) (mvT hZ (W_ hw 101 rfl)) (mvT hZ (W_ hw 49 rfl)) (mvT hZ (W_ hw 102 rfl)) (by decide) (backOf (W := 0) (rmputC0 l Z a0 hw [] t69 kb69 c0 (6 : Int32) [(.int (0 : Int32)), (.int (0 : Int32)), (.int (0 : Int32)), (.int (0 : Int32)), (.int (0 : Int32)), (.int (0 : Int32))] T69.heap n0 Z_ O_ S_AD S_HB S_LB V69 g_t69 ⟨by decide, by decide⟩ ⟨by decide, by decide⟩ (Nat.le_of_ble_eq_true rfl)) hZ (W_ hw 102 rfl) (W_ hw 49 rfl) (by decide) (by decide)) (g := (mkF m 20 #[.val (.ref a), .val (.int (0 : Int32)), .val (.int (3 : Int32)), .val (.ref t69), .val (.int (0 : Int32))] [(.int c0), (.int (0 : Int32)), (.ref t69)])) rfl (by rw [hml]; rfl) (argsL := [(.ref t69), (.int (0 : Int32)), (.int c0)]) (rest := []) (lenOf pd_4 rfl) rfl (Nat.le_of_eq rfl) (hb hby d20_20) (fun _ _ => ⟨rfl, rfl, (by decide : 1 + 0 ≤ _), (by decide : 6 + 0 ≤ _)⟩)
  dsimp only [Pt.U, Pt.locs, Pt.cells, Pt.slots] at X71 l71 y71 z71 st71 hQ71
  subst l71 y71 z71
  obtain ⟨rfl, N71q, K71, V71⟩ := hQ71
  have N71 := Fr.app N69 N71q
  have Z_ : n0 ≤ T71.heap.size := Nat.le_trans Z_ K71.1
  have V_a := V_a.keep K71 (ninS ne_a_t69 nin0)
  have O_ := O_.keep K71 (allS g_t69 all0)
  have Kp := Kp.trans K71 (allS (Or.inr sz_t69) all0)
  refine .st st71 ?_
  show OwnGo p e below s _ _ _ T71 (mkF m 23 _ [])
  have V71 : Arv Z T71.heap t69 kb69 .byte (6 : Int32) [(.int (own_lo c0)), (.int (own_hi c0)), (.int (0 : Int32)), (.int (0 : Int32)), (.int (0 : Int32)), (.int (0 : Int32))] (.int (0 : Int32)) := V71
  refine .iinc X71 hx (hb hby d20_23) rfl own_ka0_1 (L' := #[.val (.ref a), .val (.int (1 : Int32)), .val (.int (3 : Int32)), .val (.ref t69), .val (.int (0 : Int32))]) rfl ?_
  refine .iinc X71 hx (hb hby d20_26) rfl own_ka0_1 (L' := #[.val (.ref a), .val (.int (1 : Int32)), .val (.int (3 : Int32)), .val (.ref t69), .val (.int (1 : Int32))]) rfl ?_
  refine .goto (pc := 29) X71 hx 8 (hb hby d20_29) (by decide) (by decide) ?_
  refine .iload X71 hx (hb hby d20_8) rfl ?_
  refine .iloadN X71 hx (hb hby d20_10) rfl ?_
  refine .icmpNo X71 hx (hb hby d20_11) (tlt ((by decide) : (1 : Int32) < (3 : Int32))).2.1 ?_
  refine .aloadN X71 hx (hb hby d20_14) rfl rfl ?_
  refine .iload X71 hx (hb hby d20_15) rfl ?_
  refine .aloadN X71 hx (hb hby d20_17) rfl rfl ?_
  refine .iloadN X71 hx (hb hby d20_18) rfl ?_
  obtain ⟨cl72, Ar72, -, S72, -, H72, -⟩ := id V_a
  have hin72 : ¬ ((1 : Int32) < 0 ∨ cl72.slots.size ≤ ((1 : Int32)).toNatClampNeg) := inb_of S72 ⟨by decide, by decide⟩
  refine .st (fun _ => X71.caload hx (j := (1 : Int32)) (v := (.int c1)) (by first | exact Ar72.1 | (rw [rfl]; exact Ar72.1)) (State.isArrayOf_alike hZ.alike Ar72.2.1) Ar72.2.2 hin72 (H72.at hin72 rfl) (g := (mkF m 19 #[.val (.ref a), .val (.int (1 : Int32)), .val (.int (3 : Int32)), .val (.ref t69), .val (.int (1 : Int32))] [(.int (1 : Int32)), (.ref a), (.int (1 : Int32)), (.ref t69)])) rfl rfl (hb hby d20_19) _) ?_
  show OwnGo p e below s _ _ _ T71 (mkF m 20 _ [(.int c1), (.int (1 : Int32)), (.ref t69)])
  obtain ⟨_, _, ⟨T73, L73, k73, n73⟩, -, X73, ⟨Lc73, hQ73, l73, y73, z73⟩, st73⟩ := Jvm.LawKit.callS X71 hx (y := (⟨"java/lang/StringUTF16", "putChar", "([BII)V"⟩ : MethodName)) hown (mvT hZ (W_ hw 100 rfl)) (mvT hZ (W_ hw 101 rfl)) (mvT hZ (W_ hw 49 rfl)) (mvT hZ (W_ hw 102 rfl)) (by decide) (backOf (W := 0) (rmputC1 l Z a0 hw [] t69 kb69 c1 (6 : Int32) [(.int (own_lo c0)), (.int (own_hi c0)), (.int (0 : Int32)), (.int (0 : Int32)), (.int (0 : Int32)), (.int (0 : Int32))] T71.heap n0 Z_ O_ S_AD S_HB S_LB V71 g_t69 ⟨by decide, by decide⟩ ⟨by decide, by decide⟩ (Nat.le_of_ble_eq_true rfl)) hZ (W_ hw 102 rfl) (W_ hw 49 rfl) (by decide) (by decide)) (g := (mkF m 20 #[.val (.ref a), .val (.int (1 : Int32)), .val (.int (3 : Int32)), .val (.ref t69), .val (.int (1 : Int32))] [(.int c1), (.int (1 : Int32)), (.ref t69)])) rfl (by rw [hml]; rfl) (argsL := [(.ref t69), (.int (1 : Int32)), (.int c1)]) (rest := []) (lenOf pd_4 rfl) rfl (Nat.le_of_eq rfl) (hb hby d20_20) (fun _ _ => ⟨rfl, rfl, (by decide : 1 + 0 ≤ _), (by decide : 6 + 0 ≤ _)⟩)
  dsimp only [Pt.U, Pt.locs, Pt.cells, Pt.slots] at X73 l73 y73 z73 st73 hQ73
  subst l73 y73 z73
  obtain ⟨rfl, N73q, K73, V73⟩ := hQ73
  have N73 := Fr.app N71 N73q
  have Z_ : n0 ≤ T73.heap.size := Nat.le_trans Z_ K73.1
  have V_a := V_a.keep K73 (ninS ne_a_t69 nin0)
  have O_ := O_.keep K73 (allS g_t69 all0)
  have Kp := Kp.trans K73 (allS (Or.inr sz_t69) all0)
  refine .st st73 ?_
  show OwnGo p e below s _ _ _ T73 (mkF m 23 _ [])
  have V73 : Arv Z T73.heap t69 kb69 .byte (6 : Int32) [(.int (own_lo c0)), (.int (own_hi c0)), (.int (own_lo c1)), (.int (own_hi c1)), (.int (0 : Int32)), (.int (0 : Int32))] (.int (0 : Int32)) := V73
  refine .iinc X73 hx (hb hby d20_23) rfl own_ka1_1 (L' := #[.val (.ref a), .val (.int (2 : Int32)), .val (.int (3 : Int32)), .val (.ref t69), .val (.int (1 : Int32))]) rfl ?_
  refine .iinc X73 hx (hb hby d20_26) rfl own_ka1_1 (L' := #[.val (.ref a), .val (.int (2 : Int32)), .val (.int (3 : Int32)), .val (.ref t69), .val (.int (2 : Int32))]) rfl ?_
  refine .goto (pc := 29) X73 hx 8 (hb hby d20_29) (by decide) (by decide) ?_
  refine .iload X73 hx (hb hby d20_8) rfl ?_
  refine .iloadN X73 hx (hb hby d20_10) rfl ?_
  refine .icmpNo X73 hx (hb hby d20_11) (tlt ((by decide) : (2 : Int32) < (3 : Int32))).2.1 ?_
  refine .aloadN X73 hx (hb hby d20_14) rfl rfl ?_
  refine .iload X73 hx (hb hby d20_15) rfl ?_
  refine .aloadN X73 hx (hb hby d20_17) rfl rfl ?_
  refine .iloadN X73 hx (hb hby d20_18) rfl ?_
  obtain ⟨cl74, Ar74, -, S74, -, H74, -⟩ := id V_a
  have hin74 : ¬ ((2 : Int32) < 0 ∨ cl74.slots.size ≤ ((2 : Int32)).toNatClampNeg) := inb_of S74 ⟨by decide, by decide⟩
  refine .st (fun _ => X73.caload hx (j := (2 : Int32)) (v := (.int c2)) (by first | exact Ar74.1 | (rw [rfl]; exact Ar74.1)) (State.isArrayOf_alike hZ.alike Ar74.2.1) Ar74.2.2 hin74 (H74.at hin74 rfl) (g := (mkF m 19 #[.val (.ref a), .val (.int (2 : Int32)), .val (.int (3 : Int32)), .val (.ref t69), .val (.int (2 : Int32))] [(.int (2 : Int32)), (.ref a), (.int (2 : Int32)), (.ref t69)])) rfl rfl (hb hby d20_19) _) ?_
  show OwnGo p e below s _ _ _ T73 (mkF m 20 _ [(.int c2), (.int (2 : Int32)), (.ref t69)])
  obtain ⟨_, _, ⟨T75, L75, k75, n75⟩, -, X75, ⟨Lc75, hQ75, l75, y75, z75⟩, st75⟩ := Jvm.LawKit.callS X73 hx (y := (⟨"java/lang/StringUTF16", "putChar", "([BII)V"⟩ : MethodName)) hown (mvT hZ (W_ hw 100 rfl)) (mvT hZ (W_ hw 101 rfl)) (mvT hZ (W_ hw 49 rfl)) (mvT hZ (W_ hw 102 rfl)) (by decide) (backOf (W := 0) (rmputC2 l Z a0 hw [] t69 kb69 c2 (6 : Int32) [(.int (own_lo c0)), (.int (own_hi c0)), (.int (own_lo c1)), (.int (own_hi c1)), (.int (0 : Int32)), (.int (0 : Int32))] T73.heap n0 Z_ O_ S_AD S_HB S_LB V73 g_t69 ⟨by decide, by decide⟩ ⟨by decide, by decide⟩ (Nat.le_of_ble_eq_true rfl)) hZ (W_ hw 102 rfl) (W_ hw 49 rfl) (by decide) (by decide)) (g := (mkF m 20 #[.val (.ref a), .val (.int (2 : Int32)), .val (.int (3 : Int32)), .val (.ref t69), .val (.int (2 : Int32))] [(.int c2), (.int (2 : Int32)), (.ref t69)])) rfl (by rw [hml]; rfl) (argsL := [(.ref t69), (.int (2 : Int32)), (.int c2)]) (rest := []) (lenOf pd_4 rfl) rfl (Nat.le_of_eq rfl) (hb hby d20_20) (fun _ _ => ⟨rfl, rfl, (by decide : 1 + 0 ≤ _), (by decide : 6 + 0 ≤ _)⟩)
  dsimp only [Pt.U, Pt.locs, Pt.cells, Pt.slots] at X75 l75 y75 z75 st75 hQ75
  subst l75 y75 z75
  obtain ⟨rfl, N75q, K75, V75⟩ := hQ75
  have N75 := Fr.app N73 N75q
  have Z_ : n0 ≤ T75.heap.size := Nat.le_trans Z_ K75.1
  have V_a := V_a.keep K75 (ninS ne_a_t69 nin0)
  have O_ := O_.keep K75 (allS g_t69 all0)
  have Kp := Kp.trans K75 (allS (Or.inr sz_t69) all0)
  refine .st st75 ?_
  show OwnGo p e below s _ _ _ T75 (mkF m 23 _ [])
  have V75 : Arv Z T75.heap t69 kb69 .byte (6 : Int32) [(.int (own_lo c0)), (.int (own_hi c0)), (.int (own_lo c1)), (.int (own_hi c1)), (.int (own_lo c2)), (.int (own_hi c2))] (.int (0 : Int32)) := V75
  refine .iinc X75 hx (hb hby d20_23) rfl own_ka2_1 (L' := #[.val (.ref a), .val (.int (3 : Int32)), .val (.int (3 : Int32)), .val (.ref t69), .val (.int (2 : Int32))]) rfl ?_
  refine .iinc X75 hx (hb hby d20_26) rfl own_ka2_1 (L' := #[.val (.ref a), .val (.int (3 : Int32)), .val (.int (3 : Int32)), .val (.ref t69), .val (.int (3 : Int32))]) rfl ?_
  refine .goto (pc := 29) X75 hx 8 (hb hby d20_29) (by decide) (by decide) ?_
  refine .iload X75 hx (hb hby d20_8) rfl ?_
  refine .iloadN X75 hx (hb hby d20_10) rfl ?_
  refine .icmpYes (pc := 11) X75 hx 32 (hb hby d20_11) (flt ((by decide) : ¬ ((3 : Int32) < (3 : Int32)))).2.1 (by decide) (by decide) ?_
  refine .aloadN X75 hx (hb hby d20_32) rfl rfl ?_
  exact OwnGo.ret X75 hx hret hlk rfl (Or.inr (Or.inr (Or.inr (Or.inr ⟨rfl, rfl, rfl⟩)))) (hb hby d20_33) (by show QtoB3 Z a ka c0 c1 c2 h0 n0 _ T75.heap _; exact ⟨t69, kb69, rfl, N75, Kp, V75, sz_t69⟩) (by decide) (by decide)
def Qnbl4 (Z : State)  (h0 : Heap) (n0 : Nat) (v : Option Value) (h : Heap) (L : List Loc) : Prop := v = some (.int (8 : Int32)) ∧ Fr n0 L ∧ h = h0
theorem rmnbl4 (l : Launch) (Z : State) (a0 : Array Value) (hw : own_tb a0 Z) (ws : List Jvm.Cond)  (h0 : Heap) (n0 : Nat) (Z0 : n0 ≤ h0.size) :
    OwnMet l (⟨"java/lang/StringUTF16", "newBytesLength", "(I)I"⟩ : MethodName) jdk_52_method_3_code 1 (some .int) ws ({ frames := 0, cells := 0, slots := 0, locals := 0 } : Room) #[(.int (4 : Int32))] Z h0 (Qnbl4 Z  h0 n0) := by
  refine own_met (plainFor_of_name pn_23) ?_
  intro p e s m below meth c s₁ X0 hx hby hml hret hlk hown hnm hZ e0
  have N0 := Fr.nil n0
  have Z_ := Z0
  refine OwnGo.cast (ef_nbl4 m (4 : Int32)) ?_
  show OwnGo p e below s _ _ _ s₁ (mkF m 0 _ [])
  refine .iloadN X0 hx (hb hby d22_0) rfl ?_
  refine .ifYes (pc := 1) X0 hx 12 (hb hby d22_1) ((if0 _ _).trans (flt ((by decide) : ¬ ((4 : Int32) < (0 : Int32)))).2.1) (by decide) (by decide) ?_
  refine .iloadN X0 hx (hb hby d22_12) rfl ?_
  refine .st (fun _ => X0.ldcInt hx hown (mvT hZ (W_ hw 99 rfl)) (g := (mkF m 13 #[.val (.int (4 : Int32))] [(.int (4 : Int32))])) rfl (hb hby d22_13) _) ?_
  show OwnGo p e below s _ _ _ s₁ (mkF m 15 _ [(.int (1073741823 : Int32)), (.int (4 : Int32))])
  refine .icmpYes (pc := 15) X0 hx 55 (hb hby d22_15) (tlt (own_bg4_lt_1073741823 : (4 : Int32) < (1073741823 : Int32))).1 (by decide) (by decide) ?_
  refine .iloadN X0 hx (hb hby d22_55) rfl ?_
  refine .iconst X0 hx (hb hby d22_56) own_ki1 ?_
  refine .st (fun _ => XS.ishl X0.here hx rfl (hb hby d22_57) rfl) ?_
  show OwnGo p e below s _ _ _ s₁ (mkF m 58 _ [(.int ((4 : Int32) <<< ((1 : Int32) &&& 31)))])
  rw [show ((4 : Int32) <<< ((1 : Int32) &&& 31)) = (8 : Int32) from by decide]
  show OwnGo p e below s _ _ _ s₁ (mkF m 58 _ [(.int (8 : Int32))])
  exact OwnGo.ret X0 hx hret hlk rfl (Or.inl ⟨rfl, Or.inl rfl, _, rfl⟩) (hb hby d22_58) (by show Qnbl4 Z  h0 n0 _ s₁.heap _; rw [e0]; exact ⟨rfl, N0, rfl⟩) (by decide) (by decide)
def Qnbf4 (Z : State)  (h0 : Heap) (n0 : Nat) (v : Option Value) (h : Heap) (L : List Loc) : Prop := ∃ (t : Addr) (kb : ClassId), v = some (.ref t) ∧ Fr n0 L ∧ Keep h0 h [] ∧ Arv Z h t kb .byte (8 : Int32) [(.int (0 : Int32)), (.int (0 : Int32)), (.int (0 : Int32)), (.int (0 : Int32)), (.int (0 : Int32)), (.int (0 : Int32)), (.int (0 : Int32)), (.int (0 : Int32))] (.int (0 : Int32)) ∧ h0.size ≤ t
theorem rmnbf4 (l : Launch) (Z : State) (a0 : Array Value) (hw : own_tb a0 Z) (ws : List Jvm.Cond)  (h0 : Heap) (n0 : Nat) (Z0 : n0 ≤ h0.size) :
    OwnMet l (⟨"java/lang/StringUTF16", "newBytesFor", "(I)[B"⟩ : MethodName) jdk_52_method_2_code 1 (some (.array .byte)) ws ({ frames := 1, cells := 1, slots := 8, locals := 12 } : Room) #[(.int (4 : Int32))] Z h0 (Qnbf4 Z  h0 n0) := by
  refine own_met (plainFor_of_name pn_23) ?_
  intro p e s m below meth c s₁ X0 hx hby hml hret hlk hown hnm hZ e0
  have N0 := Fr.nil n0
  have Z_ := Z0
  refine OwnGo.cast (ef_nbf4 m (4 : Int32)) ?_
  show OwnGo p e below s _ _ _ s₁ (mkF m 0 _ [])
  have Kp : Keep h0 h0 [] := Keep.refl h0 []
  refine .iloadN X0 hx (hb hby d21_0) rfl ?_
  obtain ⟨_, _, ⟨T76, L76, k76, n76⟩, -, X76, ⟨Lc76, hQ76, l76, y76, z76⟩, st76⟩ := Jvm.LawKit.callS X0 hx (y := (⟨"java/lang/StringUTF16", "newBytesLength", "(I)I"⟩ : MethodName)) hown (mvT hZ (W_ hw 96 rfl)) (mvT hZ (W_ hw 97 rfl)) (mvT hZ (W_ hw 49 rfl)) (mvT hZ (W_ hw 98 rfl)) (by decide) (backOf (W := 0) (rmnbl4 l Z a0 hw []  h0 n0 Z_ ) hZ (W_ hw 98 rfl) (W_ hw 49 rfl) (by decide) (by decide)) (g := (mkF m 1 #[.val (.int (4 : Int32))] [(.int (4 : Int32))])) rfl (by rw [hml]; rfl) (argsL := [(.int (4 : Int32))]) (rest := []) (lenOf pd_5 rfl) rfl (Nat.le_of_eq rfl) (hb hby d21_1) (fun _ _ => ⟨rfl, e0, (by decide : 0 + 0 ≤ _), (by decide : 0 + 0 ≤ _)⟩)
  dsimp only [Pt.U, Pt.locs, Pt.cells, Pt.slots] at X76 l76 y76 z76 st76 hQ76
  subst l76 y76 z76
  obtain ⟨rfl, N76q, e76⟩ := hQ76
  have N76 := Fr.app N0 N76q
  refine .st st76 ?_
  show OwnGo p e below s _ _ _ T76 (mkF m 4 _ [(.int (8 : Int32))])
  obtain ⟨T77, h77, k77, X77, e77, E77, A77, Ex77, st77⟩ := newPE X76 hx hZ (W_ hw 20 rfl) e76 (g := (mkF m 4 #[.val (.int (4 : Int32))] [(.int (8 : Int32))])) rfl (hb hby d21_4) rfl (by decide) (cap := 8) (by decide) (by decide) (by decide) (by decide) (ad := "[B") (by decide)
  obtain ⟨b77, g77⟩ : ∃ z, z = h0.size := ⟨_, rfl⟩
  rw [← g77] at A77 Ex77 st77
  have g_b77 : n0 ≤ b77 := Nat.le_trans Z_ (Nat.le_of_eq g77.symm)
  have sz_b77 : h0.size ≤ b77 := Nat.le_trans Kp.1 (Nat.le_of_eq g77.symm)
  have Kp := Kp.ext E77
  have Z_ : n0 ≤ h77.size := Nat.le_trans Z_ E77.1
  have V_b77 : Arv Z h77 b77 k77 .byte (8 : Int32) [(.int (0 : Int32)), (.int (0 : Int32)), (.int (0 : Int32)), (.int (0 : Int32)), (.int (0 : Int32)), (.int (0 : Int32)), (.int (0 : Int32)), (.int (0 : Int32))] (.int (0 : Int32)) := (Arv.new A77 (by decide)).pad (pad_rep [] (.int (0 : Int32)) 8)
  have E_b77 := Ex77
  refine .st st77 ?_
  show OwnGo p e below s _ _ _ T77 (mkF m 6 _ [(.ref b77)])
  exact OwnGo.ret X77 hx hret hlk rfl (Or.inr (Or.inr (Or.inr (Or.inr ⟨rfl, rfl, rfl⟩)))) (hb hby d21_6) (by show Qnbf4 Z  h0 n0 _ T77.heap _; rw [e77]; exact ⟨b77, k77, rfl, N76, Kp, V_b77, sz_b77⟩) (by decide) (by decide)
def QtoB4 (Z : State) (a : Addr) (ka : ClassId) (c0 : Int32) (c1 : Int32) (c2 : Int32) (c3 : Int32) (h0 : Heap) (n0 : Nat) (v : Option Value) (h : Heap) (L : List Loc) : Prop := ∃ (t : Addr) (kb : ClassId), v = some (.ref t) ∧ Fr n0 L ∧ Keep h0 h [] ∧ Arv Z h t kb .byte (8 : Int32) [(.int (own_lo c0)), (.int (own_hi c0)), (.int (own_lo c1)), (.int (own_hi c1)), (.int (own_lo c2)), (.int (own_hi c2)), (.int (own_lo c3)), (.int (own_hi c3))] (.int (0 : Int32)) ∧ h0.size ≤ t
theorem rmtoB4 (l : Launch) (Z : State) (a0 : Array Value) (hw : own_tb a0 Z) (ws : List Jvm.Cond) (a : Addr) (ka : ClassId) (c0 : Int32) (c1 : Int32) (c2 : Int32) (c3 : Int32) (h0 : Heap) (n0 : Nat) (Z0 : n0 ≤ h0.size) (O_ : Old Z n0 h0) (S_AD : Sta Z Z.heap "java/lang/StringUTF16" "$assertionsDisabled" "Z" (.int (1 : Int32))) (S_HB : Sta Z Z.heap "java/lang/StringUTF16" "HI_BYTE_SHIFT" "I" (.int (0 : Int32))) (S_LB : Sta Z Z.heap "java/lang/StringUTF16" "LO_BYTE_SHIFT" "I" (.int (8 : Int32))) (V_a : Arv Z h0 a ka .char (4 : Int32) [(.int c0), (.int c1), (.int c2), (.int c3)] (.int (0 : Int32))) :
    OwnMet l (⟨"java/lang/StringUTF16", "toBytes", "([CII)[B"⟩ : MethodName) jdk_52_method_14_code 5 (some (.array .byte)) ws ({ frames := 2, cells := 1, slots := 8, locals := 24 } : Room) #[(.ref a), (.int (0 : Int32)), (.int (4 : Int32))] Z h0 (QtoB4 Z a ka c0 c1 c2 c3 h0 n0) := by
  refine own_met (plainFor_of_name pn_23) ?_
  intro p e s m below meth c s₁ X0 hx hby hml hret hlk hown hnm hZ e0
  have N0 := Fr.nil n0
  have Z_ := Z0
  refine OwnGo.cast (ef_toB4 m a (0 : Int32) (4 : Int32)) ?_
  show OwnGo p e below s _ _ _ s₁ (mkF m 0 _ [])
  have Kp : Keep h0 h0 [] := Keep.refl h0 []
  refine .iloadN X0 hx (hb hby d20_0) rfl ?_
  obtain ⟨_, _, ⟨T78, L78, k78, n78⟩, -, X78, ⟨Lc78, hQ78, l78, y78, z78⟩, st78⟩ := Jvm.LawKit.callS X0 hx (y := (⟨"java/lang/StringUTF16", "newBytesFor", "(I)[B"⟩ : MethodName)) hown (mvT hZ (W_ hw 93 rfl)) (mvT hZ (W_ hw 94 rfl)) (mvT hZ (W_ hw 49 rfl)) (mvT hZ (W_ hw 95 rfl)) (by decide) (backOf (W := 0) (rmnbf4 l Z a0 hw []  h0 n0 Z_ ) hZ (W_ hw 95 rfl) (W_ hw 49 rfl) (by decide) (by decide)) (g := (mkF m 1 #[.val (.ref a), .val (.int (0 : Int32)), .val (.int (4 : Int32)), .unset, .unset] [(.int (4 : Int32))])) rfl (by rw [hml]; rfl) (argsL := [(.int (4 : Int32))]) (rest := []) (lenOf pd_6 rfl) rfl (Nat.le_of_eq rfl) (hb hby d20_1) (fun _ _ => ⟨rfl, e0, (by decide : 0 + 1 ≤ _), (by decide : 0 + 8 ≤ _)⟩)
  dsimp only [Pt.U, Pt.locs, Pt.cells, Pt.slots] at X78 l78 y78 z78 st78 hQ78
  subst l78 y78 z78
  obtain ⟨t78, kb78, rfl, N78q, K78, V78, zt78⟩ := hQ78
  have N78 := Fr.app N0 N78q
  have ne_a_t78 : a ≠ t78 := Nat.ne_of_lt (Nat.lt_of_lt_of_le V_a.lt zt78)
  have g_t78 : n0 ≤ t78 := Nat.le_trans Z_ zt78
  have sz_t78 : h0.size ≤ t78 := Nat.le_trans Kp.1 zt78
  have Z_ : n0 ≤ T78.heap.size := Nat.le_trans Z_ K78.1
  have V_a := V_a.keep K78 nin0
  have O_ := O_.keep K78 all0
  have Kp := Kp.trans K78 all0
  refine .st st78 ?_
  show OwnGo p e below s _ _ _ T78 (mkF m 4 _ [(.ref t78)])
  refine .astoreN X78 hx (hb hby d20_4) rfl (L' := #[.val (.ref a), .val (.int (0 : Int32)), .val (.int (4 : Int32)), .val (.ref t78), .unset]) rfl ?_
  refine .iconst X78 hx (hb hby d20_5) own_ki0 ?_
  refine .istore X78 hx (hb hby d20_6) (L' := #[.val (.ref a), .val (.int (0 : Int32)), .val (.int (4 : Int32)), .val (.ref t78), .val (.int (0 : Int32))]) rfl ?_
  refine .iload X78 hx (hb hby d20_8) rfl ?_
  refine .iloadN X78 hx (hb hby d20_10) rfl ?_
  refine .icmpNo X78 hx (hb hby d20_11) (tlt ((by decide) : (0 : Int32) < (4 : Int32))).2.1 ?_
  refine .aloadN X78 hx (hb hby d20_14) rfl rfl ?_
  refine .iload X78 hx (hb hby d20_15) rfl ?_
  refine .aloadN X78 hx (hb hby d20_17) rfl rfl ?_
  refine .iloadN X78 hx (hb hby d20_18) rfl ?_
  obtain ⟨cl79, Ar79, -, S79, -, H79, -⟩ := id V_a
  have hin79 : ¬ ((0 : Int32) < 0 ∨ cl79.slots.size ≤ ((0 : Int32)).toNatClampNeg) := inb_of S79 ⟨by decide, by decide⟩
  refine .st (fun _ => X78.caload hx (j := (0 : Int32)) (v := (.int c0)) (by first | exact Ar79.1 | (rw [rfl]; exact Ar79.1)) (State.isArrayOf_alike hZ.alike Ar79.2.1) Ar79.2.2 hin79 (H79.at hin79 rfl) (g := (mkF m 19 #[.val (.ref a), .val (.int (0 : Int32)), .val (.int (4 : Int32)), .val (.ref t78), .val (.int (0 : Int32))] [(.int (0 : Int32)), (.ref a), (.int (0 : Int32)), (.ref t78)])) rfl rfl (hb hby d20_19) _) ?_
  show OwnGo p e below s _ _ _ T78 (mkF m 20 _ [(.int c0), (.int (0 : Int32)), (.ref t78)])
  obtain ⟨_, _, ⟨T80, L80, k80, n80⟩, -, X80, ⟨Lc80, hQ80, l80, y80, z80⟩, st80⟩ := Jvm.LawKit.callS X78 hx (y := (⟨"java/lang/StringUTF16", "putChar", "([BII)V"⟩ : MethodName)) hown (mvT hZ (W_ hw 100 rfl)) (mvT hZ (W_ hw 101 rfl)) (mvT hZ (W_ hw 49 rfl)) (mvT hZ (W_ hw 102 rfl)) (by decide) (backOf (W := 0) (rmputC0 l Z a0 hw [] t78 kb78 c0 (8 : Int32) [(.int (0 : Int32)), (.int (0 : Int32)), (.int (0 : Int32)), (.int (0 : Int32)), (.int (0 : Int32)), (.int (0 : Int32)), (.int (0 : Int32)), (.int (0 : Int32))] T78.heap n0 Z_ O_ S_AD S_HB S_LB V78 g_t78 ⟨by decide, by decide⟩ ⟨by decide, by decide⟩ (Nat.le_of_ble_eq_true rfl)) hZ (W_ hw 102 rfl) (W_ hw 49 rfl) (by decide) (by decide)) (g := (mkF m 20 #[.val (.ref a), .val (.int (0 : Int32)), .val (.int (4 : Int32)), .val (.ref t78), .val (.int (0 : Int32))] [(.int c0), (.int (0 : Int32)), (.ref t78)])) rfl (by rw [hml]; rfl) (argsL := [(.ref t78), (.int (0 : Int32)), (.int c0)]) (rest := []) (lenOf pd_4 rfl) rfl (Nat.le_of_eq rfl) (hb hby d20_20) (fun _ _ => ⟨rfl, rfl, (by decide : 1 + 0 ≤ _), (by decide : 8 + 0 ≤ _)⟩)
  dsimp only [Pt.U, Pt.locs, Pt.cells, Pt.slots] at X80 l80 y80 z80 st80 hQ80
  subst l80 y80 z80
  obtain ⟨rfl, N80q, K80, V80⟩ := hQ80
  have N80 := Fr.app N78 N80q
  have Z_ : n0 ≤ T80.heap.size := Nat.le_trans Z_ K80.1
  have V_a := V_a.keep K80 (ninS ne_a_t78 nin0)
  have O_ := O_.keep K80 (allS g_t78 all0)
  have Kp := Kp.trans K80 (allS (Or.inr sz_t78) all0)
  refine .st st80 ?_
  show OwnGo p e below s _ _ _ T80 (mkF m 23 _ [])
  have V80 : Arv Z T80.heap t78 kb78 .byte (8 : Int32) [(.int (own_lo c0)), (.int (own_hi c0)), (.int (0 : Int32)), (.int (0 : Int32)), (.int (0 : Int32)), (.int (0 : Int32)), (.int (0 : Int32)), (.int (0 : Int32))] (.int (0 : Int32)) := V80
  refine .iinc X80 hx (hb hby d20_23) rfl own_ka0_1 (L' := #[.val (.ref a), .val (.int (1 : Int32)), .val (.int (4 : Int32)), .val (.ref t78), .val (.int (0 : Int32))]) rfl ?_
  refine .iinc X80 hx (hb hby d20_26) rfl own_ka0_1 (L' := #[.val (.ref a), .val (.int (1 : Int32)), .val (.int (4 : Int32)), .val (.ref t78), .val (.int (1 : Int32))]) rfl ?_
  refine .goto (pc := 29) X80 hx 8 (hb hby d20_29) (by decide) (by decide) ?_
  refine .iload X80 hx (hb hby d20_8) rfl ?_
  refine .iloadN X80 hx (hb hby d20_10) rfl ?_
  refine .icmpNo X80 hx (hb hby d20_11) (tlt ((by decide) : (1 : Int32) < (4 : Int32))).2.1 ?_
  refine .aloadN X80 hx (hb hby d20_14) rfl rfl ?_
  refine .iload X80 hx (hb hby d20_15) rfl ?_
  refine .aloadN X80 hx (hb hby d20_17) rfl rfl ?_
  refine .iloadN X80 hx (hb hby d20_18) rfl ?_
  obtain ⟨cl81, Ar81, -, S81, -, H81, -⟩ := id V_a
  have hin81 : ¬ ((1 : Int32) < 0 ∨ cl81.slots.size ≤ ((1 : Int32)).toNatClampNeg) := inb_of S81 ⟨by decide, by decide⟩
  refine .st (fun _ => X80.caload hx (j := (1 : Int32)) (v := (.int c1)) (by first | exact Ar81.1 | (rw [rfl]; exact Ar81.1)) (State.isArrayOf_alike hZ.alike Ar81.2.1) Ar81.2.2 hin81 (H81.at hin81 rfl) (g := (mkF m 19 #[.val (.ref a), .val (.int (1 : Int32)), .val (.int (4 : Int32)), .val (.ref t78), .val (.int (1 : Int32))] [(.int (1 : Int32)), (.ref a), (.int (1 : Int32)), (.ref t78)])) rfl rfl (hb hby d20_19) _) ?_
  show OwnGo p e below s _ _ _ T80 (mkF m 20 _ [(.int c1), (.int (1 : Int32)), (.ref t78)])
  obtain ⟨_, _, ⟨T82, L82, k82, n82⟩, -, X82, ⟨Lc82, hQ82, l82, y82, z82⟩, st82⟩ := Jvm.LawKit.callS X80 hx (y := (⟨"java/lang/StringUTF16", "putChar", "([BII)V"⟩ : MethodName)) hown (mvT hZ (W_ hw 100 rfl)) (mvT hZ (W_ hw 101 rfl)) (mvT hZ (W_ hw 49 rfl)) (mvT hZ (W_ hw 102 rfl)) (by decide) (backOf (W := 0) (rmputC1 l Z a0 hw [] t78 kb78 c1 (8 : Int32) [(.int (own_lo c0)), (.int (own_hi c0)), (.int (0 : Int32)), (.int (0 : Int32)), (.int (0 : Int32)), (.int (0 : Int32)), (.int (0 : Int32)), (.int (0 : Int32))] T80.heap n0 Z_ O_ S_AD S_HB S_LB V80 g_t78 ⟨by decide, by decide⟩ ⟨by decide, by decide⟩ (Nat.le_of_ble_eq_true rfl)) hZ (W_ hw 102 rfl) (W_ hw 49 rfl) (by decide) (by decide)) (g := (mkF m 20 #[.val (.ref a), .val (.int (1 : Int32)), .val (.int (4 : Int32)), .val (.ref t78), .val (.int (1 : Int32))] [(.int c1), (.int (1 : Int32)), (.ref t78)])) rfl (by rw [hml]; rfl) (argsL := [(.ref t78), (.int (1 : Int32)), (.int c1)]) (rest := []) (lenOf pd_4 rfl) rfl (Nat.le_of_eq rfl) (hb hby d20_20) (fun _ _ => ⟨rfl, rfl, (by decide : 1 + 0 ≤ _), (by decide : 8 + 0 ≤ _)⟩)
  dsimp only [Pt.U, Pt.locs, Pt.cells, Pt.slots] at X82 l82 y82 z82 st82 hQ82
  subst l82 y82 z82
  obtain ⟨rfl, N82q, K82, V82⟩ := hQ82
  have N82 := Fr.app N80 N82q
  have Z_ : n0 ≤ T82.heap.size := Nat.le_trans Z_ K82.1
  have V_a := V_a.keep K82 (ninS ne_a_t78 nin0)
  have O_ := O_.keep K82 (allS g_t78 all0)
  have Kp := Kp.trans K82 (allS (Or.inr sz_t78) all0)
  refine .st st82 ?_
  show OwnGo p e below s _ _ _ T82 (mkF m 23 _ [])
  have V82 : Arv Z T82.heap t78 kb78 .byte (8 : Int32) [(.int (own_lo c0)), (.int (own_hi c0)), (.int (own_lo c1)), (.int (own_hi c1)), (.int (0 : Int32)), (.int (0 : Int32)), (.int (0 : Int32)), (.int (0 : Int32))] (.int (0 : Int32)) := V82
  refine .iinc X82 hx (hb hby d20_23) rfl own_ka1_1 (L' := #[.val (.ref a), .val (.int (2 : Int32)), .val (.int (4 : Int32)), .val (.ref t78), .val (.int (1 : Int32))]) rfl ?_
  refine .iinc X82 hx (hb hby d20_26) rfl own_ka1_1 (L' := #[.val (.ref a), .val (.int (2 : Int32)), .val (.int (4 : Int32)), .val (.ref t78), .val (.int (2 : Int32))]) rfl ?_
  refine .goto (pc := 29) X82 hx 8 (hb hby d20_29) (by decide) (by decide) ?_
  refine .iload X82 hx (hb hby d20_8) rfl ?_
  refine .iloadN X82 hx (hb hby d20_10) rfl ?_
  refine .icmpNo X82 hx (hb hby d20_11) (tlt ((by decide) : (2 : Int32) < (4 : Int32))).2.1 ?_
  refine .aloadN X82 hx (hb hby d20_14) rfl rfl ?_
  refine .iload X82 hx (hb hby d20_15) rfl ?_
  refine .aloadN X82 hx (hb hby d20_17) rfl rfl ?_
  refine .iloadN X82 hx (hb hby d20_18) rfl ?_
  obtain ⟨cl83, Ar83, -, S83, -, H83, -⟩ := id V_a
  have hin83 : ¬ ((2 : Int32) < 0 ∨ cl83.slots.size ≤ ((2 : Int32)).toNatClampNeg) := inb_of S83 ⟨by decide, by decide⟩
  refine .st (fun _ => X82.caload hx (j := (2 : Int32)) (v := (.int c2)) (by first | exact Ar83.1 | (rw [rfl]; exact Ar83.1)) (State.isArrayOf_alike hZ.alike Ar83.2.1) Ar83.2.2 hin83 (H83.at hin83 rfl) (g := (mkF m 19 #[.val (.ref a), .val (.int (2 : Int32)), .val (.int (4 : Int32)), .val (.ref t78), .val (.int (2 : Int32))] [(.int (2 : Int32)), (.ref a), (.int (2 : Int32)), (.ref t78)])) rfl rfl (hb hby d20_19) _) ?_
  show OwnGo p e below s _ _ _ T82 (mkF m 20 _ [(.int c2), (.int (2 : Int32)), (.ref t78)])
  obtain ⟨_, _, ⟨T84, L84, k84, n84⟩, -, X84, ⟨Lc84, hQ84, l84, y84, z84⟩, st84⟩ := Jvm.LawKit.callS X82 hx (y := (⟨"java/lang/StringUTF16", "putChar", "([BII)V"⟩ : MethodName)) hown (mvT hZ (W_ hw 100 rfl)) (mvT hZ (W_ hw 101 rfl)) (mvT hZ (W_ hw 49 rfl)) (mvT hZ (W_ hw 102 rfl)) (by decide) (backOf (W := 0) (rmputC2 l Z a0 hw [] t78 kb78 c2 (8 : Int32) [(.int (own_lo c0)), (.int (own_hi c0)), (.int (own_lo c1)), (.int (own_hi c1)), (.int (0 : Int32)), (.int (0 : Int32)), (.int (0 : Int32)), (.int (0 : Int32))] T82.heap n0 Z_ O_ S_AD S_HB S_LB V82 g_t78 ⟨by decide, by decide⟩ ⟨by decide, by decide⟩ (Nat.le_of_ble_eq_true rfl)) hZ (W_ hw 102 rfl) (W_ hw 49 rfl) (by decide) (by decide)) (g := (mkF m 20 #[.val (.ref a), .val (.int (2 : Int32)), .val (.int (4 : Int32)), .val (.ref t78), .val (.int (2 : Int32))] [(.int c2), (.int (2 : Int32)), (.ref t78)])) rfl (by rw [hml]; rfl) (argsL := [(.ref t78), (.int (2 : Int32)), (.int c2)]) (rest := []) (lenOf pd_4 rfl) rfl (Nat.le_of_eq rfl) (hb hby d20_20) (fun _ _ => ⟨rfl, rfl, (by decide : 1 + 0 ≤ _), (by decide : 8 + 0 ≤ _)⟩)
  dsimp only [Pt.U, Pt.locs, Pt.cells, Pt.slots] at X84 l84 y84 z84 st84 hQ84
  subst l84 y84 z84
  obtain ⟨rfl, N84q, K84, V84⟩ := hQ84
  have N84 := Fr.app N82 N84q
  have Z_ : n0 ≤ T84.heap.size := Nat.le_trans Z_ K84.1
  have V_a := V_a.keep K84 (ninS ne_a_t78 nin0)
  have O_ := O_.keep K84 (allS g_t78 all0)
  have Kp := Kp.trans K84 (allS (Or.inr sz_t78) all0)
  refine .st st84 ?_
  show OwnGo p e below s _ _ _ T84 (mkF m 23 _ [])
  have V84 : Arv Z T84.heap t78 kb78 .byte (8 : Int32) [(.int (own_lo c0)), (.int (own_hi c0)), (.int (own_lo c1)), (.int (own_hi c1)), (.int (own_lo c2)), (.int (own_hi c2)), (.int (0 : Int32)), (.int (0 : Int32))] (.int (0 : Int32)) := V84
  refine .iinc X84 hx (hb hby d20_23) rfl own_ka2_1 (L' := #[.val (.ref a), .val (.int (3 : Int32)), .val (.int (4 : Int32)), .val (.ref t78), .val (.int (2 : Int32))]) rfl ?_
  refine .iinc X84 hx (hb hby d20_26) rfl own_ka2_1 (L' := #[.val (.ref a), .val (.int (3 : Int32)), .val (.int (4 : Int32)), .val (.ref t78), .val (.int (3 : Int32))]) rfl ?_
  refine .goto (pc := 29) X84 hx 8 (hb hby d20_29) (by decide) (by decide) ?_
  refine .iload X84 hx (hb hby d20_8) rfl ?_
  refine .iloadN X84 hx (hb hby d20_10) rfl ?_
  refine .icmpNo X84 hx (hb hby d20_11) (tlt ((by decide) : (3 : Int32) < (4 : Int32))).2.1 ?_
  refine .aloadN X84 hx (hb hby d20_14) rfl rfl ?_
  refine .iload X84 hx (hb hby d20_15) rfl ?_
  refine .aloadN X84 hx (hb hby d20_17) rfl rfl ?_
  refine .iloadN X84 hx (hb hby d20_18) rfl ?_
  obtain ⟨cl85, Ar85, -, S85, -, H85, -⟩ := id V_a
  have hin85 : ¬ ((3 : Int32) < 0 ∨ cl85.slots.size ≤ ((3 : Int32)).toNatClampNeg) := inb_of S85 ⟨by decide, by decide⟩
  refine .st (fun _ => X84.caload hx (j := (3 : Int32)) (v := (.int c3)) (by first | exact Ar85.1 | (rw [rfl]; exact Ar85.1)) (State.isArrayOf_alike hZ.alike Ar85.2.1) Ar85.2.2 hin85 (H85.at hin85 rfl) (g := (mkF m 19 #[.val (.ref a), .val (.int (3 : Int32)), .val (.int (4 : Int32)), .val (.ref t78), .val (.int (3 : Int32))] [(.int (3 : Int32)), (.ref a), (.int (3 : Int32)), (.ref t78)])) rfl rfl (hb hby d20_19) _) ?_
  show OwnGo p e below s _ _ _ T84 (mkF m 20 _ [(.int c3), (.int (3 : Int32)), (.ref t78)])
  obtain ⟨_, _, ⟨T86, L86, k86, n86⟩, -, X86, ⟨Lc86, hQ86, l86, y86, z86⟩, st86⟩ := Jvm.LawKit.callS X84 hx (y := (⟨"java/lang/StringUTF16", "putChar", "([BII)V"⟩ : MethodName)) hown (mvT hZ (W_ hw 100 rfl)) (mvT hZ (W_ hw 101 rfl)) (mvT hZ (W_ hw 49 rfl)) (mvT hZ (W_ hw 102 rfl)) (by decide) (backOf (W := 0) (rmputC3 l Z a0 hw [] t78 kb78 c3 (8 : Int32) [(.int (own_lo c0)), (.int (own_hi c0)), (.int (own_lo c1)), (.int (own_hi c1)), (.int (own_lo c2)), (.int (own_hi c2)), (.int (0 : Int32)), (.int (0 : Int32))] T84.heap n0 Z_ O_ S_AD S_HB S_LB V84 g_t78 ⟨by decide, by decide⟩ ⟨by decide, by decide⟩ (Nat.le_of_ble_eq_true rfl)) hZ (W_ hw 102 rfl) (W_ hw 49 rfl) (by decide) (by decide)) (g := (mkF m 20 #[.val (.ref a), .val (.int (3 : Int32)), .val (.int (4 : Int32)), .val (.ref t78), .val (.int (3 : Int32))] [(.int c3), (.int (3 : Int32)), (.ref t78)])) rfl (by rw [hml]; rfl) (argsL := [(.ref t78), (.int (3 : Int32)), (.int c3)]) (rest := []) (lenOf pd_4 rfl) rfl (Nat.le_of_eq rfl) (hb hby d20_20) (fun _ _ => ⟨rfl, rfl, (by decide : 1 + 0 ≤ _), (by decide : 8 + 0 ≤ _)⟩)
  dsimp only [Pt.U, Pt.locs, Pt.cells, Pt.slots] at X86 l86 y86 z86 st86 hQ86
  subst l86 y86 z86
  obtain ⟨rfl, N86q, K86, V86⟩ := hQ86
  have N86 := Fr.app N84 N86q
  have Z_ : n0 ≤ T86.heap.size := Nat.le_trans Z_ K86.1
  have V_a := V_a.keep K86 (ninS ne_a_t78 nin0)
  have O_ := O_.keep K86 (allS g_t78 all0)
  have Kp := Kp.trans K86 (allS (Or.inr sz_t78) all0)
  refine .st st86 ?_
  show OwnGo p e below s _ _ _ T86 (mkF m 23 _ [])
  have V86 : Arv Z T86.heap t78 kb78 .byte (8 : Int32) [(.int (own_lo c0)), (.int (own_hi c0)), (.int (own_lo c1)), (.int (own_hi c1)), (.int (own_lo c2)), (.int (own_hi c2)), (.int (own_lo c3)), (.int (own_hi c3))] (.int (0 : Int32)) := V86
  refine .iinc X86 hx (hb hby d20_23) rfl own_ka3_1 (L' := #[.val (.ref a), .val (.int (4 : Int32)), .val (.int (4 : Int32)), .val (.ref t78), .val (.int (3 : Int32))]) rfl ?_
  refine .iinc X86 hx (hb hby d20_26) rfl own_ka3_1 (L' := #[.val (.ref a), .val (.int (4 : Int32)), .val (.int (4 : Int32)), .val (.ref t78), .val (.int (4 : Int32))]) rfl ?_
  refine .goto (pc := 29) X86 hx 8 (hb hby d20_29) (by decide) (by decide) ?_
  refine .iload X86 hx (hb hby d20_8) rfl ?_
  refine .iloadN X86 hx (hb hby d20_10) rfl ?_
  refine .icmpYes (pc := 11) X86 hx 32 (hb hby d20_11) (flt ((by decide) : ¬ ((4 : Int32) < (4 : Int32)))).2.1 (by decide) (by decide) ?_
  refine .aloadN X86 hx (hb hby d20_32) rfl rfl ?_
  exact OwnGo.ret X86 hx hret hlk rfl (Or.inr (Or.inr (Or.inr (Or.inr ⟨rfl, rfl, rfl⟩)))) (hb hby d20_33) (by show QtoB4 Z a ka c0 c1 c2 c3 h0 n0 _ T86.heap _; exact ⟨t78, kb78, rfl, N86, Kp, V86, sz_t78⟩) (by decide) (by decide)
def QcmpL2 (Z : State) (a : Addr) (ka : ClassId) (c0 : Int32) (c1 : Int32) (d : Addr) (kd : ClassId) (h0 : Heap) (n0 : Nat) (v : Option Value) (h : Heap) (L : List Loc) : Prop := v = some (.int (2 : Int32)) ∧ Fr n0 L ∧ Keep h0 h [d] ∧ Arv Z h d kd .byte (2 : Int32) [(.int c0.toInt8.toInt32), (.int c1.toInt8.toInt32)] (.int (0 : Int32))
theorem rmcmpL2 (l : Launch) (Z : State) (a0 : Array Value) (hw : own_tb a0 Z) (ws : List Jvm.Cond) (a : Addr) (ka : ClassId) (c0 : Int32) (c1 : Int32) (d : Addr) (kd : ClassId) (h0 : Heap) (n0 : Nat) (Z0 : n0 ≤ h0.size) (V_a : Arv Z h0 a ka .char (2 : Int32) [(.int c0), (.int c1)] (.int (0 : Int32))) (V_d : Arv Z h0 d kd .byte (2 : Int32) [(.int (0 : Int32)), (.int (0 : Int32))] (.int (0 : Int32))) (g_d : n0 ≤ d) (ne_a_d : a ≠ d) (hl : ¬ (255 : Int32) < c0 ∧ ¬ (255 : Int32) < c1) :
    OwnMet l (⟨"java/lang/StringUTF16", "compress", "([CI[BII)I"⟩ : MethodName) jdk_52_method_21_code 7 (some .int) ws ({ frames := 0, cells := 0, slots := 0, locals := 0 } : Room) #[(.ref a), (.int (0 : Int32)), (.ref d), (.int (0 : Int32)), (.int (2 : Int32))] Z h0 (QcmpL2 Z a ka c0 c1 d kd h0 n0) := by
  refine own_met (plainFor_of_name pn_23) ?_
  intro p e s m below meth c s₁ X0 hx hby hml hret hlk hown hnm hZ e0
  have N0 := Fr.nil n0
  have Z_ := Z0
  refine OwnGo.cast (ef_cmpL2 m a (0 : Int32) d (0 : Int32) (2 : Int32)) ?_
  show OwnGo p e below s _ _ _ s₁ (mkF m 0 _ [])
  have Kp : Keep h0 h0 [d] := Keep.refl h0 [d]
  refine .iconst X0 hx (hb hby d10_0) own_ki0 ?_
  refine .istore X0 hx (hb hby d10_1) (L' := #[.val (.ref a), .val (.int (0 : Int32)), .val (.ref d), .val (.int (0 : Int32)), .val (.int (2 : Int32)), .val (.int (0 : Int32)), .unset]) rfl ?_
  refine .iload X0 hx (hb hby d10_3) rfl ?_
  refine .iload X0 hx (hb hby d10_5) rfl ?_
  refine .icmpNo X0 hx (hb hby d10_7) (tlt ((by decide) : (0 : Int32) < (2 : Int32))).2.1 ?_
  refine .aloadN X0 hx (hb hby d10_10) rfl rfl ?_
  refine .iloadN X0 hx (hb hby d10_11) rfl ?_
  obtain ⟨cl87, Ar87, -, S87, -, H87, -⟩ := id V_a
  have hin87 : ¬ ((0 : Int32) < 0 ∨ cl87.slots.size ≤ ((0 : Int32)).toNatClampNeg) := inb_of S87 ⟨by decide, by decide⟩
  refine .st (fun _ => X0.caload hx (j := (0 : Int32)) (v := (.int c0)) (by first | exact Ar87.1 | (rw [e0]; exact Ar87.1)) (State.isArrayOf_alike hZ.alike Ar87.2.1) Ar87.2.2 hin87 (H87.at hin87 rfl) (g := (mkF m 12 #[.val (.ref a), .val (.int (0 : Int32)), .val (.ref d), .val (.int (0 : Int32)), .val (.int (2 : Int32)), .val (.int (0 : Int32)), .unset] [(.int (0 : Int32)), (.ref a)])) rfl rfl (hb hby d10_12) _) ?_
  show OwnGo p e below s _ _ _ s₁ (mkF m 13 _ [(.int c0)])
  refine .istore X0 hx (hb hby d10_13) (L' := #[.val (.ref a), .val (.int (0 : Int32)), .val (.ref d), .val (.int (0 : Int32)), .val (.int (2 : Int32)), .val (.int (0 : Int32)), .val (.int c0)]) rfl ?_
  refine .iload X0 hx (hb hby d10_15) rfl ?_
  refine .sipush X0 hx (hb hby d10_17) own_ks255 ?_
  refine .icmpYes (pc := 20) X0 hx 26 (hb hby d10_20) (flt (hl.1 : ¬ ((255 : Int32) < c0))).2.2.2 (by decide) (by decide) ?_
  refine .aloadN X0 hx (hb hby d10_26) rfl rfl ?_
  refine .iloadN X0 hx (hb hby d10_27) rfl ?_
  refine .iload X0 hx (hb hby d10_28) rfl ?_
  refine .st (fun _ => XS.i2b X0.here hx rfl (hb hby d10_30) rfl) ?_
  show OwnGo p e below s _ _ _ s₁ (mkF m 31 _ [(.int (c0.toInt8.toInt32)), (.int (0 : Int32)), (.ref d)])
  obtain ⟨cl88, Ar88, q88, S88, N88, H88, G88⟩ := id V_d
  have hin88 : ¬ ((0 : Int32) < 0 ∨ cl88.slots.size ≤ ((0 : Int32)).toNatClampNeg) := inb_of S88 ⟨by decide, by decide⟩
  obtain ⟨T88, h88, X88, e88, W88, st88⟩ := stB X0 hx hZ e0 Ar88 (j := (0 : Int32)) hin88 (g := (mkF m 31 #[.val (.ref a), .val (.int (0 : Int32)), .val (.ref d), .val (.int (0 : Int32)), .val (.int (2 : Int32)), .val (.int (0 : Int32)), .val (.int c0)] [(.int (c0.toInt8.toInt32)), (.int (0 : Int32)), (.ref d)])) rfl rfl (hb hby d10_31)
  have V_d : Arv Z h88 d kd .byte (2 : Int32) [(.int (nar .byte (c0.toInt8.toInt32))), (.int (0 : Int32))] (.int (0 : Int32)) := Arv.set Ar88 q88 S88 N88 H88 G88 (fits_nar_byte _) W88 0 rfl (Nat.le_of_ble_eq_true rfl)
  rw [show nar .byte (c0.toInt8.toInt32) = (c0.toInt8.toInt32) from (own_nb _)] at V_d
  have V_a := V_a.other W88 ne_a_d
  have Kp := Kp.wr W88 (Or.inl (List.mem_of_getElem? (i := 0) rfl))
  have N88 := Fr.snoc X88 N0 g_d
  have Z_ : n0 ≤ h88.size := by rw [W88.size]; exact Z_
  refine .st st88 ?_
  show OwnGo p e below s _ _ _ T88 (mkF m 32 _ [])
  refine .iinc X88 hx (hb hby d10_32) rfl own_ka0_1 (L' := #[.val (.ref a), .val (.int (1 : Int32)), .val (.ref d), .val (.int (0 : Int32)), .val (.int (2 : Int32)), .val (.int (0 : Int32)), .val (.int c0)]) rfl ?_
  refine .iinc X88 hx (hb hby d10_35) rfl own_ka0_1 (L' := #[.val (.ref a), .val (.int (1 : Int32)), .val (.ref d), .val (.int (1 : Int32)), .val (.int (2 : Int32)), .val (.int (0 : Int32)), .val (.int c0)]) rfl ?_
  refine .iinc X88 hx (hb hby d10_38) rfl own_ka0_1 (L' := #[.val (.ref a), .val (.int (1 : Int32)), .val (.ref d), .val (.int (1 : Int32)), .val (.int (2 : Int32)), .val (.int (1 : Int32)), .val (.int c0)]) rfl ?_
  refine .goto (pc := 41) X88 hx 3 (hb hby d10_41) (by decide) (by decide) ?_
  refine .iload X88 hx (hb hby d10_3) rfl ?_
  refine .iload X88 hx (hb hby d10_5) rfl ?_
  refine .icmpNo X88 hx (hb hby d10_7) (tlt ((by decide) : (1 : Int32) < (2 : Int32))).2.1 ?_
  refine .aloadN X88 hx (hb hby d10_10) rfl rfl ?_
  refine .iloadN X88 hx (hb hby d10_11) rfl ?_
  obtain ⟨cl89, Ar89, -, S89, -, H89, -⟩ := id V_a
  have hin89 : ¬ ((1 : Int32) < 0 ∨ cl89.slots.size ≤ ((1 : Int32)).toNatClampNeg) := inb_of S89 ⟨by decide, by decide⟩
  refine .st (fun _ => X88.caload hx (j := (1 : Int32)) (v := (.int c1)) (by first | exact Ar89.1 | (rw [e88]; exact Ar89.1)) (State.isArrayOf_alike hZ.alike Ar89.2.1) Ar89.2.2 hin89 (H89.at hin89 rfl) (g := (mkF m 12 #[.val (.ref a), .val (.int (1 : Int32)), .val (.ref d), .val (.int (1 : Int32)), .val (.int (2 : Int32)), .val (.int (1 : Int32)), .val (.int c0)] [(.int (1 : Int32)), (.ref a)])) rfl rfl (hb hby d10_12) _) ?_
  show OwnGo p e below s _ _ _ T88 (mkF m 13 _ [(.int c1)])
  refine .istore X88 hx (hb hby d10_13) (L' := #[.val (.ref a), .val (.int (1 : Int32)), .val (.ref d), .val (.int (1 : Int32)), .val (.int (2 : Int32)), .val (.int (1 : Int32)), .val (.int c1)]) rfl ?_
  refine .iload X88 hx (hb hby d10_15) rfl ?_
  refine .sipush X88 hx (hb hby d10_17) own_ks255 ?_
  refine .icmpYes (pc := 20) X88 hx 26 (hb hby d10_20) (flt (hl.2 : ¬ ((255 : Int32) < c1))).2.2.2 (by decide) (by decide) ?_
  refine .aloadN X88 hx (hb hby d10_26) rfl rfl ?_
  refine .iloadN X88 hx (hb hby d10_27) rfl ?_
  refine .iload X88 hx (hb hby d10_28) rfl ?_
  refine .st (fun _ => XS.i2b X88.here hx rfl (hb hby d10_30) rfl) ?_
  show OwnGo p e below s _ _ _ T88 (mkF m 31 _ [(.int (c1.toInt8.toInt32)), (.int (1 : Int32)), (.ref d)])
  obtain ⟨cl90, Ar90, q90, S90, N90, H90, G90⟩ := id V_d
  have hin90 : ¬ ((1 : Int32) < 0 ∨ cl90.slots.size ≤ ((1 : Int32)).toNatClampNeg) := inb_of S90 ⟨by decide, by decide⟩
  obtain ⟨T90, h90, X90, e90, W90, st90⟩ := stB X88 hx hZ e88 Ar90 (j := (1 : Int32)) hin90 (g := (mkF m 31 #[.val (.ref a), .val (.int (1 : Int32)), .val (.ref d), .val (.int (1 : Int32)), .val (.int (2 : Int32)), .val (.int (1 : Int32)), .val (.int c1)] [(.int (c1.toInt8.toInt32)), (.int (1 : Int32)), (.ref d)])) rfl rfl (hb hby d10_31)
  have V_d : Arv Z h90 d kd .byte (2 : Int32) [(.int (c0.toInt8.toInt32)), (.int (nar .byte (c1.toInt8.toInt32)))] (.int (0 : Int32)) := Arv.set Ar90 q90 S90 N90 H90 G90 (fits_nar_byte _) W90 1 rfl (Nat.le_of_ble_eq_true rfl)
  rw [show nar .byte (c1.toInt8.toInt32) = (c1.toInt8.toInt32) from (own_nb _)] at V_d
  have V_a := V_a.other W90 ne_a_d
  have Kp := Kp.wr W90 (Or.inl (List.mem_of_getElem? (i := 0) rfl))
  have N90 := Fr.snoc X90 N88 g_d
  have Z_ : n0 ≤ h90.size := by rw [W90.size]; exact Z_
  refine .st st90 ?_
  show OwnGo p e below s _ _ _ T90 (mkF m 32 _ [])
  refine .iinc X90 hx (hb hby d10_32) rfl own_ka1_1 (L' := #[.val (.ref a), .val (.int (2 : Int32)), .val (.ref d), .val (.int (1 : Int32)), .val (.int (2 : Int32)), .val (.int (1 : Int32)), .val (.int c1)]) rfl ?_
  refine .iinc X90 hx (hb hby d10_35) rfl own_ka1_1 (L' := #[.val (.ref a), .val (.int (2 : Int32)), .val (.ref d), .val (.int (2 : Int32)), .val (.int (2 : Int32)), .val (.int (1 : Int32)), .val (.int c1)]) rfl ?_
  refine .iinc X90 hx (hb hby d10_38) rfl own_ka1_1 (L' := #[.val (.ref a), .val (.int (2 : Int32)), .val (.ref d), .val (.int (2 : Int32)), .val (.int (2 : Int32)), .val (.int (2 : Int32)), .val (.int c1)]) rfl ?_
  refine .goto (pc := 41) X90 hx 3 (hb hby d10_41) (by decide) (by decide) ?_
  refine .iload X90 hx (hb hby d10_3) rfl ?_
  refine .iload X90 hx (hb hby d10_5) rfl ?_
  refine .icmpYes (pc := 7) X90 hx 44 (hb hby d10_7) (flt ((by decide) : ¬ ((2 : Int32) < (2 : Int32)))).2.1 (by decide) (by decide) ?_
  refine .iload X90 hx (hb hby d10_44) rfl ?_
  exact OwnGo.ret X90 hx hret hlk rfl (Or.inl ⟨rfl, Or.inl rfl, _, rfl⟩) (hb hby d10_46) (by show QcmpL2 Z a ka c0 c1 d kd h0 n0 _ T90.heap _; rw [e90]; exact ⟨rfl, N90, Kp, V_d⟩) (by decide) (by decide)
def QcmpU2 (Z : State) (a : Addr) (ka : ClassId) (c0 : Int32) (c1 : Int32) (d : Addr) (kd : ClassId) (h0 : Heap) (n0 : Nat) (v : Option Value) (h : Heap) (L : List Loc) : Prop := ∃ k : Int32, v = some (.int k) ∧ Fr n0 L ∧ Keep h0 h [d] ∧ ((k = (0 : Int32) ∧ (255 : Int32) < c0) ∨ (k = (1 : Int32) ∧ (255 : Int32) < c1))
theorem rmcmpU2 (l : Launch) (Z : State) (a0 : Array Value) (hw : own_tb a0 Z) (ws : List Jvm.Cond) (a : Addr) (ka : ClassId) (c0 : Int32) (c1 : Int32) (d : Addr) (kd : ClassId) (h0 : Heap) (n0 : Nat) (Z0 : n0 ≤ h0.size) (V_a : Arv Z h0 a ka .char (2 : Int32) [(.int c0), (.int c1)] (.int (0 : Int32))) (V_d : Arv Z h0 d kd .byte (2 : Int32) [(.int (0 : Int32)), (.int (0 : Int32))] (.int (0 : Int32))) (g_d : n0 ≤ d) (ne_a_d : a ≠ d) (hb_ : (255 : Int32) < c0 ∨ (255 : Int32) < c1) :
    OwnMet l (⟨"java/lang/StringUTF16", "compress", "([CI[BII)I"⟩ : MethodName) jdk_52_method_21_code 7 (some .int) ws ({ frames := 0, cells := 0, slots := 0, locals := 0 } : Room) #[(.ref a), (.int (0 : Int32)), (.ref d), (.int (0 : Int32)), (.int (2 : Int32))] Z h0 (QcmpU2 Z a ka c0 c1 d kd h0 n0) := by
  refine own_met (plainFor_of_name pn_23) ?_
  intro p e s m below meth c s₁ X0 hx hby hml hret hlk hown hnm hZ e0
  have N0 := Fr.nil n0
  have Z_ := Z0
  refine OwnGo.cast (ef_cmpU2 m a (0 : Int32) d (0 : Int32) (2 : Int32)) ?_
  show OwnGo p e below s _ _ _ s₁ (mkF m 0 _ [])
  have Kp : Keep h0 h0 [d] := Keep.refl h0 [d]
  refine .iconst X0 hx (hb hby d10_0) own_ki0 ?_
  refine .istore X0 hx (hb hby d10_1) (L' := #[.val (.ref a), .val (.int (0 : Int32)), .val (.ref d), .val (.int (0 : Int32)), .val (.int (2 : Int32)), .val (.int (0 : Int32)), .unset]) rfl ?_
  refine .iload X0 hx (hb hby d10_3) rfl ?_
  refine .iload X0 hx (hb hby d10_5) rfl ?_
  refine .icmpNo X0 hx (hb hby d10_7) (tlt ((by decide) : (0 : Int32) < (2 : Int32))).2.1 ?_
  refine .aloadN X0 hx (hb hby d10_10) rfl rfl ?_
  refine .iloadN X0 hx (hb hby d10_11) rfl ?_
  obtain ⟨cl91, Ar91, -, S91, -, H91, -⟩ := id V_a
  have hin91 : ¬ ((0 : Int32) < 0 ∨ cl91.slots.size ≤ ((0 : Int32)).toNatClampNeg) := inb_of S91 ⟨by decide, by decide⟩
  refine .st (fun _ => X0.caload hx (j := (0 : Int32)) (v := (.int c0)) (by first | exact Ar91.1 | (rw [e0]; exact Ar91.1)) (State.isArrayOf_alike hZ.alike Ar91.2.1) Ar91.2.2 hin91 (H91.at hin91 rfl) (g := (mkF m 12 #[.val (.ref a), .val (.int (0 : Int32)), .val (.ref d), .val (.int (0 : Int32)), .val (.int (2 : Int32)), .val (.int (0 : Int32)), .unset] [(.int (0 : Int32)), (.ref a)])) rfl rfl (hb hby d10_12) _) ?_
  show OwnGo p e below s _ _ _ s₁ (mkF m 13 _ [(.int c0)])
  refine .istore X0 hx (hb hby d10_13) (L' := #[.val (.ref a), .val (.int (0 : Int32)), .val (.ref d), .val (.int (0 : Int32)), .val (.int (2 : Int32)), .val (.int (0 : Int32)), .val (.int c0)]) rfl ?_
  refine .iload X0 hx (hb hby d10_15) rfl ?_
  refine .sipush X0 hx (hb hby d10_17) own_ks255 ?_
  by_cases q0 : (255 : Int32) < c0
  · refine .icmpNo X0 hx (hb hby d10_20) (tlt (q0 : (255 : Int32) < c0)).2.2.2 ?_
    refine .iload X0 hx (hb hby d10_23) rfl ?_
    exact OwnGo.ret X0 hx hret hlk rfl (Or.inl ⟨rfl, Or.inl rfl, _, rfl⟩) (hb hby d10_25) (by show QcmpU2 Z a ka c0 c1 d kd h0 n0 _ s₁.heap _; rw [e0]; exact ⟨_, rfl, N0, Kp, (Or.inl ⟨rfl, q0⟩)⟩) (by decide) (by decide)
  · refine .icmpYes (pc := 20) X0 hx 26 (hb hby d10_20) (flt (q0 : ¬ ((255 : Int32) < c0))).2.2.2 (by decide) (by decide) ?_
    refine .aloadN X0 hx (hb hby d10_26) rfl rfl ?_
    refine .iloadN X0 hx (hb hby d10_27) rfl ?_
    refine .iload X0 hx (hb hby d10_28) rfl ?_
    refine .st (fun _ => XS.i2b X0.here hx rfl (hb hby d10_30) rfl) ?_
    show OwnGo p e below s _ _ _ s₁ (mkF m 31 _ [(.int (c0.toInt8.toInt32)), (.int (0 : Int32)), (.ref d)])
    obtain ⟨cl92, Ar92, q92, S92, N92, H92, G92⟩ := id V_d
    have hin92 : ¬ ((0 : Int32) < 0 ∨ cl92.slots.size ≤ ((0 : Int32)).toNatClampNeg) := inb_of S92 ⟨by decide, by decide⟩
    obtain ⟨T92, h92, X92, e92, W92, st92⟩ := stB X0 hx hZ e0 Ar92 (j := (0 : Int32)) hin92 (g := (mkF m 31 #[.val (.ref a), .val (.int (0 : Int32)), .val (.ref d), .val (.int (0 : Int32)), .val (.int (2 : Int32)), .val (.int (0 : Int32)), .val (.int c0)] [(.int (c0.toInt8.toInt32)), (.int (0 : Int32)), (.ref d)])) rfl rfl (hb hby d10_31)
    have V_d : Arv Z h92 d kd .byte (2 : Int32) [(.int (nar .byte (c0.toInt8.toInt32))), (.int (0 : Int32))] (.int (0 : Int32)) := Arv.set Ar92 q92 S92 N92 H92 G92 (fits_nar_byte _) W92 0 rfl (Nat.le_of_ble_eq_true rfl)
    rw [show nar .byte (c0.toInt8.toInt32) = (c0.toInt8.toInt32) from (own_nb _)] at V_d
    have V_a := V_a.other W92 ne_a_d
    have Kp := Kp.wr W92 (Or.inl (List.mem_of_getElem? (i := 0) rfl))
    have N92 := Fr.snoc X92 N0 g_d
    have Z_ : n0 ≤ h92.size := by rw [W92.size]; exact Z_
    refine .st st92 ?_
    show OwnGo p e below s _ _ _ T92 (mkF m 32 _ [])
    refine .iinc X92 hx (hb hby d10_32) rfl own_ka0_1 (L' := #[.val (.ref a), .val (.int (1 : Int32)), .val (.ref d), .val (.int (0 : Int32)), .val (.int (2 : Int32)), .val (.int (0 : Int32)), .val (.int c0)]) rfl ?_
    refine .iinc X92 hx (hb hby d10_35) rfl own_ka0_1 (L' := #[.val (.ref a), .val (.int (1 : Int32)), .val (.ref d), .val (.int (1 : Int32)), .val (.int (2 : Int32)), .val (.int (0 : Int32)), .val (.int c0)]) rfl ?_
    refine .iinc X92 hx (hb hby d10_38) rfl own_ka0_1 (L' := #[.val (.ref a), .val (.int (1 : Int32)), .val (.ref d), .val (.int (1 : Int32)), .val (.int (2 : Int32)), .val (.int (1 : Int32)), .val (.int c0)]) rfl ?_
    refine .goto (pc := 41) X92 hx 3 (hb hby d10_41) (by decide) (by decide) ?_
    refine .iload X92 hx (hb hby d10_3) rfl ?_
    refine .iload X92 hx (hb hby d10_5) rfl ?_
    refine .icmpNo X92 hx (hb hby d10_7) (tlt ((by decide) : (1 : Int32) < (2 : Int32))).2.1 ?_
    refine .aloadN X92 hx (hb hby d10_10) rfl rfl ?_
    refine .iloadN X92 hx (hb hby d10_11) rfl ?_
    obtain ⟨cl93, Ar93, -, S93, -, H93, -⟩ := id V_a
    have hin93 : ¬ ((1 : Int32) < 0 ∨ cl93.slots.size ≤ ((1 : Int32)).toNatClampNeg) := inb_of S93 ⟨by decide, by decide⟩
    refine .st (fun _ => X92.caload hx (j := (1 : Int32)) (v := (.int c1)) (by first | exact Ar93.1 | (rw [e92]; exact Ar93.1)) (State.isArrayOf_alike hZ.alike Ar93.2.1) Ar93.2.2 hin93 (H93.at hin93 rfl) (g := (mkF m 12 #[.val (.ref a), .val (.int (1 : Int32)), .val (.ref d), .val (.int (1 : Int32)), .val (.int (2 : Int32)), .val (.int (1 : Int32)), .val (.int c0)] [(.int (1 : Int32)), (.ref a)])) rfl rfl (hb hby d10_12) _) ?_
    show OwnGo p e below s _ _ _ T92 (mkF m 13 _ [(.int c1)])
    refine .istore X92 hx (hb hby d10_13) (L' := #[.val (.ref a), .val (.int (1 : Int32)), .val (.ref d), .val (.int (1 : Int32)), .val (.int (2 : Int32)), .val (.int (1 : Int32)), .val (.int c1)]) rfl ?_
    refine .iload X92 hx (hb hby d10_15) rfl ?_
    refine .sipush X92 hx (hb hby d10_17) own_ks255 ?_
    by_cases q1 : (255 : Int32) < c1
    · refine .icmpNo X92 hx (hb hby d10_20) (tlt (q1 : (255 : Int32) < c1)).2.2.2 ?_
      refine .iload X92 hx (hb hby d10_23) rfl ?_
      exact OwnGo.ret X92 hx hret hlk rfl (Or.inl ⟨rfl, Or.inl rfl, _, rfl⟩) (hb hby d10_25) (by show QcmpU2 Z a ka c0 c1 d kd h0 n0 _ T92.heap _; rw [e92]; exact ⟨_, rfl, N92, Kp, (Or.inr ⟨rfl, q1⟩)⟩) (by decide) (by decide)
    · refine .icmpYes (pc := 20) X92 hx 26 (hb hby d10_20) (flt (q1 : ¬ ((255 : Int32) < c1))).2.2.2 (by decide) (by decide) ?_
      exact absurd hb_ (by simp only [not_or]; exact ⟨q0, q1⟩)
def QcpL2 (Z : State) (a : Addr) (ka : ClassId) (c0 : Int32) (c1 : Int32) (h0 : Heap) (n0 : Nat) (v : Option Value) (h : Heap) (L : List Loc) : Prop := ∃ (t : Addr) (kb : ClassId), v = some (.ref t) ∧ Fr n0 L ∧ Keep h0 h [] ∧ Arv Z h t kb .byte (2 : Int32) [(.int c0.toInt8.toInt32), (.int c1.toInt8.toInt32)] (.int (0 : Int32)) ∧ h0.size ≤ t
theorem rmcpL2 (l : Launch) (Z : State) (a0 : Array Value) (hw : own_tb a0 Z) (ws : List Jvm.Cond) (a : Addr) (ka : ClassId) (c0 : Int32) (c1 : Int32) (h0 : Heap) (n0 : Nat) (Z0 : n0 ≤ h0.size) (V_a : Arv Z h0 a ka .char (2 : Int32) [(.int c0), (.int c1)] (.int (0 : Int32))) (hl : ¬ (255 : Int32) < c0 ∧ ¬ (255 : Int32) < c1) :
    OwnMet l (⟨"java/lang/StringUTF16", "compress", "([CII)[B"⟩ : MethodName) jdk_52_method_16_code 6 (some (.array .byte)) ws ({ frames := 1, cells := 1, slots := 2, locals := 18 } : Room) #[(.ref a), (.int (0 : Int32)), (.int (2 : Int32))] Z h0 (QcpL2 Z a ka c0 c1 h0 n0) := by
  refine own_met (plainFor_of_name pn_23) ?_
  intro p e s m below meth c s₁ X0 hx hby hml hret hlk hown hnm hZ e0
  have N0 := Fr.nil n0
  have Z_ := Z0
  refine OwnGo.cast (ef_cpL2 m a (0 : Int32) (2 : Int32)) ?_
  show OwnGo p e below s _ _ _ s₁ (mkF m 0 _ [])
  have Kp : Keep h0 h0 [] := Keep.refl h0 []
  refine .iloadN X0 hx (hb hby d9_0) rfl ?_
  obtain ⟨T94, h94, k94, X94, e94, E94, A94, Ex94, st94⟩ := newPE X0 hx hZ (W_ hw 20 rfl) e0 (g := (mkF m 1 #[.val (.ref a), .val (.int (0 : Int32)), .val (.int (2 : Int32)), .unset, .unset, .unset] [(.int (2 : Int32))])) rfl (hb hby d9_1) rfl (by decide) (cap := 2) (by decide) (by decide) (by decide) (by decide) (ad := "[B") (by decide)
  obtain ⟨b94, g94⟩ : ∃ z, z = h0.size := ⟨_, rfl⟩
  rw [← g94] at A94 Ex94 st94
  have ne_a_b94 : a ≠ b94 := Nat.ne_of_lt (Nat.lt_of_lt_of_le V_a.lt (Nat.le_of_eq g94.symm))
  have g_b94 : n0 ≤ b94 := Nat.le_trans Z_ (Nat.le_of_eq g94.symm)
  have sz_b94 : h0.size ≤ b94 := Nat.le_trans Kp.1 (Nat.le_of_eq g94.symm)
  have V_a := V_a.ext E94
  have Kp := Kp.ext E94
  have Z_ : n0 ≤ h94.size := Nat.le_trans Z_ E94.1
  have V_b94 : Arv Z h94 b94 k94 .byte (2 : Int32) [(.int (0 : Int32)), (.int (0 : Int32))] (.int (0 : Int32)) := (Arv.new A94 (by decide)).pad (pad_rep [] (.int (0 : Int32)) 2)
  have E_b94 := Ex94
  refine .st st94 ?_
  show OwnGo p e below s _ _ _ T94 (mkF m 3 _ [(.ref b94)])
  refine .astoreN X94 hx (hb hby d9_3) rfl (L' := #[.val (.ref a), .val (.int (0 : Int32)), .val (.int (2 : Int32)), .val (.ref b94), .unset, .unset]) rfl ?_
  refine .aloadN X94 hx (hb hby d9_4) rfl rfl ?_
  refine .iloadN X94 hx (hb hby d9_5) rfl ?_
  refine .aloadN X94 hx (hb hby d9_6) rfl rfl ?_
  refine .iconst X94 hx (hb hby d9_7) own_ki0 ?_
  refine .iloadN X94 hx (hb hby d9_8) rfl ?_
  obtain ⟨_, _, ⟨T95, L95, k95, n95⟩, -, X95, ⟨Lc95, hQ95, l95, y95, z95⟩, st95⟩ := Jvm.LawKit.callS X94 hx (y := (⟨"java/lang/StringUTF16", "compress", "([CI[BII)I"⟩ : MethodName)) hown (mvT hZ (W_ hw 51 rfl)) (mvT hZ (W_ hw 52 rfl)) (mvT hZ (W_ hw 49 rfl)) (mvT hZ (W_ hw 53 rfl)) (by decide) (backOf (W := 0) (rmcmpL2 l Z a0 hw [] a ka c0 c1 b94 k94 h94 n0 Z_ V_a V_b94 g_b94 ne_a_b94 hl) hZ (W_ hw 53 rfl) (W_ hw 49 rfl) (by decide) (by decide)) (g := (mkF m 9 #[.val (.ref a), .val (.int (0 : Int32)), .val (.int (2 : Int32)), .val (.ref b94), .unset, .unset] [(.int (2 : Int32)), (.int (0 : Int32)), (.ref b94), (.int (0 : Int32)), (.ref a)])) rfl (by rw [hml]; rfl) (argsL := [(.ref a), (.int (0 : Int32)), (.ref b94), (.int (0 : Int32)), (.int (2 : Int32))]) (rest := []) (lenOf pd_7 rfl) rfl (Nat.le_of_eq rfl) (hb hby d9_9) (fun _ _ => ⟨rfl, e94, (by decide : 1 + 0 ≤ _), (by decide : 2 + 0 ≤ _)⟩)
  dsimp only [Pt.U, Pt.locs, Pt.cells, Pt.slots] at X95 l95 y95 z95 st95 hQ95
  subst l95 y95 z95
  obtain ⟨rfl, N95q, K95, V95⟩ := hQ95
  have N95 := Fr.app N0 N95q
  have Z_ : n0 ≤ T95.heap.size := Nat.le_trans Z_ K95.1
  have V_a := V_a.keep K95 (ninS ne_a_b94 nin0)
  have E_b94 := E_b94.keep K95
  have Kp := Kp.trans K95 (allS (Or.inr sz_b94) all0)
  refine .st st95 ?_
  show OwnGo p e below s _ _ _ T95 (mkF m 12 _ [(.int (2 : Int32))])
  refine .istore X95 hx (hb hby d9_12) (L' := #[.val (.ref a), .val (.int (0 : Int32)), .val (.int (2 : Int32)), .val (.ref b94), .val (.int (2 : Int32)), .unset]) rfl ?_
  refine .iload X95 hx (hb hby d9_14) rfl ?_
  refine .iloadN X95 hx (hb hby d9_16) rfl ?_
  refine .icmpYes (pc := 17) X95 hx 57 (hb hby d9_17) (teq ((by decide) : (2 : Int32) = (2 : Int32))).1 (by decide) (by decide) ?_
  refine .aloadN X95 hx (hb hby d9_57) rfl rfl ?_
  exact OwnGo.ret X95 hx hret hlk rfl (Or.inr (Or.inr (Or.inr (Or.inr ⟨rfl, rfl, rfl⟩)))) (hb hby d9_58) (by show QcpL2 Z a ka c0 c1 h0 n0 _ T95.heap _; exact ⟨b94, k94, rfl, N95, Kp, V95, sz_b94⟩) (by decide) (by decide)
def QcpU2 (Z : State) (a : Addr) (ka : ClassId) (c0 : Int32) (c1 : Int32) (h0 : Heap) (n0 : Nat) (v : Option Value) (h : Heap) (L : List Loc) : Prop := ∃ (t : Addr) (kb : ClassId), v = some (.ref t) ∧ Fr n0 L ∧ Keep h0 h [] ∧ Arv Z h t kb .byte (4 : Int32) [(.int (own_lo c0)), (.int (own_hi c0)), (.int (own_lo c1)), (.int (own_hi c1))] (.int (0 : Int32)) ∧ h0.size ≤ t
theorem rmcpU2 (l : Launch) (Z : State) (a0 : Array Value) (hw : own_tb a0 Z) (ws : List Jvm.Cond) (a : Addr) (ka : ClassId) (c0 : Int32) (c1 : Int32) (h0 : Heap) (n0 : Nat) (Z0 : n0 ≤ h0.size) (O_ : Old Z n0 h0) (S_AD : Sta Z Z.heap "java/lang/StringUTF16" "$assertionsDisabled" "Z" (.int (1 : Int32))) (S_HB : Sta Z Z.heap "java/lang/StringUTF16" "HI_BYTE_SHIFT" "I" (.int (0 : Int32))) (S_LB : Sta Z Z.heap "java/lang/StringUTF16" "LO_BYTE_SHIFT" "I" (.int (8 : Int32))) (V_a : Arv Z h0 a ka .char (2 : Int32) [(.int c0), (.int c1)] (.int (0 : Int32))) (hb_ : (255 : Int32) < c0 ∨ (255 : Int32) < c1) (P_c0 : own_u c0) (P_c1 : own_u c1) :
    OwnMet l (⟨"java/lang/StringUTF16", "compress", "([CII)[B"⟩ : MethodName) jdk_52_method_16_code 6 (some (.array .byte)) ws ({ frames := 3, cells := 2, slots := 6, locals := 40 } : Room) #[(.ref a), (.int (0 : Int32)), (.int (2 : Int32))] Z h0 (QcpU2 Z a ka c0 c1 h0 n0) := by
  refine own_met (plainFor_of_name pn_23) ?_
  intro p e s m below meth c s₁ X0 hx hby hml hret hlk hown hnm hZ e0
  have N0 := Fr.nil n0
  have Z_ := Z0
  refine OwnGo.cast (ef_cpU2 m a (0 : Int32) (2 : Int32)) ?_
  show OwnGo p e below s _ _ _ s₁ (mkF m 0 _ [])
  have Kp : Keep h0 h0 [] := Keep.refl h0 []
  refine .iloadN X0 hx (hb hby d9_0) rfl ?_
  obtain ⟨T96, h96, k96, X96, e96, E96, A96, Ex96, st96⟩ := newPE X0 hx hZ (W_ hw 20 rfl) e0 (g := (mkF m 1 #[.val (.ref a), .val (.int (0 : Int32)), .val (.int (2 : Int32)), .unset, .unset, .unset] [(.int (2 : Int32))])) rfl (hb hby d9_1) rfl (by decide) (cap := 2) (by decide) (by decide) (by decide) (by decide) (ad := "[B") (by decide)
  obtain ⟨b96, g96⟩ : ∃ z, z = h0.size := ⟨_, rfl⟩
  rw [← g96] at A96 Ex96 st96
  have ne_a_b96 : a ≠ b96 := Nat.ne_of_lt (Nat.lt_of_lt_of_le V_a.lt (Nat.le_of_eq g96.symm))
  have g_b96 : n0 ≤ b96 := Nat.le_trans Z_ (Nat.le_of_eq g96.symm)
  have sz_b96 : h0.size ≤ b96 := Nat.le_trans Kp.1 (Nat.le_of_eq g96.symm)
  have V_a := V_a.ext E96
  have O_ := O_.ext E96
  have Kp := Kp.ext E96
  have Z_ : n0 ≤ h96.size := Nat.le_trans Z_ E96.1
  have V_b96 : Arv Z h96 b96 k96 .byte (2 : Int32) [(.int (0 : Int32)), (.int (0 : Int32))] (.int (0 : Int32)) := (Arv.new A96 (by decide)).pad (pad_rep [] (.int (0 : Int32)) 2)
  have E_b96 := Ex96
  refine .st st96 ?_
  show OwnGo p e below s _ _ _ T96 (mkF m 3 _ [(.ref b96)])
  refine .astoreN X96 hx (hb hby d9_3) rfl (L' := #[.val (.ref a), .val (.int (0 : Int32)), .val (.int (2 : Int32)), .val (.ref b96), .unset, .unset]) rfl ?_
  refine .aloadN X96 hx (hb hby d9_4) rfl rfl ?_
  refine .iloadN X96 hx (hb hby d9_5) rfl ?_
  refine .aloadN X96 hx (hb hby d9_6) rfl rfl ?_
  refine .iconst X96 hx (hb hby d9_7) own_ki0 ?_
  refine .iloadN X96 hx (hb hby d9_8) rfl ?_
  obtain ⟨_, _, ⟨T97, L97, k97, n97⟩, -, X97, ⟨Lc97, hQ97, l97, y97, z97⟩, st97⟩ := Jvm.LawKit.callS X96 hx (y := (⟨"java/lang/StringUTF16", "compress", "([CI[BII)I"⟩ : MethodName)) hown (mvT hZ (W_ hw 51 rfl)) (mvT hZ (W_ hw 52 rfl)) (mvT hZ (W_ hw 49 rfl)) (mvT hZ (W_ hw 53 rfl)) (by decide) (backOf (W := 0) (rmcmpU2 l Z a0 hw [] a ka c0 c1 b96 k96 h96 n0 Z_ V_a V_b96 g_b96 ne_a_b96 hb_) hZ (W_ hw 53 rfl) (W_ hw 49 rfl) (by decide) (by decide)) (g := (mkF m 9 #[.val (.ref a), .val (.int (0 : Int32)), .val (.int (2 : Int32)), .val (.ref b96), .unset, .unset] [(.int (2 : Int32)), (.int (0 : Int32)), (.ref b96), (.int (0 : Int32)), (.ref a)])) rfl (by rw [hml]; rfl) (argsL := [(.ref a), (.int (0 : Int32)), (.ref b96), (.int (0 : Int32)), (.int (2 : Int32))]) (rest := []) (lenOf pd_7 rfl) rfl (Nat.le_of_eq rfl) (hb hby d9_9) (fun _ _ => ⟨rfl, e96, (by decide : 1 + 0 ≤ _), (by decide : 2 + 0 ≤ _)⟩)
  dsimp only [Pt.U, Pt.locs, Pt.cells, Pt.slots] at X97 l97 y97 z97 st97 hQ97
  subst l97 y97 z97
  obtain ⟨k97, rfl, N97q, K97, hk97⟩ := hQ97
  have N97 := Fr.app N0 N97q
  have Z_ : n0 ≤ T97.heap.size := Nat.le_trans Z_ K97.1
  have V_a := V_a.keep K97 (ninS ne_a_b96 nin0)
  have E_b96 := E_b96.keep K97
  have O_ := O_.keep K97 (allS g_b96 all0)
  have Kp := Kp.trans K97 (allS (Or.inr sz_b96) all0)
  refine .st st97 ?_
  show OwnGo p e below s _ _ _ T97 (mkF m 12 _ [(.int k97)])
  refine .istore X97 hx (hb hby d9_12) (L' := #[.val (.ref a), .val (.int (0 : Int32)), .val (.int (2 : Int32)), .val (.ref b96), .val (.int k97), .unset]) rfl ?_
  refine .iload X97 hx (hb hby d9_14) rfl ?_
  refine .iloadN X97 hx (hb hby d9_16) rfl ?_
  have hkn : ¬ (k97 = (2 : Int32)) := by rcases hk97 with ⟨rfl, -⟩ | ⟨rfl, -⟩ <;> decide
  refine .icmpNo X97 hx (hb hby d9_17) (feq (hkn : ¬ (k97 = (2 : Int32)))).1 ?_
  refine .aloadN X97 hx (hb hby d9_20) rfl rfl ?_
  refine .iloadN X97 hx (hb hby d9_21) rfl ?_
  refine .iloadN X97 hx (hb hby d9_22) rfl ?_
  obtain ⟨_, _, ⟨T98, L98, k98, n98⟩, -, X98, ⟨Lc98, hQ98, l98, y98, z98⟩, st98⟩ := Jvm.LawKit.callS X97 hx (y := (⟨"java/lang/StringUTF16", "toBytes", "([CII)[B"⟩ : MethodName)) hown (mvT hZ (W_ hw 90 rfl)) (mvT hZ (W_ hw 91 rfl)) (mvT hZ (W_ hw 49 rfl)) (mvT hZ (W_ hw 92 rfl)) (by decide) (backOf (W := 0) (rmtoB2 l Z a0 hw [] a ka c0 c1 T97.heap n0 Z_ O_ S_AD S_HB S_LB V_a) hZ (W_ hw 92 rfl) (W_ hw 49 rfl) (by decide) (by decide)) (g := (mkF m 23 #[.val (.ref a), .val (.int (0 : Int32)), .val (.int (2 : Int32)), .val (.ref b96), .val (.int k97), .unset] [(.int (2 : Int32)), (.int (0 : Int32)), (.ref a)])) rfl (by rw [hml]; rfl) (argsL := [(.ref a), (.int (0 : Int32)), (.int (2 : Int32))]) (rest := []) (lenOf pd_8 rfl) rfl (Nat.le_of_eq rfl) (hb hby d9_23) (fun _ _ => ⟨rfl, rfl, (by decide : 1 + 1 ≤ _), (by decide : 2 + 4 ≤ _)⟩)
  dsimp only [Pt.U, Pt.locs, Pt.cells, Pt.slots] at X98 l98 y98 z98 st98 hQ98
  subst l98 y98 z98
  obtain ⟨t98, kb98, rfl, N98q, K98, V98, zt98⟩ := hQ98
  have N98 := Fr.app N97 N98q
  have ne_a_t98 : a ≠ t98 := Nat.ne_of_lt (Nat.lt_of_lt_of_le V_a.lt zt98)
  have ne_b96_t98 : b96 ≠ t98 := Nat.ne_of_lt (Nat.lt_of_lt_of_le E_b96.lt zt98)
  have g_t98 : n0 ≤ t98 := Nat.le_trans Z_ zt98
  have sz_t98 : h0.size ≤ t98 := Nat.le_trans Kp.1 zt98
  have Z_ : n0 ≤ T98.heap.size := Nat.le_trans Z_ K98.1
  have V_a := V_a.keep K98 nin0
  have E_b96 := E_b96.keep K98
  have O_ := O_.keep K98 all0
  have Kp := Kp.trans K98 all0
  refine .st st98 ?_
  show OwnGo p e below s _ _ _ T98 (mkF m 26 _ [(.ref t98)])
  refine .astore X98 hx (hb hby d9_26) rfl (L' := #[.val (.ref a), .val (.int (0 : Int32)), .val (.int (2 : Int32)), .val (.ref b96), .val (.int k97), .val (.ref t98)]) rfl ?_
  refine .aload X98 hx (hb hby d9_28) rfl rfl ?_
  refine .iload X98 hx (hb hby d9_30) rfl ?_
  rcases hk97 with ⟨rfl, hk⟩ | ⟨rfl, hk⟩
  · show OwnGo p e below s _ _ _ T98 (mkF m 32 _ [(.int (0 : Int32)), (.ref t98)])
    obtain ⟨_, _, ⟨T99, L99, k99, n99⟩, -, X99, ⟨Lc99, hQ99, l99, y99, z99⟩, st99⟩ := Jvm.LawKit.callS X98 hx (y := (⟨"java/lang/StringUTF16", "getChar", "([BI)C"⟩ : MethodName)) hown (mvT hZ (W_ hw 106 rfl)) (mvT hZ (W_ hw 107 rfl)) (mvT hZ (W_ hw 49 rfl)) (mvT hZ (W_ hw 108 rfl)) (by decide) (backOf (W := 0) (rmgetC0 l Z a0 hw [] t98 kb98 c0 (4 : Int32) [(.int (own_lo c0)), (.int (own_hi c0)), (.int (own_lo c1)), (.int (own_hi c1))] T98.heap n0 Z_ O_ S_AD S_HB S_LB V98 ⟨by decide, by decide⟩ ⟨by decide, by decide⟩ rfl rfl P_c0) hZ (W_ hw 108 rfl) (W_ hw 49 rfl) (by decide) (by decide)) (g := (mkF m 32 #[.val (.ref a), .val (.int (0 : Int32)), .val (.int (2 : Int32)), .val (.ref b96), .val (.int (0 : Int32)), .val (.ref t98)] [(.int (0 : Int32)), (.ref t98)])) rfl (by rw [hml]; rfl) (argsL := [(.ref t98), (.int (0 : Int32))]) (rest := []) (lenOf pd_9 rfl) rfl (Nat.le_of_eq rfl) (hb hby d9_32) (fun _ _ => ⟨rfl, rfl, (by decide : 2 + 0 ≤ _), (by decide : 6 + 0 ≤ _)⟩)
    dsimp only [Pt.U, Pt.locs, Pt.cells, Pt.slots] at X99 l99 y99 z99 st99 hQ99
    subst l99 y99 z99
    obtain ⟨rfl, N99q, e99⟩ := hQ99
    have N99 := Fr.app N98 N99q
    refine .st st99 ?_
    show OwnGo p e below s _ _ _ T99 (mkF m 35 _ [(.int c0)])
    refine .sipush X99 hx (hb hby d9_35) own_ks255 ?_
    refine .icmpYes (pc := 38) X99 hx 54 (hb hby d9_38) (tlt (hk : (255 : Int32) < c0)).2.2.1 (by decide) (by decide) ?_
    refine .aload X99 hx (hb hby d9_54) rfl rfl ?_
    exact OwnGo.ret X99 hx hret hlk rfl (Or.inr (Or.inr (Or.inr (Or.inr ⟨rfl, rfl, rfl⟩)))) (hb hby d9_56) (by show QcpU2 Z a ka c0 c1 h0 n0 _ T99.heap _; rw [e99]; exact ⟨t98, kb98, rfl, N99, Kp, V98, sz_t98⟩) (by decide) (by decide)
  · show OwnGo p e below s _ _ _ T98 (mkF m 32 _ [(.int (1 : Int32)), (.ref t98)])
    obtain ⟨_, _, ⟨T100, L100, k100, n100⟩, -, X100, ⟨Lc100, hQ100, l100, y100, z100⟩, st100⟩ := Jvm.LawKit.callS X98 hx (y := (⟨"java/lang/StringUTF16", "getChar", "([BI)C"⟩ : MethodName)) hown (mvT hZ (W_ hw 106 rfl)) (mvT hZ (W_ hw 107 rfl)) (mvT hZ (W_ hw 49 rfl)) (mvT hZ (W_ hw 108 rfl)) (by decide) (backOf (W := 0) (rmgetC1 l Z a0 hw [] t98 kb98 c1 (4 : Int32) [(.int (own_lo c0)), (.int (own_hi c0)), (.int (own_lo c1)), (.int (own_hi c1))] T98.heap n0 Z_ O_ S_AD S_HB S_LB V98 ⟨by decide, by decide⟩ ⟨by decide, by decide⟩ rfl rfl P_c1) hZ (W_ hw 108 rfl) (W_ hw 49 rfl) (by decide) (by decide)) (g := (mkF m 32 #[.val (.ref a), .val (.int (0 : Int32)), .val (.int (2 : Int32)), .val (.ref b96), .val (.int (1 : Int32)), .val (.ref t98)] [(.int (1 : Int32)), (.ref t98)])) rfl (by rw [hml]; rfl) (argsL := [(.ref t98), (.int (1 : Int32))]) (rest := []) (lenOf pd_9 rfl) rfl (Nat.le_of_eq rfl) (hb hby d9_32) (fun _ _ => ⟨rfl, rfl, (by decide : 2 + 0 ≤ _), (by decide : 6 + 0 ≤ _)⟩)
    dsimp only [Pt.U, Pt.locs, Pt.cells, Pt.slots] at X100 l100 y100 z100 st100 hQ100
    subst l100 y100 z100
    obtain ⟨rfl, N100q, e100⟩ := hQ100
    have N100 := Fr.app N98 N100q
    refine .st st100 ?_
    show OwnGo p e below s _ _ _ T100 (mkF m 35 _ [(.int c1)])
    refine .sipush X100 hx (hb hby d9_35) own_ks255 ?_
    refine .icmpYes (pc := 38) X100 hx 54 (hb hby d9_38) (tlt (hk : (255 : Int32) < c1)).2.2.1 (by decide) (by decide) ?_
    refine .aload X100 hx (hb hby d9_54) rfl rfl ?_
    exact OwnGo.ret X100 hx hret hlk rfl (Or.inr (Or.inr (Or.inr (Or.inr ⟨rfl, rfl, rfl⟩)))) (hb hby d9_56) (by show QcpU2 Z a ka c0 c1 h0 n0 _ T100.heap _; rw [e100]; exact ⟨t98, kb98, rfl, N100, Kp, V98, sz_t98⟩) (by decide) (by decide)
def QcmpL3 (Z : State) (a : Addr) (ka : ClassId) (c0 : Int32) (c1 : Int32) (c2 : Int32) (d : Addr) (kd : ClassId) (h0 : Heap) (n0 : Nat) (v : Option Value) (h : Heap) (L : List Loc) : Prop := v = some (.int (3 : Int32)) ∧ Fr n0 L ∧ Keep h0 h [d] ∧ Arv Z h d kd .byte (3 : Int32) [(.int c0.toInt8.toInt32), (.int c1.toInt8.toInt32), (.int c2.toInt8.toInt32)] (.int (0 : Int32))
theorem rmcmpL3 (l : Launch) (Z : State) (a0 : Array Value) (hw : own_tb a0 Z) (ws : List Jvm.Cond) (a : Addr) (ka : ClassId) (c0 : Int32) (c1 : Int32) (c2 : Int32) (d : Addr) (kd : ClassId) (h0 : Heap) (n0 : Nat) (Z0 : n0 ≤ h0.size) (V_a : Arv Z h0 a ka .char (3 : Int32) [(.int c0), (.int c1), (.int c2)] (.int (0 : Int32))) (V_d : Arv Z h0 d kd .byte (3 : Int32) [(.int (0 : Int32)), (.int (0 : Int32)), (.int (0 : Int32))] (.int (0 : Int32))) (g_d : n0 ≤ d) (ne_a_d : a ≠ d) (hl : ¬ (255 : Int32) < c0 ∧ ¬ (255 : Int32) < c1 ∧ ¬ (255 : Int32) < c2) :
    OwnMet l (⟨"java/lang/StringUTF16", "compress", "([CI[BII)I"⟩ : MethodName) jdk_52_method_21_code 7 (some .int) ws ({ frames := 0, cells := 0, slots := 0, locals := 0 } : Room) #[(.ref a), (.int (0 : Int32)), (.ref d), (.int (0 : Int32)), (.int (3 : Int32))] Z h0 (QcmpL3 Z a ka c0 c1 c2 d kd h0 n0) := by
  refine own_met (plainFor_of_name pn_23) ?_
  intro p e s m below meth c s₁ X0 hx hby hml hret hlk hown hnm hZ e0
  have N0 := Fr.nil n0
  have Z_ := Z0
  refine OwnGo.cast (ef_cmpL3 m a (0 : Int32) d (0 : Int32) (3 : Int32)) ?_
  show OwnGo p e below s _ _ _ s₁ (mkF m 0 _ [])
  have Kp : Keep h0 h0 [d] := Keep.refl h0 [d]
  refine .iconst X0 hx (hb hby d10_0) own_ki0 ?_
  refine .istore X0 hx (hb hby d10_1) (L' := #[.val (.ref a), .val (.int (0 : Int32)), .val (.ref d), .val (.int (0 : Int32)), .val (.int (3 : Int32)), .val (.int (0 : Int32)), .unset]) rfl ?_
  refine .iload X0 hx (hb hby d10_3) rfl ?_
  refine .iload X0 hx (hb hby d10_5) rfl ?_
  refine .icmpNo X0 hx (hb hby d10_7) (tlt ((by decide) : (0 : Int32) < (3 : Int32))).2.1 ?_
  refine .aloadN X0 hx (hb hby d10_10) rfl rfl ?_
  refine .iloadN X0 hx (hb hby d10_11) rfl ?_
  obtain ⟨cl101, Ar101, -, S101, -, H101, -⟩ := id V_a
  have hin101 : ¬ ((0 : Int32) < 0 ∨ cl101.slots.size ≤ ((0 : Int32)).toNatClampNeg) := inb_of S101 ⟨by decide, by decide⟩
  refine .st (fun _ => X0.caload hx (j := (0 : Int32)) (v := (.int c0)) (by first | exact Ar101.1 | (rw [e0]; exact Ar101.1)) (State.isArrayOf_alike hZ.alike Ar101.2.1) Ar101.2.2 hin101 (H101.at hin101 rfl) (g := (mkF m 12 #[.val (.ref a), .val (.int (0 : Int32)), .val (.ref d), .val (.int (0 : Int32)), .val (.int (3 : Int32)), .val (.int (0 : Int32)), .unset] [(.int (0 : Int32)), (.ref a)])) rfl rfl (hb hby d10_12) _) ?_
  show OwnGo p e below s _ _ _ s₁ (mkF m 13 _ [(.int c0)])
  refine .istore X0 hx (hb hby d10_13) (L' := #[.val (.ref a), .val (.int (0 : Int32)), .val (.ref d), .val (.int (0 : Int32)), .val (.int (3 : Int32)), .val (.int (0 : Int32)), .val (.int c0)]) rfl ?_
  refine .iload X0 hx (hb hby d10_15) rfl ?_
  refine .sipush X0 hx (hb hby d10_17) own_ks255 ?_
  refine .icmpYes (pc := 20) X0 hx 26 (hb hby d10_20) (flt (hl.1 : ¬ ((255 : Int32) < c0))).2.2.2 (by decide) (by decide) ?_
  refine .aloadN X0 hx (hb hby d10_26) rfl rfl ?_
  refine .iloadN X0 hx (hb hby d10_27) rfl ?_
  refine .iload X0 hx (hb hby d10_28) rfl ?_
  refine .st (fun _ => XS.i2b X0.here hx rfl (hb hby d10_30) rfl) ?_
  show OwnGo p e below s _ _ _ s₁ (mkF m 31 _ [(.int (c0.toInt8.toInt32)), (.int (0 : Int32)), (.ref d)])
  obtain ⟨cl102, Ar102, q102, S102, N102, H102, G102⟩ := id V_d
  have hin102 : ¬ ((0 : Int32) < 0 ∨ cl102.slots.size ≤ ((0 : Int32)).toNatClampNeg) := inb_of S102 ⟨by decide, by decide⟩
  obtain ⟨T102, h102, X102, e102, W102, st102⟩ := stB X0 hx hZ e0 Ar102 (j := (0 : Int32)) hin102 (g := (mkF m 31 #[.val (.ref a), .val (.int (0 : Int32)), .val (.ref d), .val (.int (0 : Int32)), .val (.int (3 : Int32)), .val (.int (0 : Int32)), .val (.int c0)] [(.int (c0.toInt8.toInt32)), (.int (0 : Int32)), (.ref d)])) rfl rfl (hb hby d10_31)
  have V_d : Arv Z h102 d kd .byte (3 : Int32) [(.int (nar .byte (c0.toInt8.toInt32))), (.int (0 : Int32)), (.int (0 : Int32))] (.int (0 : Int32)) := Arv.set Ar102 q102 S102 N102 H102 G102 (fits_nar_byte _) W102 0 rfl (Nat.le_of_ble_eq_true rfl)
  rw [show nar .byte (c0.toInt8.toInt32) = (c0.toInt8.toInt32) from (own_nb _)] at V_d
  have V_a := V_a.other W102 ne_a_d
  have Kp := Kp.wr W102 (Or.inl (List.mem_of_getElem? (i := 0) rfl))
  have N102 := Fr.snoc X102 N0 g_d
  have Z_ : n0 ≤ h102.size := by rw [W102.size]; exact Z_
  refine .st st102 ?_
  show OwnGo p e below s _ _ _ T102 (mkF m 32 _ [])
  refine .iinc X102 hx (hb hby d10_32) rfl own_ka0_1 (L' := #[.val (.ref a), .val (.int (1 : Int32)), .val (.ref d), .val (.int (0 : Int32)), .val (.int (3 : Int32)), .val (.int (0 : Int32)), .val (.int c0)]) rfl ?_
  refine .iinc X102 hx (hb hby d10_35) rfl own_ka0_1 (L' := #[.val (.ref a), .val (.int (1 : Int32)), .val (.ref d), .val (.int (1 : Int32)), .val (.int (3 : Int32)), .val (.int (0 : Int32)), .val (.int c0)]) rfl ?_
  refine .iinc X102 hx (hb hby d10_38) rfl own_ka0_1 (L' := #[.val (.ref a), .val (.int (1 : Int32)), .val (.ref d), .val (.int (1 : Int32)), .val (.int (3 : Int32)), .val (.int (1 : Int32)), .val (.int c0)]) rfl ?_
  refine .goto (pc := 41) X102 hx 3 (hb hby d10_41) (by decide) (by decide) ?_
  refine .iload X102 hx (hb hby d10_3) rfl ?_
  refine .iload X102 hx (hb hby d10_5) rfl ?_
  refine .icmpNo X102 hx (hb hby d10_7) (tlt ((by decide) : (1 : Int32) < (3 : Int32))).2.1 ?_
  refine .aloadN X102 hx (hb hby d10_10) rfl rfl ?_
  refine .iloadN X102 hx (hb hby d10_11) rfl ?_
  obtain ⟨cl103, Ar103, -, S103, -, H103, -⟩ := id V_a
  have hin103 : ¬ ((1 : Int32) < 0 ∨ cl103.slots.size ≤ ((1 : Int32)).toNatClampNeg) := inb_of S103 ⟨by decide, by decide⟩
  refine .st (fun _ => X102.caload hx (j := (1 : Int32)) (v := (.int c1)) (by first | exact Ar103.1 | (rw [e102]; exact Ar103.1)) (State.isArrayOf_alike hZ.alike Ar103.2.1) Ar103.2.2 hin103 (H103.at hin103 rfl) (g := (mkF m 12 #[.val (.ref a), .val (.int (1 : Int32)), .val (.ref d), .val (.int (1 : Int32)), .val (.int (3 : Int32)), .val (.int (1 : Int32)), .val (.int c0)] [(.int (1 : Int32)), (.ref a)])) rfl rfl (hb hby d10_12) _) ?_
  show OwnGo p e below s _ _ _ T102 (mkF m 13 _ [(.int c1)])
  refine .istore X102 hx (hb hby d10_13) (L' := #[.val (.ref a), .val (.int (1 : Int32)), .val (.ref d), .val (.int (1 : Int32)), .val (.int (3 : Int32)), .val (.int (1 : Int32)), .val (.int c1)]) rfl ?_
  refine .iload X102 hx (hb hby d10_15) rfl ?_
  refine .sipush X102 hx (hb hby d10_17) own_ks255 ?_
  refine .icmpYes (pc := 20) X102 hx 26 (hb hby d10_20) (flt (hl.2.1 : ¬ ((255 : Int32) < c1))).2.2.2 (by decide) (by decide) ?_
  refine .aloadN X102 hx (hb hby d10_26) rfl rfl ?_
  refine .iloadN X102 hx (hb hby d10_27) rfl ?_
  refine .iload X102 hx (hb hby d10_28) rfl ?_
  refine .st (fun _ => XS.i2b X102.here hx rfl (hb hby d10_30) rfl) ?_
  show OwnGo p e below s _ _ _ T102 (mkF m 31 _ [(.int (c1.toInt8.toInt32)), (.int (1 : Int32)), (.ref d)])
  obtain ⟨cl104, Ar104, q104, S104, N104, H104, G104⟩ := id V_d
  have hin104 : ¬ ((1 : Int32) < 0 ∨ cl104.slots.size ≤ ((1 : Int32)).toNatClampNeg) := inb_of S104 ⟨by decide, by decide⟩
  obtain ⟨T104, h104, X104, e104, W104, st104⟩ := stB X102 hx hZ e102 Ar104 (j := (1 : Int32)) hin104 (g := (mkF m 31 #[.val (.ref a), .val (.int (1 : Int32)), .val (.ref d), .val (.int (1 : Int32)), .val (.int (3 : Int32)), .val (.int (1 : Int32)), .val (.int c1)] [(.int (c1.toInt8.toInt32)), (.int (1 : Int32)), (.ref d)])) rfl rfl (hb hby d10_31)
  have V_d : Arv Z h104 d kd .byte (3 : Int32) [(.int (c0.toInt8.toInt32)), (.int (nar .byte (c1.toInt8.toInt32))), (.int (0 : Int32))] (.int (0 : Int32)) := Arv.set Ar104 q104 S104 N104 H104 G104 (fits_nar_byte _) W104 1 rfl (Nat.le_of_ble_eq_true rfl)
  rw [show nar .byte (c1.toInt8.toInt32) = (c1.toInt8.toInt32) from (own_nb _)] at V_d
  have V_a := V_a.other W104 ne_a_d
  have Kp := Kp.wr W104 (Or.inl (List.mem_of_getElem? (i := 0) rfl))
  have N104 := Fr.snoc X104 N102 g_d
  have Z_ : n0 ≤ h104.size := by rw [W104.size]; exact Z_
  refine .st st104 ?_
  show OwnGo p e below s _ _ _ T104 (mkF m 32 _ [])
  refine .iinc X104 hx (hb hby d10_32) rfl own_ka1_1 (L' := #[.val (.ref a), .val (.int (2 : Int32)), .val (.ref d), .val (.int (1 : Int32)), .val (.int (3 : Int32)), .val (.int (1 : Int32)), .val (.int c1)]) rfl ?_
  refine .iinc X104 hx (hb hby d10_35) rfl own_ka1_1 (L' := #[.val (.ref a), .val (.int (2 : Int32)), .val (.ref d), .val (.int (2 : Int32)), .val (.int (3 : Int32)), .val (.int (1 : Int32)), .val (.int c1)]) rfl ?_
  refine .iinc X104 hx (hb hby d10_38) rfl own_ka1_1 (L' := #[.val (.ref a), .val (.int (2 : Int32)), .val (.ref d), .val (.int (2 : Int32)), .val (.int (3 : Int32)), .val (.int (2 : Int32)), .val (.int c1)]) rfl ?_
  refine .goto (pc := 41) X104 hx 3 (hb hby d10_41) (by decide) (by decide) ?_
  refine .iload X104 hx (hb hby d10_3) rfl ?_
  refine .iload X104 hx (hb hby d10_5) rfl ?_
  refine .icmpNo X104 hx (hb hby d10_7) (tlt ((by decide) : (2 : Int32) < (3 : Int32))).2.1 ?_
  refine .aloadN X104 hx (hb hby d10_10) rfl rfl ?_
  refine .iloadN X104 hx (hb hby d10_11) rfl ?_
  obtain ⟨cl105, Ar105, -, S105, -, H105, -⟩ := id V_a
  have hin105 : ¬ ((2 : Int32) < 0 ∨ cl105.slots.size ≤ ((2 : Int32)).toNatClampNeg) := inb_of S105 ⟨by decide, by decide⟩
  refine .st (fun _ => X104.caload hx (j := (2 : Int32)) (v := (.int c2)) (by first | exact Ar105.1 | (rw [e104]; exact Ar105.1)) (State.isArrayOf_alike hZ.alike Ar105.2.1) Ar105.2.2 hin105 (H105.at hin105 rfl) (g := (mkF m 12 #[.val (.ref a), .val (.int (2 : Int32)), .val (.ref d), .val (.int (2 : Int32)), .val (.int (3 : Int32)), .val (.int (2 : Int32)), .val (.int c1)] [(.int (2 : Int32)), (.ref a)])) rfl rfl (hb hby d10_12) _) ?_
  show OwnGo p e below s _ _ _ T104 (mkF m 13 _ [(.int c2)])
  refine .istore X104 hx (hb hby d10_13) (L' := #[.val (.ref a), .val (.int (2 : Int32)), .val (.ref d), .val (.int (2 : Int32)), .val (.int (3 : Int32)), .val (.int (2 : Int32)), .val (.int c2)]) rfl ?_
  refine .iload X104 hx (hb hby d10_15) rfl ?_
  refine .sipush X104 hx (hb hby d10_17) own_ks255 ?_
  refine .icmpYes (pc := 20) X104 hx 26 (hb hby d10_20) (flt (hl.2.2 : ¬ ((255 : Int32) < c2))).2.2.2 (by decide) (by decide) ?_
  refine .aloadN X104 hx (hb hby d10_26) rfl rfl ?_
  refine .iloadN X104 hx (hb hby d10_27) rfl ?_
  refine .iload X104 hx (hb hby d10_28) rfl ?_
  refine .st (fun _ => XS.i2b X104.here hx rfl (hb hby d10_30) rfl) ?_
  show OwnGo p e below s _ _ _ T104 (mkF m 31 _ [(.int (c2.toInt8.toInt32)), (.int (2 : Int32)), (.ref d)])
  obtain ⟨cl106, Ar106, q106, S106, N106, H106, G106⟩ := id V_d
  have hin106 : ¬ ((2 : Int32) < 0 ∨ cl106.slots.size ≤ ((2 : Int32)).toNatClampNeg) := inb_of S106 ⟨by decide, by decide⟩
  obtain ⟨T106, h106, X106, e106, W106, st106⟩ := stB X104 hx hZ e104 Ar106 (j := (2 : Int32)) hin106 (g := (mkF m 31 #[.val (.ref a), .val (.int (2 : Int32)), .val (.ref d), .val (.int (2 : Int32)), .val (.int (3 : Int32)), .val (.int (2 : Int32)), .val (.int c2)] [(.int (c2.toInt8.toInt32)), (.int (2 : Int32)), (.ref d)])) rfl rfl (hb hby d10_31)
  have V_d : Arv Z h106 d kd .byte (3 : Int32) [(.int (c0.toInt8.toInt32)), (.int (c1.toInt8.toInt32)), (.int (nar .byte (c2.toInt8.toInt32)))] (.int (0 : Int32)) := Arv.set Ar106 q106 S106 N106 H106 G106 (fits_nar_byte _) W106 2 rfl (Nat.le_of_ble_eq_true rfl)
  rw [show nar .byte (c2.toInt8.toInt32) = (c2.toInt8.toInt32) from (own_nb _)] at V_d
  have V_a := V_a.other W106 ne_a_d
  have Kp := Kp.wr W106 (Or.inl (List.mem_of_getElem? (i := 0) rfl))
  have N106 := Fr.snoc X106 N104 g_d
  have Z_ : n0 ≤ h106.size := by rw [W106.size]; exact Z_
  refine .st st106 ?_
  show OwnGo p e below s _ _ _ T106 (mkF m 32 _ [])
  refine .iinc X106 hx (hb hby d10_32) rfl own_ka2_1 (L' := #[.val (.ref a), .val (.int (3 : Int32)), .val (.ref d), .val (.int (2 : Int32)), .val (.int (3 : Int32)), .val (.int (2 : Int32)), .val (.int c2)]) rfl ?_
  refine .iinc X106 hx (hb hby d10_35) rfl own_ka2_1 (L' := #[.val (.ref a), .val (.int (3 : Int32)), .val (.ref d), .val (.int (3 : Int32)), .val (.int (3 : Int32)), .val (.int (2 : Int32)), .val (.int c2)]) rfl ?_
  refine .iinc X106 hx (hb hby d10_38) rfl own_ka2_1 (L' := #[.val (.ref a), .val (.int (3 : Int32)), .val (.ref d), .val (.int (3 : Int32)), .val (.int (3 : Int32)), .val (.int (3 : Int32)), .val (.int c2)]) rfl ?_
  refine .goto (pc := 41) X106 hx 3 (hb hby d10_41) (by decide) (by decide) ?_
  refine .iload X106 hx (hb hby d10_3) rfl ?_
  refine .iload X106 hx (hb hby d10_5) rfl ?_
  refine .icmpYes (pc := 7) X106 hx 44 (hb hby d10_7) (flt ((by decide) : ¬ ((3 : Int32) < (3 : Int32)))).2.1 (by decide) (by decide) ?_
  refine .iload X106 hx (hb hby d10_44) rfl ?_
  exact OwnGo.ret X106 hx hret hlk rfl (Or.inl ⟨rfl, Or.inl rfl, _, rfl⟩) (hb hby d10_46) (by show QcmpL3 Z a ka c0 c1 c2 d kd h0 n0 _ T106.heap _; rw [e106]; exact ⟨rfl, N106, Kp, V_d⟩) (by decide) (by decide)
def QcmpU3 (Z : State) (a : Addr) (ka : ClassId) (c0 : Int32) (c1 : Int32) (c2 : Int32) (d : Addr) (kd : ClassId) (h0 : Heap) (n0 : Nat) (v : Option Value) (h : Heap) (L : List Loc) : Prop := ∃ k : Int32, v = some (.int k) ∧ Fr n0 L ∧ Keep h0 h [d] ∧ ((k = (0 : Int32) ∧ (255 : Int32) < c0) ∨ (k = (1 : Int32) ∧ (255 : Int32) < c1) ∨ (k = (2 : Int32) ∧ (255 : Int32) < c2))
theorem rmcmpU3 (l : Launch) (Z : State) (a0 : Array Value) (hw : own_tb a0 Z) (ws : List Jvm.Cond) (a : Addr) (ka : ClassId) (c0 : Int32) (c1 : Int32) (c2 : Int32) (d : Addr) (kd : ClassId) (h0 : Heap) (n0 : Nat) (Z0 : n0 ≤ h0.size) (V_a : Arv Z h0 a ka .char (3 : Int32) [(.int c0), (.int c1), (.int c2)] (.int (0 : Int32))) (V_d : Arv Z h0 d kd .byte (3 : Int32) [(.int (0 : Int32)), (.int (0 : Int32)), (.int (0 : Int32))] (.int (0 : Int32))) (g_d : n0 ≤ d) (ne_a_d : a ≠ d) (hb_ : (255 : Int32) < c0 ∨ (255 : Int32) < c1 ∨ (255 : Int32) < c2) :
    OwnMet l (⟨"java/lang/StringUTF16", "compress", "([CI[BII)I"⟩ : MethodName) jdk_52_method_21_code 7 (some .int) ws ({ frames := 0, cells := 0, slots := 0, locals := 0 } : Room) #[(.ref a), (.int (0 : Int32)), (.ref d), (.int (0 : Int32)), (.int (3 : Int32))] Z h0 (QcmpU3 Z a ka c0 c1 c2 d kd h0 n0) := by
  refine own_met (plainFor_of_name pn_23) ?_
  intro p e s m below meth c s₁ X0 hx hby hml hret hlk hown hnm hZ e0
  have N0 := Fr.nil n0
  have Z_ := Z0
  refine OwnGo.cast (ef_cmpU3 m a (0 : Int32) d (0 : Int32) (3 : Int32)) ?_
  show OwnGo p e below s _ _ _ s₁ (mkF m 0 _ [])
  have Kp : Keep h0 h0 [d] := Keep.refl h0 [d]
  refine .iconst X0 hx (hb hby d10_0) own_ki0 ?_
  refine .istore X0 hx (hb hby d10_1) (L' := #[.val (.ref a), .val (.int (0 : Int32)), .val (.ref d), .val (.int (0 : Int32)), .val (.int (3 : Int32)), .val (.int (0 : Int32)), .unset]) rfl ?_
  refine .iload X0 hx (hb hby d10_3) rfl ?_
  refine .iload X0 hx (hb hby d10_5) rfl ?_
  refine .icmpNo X0 hx (hb hby d10_7) (tlt ((by decide) : (0 : Int32) < (3 : Int32))).2.1 ?_
  refine .aloadN X0 hx (hb hby d10_10) rfl rfl ?_
  refine .iloadN X0 hx (hb hby d10_11) rfl ?_
  obtain ⟨cl107, Ar107, -, S107, -, H107, -⟩ := id V_a
  have hin107 : ¬ ((0 : Int32) < 0 ∨ cl107.slots.size ≤ ((0 : Int32)).toNatClampNeg) := inb_of S107 ⟨by decide, by decide⟩
  refine .st (fun _ => X0.caload hx (j := (0 : Int32)) (v := (.int c0)) (by first | exact Ar107.1 | (rw [e0]; exact Ar107.1)) (State.isArrayOf_alike hZ.alike Ar107.2.1) Ar107.2.2 hin107 (H107.at hin107 rfl) (g := (mkF m 12 #[.val (.ref a), .val (.int (0 : Int32)), .val (.ref d), .val (.int (0 : Int32)), .val (.int (3 : Int32)), .val (.int (0 : Int32)), .unset] [(.int (0 : Int32)), (.ref a)])) rfl rfl (hb hby d10_12) _) ?_
  show OwnGo p e below s _ _ _ s₁ (mkF m 13 _ [(.int c0)])
  refine .istore X0 hx (hb hby d10_13) (L' := #[.val (.ref a), .val (.int (0 : Int32)), .val (.ref d), .val (.int (0 : Int32)), .val (.int (3 : Int32)), .val (.int (0 : Int32)), .val (.int c0)]) rfl ?_
  refine .iload X0 hx (hb hby d10_15) rfl ?_
  refine .sipush X0 hx (hb hby d10_17) own_ks255 ?_
  by_cases q0 : (255 : Int32) < c0
  · refine .icmpNo X0 hx (hb hby d10_20) (tlt (q0 : (255 : Int32) < c0)).2.2.2 ?_
    refine .iload X0 hx (hb hby d10_23) rfl ?_
    exact OwnGo.ret X0 hx hret hlk rfl (Or.inl ⟨rfl, Or.inl rfl, _, rfl⟩) (hb hby d10_25) (by show QcmpU3 Z a ka c0 c1 c2 d kd h0 n0 _ s₁.heap _; rw [e0]; exact ⟨_, rfl, N0, Kp, (Or.inl ⟨rfl, q0⟩)⟩) (by decide) (by decide)
  · refine .icmpYes (pc := 20) X0 hx 26 (hb hby d10_20) (flt (q0 : ¬ ((255 : Int32) < c0))).2.2.2 (by decide) (by decide) ?_
    refine .aloadN X0 hx (hb hby d10_26) rfl rfl ?_
    refine .iloadN X0 hx (hb hby d10_27) rfl ?_
    refine .iload X0 hx (hb hby d10_28) rfl ?_
    refine .st (fun _ => XS.i2b X0.here hx rfl (hb hby d10_30) rfl) ?_
    show OwnGo p e below s _ _ _ s₁ (mkF m 31 _ [(.int (c0.toInt8.toInt32)), (.int (0 : Int32)), (.ref d)])
    obtain ⟨cl108, Ar108, q108, S108, N108, H108, G108⟩ := id V_d
    have hin108 : ¬ ((0 : Int32) < 0 ∨ cl108.slots.size ≤ ((0 : Int32)).toNatClampNeg) := inb_of S108 ⟨by decide, by decide⟩
    obtain ⟨T108, h108, X108, e108, W108, st108⟩ := stB X0 hx hZ e0 Ar108 (j := (0 : Int32)) hin108 (g := (mkF m 31 #[.val (.ref a), .val (.int (0 : Int32)), .val (.ref d), .val (.int (0 : Int32)), .val (.int (3 : Int32)), .val (.int (0 : Int32)), .val (.int c0)] [(.int (c0.toInt8.toInt32)), (.int (0 : Int32)), (.ref d)])) rfl rfl (hb hby d10_31)
    have V_d : Arv Z h108 d kd .byte (3 : Int32) [(.int (nar .byte (c0.toInt8.toInt32))), (.int (0 : Int32)), (.int (0 : Int32))] (.int (0 : Int32)) := Arv.set Ar108 q108 S108 N108 H108 G108 (fits_nar_byte _) W108 0 rfl (Nat.le_of_ble_eq_true rfl)
    rw [show nar .byte (c0.toInt8.toInt32) = (c0.toInt8.toInt32) from (own_nb _)] at V_d
    have V_a := V_a.other W108 ne_a_d
    have Kp := Kp.wr W108 (Or.inl (List.mem_of_getElem? (i := 0) rfl))
    have N108 := Fr.snoc X108 N0 g_d
    have Z_ : n0 ≤ h108.size := by rw [W108.size]; exact Z_
    refine .st st108 ?_
    show OwnGo p e below s _ _ _ T108 (mkF m 32 _ [])
    refine .iinc X108 hx (hb hby d10_32) rfl own_ka0_1 (L' := #[.val (.ref a), .val (.int (1 : Int32)), .val (.ref d), .val (.int (0 : Int32)), .val (.int (3 : Int32)), .val (.int (0 : Int32)), .val (.int c0)]) rfl ?_
    refine .iinc X108 hx (hb hby d10_35) rfl own_ka0_1 (L' := #[.val (.ref a), .val (.int (1 : Int32)), .val (.ref d), .val (.int (1 : Int32)), .val (.int (3 : Int32)), .val (.int (0 : Int32)), .val (.int c0)]) rfl ?_
    refine .iinc X108 hx (hb hby d10_38) rfl own_ka0_1 (L' := #[.val (.ref a), .val (.int (1 : Int32)), .val (.ref d), .val (.int (1 : Int32)), .val (.int (3 : Int32)), .val (.int (1 : Int32)), .val (.int c0)]) rfl ?_
    refine .goto (pc := 41) X108 hx 3 (hb hby d10_41) (by decide) (by decide) ?_
    refine .iload X108 hx (hb hby d10_3) rfl ?_
    refine .iload X108 hx (hb hby d10_5) rfl ?_
    refine .icmpNo X108 hx (hb hby d10_7) (tlt ((by decide) : (1 : Int32) < (3 : Int32))).2.1 ?_
    refine .aloadN X108 hx (hb hby d10_10) rfl rfl ?_
    refine .iloadN X108 hx (hb hby d10_11) rfl ?_
    obtain ⟨cl109, Ar109, -, S109, -, H109, -⟩ := id V_a
    have hin109 : ¬ ((1 : Int32) < 0 ∨ cl109.slots.size ≤ ((1 : Int32)).toNatClampNeg) := inb_of S109 ⟨by decide, by decide⟩
    refine .st (fun _ => X108.caload hx (j := (1 : Int32)) (v := (.int c1)) (by first | exact Ar109.1 | (rw [e108]; exact Ar109.1)) (State.isArrayOf_alike hZ.alike Ar109.2.1) Ar109.2.2 hin109 (H109.at hin109 rfl) (g := (mkF m 12 #[.val (.ref a), .val (.int (1 : Int32)), .val (.ref d), .val (.int (1 : Int32)), .val (.int (3 : Int32)), .val (.int (1 : Int32)), .val (.int c0)] [(.int (1 : Int32)), (.ref a)])) rfl rfl (hb hby d10_12) _) ?_
    show OwnGo p e below s _ _ _ T108 (mkF m 13 _ [(.int c1)])
    refine .istore X108 hx (hb hby d10_13) (L' := #[.val (.ref a), .val (.int (1 : Int32)), .val (.ref d), .val (.int (1 : Int32)), .val (.int (3 : Int32)), .val (.int (1 : Int32)), .val (.int c1)]) rfl ?_
    refine .iload X108 hx (hb hby d10_15) rfl ?_
    refine .sipush X108 hx (hb hby d10_17) own_ks255 ?_
    by_cases q1 : (255 : Int32) < c1
    · refine .icmpNo X108 hx (hb hby d10_20) (tlt (q1 : (255 : Int32) < c1)).2.2.2 ?_
      refine .iload X108 hx (hb hby d10_23) rfl ?_
      exact OwnGo.ret X108 hx hret hlk rfl (Or.inl ⟨rfl, Or.inl rfl, _, rfl⟩) (hb hby d10_25) (by show QcmpU3 Z a ka c0 c1 c2 d kd h0 n0 _ T108.heap _; rw [e108]; exact ⟨_, rfl, N108, Kp, (Or.inr (Or.inl ⟨rfl, q1⟩))⟩) (by decide) (by decide)
    · refine .icmpYes (pc := 20) X108 hx 26 (hb hby d10_20) (flt (q1 : ¬ ((255 : Int32) < c1))).2.2.2 (by decide) (by decide) ?_
      refine .aloadN X108 hx (hb hby d10_26) rfl rfl ?_
      refine .iloadN X108 hx (hb hby d10_27) rfl ?_
      refine .iload X108 hx (hb hby d10_28) rfl ?_
      refine .st (fun _ => XS.i2b X108.here hx rfl (hb hby d10_30) rfl) ?_
      show OwnGo p e below s _ _ _ T108 (mkF m 31 _ [(.int (c1.toInt8.toInt32)), (.int (1 : Int32)), (.ref d)])
      obtain ⟨cl110, Ar110, q110, S110, N110, H110, G110⟩ := id V_d
      have hin110 : ¬ ((1 : Int32) < 0 ∨ cl110.slots.size ≤ ((1 : Int32)).toNatClampNeg) := inb_of S110 ⟨by decide, by decide⟩
      obtain ⟨T110, h110, X110, e110, W110, st110⟩ := stB X108 hx hZ e108 Ar110 (j := (1 : Int32)) hin110 (g := (mkF m 31 #[.val (.ref a), .val (.int (1 : Int32)), .val (.ref d), .val (.int (1 : Int32)), .val (.int (3 : Int32)), .val (.int (1 : Int32)), .val (.int c1)] [(.int (c1.toInt8.toInt32)), (.int (1 : Int32)), (.ref d)])) rfl rfl (hb hby d10_31)
      have V_d : Arv Z h110 d kd .byte (3 : Int32) [(.int (c0.toInt8.toInt32)), (.int (nar .byte (c1.toInt8.toInt32))), (.int (0 : Int32))] (.int (0 : Int32)) := Arv.set Ar110 q110 S110 N110 H110 G110 (fits_nar_byte _) W110 1 rfl (Nat.le_of_ble_eq_true rfl)
      rw [show nar .byte (c1.toInt8.toInt32) = (c1.toInt8.toInt32) from (own_nb _)] at V_d
      have V_a := V_a.other W110 ne_a_d
      have Kp := Kp.wr W110 (Or.inl (List.mem_of_getElem? (i := 0) rfl))
      have N110 := Fr.snoc X110 N108 g_d
      have Z_ : n0 ≤ h110.size := by rw [W110.size]; exact Z_
      refine .st st110 ?_
      show OwnGo p e below s _ _ _ T110 (mkF m 32 _ [])
      refine .iinc X110 hx (hb hby d10_32) rfl own_ka1_1 (L' := #[.val (.ref a), .val (.int (2 : Int32)), .val (.ref d), .val (.int (1 : Int32)), .val (.int (3 : Int32)), .val (.int (1 : Int32)), .val (.int c1)]) rfl ?_
      refine .iinc X110 hx (hb hby d10_35) rfl own_ka1_1 (L' := #[.val (.ref a), .val (.int (2 : Int32)), .val (.ref d), .val (.int (2 : Int32)), .val (.int (3 : Int32)), .val (.int (1 : Int32)), .val (.int c1)]) rfl ?_
      refine .iinc X110 hx (hb hby d10_38) rfl own_ka1_1 (L' := #[.val (.ref a), .val (.int (2 : Int32)), .val (.ref d), .val (.int (2 : Int32)), .val (.int (3 : Int32)), .val (.int (2 : Int32)), .val (.int c1)]) rfl ?_
      refine .goto (pc := 41) X110 hx 3 (hb hby d10_41) (by decide) (by decide) ?_
      refine .iload X110 hx (hb hby d10_3) rfl ?_
      refine .iload X110 hx (hb hby d10_5) rfl ?_
      refine .icmpNo X110 hx (hb hby d10_7) (tlt ((by decide) : (2 : Int32) < (3 : Int32))).2.1 ?_
      refine .aloadN X110 hx (hb hby d10_10) rfl rfl ?_
      refine .iloadN X110 hx (hb hby d10_11) rfl ?_
      obtain ⟨cl111, Ar111, -, S111, -, H111, -⟩ := id V_a
      have hin111 : ¬ ((2 : Int32) < 0 ∨ cl111.slots.size ≤ ((2 : Int32)).toNatClampNeg) := inb_of S111 ⟨by decide, by decide⟩
      refine .st (fun _ => X110.caload hx (j := (2 : Int32)) (v := (.int c2)) (by first | exact Ar111.1 | (rw [e110]; exact Ar111.1)) (State.isArrayOf_alike hZ.alike Ar111.2.1) Ar111.2.2 hin111 (H111.at hin111 rfl) (g := (mkF m 12 #[.val (.ref a), .val (.int (2 : Int32)), .val (.ref d), .val (.int (2 : Int32)), .val (.int (3 : Int32)), .val (.int (2 : Int32)), .val (.int c1)] [(.int (2 : Int32)), (.ref a)])) rfl rfl (hb hby d10_12) _) ?_
      show OwnGo p e below s _ _ _ T110 (mkF m 13 _ [(.int c2)])
      refine .istore X110 hx (hb hby d10_13) (L' := #[.val (.ref a), .val (.int (2 : Int32)), .val (.ref d), .val (.int (2 : Int32)), .val (.int (3 : Int32)), .val (.int (2 : Int32)), .val (.int c2)]) rfl ?_
      refine .iload X110 hx (hb hby d10_15) rfl ?_
      refine .sipush X110 hx (hb hby d10_17) own_ks255 ?_
      by_cases q2 : (255 : Int32) < c2
      · refine .icmpNo X110 hx (hb hby d10_20) (tlt (q2 : (255 : Int32) < c2)).2.2.2 ?_
        refine .iload X110 hx (hb hby d10_23) rfl ?_
        exact OwnGo.ret X110 hx hret hlk rfl (Or.inl ⟨rfl, Or.inl rfl, _, rfl⟩) (hb hby d10_25) (by show QcmpU3 Z a ka c0 c1 c2 d kd h0 n0 _ T110.heap _; rw [e110]; exact ⟨_, rfl, N110, Kp, (Or.inr (Or.inr ⟨rfl, q2⟩))⟩) (by decide) (by decide)
      · refine .icmpYes (pc := 20) X110 hx 26 (hb hby d10_20) (flt (q2 : ¬ ((255 : Int32) < c2))).2.2.2 (by decide) (by decide) ?_
        exact absurd hb_ (by simp only [not_or]; exact ⟨q0, q1, q2⟩)
def QcpL3 (Z : State) (a : Addr) (ka : ClassId) (c0 : Int32) (c1 : Int32) (c2 : Int32) (h0 : Heap) (n0 : Nat) (v : Option Value) (h : Heap) (L : List Loc) : Prop := ∃ (t : Addr) (kb : ClassId), v = some (.ref t) ∧ Fr n0 L ∧ Keep h0 h [] ∧ Arv Z h t kb .byte (3 : Int32) [(.int c0.toInt8.toInt32), (.int c1.toInt8.toInt32), (.int c2.toInt8.toInt32)] (.int (0 : Int32)) ∧ h0.size ≤ t
theorem rmcpL3 (l : Launch) (Z : State) (a0 : Array Value) (hw : own_tb a0 Z) (ws : List Jvm.Cond) (a : Addr) (ka : ClassId) (c0 : Int32) (c1 : Int32) (c2 : Int32) (h0 : Heap) (n0 : Nat) (Z0 : n0 ≤ h0.size) (V_a : Arv Z h0 a ka .char (3 : Int32) [(.int c0), (.int c1), (.int c2)] (.int (0 : Int32))) (hl : ¬ (255 : Int32) < c0 ∧ ¬ (255 : Int32) < c1 ∧ ¬ (255 : Int32) < c2) :
    OwnMet l (⟨"java/lang/StringUTF16", "compress", "([CII)[B"⟩ : MethodName) jdk_52_method_16_code 6 (some (.array .byte)) ws ({ frames := 1, cells := 1, slots := 3, locals := 18 } : Room) #[(.ref a), (.int (0 : Int32)), (.int (3 : Int32))] Z h0 (QcpL3 Z a ka c0 c1 c2 h0 n0) := by
  refine own_met (plainFor_of_name pn_23) ?_
  intro p e s m below meth c s₁ X0 hx hby hml hret hlk hown hnm hZ e0
  have N0 := Fr.nil n0
  have Z_ := Z0
  refine OwnGo.cast (ef_cpL3 m a (0 : Int32) (3 : Int32)) ?_
  show OwnGo p e below s _ _ _ s₁ (mkF m 0 _ [])
  have Kp : Keep h0 h0 [] := Keep.refl h0 []
  refine .iloadN X0 hx (hb hby d9_0) rfl ?_
  obtain ⟨T112, h112, k112, X112, e112, E112, A112, Ex112, st112⟩ := newPE X0 hx hZ (W_ hw 20 rfl) e0 (g := (mkF m 1 #[.val (.ref a), .val (.int (0 : Int32)), .val (.int (3 : Int32)), .unset, .unset, .unset] [(.int (3 : Int32))])) rfl (hb hby d9_1) rfl (by decide) (cap := 3) (by decide) (by decide) (by decide) (by decide) (ad := "[B") (by decide)
  obtain ⟨b112, g112⟩ : ∃ z, z = h0.size := ⟨_, rfl⟩
  rw [← g112] at A112 Ex112 st112
  have ne_a_b112 : a ≠ b112 := Nat.ne_of_lt (Nat.lt_of_lt_of_le V_a.lt (Nat.le_of_eq g112.symm))
  have g_b112 : n0 ≤ b112 := Nat.le_trans Z_ (Nat.le_of_eq g112.symm)
  have sz_b112 : h0.size ≤ b112 := Nat.le_trans Kp.1 (Nat.le_of_eq g112.symm)
  have V_a := V_a.ext E112
  have Kp := Kp.ext E112
  have Z_ : n0 ≤ h112.size := Nat.le_trans Z_ E112.1
  have V_b112 : Arv Z h112 b112 k112 .byte (3 : Int32) [(.int (0 : Int32)), (.int (0 : Int32)), (.int (0 : Int32))] (.int (0 : Int32)) := (Arv.new A112 (by decide)).pad (pad_rep [] (.int (0 : Int32)) 3)
  have E_b112 := Ex112
  refine .st st112 ?_
  show OwnGo p e below s _ _ _ T112 (mkF m 3 _ [(.ref b112)])
  refine .astoreN X112 hx (hb hby d9_3) rfl (L' := #[.val (.ref a), .val (.int (0 : Int32)), .val (.int (3 : Int32)), .val (.ref b112), .unset, .unset]) rfl ?_
  refine .aloadN X112 hx (hb hby d9_4) rfl rfl ?_
  refine .iloadN X112 hx (hb hby d9_5) rfl ?_
  refine .aloadN X112 hx (hb hby d9_6) rfl rfl ?_
  refine .iconst X112 hx (hb hby d9_7) own_ki0 ?_
  refine .iloadN X112 hx (hb hby d9_8) rfl ?_
  obtain ⟨_, _, ⟨T113, L113, k113, n113⟩, -, X113, ⟨Lc113, hQ113, l113, y113, z113⟩, st113⟩ := Jvm.LawKit.callS X112 hx (y := (⟨"java/lang/StringUTF16", "compress", "([CI[BII)I"⟩ : MethodName)) hown (mvT hZ (W_ hw 51 rfl)) (mvT hZ (W_ hw 52 rfl)) (mvT hZ (W_ hw 49 rfl)) (mvT hZ (W_ hw 53 rfl)) (by decide) (backOf (W := 0) (rmcmpL3 l Z a0 hw [] a ka c0 c1 c2 b112 k112 h112 n0 Z_ V_a V_b112 g_b112 ne_a_b112 hl) hZ (W_ hw 53 rfl) (W_ hw 49 rfl) (by decide) (by decide)) (g := (mkF m 9 #[.val (.ref a), .val (.int (0 : Int32)), .val (.int (3 : Int32)), .val (.ref b112), .unset, .unset] [(.int (3 : Int32)), (.int (0 : Int32)), (.ref b112), (.int (0 : Int32)), (.ref a)])) rfl (by rw [hml]; rfl) (argsL := [(.ref a), (.int (0 : Int32)), (.ref b112), (.int (0 : Int32)), (.int (3 : Int32))]) (rest := []) (lenOf pd_7 rfl) rfl (Nat.le_of_eq rfl) (hb hby d9_9) (fun _ _ => ⟨rfl, e112, (by decide : 1 + 0 ≤ _), (by decide : 3 + 0 ≤ _)⟩)
  dsimp only [Pt.U, Pt.locs, Pt.cells, Pt.slots] at X113 l113 y113 z113 st113 hQ113
  subst l113 y113 z113
  obtain ⟨rfl, N113q, K113, V113⟩ := hQ113
  have N113 := Fr.app N0 N113q
  have Z_ : n0 ≤ T113.heap.size := Nat.le_trans Z_ K113.1
  have V_a := V_a.keep K113 (ninS ne_a_b112 nin0)
  have E_b112 := E_b112.keep K113
  have Kp := Kp.trans K113 (allS (Or.inr sz_b112) all0)
  refine .st st113 ?_
  show OwnGo p e below s _ _ _ T113 (mkF m 12 _ [(.int (3 : Int32))])
  refine .istore X113 hx (hb hby d9_12) (L' := #[.val (.ref a), .val (.int (0 : Int32)), .val (.int (3 : Int32)), .val (.ref b112), .val (.int (3 : Int32)), .unset]) rfl ?_
  refine .iload X113 hx (hb hby d9_14) rfl ?_
  refine .iloadN X113 hx (hb hby d9_16) rfl ?_
  refine .icmpYes (pc := 17) X113 hx 57 (hb hby d9_17) (teq ((by decide) : (3 : Int32) = (3 : Int32))).1 (by decide) (by decide) ?_
  refine .aloadN X113 hx (hb hby d9_57) rfl rfl ?_
  exact OwnGo.ret X113 hx hret hlk rfl (Or.inr (Or.inr (Or.inr (Or.inr ⟨rfl, rfl, rfl⟩)))) (hb hby d9_58) (by show QcpL3 Z a ka c0 c1 c2 h0 n0 _ T113.heap _; exact ⟨b112, k112, rfl, N113, Kp, V113, sz_b112⟩) (by decide) (by decide)
def QcpU3 (Z : State) (a : Addr) (ka : ClassId) (c0 : Int32) (c1 : Int32) (c2 : Int32) (h0 : Heap) (n0 : Nat) (v : Option Value) (h : Heap) (L : List Loc) : Prop := ∃ (t : Addr) (kb : ClassId), v = some (.ref t) ∧ Fr n0 L ∧ Keep h0 h [] ∧ Arv Z h t kb .byte (6 : Int32) [(.int (own_lo c0)), (.int (own_hi c0)), (.int (own_lo c1)), (.int (own_hi c1)), (.int (own_lo c2)), (.int (own_hi c2))] (.int (0 : Int32)) ∧ h0.size ≤ t
theorem rmcpU3 (l : Launch) (Z : State) (a0 : Array Value) (hw : own_tb a0 Z) (ws : List Jvm.Cond) (a : Addr) (ka : ClassId) (c0 : Int32) (c1 : Int32) (c2 : Int32) (h0 : Heap) (n0 : Nat) (Z0 : n0 ≤ h0.size) (O_ : Old Z n0 h0) (S_AD : Sta Z Z.heap "java/lang/StringUTF16" "$assertionsDisabled" "Z" (.int (1 : Int32))) (S_HB : Sta Z Z.heap "java/lang/StringUTF16" "HI_BYTE_SHIFT" "I" (.int (0 : Int32))) (S_LB : Sta Z Z.heap "java/lang/StringUTF16" "LO_BYTE_SHIFT" "I" (.int (8 : Int32))) (V_a : Arv Z h0 a ka .char (3 : Int32) [(.int c0), (.int c1), (.int c2)] (.int (0 : Int32))) (hb_ : (255 : Int32) < c0 ∨ (255 : Int32) < c1 ∨ (255 : Int32) < c2) (P_c0 : own_u c0) (P_c1 : own_u c1) (P_c2 : own_u c2) :
    OwnMet l (⟨"java/lang/StringUTF16", "compress", "([CII)[B"⟩ : MethodName) jdk_52_method_16_code 6 (some (.array .byte)) ws ({ frames := 3, cells := 2, slots := 9, locals := 40 } : Room) #[(.ref a), (.int (0 : Int32)), (.int (3 : Int32))] Z h0 (QcpU3 Z a ka c0 c1 c2 h0 n0) := by
  refine own_met (plainFor_of_name pn_23) ?_
  intro p e s m below meth c s₁ X0 hx hby hml hret hlk hown hnm hZ e0
  have N0 := Fr.nil n0
  have Z_ := Z0
  refine OwnGo.cast (ef_cpU3 m a (0 : Int32) (3 : Int32)) ?_
  show OwnGo p e below s _ _ _ s₁ (mkF m 0 _ [])
  have Kp : Keep h0 h0 [] := Keep.refl h0 []
  refine .iloadN X0 hx (hb hby d9_0) rfl ?_
  obtain ⟨T114, h114, k114, X114, e114, E114, A114, Ex114, st114⟩ := newPE X0 hx hZ (W_ hw 20 rfl) e0 (g := (mkF m 1 #[.val (.ref a), .val (.int (0 : Int32)), .val (.int (3 : Int32)), .unset, .unset, .unset] [(.int (3 : Int32))])) rfl (hb hby d9_1) rfl (by decide) (cap := 3) (by decide) (by decide) (by decide) (by decide) (ad := "[B") (by decide)
  obtain ⟨b114, g114⟩ : ∃ z, z = h0.size := ⟨_, rfl⟩
  rw [← g114] at A114 Ex114 st114
  have ne_a_b114 : a ≠ b114 := Nat.ne_of_lt (Nat.lt_of_lt_of_le V_a.lt (Nat.le_of_eq g114.symm))
  have g_b114 : n0 ≤ b114 := Nat.le_trans Z_ (Nat.le_of_eq g114.symm)
  have sz_b114 : h0.size ≤ b114 := Nat.le_trans Kp.1 (Nat.le_of_eq g114.symm)
  have V_a := V_a.ext E114
  have O_ := O_.ext E114
  have Kp := Kp.ext E114
  have Z_ : n0 ≤ h114.size := Nat.le_trans Z_ E114.1
  have V_b114 : Arv Z h114 b114 k114 .byte (3 : Int32) [(.int (0 : Int32)), (.int (0 : Int32)), (.int (0 : Int32))] (.int (0 : Int32)) := (Arv.new A114 (by decide)).pad (pad_rep [] (.int (0 : Int32)) 3)
  have E_b114 := Ex114
  refine .st st114 ?_
  show OwnGo p e below s _ _ _ T114 (mkF m 3 _ [(.ref b114)])
  refine .astoreN X114 hx (hb hby d9_3) rfl (L' := #[.val (.ref a), .val (.int (0 : Int32)), .val (.int (3 : Int32)), .val (.ref b114), .unset, .unset]) rfl ?_
  refine .aloadN X114 hx (hb hby d9_4) rfl rfl ?_
  refine .iloadN X114 hx (hb hby d9_5) rfl ?_
  refine .aloadN X114 hx (hb hby d9_6) rfl rfl ?_
  refine .iconst X114 hx (hb hby d9_7) own_ki0 ?_
  refine .iloadN X114 hx (hb hby d9_8) rfl ?_
  obtain ⟨_, _, ⟨T115, L115, k115, n115⟩, -, X115, ⟨Lc115, hQ115, l115, y115, z115⟩, st115⟩ := Jvm.LawKit.callS X114 hx (y := (⟨"java/lang/StringUTF16", "compress", "([CI[BII)I"⟩ : MethodName)) hown (mvT hZ (W_ hw 51 rfl)) (mvT hZ (W_ hw 52 rfl)) (mvT hZ (W_ hw 49 rfl)) (mvT hZ (W_ hw 53 rfl)) (by decide) (backOf (W := 0) (rmcmpU3 l Z a0 hw [] a ka c0 c1 c2 b114 k114 h114 n0 Z_ V_a V_b114 g_b114 ne_a_b114 hb_) hZ (W_ hw 53 rfl) (W_ hw 49 rfl) (by decide) (by decide)) (g := (mkF m 9 #[.val (.ref a), .val (.int (0 : Int32)), .val (.int (3 : Int32)), .val (.ref b114), .unset, .unset] [(.int (3 : Int32)), (.int (0 : Int32)), (.ref b114), (.int (0 : Int32)), (.ref a)])) rfl (by rw [hml]; rfl) (argsL := [(.ref a), (.int (0 : Int32)), (.ref b114), (.int (0 : Int32)), (.int (3 : Int32))]) (rest := []) (lenOf pd_7 rfl) rfl (Nat.le_of_eq rfl) (hb hby d9_9) (fun _ _ => ⟨rfl, e114, (by decide : 1 + 0 ≤ _), (by decide : 3 + 0 ≤ _)⟩)
  dsimp only [Pt.U, Pt.locs, Pt.cells, Pt.slots] at X115 l115 y115 z115 st115 hQ115
  subst l115 y115 z115
  obtain ⟨k115, rfl, N115q, K115, hk115⟩ := hQ115
  have N115 := Fr.app N0 N115q
  have Z_ : n0 ≤ T115.heap.size := Nat.le_trans Z_ K115.1
  have V_a := V_a.keep K115 (ninS ne_a_b114 nin0)
  have E_b114 := E_b114.keep K115
  have O_ := O_.keep K115 (allS g_b114 all0)
  have Kp := Kp.trans K115 (allS (Or.inr sz_b114) all0)
  refine .st st115 ?_
  show OwnGo p e below s _ _ _ T115 (mkF m 12 _ [(.int k115)])
  refine .istore X115 hx (hb hby d9_12) (L' := #[.val (.ref a), .val (.int (0 : Int32)), .val (.int (3 : Int32)), .val (.ref b114), .val (.int k115), .unset]) rfl ?_
  refine .iload X115 hx (hb hby d9_14) rfl ?_
  refine .iloadN X115 hx (hb hby d9_16) rfl ?_
  have hkn : ¬ (k115 = (3 : Int32)) := by rcases hk115 with ⟨rfl, -⟩ | ⟨rfl, -⟩ | ⟨rfl, -⟩ <;> decide
  refine .icmpNo X115 hx (hb hby d9_17) (feq (hkn : ¬ (k115 = (3 : Int32)))).1 ?_
  refine .aloadN X115 hx (hb hby d9_20) rfl rfl ?_
  refine .iloadN X115 hx (hb hby d9_21) rfl ?_
  refine .iloadN X115 hx (hb hby d9_22) rfl ?_
  obtain ⟨_, _, ⟨T116, L116, k116, n116⟩, -, X116, ⟨Lc116, hQ116, l116, y116, z116⟩, st116⟩ := Jvm.LawKit.callS X115 hx (y := (⟨"java/lang/StringUTF16", "toBytes", "([CII)[B"⟩ : MethodName)) hown (mvT hZ (W_ hw 90 rfl)) (mvT hZ (W_ hw 91 rfl)) (mvT hZ (W_ hw 49 rfl)) (mvT hZ (W_ hw 92 rfl)) (by decide) (backOf (W := 0) (rmtoB3 l Z a0 hw [] a ka c0 c1 c2 T115.heap n0 Z_ O_ S_AD S_HB S_LB V_a) hZ (W_ hw 92 rfl) (W_ hw 49 rfl) (by decide) (by decide)) (g := (mkF m 23 #[.val (.ref a), .val (.int (0 : Int32)), .val (.int (3 : Int32)), .val (.ref b114), .val (.int k115), .unset] [(.int (3 : Int32)), (.int (0 : Int32)), (.ref a)])) rfl (by rw [hml]; rfl) (argsL := [(.ref a), (.int (0 : Int32)), (.int (3 : Int32))]) (rest := []) (lenOf pd_8 rfl) rfl (Nat.le_of_eq rfl) (hb hby d9_23) (fun _ _ => ⟨rfl, rfl, (by decide : 1 + 1 ≤ _), (by decide : 3 + 6 ≤ _)⟩)
  dsimp only [Pt.U, Pt.locs, Pt.cells, Pt.slots] at X116 l116 y116 z116 st116 hQ116
  subst l116 y116 z116
  obtain ⟨t116, kb116, rfl, N116q, K116, V116, zt116⟩ := hQ116
  have N116 := Fr.app N115 N116q
  have ne_a_t116 : a ≠ t116 := Nat.ne_of_lt (Nat.lt_of_lt_of_le V_a.lt zt116)
  have ne_b114_t116 : b114 ≠ t116 := Nat.ne_of_lt (Nat.lt_of_lt_of_le E_b114.lt zt116)
  have g_t116 : n0 ≤ t116 := Nat.le_trans Z_ zt116
  have sz_t116 : h0.size ≤ t116 := Nat.le_trans Kp.1 zt116
  have Z_ : n0 ≤ T116.heap.size := Nat.le_trans Z_ K116.1
  have V_a := V_a.keep K116 nin0
  have E_b114 := E_b114.keep K116
  have O_ := O_.keep K116 all0
  have Kp := Kp.trans K116 all0
  refine .st st116 ?_
  show OwnGo p e below s _ _ _ T116 (mkF m 26 _ [(.ref t116)])
  refine .astore X116 hx (hb hby d9_26) rfl (L' := #[.val (.ref a), .val (.int (0 : Int32)), .val (.int (3 : Int32)), .val (.ref b114), .val (.int k115), .val (.ref t116)]) rfl ?_
  refine .aload X116 hx (hb hby d9_28) rfl rfl ?_
  refine .iload X116 hx (hb hby d9_30) rfl ?_
  rcases hk115 with ⟨rfl, hk⟩ | ⟨rfl, hk⟩ | ⟨rfl, hk⟩
  · show OwnGo p e below s _ _ _ T116 (mkF m 32 _ [(.int (0 : Int32)), (.ref t116)])
    obtain ⟨_, _, ⟨T117, L117, k117, n117⟩, -, X117, ⟨Lc117, hQ117, l117, y117, z117⟩, st117⟩ := Jvm.LawKit.callS X116 hx (y := (⟨"java/lang/StringUTF16", "getChar", "([BI)C"⟩ : MethodName)) hown (mvT hZ (W_ hw 106 rfl)) (mvT hZ (W_ hw 107 rfl)) (mvT hZ (W_ hw 49 rfl)) (mvT hZ (W_ hw 108 rfl)) (by decide) (backOf (W := 0) (rmgetC0 l Z a0 hw [] t116 kb116 c0 (6 : Int32) [(.int (own_lo c0)), (.int (own_hi c0)), (.int (own_lo c1)), (.int (own_hi c1)), (.int (own_lo c2)), (.int (own_hi c2))] T116.heap n0 Z_ O_ S_AD S_HB S_LB V116 ⟨by decide, by decide⟩ ⟨by decide, by decide⟩ rfl rfl P_c0) hZ (W_ hw 108 rfl) (W_ hw 49 rfl) (by decide) (by decide)) (g := (mkF m 32 #[.val (.ref a), .val (.int (0 : Int32)), .val (.int (3 : Int32)), .val (.ref b114), .val (.int (0 : Int32)), .val (.ref t116)] [(.int (0 : Int32)), (.ref t116)])) rfl (by rw [hml]; rfl) (argsL := [(.ref t116), (.int (0 : Int32))]) (rest := []) (lenOf pd_9 rfl) rfl (Nat.le_of_eq rfl) (hb hby d9_32) (fun _ _ => ⟨rfl, rfl, (by decide : 2 + 0 ≤ _), (by decide : 9 + 0 ≤ _)⟩)
    dsimp only [Pt.U, Pt.locs, Pt.cells, Pt.slots] at X117 l117 y117 z117 st117 hQ117
    subst l117 y117 z117
    obtain ⟨rfl, N117q, e117⟩ := hQ117
    have N117 := Fr.app N116 N117q
    refine .st st117 ?_
    show OwnGo p e below s _ _ _ T117 (mkF m 35 _ [(.int c0)])
    refine .sipush X117 hx (hb hby d9_35) own_ks255 ?_
    refine .icmpYes (pc := 38) X117 hx 54 (hb hby d9_38) (tlt (hk : (255 : Int32) < c0)).2.2.1 (by decide) (by decide) ?_
    refine .aload X117 hx (hb hby d9_54) rfl rfl ?_
    exact OwnGo.ret X117 hx hret hlk rfl (Or.inr (Or.inr (Or.inr (Or.inr ⟨rfl, rfl, rfl⟩)))) (hb hby d9_56) (by show QcpU3 Z a ka c0 c1 c2 h0 n0 _ T117.heap _; rw [e117]; exact ⟨t116, kb116, rfl, N117, Kp, V116, sz_t116⟩) (by decide) (by decide)
  · show OwnGo p e below s _ _ _ T116 (mkF m 32 _ [(.int (1 : Int32)), (.ref t116)])
    obtain ⟨_, _, ⟨T118, L118, k118, n118⟩, -, X118, ⟨Lc118, hQ118, l118, y118, z118⟩, st118⟩ := Jvm.LawKit.callS X116 hx (y := (⟨"java/lang/StringUTF16", "getChar", "([BI)C"⟩ : MethodName)) hown (mvT hZ (W_ hw 106 rfl)) (mvT hZ (W_ hw 107 rfl)) (mvT hZ (W_ hw 49 rfl)) (mvT hZ (W_ hw 108 rfl)) (by decide) (backOf (W := 0) (rmgetC1 l Z a0 hw [] t116 kb116 c1 (6 : Int32) [(.int (own_lo c0)), (.int (own_hi c0)), (.int (own_lo c1)), (.int (own_hi c1)), (.int (own_lo c2)), (.int (own_hi c2))] T116.heap n0 Z_ O_ S_AD S_HB S_LB V116 ⟨by decide, by decide⟩ ⟨by decide, by decide⟩ rfl rfl P_c1) hZ (W_ hw 108 rfl) (W_ hw 49 rfl) (by decide) (by decide)) (g := (mkF m 32 #[.val (.ref a), .val (.int (0 : Int32)), .val (.int (3 : Int32)), .val (.ref b114), .val (.int (1 : Int32)), .val (.ref t116)] [(.int (1 : Int32)), (.ref t116)])) rfl (by rw [hml]; rfl) (argsL := [(.ref t116), (.int (1 : Int32))]) (rest := []) (lenOf pd_9 rfl) rfl (Nat.le_of_eq rfl) (hb hby d9_32) (fun _ _ => ⟨rfl, rfl, (by decide : 2 + 0 ≤ _), (by decide : 9 + 0 ≤ _)⟩)
    dsimp only [Pt.U, Pt.locs, Pt.cells, Pt.slots] at X118 l118 y118 z118 st118 hQ118
    subst l118 y118 z118
    obtain ⟨rfl, N118q, e118⟩ := hQ118
    have N118 := Fr.app N116 N118q
    refine .st st118 ?_
    show OwnGo p e below s _ _ _ T118 (mkF m 35 _ [(.int c1)])
    refine .sipush X118 hx (hb hby d9_35) own_ks255 ?_
    refine .icmpYes (pc := 38) X118 hx 54 (hb hby d9_38) (tlt (hk : (255 : Int32) < c1)).2.2.1 (by decide) (by decide) ?_
    refine .aload X118 hx (hb hby d9_54) rfl rfl ?_
    exact OwnGo.ret X118 hx hret hlk rfl (Or.inr (Or.inr (Or.inr (Or.inr ⟨rfl, rfl, rfl⟩)))) (hb hby d9_56) (by show QcpU3 Z a ka c0 c1 c2 h0 n0 _ T118.heap _; rw [e118]; exact ⟨t116, kb116, rfl, N118, Kp, V116, sz_t116⟩) (by decide) (by decide)
  · show OwnGo p e below s _ _ _ T116 (mkF m 32 _ [(.int (2 : Int32)), (.ref t116)])
    obtain ⟨_, _, ⟨T119, L119, k119, n119⟩, -, X119, ⟨Lc119, hQ119, l119, y119, z119⟩, st119⟩ := Jvm.LawKit.callS X116 hx (y := (⟨"java/lang/StringUTF16", "getChar", "([BI)C"⟩ : MethodName)) hown (mvT hZ (W_ hw 106 rfl)) (mvT hZ (W_ hw 107 rfl)) (mvT hZ (W_ hw 49 rfl)) (mvT hZ (W_ hw 108 rfl)) (by decide) (backOf (W := 0) (rmgetC2 l Z a0 hw [] t116 kb116 c2 (6 : Int32) [(.int (own_lo c0)), (.int (own_hi c0)), (.int (own_lo c1)), (.int (own_hi c1)), (.int (own_lo c2)), (.int (own_hi c2))] T116.heap n0 Z_ O_ S_AD S_HB S_LB V116 ⟨by decide, by decide⟩ ⟨by decide, by decide⟩ rfl rfl P_c2) hZ (W_ hw 108 rfl) (W_ hw 49 rfl) (by decide) (by decide)) (g := (mkF m 32 #[.val (.ref a), .val (.int (0 : Int32)), .val (.int (3 : Int32)), .val (.ref b114), .val (.int (2 : Int32)), .val (.ref t116)] [(.int (2 : Int32)), (.ref t116)])) rfl (by rw [hml]; rfl) (argsL := [(.ref t116), (.int (2 : Int32))]) (rest := []) (lenOf pd_9 rfl) rfl (Nat.le_of_eq rfl) (hb hby d9_32) (fun _ _ => ⟨rfl, rfl, (by decide : 2 + 0 ≤ _), (by decide : 9 + 0 ≤ _)⟩)
    dsimp only [Pt.U, Pt.locs, Pt.cells, Pt.slots] at X119 l119 y119 z119 st119 hQ119
    subst l119 y119 z119
    obtain ⟨rfl, N119q, e119⟩ := hQ119
    have N119 := Fr.app N116 N119q
    refine .st st119 ?_
    show OwnGo p e below s _ _ _ T119 (mkF m 35 _ [(.int c2)])
    refine .sipush X119 hx (hb hby d9_35) own_ks255 ?_
    refine .icmpYes (pc := 38) X119 hx 54 (hb hby d9_38) (tlt (hk : (255 : Int32) < c2)).2.2.1 (by decide) (by decide) ?_
    refine .aload X119 hx (hb hby d9_54) rfl rfl ?_
    exact OwnGo.ret X119 hx hret hlk rfl (Or.inr (Or.inr (Or.inr (Or.inr ⟨rfl, rfl, rfl⟩)))) (hb hby d9_56) (by show QcpU3 Z a ka c0 c1 c2 h0 n0 _ T119.heap _; rw [e119]; exact ⟨t116, kb116, rfl, N119, Kp, V116, sz_t116⟩) (by decide) (by decide)
def QcmpL4 (Z : State) (a : Addr) (ka : ClassId) (c0 : Int32) (c1 : Int32) (c2 : Int32) (c3 : Int32) (d : Addr) (kd : ClassId) (h0 : Heap) (n0 : Nat) (v : Option Value) (h : Heap) (L : List Loc) : Prop := v = some (.int (4 : Int32)) ∧ Fr n0 L ∧ Keep h0 h [d] ∧ Arv Z h d kd .byte (4 : Int32) [(.int c0.toInt8.toInt32), (.int c1.toInt8.toInt32), (.int c2.toInt8.toInt32), (.int c3.toInt8.toInt32)] (.int (0 : Int32))
theorem rmcmpL4 (l : Launch) (Z : State) (a0 : Array Value) (hw : own_tb a0 Z) (ws : List Jvm.Cond) (a : Addr) (ka : ClassId) (c0 : Int32) (c1 : Int32) (c2 : Int32) (c3 : Int32) (d : Addr) (kd : ClassId) (h0 : Heap) (n0 : Nat) (Z0 : n0 ≤ h0.size) (V_a : Arv Z h0 a ka .char (4 : Int32) [(.int c0), (.int c1), (.int c2), (.int c3)] (.int (0 : Int32))) (V_d : Arv Z h0 d kd .byte (4 : Int32) [(.int (0 : Int32)), (.int (0 : Int32)), (.int (0 : Int32)), (.int (0 : Int32))] (.int (0 : Int32))) (g_d : n0 ≤ d) (ne_a_d : a ≠ d) (hl : ¬ (255 : Int32) < c0 ∧ ¬ (255 : Int32) < c1 ∧ ¬ (255 : Int32) < c2 ∧ ¬ (255 : Int32) < c3) :
    OwnMet l (⟨"java/lang/StringUTF16", "compress", "([CI[BII)I"⟩ : MethodName) jdk_52_method_21_code 7 (some .int) ws ({ frames := 0, cells := 0, slots := 0, locals := 0 } : Room) #[(.ref a), (.int (0 : Int32)), (.ref d), (.int (0 : Int32)), (.int (4 : Int32))] Z h0 (QcmpL4 Z a ka c0 c1 c2 c3 d kd h0 n0) := by
  refine own_met (plainFor_of_name pn_23) ?_
  intro p e s m below meth c s₁ X0 hx hby hml hret hlk hown hnm hZ e0
  have N0 := Fr.nil n0
  have Z_ := Z0
  refine OwnGo.cast (ef_cmpL4 m a (0 : Int32) d (0 : Int32) (4 : Int32)) ?_
  show OwnGo p e below s _ _ _ s₁ (mkF m 0 _ [])
  have Kp : Keep h0 h0 [d] := Keep.refl h0 [d]
  refine .iconst X0 hx (hb hby d10_0) own_ki0 ?_
  refine .istore X0 hx (hb hby d10_1) (L' := #[.val (.ref a), .val (.int (0 : Int32)), .val (.ref d), .val (.int (0 : Int32)), .val (.int (4 : Int32)), .val (.int (0 : Int32)), .unset]) rfl ?_
  refine .iload X0 hx (hb hby d10_3) rfl ?_
  refine .iload X0 hx (hb hby d10_5) rfl ?_
  refine .icmpNo X0 hx (hb hby d10_7) (tlt ((by decide) : (0 : Int32) < (4 : Int32))).2.1 ?_
  refine .aloadN X0 hx (hb hby d10_10) rfl rfl ?_
  refine .iloadN X0 hx (hb hby d10_11) rfl ?_
  obtain ⟨cl120, Ar120, -, S120, -, H120, -⟩ := id V_a
  have hin120 : ¬ ((0 : Int32) < 0 ∨ cl120.slots.size ≤ ((0 : Int32)).toNatClampNeg) := inb_of S120 ⟨by decide, by decide⟩
  refine .st (fun _ => X0.caload hx (j := (0 : Int32)) (v := (.int c0)) (by first | exact Ar120.1 | (rw [e0]; exact Ar120.1)) (State.isArrayOf_alike hZ.alike Ar120.2.1) Ar120.2.2 hin120 (H120.at hin120 rfl) (g := (mkF m 12 #[.val (.ref a), .val (.int (0 : Int32)), .val (.ref d), .val (.int (0 : Int32)), .val (.int (4 : Int32)), .val (.int (0 : Int32)), .unset] [(.int (0 : Int32)), (.ref a)])) rfl rfl (hb hby d10_12) _) ?_
  show OwnGo p e below s _ _ _ s₁ (mkF m 13 _ [(.int c0)])
  refine .istore X0 hx (hb hby d10_13) (L' := #[.val (.ref a), .val (.int (0 : Int32)), .val (.ref d), .val (.int (0 : Int32)), .val (.int (4 : Int32)), .val (.int (0 : Int32)), .val (.int c0)]) rfl ?_
  refine .iload X0 hx (hb hby d10_15) rfl ?_
  refine .sipush X0 hx (hb hby d10_17) own_ks255 ?_
  refine .icmpYes (pc := 20) X0 hx 26 (hb hby d10_20) (flt (hl.1 : ¬ ((255 : Int32) < c0))).2.2.2 (by decide) (by decide) ?_
  refine .aloadN X0 hx (hb hby d10_26) rfl rfl ?_
  refine .iloadN X0 hx (hb hby d10_27) rfl ?_
  refine .iload X0 hx (hb hby d10_28) rfl ?_
  refine .st (fun _ => XS.i2b X0.here hx rfl (hb hby d10_30) rfl) ?_
  show OwnGo p e below s _ _ _ s₁ (mkF m 31 _ [(.int (c0.toInt8.toInt32)), (.int (0 : Int32)), (.ref d)])
  obtain ⟨cl121, Ar121, q121, S121, N121, H121, G121⟩ := id V_d
  have hin121 : ¬ ((0 : Int32) < 0 ∨ cl121.slots.size ≤ ((0 : Int32)).toNatClampNeg) := inb_of S121 ⟨by decide, by decide⟩
  obtain ⟨T121, h121, X121, e121, W121, st121⟩ := stB X0 hx hZ e0 Ar121 (j := (0 : Int32)) hin121 (g := (mkF m 31 #[.val (.ref a), .val (.int (0 : Int32)), .val (.ref d), .val (.int (0 : Int32)), .val (.int (4 : Int32)), .val (.int (0 : Int32)), .val (.int c0)] [(.int (c0.toInt8.toInt32)), (.int (0 : Int32)), (.ref d)])) rfl rfl (hb hby d10_31)
  have V_d : Arv Z h121 d kd .byte (4 : Int32) [(.int (nar .byte (c0.toInt8.toInt32))), (.int (0 : Int32)), (.int (0 : Int32)), (.int (0 : Int32))] (.int (0 : Int32)) := Arv.set Ar121 q121 S121 N121 H121 G121 (fits_nar_byte _) W121 0 rfl (Nat.le_of_ble_eq_true rfl)
  rw [show nar .byte (c0.toInt8.toInt32) = (c0.toInt8.toInt32) from (own_nb _)] at V_d
  have V_a := V_a.other W121 ne_a_d
  have Kp := Kp.wr W121 (Or.inl (List.mem_of_getElem? (i := 0) rfl))
  have N121 := Fr.snoc X121 N0 g_d
  have Z_ : n0 ≤ h121.size := by rw [W121.size]; exact Z_
  refine .st st121 ?_
  show OwnGo p e below s _ _ _ T121 (mkF m 32 _ [])
  refine .iinc X121 hx (hb hby d10_32) rfl own_ka0_1 (L' := #[.val (.ref a), .val (.int (1 : Int32)), .val (.ref d), .val (.int (0 : Int32)), .val (.int (4 : Int32)), .val (.int (0 : Int32)), .val (.int c0)]) rfl ?_
  refine .iinc X121 hx (hb hby d10_35) rfl own_ka0_1 (L' := #[.val (.ref a), .val (.int (1 : Int32)), .val (.ref d), .val (.int (1 : Int32)), .val (.int (4 : Int32)), .val (.int (0 : Int32)), .val (.int c0)]) rfl ?_
  refine .iinc X121 hx (hb hby d10_38) rfl own_ka0_1 (L' := #[.val (.ref a), .val (.int (1 : Int32)), .val (.ref d), .val (.int (1 : Int32)), .val (.int (4 : Int32)), .val (.int (1 : Int32)), .val (.int c0)]) rfl ?_
  refine .goto (pc := 41) X121 hx 3 (hb hby d10_41) (by decide) (by decide) ?_
  refine .iload X121 hx (hb hby d10_3) rfl ?_
  refine .iload X121 hx (hb hby d10_5) rfl ?_
  refine .icmpNo X121 hx (hb hby d10_7) (tlt ((by decide) : (1 : Int32) < (4 : Int32))).2.1 ?_
  refine .aloadN X121 hx (hb hby d10_10) rfl rfl ?_
  refine .iloadN X121 hx (hb hby d10_11) rfl ?_
  obtain ⟨cl122, Ar122, -, S122, -, H122, -⟩ := id V_a
  have hin122 : ¬ ((1 : Int32) < 0 ∨ cl122.slots.size ≤ ((1 : Int32)).toNatClampNeg) := inb_of S122 ⟨by decide, by decide⟩
  refine .st (fun _ => X121.caload hx (j := (1 : Int32)) (v := (.int c1)) (by first | exact Ar122.1 | (rw [e121]; exact Ar122.1)) (State.isArrayOf_alike hZ.alike Ar122.2.1) Ar122.2.2 hin122 (H122.at hin122 rfl) (g := (mkF m 12 #[.val (.ref a), .val (.int (1 : Int32)), .val (.ref d), .val (.int (1 : Int32)), .val (.int (4 : Int32)), .val (.int (1 : Int32)), .val (.int c0)] [(.int (1 : Int32)), (.ref a)])) rfl rfl (hb hby d10_12) _) ?_
  show OwnGo p e below s _ _ _ T121 (mkF m 13 _ [(.int c1)])
  refine .istore X121 hx (hb hby d10_13) (L' := #[.val (.ref a), .val (.int (1 : Int32)), .val (.ref d), .val (.int (1 : Int32)), .val (.int (4 : Int32)), .val (.int (1 : Int32)), .val (.int c1)]) rfl ?_
  refine .iload X121 hx (hb hby d10_15) rfl ?_
  refine .sipush X121 hx (hb hby d10_17) own_ks255 ?_
  refine .icmpYes (pc := 20) X121 hx 26 (hb hby d10_20) (flt (hl.2.1 : ¬ ((255 : Int32) < c1))).2.2.2 (by decide) (by decide) ?_
  refine .aloadN X121 hx (hb hby d10_26) rfl rfl ?_
  refine .iloadN X121 hx (hb hby d10_27) rfl ?_
  refine .iload X121 hx (hb hby d10_28) rfl ?_
  refine .st (fun _ => XS.i2b X121.here hx rfl (hb hby d10_30) rfl) ?_
  show OwnGo p e below s _ _ _ T121 (mkF m 31 _ [(.int (c1.toInt8.toInt32)), (.int (1 : Int32)), (.ref d)])
  obtain ⟨cl123, Ar123, q123, S123, N123, H123, G123⟩ := id V_d
  have hin123 : ¬ ((1 : Int32) < 0 ∨ cl123.slots.size ≤ ((1 : Int32)).toNatClampNeg) := inb_of S123 ⟨by decide, by decide⟩
  obtain ⟨T123, h123, X123, e123, W123, st123⟩ := stB X121 hx hZ e121 Ar123 (j := (1 : Int32)) hin123 (g := (mkF m 31 #[.val (.ref a), .val (.int (1 : Int32)), .val (.ref d), .val (.int (1 : Int32)), .val (.int (4 : Int32)), .val (.int (1 : Int32)), .val (.int c1)] [(.int (c1.toInt8.toInt32)), (.int (1 : Int32)), (.ref d)])) rfl rfl (hb hby d10_31)
  have V_d : Arv Z h123 d kd .byte (4 : Int32) [(.int (c0.toInt8.toInt32)), (.int (nar .byte (c1.toInt8.toInt32))), (.int (0 : Int32)), (.int (0 : Int32))] (.int (0 : Int32)) := Arv.set Ar123 q123 S123 N123 H123 G123 (fits_nar_byte _) W123 1 rfl (Nat.le_of_ble_eq_true rfl)
  rw [show nar .byte (c1.toInt8.toInt32) = (c1.toInt8.toInt32) from (own_nb _)] at V_d
  have V_a := V_a.other W123 ne_a_d
  have Kp := Kp.wr W123 (Or.inl (List.mem_of_getElem? (i := 0) rfl))
  have N123 := Fr.snoc X123 N121 g_d
  have Z_ : n0 ≤ h123.size := by rw [W123.size]; exact Z_
  refine .st st123 ?_
  show OwnGo p e below s _ _ _ T123 (mkF m 32 _ [])
  refine .iinc X123 hx (hb hby d10_32) rfl own_ka1_1 (L' := #[.val (.ref a), .val (.int (2 : Int32)), .val (.ref d), .val (.int (1 : Int32)), .val (.int (4 : Int32)), .val (.int (1 : Int32)), .val (.int c1)]) rfl ?_
  refine .iinc X123 hx (hb hby d10_35) rfl own_ka1_1 (L' := #[.val (.ref a), .val (.int (2 : Int32)), .val (.ref d), .val (.int (2 : Int32)), .val (.int (4 : Int32)), .val (.int (1 : Int32)), .val (.int c1)]) rfl ?_
  refine .iinc X123 hx (hb hby d10_38) rfl own_ka1_1 (L' := #[.val (.ref a), .val (.int (2 : Int32)), .val (.ref d), .val (.int (2 : Int32)), .val (.int (4 : Int32)), .val (.int (2 : Int32)), .val (.int c1)]) rfl ?_
  refine .goto (pc := 41) X123 hx 3 (hb hby d10_41) (by decide) (by decide) ?_
  refine .iload X123 hx (hb hby d10_3) rfl ?_
  refine .iload X123 hx (hb hby d10_5) rfl ?_
  refine .icmpNo X123 hx (hb hby d10_7) (tlt ((by decide) : (2 : Int32) < (4 : Int32))).2.1 ?_
  refine .aloadN X123 hx (hb hby d10_10) rfl rfl ?_
  refine .iloadN X123 hx (hb hby d10_11) rfl ?_
  obtain ⟨cl124, Ar124, -, S124, -, H124, -⟩ := id V_a
  have hin124 : ¬ ((2 : Int32) < 0 ∨ cl124.slots.size ≤ ((2 : Int32)).toNatClampNeg) := inb_of S124 ⟨by decide, by decide⟩
  refine .st (fun _ => X123.caload hx (j := (2 : Int32)) (v := (.int c2)) (by first | exact Ar124.1 | (rw [e123]; exact Ar124.1)) (State.isArrayOf_alike hZ.alike Ar124.2.1) Ar124.2.2 hin124 (H124.at hin124 rfl) (g := (mkF m 12 #[.val (.ref a), .val (.int (2 : Int32)), .val (.ref d), .val (.int (2 : Int32)), .val (.int (4 : Int32)), .val (.int (2 : Int32)), .val (.int c1)] [(.int (2 : Int32)), (.ref a)])) rfl rfl (hb hby d10_12) _) ?_
  show OwnGo p e below s _ _ _ T123 (mkF m 13 _ [(.int c2)])
  refine .istore X123 hx (hb hby d10_13) (L' := #[.val (.ref a), .val (.int (2 : Int32)), .val (.ref d), .val (.int (2 : Int32)), .val (.int (4 : Int32)), .val (.int (2 : Int32)), .val (.int c2)]) rfl ?_
  refine .iload X123 hx (hb hby d10_15) rfl ?_
  refine .sipush X123 hx (hb hby d10_17) own_ks255 ?_
  refine .icmpYes (pc := 20) X123 hx 26 (hb hby d10_20) (flt (hl.2.2.1 : ¬ ((255 : Int32) < c2))).2.2.2 (by decide) (by decide) ?_
  refine .aloadN X123 hx (hb hby d10_26) rfl rfl ?_
  refine .iloadN X123 hx (hb hby d10_27) rfl ?_
  refine .iload X123 hx (hb hby d10_28) rfl ?_
  refine .st (fun _ => XS.i2b X123.here hx rfl (hb hby d10_30) rfl) ?_
  show OwnGo p e below s _ _ _ T123 (mkF m 31 _ [(.int (c2.toInt8.toInt32)), (.int (2 : Int32)), (.ref d)])
  obtain ⟨cl125, Ar125, q125, S125, N125, H125, G125⟩ := id V_d
  have hin125 : ¬ ((2 : Int32) < 0 ∨ cl125.slots.size ≤ ((2 : Int32)).toNatClampNeg) := inb_of S125 ⟨by decide, by decide⟩
  obtain ⟨T125, h125, X125, e125, W125, st125⟩ := stB X123 hx hZ e123 Ar125 (j := (2 : Int32)) hin125 (g := (mkF m 31 #[.val (.ref a), .val (.int (2 : Int32)), .val (.ref d), .val (.int (2 : Int32)), .val (.int (4 : Int32)), .val (.int (2 : Int32)), .val (.int c2)] [(.int (c2.toInt8.toInt32)), (.int (2 : Int32)), (.ref d)])) rfl rfl (hb hby d10_31)
  have V_d : Arv Z h125 d kd .byte (4 : Int32) [(.int (c0.toInt8.toInt32)), (.int (c1.toInt8.toInt32)), (.int (nar .byte (c2.toInt8.toInt32))), (.int (0 : Int32))] (.int (0 : Int32)) := Arv.set Ar125 q125 S125 N125 H125 G125 (fits_nar_byte _) W125 2 rfl (Nat.le_of_ble_eq_true rfl)
  rw [show nar .byte (c2.toInt8.toInt32) = (c2.toInt8.toInt32) from (own_nb _)] at V_d
  have V_a := V_a.other W125 ne_a_d
  have Kp := Kp.wr W125 (Or.inl (List.mem_of_getElem? (i := 0) rfl))
  have N125 := Fr.snoc X125 N123 g_d
  have Z_ : n0 ≤ h125.size := by rw [W125.size]; exact Z_
  refine .st st125 ?_
  show OwnGo p e below s _ _ _ T125 (mkF m 32 _ [])
  refine .iinc X125 hx (hb hby d10_32) rfl own_ka2_1 (L' := #[.val (.ref a), .val (.int (3 : Int32)), .val (.ref d), .val (.int (2 : Int32)), .val (.int (4 : Int32)), .val (.int (2 : Int32)), .val (.int c2)]) rfl ?_
  refine .iinc X125 hx (hb hby d10_35) rfl own_ka2_1 (L' := #[.val (.ref a), .val (.int (3 : Int32)), .val (.ref d), .val (.int (3 : Int32)), .val (.int (4 : Int32)), .val (.int (2 : Int32)), .val (.int c2)]) rfl ?_
  refine .iinc X125 hx (hb hby d10_38) rfl own_ka2_1 (L' := #[.val (.ref a), .val (.int (3 : Int32)), .val (.ref d), .val (.int (3 : Int32)), .val (.int (4 : Int32)), .val (.int (3 : Int32)), .val (.int c2)]) rfl ?_
  refine .goto (pc := 41) X125 hx 3 (hb hby d10_41) (by decide) (by decide) ?_
  refine .iload X125 hx (hb hby d10_3) rfl ?_
  refine .iload X125 hx (hb hby d10_5) rfl ?_
  refine .icmpNo X125 hx (hb hby d10_7) (tlt ((by decide) : (3 : Int32) < (4 : Int32))).2.1 ?_
  refine .aloadN X125 hx (hb hby d10_10) rfl rfl ?_
  refine .iloadN X125 hx (hb hby d10_11) rfl ?_
  obtain ⟨cl126, Ar126, -, S126, -, H126, -⟩ := id V_a
  have hin126 : ¬ ((3 : Int32) < 0 ∨ cl126.slots.size ≤ ((3 : Int32)).toNatClampNeg) := inb_of S126 ⟨by decide, by decide⟩
  refine .st (fun _ => X125.caload hx (j := (3 : Int32)) (v := (.int c3)) (by first | exact Ar126.1 | (rw [e125]; exact Ar126.1)) (State.isArrayOf_alike hZ.alike Ar126.2.1) Ar126.2.2 hin126 (H126.at hin126 rfl) (g := (mkF m 12 #[.val (.ref a), .val (.int (3 : Int32)), .val (.ref d), .val (.int (3 : Int32)), .val (.int (4 : Int32)), .val (.int (3 : Int32)), .val (.int c2)] [(.int (3 : Int32)), (.ref a)])) rfl rfl (hb hby d10_12) _) ?_
  show OwnGo p e below s _ _ _ T125 (mkF m 13 _ [(.int c3)])
  refine .istore X125 hx (hb hby d10_13) (L' := #[.val (.ref a), .val (.int (3 : Int32)), .val (.ref d), .val (.int (3 : Int32)), .val (.int (4 : Int32)), .val (.int (3 : Int32)), .val (.int c3)]) rfl ?_
  refine .iload X125 hx (hb hby d10_15) rfl ?_
  refine .sipush X125 hx (hb hby d10_17) own_ks255 ?_
  refine .icmpYes (pc := 20) X125 hx 26 (hb hby d10_20) (flt (hl.2.2.2 : ¬ ((255 : Int32) < c3))).2.2.2 (by decide) (by decide) ?_
  refine .aloadN X125 hx (hb hby d10_26) rfl rfl ?_
  refine .iloadN X125 hx (hb hby d10_27) rfl ?_
  refine .iload X125 hx (hb hby d10_28) rfl ?_
  refine .st (fun _ => XS.i2b X125.here hx rfl (hb hby d10_30) rfl) ?_
  show OwnGo p e below s _ _ _ T125 (mkF m 31 _ [(.int (c3.toInt8.toInt32)), (.int (3 : Int32)), (.ref d)])
  obtain ⟨cl127, Ar127, q127, S127, N127, H127, G127⟩ := id V_d
  have hin127 : ¬ ((3 : Int32) < 0 ∨ cl127.slots.size ≤ ((3 : Int32)).toNatClampNeg) := inb_of S127 ⟨by decide, by decide⟩
  obtain ⟨T127, h127, X127, e127, W127, st127⟩ := stB X125 hx hZ e125 Ar127 (j := (3 : Int32)) hin127 (g := (mkF m 31 #[.val (.ref a), .val (.int (3 : Int32)), .val (.ref d), .val (.int (3 : Int32)), .val (.int (4 : Int32)), .val (.int (3 : Int32)), .val (.int c3)] [(.int (c3.toInt8.toInt32)), (.int (3 : Int32)), (.ref d)])) rfl rfl (hb hby d10_31)
  have V_d : Arv Z h127 d kd .byte (4 : Int32) [(.int (c0.toInt8.toInt32)), (.int (c1.toInt8.toInt32)), (.int (c2.toInt8.toInt32)), (.int (nar .byte (c3.toInt8.toInt32)))] (.int (0 : Int32)) := Arv.set Ar127 q127 S127 N127 H127 G127 (fits_nar_byte _) W127 3 rfl (Nat.le_of_ble_eq_true rfl)
  rw [show nar .byte (c3.toInt8.toInt32) = (c3.toInt8.toInt32) from (own_nb _)] at V_d
  have V_a := V_a.other W127 ne_a_d
  have Kp := Kp.wr W127 (Or.inl (List.mem_of_getElem? (i := 0) rfl))
  have N127 := Fr.snoc X127 N125 g_d
  have Z_ : n0 ≤ h127.size := by rw [W127.size]; exact Z_
  refine .st st127 ?_
  show OwnGo p e below s _ _ _ T127 (mkF m 32 _ [])
  refine .iinc X127 hx (hb hby d10_32) rfl own_ka3_1 (L' := #[.val (.ref a), .val (.int (4 : Int32)), .val (.ref d), .val (.int (3 : Int32)), .val (.int (4 : Int32)), .val (.int (3 : Int32)), .val (.int c3)]) rfl ?_
  refine .iinc X127 hx (hb hby d10_35) rfl own_ka3_1 (L' := #[.val (.ref a), .val (.int (4 : Int32)), .val (.ref d), .val (.int (4 : Int32)), .val (.int (4 : Int32)), .val (.int (3 : Int32)), .val (.int c3)]) rfl ?_
  refine .iinc X127 hx (hb hby d10_38) rfl own_ka3_1 (L' := #[.val (.ref a), .val (.int (4 : Int32)), .val (.ref d), .val (.int (4 : Int32)), .val (.int (4 : Int32)), .val (.int (4 : Int32)), .val (.int c3)]) rfl ?_
  refine .goto (pc := 41) X127 hx 3 (hb hby d10_41) (by decide) (by decide) ?_
  refine .iload X127 hx (hb hby d10_3) rfl ?_
  refine .iload X127 hx (hb hby d10_5) rfl ?_
  refine .icmpYes (pc := 7) X127 hx 44 (hb hby d10_7) (flt ((by decide) : ¬ ((4 : Int32) < (4 : Int32)))).2.1 (by decide) (by decide) ?_
  refine .iload X127 hx (hb hby d10_44) rfl ?_
  exact OwnGo.ret X127 hx hret hlk rfl (Or.inl ⟨rfl, Or.inl rfl, _, rfl⟩) (hb hby d10_46) (by show QcmpL4 Z a ka c0 c1 c2 c3 d kd h0 n0 _ T127.heap _; rw [e127]; exact ⟨rfl, N127, Kp, V_d⟩) (by decide) (by decide)
def QcmpU4 (Z : State) (a : Addr) (ka : ClassId) (c0 : Int32) (c1 : Int32) (c2 : Int32) (c3 : Int32) (d : Addr) (kd : ClassId) (h0 : Heap) (n0 : Nat) (v : Option Value) (h : Heap) (L : List Loc) : Prop := ∃ k : Int32, v = some (.int k) ∧ Fr n0 L ∧ Keep h0 h [d] ∧ ((k = (0 : Int32) ∧ (255 : Int32) < c0) ∨ (k = (1 : Int32) ∧ (255 : Int32) < c1) ∨ (k = (2 : Int32) ∧ (255 : Int32) < c2) ∨ (k = (3 : Int32) ∧ (255 : Int32) < c3))
theorem rmcmpU4 (l : Launch) (Z : State) (a0 : Array Value) (hw : own_tb a0 Z) (ws : List Jvm.Cond) (a : Addr) (ka : ClassId) (c0 : Int32) (c1 : Int32) (c2 : Int32) (c3 : Int32) (d : Addr) (kd : ClassId) (h0 : Heap) (n0 : Nat) (Z0 : n0 ≤ h0.size) (V_a : Arv Z h0 a ka .char (4 : Int32) [(.int c0), (.int c1), (.int c2), (.int c3)] (.int (0 : Int32))) (V_d : Arv Z h0 d kd .byte (4 : Int32) [(.int (0 : Int32)), (.int (0 : Int32)), (.int (0 : Int32)), (.int (0 : Int32))] (.int (0 : Int32))) (g_d : n0 ≤ d) (ne_a_d : a ≠ d) (hb_ : (255 : Int32) < c0 ∨ (255 : Int32) < c1 ∨ (255 : Int32) < c2 ∨ (255 : Int32) < c3) :
    OwnMet l (⟨"java/lang/StringUTF16", "compress", "([CI[BII)I"⟩ : MethodName) jdk_52_method_21_code 7 (some .int) ws ({ frames := 0, cells := 0, slots := 0, locals := 0 } : Room) #[(.ref a), (.int (0 : Int32)), (.ref d), (.int (0 : Int32)), (.int (4 : Int32))] Z h0 (QcmpU4 Z a ka c0 c1 c2 c3 d kd h0 n0) := by
  refine own_met (plainFor_of_name pn_23) ?_
  intro p e s m below meth c s₁ X0 hx hby hml hret hlk hown hnm hZ e0
  have N0 := Fr.nil n0
  have Z_ := Z0
  refine OwnGo.cast (ef_cmpU4 m a (0 : Int32) d (0 : Int32) (4 : Int32)) ?_
  show OwnGo p e below s _ _ _ s₁ (mkF m 0 _ [])
  have Kp : Keep h0 h0 [d] := Keep.refl h0 [d]
  refine .iconst X0 hx (hb hby d10_0) own_ki0 ?_
  refine .istore X0 hx (hb hby d10_1) (L' := #[.val (.ref a), .val (.int (0 : Int32)), .val (.ref d), .val (.int (0 : Int32)), .val (.int (4 : Int32)), .val (.int (0 : Int32)), .unset]) rfl ?_
  refine .iload X0 hx (hb hby d10_3) rfl ?_
  refine .iload X0 hx (hb hby d10_5) rfl ?_
  refine .icmpNo X0 hx (hb hby d10_7) (tlt ((by decide) : (0 : Int32) < (4 : Int32))).2.1 ?_
  refine .aloadN X0 hx (hb hby d10_10) rfl rfl ?_
  refine .iloadN X0 hx (hb hby d10_11) rfl ?_
  obtain ⟨cl128, Ar128, -, S128, -, H128, -⟩ := id V_a
  have hin128 : ¬ ((0 : Int32) < 0 ∨ cl128.slots.size ≤ ((0 : Int32)).toNatClampNeg) := inb_of S128 ⟨by decide, by decide⟩
  refine .st (fun _ => X0.caload hx (j := (0 : Int32)) (v := (.int c0)) (by first | exact Ar128.1 | (rw [e0]; exact Ar128.1)) (State.isArrayOf_alike hZ.alike Ar128.2.1) Ar128.2.2 hin128 (H128.at hin128 rfl) (g := (mkF m 12 #[.val (.ref a), .val (.int (0 : Int32)), .val (.ref d), .val (.int (0 : Int32)), .val (.int (4 : Int32)), .val (.int (0 : Int32)), .unset] [(.int (0 : Int32)), (.ref a)])) rfl rfl (hb hby d10_12) _) ?_
  show OwnGo p e below s _ _ _ s₁ (mkF m 13 _ [(.int c0)])
  refine .istore X0 hx (hb hby d10_13) (L' := #[.val (.ref a), .val (.int (0 : Int32)), .val (.ref d), .val (.int (0 : Int32)), .val (.int (4 : Int32)), .val (.int (0 : Int32)), .val (.int c0)]) rfl ?_
  refine .iload X0 hx (hb hby d10_15) rfl ?_
  refine .sipush X0 hx (hb hby d10_17) own_ks255 ?_
  by_cases q0 : (255 : Int32) < c0
  · refine .icmpNo X0 hx (hb hby d10_20) (tlt (q0 : (255 : Int32) < c0)).2.2.2 ?_
    refine .iload X0 hx (hb hby d10_23) rfl ?_
    exact OwnGo.ret X0 hx hret hlk rfl (Or.inl ⟨rfl, Or.inl rfl, _, rfl⟩) (hb hby d10_25) (by show QcmpU4 Z a ka c0 c1 c2 c3 d kd h0 n0 _ s₁.heap _; rw [e0]; exact ⟨_, rfl, N0, Kp, (Or.inl ⟨rfl, q0⟩)⟩) (by decide) (by decide)
  · refine .icmpYes (pc := 20) X0 hx 26 (hb hby d10_20) (flt (q0 : ¬ ((255 : Int32) < c0))).2.2.2 (by decide) (by decide) ?_
    refine .aloadN X0 hx (hb hby d10_26) rfl rfl ?_
    refine .iloadN X0 hx (hb hby d10_27) rfl ?_
    refine .iload X0 hx (hb hby d10_28) rfl ?_
    refine .st (fun _ => XS.i2b X0.here hx rfl (hb hby d10_30) rfl) ?_
    show OwnGo p e below s _ _ _ s₁ (mkF m 31 _ [(.int (c0.toInt8.toInt32)), (.int (0 : Int32)), (.ref d)])
    obtain ⟨cl129, Ar129, q129, S129, N129, H129, G129⟩ := id V_d
    have hin129 : ¬ ((0 : Int32) < 0 ∨ cl129.slots.size ≤ ((0 : Int32)).toNatClampNeg) := inb_of S129 ⟨by decide, by decide⟩
    obtain ⟨T129, h129, X129, e129, W129, st129⟩ := stB X0 hx hZ e0 Ar129 (j := (0 : Int32)) hin129 (g := (mkF m 31 #[.val (.ref a), .val (.int (0 : Int32)), .val (.ref d), .val (.int (0 : Int32)), .val (.int (4 : Int32)), .val (.int (0 : Int32)), .val (.int c0)] [(.int (c0.toInt8.toInt32)), (.int (0 : Int32)), (.ref d)])) rfl rfl (hb hby d10_31)
    have V_d : Arv Z h129 d kd .byte (4 : Int32) [(.int (nar .byte (c0.toInt8.toInt32))), (.int (0 : Int32)), (.int (0 : Int32)), (.int (0 : Int32))] (.int (0 : Int32)) := Arv.set Ar129 q129 S129 N129 H129 G129 (fits_nar_byte _) W129 0 rfl (Nat.le_of_ble_eq_true rfl)
    rw [show nar .byte (c0.toInt8.toInt32) = (c0.toInt8.toInt32) from (own_nb _)] at V_d
    have V_a := V_a.other W129 ne_a_d
    have Kp := Kp.wr W129 (Or.inl (List.mem_of_getElem? (i := 0) rfl))
    have N129 := Fr.snoc X129 N0 g_d
    have Z_ : n0 ≤ h129.size := by rw [W129.size]; exact Z_
    refine .st st129 ?_
    show OwnGo p e below s _ _ _ T129 (mkF m 32 _ [])
    refine .iinc X129 hx (hb hby d10_32) rfl own_ka0_1 (L' := #[.val (.ref a), .val (.int (1 : Int32)), .val (.ref d), .val (.int (0 : Int32)), .val (.int (4 : Int32)), .val (.int (0 : Int32)), .val (.int c0)]) rfl ?_
    refine .iinc X129 hx (hb hby d10_35) rfl own_ka0_1 (L' := #[.val (.ref a), .val (.int (1 : Int32)), .val (.ref d), .val (.int (1 : Int32)), .val (.int (4 : Int32)), .val (.int (0 : Int32)), .val (.int c0)]) rfl ?_
    refine .iinc X129 hx (hb hby d10_38) rfl own_ka0_1 (L' := #[.val (.ref a), .val (.int (1 : Int32)), .val (.ref d), .val (.int (1 : Int32)), .val (.int (4 : Int32)), .val (.int (1 : Int32)), .val (.int c0)]) rfl ?_
    refine .goto (pc := 41) X129 hx 3 (hb hby d10_41) (by decide) (by decide) ?_
    refine .iload X129 hx (hb hby d10_3) rfl ?_
    refine .iload X129 hx (hb hby d10_5) rfl ?_
    refine .icmpNo X129 hx (hb hby d10_7) (tlt ((by decide) : (1 : Int32) < (4 : Int32))).2.1 ?_
    refine .aloadN X129 hx (hb hby d10_10) rfl rfl ?_
    refine .iloadN X129 hx (hb hby d10_11) rfl ?_
    obtain ⟨cl130, Ar130, -, S130, -, H130, -⟩ := id V_a
    have hin130 : ¬ ((1 : Int32) < 0 ∨ cl130.slots.size ≤ ((1 : Int32)).toNatClampNeg) := inb_of S130 ⟨by decide, by decide⟩
    refine .st (fun _ => X129.caload hx (j := (1 : Int32)) (v := (.int c1)) (by first | exact Ar130.1 | (rw [e129]; exact Ar130.1)) (State.isArrayOf_alike hZ.alike Ar130.2.1) Ar130.2.2 hin130 (H130.at hin130 rfl) (g := (mkF m 12 #[.val (.ref a), .val (.int (1 : Int32)), .val (.ref d), .val (.int (1 : Int32)), .val (.int (4 : Int32)), .val (.int (1 : Int32)), .val (.int c0)] [(.int (1 : Int32)), (.ref a)])) rfl rfl (hb hby d10_12) _) ?_
    show OwnGo p e below s _ _ _ T129 (mkF m 13 _ [(.int c1)])
    refine .istore X129 hx (hb hby d10_13) (L' := #[.val (.ref a), .val (.int (1 : Int32)), .val (.ref d), .val (.int (1 : Int32)), .val (.int (4 : Int32)), .val (.int (1 : Int32)), .val (.int c1)]) rfl ?_
    refine .iload X129 hx (hb hby d10_15) rfl ?_
    refine .sipush X129 hx (hb hby d10_17) own_ks255 ?_
    by_cases q1 : (255 : Int32) < c1
    · refine .icmpNo X129 hx (hb hby d10_20) (tlt (q1 : (255 : Int32) < c1)).2.2.2 ?_
      refine .iload X129 hx (hb hby d10_23) rfl ?_
      exact OwnGo.ret X129 hx hret hlk rfl (Or.inl ⟨rfl, Or.inl rfl, _, rfl⟩) (hb hby d10_25) (by show QcmpU4 Z a ka c0 c1 c2 c3 d kd h0 n0 _ T129.heap _; rw [e129]; exact ⟨_, rfl, N129, Kp, (Or.inr (Or.inl ⟨rfl, q1⟩))⟩) (by decide) (by decide)
    · refine .icmpYes (pc := 20) X129 hx 26 (hb hby d10_20) (flt (q1 : ¬ ((255 : Int32) < c1))).2.2.2 (by decide) (by decide) ?_
      refine .aloadN X129 hx (hb hby d10_26) rfl rfl ?_
      refine .iloadN X129 hx (hb hby d10_27) rfl ?_
      refine .iload X129 hx (hb hby d10_28) rfl ?_
      refine .st (fun _ => XS.i2b X129.here hx rfl (hb hby d10_30) rfl) ?_
      show OwnGo p e below s _ _ _ T129 (mkF m 31 _ [(.int (c1.toInt8.toInt32)), (.int (1 : Int32)), (.ref d)])
      obtain ⟨cl131, Ar131, q131, S131, N131, H131, G131⟩ := id V_d
      have hin131 : ¬ ((1 : Int32) < 0 ∨ cl131.slots.size ≤ ((1 : Int32)).toNatClampNeg) := inb_of S131 ⟨by decide, by decide⟩
      obtain ⟨T131, h131, X131, e131, W131, st131⟩ := stB X129 hx hZ e129 Ar131 (j := (1 : Int32)) hin131 (g := (mkF m 31 #[.val (.ref a), .val (.int (1 : Int32)), .val (.ref d), .val (.int (1 : Int32)), .val (.int (4 : Int32)), .val (.int (1 : Int32)), .val (.int c1)] [(.int (c1.toInt8.toInt32)), (.int (1 : Int32)), (.ref d)])) rfl rfl (hb hby d10_31)
      have V_d : Arv Z h131 d kd .byte (4 : Int32) [(.int (c0.toInt8.toInt32)), (.int (nar .byte (c1.toInt8.toInt32))), (.int (0 : Int32)), (.int (0 : Int32))] (.int (0 : Int32)) := Arv.set Ar131 q131 S131 N131 H131 G131 (fits_nar_byte _) W131 1 rfl (Nat.le_of_ble_eq_true rfl)
      rw [show nar .byte (c1.toInt8.toInt32) = (c1.toInt8.toInt32) from (own_nb _)] at V_d
      have V_a := V_a.other W131 ne_a_d
      have Kp := Kp.wr W131 (Or.inl (List.mem_of_getElem? (i := 0) rfl))
      have N131 := Fr.snoc X131 N129 g_d
      have Z_ : n0 ≤ h131.size := by rw [W131.size]; exact Z_
      refine .st st131 ?_
      show OwnGo p e below s _ _ _ T131 (mkF m 32 _ [])
      refine .iinc X131 hx (hb hby d10_32) rfl own_ka1_1 (L' := #[.val (.ref a), .val (.int (2 : Int32)), .val (.ref d), .val (.int (1 : Int32)), .val (.int (4 : Int32)), .val (.int (1 : Int32)), .val (.int c1)]) rfl ?_
      refine .iinc X131 hx (hb hby d10_35) rfl own_ka1_1 (L' := #[.val (.ref a), .val (.int (2 : Int32)), .val (.ref d), .val (.int (2 : Int32)), .val (.int (4 : Int32)), .val (.int (1 : Int32)), .val (.int c1)]) rfl ?_
      refine .iinc X131 hx (hb hby d10_38) rfl own_ka1_1 (L' := #[.val (.ref a), .val (.int (2 : Int32)), .val (.ref d), .val (.int (2 : Int32)), .val (.int (4 : Int32)), .val (.int (2 : Int32)), .val (.int c1)]) rfl ?_
      refine .goto (pc := 41) X131 hx 3 (hb hby d10_41) (by decide) (by decide) ?_
      refine .iload X131 hx (hb hby d10_3) rfl ?_
      refine .iload X131 hx (hb hby d10_5) rfl ?_
      refine .icmpNo X131 hx (hb hby d10_7) (tlt ((by decide) : (2 : Int32) < (4 : Int32))).2.1 ?_
      refine .aloadN X131 hx (hb hby d10_10) rfl rfl ?_
      refine .iloadN X131 hx (hb hby d10_11) rfl ?_
      obtain ⟨cl132, Ar132, -, S132, -, H132, -⟩ := id V_a
      have hin132 : ¬ ((2 : Int32) < 0 ∨ cl132.slots.size ≤ ((2 : Int32)).toNatClampNeg) := inb_of S132 ⟨by decide, by decide⟩
      refine .st (fun _ => X131.caload hx (j := (2 : Int32)) (v := (.int c2)) (by first | exact Ar132.1 | (rw [e131]; exact Ar132.1)) (State.isArrayOf_alike hZ.alike Ar132.2.1) Ar132.2.2 hin132 (H132.at hin132 rfl) (g := (mkF m 12 #[.val (.ref a), .val (.int (2 : Int32)), .val (.ref d), .val (.int (2 : Int32)), .val (.int (4 : Int32)), .val (.int (2 : Int32)), .val (.int c1)] [(.int (2 : Int32)), (.ref a)])) rfl rfl (hb hby d10_12) _) ?_
      show OwnGo p e below s _ _ _ T131 (mkF m 13 _ [(.int c2)])
      refine .istore X131 hx (hb hby d10_13) (L' := #[.val (.ref a), .val (.int (2 : Int32)), .val (.ref d), .val (.int (2 : Int32)), .val (.int (4 : Int32)), .val (.int (2 : Int32)), .val (.int c2)]) rfl ?_
      refine .iload X131 hx (hb hby d10_15) rfl ?_
      refine .sipush X131 hx (hb hby d10_17) own_ks255 ?_
      by_cases q2 : (255 : Int32) < c2
      · refine .icmpNo X131 hx (hb hby d10_20) (tlt (q2 : (255 : Int32) < c2)).2.2.2 ?_
        refine .iload X131 hx (hb hby d10_23) rfl ?_
        exact OwnGo.ret X131 hx hret hlk rfl (Or.inl ⟨rfl, Or.inl rfl, _, rfl⟩) (hb hby d10_25) (by show QcmpU4 Z a ka c0 c1 c2 c3 d kd h0 n0 _ T131.heap _; rw [e131]; exact ⟨_, rfl, N131, Kp, (Or.inr (Or.inr (Or.inl ⟨rfl, q2⟩)))⟩) (by decide) (by decide)
      · refine .icmpYes (pc := 20) X131 hx 26 (hb hby d10_20) (flt (q2 : ¬ ((255 : Int32) < c2))).2.2.2 (by decide) (by decide) ?_
        refine .aloadN X131 hx (hb hby d10_26) rfl rfl ?_
        refine .iloadN X131 hx (hb hby d10_27) rfl ?_
        refine .iload X131 hx (hb hby d10_28) rfl ?_
        refine .st (fun _ => XS.i2b X131.here hx rfl (hb hby d10_30) rfl) ?_
        show OwnGo p e below s _ _ _ T131 (mkF m 31 _ [(.int (c2.toInt8.toInt32)), (.int (2 : Int32)), (.ref d)])
        obtain ⟨cl133, Ar133, q133, S133, N133, H133, G133⟩ := id V_d
        have hin133 : ¬ ((2 : Int32) < 0 ∨ cl133.slots.size ≤ ((2 : Int32)).toNatClampNeg) := inb_of S133 ⟨by decide, by decide⟩
        obtain ⟨T133, h133, X133, e133, W133, st133⟩ := stB X131 hx hZ e131 Ar133 (j := (2 : Int32)) hin133 (g := (mkF m 31 #[.val (.ref a), .val (.int (2 : Int32)), .val (.ref d), .val (.int (2 : Int32)), .val (.int (4 : Int32)), .val (.int (2 : Int32)), .val (.int c2)] [(.int (c2.toInt8.toInt32)), (.int (2 : Int32)), (.ref d)])) rfl rfl (hb hby d10_31)
        have V_d : Arv Z h133 d kd .byte (4 : Int32) [(.int (c0.toInt8.toInt32)), (.int (c1.toInt8.toInt32)), (.int (nar .byte (c2.toInt8.toInt32))), (.int (0 : Int32))] (.int (0 : Int32)) := Arv.set Ar133 q133 S133 N133 H133 G133 (fits_nar_byte _) W133 2 rfl (Nat.le_of_ble_eq_true rfl)
        rw [show nar .byte (c2.toInt8.toInt32) = (c2.toInt8.toInt32) from (own_nb _)] at V_d
        have V_a := V_a.other W133 ne_a_d
        have Kp := Kp.wr W133 (Or.inl (List.mem_of_getElem? (i := 0) rfl))
        have N133 := Fr.snoc X133 N131 g_d
        have Z_ : n0 ≤ h133.size := by rw [W133.size]; exact Z_
        refine .st st133 ?_
        show OwnGo p e below s _ _ _ T133 (mkF m 32 _ [])
        refine .iinc X133 hx (hb hby d10_32) rfl own_ka2_1 (L' := #[.val (.ref a), .val (.int (3 : Int32)), .val (.ref d), .val (.int (2 : Int32)), .val (.int (4 : Int32)), .val (.int (2 : Int32)), .val (.int c2)]) rfl ?_
        refine .iinc X133 hx (hb hby d10_35) rfl own_ka2_1 (L' := #[.val (.ref a), .val (.int (3 : Int32)), .val (.ref d), .val (.int (3 : Int32)), .val (.int (4 : Int32)), .val (.int (2 : Int32)), .val (.int c2)]) rfl ?_
        refine .iinc X133 hx (hb hby d10_38) rfl own_ka2_1 (L' := #[.val (.ref a), .val (.int (3 : Int32)), .val (.ref d), .val (.int (3 : Int32)), .val (.int (4 : Int32)), .val (.int (3 : Int32)), .val (.int c2)]) rfl ?_
        refine .goto (pc := 41) X133 hx 3 (hb hby d10_41) (by decide) (by decide) ?_
        refine .iload X133 hx (hb hby d10_3) rfl ?_
        refine .iload X133 hx (hb hby d10_5) rfl ?_
        refine .icmpNo X133 hx (hb hby d10_7) (tlt ((by decide) : (3 : Int32) < (4 : Int32))).2.1 ?_
        refine .aloadN X133 hx (hb hby d10_10) rfl rfl ?_
        refine .iloadN X133 hx (hb hby d10_11) rfl ?_
        obtain ⟨cl134, Ar134, -, S134, -, H134, -⟩ := id V_a
        have hin134 : ¬ ((3 : Int32) < 0 ∨ cl134.slots.size ≤ ((3 : Int32)).toNatClampNeg) := inb_of S134 ⟨by decide, by decide⟩
        refine .st (fun _ => X133.caload hx (j := (3 : Int32)) (v := (.int c3)) (by first | exact Ar134.1 | (rw [e133]; exact Ar134.1)) (State.isArrayOf_alike hZ.alike Ar134.2.1) Ar134.2.2 hin134 (H134.at hin134 rfl) (g := (mkF m 12 #[.val (.ref a), .val (.int (3 : Int32)), .val (.ref d), .val (.int (3 : Int32)), .val (.int (4 : Int32)), .val (.int (3 : Int32)), .val (.int c2)] [(.int (3 : Int32)), (.ref a)])) rfl rfl (hb hby d10_12) _) ?_
        show OwnGo p e below s _ _ _ T133 (mkF m 13 _ [(.int c3)])
        refine .istore X133 hx (hb hby d10_13) (L' := #[.val (.ref a), .val (.int (3 : Int32)), .val (.ref d), .val (.int (3 : Int32)), .val (.int (4 : Int32)), .val (.int (3 : Int32)), .val (.int c3)]) rfl ?_
        refine .iload X133 hx (hb hby d10_15) rfl ?_
        refine .sipush X133 hx (hb hby d10_17) own_ks255 ?_
        by_cases q3 : (255 : Int32) < c3
        · refine .icmpNo X133 hx (hb hby d10_20) (tlt (q3 : (255 : Int32) < c3)).2.2.2 ?_
          refine .iload X133 hx (hb hby d10_23) rfl ?_
          exact OwnGo.ret X133 hx hret hlk rfl (Or.inl ⟨rfl, Or.inl rfl, _, rfl⟩) (hb hby d10_25) (by show QcmpU4 Z a ka c0 c1 c2 c3 d kd h0 n0 _ T133.heap _; rw [e133]; exact ⟨_, rfl, N133, Kp, (Or.inr (Or.inr (Or.inr ⟨rfl, q3⟩)))⟩) (by decide) (by decide)
        · refine .icmpYes (pc := 20) X133 hx 26 (hb hby d10_20) (flt (q3 : ¬ ((255 : Int32) < c3))).2.2.2 (by decide) (by decide) ?_
          exact absurd hb_ (by simp only [not_or]; exact ⟨q0, q1, q2, q3⟩)
def QcpL4 (Z : State) (a : Addr) (ka : ClassId) (c0 : Int32) (c1 : Int32) (c2 : Int32) (c3 : Int32) (h0 : Heap) (n0 : Nat) (v : Option Value) (h : Heap) (L : List Loc) : Prop := ∃ (t : Addr) (kb : ClassId), v = some (.ref t) ∧ Fr n0 L ∧ Keep h0 h [] ∧ Arv Z h t kb .byte (4 : Int32) [(.int c0.toInt8.toInt32), (.int c1.toInt8.toInt32), (.int c2.toInt8.toInt32), (.int c3.toInt8.toInt32)] (.int (0 : Int32)) ∧ h0.size ≤ t
theorem rmcpL4 (l : Launch) (Z : State) (a0 : Array Value) (hw : own_tb a0 Z) (ws : List Jvm.Cond) (a : Addr) (ka : ClassId) (c0 : Int32) (c1 : Int32) (c2 : Int32) (c3 : Int32) (h0 : Heap) (n0 : Nat) (Z0 : n0 ≤ h0.size) (V_a : Arv Z h0 a ka .char (4 : Int32) [(.int c0), (.int c1), (.int c2), (.int c3)] (.int (0 : Int32))) (hl : ¬ (255 : Int32) < c0 ∧ ¬ (255 : Int32) < c1 ∧ ¬ (255 : Int32) < c2 ∧ ¬ (255 : Int32) < c3) :
    OwnMet l (⟨"java/lang/StringUTF16", "compress", "([CII)[B"⟩ : MethodName) jdk_52_method_16_code 6 (some (.array .byte)) ws ({ frames := 1, cells := 1, slots := 4, locals := 18 } : Room) #[(.ref a), (.int (0 : Int32)), (.int (4 : Int32))] Z h0 (QcpL4 Z a ka c0 c1 c2 c3 h0 n0) := by
  refine own_met (plainFor_of_name pn_23) ?_
  intro p e s m below meth c s₁ X0 hx hby hml hret hlk hown hnm hZ e0
  have N0 := Fr.nil n0
  have Z_ := Z0
  refine OwnGo.cast (ef_cpL4 m a (0 : Int32) (4 : Int32)) ?_
  show OwnGo p e below s _ _ _ s₁ (mkF m 0 _ [])
  have Kp : Keep h0 h0 [] := Keep.refl h0 []
  refine .iloadN X0 hx (hb hby d9_0) rfl ?_
  obtain ⟨T135, h135, k135, X135, e135, E135, A135, Ex135, st135⟩ := newPE X0 hx hZ (W_ hw 20 rfl) e0 (g := (mkF m 1 #[.val (.ref a), .val (.int (0 : Int32)), .val (.int (4 : Int32)), .unset, .unset, .unset] [(.int (4 : Int32))])) rfl (hb hby d9_1) rfl (by decide) (cap := 4) (by decide) (by decide) (by decide) (by decide) (ad := "[B") (by decide)
  obtain ⟨b135, g135⟩ : ∃ z, z = h0.size := ⟨_, rfl⟩
  rw [← g135] at A135 Ex135 st135
  have ne_a_b135 : a ≠ b135 := Nat.ne_of_lt (Nat.lt_of_lt_of_le V_a.lt (Nat.le_of_eq g135.symm))
  have g_b135 : n0 ≤ b135 := Nat.le_trans Z_ (Nat.le_of_eq g135.symm)
  have sz_b135 : h0.size ≤ b135 := Nat.le_trans Kp.1 (Nat.le_of_eq g135.symm)
  have V_a := V_a.ext E135
  have Kp := Kp.ext E135
  have Z_ : n0 ≤ h135.size := Nat.le_trans Z_ E135.1
  have V_b135 : Arv Z h135 b135 k135 .byte (4 : Int32) [(.int (0 : Int32)), (.int (0 : Int32)), (.int (0 : Int32)), (.int (0 : Int32))] (.int (0 : Int32)) := (Arv.new A135 (by decide)).pad (pad_rep [] (.int (0 : Int32)) 4)
  have E_b135 := Ex135
  refine .st st135 ?_
  show OwnGo p e below s _ _ _ T135 (mkF m 3 _ [(.ref b135)])
  refine .astoreN X135 hx (hb hby d9_3) rfl (L' := #[.val (.ref a), .val (.int (0 : Int32)), .val (.int (4 : Int32)), .val (.ref b135), .unset, .unset]) rfl ?_
  refine .aloadN X135 hx (hb hby d9_4) rfl rfl ?_
  refine .iloadN X135 hx (hb hby d9_5) rfl ?_
  refine .aloadN X135 hx (hb hby d9_6) rfl rfl ?_
  refine .iconst X135 hx (hb hby d9_7) own_ki0 ?_
  refine .iloadN X135 hx (hb hby d9_8) rfl ?_
  obtain ⟨_, _, ⟨T136, L136, k136, n136⟩, -, X136, ⟨Lc136, hQ136, l136, y136, z136⟩, st136⟩ := Jvm.LawKit.callS X135 hx (y := (⟨"java/lang/StringUTF16", "compress", "([CI[BII)I"⟩ : MethodName)) hown (mvT hZ (W_ hw 51 rfl)) (mvT hZ (W_ hw 52 rfl)) (mvT hZ (W_ hw 49 rfl)) (mvT hZ (W_ hw 53 rfl)) (by decide) (backOf (W := 0) (rmcmpL4 l Z a0 hw [] a ka c0 c1 c2 c3 b135 k135 h135 n0 Z_ V_a V_b135 g_b135 ne_a_b135 hl) hZ (W_ hw 53 rfl) (W_ hw 49 rfl) (by decide) (by decide)) (g := (mkF m 9 #[.val (.ref a), .val (.int (0 : Int32)), .val (.int (4 : Int32)), .val (.ref b135), .unset, .unset] [(.int (4 : Int32)), (.int (0 : Int32)), (.ref b135), (.int (0 : Int32)), (.ref a)])) rfl (by rw [hml]; rfl) (argsL := [(.ref a), (.int (0 : Int32)), (.ref b135), (.int (0 : Int32)), (.int (4 : Int32))]) (rest := []) (lenOf pd_7 rfl) rfl (Nat.le_of_eq rfl) (hb hby d9_9) (fun _ _ => ⟨rfl, e135, (by decide : 1 + 0 ≤ _), (by decide : 4 + 0 ≤ _)⟩)
  dsimp only [Pt.U, Pt.locs, Pt.cells, Pt.slots] at X136 l136 y136 z136 st136 hQ136
  subst l136 y136 z136
  obtain ⟨rfl, N136q, K136, V136⟩ := hQ136
  have N136 := Fr.app N0 N136q
  have Z_ : n0 ≤ T136.heap.size := Nat.le_trans Z_ K136.1
  have V_a := V_a.keep K136 (ninS ne_a_b135 nin0)
  have E_b135 := E_b135.keep K136
  have Kp := Kp.trans K136 (allS (Or.inr sz_b135) all0)
  refine .st st136 ?_
  show OwnGo p e below s _ _ _ T136 (mkF m 12 _ [(.int (4 : Int32))])
  refine .istore X136 hx (hb hby d9_12) (L' := #[.val (.ref a), .val (.int (0 : Int32)), .val (.int (4 : Int32)), .val (.ref b135), .val (.int (4 : Int32)), .unset]) rfl ?_
  refine .iload X136 hx (hb hby d9_14) rfl ?_
  refine .iloadN X136 hx (hb hby d9_16) rfl ?_
  refine .icmpYes (pc := 17) X136 hx 57 (hb hby d9_17) (teq ((by decide) : (4 : Int32) = (4 : Int32))).1 (by decide) (by decide) ?_
  refine .aloadN X136 hx (hb hby d9_57) rfl rfl ?_
  exact OwnGo.ret X136 hx hret hlk rfl (Or.inr (Or.inr (Or.inr (Or.inr ⟨rfl, rfl, rfl⟩)))) (hb hby d9_58) (by show QcpL4 Z a ka c0 c1 c2 c3 h0 n0 _ T136.heap _; exact ⟨b135, k135, rfl, N136, Kp, V136, sz_b135⟩) (by decide) (by decide)
def QcpU4 (Z : State) (a : Addr) (ka : ClassId) (c0 : Int32) (c1 : Int32) (c2 : Int32) (c3 : Int32) (h0 : Heap) (n0 : Nat) (v : Option Value) (h : Heap) (L : List Loc) : Prop := ∃ (t : Addr) (kb : ClassId), v = some (.ref t) ∧ Fr n0 L ∧ Keep h0 h [] ∧ Arv Z h t kb .byte (8 : Int32) [(.int (own_lo c0)), (.int (own_hi c0)), (.int (own_lo c1)), (.int (own_hi c1)), (.int (own_lo c2)), (.int (own_hi c2)), (.int (own_lo c3)), (.int (own_hi c3))] (.int (0 : Int32)) ∧ h0.size ≤ t
theorem rmcpU4 (l : Launch) (Z : State) (a0 : Array Value) (hw : own_tb a0 Z) (ws : List Jvm.Cond) (a : Addr) (ka : ClassId) (c0 : Int32) (c1 : Int32) (c2 : Int32) (c3 : Int32) (h0 : Heap) (n0 : Nat) (Z0 : n0 ≤ h0.size) (O_ : Old Z n0 h0) (S_AD : Sta Z Z.heap "java/lang/StringUTF16" "$assertionsDisabled" "Z" (.int (1 : Int32))) (S_HB : Sta Z Z.heap "java/lang/StringUTF16" "HI_BYTE_SHIFT" "I" (.int (0 : Int32))) (S_LB : Sta Z Z.heap "java/lang/StringUTF16" "LO_BYTE_SHIFT" "I" (.int (8 : Int32))) (V_a : Arv Z h0 a ka .char (4 : Int32) [(.int c0), (.int c1), (.int c2), (.int c3)] (.int (0 : Int32))) (hb_ : (255 : Int32) < c0 ∨ (255 : Int32) < c1 ∨ (255 : Int32) < c2 ∨ (255 : Int32) < c3) (P_c0 : own_u c0) (P_c1 : own_u c1) (P_c2 : own_u c2) (P_c3 : own_u c3) :
    OwnMet l (⟨"java/lang/StringUTF16", "compress", "([CII)[B"⟩ : MethodName) jdk_52_method_16_code 6 (some (.array .byte)) ws ({ frames := 3, cells := 2, slots := 12, locals := 40 } : Room) #[(.ref a), (.int (0 : Int32)), (.int (4 : Int32))] Z h0 (QcpU4 Z a ka c0 c1 c2 c3 h0 n0) := by
  refine own_met (plainFor_of_name pn_23) ?_
  intro p e s m below meth c s₁ X0 hx hby hml hret hlk hown hnm hZ e0
  have N0 := Fr.nil n0
  have Z_ := Z0
  refine OwnGo.cast (ef_cpU4 m a (0 : Int32) (4 : Int32)) ?_
  show OwnGo p e below s _ _ _ s₁ (mkF m 0 _ [])
  have Kp : Keep h0 h0 [] := Keep.refl h0 []
  refine .iloadN X0 hx (hb hby d9_0) rfl ?_
  obtain ⟨T137, h137, k137, X137, e137, E137, A137, Ex137, st137⟩ := newPE X0 hx hZ (W_ hw 20 rfl) e0 (g := (mkF m 1 #[.val (.ref a), .val (.int (0 : Int32)), .val (.int (4 : Int32)), .unset, .unset, .unset] [(.int (4 : Int32))])) rfl (hb hby d9_1) rfl (by decide) (cap := 4) (by decide) (by decide) (by decide) (by decide) (ad := "[B") (by decide)
  obtain ⟨b137, g137⟩ : ∃ z, z = h0.size := ⟨_, rfl⟩
  rw [← g137] at A137 Ex137 st137
  have ne_a_b137 : a ≠ b137 := Nat.ne_of_lt (Nat.lt_of_lt_of_le V_a.lt (Nat.le_of_eq g137.symm))
  have g_b137 : n0 ≤ b137 := Nat.le_trans Z_ (Nat.le_of_eq g137.symm)
  have sz_b137 : h0.size ≤ b137 := Nat.le_trans Kp.1 (Nat.le_of_eq g137.symm)
  have V_a := V_a.ext E137
  have O_ := O_.ext E137
  have Kp := Kp.ext E137
  have Z_ : n0 ≤ h137.size := Nat.le_trans Z_ E137.1
  have V_b137 : Arv Z h137 b137 k137 .byte (4 : Int32) [(.int (0 : Int32)), (.int (0 : Int32)), (.int (0 : Int32)), (.int (0 : Int32))] (.int (0 : Int32)) := (Arv.new A137 (by decide)).pad (pad_rep [] (.int (0 : Int32)) 4)
  have E_b137 := Ex137
  refine .st st137 ?_
  show OwnGo p e below s _ _ _ T137 (mkF m 3 _ [(.ref b137)])
  refine .astoreN X137 hx (hb hby d9_3) rfl (L' := #[.val (.ref a), .val (.int (0 : Int32)), .val (.int (4 : Int32)), .val (.ref b137), .unset, .unset]) rfl ?_
  refine .aloadN X137 hx (hb hby d9_4) rfl rfl ?_
  refine .iloadN X137 hx (hb hby d9_5) rfl ?_
  refine .aloadN X137 hx (hb hby d9_6) rfl rfl ?_
  refine .iconst X137 hx (hb hby d9_7) own_ki0 ?_
  refine .iloadN X137 hx (hb hby d9_8) rfl ?_
  obtain ⟨_, _, ⟨T138, L138, k138, n138⟩, -, X138, ⟨Lc138, hQ138, l138, y138, z138⟩, st138⟩ := Jvm.LawKit.callS X137 hx (y := (⟨"java/lang/StringUTF16", "compress", "([CI[BII)I"⟩ : MethodName)) hown (mvT hZ (W_ hw 51 rfl)) (mvT hZ (W_ hw 52 rfl)) (mvT hZ (W_ hw 49 rfl)) (mvT hZ (W_ hw 53 rfl)) (by decide) (backOf (W := 0) (rmcmpU4 l Z a0 hw [] a ka c0 c1 c2 c3 b137 k137 h137 n0 Z_ V_a V_b137 g_b137 ne_a_b137 hb_) hZ (W_ hw 53 rfl) (W_ hw 49 rfl) (by decide) (by decide)) (g := (mkF m 9 #[.val (.ref a), .val (.int (0 : Int32)), .val (.int (4 : Int32)), .val (.ref b137), .unset, .unset] [(.int (4 : Int32)), (.int (0 : Int32)), (.ref b137), (.int (0 : Int32)), (.ref a)])) rfl (by rw [hml]; rfl) (argsL := [(.ref a), (.int (0 : Int32)), (.ref b137), (.int (0 : Int32)), (.int (4 : Int32))]) (rest := []) (lenOf pd_7 rfl) rfl (Nat.le_of_eq rfl) (hb hby d9_9) (fun _ _ => ⟨rfl, e137, (by decide : 1 + 0 ≤ _), (by decide : 4 + 0 ≤ _)⟩)
  dsimp only [Pt.U, Pt.locs, Pt.cells, Pt.slots] at X138 l138 y138 z138 st138 hQ138
  subst l138 y138 z138
  obtain ⟨k138, rfl, N138q, K138, hk138⟩ := hQ138
  have N138 := Fr.app N0 N138q
  have Z_ : n0 ≤ T138.heap.size := Nat.le_trans Z_ K138.1
  have V_a := V_a.keep K138 (ninS ne_a_b137 nin0)
  have E_b137 := E_b137.keep K138
  have O_ := O_.keep K138 (allS g_b137 all0)
  have Kp := Kp.trans K138 (allS (Or.inr sz_b137) all0)
  refine .st st138 ?_
  show OwnGo p e below s _ _ _ T138 (mkF m 12 _ [(.int k138)])
  refine .istore X138 hx (hb hby d9_12) (L' := #[.val (.ref a), .val (.int (0 : Int32)), .val (.int (4 : Int32)), .val (.ref b137), .val (.int k138), .unset]) rfl ?_
  refine .iload X138 hx (hb hby d9_14) rfl ?_
  refine .iloadN X138 hx (hb hby d9_16) rfl ?_
  have hkn : ¬ (k138 = (4 : Int32)) := by rcases hk138 with ⟨rfl, -⟩ | ⟨rfl, -⟩ | ⟨rfl, -⟩ | ⟨rfl, -⟩ <;> decide
  refine .icmpNo X138 hx (hb hby d9_17) (feq (hkn : ¬ (k138 = (4 : Int32)))).1 ?_
  refine .aloadN X138 hx (hb hby d9_20) rfl rfl ?_
  refine .iloadN X138 hx (hb hby d9_21) rfl ?_
  refine .iloadN X138 hx (hb hby d9_22) rfl ?_
  obtain ⟨_, _, ⟨T139, L139, k139, n139⟩, -, X139, ⟨Lc139, hQ139, l139, y139, z139⟩, st139⟩ := Jvm.LawKit.callS X138 hx (y := (⟨"java/lang/StringUTF16", "toBytes", "([CII)[B"⟩ : MethodName)) hown (mvT hZ (W_ hw 90 rfl)) (mvT hZ (W_ hw 91 rfl)) (mvT hZ (W_ hw 49 rfl)) (mvT hZ (W_ hw 92 rfl)) (by decide) (backOf (W := 0) (rmtoB4 l Z a0 hw [] a ka c0 c1 c2 c3 T138.heap n0 Z_ O_ S_AD S_HB S_LB V_a) hZ (W_ hw 92 rfl) (W_ hw 49 rfl) (by decide) (by decide)) (g := (mkF m 23 #[.val (.ref a), .val (.int (0 : Int32)), .val (.int (4 : Int32)), .val (.ref b137), .val (.int k138), .unset] [(.int (4 : Int32)), (.int (0 : Int32)), (.ref a)])) rfl (by rw [hml]; rfl) (argsL := [(.ref a), (.int (0 : Int32)), (.int (4 : Int32))]) (rest := []) (lenOf pd_8 rfl) rfl (Nat.le_of_eq rfl) (hb hby d9_23) (fun _ _ => ⟨rfl, rfl, (by decide : 1 + 1 ≤ _), (by decide : 4 + 8 ≤ _)⟩)
  dsimp only [Pt.U, Pt.locs, Pt.cells, Pt.slots] at X139 l139 y139 z139 st139 hQ139
  subst l139 y139 z139
  obtain ⟨t139, kb139, rfl, N139q, K139, V139, zt139⟩ := hQ139
  have N139 := Fr.app N138 N139q
  have ne_a_t139 : a ≠ t139 := Nat.ne_of_lt (Nat.lt_of_lt_of_le V_a.lt zt139)
  have ne_b137_t139 : b137 ≠ t139 := Nat.ne_of_lt (Nat.lt_of_lt_of_le E_b137.lt zt139)
  have g_t139 : n0 ≤ t139 := Nat.le_trans Z_ zt139
  have sz_t139 : h0.size ≤ t139 := Nat.le_trans Kp.1 zt139
  have Z_ : n0 ≤ T139.heap.size := Nat.le_trans Z_ K139.1
  have V_a := V_a.keep K139 nin0
  have E_b137 := E_b137.keep K139
  have O_ := O_.keep K139 all0
  have Kp := Kp.trans K139 all0
  refine .st st139 ?_
  show OwnGo p e below s _ _ _ T139 (mkF m 26 _ [(.ref t139)])
  refine .astore X139 hx (hb hby d9_26) rfl (L' := #[.val (.ref a), .val (.int (0 : Int32)), .val (.int (4 : Int32)), .val (.ref b137), .val (.int k138), .val (.ref t139)]) rfl ?_
  refine .aload X139 hx (hb hby d9_28) rfl rfl ?_
  refine .iload X139 hx (hb hby d9_30) rfl ?_
  rcases hk138 with ⟨rfl, hk⟩ | ⟨rfl, hk⟩ | ⟨rfl, hk⟩ | ⟨rfl, hk⟩
  · show OwnGo p e below s _ _ _ T139 (mkF m 32 _ [(.int (0 : Int32)), (.ref t139)])
    obtain ⟨_, _, ⟨T140, L140, k140, n140⟩, -, X140, ⟨Lc140, hQ140, l140, y140, z140⟩, st140⟩ := Jvm.LawKit.callS X139 hx (y := (⟨"java/lang/StringUTF16", "getChar", "([BI)C"⟩ : MethodName)) hown (mvT hZ (W_ hw 106 rfl)) (mvT hZ (W_ hw 107 rfl)) (mvT hZ (W_ hw 49 rfl)) (mvT hZ (W_ hw 108 rfl)) (by decide) (backOf (W := 0) (rmgetC0 l Z a0 hw [] t139 kb139 c0 (8 : Int32) [(.int (own_lo c0)), (.int (own_hi c0)), (.int (own_lo c1)), (.int (own_hi c1)), (.int (own_lo c2)), (.int (own_hi c2)), (.int (own_lo c3)), (.int (own_hi c3))] T139.heap n0 Z_ O_ S_AD S_HB S_LB V139 ⟨by decide, by decide⟩ ⟨by decide, by decide⟩ rfl rfl P_c0) hZ (W_ hw 108 rfl) (W_ hw 49 rfl) (by decide) (by decide)) (g := (mkF m 32 #[.val (.ref a), .val (.int (0 : Int32)), .val (.int (4 : Int32)), .val (.ref b137), .val (.int (0 : Int32)), .val (.ref t139)] [(.int (0 : Int32)), (.ref t139)])) rfl (by rw [hml]; rfl) (argsL := [(.ref t139), (.int (0 : Int32))]) (rest := []) (lenOf pd_9 rfl) rfl (Nat.le_of_eq rfl) (hb hby d9_32) (fun _ _ => ⟨rfl, rfl, (by decide : 2 + 0 ≤ _), (by decide : 12 + 0 ≤ _)⟩)
    dsimp only [Pt.U, Pt.locs, Pt.cells, Pt.slots] at X140 l140 y140 z140 st140 hQ140
    subst l140 y140 z140
    obtain ⟨rfl, N140q, e140⟩ := hQ140
    have N140 := Fr.app N139 N140q
    refine .st st140 ?_
    show OwnGo p e below s _ _ _ T140 (mkF m 35 _ [(.int c0)])
    refine .sipush X140 hx (hb hby d9_35) own_ks255 ?_
    refine .icmpYes (pc := 38) X140 hx 54 (hb hby d9_38) (tlt (hk : (255 : Int32) < c0)).2.2.1 (by decide) (by decide) ?_
    refine .aload X140 hx (hb hby d9_54) rfl rfl ?_
    exact OwnGo.ret X140 hx hret hlk rfl (Or.inr (Or.inr (Or.inr (Or.inr ⟨rfl, rfl, rfl⟩)))) (hb hby d9_56) (by show QcpU4 Z a ka c0 c1 c2 c3 h0 n0 _ T140.heap _; rw [e140]; exact ⟨t139, kb139, rfl, N140, Kp, V139, sz_t139⟩) (by decide) (by decide)
  · show OwnGo p e below s _ _ _ T139 (mkF m 32 _ [(.int (1 : Int32)), (.ref t139)])
    obtain ⟨_, _, ⟨T141, L141, k141, n141⟩, -, X141, ⟨Lc141, hQ141, l141, y141, z141⟩, st141⟩ := Jvm.LawKit.callS X139 hx (y := (⟨"java/lang/StringUTF16", "getChar", "([BI)C"⟩ : MethodName)) hown (mvT hZ (W_ hw 106 rfl)) (mvT hZ (W_ hw 107 rfl)) (mvT hZ (W_ hw 49 rfl)) (mvT hZ (W_ hw 108 rfl)) (by decide) (backOf (W := 0) (rmgetC1 l Z a0 hw [] t139 kb139 c1 (8 : Int32) [(.int (own_lo c0)), (.int (own_hi c0)), (.int (own_lo c1)), (.int (own_hi c1)), (.int (own_lo c2)), (.int (own_hi c2)), (.int (own_lo c3)), (.int (own_hi c3))] T139.heap n0 Z_ O_ S_AD S_HB S_LB V139 ⟨by decide, by decide⟩ ⟨by decide, by decide⟩ rfl rfl P_c1) hZ (W_ hw 108 rfl) (W_ hw 49 rfl) (by decide) (by decide)) (g := (mkF m 32 #[.val (.ref a), .val (.int (0 : Int32)), .val (.int (4 : Int32)), .val (.ref b137), .val (.int (1 : Int32)), .val (.ref t139)] [(.int (1 : Int32)), (.ref t139)])) rfl (by rw [hml]; rfl) (argsL := [(.ref t139), (.int (1 : Int32))]) (rest := []) (lenOf pd_9 rfl) rfl (Nat.le_of_eq rfl) (hb hby d9_32) (fun _ _ => ⟨rfl, rfl, (by decide : 2 + 0 ≤ _), (by decide : 12 + 0 ≤ _)⟩)
    dsimp only [Pt.U, Pt.locs, Pt.cells, Pt.slots] at X141 l141 y141 z141 st141 hQ141
    subst l141 y141 z141
    obtain ⟨rfl, N141q, e141⟩ := hQ141
    have N141 := Fr.app N139 N141q
    refine .st st141 ?_
    show OwnGo p e below s _ _ _ T141 (mkF m 35 _ [(.int c1)])
    refine .sipush X141 hx (hb hby d9_35) own_ks255 ?_
    refine .icmpYes (pc := 38) X141 hx 54 (hb hby d9_38) (tlt (hk : (255 : Int32) < c1)).2.2.1 (by decide) (by decide) ?_
    refine .aload X141 hx (hb hby d9_54) rfl rfl ?_
    exact OwnGo.ret X141 hx hret hlk rfl (Or.inr (Or.inr (Or.inr (Or.inr ⟨rfl, rfl, rfl⟩)))) (hb hby d9_56) (by show QcpU4 Z a ka c0 c1 c2 c3 h0 n0 _ T141.heap _; rw [e141]; exact ⟨t139, kb139, rfl, N141, Kp, V139, sz_t139⟩) (by decide) (by decide)
  · show OwnGo p e below s _ _ _ T139 (mkF m 32 _ [(.int (2 : Int32)), (.ref t139)])
    obtain ⟨_, _, ⟨T142, L142, k142, n142⟩, -, X142, ⟨Lc142, hQ142, l142, y142, z142⟩, st142⟩ := Jvm.LawKit.callS X139 hx (y := (⟨"java/lang/StringUTF16", "getChar", "([BI)C"⟩ : MethodName)) hown (mvT hZ (W_ hw 106 rfl)) (mvT hZ (W_ hw 107 rfl)) (mvT hZ (W_ hw 49 rfl)) (mvT hZ (W_ hw 108 rfl)) (by decide) (backOf (W := 0) (rmgetC2 l Z a0 hw [] t139 kb139 c2 (8 : Int32) [(.int (own_lo c0)), (.int (own_hi c0)), (.int (own_lo c1)), (.int (own_hi c1)), (.int (own_lo c2)), (.int (own_hi c2)), (.int (own_lo c3)), (.int (own_hi c3))] T139.heap n0 Z_ O_ S_AD S_HB S_LB V139 ⟨by decide, by decide⟩ ⟨by decide, by decide⟩ rfl rfl P_c2) hZ (W_ hw 108 rfl) (W_ hw 49 rfl) (by decide) (by decide)) (g := (mkF m 32 #[.val (.ref a), .val (.int (0 : Int32)), .val (.int (4 : Int32)), .val (.ref b137), .val (.int (2 : Int32)), .val (.ref t139)] [(.int (2 : Int32)), (.ref t139)])) rfl (by rw [hml]; rfl) (argsL := [(.ref t139), (.int (2 : Int32))]) (rest := []) (lenOf pd_9 rfl) rfl (Nat.le_of_eq rfl) (hb hby d9_32) (fun _ _ => ⟨rfl, rfl, (by decide : 2 + 0 ≤ _), (by decide : 12 + 0 ≤ _)⟩)
    dsimp only [Pt.U, Pt.locs, Pt.cells, Pt.slots] at X142 l142 y142 z142 st142 hQ142
    subst l142 y142 z142
    obtain ⟨rfl, N142q, e142⟩ := hQ142
    have N142 := Fr.app N139 N142q
    refine .st st142 ?_
    show OwnGo p e below s _ _ _ T142 (mkF m 35 _ [(.int c2)])
    refine .sipush X142 hx (hb hby d9_35) own_ks255 ?_
    refine .icmpYes (pc := 38) X142 hx 54 (hb hby d9_38) (tlt (hk : (255 : Int32) < c2)).2.2.1 (by decide) (by decide) ?_
    refine .aload X142 hx (hb hby d9_54) rfl rfl ?_
    exact OwnGo.ret X142 hx hret hlk rfl (Or.inr (Or.inr (Or.inr (Or.inr ⟨rfl, rfl, rfl⟩)))) (hb hby d9_56) (by show QcpU4 Z a ka c0 c1 c2 c3 h0 n0 _ T142.heap _; rw [e142]; exact ⟨t139, kb139, rfl, N142, Kp, V139, sz_t139⟩) (by decide) (by decide)
  · show OwnGo p e below s _ _ _ T139 (mkF m 32 _ [(.int (3 : Int32)), (.ref t139)])
    obtain ⟨_, _, ⟨T143, L143, k143, n143⟩, -, X143, ⟨Lc143, hQ143, l143, y143, z143⟩, st143⟩ := Jvm.LawKit.callS X139 hx (y := (⟨"java/lang/StringUTF16", "getChar", "([BI)C"⟩ : MethodName)) hown (mvT hZ (W_ hw 106 rfl)) (mvT hZ (W_ hw 107 rfl)) (mvT hZ (W_ hw 49 rfl)) (mvT hZ (W_ hw 108 rfl)) (by decide) (backOf (W := 0) (rmgetC3 l Z a0 hw [] t139 kb139 c3 (8 : Int32) [(.int (own_lo c0)), (.int (own_hi c0)), (.int (own_lo c1)), (.int (own_hi c1)), (.int (own_lo c2)), (.int (own_hi c2)), (.int (own_lo c3)), (.int (own_hi c3))] T139.heap n0 Z_ O_ S_AD S_HB S_LB V139 ⟨by decide, by decide⟩ ⟨by decide, by decide⟩ rfl rfl P_c3) hZ (W_ hw 108 rfl) (W_ hw 49 rfl) (by decide) (by decide)) (g := (mkF m 32 #[.val (.ref a), .val (.int (0 : Int32)), .val (.int (4 : Int32)), .val (.ref b137), .val (.int (3 : Int32)), .val (.ref t139)] [(.int (3 : Int32)), (.ref t139)])) rfl (by rw [hml]; rfl) (argsL := [(.ref t139), (.int (3 : Int32))]) (rest := []) (lenOf pd_9 rfl) rfl (Nat.le_of_eq rfl) (hb hby d9_32) (fun _ _ => ⟨rfl, rfl, (by decide : 2 + 0 ≤ _), (by decide : 12 + 0 ≤ _)⟩)
    dsimp only [Pt.U, Pt.locs, Pt.cells, Pt.slots] at X143 l143 y143 z143 st143 hQ143
    subst l143 y143 z143
    obtain ⟨rfl, N143q, e143⟩ := hQ143
    have N143 := Fr.app N139 N143q
    refine .st st143 ?_
    show OwnGo p e below s _ _ _ T143 (mkF m 35 _ [(.int c3)])
    refine .sipush X143 hx (hb hby d9_35) own_ks255 ?_
    refine .icmpYes (pc := 38) X143 hx 54 (hb hby d9_38) (tlt (hk : (255 : Int32) < c3)).2.2.1 (by decide) (by decide) ?_
    refine .aload X143 hx (hb hby d9_54) rfl rfl ?_
    exact OwnGo.ret X143 hx hret hlk rfl (Or.inr (Or.inr (Or.inr (Or.inr ⟨rfl, rfl, rfl⟩)))) (hb hby d9_56) (by show QcpU4 Z a ka c0 c1 c2 c3 h0 n0 _ T143.heap _; rw [e143]; exact ⟨t139, kb139, rfl, N143, Kp, V139, sz_t139⟩) (by decide) (by decide)
def Qcfl2_0 (Z : State) (t : Addr) (kb : ClassId) (vs : List Value) (h0 : Heap) (n0 : Nat) (v : Option Value) (h : Heap) (L : List Loc) : Prop := v = some (.int (0 : Int32)) ∧ Fr n0 L ∧ h = h0
theorem rmcfl2_0 (l : Launch) (Z : State) (a0 : Array Value) (hw : own_tb a0 Z) (ws : List Jvm.Cond) (t : Addr) (kb : ClassId) (vs : List Value) (h0 : Heap) (n0 : Nat) (Z0 : n0 ≤ h0.size) (V_t : Arv Z h0 t kb .byte (2 : Int32) vs (.int (0 : Int32))) :
    OwnMet l (⟨"java/lang/StringUTF16", "coderFromArrayLen", "([BI)B"⟩ : MethodName) jdk_52_method_15_code 2 (some .byte) ws ({ frames := 0, cells := 0, slots := 0, locals := 0 } : Room) #[(.ref t), (.int (2 : Int32))] Z h0 (Qcfl2_0 Z t kb vs h0 n0) := by
  refine own_met (plainFor_of_name pn_23) ?_
  intro p e s m below meth c s₁ X0 hx hby hml hret hlk hown hnm hZ e0
  have N0 := Fr.nil n0
  have Z_ := Z0
  refine OwnGo.cast (ef_cfl2_0 m t (2 : Int32)) ?_
  show OwnGo p e below s _ _ _ s₁ (mkF m 0 _ [])
  refine .iloadN X0 hx (hb hby d11_0) rfl ?_
  refine .aloadN X0 hx (hb hby d11_1) rfl rfl ?_
  obtain ⟨cl144, Ar144, -, S144, N144, -, -⟩ := id V_t
  refine .st (fun _ => own_len hZ (len_of S144 N144) Ar144 X0 e0 hx (g := (mkF m 2 #[.val (.ref t), .val (.int (2 : Int32))] [(.ref t), (.int (2 : Int32))])) rfl rfl (hb hby d11_2) _) ?_
  show OwnGo p e below s _ _ _ s₁ (mkF m 3 _ [(.int (2 : Int32)), (.int (2 : Int32))])
  refine .st (fun _ => XS.isub X0.here hx rfl (hb hby d11_3) rfl) ?_
  show OwnGo p e below s _ _ _ s₁ (mkF m 4 _ [(.int (0 : Int32))])
  refine .bipush X0 hx (hb hby d11_4) own_kb31 ?_
  refine .st (fun _ => XS.iushr X0.here hx rfl (hb hby d11_6) rfl) ?_
  show OwnGo p e below s _ _ _ s₁ (mkF m 7 _ [(.int (((0 : Int32).toUInt32 >>> ((31 : Int32) &&& 31).toUInt32).toInt32))])
  refine .st (fun _ => XS.i2b X0.here hx rfl (hb hby d11_7) rfl) ?_
  show OwnGo p e below s _ _ _ s₁ (mkF m 8 _ [(.int ((((0 : Int32).toUInt32 >>> ((31 : Int32) &&& 31).toUInt32).toInt32).toInt8.toInt32))])
  rw [show ((((0 : Int32).toUInt32 >>> ((31 : Int32) &&& 31).toUInt32).toInt32).toInt8.toInt32) = (0 : Int32) from by decide]
  show OwnGo p e below s _ _ _ s₁ (mkF m 8 _ [(.int (0 : Int32))])
  exact OwnGo.retN X0 hx (t := .byte) hret hlk (by simp) (hb hby d11_8) (by show Qcfl2_0 Z t kb vs h0 n0 _ s₁.heap _; rw [e0]; exact ⟨rfl, N0, rfl⟩) (by decide) (by decide)
def Qcfl2_1 (Z : State) (t : Addr) (kb : ClassId) (vs : List Value) (h0 : Heap) (n0 : Nat) (v : Option Value) (h : Heap) (L : List Loc) : Prop := v = some (.int (1 : Int32)) ∧ Fr n0 L ∧ h = h0
theorem rmcfl2_1 (l : Launch) (Z : State) (a0 : Array Value) (hw : own_tb a0 Z) (ws : List Jvm.Cond) (t : Addr) (kb : ClassId) (vs : List Value) (h0 : Heap) (n0 : Nat) (Z0 : n0 ≤ h0.size) (V_t : Arv Z h0 t kb .byte (4 : Int32) vs (.int (0 : Int32))) :
    OwnMet l (⟨"java/lang/StringUTF16", "coderFromArrayLen", "([BI)B"⟩ : MethodName) jdk_52_method_15_code 2 (some .byte) ws ({ frames := 0, cells := 0, slots := 0, locals := 0 } : Room) #[(.ref t), (.int (2 : Int32))] Z h0 (Qcfl2_1 Z t kb vs h0 n0) := by
  refine own_met (plainFor_of_name pn_23) ?_
  intro p e s m below meth c s₁ X0 hx hby hml hret hlk hown hnm hZ e0
  have N0 := Fr.nil n0
  have Z_ := Z0
  refine OwnGo.cast (ef_cfl2_1 m t (2 : Int32)) ?_
  show OwnGo p e below s _ _ _ s₁ (mkF m 0 _ [])
  refine .iloadN X0 hx (hb hby d11_0) rfl ?_
  refine .aloadN X0 hx (hb hby d11_1) rfl rfl ?_
  obtain ⟨cl145, Ar145, -, S145, N145, -, -⟩ := id V_t
  refine .st (fun _ => own_len hZ (len_of S145 N145) Ar145 X0 e0 hx (g := (mkF m 2 #[.val (.ref t), .val (.int (2 : Int32))] [(.ref t), (.int (2 : Int32))])) rfl rfl (hb hby d11_2) _) ?_
  show OwnGo p e below s _ _ _ s₁ (mkF m 3 _ [(.int (4 : Int32)), (.int (2 : Int32))])
  refine .st (fun _ => XS.isub X0.here hx rfl (hb hby d11_3) rfl) ?_
  show OwnGo p e below s _ _ _ s₁ (mkF m 4 _ [(.int (-2 : Int32))])
  refine .bipush X0 hx (hb hby d11_4) own_kb31 ?_
  refine .st (fun _ => XS.iushr X0.here hx rfl (hb hby d11_6) rfl) ?_
  show OwnGo p e below s _ _ _ s₁ (mkF m 7 _ [(.int (((-2 : Int32).toUInt32 >>> ((31 : Int32) &&& 31).toUInt32).toInt32))])
  refine .st (fun _ => XS.i2b X0.here hx rfl (hb hby d11_7) rfl) ?_
  show OwnGo p e below s _ _ _ s₁ (mkF m 8 _ [(.int ((((-2 : Int32).toUInt32 >>> ((31 : Int32) &&& 31).toUInt32).toInt32).toInt8.toInt32))])
  rw [show ((((-2 : Int32).toUInt32 >>> ((31 : Int32) &&& 31).toUInt32).toInt32).toInt8.toInt32) = (1 : Int32) from by decide]
  show OwnGo p e below s _ _ _ s₁ (mkF m 8 _ [(.int (1 : Int32))])
  exact OwnGo.retN X0 hx (t := .byte) hret hlk (by simp) (hb hby d11_8) (by show Qcfl2_1 Z t kb vs h0 n0 _ s₁.heap _; rw [e0]; exact ⟨rfl, N0, rfl⟩) (by decide) (by decide)
def Qcfl3_0 (Z : State) (t : Addr) (kb : ClassId) (vs : List Value) (h0 : Heap) (n0 : Nat) (v : Option Value) (h : Heap) (L : List Loc) : Prop := v = some (.int (0 : Int32)) ∧ Fr n0 L ∧ h = h0
theorem rmcfl3_0 (l : Launch) (Z : State) (a0 : Array Value) (hw : own_tb a0 Z) (ws : List Jvm.Cond) (t : Addr) (kb : ClassId) (vs : List Value) (h0 : Heap) (n0 : Nat) (Z0 : n0 ≤ h0.size) (V_t : Arv Z h0 t kb .byte (3 : Int32) vs (.int (0 : Int32))) :
    OwnMet l (⟨"java/lang/StringUTF16", "coderFromArrayLen", "([BI)B"⟩ : MethodName) jdk_52_method_15_code 2 (some .byte) ws ({ frames := 0, cells := 0, slots := 0, locals := 0 } : Room) #[(.ref t), (.int (3 : Int32))] Z h0 (Qcfl3_0 Z t kb vs h0 n0) := by
  refine own_met (plainFor_of_name pn_23) ?_
  intro p e s m below meth c s₁ X0 hx hby hml hret hlk hown hnm hZ e0
  have N0 := Fr.nil n0
  have Z_ := Z0
  refine OwnGo.cast (ef_cfl3_0 m t (3 : Int32)) ?_
  show OwnGo p e below s _ _ _ s₁ (mkF m 0 _ [])
  refine .iloadN X0 hx (hb hby d11_0) rfl ?_
  refine .aloadN X0 hx (hb hby d11_1) rfl rfl ?_
  obtain ⟨cl146, Ar146, -, S146, N146, -, -⟩ := id V_t
  refine .st (fun _ => own_len hZ (len_of S146 N146) Ar146 X0 e0 hx (g := (mkF m 2 #[.val (.ref t), .val (.int (3 : Int32))] [(.ref t), (.int (3 : Int32))])) rfl rfl (hb hby d11_2) _) ?_
  show OwnGo p e below s _ _ _ s₁ (mkF m 3 _ [(.int (3 : Int32)), (.int (3 : Int32))])
  refine .st (fun _ => XS.isub X0.here hx rfl (hb hby d11_3) rfl) ?_
  show OwnGo p e below s _ _ _ s₁ (mkF m 4 _ [(.int (0 : Int32))])
  refine .bipush X0 hx (hb hby d11_4) own_kb31 ?_
  refine .st (fun _ => XS.iushr X0.here hx rfl (hb hby d11_6) rfl) ?_
  show OwnGo p e below s _ _ _ s₁ (mkF m 7 _ [(.int (((0 : Int32).toUInt32 >>> ((31 : Int32) &&& 31).toUInt32).toInt32))])
  refine .st (fun _ => XS.i2b X0.here hx rfl (hb hby d11_7) rfl) ?_
  show OwnGo p e below s _ _ _ s₁ (mkF m 8 _ [(.int ((((0 : Int32).toUInt32 >>> ((31 : Int32) &&& 31).toUInt32).toInt32).toInt8.toInt32))])
  rw [show ((((0 : Int32).toUInt32 >>> ((31 : Int32) &&& 31).toUInt32).toInt32).toInt8.toInt32) = (0 : Int32) from by decide]
  show OwnGo p e below s _ _ _ s₁ (mkF m 8 _ [(.int (0 : Int32))])
  exact OwnGo.retN X0 hx (t := .byte) hret hlk (by simp) (hb hby d11_8) (by show Qcfl3_0 Z t kb vs h0 n0 _ s₁.heap _; rw [e0]; exact ⟨rfl, N0, rfl⟩) (by decide) (by decide)
def Qcfl3_1 (Z : State) (t : Addr) (kb : ClassId) (vs : List Value) (h0 : Heap) (n0 : Nat) (v : Option Value) (h : Heap) (L : List Loc) : Prop := v = some (.int (1 : Int32)) ∧ Fr n0 L ∧ h = h0
theorem rmcfl3_1 (l : Launch) (Z : State) (a0 : Array Value) (hw : own_tb a0 Z) (ws : List Jvm.Cond) (t : Addr) (kb : ClassId) (vs : List Value) (h0 : Heap) (n0 : Nat) (Z0 : n0 ≤ h0.size) (V_t : Arv Z h0 t kb .byte (6 : Int32) vs (.int (0 : Int32))) :
    OwnMet l (⟨"java/lang/StringUTF16", "coderFromArrayLen", "([BI)B"⟩ : MethodName) jdk_52_method_15_code 2 (some .byte) ws ({ frames := 0, cells := 0, slots := 0, locals := 0 } : Room) #[(.ref t), (.int (3 : Int32))] Z h0 (Qcfl3_1 Z t kb vs h0 n0) := by
  refine own_met (plainFor_of_name pn_23) ?_
  intro p e s m below meth c s₁ X0 hx hby hml hret hlk hown hnm hZ e0
  have N0 := Fr.nil n0
  have Z_ := Z0
  refine OwnGo.cast (ef_cfl3_1 m t (3 : Int32)) ?_
  show OwnGo p e below s _ _ _ s₁ (mkF m 0 _ [])
  refine .iloadN X0 hx (hb hby d11_0) rfl ?_
  refine .aloadN X0 hx (hb hby d11_1) rfl rfl ?_
  obtain ⟨cl147, Ar147, -, S147, N147, -, -⟩ := id V_t
  refine .st (fun _ => own_len hZ (len_of S147 N147) Ar147 X0 e0 hx (g := (mkF m 2 #[.val (.ref t), .val (.int (3 : Int32))] [(.ref t), (.int (3 : Int32))])) rfl rfl (hb hby d11_2) _) ?_
  show OwnGo p e below s _ _ _ s₁ (mkF m 3 _ [(.int (6 : Int32)), (.int (3 : Int32))])
  refine .st (fun _ => XS.isub X0.here hx rfl (hb hby d11_3) rfl) ?_
  show OwnGo p e below s _ _ _ s₁ (mkF m 4 _ [(.int (-3 : Int32))])
  refine .bipush X0 hx (hb hby d11_4) own_kb31 ?_
  refine .st (fun _ => XS.iushr X0.here hx rfl (hb hby d11_6) rfl) ?_
  show OwnGo p e below s _ _ _ s₁ (mkF m 7 _ [(.int (((-3 : Int32).toUInt32 >>> ((31 : Int32) &&& 31).toUInt32).toInt32))])
  refine .st (fun _ => XS.i2b X0.here hx rfl (hb hby d11_7) rfl) ?_
  show OwnGo p e below s _ _ _ s₁ (mkF m 8 _ [(.int ((((-3 : Int32).toUInt32 >>> ((31 : Int32) &&& 31).toUInt32).toInt32).toInt8.toInt32))])
  rw [show ((((-3 : Int32).toUInt32 >>> ((31 : Int32) &&& 31).toUInt32).toInt32).toInt8.toInt32) = (1 : Int32) from by decide]
  show OwnGo p e below s _ _ _ s₁ (mkF m 8 _ [(.int (1 : Int32))])
  exact OwnGo.retN X0 hx (t := .byte) hret hlk (by simp) (hb hby d11_8) (by show Qcfl3_1 Z t kb vs h0 n0 _ s₁.heap _; rw [e0]; exact ⟨rfl, N0, rfl⟩) (by decide) (by decide)
def Qcfl4_0 (Z : State) (t : Addr) (kb : ClassId) (vs : List Value) (h0 : Heap) (n0 : Nat) (v : Option Value) (h : Heap) (L : List Loc) : Prop := v = some (.int (0 : Int32)) ∧ Fr n0 L ∧ h = h0
theorem rmcfl4_0 (l : Launch) (Z : State) (a0 : Array Value) (hw : own_tb a0 Z) (ws : List Jvm.Cond) (t : Addr) (kb : ClassId) (vs : List Value) (h0 : Heap) (n0 : Nat) (Z0 : n0 ≤ h0.size) (V_t : Arv Z h0 t kb .byte (4 : Int32) vs (.int (0 : Int32))) :
    OwnMet l (⟨"java/lang/StringUTF16", "coderFromArrayLen", "([BI)B"⟩ : MethodName) jdk_52_method_15_code 2 (some .byte) ws ({ frames := 0, cells := 0, slots := 0, locals := 0 } : Room) #[(.ref t), (.int (4 : Int32))] Z h0 (Qcfl4_0 Z t kb vs h0 n0) := by
  refine own_met (plainFor_of_name pn_23) ?_
  intro p e s m below meth c s₁ X0 hx hby hml hret hlk hown hnm hZ e0
  have N0 := Fr.nil n0
  have Z_ := Z0
  refine OwnGo.cast (ef_cfl4_0 m t (4 : Int32)) ?_
  show OwnGo p e below s _ _ _ s₁ (mkF m 0 _ [])
  refine .iloadN X0 hx (hb hby d11_0) rfl ?_
  refine .aloadN X0 hx (hb hby d11_1) rfl rfl ?_
  obtain ⟨cl148, Ar148, -, S148, N148, -, -⟩ := id V_t
  refine .st (fun _ => own_len hZ (len_of S148 N148) Ar148 X0 e0 hx (g := (mkF m 2 #[.val (.ref t), .val (.int (4 : Int32))] [(.ref t), (.int (4 : Int32))])) rfl rfl (hb hby d11_2) _) ?_
  show OwnGo p e below s _ _ _ s₁ (mkF m 3 _ [(.int (4 : Int32)), (.int (4 : Int32))])
  refine .st (fun _ => XS.isub X0.here hx rfl (hb hby d11_3) rfl) ?_
  show OwnGo p e below s _ _ _ s₁ (mkF m 4 _ [(.int (0 : Int32))])
  refine .bipush X0 hx (hb hby d11_4) own_kb31 ?_
  refine .st (fun _ => XS.iushr X0.here hx rfl (hb hby d11_6) rfl) ?_
  show OwnGo p e below s _ _ _ s₁ (mkF m 7 _ [(.int (((0 : Int32).toUInt32 >>> ((31 : Int32) &&& 31).toUInt32).toInt32))])
  refine .st (fun _ => XS.i2b X0.here hx rfl (hb hby d11_7) rfl) ?_
  show OwnGo p e below s _ _ _ s₁ (mkF m 8 _ [(.int ((((0 : Int32).toUInt32 >>> ((31 : Int32) &&& 31).toUInt32).toInt32).toInt8.toInt32))])
  rw [show ((((0 : Int32).toUInt32 >>> ((31 : Int32) &&& 31).toUInt32).toInt32).toInt8.toInt32) = (0 : Int32) from by decide]
  show OwnGo p e below s _ _ _ s₁ (mkF m 8 _ [(.int (0 : Int32))])
  exact OwnGo.retN X0 hx (t := .byte) hret hlk (by simp) (hb hby d11_8) (by show Qcfl4_0 Z t kb vs h0 n0 _ s₁.heap _; rw [e0]; exact ⟨rfl, N0, rfl⟩) (by decide) (by decide)
def Qcfl4_1 (Z : State) (t : Addr) (kb : ClassId) (vs : List Value) (h0 : Heap) (n0 : Nat) (v : Option Value) (h : Heap) (L : List Loc) : Prop := v = some (.int (1 : Int32)) ∧ Fr n0 L ∧ h = h0
theorem rmcfl4_1 (l : Launch) (Z : State) (a0 : Array Value) (hw : own_tb a0 Z) (ws : List Jvm.Cond) (t : Addr) (kb : ClassId) (vs : List Value) (h0 : Heap) (n0 : Nat) (Z0 : n0 ≤ h0.size) (V_t : Arv Z h0 t kb .byte (8 : Int32) vs (.int (0 : Int32))) :
    OwnMet l (⟨"java/lang/StringUTF16", "coderFromArrayLen", "([BI)B"⟩ : MethodName) jdk_52_method_15_code 2 (some .byte) ws ({ frames := 0, cells := 0, slots := 0, locals := 0 } : Room) #[(.ref t), (.int (4 : Int32))] Z h0 (Qcfl4_1 Z t kb vs h0 n0) := by
  refine own_met (plainFor_of_name pn_23) ?_
  intro p e s m below meth c s₁ X0 hx hby hml hret hlk hown hnm hZ e0
  have N0 := Fr.nil n0
  have Z_ := Z0
  refine OwnGo.cast (ef_cfl4_1 m t (4 : Int32)) ?_
  show OwnGo p e below s _ _ _ s₁ (mkF m 0 _ [])
  refine .iloadN X0 hx (hb hby d11_0) rfl ?_
  refine .aloadN X0 hx (hb hby d11_1) rfl rfl ?_
  obtain ⟨cl149, Ar149, -, S149, N149, -, -⟩ := id V_t
  refine .st (fun _ => own_len hZ (len_of S149 N149) Ar149 X0 e0 hx (g := (mkF m 2 #[.val (.ref t), .val (.int (4 : Int32))] [(.ref t), (.int (4 : Int32))])) rfl rfl (hb hby d11_2) _) ?_
  show OwnGo p e below s _ _ _ s₁ (mkF m 3 _ [(.int (8 : Int32)), (.int (4 : Int32))])
  refine .st (fun _ => XS.isub X0.here hx rfl (hb hby d11_3) rfl) ?_
  show OwnGo p e below s _ _ _ s₁ (mkF m 4 _ [(.int (-4 : Int32))])
  refine .bipush X0 hx (hb hby d11_4) own_kb31 ?_
  refine .st (fun _ => XS.iushr X0.here hx rfl (hb hby d11_6) rfl) ?_
  show OwnGo p e below s _ _ _ s₁ (mkF m 7 _ [(.int (((-4 : Int32).toUInt32 >>> ((31 : Int32) &&& 31).toUInt32).toInt32))])
  refine .st (fun _ => XS.i2b X0.here hx rfl (hb hby d11_7) rfl) ?_
  show OwnGo p e below s _ _ _ s₁ (mkF m 8 _ [(.int ((((-4 : Int32).toUInt32 >>> ((31 : Int32) &&& 31).toUInt32).toInt32).toInt8.toInt32))])
  rw [show ((((-4 : Int32).toUInt32 >>> ((31 : Int32) &&& 31).toUInt32).toInt32).toInt8.toInt32) = (1 : Int32) from by decide]
  show OwnGo p e below s _ _ _ s₁ (mkF m 8 _ [(.int (1 : Int32))])
  exact OwnGo.retN X0 hx (t := .byte) hret hlk (by simp) (hb hby d11_8) (by show Qcfl4_1 Z t kb vs h0 n0 _ s₁.heap _; rw [e0]; exact ⟨rfl, N0, rfl⟩) (by decide) (by decide)
def QiV2 (Z : State) (x : Addr) (a : Addr) (ka : ClassId) (c0 : Int32) (c1 : Int32) (zc : Int32) (h0 : Heap) (n0 : Nat) (v : Option Value) (h : Heap) (L : List Loc) : Prop := ∃ (t : Addr) (kb : ClassId), v = none ∧ Fr n0 L ∧ Keep h0 h [x] ∧ own_S2 Z h x t kb c0 c1 ∧ h0.size ≤ t
theorem rmiV2 (l : Launch) (Z : State) (a0 : Array Value) (hw : own_tb a0 Z) (ws : List Jvm.Cond) (x : Addr) (a : Addr) (ka : ClassId) (c0 : Int32) (c1 : Int32) (zc : Int32) (h0 : Heap) (n0 : Nat) (Z0 : n0 ≤ h0.size) (O_ : Old Z n0 h0) (S_CS : Sta Z Z.heap "java/lang/String" "COMPACT_STRINGS" "Z" (.int zc)) (P_CS : ¬ zc = (0 : Int32)) (S_AD : Sta Z Z.heap "java/lang/StringUTF16" "$assertionsDisabled" "Z" (.int (1 : Int32))) (S_HB : Sta Z Z.heap "java/lang/StringUTF16" "HI_BYTE_SHIFT" "I" (.int (0 : Int32))) (S_LB : Sta Z Z.heap "java/lang/StringUTF16" "LO_BYTE_SHIFT" "I" (.int (8 : Int32))) (E_x : Exa Z h0 x "java/lang/String") (Fv : Fld Z h0 x "java/lang/String" "value" "[B" .null) (Fc : Fld Z h0 x "java/lang/String" "coder" "B" (.int (0 : Int32))) (g_x : n0 ≤ x) (V_a : Arv Z h0 a ka .char (2 : Int32) [(.int c0), (.int c1)] (.int (0 : Int32))) (ne_a_x : a ≠ x) (P_c0 : own_u c0) (P_c1 : own_u c1) :
    OwnMet l (⟨"java/lang/String", "<init>", "([CIILjava/lang/Void;)V"⟩ : MethodName) jdk_42_method_149_code 6 none ws ({ frames := 4, cells := 2, slots := 6, locals := 57 } : Room) #[(.ref x), (.ref a), (.int (0 : Int32)), (.int (2 : Int32)), .null] Z h0 (QiV2 Z x a ka c0 c1 zc h0 n0) := by
  refine own_met (plainFor_of_name pn_6) ?_
  intro p e s m below meth c s₁ X0 hx hby hml hret hlk hown hnm hZ e0
  have N0 := Fr.nil n0
  have Z_ := Z0
  refine OwnGo.cast (ef_iV2 m x a (0 : Int32) (2 : Int32)) ?_
  show OwnGo p e below s _ _ _ s₁ (mkF m 0 _ [])
  have Kp : Keep h0 h0 [x] := Keep.refl h0 [x]
  refine .aloadN X0 hx (hb hby d3_0) rfl rfl ?_
  obtain ⟨T150, X150, e150, st150⟩ := initO X0 hx hZ hown (W_ hw 16 rfl) (W_ hw 17 rfl) (W_ hw 18 rfl) e0 (g := (mkF m 1 #[.val (.ref x), .val (.ref a), .val (.int (0 : Int32)), .val (.int (2 : Int32)), .val .null, .unset] [(.ref x)])) rfl (by rw [hml]; rfl) rfl (hb hby d3_1) (by decide) (W := 0) (Nat.le_of_eq rfl) (by decide)
  refine .st st150 ?_
  show OwnGo p e below s _ _ _ T150 (mkF m 4 _ [])
  refine .iloadN X150 hx (hb hby d3_4) rfl ?_
  refine .ifYes (pc := 5) X150 hx 27 (hb hby d3_5) ((if0 _ _).trans (feq ((by decide) : ¬ ((2 : Int32) = (0 : Int32)))).2) (by decide) (by decide) ?_
  obtain ⟨T151, X151, e151, st151⟩ := getS2 X150 hx hZ hown (host := "") (Or.inl (W_ hw 37 rfl)) Via.refl e150 (S_CS.ext O_.2) (g := (mkF m 27 #[.val (.ref x), .val (.ref a), .val (.int (0 : Int32)), .val (.int (2 : Int32)), .val .null, .unset] [])) rfl (hb hby d3_27)
  refine .st st151 ?_
  show OwnGo p e below s _ _ _ T151 (mkF m 30 _ [(.int zc)])
  refine .ifNo X151 hx (hb hby d3_30) ((if0 _ _).trans (feq (P_CS : ¬ (zc = (0 : Int32)))).1) ?_
  refine .aloadN X151 hx (hb hby d3_33) rfl rfl ?_
  refine .iloadN X151 hx (hb hby d3_34) rfl ?_
  refine .iloadN X151 hx (hb hby d3_35) rfl ?_
  by_cases hl : ¬ (255 : Int32) < c0 ∧ ¬ (255 : Int32) < c1
  · obtain ⟨_, _, ⟨T152, L152, k152, n152⟩, -, X152, ⟨Lc152, hQ152, l152, y152, z152⟩, st152⟩ := Jvm.LawKit.callS X151 hx (y := (⟨"java/lang/StringUTF16", "compress", "([CII)[B"⟩ : MethodName)) hown (mvT hZ (W_ hw 47 rfl)) (mvT hZ (W_ hw 48 rfl)) (mvT hZ (W_ hw 49 rfl)) (mvT hZ (W_ hw 50 rfl)) (by decide) (backOf (W := 0) (rmcpL2 l Z a0 hw [] a ka c0 c1 h0 n0 Z_ V_a hl) hZ (W_ hw 50 rfl) (W_ hw 49 rfl) (by decide) (by decide)) (g := (mkF m 36 #[.val (.ref x), .val (.ref a), .val (.int (0 : Int32)), .val (.int (2 : Int32)), .val .null, .unset] [(.int (2 : Int32)), (.int (0 : Int32)), (.ref a)])) rfl (by rw [hml]; rfl) (argsL := [(.ref a), (.int (0 : Int32)), (.int (2 : Int32))]) (rest := []) (lenOf pd_8 rfl) rfl (Nat.le_of_eq rfl) (hb hby d3_36) (fun _ _ => ⟨rfl, e151, (by decide : 0 + 1 ≤ _), (by decide : 0 + 2 ≤ _)⟩)
    dsimp only [Pt.U, Pt.locs, Pt.cells, Pt.slots] at X152 l152 y152 z152 st152 hQ152
    subst l152 y152 z152
    obtain ⟨t152, kb152, rfl, N152q, K152, V152, zt152⟩ := hQ152
    have N152 := Fr.app N0 N152q
    have ne_x_t152 : x ≠ t152 := Nat.ne_of_lt (Nat.lt_of_lt_of_le E_x.lt zt152)
    have ne_a_t152 : a ≠ t152 := Nat.ne_of_lt (Nat.lt_of_lt_of_le V_a.lt zt152)
    have g_t152 : n0 ≤ t152 := Nat.le_trans Z_ zt152
    have sz_t152 : h0.size ≤ t152 := Nat.le_trans Kp.1 zt152
    have Z_ : n0 ≤ T152.heap.size := Nat.le_trans Z_ K152.1
    have E_x := E_x.keep K152
    have Fv := Fv.keep K152 nin0
    have Fc := Fc.keep K152 nin0
    have V_a := V_a.keep K152 nin0
    have O_ := O_.keep K152 all0
    have Kp := Kp.trans K152 all0
    refine .st st152 ?_
    show OwnGo p e below s _ _ _ T152 (mkF m 39 _ [(.ref t152)])
    refine .astore X152 hx (hb hby d3_39) rfl (L' := #[.val (.ref x), .val (.ref a), .val (.int (0 : Int32)), .val (.int (2 : Int32)), .val .null, .val (.ref t152)]) rfl ?_
    refine .aloadN X152 hx (hb hby d3_41) rfl rfl ?_
    refine .aload X152 hx (hb hby d3_42) rfl rfl ?_
    refine .iloadN X152 hx (hb hby d3_44) rfl ?_
    obtain ⟨_, _, ⟨T153, L153, k153, n153⟩, -, X153, ⟨Lc153, hQ153, l153, y153, z153⟩, st153⟩ := Jvm.LawKit.callS X152 hx (y := (⟨"java/lang/StringUTF16", "coderFromArrayLen", "([BI)B"⟩ : MethodName)) hown (mvT hZ (W_ hw 54 rfl)) (mvT hZ (W_ hw 55 rfl)) (mvT hZ (W_ hw 49 rfl)) (mvT hZ (W_ hw 56 rfl)) (by decide) (backOf (W := 1) (rmcfl2_0 l Z a0 hw [] t152 kb152 [(.int c0.toInt8.toInt32), (.int c1.toInt8.toInt32)] T152.heap n0 Z_ V152) hZ (W_ hw 56 rfl) (W_ hw 49 rfl) (by decide) (by decide)) (g := (mkF m 45 #[.val (.ref x), .val (.ref a), .val (.int (0 : Int32)), .val (.int (2 : Int32)), .val .null, .val (.ref t152)] [(.int (2 : Int32)), (.ref t152), (.ref x)])) rfl (by rw [hml]; rfl) (argsL := [(.ref t152), (.int (2 : Int32))]) (rest := [(.ref x)]) (lenOf pd_10 rfl) rfl (Nat.le_of_eq rfl) (hb hby d3_45) (fun _ _ => ⟨rfl, rfl, (by decide : 1 + 0 ≤ _), (by decide : 2 + 0 ≤ _)⟩)
    dsimp only [Pt.U, Pt.locs, Pt.cells, Pt.slots] at X153 l153 y153 z153 st153 hQ153
    subst l153 y153 z153
    obtain ⟨rfl, N153q, e153⟩ := hQ153
    have N153 := Fr.app N152 N153q
    refine .st st153 ?_
    show OwnGo p e below s _ _ _ T153 (mkF m 48 _ [(.int (0 : Int32)), (.ref x)])
    obtain ⟨T154, h154, X154, e154, W154, st154⟩ := putFN X153 hx hZ hown (W_ hw 26 rfl) Via.refl e153 Fc E_x (Or.inr ⟨(W_ hw 22 rfl), rfl, hnm⟩) (W_ hw 6 rfl) (ty := .byte) (v' := (.int (0 : Int32))) (by decide) rfl (by decide) (g := (mkF m 48 #[.val (.ref x), .val (.ref a), .val (.int (0 : Int32)), .val (.int (2 : Int32)), .val .null, .val (.ref t152)] [(.int (0 : Int32)), (.ref x)])) rfl rfl (hb hby d3_48)
    have E_x := E_x.wr W154
    have Fv := Fv.other W154 (Or.inr (slot_ne (Or.inr (W_ hw 21 rfl)) (Or.inr (W_ hw 22 rfl)) (by decide) (t := (.array .byte)) (t' := .byte) (by decide) (by decide)))
    have Fc := Fc.same W154
    have V_a := V_a.other W154 ne_a_x
    have V152 := V152.other W154 (Ne.symm ne_x_t152)
    have O_ := O_.wr W154 g_x
    have Kp := Kp.wr W154 (Or.inl (List.mem_of_getElem? (i := 0) rfl))
    have N154 := Fr.snoc X154 N153 g_x
    have Z_ : n0 ≤ h154.size := by rw [W154.size]; exact Z_
    refine .st st154 ?_
    show OwnGo p e below s _ _ _ T154 (mkF m 51 _ [])
    refine .aloadN X154 hx (hb hby d3_51) rfl rfl ?_
    refine .aload X154 hx (hb hby d3_52) rfl rfl ?_
    obtain ⟨T155, h155, X155, e155, W155, st155⟩ := putF X154 hx hZ hown (host := "") (Or.inl (W_ hw 25 rfl)) Via.refl e154 Fv E_x (Or.inr ⟨(W_ hw 21 rfl), rfl, hnm⟩) (W_ hw 6 rfl) (ty := (.array .byte)) (by decide) rfl rfl (g := (mkF m 54 #[.val (.ref x), .val (.ref a), .val (.int (0 : Int32)), .val (.int (2 : Int32)), .val .null, .val (.ref t152)] [(.ref t152), (.ref x)])) rfl rfl (hb hby d3_54)
    have E_x := E_x.wr W155
    have Fv := Fv.same W155
    have Fc := Fc.other W155 (Or.inr (slot_ne (Or.inr (W_ hw 22 rfl)) (Or.inr (W_ hw 21 rfl)) (by decide) (t := .byte) (t' := (.array .byte)) (by decide) (by decide)))
    have V_a := V_a.other W155 ne_a_x
    have V152 := V152.other W155 (Ne.symm ne_x_t152)
    have O_ := O_.wr W155 g_x
    have Kp := Kp.wr W155 (Or.inl (List.mem_of_getElem? (i := 0) rfl))
    have N155 := Fr.snoc X155 N154 g_x
    have Z_ : n0 ≤ h155.size := by rw [W155.size]; exact Z_
    refine .st st155 ?_
    show OwnGo p e below s _ _ _ T155 (mkF m 57 _ [])
    exact OwnGo.retV X155 hx hret hlk (hb hby d3_57) (by show QiV2 Z x a ka c0 c1 zc h0 n0 _ T155.heap _; rw [e155]; exact ⟨t152, kb152, rfl, N155, Kp, ⟨E_x, Fv, Or.inl ⟨Fc, V152, hl⟩⟩, sz_t152⟩) (by decide) (by decide)
  · have hb_ : (255 : Int32) < c0 ∨ (255 : Int32) < c1 := (own_nand hl).imp_right (fun hl => Classical.not_not.mp hl)
    obtain ⟨_, _, ⟨T156, L156, k156, n156⟩, -, X156, ⟨Lc156, hQ156, l156, y156, z156⟩, st156⟩ := Jvm.LawKit.callS X151 hx (y := (⟨"java/lang/StringUTF16", "compress", "([CII)[B"⟩ : MethodName)) hown (mvT hZ (W_ hw 47 rfl)) (mvT hZ (W_ hw 48 rfl)) (mvT hZ (W_ hw 49 rfl)) (mvT hZ (W_ hw 50 rfl)) (by decide) (backOf (W := 0) (rmcpU2 l Z a0 hw [] a ka c0 c1 h0 n0 Z_ O_ S_AD S_HB S_LB V_a hb_ P_c0 P_c1) hZ (W_ hw 50 rfl) (W_ hw 49 rfl) (by decide) (by decide)) (g := (mkF m 36 #[.val (.ref x), .val (.ref a), .val (.int (0 : Int32)), .val (.int (2 : Int32)), .val .null, .unset] [(.int (2 : Int32)), (.int (0 : Int32)), (.ref a)])) rfl (by rw [hml]; rfl) (argsL := [(.ref a), (.int (0 : Int32)), (.int (2 : Int32))]) (rest := []) (lenOf pd_8 rfl) rfl (Nat.le_of_eq rfl) (hb hby d3_36) (fun _ _ => ⟨rfl, e151, (by decide : 0 + 2 ≤ _), (by decide : 0 + 6 ≤ _)⟩)
    dsimp only [Pt.U, Pt.locs, Pt.cells, Pt.slots] at X156 l156 y156 z156 st156 hQ156
    subst l156 y156 z156
    obtain ⟨t156, kb156, rfl, N156q, K156, V156, zt156⟩ := hQ156
    have N156 := Fr.app N0 N156q
    have ne_x_t156 : x ≠ t156 := Nat.ne_of_lt (Nat.lt_of_lt_of_le E_x.lt zt156)
    have ne_a_t156 : a ≠ t156 := Nat.ne_of_lt (Nat.lt_of_lt_of_le V_a.lt zt156)
    have g_t156 : n0 ≤ t156 := Nat.le_trans Z_ zt156
    have sz_t156 : h0.size ≤ t156 := Nat.le_trans Kp.1 zt156
    have Z_ : n0 ≤ T156.heap.size := Nat.le_trans Z_ K156.1
    have E_x := E_x.keep K156
    have Fv := Fv.keep K156 nin0
    have Fc := Fc.keep K156 nin0
    have V_a := V_a.keep K156 nin0
    have O_ := O_.keep K156 all0
    have Kp := Kp.trans K156 all0
    refine .st st156 ?_
    show OwnGo p e below s _ _ _ T156 (mkF m 39 _ [(.ref t156)])
    refine .astore X156 hx (hb hby d3_39) rfl (L' := #[.val (.ref x), .val (.ref a), .val (.int (0 : Int32)), .val (.int (2 : Int32)), .val .null, .val (.ref t156)]) rfl ?_
    refine .aloadN X156 hx (hb hby d3_41) rfl rfl ?_
    refine .aload X156 hx (hb hby d3_42) rfl rfl ?_
    refine .iloadN X156 hx (hb hby d3_44) rfl ?_
    obtain ⟨_, _, ⟨T157, L157, k157, n157⟩, -, X157, ⟨Lc157, hQ157, l157, y157, z157⟩, st157⟩ := Jvm.LawKit.callS X156 hx (y := (⟨"java/lang/StringUTF16", "coderFromArrayLen", "([BI)B"⟩ : MethodName)) hown (mvT hZ (W_ hw 54 rfl)) (mvT hZ (W_ hw 55 rfl)) (mvT hZ (W_ hw 49 rfl)) (mvT hZ (W_ hw 56 rfl)) (by decide) (backOf (W := 1) (rmcfl2_1 l Z a0 hw [] t156 kb156 [(.int (own_lo c0)), (.int (own_hi c0)), (.int (own_lo c1)), (.int (own_hi c1))] T156.heap n0 Z_ V156) hZ (W_ hw 56 rfl) (W_ hw 49 rfl) (by decide) (by decide)) (g := (mkF m 45 #[.val (.ref x), .val (.ref a), .val (.int (0 : Int32)), .val (.int (2 : Int32)), .val .null, .val (.ref t156)] [(.int (2 : Int32)), (.ref t156), (.ref x)])) rfl (by rw [hml]; rfl) (argsL := [(.ref t156), (.int (2 : Int32))]) (rest := [(.ref x)]) (lenOf pd_10 rfl) rfl (Nat.le_of_eq rfl) (hb hby d3_45) (fun _ _ => ⟨rfl, rfl, (by decide : 2 + 0 ≤ _), (by decide : 6 + 0 ≤ _)⟩)
    dsimp only [Pt.U, Pt.locs, Pt.cells, Pt.slots] at X157 l157 y157 z157 st157 hQ157
    subst l157 y157 z157
    obtain ⟨rfl, N157q, e157⟩ := hQ157
    have N157 := Fr.app N156 N157q
    refine .st st157 ?_
    show OwnGo p e below s _ _ _ T157 (mkF m 48 _ [(.int (1 : Int32)), (.ref x)])
    obtain ⟨T158, h158, X158, e158, W158, st158⟩ := putFN X157 hx hZ hown (W_ hw 26 rfl) Via.refl e157 Fc E_x (Or.inr ⟨(W_ hw 22 rfl), rfl, hnm⟩) (W_ hw 6 rfl) (ty := .byte) (v' := (.int (1 : Int32))) (by decide) rfl (by decide) (g := (mkF m 48 #[.val (.ref x), .val (.ref a), .val (.int (0 : Int32)), .val (.int (2 : Int32)), .val .null, .val (.ref t156)] [(.int (1 : Int32)), (.ref x)])) rfl rfl (hb hby d3_48)
    have E_x := E_x.wr W158
    have Fv := Fv.other W158 (Or.inr (slot_ne (Or.inr (W_ hw 21 rfl)) (Or.inr (W_ hw 22 rfl)) (by decide) (t := (.array .byte)) (t' := .byte) (by decide) (by decide)))
    have Fc := Fc.same W158
    have V_a := V_a.other W158 ne_a_x
    have V156 := V156.other W158 (Ne.symm ne_x_t156)
    have O_ := O_.wr W158 g_x
    have Kp := Kp.wr W158 (Or.inl (List.mem_of_getElem? (i := 0) rfl))
    have N158 := Fr.snoc X158 N157 g_x
    have Z_ : n0 ≤ h158.size := by rw [W158.size]; exact Z_
    refine .st st158 ?_
    show OwnGo p e below s _ _ _ T158 (mkF m 51 _ [])
    refine .aloadN X158 hx (hb hby d3_51) rfl rfl ?_
    refine .aload X158 hx (hb hby d3_52) rfl rfl ?_
    obtain ⟨T159, h159, X159, e159, W159, st159⟩ := putF X158 hx hZ hown (host := "") (Or.inl (W_ hw 25 rfl)) Via.refl e158 Fv E_x (Or.inr ⟨(W_ hw 21 rfl), rfl, hnm⟩) (W_ hw 6 rfl) (ty := (.array .byte)) (by decide) rfl rfl (g := (mkF m 54 #[.val (.ref x), .val (.ref a), .val (.int (0 : Int32)), .val (.int (2 : Int32)), .val .null, .val (.ref t156)] [(.ref t156), (.ref x)])) rfl rfl (hb hby d3_54)
    have E_x := E_x.wr W159
    have Fv := Fv.same W159
    have Fc := Fc.other W159 (Or.inr (slot_ne (Or.inr (W_ hw 22 rfl)) (Or.inr (W_ hw 21 rfl)) (by decide) (t := .byte) (t' := (.array .byte)) (by decide) (by decide)))
    have V_a := V_a.other W159 ne_a_x
    have V156 := V156.other W159 (Ne.symm ne_x_t156)
    have O_ := O_.wr W159 g_x
    have Kp := Kp.wr W159 (Or.inl (List.mem_of_getElem? (i := 0) rfl))
    have N159 := Fr.snoc X159 N158 g_x
    have Z_ : n0 ≤ h159.size := by rw [W159.size]; exact Z_
    refine .st st159 ?_
    show OwnGo p e below s _ _ _ T159 (mkF m 57 _ [])
    exact OwnGo.retV X159 hx hret hlk (hb hby d3_57) (by show QiV2 Z x a ka c0 c1 zc h0 n0 _ T159.heap _; rw [e159]; exact ⟨t156, kb156, rfl, N159, Kp, ⟨E_x, Fv, Or.inr ⟨Fc, V156⟩⟩, sz_t156⟩) (by decide) (by decide)
def QiC2 (Z : State) (x : Addr) (a : Addr) (ka : ClassId) (c0 : Int32) (c1 : Int32) (zc : Int32) (h0 : Heap) (n0 : Nat) (v : Option Value) (h : Heap) (L : List Loc) : Prop := ∃ (t : Addr) (kb : ClassId), v = none ∧ Fr n0 L ∧ Keep h0 h [x] ∧ own_S2 Z h x t kb c0 c1 ∧ h0.size ≤ t
theorem rmiC2 (l : Launch) (Z : State) (a0 : Array Value) (hw : own_tb a0 Z) (ws : List Jvm.Cond) (x : Addr) (a : Addr) (ka : ClassId) (c0 : Int32) (c1 : Int32) (zc : Int32) (h0 : Heap) (n0 : Nat) (Z0 : n0 ≤ h0.size) (O_ : Old Z n0 h0) (S_CS : Sta Z Z.heap "java/lang/String" "COMPACT_STRINGS" "Z" (.int zc)) (P_CS : ¬ zc = (0 : Int32)) (S_AD : Sta Z Z.heap "java/lang/StringUTF16" "$assertionsDisabled" "Z" (.int (1 : Int32))) (S_HB : Sta Z Z.heap "java/lang/StringUTF16" "HI_BYTE_SHIFT" "I" (.int (0 : Int32))) (S_LB : Sta Z Z.heap "java/lang/StringUTF16" "LO_BYTE_SHIFT" "I" (.int (8 : Int32))) (E_x : Exa Z h0 x "java/lang/String") (Fv : Fld Z h0 x "java/lang/String" "value" "[B" .null) (Fc : Fld Z h0 x "java/lang/String" "coder" "B" (.int (0 : Int32))) (g_x : n0 ≤ x) (V_a : Arv Z h0 a ka .char (2 : Int32) [(.int c0), (.int c1)] (.int (0 : Int32))) (ne_a_x : a ≠ x) (P_c0 : own_u c0) (P_c1 : own_u c1) :
    OwnMet l (⟨"java/lang/String", "<init>", "([C)V"⟩ : MethodName) jdk_42_method_3_code 2 none ws ({ frames := 5, cells := 2, slots := 6, locals := 74 } : Room) #[(.ref x), (.ref a)] Z h0 (QiC2 Z x a ka c0 c1 zc h0 n0) := by
  refine own_met (plainFor_of_name pn_6) ?_
  intro p e s m below meth c s₁ X0 hx hby hml hret hlk hown hnm hZ e0
  have N0 := Fr.nil n0
  have Z_ := Z0
  refine OwnGo.cast (ef_iC2 m x a) ?_
  show OwnGo p e below s _ _ _ s₁ (mkF m 0 _ [])
  refine .aloadN X0 hx (hb hby d2_0) rfl rfl ?_
  refine .aloadN X0 hx (hb hby d2_1) rfl rfl ?_
  refine .iconst X0 hx (hb hby d2_2) own_ki0 ?_
  refine .aloadN X0 hx (hb hby d2_3) rfl rfl ?_
  obtain ⟨cl160, Ar160, -, S160, N160, -, -⟩ := id V_a
  refine .st (fun _ => own_len hZ (len_of S160 N160) Ar160 X0 e0 hx (g := (mkF m 4 #[.val (.ref x), .val (.ref a)] [(.ref a), (.int (0 : Int32)), (.ref a), (.ref x)])) rfl rfl (hb hby d2_4) _) ?_
  show OwnGo p e below s _ _ _ s₁ (mkF m 5 _ [(.int (2 : Int32)), (.int (0 : Int32)), (.ref a), (.ref x)])
  refine .aconstNull X0 hx (hb hby d2_5)  ?_
  obtain ⟨_, _, ⟨T161, L161, k161, n161⟩, -, X161, ⟨Lc161, hQ161, l161, y161, z161⟩, st161⟩ := X0.specialBack hx (y := (⟨"java/lang/String", "<init>", "([CIILjava/lang/Void;)V"⟩ : MethodName)) rfl hown (mvT hZ (W_ hw 12 rfl)) (mvT hZ (W_ hw 13 rfl)) (mvT hZ (W_ hw 15 rfl)) (by decide) (backOf (W := 0) (rmiV2 l Z a0 hw [] x a ka c0 c1 zc h0 n0 Z_ O_ S_CS P_CS S_AD S_HB S_LB E_x Fv Fc g_x V_a ne_a_x P_c0 P_c1) hZ (W_ hw 15 rfl) (W_ hw 7 rfl) (by decide) (by decide)) (g := (mkF m 6 #[.val (.ref x), .val (.ref a)] [.null, (.int (2 : Int32)), (.int (0 : Int32)), (.ref a), (.ref x)])) rfl (by rw [hml]; rfl) (Steps.refl _) (a := x) (argsL := [(.ref a), (.int (0 : Int32)), (.int (2 : Int32)), .null]) (rest := []) (lenOf pd_11 rfl) rfl (Nat.le_of_eq rfl) (hb hby d2_6) (fun _ _ => ⟨rfl, e0, (by decide : 0 + 2 ≤ _), (by decide : 0 + 6 ≤ _)⟩)
  dsimp only [Pt.U, Pt.locs, Pt.cells, Pt.slots] at X161 l161 y161 z161 st161 hQ161
  subst l161 y161 z161
  obtain ⟨t161, kb161, rfl, N161q, K161, S161, zt161⟩ := hQ161
  have N161 := Fr.app N0 N161q
  have ne_x_t161 : x ≠ t161 := Nat.ne_of_lt (Nat.lt_of_lt_of_le E_x.lt zt161)
  have ne_a_t161 : a ≠ t161 := Nat.ne_of_lt (Nat.lt_of_lt_of_le V_a.lt zt161)
  have g_t161 : n0 ≤ t161 := Nat.le_trans Z_ zt161
  have Z_ : n0 ≤ T161.heap.size := Nat.le_trans Z_ K161.1
  have E_x := E_x.keep K161
  have V_a := V_a.keep K161 (ninS ne_a_x nin0)
  have O_ := O_.keep K161 (allS g_x all0)
  refine .st (fun _ => st161.trans) ?_
  show OwnGo p e below s _ _ _ T161 (mkF m 9 _ [])
  exact OwnGo.retV X161 hx hret hlk (hb hby d2_9) (by show QiC2 Z x a ka c0 c1 zc h0 n0 _ T161.heap _; exact ⟨t161, kb161, rfl, N161, K161, S161, zt161⟩) (by decide) (by decide)
def QiV3 (Z : State) (x : Addr) (a : Addr) (ka : ClassId) (c0 : Int32) (c1 : Int32) (c2 : Int32) (zc : Int32) (h0 : Heap) (n0 : Nat) (v : Option Value) (h : Heap) (L : List Loc) : Prop := ∃ (t : Addr) (kb : ClassId), v = none ∧ Fr n0 L ∧ Keep h0 h [x] ∧ own_S3 Z h x t kb c0 c1 c2 ∧ h0.size ≤ t
theorem rmiV3 (l : Launch) (Z : State) (a0 : Array Value) (hw : own_tb a0 Z) (ws : List Jvm.Cond) (x : Addr) (a : Addr) (ka : ClassId) (c0 : Int32) (c1 : Int32) (c2 : Int32) (zc : Int32) (h0 : Heap) (n0 : Nat) (Z0 : n0 ≤ h0.size) (O_ : Old Z n0 h0) (S_CS : Sta Z Z.heap "java/lang/String" "COMPACT_STRINGS" "Z" (.int zc)) (P_CS : ¬ zc = (0 : Int32)) (S_AD : Sta Z Z.heap "java/lang/StringUTF16" "$assertionsDisabled" "Z" (.int (1 : Int32))) (S_HB : Sta Z Z.heap "java/lang/StringUTF16" "HI_BYTE_SHIFT" "I" (.int (0 : Int32))) (S_LB : Sta Z Z.heap "java/lang/StringUTF16" "LO_BYTE_SHIFT" "I" (.int (8 : Int32))) (E_x : Exa Z h0 x "java/lang/String") (Fv : Fld Z h0 x "java/lang/String" "value" "[B" .null) (Fc : Fld Z h0 x "java/lang/String" "coder" "B" (.int (0 : Int32))) (g_x : n0 ≤ x) (V_a : Arv Z h0 a ka .char (3 : Int32) [(.int c0), (.int c1), (.int c2)] (.int (0 : Int32))) (ne_a_x : a ≠ x) (P_c0 : own_u c0) (P_c1 : own_u c1) (P_c2 : own_u c2) :
    OwnMet l (⟨"java/lang/String", "<init>", "([CIILjava/lang/Void;)V"⟩ : MethodName) jdk_42_method_149_code 6 none ws ({ frames := 4, cells := 2, slots := 9, locals := 57 } : Room) #[(.ref x), (.ref a), (.int (0 : Int32)), (.int (3 : Int32)), .null] Z h0 (QiV3 Z x a ka c0 c1 c2 zc h0 n0) := by
  refine own_met (plainFor_of_name pn_6) ?_
  intro p e s m below meth c s₁ X0 hx hby hml hret hlk hown hnm hZ e0
  have N0 := Fr.nil n0
  have Z_ := Z0
  refine OwnGo.cast (ef_iV3 m x a (0 : Int32) (3 : Int32)) ?_
  show OwnGo p e below s _ _ _ s₁ (mkF m 0 _ [])
  have Kp : Keep h0 h0 [x] := Keep.refl h0 [x]
  refine .aloadN X0 hx (hb hby d3_0) rfl rfl ?_
  obtain ⟨T162, X162, e162, st162⟩ := initO X0 hx hZ hown (W_ hw 16 rfl) (W_ hw 17 rfl) (W_ hw 18 rfl) e0 (g := (mkF m 1 #[.val (.ref x), .val (.ref a), .val (.int (0 : Int32)), .val (.int (3 : Int32)), .val .null, .unset] [(.ref x)])) rfl (by rw [hml]; rfl) rfl (hb hby d3_1) (by decide) (W := 0) (Nat.le_of_eq rfl) (by decide)
  refine .st st162 ?_
  show OwnGo p e below s _ _ _ T162 (mkF m 4 _ [])
  refine .iloadN X162 hx (hb hby d3_4) rfl ?_
  refine .ifYes (pc := 5) X162 hx 27 (hb hby d3_5) ((if0 _ _).trans (feq ((by decide) : ¬ ((3 : Int32) = (0 : Int32)))).2) (by decide) (by decide) ?_
  obtain ⟨T163, X163, e163, st163⟩ := getS2 X162 hx hZ hown (host := "") (Or.inl (W_ hw 37 rfl)) Via.refl e162 (S_CS.ext O_.2) (g := (mkF m 27 #[.val (.ref x), .val (.ref a), .val (.int (0 : Int32)), .val (.int (3 : Int32)), .val .null, .unset] [])) rfl (hb hby d3_27)
  refine .st st163 ?_
  show OwnGo p e below s _ _ _ T163 (mkF m 30 _ [(.int zc)])
  refine .ifNo X163 hx (hb hby d3_30) ((if0 _ _).trans (feq (P_CS : ¬ (zc = (0 : Int32)))).1) ?_
  refine .aloadN X163 hx (hb hby d3_33) rfl rfl ?_
  refine .iloadN X163 hx (hb hby d3_34) rfl ?_
  refine .iloadN X163 hx (hb hby d3_35) rfl ?_
  by_cases hl : ¬ (255 : Int32) < c0 ∧ ¬ (255 : Int32) < c1 ∧ ¬ (255 : Int32) < c2
  · obtain ⟨_, _, ⟨T164, L164, k164, n164⟩, -, X164, ⟨Lc164, hQ164, l164, y164, z164⟩, st164⟩ := Jvm.LawKit.callS X163 hx (y := (⟨"java/lang/StringUTF16", "compress", "([CII)[B"⟩ : MethodName)) hown (mvT hZ (W_ hw 47 rfl)) (mvT hZ (W_ hw 48 rfl)) (mvT hZ (W_ hw 49 rfl)) (mvT hZ (W_ hw 50 rfl)) (by decide) (backOf (W := 0) (rmcpL3 l Z a0 hw [] a ka c0 c1 c2 h0 n0 Z_ V_a hl) hZ (W_ hw 50 rfl) (W_ hw 49 rfl) (by decide) (by decide)) (g := (mkF m 36 #[.val (.ref x), .val (.ref a), .val (.int (0 : Int32)), .val (.int (3 : Int32)), .val .null, .unset] [(.int (3 : Int32)), (.int (0 : Int32)), (.ref a)])) rfl (by rw [hml]; rfl) (argsL := [(.ref a), (.int (0 : Int32)), (.int (3 : Int32))]) (rest := []) (lenOf pd_8 rfl) rfl (Nat.le_of_eq rfl) (hb hby d3_36) (fun _ _ => ⟨rfl, e163, (by decide : 0 + 1 ≤ _), (by decide : 0 + 3 ≤ _)⟩)
    dsimp only [Pt.U, Pt.locs, Pt.cells, Pt.slots] at X164 l164 y164 z164 st164 hQ164
    subst l164 y164 z164
    obtain ⟨t164, kb164, rfl, N164q, K164, V164, zt164⟩ := hQ164
    have N164 := Fr.app N0 N164q
    have ne_x_t164 : x ≠ t164 := Nat.ne_of_lt (Nat.lt_of_lt_of_le E_x.lt zt164)
    have ne_a_t164 : a ≠ t164 := Nat.ne_of_lt (Nat.lt_of_lt_of_le V_a.lt zt164)
    have g_t164 : n0 ≤ t164 := Nat.le_trans Z_ zt164
    have sz_t164 : h0.size ≤ t164 := Nat.le_trans Kp.1 zt164
    have Z_ : n0 ≤ T164.heap.size := Nat.le_trans Z_ K164.1
    have E_x := E_x.keep K164
    have Fv := Fv.keep K164 nin0
    have Fc := Fc.keep K164 nin0
    have V_a := V_a.keep K164 nin0
    have O_ := O_.keep K164 all0
    have Kp := Kp.trans K164 all0
    refine .st st164 ?_
    show OwnGo p e below s _ _ _ T164 (mkF m 39 _ [(.ref t164)])
    refine .astore X164 hx (hb hby d3_39) rfl (L' := #[.val (.ref x), .val (.ref a), .val (.int (0 : Int32)), .val (.int (3 : Int32)), .val .null, .val (.ref t164)]) rfl ?_
    refine .aloadN X164 hx (hb hby d3_41) rfl rfl ?_
    refine .aload X164 hx (hb hby d3_42) rfl rfl ?_
    refine .iloadN X164 hx (hb hby d3_44) rfl ?_
    obtain ⟨_, _, ⟨T165, L165, k165, n165⟩, -, X165, ⟨Lc165, hQ165, l165, y165, z165⟩, st165⟩ := Jvm.LawKit.callS X164 hx (y := (⟨"java/lang/StringUTF16", "coderFromArrayLen", "([BI)B"⟩ : MethodName)) hown (mvT hZ (W_ hw 54 rfl)) (mvT hZ (W_ hw 55 rfl)) (mvT hZ (W_ hw 49 rfl)) (mvT hZ (W_ hw 56 rfl)) (by decide) (backOf (W := 1) (rmcfl3_0 l Z a0 hw [] t164 kb164 [(.int c0.toInt8.toInt32), (.int c1.toInt8.toInt32), (.int c2.toInt8.toInt32)] T164.heap n0 Z_ V164) hZ (W_ hw 56 rfl) (W_ hw 49 rfl) (by decide) (by decide)) (g := (mkF m 45 #[.val (.ref x), .val (.ref a), .val (.int (0 : Int32)), .val (.int (3 : Int32)), .val .null, .val (.ref t164)] [(.int (3 : Int32)), (.ref t164), (.ref x)])) rfl (by rw [hml]; rfl) (argsL := [(.ref t164), (.int (3 : Int32))]) (rest := [(.ref x)]) (lenOf pd_10 rfl) rfl (Nat.le_of_eq rfl) (hb hby d3_45) (fun _ _ => ⟨rfl, rfl, (by decide : 1 + 0 ≤ _), (by decide : 3 + 0 ≤ _)⟩)
    dsimp only [Pt.U, Pt.locs, Pt.cells, Pt.slots] at X165 l165 y165 z165 st165 hQ165
    subst l165 y165 z165
    obtain ⟨rfl, N165q, e165⟩ := hQ165
    have N165 := Fr.app N164 N165q
    refine .st st165 ?_
    show OwnGo p e below s _ _ _ T165 (mkF m 48 _ [(.int (0 : Int32)), (.ref x)])
    obtain ⟨T166, h166, X166, e166, W166, st166⟩ := putFN X165 hx hZ hown (W_ hw 26 rfl) Via.refl e165 Fc E_x (Or.inr ⟨(W_ hw 22 rfl), rfl, hnm⟩) (W_ hw 6 rfl) (ty := .byte) (v' := (.int (0 : Int32))) (by decide) rfl (by decide) (g := (mkF m 48 #[.val (.ref x), .val (.ref a), .val (.int (0 : Int32)), .val (.int (3 : Int32)), .val .null, .val (.ref t164)] [(.int (0 : Int32)), (.ref x)])) rfl rfl (hb hby d3_48)
    have E_x := E_x.wr W166
    have Fv := Fv.other W166 (Or.inr (slot_ne (Or.inr (W_ hw 21 rfl)) (Or.inr (W_ hw 22 rfl)) (by decide) (t := (.array .byte)) (t' := .byte) (by decide) (by decide)))
    have Fc := Fc.same W166
    have V_a := V_a.other W166 ne_a_x
    have V164 := V164.other W166 (Ne.symm ne_x_t164)
    have O_ := O_.wr W166 g_x
    have Kp := Kp.wr W166 (Or.inl (List.mem_of_getElem? (i := 0) rfl))
    have N166 := Fr.snoc X166 N165 g_x
    have Z_ : n0 ≤ h166.size := by rw [W166.size]; exact Z_
    refine .st st166 ?_
    show OwnGo p e below s _ _ _ T166 (mkF m 51 _ [])
    refine .aloadN X166 hx (hb hby d3_51) rfl rfl ?_
    refine .aload X166 hx (hb hby d3_52) rfl rfl ?_
    obtain ⟨T167, h167, X167, e167, W167, st167⟩ := putF X166 hx hZ hown (host := "") (Or.inl (W_ hw 25 rfl)) Via.refl e166 Fv E_x (Or.inr ⟨(W_ hw 21 rfl), rfl, hnm⟩) (W_ hw 6 rfl) (ty := (.array .byte)) (by decide) rfl rfl (g := (mkF m 54 #[.val (.ref x), .val (.ref a), .val (.int (0 : Int32)), .val (.int (3 : Int32)), .val .null, .val (.ref t164)] [(.ref t164), (.ref x)])) rfl rfl (hb hby d3_54)
    have E_x := E_x.wr W167
    have Fv := Fv.same W167
    have Fc := Fc.other W167 (Or.inr (slot_ne (Or.inr (W_ hw 22 rfl)) (Or.inr (W_ hw 21 rfl)) (by decide) (t := .byte) (t' := (.array .byte)) (by decide) (by decide)))
    have V_a := V_a.other W167 ne_a_x
    have V164 := V164.other W167 (Ne.symm ne_x_t164)
    have O_ := O_.wr W167 g_x
    have Kp := Kp.wr W167 (Or.inl (List.mem_of_getElem? (i := 0) rfl))
    have N167 := Fr.snoc X167 N166 g_x
    have Z_ : n0 ≤ h167.size := by rw [W167.size]; exact Z_
    refine .st st167 ?_
    show OwnGo p e below s _ _ _ T167 (mkF m 57 _ [])
    exact OwnGo.retV X167 hx hret hlk (hb hby d3_57) (by show QiV3 Z x a ka c0 c1 c2 zc h0 n0 _ T167.heap _; rw [e167]; exact ⟨t164, kb164, rfl, N167, Kp, ⟨E_x, Fv, Or.inl ⟨Fc, V164, hl⟩⟩, sz_t164⟩) (by decide) (by decide)
  · have hb_ : (255 : Int32) < c0 ∨ (255 : Int32) < c1 ∨ (255 : Int32) < c2 := (own_nand hl).imp_right (fun hl => (own_nand hl).imp_right (fun hl => Classical.not_not.mp hl))
    obtain ⟨_, _, ⟨T168, L168, k168, n168⟩, -, X168, ⟨Lc168, hQ168, l168, y168, z168⟩, st168⟩ := Jvm.LawKit.callS X163 hx (y := (⟨"java/lang/StringUTF16", "compress", "([CII)[B"⟩ : MethodName)) hown (mvT hZ (W_ hw 47 rfl)) (mvT hZ (W_ hw 48 rfl)) (mvT hZ (W_ hw 49 rfl)) (mvT hZ (W_ hw 50 rfl)) (by decide) (backOf (W := 0) (rmcpU3 l Z a0 hw [] a ka c0 c1 c2 h0 n0 Z_ O_ S_AD S_HB S_LB V_a hb_ P_c0 P_c1 P_c2) hZ (W_ hw 50 rfl) (W_ hw 49 rfl) (by decide) (by decide)) (g := (mkF m 36 #[.val (.ref x), .val (.ref a), .val (.int (0 : Int32)), .val (.int (3 : Int32)), .val .null, .unset] [(.int (3 : Int32)), (.int (0 : Int32)), (.ref a)])) rfl (by rw [hml]; rfl) (argsL := [(.ref a), (.int (0 : Int32)), (.int (3 : Int32))]) (rest := []) (lenOf pd_8 rfl) rfl (Nat.le_of_eq rfl) (hb hby d3_36) (fun _ _ => ⟨rfl, e163, (by decide : 0 + 2 ≤ _), (by decide : 0 + 9 ≤ _)⟩)
    dsimp only [Pt.U, Pt.locs, Pt.cells, Pt.slots] at X168 l168 y168 z168 st168 hQ168
    subst l168 y168 z168
    obtain ⟨t168, kb168, rfl, N168q, K168, V168, zt168⟩ := hQ168
    have N168 := Fr.app N0 N168q
    have ne_x_t168 : x ≠ t168 := Nat.ne_of_lt (Nat.lt_of_lt_of_le E_x.lt zt168)
    have ne_a_t168 : a ≠ t168 := Nat.ne_of_lt (Nat.lt_of_lt_of_le V_a.lt zt168)
    have g_t168 : n0 ≤ t168 := Nat.le_trans Z_ zt168
    have sz_t168 : h0.size ≤ t168 := Nat.le_trans Kp.1 zt168
    have Z_ : n0 ≤ T168.heap.size := Nat.le_trans Z_ K168.1
    have E_x := E_x.keep K168
    have Fv := Fv.keep K168 nin0
    have Fc := Fc.keep K168 nin0
    have V_a := V_a.keep K168 nin0
    have O_ := O_.keep K168 all0
    have Kp := Kp.trans K168 all0
    refine .st st168 ?_
    show OwnGo p e below s _ _ _ T168 (mkF m 39 _ [(.ref t168)])
    refine .astore X168 hx (hb hby d3_39) rfl (L' := #[.val (.ref x), .val (.ref a), .val (.int (0 : Int32)), .val (.int (3 : Int32)), .val .null, .val (.ref t168)]) rfl ?_
    refine .aloadN X168 hx (hb hby d3_41) rfl rfl ?_
    refine .aload X168 hx (hb hby d3_42) rfl rfl ?_
    refine .iloadN X168 hx (hb hby d3_44) rfl ?_
    obtain ⟨_, _, ⟨T169, L169, k169, n169⟩, -, X169, ⟨Lc169, hQ169, l169, y169, z169⟩, st169⟩ := Jvm.LawKit.callS X168 hx (y := (⟨"java/lang/StringUTF16", "coderFromArrayLen", "([BI)B"⟩ : MethodName)) hown (mvT hZ (W_ hw 54 rfl)) (mvT hZ (W_ hw 55 rfl)) (mvT hZ (W_ hw 49 rfl)) (mvT hZ (W_ hw 56 rfl)) (by decide) (backOf (W := 1) (rmcfl3_1 l Z a0 hw [] t168 kb168 [(.int (own_lo c0)), (.int (own_hi c0)), (.int (own_lo c1)), (.int (own_hi c1)), (.int (own_lo c2)), (.int (own_hi c2))] T168.heap n0 Z_ V168) hZ (W_ hw 56 rfl) (W_ hw 49 rfl) (by decide) (by decide)) (g := (mkF m 45 #[.val (.ref x), .val (.ref a), .val (.int (0 : Int32)), .val (.int (3 : Int32)), .val .null, .val (.ref t168)] [(.int (3 : Int32)), (.ref t168), (.ref x)])) rfl (by rw [hml]; rfl) (argsL := [(.ref t168), (.int (3 : Int32))]) (rest := [(.ref x)]) (lenOf pd_10 rfl) rfl (Nat.le_of_eq rfl) (hb hby d3_45) (fun _ _ => ⟨rfl, rfl, (by decide : 2 + 0 ≤ _), (by decide : 9 + 0 ≤ _)⟩)
    dsimp only [Pt.U, Pt.locs, Pt.cells, Pt.slots] at X169 l169 y169 z169 st169 hQ169
    subst l169 y169 z169
    obtain ⟨rfl, N169q, e169⟩ := hQ169
    have N169 := Fr.app N168 N169q
    refine .st st169 ?_
    show OwnGo p e below s _ _ _ T169 (mkF m 48 _ [(.int (1 : Int32)), (.ref x)])
    obtain ⟨T170, h170, X170, e170, W170, st170⟩ := putFN X169 hx hZ hown (W_ hw 26 rfl) Via.refl e169 Fc E_x (Or.inr ⟨(W_ hw 22 rfl), rfl, hnm⟩) (W_ hw 6 rfl) (ty := .byte) (v' := (.int (1 : Int32))) (by decide) rfl (by decide) (g := (mkF m 48 #[.val (.ref x), .val (.ref a), .val (.int (0 : Int32)), .val (.int (3 : Int32)), .val .null, .val (.ref t168)] [(.int (1 : Int32)), (.ref x)])) rfl rfl (hb hby d3_48)
    have E_x := E_x.wr W170
    have Fv := Fv.other W170 (Or.inr (slot_ne (Or.inr (W_ hw 21 rfl)) (Or.inr (W_ hw 22 rfl)) (by decide) (t := (.array .byte)) (t' := .byte) (by decide) (by decide)))
    have Fc := Fc.same W170
    have V_a := V_a.other W170 ne_a_x
    have V168 := V168.other W170 (Ne.symm ne_x_t168)
    have O_ := O_.wr W170 g_x
    have Kp := Kp.wr W170 (Or.inl (List.mem_of_getElem? (i := 0) rfl))
    have N170 := Fr.snoc X170 N169 g_x
    have Z_ : n0 ≤ h170.size := by rw [W170.size]; exact Z_
    refine .st st170 ?_
    show OwnGo p e below s _ _ _ T170 (mkF m 51 _ [])
    refine .aloadN X170 hx (hb hby d3_51) rfl rfl ?_
    refine .aload X170 hx (hb hby d3_52) rfl rfl ?_
    obtain ⟨T171, h171, X171, e171, W171, st171⟩ := putF X170 hx hZ hown (host := "") (Or.inl (W_ hw 25 rfl)) Via.refl e170 Fv E_x (Or.inr ⟨(W_ hw 21 rfl), rfl, hnm⟩) (W_ hw 6 rfl) (ty := (.array .byte)) (by decide) rfl rfl (g := (mkF m 54 #[.val (.ref x), .val (.ref a), .val (.int (0 : Int32)), .val (.int (3 : Int32)), .val .null, .val (.ref t168)] [(.ref t168), (.ref x)])) rfl rfl (hb hby d3_54)
    have E_x := E_x.wr W171
    have Fv := Fv.same W171
    have Fc := Fc.other W171 (Or.inr (slot_ne (Or.inr (W_ hw 22 rfl)) (Or.inr (W_ hw 21 rfl)) (by decide) (t := .byte) (t' := (.array .byte)) (by decide) (by decide)))
    have V_a := V_a.other W171 ne_a_x
    have V168 := V168.other W171 (Ne.symm ne_x_t168)
    have O_ := O_.wr W171 g_x
    have Kp := Kp.wr W171 (Or.inl (List.mem_of_getElem? (i := 0) rfl))
    have N171 := Fr.snoc X171 N170 g_x
    have Z_ : n0 ≤ h171.size := by rw [W171.size]; exact Z_
    refine .st st171 ?_
    show OwnGo p e below s _ _ _ T171 (mkF m 57 _ [])
    exact OwnGo.retV X171 hx hret hlk (hb hby d3_57) (by show QiV3 Z x a ka c0 c1 c2 zc h0 n0 _ T171.heap _; rw [e171]; exact ⟨t168, kb168, rfl, N171, Kp, ⟨E_x, Fv, Or.inr ⟨Fc, V168⟩⟩, sz_t168⟩) (by decide) (by decide)
def QiC3 (Z : State) (x : Addr) (a : Addr) (ka : ClassId) (c0 : Int32) (c1 : Int32) (c2 : Int32) (zc : Int32) (h0 : Heap) (n0 : Nat) (v : Option Value) (h : Heap) (L : List Loc) : Prop := ∃ (t : Addr) (kb : ClassId), v = none ∧ Fr n0 L ∧ Keep h0 h [x] ∧ own_S3 Z h x t kb c0 c1 c2 ∧ h0.size ≤ t
theorem rmiC3 (l : Launch) (Z : State) (a0 : Array Value) (hw : own_tb a0 Z) (ws : List Jvm.Cond) (x : Addr) (a : Addr) (ka : ClassId) (c0 : Int32) (c1 : Int32) (c2 : Int32) (zc : Int32) (h0 : Heap) (n0 : Nat) (Z0 : n0 ≤ h0.size) (O_ : Old Z n0 h0) (S_CS : Sta Z Z.heap "java/lang/String" "COMPACT_STRINGS" "Z" (.int zc)) (P_CS : ¬ zc = (0 : Int32)) (S_AD : Sta Z Z.heap "java/lang/StringUTF16" "$assertionsDisabled" "Z" (.int (1 : Int32))) (S_HB : Sta Z Z.heap "java/lang/StringUTF16" "HI_BYTE_SHIFT" "I" (.int (0 : Int32))) (S_LB : Sta Z Z.heap "java/lang/StringUTF16" "LO_BYTE_SHIFT" "I" (.int (8 : Int32))) (E_x : Exa Z h0 x "java/lang/String") (Fv : Fld Z h0 x "java/lang/String" "value" "[B" .null) (Fc : Fld Z h0 x "java/lang/String" "coder" "B" (.int (0 : Int32))) (g_x : n0 ≤ x) (V_a : Arv Z h0 a ka .char (3 : Int32) [(.int c0), (.int c1), (.int c2)] (.int (0 : Int32))) (ne_a_x : a ≠ x) (P_c0 : own_u c0) (P_c1 : own_u c1) (P_c2 : own_u c2) :
    OwnMet l (⟨"java/lang/String", "<init>", "([C)V"⟩ : MethodName) jdk_42_method_3_code 2 none ws ({ frames := 5, cells := 2, slots := 9, locals := 74 } : Room) #[(.ref x), (.ref a)] Z h0 (QiC3 Z x a ka c0 c1 c2 zc h0 n0) := by
  refine own_met (plainFor_of_name pn_6) ?_
  intro p e s m below meth c s₁ X0 hx hby hml hret hlk hown hnm hZ e0
  have N0 := Fr.nil n0
  have Z_ := Z0
  refine OwnGo.cast (ef_iC3 m x a) ?_
  show OwnGo p e below s _ _ _ s₁ (mkF m 0 _ [])
  refine .aloadN X0 hx (hb hby d2_0) rfl rfl ?_
  refine .aloadN X0 hx (hb hby d2_1) rfl rfl ?_
  refine .iconst X0 hx (hb hby d2_2) own_ki0 ?_
  refine .aloadN X0 hx (hb hby d2_3) rfl rfl ?_
  obtain ⟨cl172, Ar172, -, S172, N172, -, -⟩ := id V_a
  refine .st (fun _ => own_len hZ (len_of S172 N172) Ar172 X0 e0 hx (g := (mkF m 4 #[.val (.ref x), .val (.ref a)] [(.ref a), (.int (0 : Int32)), (.ref a), (.ref x)])) rfl rfl (hb hby d2_4) _) ?_
  show OwnGo p e below s _ _ _ s₁ (mkF m 5 _ [(.int (3 : Int32)), (.int (0 : Int32)), (.ref a), (.ref x)])
  refine .aconstNull X0 hx (hb hby d2_5)  ?_
  obtain ⟨_, _, ⟨T173, L173, k173, n173⟩, -, X173, ⟨Lc173, hQ173, l173, y173, z173⟩, st173⟩ := X0.specialBack hx (y := (⟨"java/lang/String", "<init>", "([CIILjava/lang/Void;)V"⟩ : MethodName)) rfl hown (mvT hZ (W_ hw 12 rfl)) (mvT hZ (W_ hw 13 rfl)) (mvT hZ (W_ hw 15 rfl)) (by decide) (backOf (W := 0) (rmiV3 l Z a0 hw [] x a ka c0 c1 c2 zc h0 n0 Z_ O_ S_CS P_CS S_AD S_HB S_LB E_x Fv Fc g_x V_a ne_a_x P_c0 P_c1 P_c2) hZ (W_ hw 15 rfl) (W_ hw 7 rfl) (by decide) (by decide)) (g := (mkF m 6 #[.val (.ref x), .val (.ref a)] [.null, (.int (3 : Int32)), (.int (0 : Int32)), (.ref a), (.ref x)])) rfl (by rw [hml]; rfl) (Steps.refl _) (a := x) (argsL := [(.ref a), (.int (0 : Int32)), (.int (3 : Int32)), .null]) (rest := []) (lenOf pd_11 rfl) rfl (Nat.le_of_eq rfl) (hb hby d2_6) (fun _ _ => ⟨rfl, e0, (by decide : 0 + 2 ≤ _), (by decide : 0 + 9 ≤ _)⟩)
  dsimp only [Pt.U, Pt.locs, Pt.cells, Pt.slots] at X173 l173 y173 z173 st173 hQ173
  subst l173 y173 z173
  obtain ⟨t173, kb173, rfl, N173q, K173, S173, zt173⟩ := hQ173
  have N173 := Fr.app N0 N173q
  have ne_x_t173 : x ≠ t173 := Nat.ne_of_lt (Nat.lt_of_lt_of_le E_x.lt zt173)
  have ne_a_t173 : a ≠ t173 := Nat.ne_of_lt (Nat.lt_of_lt_of_le V_a.lt zt173)
  have g_t173 : n0 ≤ t173 := Nat.le_trans Z_ zt173
  have Z_ : n0 ≤ T173.heap.size := Nat.le_trans Z_ K173.1
  have E_x := E_x.keep K173
  have V_a := V_a.keep K173 (ninS ne_a_x nin0)
  have O_ := O_.keep K173 (allS g_x all0)
  refine .st (fun _ => st173.trans) ?_
  show OwnGo p e below s _ _ _ T173 (mkF m 9 _ [])
  exact OwnGo.retV X173 hx hret hlk (hb hby d2_9) (by show QiC3 Z x a ka c0 c1 c2 zc h0 n0 _ T173.heap _; exact ⟨t173, kb173, rfl, N173, K173, S173, zt173⟩) (by decide) (by decide)
def QiV4 (Z : State) (x : Addr) (a : Addr) (ka : ClassId) (c0 : Int32) (c1 : Int32) (c2 : Int32) (c3 : Int32) (zc : Int32) (h0 : Heap) (n0 : Nat) (v : Option Value) (h : Heap) (L : List Loc) : Prop := ∃ (t : Addr) (kb : ClassId), v = none ∧ Fr n0 L ∧ Keep h0 h [x] ∧ own_S4 Z h x t kb c0 c1 c2 c3 ∧ h0.size ≤ t
theorem rmiV4 (l : Launch) (Z : State) (a0 : Array Value) (hw : own_tb a0 Z) (ws : List Jvm.Cond) (x : Addr) (a : Addr) (ka : ClassId) (c0 : Int32) (c1 : Int32) (c2 : Int32) (c3 : Int32) (zc : Int32) (h0 : Heap) (n0 : Nat) (Z0 : n0 ≤ h0.size) (O_ : Old Z n0 h0) (S_CS : Sta Z Z.heap "java/lang/String" "COMPACT_STRINGS" "Z" (.int zc)) (P_CS : ¬ zc = (0 : Int32)) (S_AD : Sta Z Z.heap "java/lang/StringUTF16" "$assertionsDisabled" "Z" (.int (1 : Int32))) (S_HB : Sta Z Z.heap "java/lang/StringUTF16" "HI_BYTE_SHIFT" "I" (.int (0 : Int32))) (S_LB : Sta Z Z.heap "java/lang/StringUTF16" "LO_BYTE_SHIFT" "I" (.int (8 : Int32))) (E_x : Exa Z h0 x "java/lang/String") (Fv : Fld Z h0 x "java/lang/String" "value" "[B" .null) (Fc : Fld Z h0 x "java/lang/String" "coder" "B" (.int (0 : Int32))) (g_x : n0 ≤ x) (V_a : Arv Z h0 a ka .char (4 : Int32) [(.int c0), (.int c1), (.int c2), (.int c3)] (.int (0 : Int32))) (ne_a_x : a ≠ x) (P_c0 : own_u c0) (P_c1 : own_u c1) (P_c2 : own_u c2) (P_c3 : own_u c3) :
    OwnMet l (⟨"java/lang/String", "<init>", "([CIILjava/lang/Void;)V"⟩ : MethodName) jdk_42_method_149_code 6 none ws ({ frames := 4, cells := 2, slots := 12, locals := 57 } : Room) #[(.ref x), (.ref a), (.int (0 : Int32)), (.int (4 : Int32)), .null] Z h0 (QiV4 Z x a ka c0 c1 c2 c3 zc h0 n0) := by
  refine own_met (plainFor_of_name pn_6) ?_
  intro p e s m below meth c s₁ X0 hx hby hml hret hlk hown hnm hZ e0
  have N0 := Fr.nil n0
  have Z_ := Z0
  refine OwnGo.cast (ef_iV4 m x a (0 : Int32) (4 : Int32)) ?_
  show OwnGo p e below s _ _ _ s₁ (mkF m 0 _ [])
  have Kp : Keep h0 h0 [x] := Keep.refl h0 [x]
  refine .aloadN X0 hx (hb hby d3_0) rfl rfl ?_
  obtain ⟨T174, X174, e174, st174⟩ := initO X0 hx hZ hown (W_ hw 16 rfl) (W_ hw 17 rfl) (W_ hw 18 rfl) e0 (g := (mkF m 1 #[.val (.ref x), .val (.ref a), .val (.int (0 : Int32)), .val (.int (4 : Int32)), .val .null, .unset] [(.ref x)])) rfl (by rw [hml]; rfl) rfl (hb hby d3_1) (by decide) (W := 0) (Nat.le_of_eq rfl) (by decide)
  refine .st st174 ?_
  show OwnGo p e below s _ _ _ T174 (mkF m 4 _ [])
  refine .iloadN X174 hx (hb hby d3_4) rfl ?_
  refine .ifYes (pc := 5) X174 hx 27 (hb hby d3_5) ((if0 _ _).trans (feq ((by decide) : ¬ ((4 : Int32) = (0 : Int32)))).2) (by decide) (by decide) ?_
  obtain ⟨T175, X175, e175, st175⟩ := getS2 X174 hx hZ hown (host := "") (Or.inl (W_ hw 37 rfl)) Via.refl e174 (S_CS.ext O_.2) (g := (mkF m 27 #[.val (.ref x), .val (.ref a), .val (.int (0 : Int32)), .val (.int (4 : Int32)), .val .null, .unset] [])) rfl (hb hby d3_27)
  refine .st st175 ?_
  show OwnGo p e below s _ _ _ T175 (mkF m 30 _ [(.int zc)])
  refine .ifNo X175 hx (hb hby d3_30) ((if0 _ _).trans (feq (P_CS : ¬ (zc = (0 : Int32)))).1) ?_
  refine .aloadN X175 hx (hb hby d3_33) rfl rfl ?_
  refine .iloadN X175 hx (hb hby d3_34) rfl ?_
  refine .iloadN X175 hx (hb hby d3_35) rfl ?_
  by_cases hl : ¬ (255 : Int32) < c0 ∧ ¬ (255 : Int32) < c1 ∧ ¬ (255 : Int32) < c2 ∧ ¬ (255 : Int32) < c3
  · obtain ⟨_, _, ⟨T176, L176, k176, n176⟩, -, X176, ⟨Lc176, hQ176, l176, y176, z176⟩, st176⟩ := Jvm.LawKit.callS X175 hx (y := (⟨"java/lang/StringUTF16", "compress", "([CII)[B"⟩ : MethodName)) hown (mvT hZ (W_ hw 47 rfl)) (mvT hZ (W_ hw 48 rfl)) (mvT hZ (W_ hw 49 rfl)) (mvT hZ (W_ hw 50 rfl)) (by decide) (backOf (W := 0) (rmcpL4 l Z a0 hw [] a ka c0 c1 c2 c3 h0 n0 Z_ V_a hl) hZ (W_ hw 50 rfl) (W_ hw 49 rfl) (by decide) (by decide)) (g := (mkF m 36 #[.val (.ref x), .val (.ref a), .val (.int (0 : Int32)), .val (.int (4 : Int32)), .val .null, .unset] [(.int (4 : Int32)), (.int (0 : Int32)), (.ref a)])) rfl (by rw [hml]; rfl) (argsL := [(.ref a), (.int (0 : Int32)), (.int (4 : Int32))]) (rest := []) (lenOf pd_8 rfl) rfl (Nat.le_of_eq rfl) (hb hby d3_36) (fun _ _ => ⟨rfl, e175, (by decide : 0 + 1 ≤ _), (by decide : 0 + 4 ≤ _)⟩)
    dsimp only [Pt.U, Pt.locs, Pt.cells, Pt.slots] at X176 l176 y176 z176 st176 hQ176
    subst l176 y176 z176
    obtain ⟨t176, kb176, rfl, N176q, K176, V176, zt176⟩ := hQ176
    have N176 := Fr.app N0 N176q
    have ne_x_t176 : x ≠ t176 := Nat.ne_of_lt (Nat.lt_of_lt_of_le E_x.lt zt176)
    have ne_a_t176 : a ≠ t176 := Nat.ne_of_lt (Nat.lt_of_lt_of_le V_a.lt zt176)
    have g_t176 : n0 ≤ t176 := Nat.le_trans Z_ zt176
    have sz_t176 : h0.size ≤ t176 := Nat.le_trans Kp.1 zt176
    have Z_ : n0 ≤ T176.heap.size := Nat.le_trans Z_ K176.1
    have E_x := E_x.keep K176
    have Fv := Fv.keep K176 nin0
    have Fc := Fc.keep K176 nin0
    have V_a := V_a.keep K176 nin0
    have O_ := O_.keep K176 all0
    have Kp := Kp.trans K176 all0
    refine .st st176 ?_
    show OwnGo p e below s _ _ _ T176 (mkF m 39 _ [(.ref t176)])
    refine .astore X176 hx (hb hby d3_39) rfl (L' := #[.val (.ref x), .val (.ref a), .val (.int (0 : Int32)), .val (.int (4 : Int32)), .val .null, .val (.ref t176)]) rfl ?_
    refine .aloadN X176 hx (hb hby d3_41) rfl rfl ?_
    refine .aload X176 hx (hb hby d3_42) rfl rfl ?_
    refine .iloadN X176 hx (hb hby d3_44) rfl ?_
    obtain ⟨_, _, ⟨T177, L177, k177, n177⟩, -, X177, ⟨Lc177, hQ177, l177, y177, z177⟩, st177⟩ := Jvm.LawKit.callS X176 hx (y := (⟨"java/lang/StringUTF16", "coderFromArrayLen", "([BI)B"⟩ : MethodName)) hown (mvT hZ (W_ hw 54 rfl)) (mvT hZ (W_ hw 55 rfl)) (mvT hZ (W_ hw 49 rfl)) (mvT hZ (W_ hw 56 rfl)) (by decide) (backOf (W := 1) (rmcfl4_0 l Z a0 hw [] t176 kb176 [(.int c0.toInt8.toInt32), (.int c1.toInt8.toInt32), (.int c2.toInt8.toInt32), (.int c3.toInt8.toInt32)] T176.heap n0 Z_ V176) hZ (W_ hw 56 rfl) (W_ hw 49 rfl) (by decide) (by decide)) (g := (mkF m 45 #[.val (.ref x), .val (.ref a), .val (.int (0 : Int32)), .val (.int (4 : Int32)), .val .null, .val (.ref t176)] [(.int (4 : Int32)), (.ref t176), (.ref x)])) rfl (by rw [hml]; rfl) (argsL := [(.ref t176), (.int (4 : Int32))]) (rest := [(.ref x)]) (lenOf pd_10 rfl) rfl (Nat.le_of_eq rfl) (hb hby d3_45) (fun _ _ => ⟨rfl, rfl, (by decide : 1 + 0 ≤ _), (by decide : 4 + 0 ≤ _)⟩)
    dsimp only [Pt.U, Pt.locs, Pt.cells, Pt.slots] at X177 l177 y177 z177 st177 hQ177
    subst l177 y177 z177
    obtain ⟨rfl, N177q, e177⟩ := hQ177
    have N177 := Fr.app N176 N177q
    refine .st st177 ?_
    show OwnGo p e below s _ _ _ T177 (mkF m 48 _ [(.int (0 : Int32)), (.ref x)])
    obtain ⟨T178, h178, X178, e178, W178, st178⟩ := putFN X177 hx hZ hown (W_ hw 26 rfl) Via.refl e177 Fc E_x (Or.inr ⟨(W_ hw 22 rfl), rfl, hnm⟩) (W_ hw 6 rfl) (ty := .byte) (v' := (.int (0 : Int32))) (by decide) rfl (by decide) (g := (mkF m 48 #[.val (.ref x), .val (.ref a), .val (.int (0 : Int32)), .val (.int (4 : Int32)), .val .null, .val (.ref t176)] [(.int (0 : Int32)), (.ref x)])) rfl rfl (hb hby d3_48)
    have E_x := E_x.wr W178
    have Fv := Fv.other W178 (Or.inr (slot_ne (Or.inr (W_ hw 21 rfl)) (Or.inr (W_ hw 22 rfl)) (by decide) (t := (.array .byte)) (t' := .byte) (by decide) (by decide)))
    have Fc := Fc.same W178
    have V_a := V_a.other W178 ne_a_x
    have V176 := V176.other W178 (Ne.symm ne_x_t176)
    have O_ := O_.wr W178 g_x
    have Kp := Kp.wr W178 (Or.inl (List.mem_of_getElem? (i := 0) rfl))
    have N178 := Fr.snoc X178 N177 g_x
    have Z_ : n0 ≤ h178.size := by rw [W178.size]; exact Z_
    refine .st st178 ?_
    show OwnGo p e below s _ _ _ T178 (mkF m 51 _ [])
    refine .aloadN X178 hx (hb hby d3_51) rfl rfl ?_
    refine .aload X178 hx (hb hby d3_52) rfl rfl ?_
    obtain ⟨T179, h179, X179, e179, W179, st179⟩ := putF X178 hx hZ hown (host := "") (Or.inl (W_ hw 25 rfl)) Via.refl e178 Fv E_x (Or.inr ⟨(W_ hw 21 rfl), rfl, hnm⟩) (W_ hw 6 rfl) (ty := (.array .byte)) (by decide) rfl rfl (g := (mkF m 54 #[.val (.ref x), .val (.ref a), .val (.int (0 : Int32)), .val (.int (4 : Int32)), .val .null, .val (.ref t176)] [(.ref t176), (.ref x)])) rfl rfl (hb hby d3_54)
    have E_x := E_x.wr W179
    have Fv := Fv.same W179
    have Fc := Fc.other W179 (Or.inr (slot_ne (Or.inr (W_ hw 22 rfl)) (Or.inr (W_ hw 21 rfl)) (by decide) (t := .byte) (t' := (.array .byte)) (by decide) (by decide)))
    have V_a := V_a.other W179 ne_a_x
    have V176 := V176.other W179 (Ne.symm ne_x_t176)
    have O_ := O_.wr W179 g_x
    have Kp := Kp.wr W179 (Or.inl (List.mem_of_getElem? (i := 0) rfl))
    have N179 := Fr.snoc X179 N178 g_x
    have Z_ : n0 ≤ h179.size := by rw [W179.size]; exact Z_
    refine .st st179 ?_
    show OwnGo p e below s _ _ _ T179 (mkF m 57 _ [])
    exact OwnGo.retV X179 hx hret hlk (hb hby d3_57) (by show QiV4 Z x a ka c0 c1 c2 c3 zc h0 n0 _ T179.heap _; rw [e179]; exact ⟨t176, kb176, rfl, N179, Kp, ⟨E_x, Fv, Or.inl ⟨Fc, V176, hl⟩⟩, sz_t176⟩) (by decide) (by decide)
  · have hb_ : (255 : Int32) < c0 ∨ (255 : Int32) < c1 ∨ (255 : Int32) < c2 ∨ (255 : Int32) < c3 := (own_nand hl).imp_right (fun hl => (own_nand hl).imp_right (fun hl => (own_nand hl).imp_right (fun hl => Classical.not_not.mp hl)))
    obtain ⟨_, _, ⟨T180, L180, k180, n180⟩, -, X180, ⟨Lc180, hQ180, l180, y180, z180⟩, st180⟩ := Jvm.LawKit.callS X175 hx (y := (⟨"java/lang/StringUTF16", "compress", "([CII)[B"⟩ : MethodName)) hown (mvT hZ (W_ hw 47 rfl)) (mvT hZ (W_ hw 48 rfl)) (mvT hZ (W_ hw 49 rfl)) (mvT hZ (W_ hw 50 rfl)) (by decide) (backOf (W := 0) (rmcpU4 l Z a0 hw [] a ka c0 c1 c2 c3 h0 n0 Z_ O_ S_AD S_HB S_LB V_a hb_ P_c0 P_c1 P_c2 P_c3) hZ (W_ hw 50 rfl) (W_ hw 49 rfl) (by decide) (by decide)) (g := (mkF m 36 #[.val (.ref x), .val (.ref a), .val (.int (0 : Int32)), .val (.int (4 : Int32)), .val .null, .unset] [(.int (4 : Int32)), (.int (0 : Int32)), (.ref a)])) rfl (by rw [hml]; rfl) (argsL := [(.ref a), (.int (0 : Int32)), (.int (4 : Int32))]) (rest := []) (lenOf pd_8 rfl) rfl (Nat.le_of_eq rfl) (hb hby d3_36) (fun _ _ => ⟨rfl, e175, (by decide : 0 + 2 ≤ _), (by decide : 0 + 12 ≤ _)⟩)
    dsimp only [Pt.U, Pt.locs, Pt.cells, Pt.slots] at X180 l180 y180 z180 st180 hQ180
    subst l180 y180 z180
    obtain ⟨t180, kb180, rfl, N180q, K180, V180, zt180⟩ := hQ180
    have N180 := Fr.app N0 N180q
    have ne_x_t180 : x ≠ t180 := Nat.ne_of_lt (Nat.lt_of_lt_of_le E_x.lt zt180)
    have ne_a_t180 : a ≠ t180 := Nat.ne_of_lt (Nat.lt_of_lt_of_le V_a.lt zt180)
    have g_t180 : n0 ≤ t180 := Nat.le_trans Z_ zt180
    have sz_t180 : h0.size ≤ t180 := Nat.le_trans Kp.1 zt180
    have Z_ : n0 ≤ T180.heap.size := Nat.le_trans Z_ K180.1
    have E_x := E_x.keep K180
    have Fv := Fv.keep K180 nin0
    have Fc := Fc.keep K180 nin0
    have V_a := V_a.keep K180 nin0
    have O_ := O_.keep K180 all0
    have Kp := Kp.trans K180 all0
    refine .st st180 ?_
    show OwnGo p e below s _ _ _ T180 (mkF m 39 _ [(.ref t180)])
    refine .astore X180 hx (hb hby d3_39) rfl (L' := #[.val (.ref x), .val (.ref a), .val (.int (0 : Int32)), .val (.int (4 : Int32)), .val .null, .val (.ref t180)]) rfl ?_
    refine .aloadN X180 hx (hb hby d3_41) rfl rfl ?_
    refine .aload X180 hx (hb hby d3_42) rfl rfl ?_
    refine .iloadN X180 hx (hb hby d3_44) rfl ?_
    obtain ⟨_, _, ⟨T181, L181, k181, n181⟩, -, X181, ⟨Lc181, hQ181, l181, y181, z181⟩, st181⟩ := Jvm.LawKit.callS X180 hx (y := (⟨"java/lang/StringUTF16", "coderFromArrayLen", "([BI)B"⟩ : MethodName)) hown (mvT hZ (W_ hw 54 rfl)) (mvT hZ (W_ hw 55 rfl)) (mvT hZ (W_ hw 49 rfl)) (mvT hZ (W_ hw 56 rfl)) (by decide) (backOf (W := 1) (rmcfl4_1 l Z a0 hw [] t180 kb180 [(.int (own_lo c0)), (.int (own_hi c0)), (.int (own_lo c1)), (.int (own_hi c1)), (.int (own_lo c2)), (.int (own_hi c2)), (.int (own_lo c3)), (.int (own_hi c3))] T180.heap n0 Z_ V180) hZ (W_ hw 56 rfl) (W_ hw 49 rfl) (by decide) (by decide)) (g := (mkF m 45 #[.val (.ref x), .val (.ref a), .val (.int (0 : Int32)), .val (.int (4 : Int32)), .val .null, .val (.ref t180)] [(.int (4 : Int32)), (.ref t180), (.ref x)])) rfl (by rw [hml]; rfl) (argsL := [(.ref t180), (.int (4 : Int32))]) (rest := [(.ref x)]) (lenOf pd_10 rfl) rfl (Nat.le_of_eq rfl) (hb hby d3_45) (fun _ _ => ⟨rfl, rfl, (by decide : 2 + 0 ≤ _), (by decide : 12 + 0 ≤ _)⟩)
    dsimp only [Pt.U, Pt.locs, Pt.cells, Pt.slots] at X181 l181 y181 z181 st181 hQ181
    subst l181 y181 z181
    obtain ⟨rfl, N181q, e181⟩ := hQ181
    have N181 := Fr.app N180 N181q
    refine .st st181 ?_
    show OwnGo p e below s _ _ _ T181 (mkF m 48 _ [(.int (1 : Int32)), (.ref x)])
    obtain ⟨T182, h182, X182, e182, W182, st182⟩ := putFN X181 hx hZ hown (W_ hw 26 rfl) Via.refl e181 Fc E_x (Or.inr ⟨(W_ hw 22 rfl), rfl, hnm⟩) (W_ hw 6 rfl) (ty := .byte) (v' := (.int (1 : Int32))) (by decide) rfl (by decide) (g := (mkF m 48 #[.val (.ref x), .val (.ref a), .val (.int (0 : Int32)), .val (.int (4 : Int32)), .val .null, .val (.ref t180)] [(.int (1 : Int32)), (.ref x)])) rfl rfl (hb hby d3_48)
    have E_x := E_x.wr W182
    have Fv := Fv.other W182 (Or.inr (slot_ne (Or.inr (W_ hw 21 rfl)) (Or.inr (W_ hw 22 rfl)) (by decide) (t := (.array .byte)) (t' := .byte) (by decide) (by decide)))
    have Fc := Fc.same W182
    have V_a := V_a.other W182 ne_a_x
    have V180 := V180.other W182 (Ne.symm ne_x_t180)
    have O_ := O_.wr W182 g_x
    have Kp := Kp.wr W182 (Or.inl (List.mem_of_getElem? (i := 0) rfl))
    have N182 := Fr.snoc X182 N181 g_x
    have Z_ : n0 ≤ h182.size := by rw [W182.size]; exact Z_
    refine .st st182 ?_
    show OwnGo p e below s _ _ _ T182 (mkF m 51 _ [])
    refine .aloadN X182 hx (hb hby d3_51) rfl rfl ?_
    refine .aload X182 hx (hb hby d3_52) rfl rfl ?_
    obtain ⟨T183, h183, X183, e183, W183, st183⟩ := putF X182 hx hZ hown (host := "") (Or.inl (W_ hw 25 rfl)) Via.refl e182 Fv E_x (Or.inr ⟨(W_ hw 21 rfl), rfl, hnm⟩) (W_ hw 6 rfl) (ty := (.array .byte)) (by decide) rfl rfl (g := (mkF m 54 #[.val (.ref x), .val (.ref a), .val (.int (0 : Int32)), .val (.int (4 : Int32)), .val .null, .val (.ref t180)] [(.ref t180), (.ref x)])) rfl rfl (hb hby d3_54)
    have E_x := E_x.wr W183
    have Fv := Fv.same W183
    have Fc := Fc.other W183 (Or.inr (slot_ne (Or.inr (W_ hw 22 rfl)) (Or.inr (W_ hw 21 rfl)) (by decide) (t := .byte) (t' := (.array .byte)) (by decide) (by decide)))
    have V_a := V_a.other W183 ne_a_x
    have V180 := V180.other W183 (Ne.symm ne_x_t180)
    have O_ := O_.wr W183 g_x
    have Kp := Kp.wr W183 (Or.inl (List.mem_of_getElem? (i := 0) rfl))
    have N183 := Fr.snoc X183 N182 g_x
    have Z_ : n0 ≤ h183.size := by rw [W183.size]; exact Z_
    refine .st st183 ?_
    show OwnGo p e below s _ _ _ T183 (mkF m 57 _ [])
    exact OwnGo.retV X183 hx hret hlk (hb hby d3_57) (by show QiV4 Z x a ka c0 c1 c2 c3 zc h0 n0 _ T183.heap _; rw [e183]; exact ⟨t180, kb180, rfl, N183, Kp, ⟨E_x, Fv, Or.inr ⟨Fc, V180⟩⟩, sz_t180⟩) (by decide) (by decide)
def QiC4 (Z : State) (x : Addr) (a : Addr) (ka : ClassId) (c0 : Int32) (c1 : Int32) (c2 : Int32) (c3 : Int32) (zc : Int32) (h0 : Heap) (n0 : Nat) (v : Option Value) (h : Heap) (L : List Loc) : Prop := ∃ (t : Addr) (kb : ClassId), v = none ∧ Fr n0 L ∧ Keep h0 h [x] ∧ own_S4 Z h x t kb c0 c1 c2 c3 ∧ h0.size ≤ t
theorem rmiC4 (l : Launch) (Z : State) (a0 : Array Value) (hw : own_tb a0 Z) (ws : List Jvm.Cond) (x : Addr) (a : Addr) (ka : ClassId) (c0 : Int32) (c1 : Int32) (c2 : Int32) (c3 : Int32) (zc : Int32) (h0 : Heap) (n0 : Nat) (Z0 : n0 ≤ h0.size) (O_ : Old Z n0 h0) (S_CS : Sta Z Z.heap "java/lang/String" "COMPACT_STRINGS" "Z" (.int zc)) (P_CS : ¬ zc = (0 : Int32)) (S_AD : Sta Z Z.heap "java/lang/StringUTF16" "$assertionsDisabled" "Z" (.int (1 : Int32))) (S_HB : Sta Z Z.heap "java/lang/StringUTF16" "HI_BYTE_SHIFT" "I" (.int (0 : Int32))) (S_LB : Sta Z Z.heap "java/lang/StringUTF16" "LO_BYTE_SHIFT" "I" (.int (8 : Int32))) (E_x : Exa Z h0 x "java/lang/String") (Fv : Fld Z h0 x "java/lang/String" "value" "[B" .null) (Fc : Fld Z h0 x "java/lang/String" "coder" "B" (.int (0 : Int32))) (g_x : n0 ≤ x) (V_a : Arv Z h0 a ka .char (4 : Int32) [(.int c0), (.int c1), (.int c2), (.int c3)] (.int (0 : Int32))) (ne_a_x : a ≠ x) (P_c0 : own_u c0) (P_c1 : own_u c1) (P_c2 : own_u c2) (P_c3 : own_u c3) :
    OwnMet l (⟨"java/lang/String", "<init>", "([C)V"⟩ : MethodName) jdk_42_method_3_code 2 none ws ({ frames := 5, cells := 2, slots := 12, locals := 74 } : Room) #[(.ref x), (.ref a)] Z h0 (QiC4 Z x a ka c0 c1 c2 c3 zc h0 n0) := by
  refine own_met (plainFor_of_name pn_6) ?_
  intro p e s m below meth c s₁ X0 hx hby hml hret hlk hown hnm hZ e0
  have N0 := Fr.nil n0
  have Z_ := Z0
  refine OwnGo.cast (ef_iC4 m x a) ?_
  show OwnGo p e below s _ _ _ s₁ (mkF m 0 _ [])
  refine .aloadN X0 hx (hb hby d2_0) rfl rfl ?_
  refine .aloadN X0 hx (hb hby d2_1) rfl rfl ?_
  refine .iconst X0 hx (hb hby d2_2) own_ki0 ?_
  refine .aloadN X0 hx (hb hby d2_3) rfl rfl ?_
  obtain ⟨cl184, Ar184, -, S184, N184, -, -⟩ := id V_a
  refine .st (fun _ => own_len hZ (len_of S184 N184) Ar184 X0 e0 hx (g := (mkF m 4 #[.val (.ref x), .val (.ref a)] [(.ref a), (.int (0 : Int32)), (.ref a), (.ref x)])) rfl rfl (hb hby d2_4) _) ?_
  show OwnGo p e below s _ _ _ s₁ (mkF m 5 _ [(.int (4 : Int32)), (.int (0 : Int32)), (.ref a), (.ref x)])
  refine .aconstNull X0 hx (hb hby d2_5)  ?_
  obtain ⟨_, _, ⟨T185, L185, k185, n185⟩, -, X185, ⟨Lc185, hQ185, l185, y185, z185⟩, st185⟩ := X0.specialBack hx (y := (⟨"java/lang/String", "<init>", "([CIILjava/lang/Void;)V"⟩ : MethodName)) rfl hown (mvT hZ (W_ hw 12 rfl)) (mvT hZ (W_ hw 13 rfl)) (mvT hZ (W_ hw 15 rfl)) (by decide) (backOf (W := 0) (rmiV4 l Z a0 hw [] x a ka c0 c1 c2 c3 zc h0 n0 Z_ O_ S_CS P_CS S_AD S_HB S_LB E_x Fv Fc g_x V_a ne_a_x P_c0 P_c1 P_c2 P_c3) hZ (W_ hw 15 rfl) (W_ hw 7 rfl) (by decide) (by decide)) (g := (mkF m 6 #[.val (.ref x), .val (.ref a)] [.null, (.int (4 : Int32)), (.int (0 : Int32)), (.ref a), (.ref x)])) rfl (by rw [hml]; rfl) (Steps.refl _) (a := x) (argsL := [(.ref a), (.int (0 : Int32)), (.int (4 : Int32)), .null]) (rest := []) (lenOf pd_11 rfl) rfl (Nat.le_of_eq rfl) (hb hby d2_6) (fun _ _ => ⟨rfl, e0, (by decide : 0 + 2 ≤ _), (by decide : 0 + 12 ≤ _)⟩)
  dsimp only [Pt.U, Pt.locs, Pt.cells, Pt.slots] at X185 l185 y185 z185 st185 hQ185
  subst l185 y185 z185
  obtain ⟨t185, kb185, rfl, N185q, K185, S185, zt185⟩ := hQ185
  have N185 := Fr.app N0 N185q
  have ne_x_t185 : x ≠ t185 := Nat.ne_of_lt (Nat.lt_of_lt_of_le E_x.lt zt185)
  have ne_a_t185 : a ≠ t185 := Nat.ne_of_lt (Nat.lt_of_lt_of_le V_a.lt zt185)
  have g_t185 : n0 ≤ t185 := Nat.le_trans Z_ zt185
  have Z_ : n0 ≤ T185.heap.size := Nat.le_trans Z_ K185.1
  have E_x := E_x.keep K185
  have V_a := V_a.keep K185 (ninS ne_a_x nin0)
  have O_ := O_.keep K185 (allS g_x all0)
  refine .st (fun _ => st185.trans) ?_
  show OwnGo p e below s _ _ _ T185 (mkF m 9 _ [])
  exact OwnGo.retV X185 hx hret hlk (hb hby d2_9) (by show QiC4 Z x a ka c0 c1 c2 c3 zc h0 n0 _ T185.heap _; exact ⟨t185, kb185, rfl, N185, K185, S185, zt185⟩) (by decide) (by decide)
def QcanE0 (Z : State) (cc : Int32) (h0 : Heap) (n0 : Nat) (v : Option Value) (h : Heap) (L : List Loc) : Prop := v = some (.int (0 : Int32)) ∧ Fr n0 L ∧ h = h0
theorem rmcanE0 (l : Launch) (Z : State) (a0 : Array Value) (hw : own_tb a0 Z) (ws : List Jvm.Cond) (cc : Int32) (h0 : Heap) (n0 : Nat) (Z0 : n0 ≤ h0.size) (hc : (255 : Int32) < cc) :
    OwnMet l (⟨"java/lang/StringLatin1", "canEncode", "(C)Z"⟩ : MethodName) jdk_43_method_3_code 1 (some .boolean) ws ({ frames := 0, cells := 0, slots := 0, locals := 0 } : Room) #[(.int cc)] Z h0 (QcanE0 Z cc h0 n0) := by
  refine own_met (plainFor_of_name pn_33) ?_
  intro p e s m below meth c s₁ X0 hx hby hml hret hlk hown hnm hZ e0
  have N0 := Fr.nil n0
  have Z_ := Z0
  refine OwnGo.cast (ef_canE0 m cc) ?_
  show OwnGo p e below s _ _ _ s₁ (mkF m 0 _ [])
  refine .iloadN X0 hx (hb hby d33_0) rfl ?_
  refine .sipush X0 hx (hb hby d33_1) own_ks255 ?_
  refine .icmpYes (pc := 4) X0 hx 11 (hb hby d33_4) (tlt (hc : (255 : Int32) < cc)).2.2.1 (by decide) (by decide) ?_
  refine .iconst X0 hx (hb hby d33_11) own_ki0 ?_
  exact OwnGo.retN X0 hx (t := .boolean) hret hlk (by simp) (hb hby d33_12) (by show QcanE0 Z cc h0 n0 _ s₁.heap _; rw [e0]; exact ⟨rfl, N0, rfl⟩) (by decide) (by decide)
def QiniB1 (Z : State) (x : Addr) (t : Addr) (h0 : Heap) (n0 : Nat) (v : Option Value) (h : Heap) (L : List Loc) : Prop := v = none ∧ Fr n0 L ∧ Keep h0 h [x] ∧ Exa Z h x "java/lang/String" ∧ Fld Z h x "java/lang/String" "coder" "B" (.int (1 : Int32)) ∧ Fld Z h x "java/lang/String" "value" "[B" (.ref t)
theorem rminiB1 (l : Launch) (Z : State) (a0 : Array Value) (hw : own_tb a0 Z) (ws : List Jvm.Cond) (x : Addr) (t : Addr) (h0 : Heap) (n0 : Nat) (Z0 : n0 ≤ h0.size) (E_x : Exa Z h0 x "java/lang/String") (Fv : Fld Z h0 x "java/lang/String" "value" "[B" .null) (Fc : Fld Z h0 x "java/lang/String" "coder" "B" (.int (0 : Int32))) (g_x : n0 ≤ x) :
    OwnMet l (⟨"java/lang/String", "<init>", "([BB)V"⟩ : MethodName) jdk_42_method_151_code 3 none ws ({ frames := 1, cells := 0, slots := 0, locals := 12 } : Room) #[(.ref x), (.ref t), (.int (1 : Int32))] Z h0 (QiniB1 Z x t h0 n0) := by
  refine own_met (plainFor_of_name pn_6) ?_
  intro p e s m below meth c s₁ X0 hx hby hml hret hlk hown hnm hZ e0
  have N0 := Fr.nil n0
  have Z_ := Z0
  refine OwnGo.cast (ef_iniB1 m x t (1 : Int32)) ?_
  show OwnGo p e below s _ _ _ s₁ (mkF m 0 _ [])
  have Kp : Keep h0 h0 [x] := Keep.refl h0 [x]
  refine .aloadN X0 hx (hb hby d35_0) rfl rfl ?_
  obtain ⟨T186, X186, e186, st186⟩ := initO X0 hx hZ hown (W_ hw 16 rfl) (W_ hw 17 rfl) (W_ hw 18 rfl) e0 (g := (mkF m 1 #[.val (.ref x), .val (.ref t), .val (.int (1 : Int32))] [(.ref x)])) rfl (by rw [hml]; rfl) rfl (hb hby d35_1) (by decide) (W := 0) (Nat.le_of_eq rfl) (by decide)
  refine .st st186 ?_
  show OwnGo p e below s _ _ _ T186 (mkF m 4 _ [])
  refine .aloadN X186 hx (hb hby d35_4) rfl rfl ?_
  refine .aloadN X186 hx (hb hby d35_5) rfl rfl ?_
  obtain ⟨T187, h187, X187, e187, W187, st187⟩ := putF X186 hx hZ hown (host := "") (Or.inl (W_ hw 25 rfl)) Via.refl e186 Fv E_x (Or.inr ⟨(W_ hw 21 rfl), rfl, hnm⟩) (W_ hw 6 rfl) (ty := (.array .byte)) (by decide) rfl rfl (g := (mkF m 6 #[.val (.ref x), .val (.ref t), .val (.int (1 : Int32))] [(.ref t), (.ref x)])) rfl rfl (hb hby d35_6)
  have E_x := E_x.wr W187
  have Fv := Fv.same W187
  have Fc := Fc.other W187 (Or.inr (slot_ne (Or.inr (W_ hw 22 rfl)) (Or.inr (W_ hw 21 rfl)) (by decide) (t := .byte) (t' := (.array .byte)) (by decide) (by decide)))
  have Kp := Kp.wr W187 (Or.inl (List.mem_of_getElem? (i := 0) rfl))
  have N187 := Fr.snoc X187 N0 g_x
  have Z_ : n0 ≤ h187.size := by rw [W187.size]; exact Z_
  refine .st st187 ?_
  show OwnGo p e below s _ _ _ T187 (mkF m 9 _ [])
  refine .aloadN X187 hx (hb hby d35_9) rfl rfl ?_
  refine .iloadN X187 hx (hb hby d35_10) rfl ?_
  obtain ⟨T188, h188, X188, e188, W188, st188⟩ := putFN X187 hx hZ hown (W_ hw 26 rfl) Via.refl e187 Fc E_x (Or.inr ⟨(W_ hw 22 rfl), rfl, hnm⟩) (W_ hw 6 rfl) (ty := .byte) (v' := (.int (1 : Int32))) (by decide) rfl (by decide) (g := (mkF m 11 #[.val (.ref x), .val (.ref t), .val (.int (1 : Int32))] [(.int (1 : Int32)), (.ref x)])) rfl rfl (hb hby d35_11)
  have E_x := E_x.wr W188
  have Fv := Fv.other W188 (Or.inr (slot_ne (Or.inr (W_ hw 21 rfl)) (Or.inr (W_ hw 22 rfl)) (by decide) (t := (.array .byte)) (t' := .byte) (by decide) (by decide)))
  have Fc := Fc.same W188
  have Kp := Kp.wr W188 (Or.inl (List.mem_of_getElem? (i := 0) rfl))
  have N188 := Fr.snoc X188 N187 g_x
  have Z_ : n0 ≤ h188.size := by rw [W188.size]; exact Z_
  refine .st st188 ?_
  show OwnGo p e below s _ _ _ T188 (mkF m 14 _ [])
  exact OwnGo.retV X188 hx hret hlk (hb hby d35_14) (by show QiniB1 Z x t h0 n0 _ T188.heap _; rw [e188]; exact ⟨rfl, N188, Kp, E_x, Fc, Fv⟩) (by decide) (by decide)
def QvalU (Z : State) (c0 : Int32) (zc : Int32) (h0 : Heap) (n0 : Nat) (v : Option Value) (h : Heap) (L : List Loc) : Prop := ∃ (x t : Addr) (kb : ClassId), v = some (.ref x) ∧ Fr n0 L ∧ Keep h0 h [] ∧ own_S1 Z h x t kb c0 ∧ h0.size ≤ x ∧ h0.size ≤ t
theorem rmvalU (l : Launch) (Z : State) (a0 : Array Value) (hw : own_tb a0 Z) (ws : List Jvm.Cond) (c0 : Int32) (zc : Int32) (h0 : Heap) (n0 : Nat) (Z0 : n0 ≤ h0.size) (O_ : Old Z n0 h0) (S_CS : Sta Z Z.heap "java/lang/String" "COMPACT_STRINGS" "Z" (.int zc)) (P_CS : ¬ zc = (0 : Int32)) (S_AD : Sta Z Z.heap "java/lang/StringUTF16" "$assertionsDisabled" "Z" (.int (1 : Int32))) (S_HB : Sta Z Z.heap "java/lang/StringUTF16" "HI_BYTE_SHIFT" "I" (.int (0 : Int32))) (S_LB : Sta Z Z.heap "java/lang/StringUTF16" "LO_BYTE_SHIFT" "I" (.int (8 : Int32))) (hc : (255 : Int32) < c0) :
    OwnMet l (⟨"java/lang/String", "valueOf", "(C)Ljava/lang/String;"⟩ : MethodName) jdk_42_method_139_code 1 (some (.object "java/lang/String")) ws ({ frames := 2, cells := 2, slots := 6, locals := 29 } : Room) #[(.int c0)] Z h0 (QvalU Z c0 zc h0 n0) := by
  refine own_met (plainFor_of_name pn_6) ?_
  intro p e s m below meth c s₁ X0 hx hby hml hret hlk hown hnm hZ e0
  have N0 := Fr.nil n0
  have Z_ := Z0
  refine OwnGo.cast (ef_valU m c0) ?_
  show OwnGo p e below s _ _ _ s₁ (mkF m 0 _ [])
  have Kp : Keep h0 h0 [] := Keep.refl h0 []
  obtain ⟨T189, X189, e189, st189⟩ := getS2 X0 hx hZ hown (host := "") (Or.inl (W_ hw 37 rfl)) Via.refl e0 (S_CS.ext O_.2) (g := (mkF m 0 #[.val (.int c0)] [])) rfl (hb hby d32_0)
  refine .st st189 ?_
  show OwnGo p e below s _ _ _ T189 (mkF m 3 _ [(.int zc)])
  refine .ifNo X189 hx (hb hby d32_3) ((if0 _ _).trans (feq (P_CS : ¬ (zc = (0 : Int32)))).1) ?_
  refine .iloadN X189 hx (hb hby d32_6) rfl ?_
  obtain ⟨_, _, ⟨T190, L190, k190, n190⟩, -, X190, ⟨Lc190, hQ190, l190, y190, z190⟩, st190⟩ := Jvm.LawKit.callS X189 hx (y := (⟨"java/lang/StringLatin1", "canEncode", "(C)Z"⟩ : MethodName)) hown (mvT hZ (W_ hw 138 rfl)) (mvT hZ (W_ hw 139 rfl)) (mvT hZ (W_ hw 75 rfl)) (mvT hZ (W_ hw 140 rfl)) (by decide) (backOf (W := 0) (rmcanE0 l Z a0 hw [] c0 h0 n0 Z_ hc) hZ (W_ hw 140 rfl) (W_ hw 75 rfl) (by decide) (by decide)) (g := (mkF m 7 #[.val (.int c0)] [(.int c0)])) rfl (by rw [hml]; rfl) (argsL := [(.int c0)]) (rest := []) (lenOf pd_1 rfl) rfl (Nat.le_of_eq rfl) (hb hby d32_7) (fun _ _ => ⟨rfl, e189, (by decide : 0 + 0 ≤ _), (by decide : 0 + 0 ≤ _)⟩)
  dsimp only [Pt.U, Pt.locs, Pt.cells, Pt.slots] at X190 l190 y190 z190 st190 hQ190
  subst l190 y190 z190
  obtain ⟨rfl, N190q, e190⟩ := hQ190
  have N190 := Fr.app N0 N190q
  refine .st st190 ?_
  show OwnGo p e below s _ _ _ T190 (mkF m 10 _ [(.int (0 : Int32))])
  refine .ifYes (pc := 10) X190 hx 26 (hb hby d32_10) ((if0 _ _).trans (teq ((by decide) : (0 : Int32) = (0 : Int32))).1) (by decide) (by decide) ?_
  obtain ⟨T191, h191, X191, e191, E191, A191, D191, -, st191⟩ := newO X190 hx hZ hown (W_ hw 141 rfl) (W_ hw 6 rfl) (W_ hw 7 rfl) e190 (g := (mkF m 26 #[.val (.int c0)] [])) rfl (hb hby d32_26) (by decide) (by decide)
  obtain ⟨b191, g191⟩ : ∃ z, z = h0.size := ⟨_, rfl⟩
  rw [← g191] at A191 D191 st191
  have g_b191 : n0 ≤ b191 := Nat.le_trans Z_ (Nat.le_of_eq g191.symm)
  have sz_b191 : h0.size ≤ b191 := Nat.le_trans Kp.1 (Nat.le_of_eq g191.symm)
  have O_ := O_.ext E191
  have Kp := Kp.ext E191
  have Z_ : n0 ≤ h191.size := Nat.le_trans Z_ E191.1
  have E_b191 := A191
  have F_value_b191 : Fld Z h191 b191 "java/lang/String" "value" "[B" .null := D191 (Or.inr (W_ hw 21 rfl)) (ty := (.array .byte)) (by decide)
  have F_coder_b191 : Fld Z h191 b191 "java/lang/String" "coder" "B" (.int (0 : Int32)) := D191 (Or.inr (W_ hw 22 rfl)) (ty := .byte) (by decide)
  refine .st st191 ?_
  show OwnGo p e below s _ _ _ T191 (mkF m 29 _ [(.ref b191)])
  refine .dup X191 hx (hb hby d32_29) rfl ?_
  refine .iloadN X191 hx (hb hby d32_30) rfl ?_
  obtain ⟨_, _, ⟨T192, L192, k192, n192⟩, -, X192, ⟨Lc192, hQ192, l192, y192, z192⟩, st192⟩ := Jvm.LawKit.callS X191 hx (y := (⟨"java/lang/StringUTF16", "toBytes", "(C)[B"⟩ : MethodName)) hown (mvT hZ (W_ hw 148 rfl)) (mvT hZ (W_ hw 149 rfl)) (mvT hZ (W_ hw 49 rfl)) (mvT hZ (W_ hw 150 rfl)) (by decide) (backOf (W := 2) (rmtoBu1 l Z a0 hw [] c0 h191 n0 Z_ O_ S_AD S_HB S_LB) hZ (W_ hw 150 rfl) (W_ hw 49 rfl) (by decide) (by decide)) (g := (mkF m 31 #[.val (.int c0)] [(.int c0), (.ref b191), (.ref b191)])) rfl (by rw [hml]; rfl) (argsL := [(.int c0)]) (rest := [(.ref b191), (.ref b191)]) (lenOf pd_2 rfl) rfl (Nat.le_of_eq rfl) (hb hby d32_31) (fun _ _ => ⟨rfl, e191, (by decide : 1 + 1 ≤ _), (by decide : 4 + 2 ≤ _)⟩)
  dsimp only [Pt.U, Pt.locs, Pt.cells, Pt.slots] at X192 l192 y192 z192 st192 hQ192
  subst l192 y192 z192
  obtain ⟨t192, kb192, rfl, N192q, K192, V192, zt192⟩ := hQ192
  have N192 := Fr.app N190 N192q
  have ne_b191_t192 : b191 ≠ t192 := Nat.ne_of_lt (Nat.lt_of_lt_of_le E_b191.lt zt192)
  have g_t192 : n0 ≤ t192 := Nat.le_trans Z_ zt192
  have sz_t192 : h0.size ≤ t192 := Nat.le_trans Kp.1 zt192
  have Z_ : n0 ≤ T192.heap.size := Nat.le_trans Z_ K192.1
  have E_b191 := E_b191.keep K192
  have F_value_b191 := F_value_b191.keep K192 nin0
  have F_coder_b191 := F_coder_b191.keep K192 nin0
  have O_ := O_.keep K192 all0
  have Kp := Kp.trans K192 all0
  refine .st st192 ?_
  show OwnGo p e below s _ _ _ T192 (mkF m 34 _ [(.ref t192), (.ref b191), (.ref b191)])
  refine .iconst X192 hx (hb hby d32_34) own_ki1 ?_
  obtain ⟨_, _, ⟨T193, L193, k193, n193⟩, -, X193, ⟨Lc193, hQ193, l193, y193, z193⟩, st193⟩ := X192.specialBack hx (y := (⟨"java/lang/String", "<init>", "([BB)V"⟩ : MethodName)) rfl hown (mvT hZ (W_ hw 145 rfl)) (mvT hZ (W_ hw 146 rfl)) (mvT hZ (W_ hw 147 rfl)) (by decide) (backOf (W := 1) (rminiB1 l Z a0 hw [] b191 t192 T192.heap n0 Z_ E_b191 F_value_b191 F_coder_b191 g_b191) hZ (W_ hw 147 rfl) (W_ hw 7 rfl) (by decide) (by decide)) (g := (mkF m 35 #[.val (.int c0)] [(.int (1 : Int32)), (.ref t192), (.ref b191), (.ref b191)])) rfl (by rw [hml]; rfl) (Steps.refl _) (a := b191) (argsL := [(.ref t192), (.int (1 : Int32))]) (rest := [(.ref b191)]) (lenOf pd_3 rfl) rfl (Nat.le_of_eq rfl) (hb hby d32_35) (fun _ _ => ⟨rfl, rfl, (by decide : 2 + 0 ≤ _), (by decide : 6 + 0 ≤ _)⟩)
  dsimp only [Pt.U, Pt.locs, Pt.cells, Pt.slots] at X193 l193 y193 z193 st193 hQ193
  subst l193 y193 z193
  obtain ⟨rfl, N193q, K193, Ex193, Fc193, Fv193⟩ := hQ193
  have N193 := Fr.app N192 N193q
  have Z_ : n0 ≤ T193.heap.size := Nat.le_trans Z_ K193.1
  have E_b191 := E_b191.keep K193
  have V192 := V192.keep K193 (ninS (Ne.symm ne_b191_t192) nin0)
  have O_ := O_.keep K193 (allS g_b191 all0)
  have Kp := Kp.trans K193 (allS (Or.inr sz_b191) all0)
  refine .st (fun _ => st193.trans) ?_
  show OwnGo p e below s _ _ _ T193 (mkF m 38 _ [(.ref b191)])
  exact OwnGo.ret X193 hx hret hlk rfl (Or.inr (Or.inr (Or.inr (Or.inr ⟨rfl, rfl, rfl⟩)))) (hb hby d32_38) (by show QvalU Z c0 zc h0 n0 _ T193.heap _; exact ⟨b191, t192, kb192, rfl, N193, Kp, ⟨Ex193, Fv193, Or.inr ⟨Fc193, V192⟩⟩, sz_b191, sz_t192⟩) (by decide) (by decide)
def Qmk1 (Z : State) (c0 : Int32) (c1 : Int32) (c2 : Int32) (c3 : Int32) (zc : Int32) (h0 : Heap) (n0 : Nat) (v : Option Value) (h : Heap) (L : List Loc) : Prop := ∃ (x t : Addr) (kb : ClassId), v = some (.ref x) ∧ Fr n0 L ∧ Keep h0 h [] ∧ own_S1 Z h x t kb c0 ∧ h0.size ≤ x ∧ h0.size ≤ t
theorem rmmk1 (l : Launch) (Z : State) (a0 : Array Value) (hw : own_tb a0 Z) (ws : List Jvm.Cond) (c0 : Int32) (c1 : Int32) (c2 : Int32) (c3 : Int32) (zc : Int32) (h0 : Heap) (n0 : Nat) (Z0 : n0 ≤ h0.size) (O_ : Old Z n0 h0) (S_CS : Sta Z Z.heap "java/lang/String" "COMPACT_STRINGS" "Z" (.int zc)) (P_CS : ¬ zc = (0 : Int32)) (S_AD : Sta Z Z.heap "java/lang/StringUTF16" "$assertionsDisabled" "Z" (.int (1 : Int32))) (S_HB : Sta Z Z.heap "java/lang/StringUTF16" "HI_BYTE_SHIFT" "I" (.int (0 : Int32))) (S_LB : Sta Z Z.heap "java/lang/StringUTF16" "LO_BYTE_SHIFT" "I" (.int (8 : Int32))) (P_c0 : own_u c0) :
    OwnMet l (⟨"com/example/tightrope/tightrope/format/TextFormatIsWordPinLaw", "make", "(ICCCC)Ljava/lang/String;"⟩ : MethodName) method_3_code 5 (some (.object "java/lang/String")) ws ({ frames := 3, cells := 4, slots := 8, locals := 41 } : Room) #[(.int (1 : Int32)), (.int c0), (.int c1), (.int c2), (.int c3)] Z h0 (Qmk1 Z c0 c1 c2 c3 zc h0 n0) := by
  refine own_met (plainFor_of_name pn_1) ?_
  intro p e s m below meth c s₁ X0 hx hby hml hret hlk hown hnm hZ e0
  have N0 := Fr.nil n0
  have Z_ := Z0
  refine OwnGo.cast (ef_mk1 m (1 : Int32) c0 c1 c2 c3) ?_
  show OwnGo p e below s _ _ _ s₁ (mkF m 0 _ [])
  have Kp : Keep h0 h0 [] := Keep.refl h0 []
  refine .iloadN X0 hx (hb hby d1_0) rfl ?_
  refine .ifYes (pc := 1) X0 hx 15 (hb hby d1_1) ((if0 _ _).trans (feq ((by decide) : ¬ ((1 : Int32) = (0 : Int32)))).2) (by decide) (by decide) ?_
  refine .iloadN X0 hx (hb hby d1_15) rfl ?_
  refine .iconst X0 hx (hb hby d1_16) own_ki1 ?_
  refine .icmpNo X0 hx (hb hby d1_17) (teq ((by decide) : (1 : Int32) = (1 : Int32))).2 ?_
  refine .iloadN X0 hx (hb hby d1_20) rfl ?_
  by_cases hl : (255 : Int32) < c0
  · obtain ⟨_, _, ⟨T194, L194, k194, n194⟩, -, X194, ⟨Lc194, hQ194, l194, y194, z194⟩, st194⟩ := Jvm.LawKit.callS X0 hx (y := (⟨"java/lang/String", "valueOf", "(C)Ljava/lang/String;"⟩ : MethodName)) hown (mvT hZ (W_ hw 135 rfl)) (mvT hZ (W_ hw 136 rfl)) (mvT hZ (W_ hw 7 rfl)) (mvT hZ (W_ hw 137 rfl)) (by decide) (backOf (W := 0) (rmvalU l Z a0 hw [] c0 zc h0 n0 Z_ O_ S_CS P_CS S_AD S_HB S_LB hl) hZ (W_ hw 137 rfl) (W_ hw 7 rfl) (by decide) (by decide)) (g := (mkF m 21 #[.val (.int (1 : Int32)), .val (.int c0), .val (.int c1), .val (.int c2), .val (.int c3)] [(.int c0)])) rfl (by rw [hml]; rfl) (argsL := [(.int c0)]) (rest := []) (lenOf pd_12 rfl) rfl (Nat.le_of_eq rfl) (hb hby d1_21) (fun _ _ => ⟨rfl, e0, (by decide : 0 + 2 ≤ _), (by decide : 0 + 6 ≤ _)⟩)
    dsimp only [Pt.U, Pt.locs, Pt.cells, Pt.slots] at X194 l194 y194 z194 st194 hQ194
    subst l194 y194 z194
    obtain ⟨x194, t194, kb194, rfl, N194q, K194, S194, zx194, zt194⟩ := hQ194
    have N194 := Fr.app N0 N194q
    have Z_ : n0 ≤ T194.heap.size := Nat.le_trans Z_ K194.1
    have O_ := O_.keep K194 all0
    have Kp := Kp.trans K194 all0
    refine .st st194 ?_
    show OwnGo p e below s _ _ _ T194 (mkF m 24 _ [(.ref x194)])
    exact OwnGo.ret X194 hx hret hlk rfl (Or.inr (Or.inr (Or.inr (Or.inr ⟨rfl, rfl, rfl⟩)))) (hb hby d1_24) (by show Qmk1 Z c0 c1 c2 c3 zc h0 n0 _ T194.heap _; exact ⟨x194, t194, kb194, rfl, N194, Kp, S194, zx194, zt194⟩) (by decide) (by decide)
  · obtain ⟨_, _, ⟨T195, L195, k195, n195⟩, -, X195, ⟨Lc195, hQ195, l195, y195, z195⟩, st195⟩ := Jvm.LawKit.callS X0 hx (y := (⟨"java/lang/String", "valueOf", "(C)Ljava/lang/String;"⟩ : MethodName)) hown (mvT hZ (W_ hw 135 rfl)) (mvT hZ (W_ hw 136 rfl)) (mvT hZ (W_ hw 7 rfl)) (mvT hZ (W_ hw 137 rfl)) (by decide) (backOf (W := 0) (rmvalueOfC l Z a0 hw [] c0 zc h0 n0 Z_ O_ S_CS P_CS hl) hZ (W_ hw 137 rfl) (W_ hw 7 rfl) (by decide) (by decide)) (g := (mkF m 21 #[.val (.int (1 : Int32)), .val (.int c0), .val (.int c1), .val (.int c2), .val (.int c3)] [(.int c0)])) rfl (by rw [hml]; rfl) (argsL := [(.int c0)]) (rest := []) (lenOf pd_12 rfl) rfl (Nat.le_of_eq rfl) (hb hby d1_21) (fun _ _ => ⟨rfl, e0, (by decide : 0 + 2 ≤ _), (by decide : 0 + 5 ≤ _)⟩)
    dsimp only [Pt.U, Pt.locs, Pt.cells, Pt.slots] at X195 l195 y195 z195 st195 hQ195
    subst l195 y195 z195
    obtain ⟨x195, t195, kb195, rfl, N195q, K195, E195, Fc195, Fv195, V195, zx195, zt195⟩ := hQ195
    have N195 := Fr.app N0 N195q
    have Z_ : n0 ≤ T195.heap.size := Nat.le_trans Z_ K195.1
    have O_ := O_.keep K195 all0
    have Kp := Kp.trans K195 all0
    refine .st st195 ?_
    show OwnGo p e below s _ _ _ T195 (mkF m 24 _ [(.ref x195)])
    exact OwnGo.ret X195 hx hret hlk rfl (Or.inr (Or.inr (Or.inr (Or.inr ⟨rfl, rfl, rfl⟩)))) (hb hby d1_24) (by show Qmk1 Z c0 c1 c2 c3 zc h0 n0 _ T195.heap _; exact ⟨x195, t195, kb195, rfl, N195, Kp, ⟨E195, Fv195, Or.inl ⟨Fc195, V195, hl⟩⟩, zx195, zt195⟩) (by decide) (by decide)
def Qmk2 (Z : State) (c0 : Int32) (c1 : Int32) (c2 : Int32) (c3 : Int32) (zc : Int32) (h0 : Heap) (n0 : Nat) (v : Option Value) (h : Heap) (L : List Loc) : Prop := ∃ (x t : Addr) (kb : ClassId), v = some (.ref x) ∧ Fr n0 L ∧ Keep h0 h [] ∧ own_S2 Z h x t kb c0 c1 ∧ h0.size ≤ x ∧ h0.size ≤ t
theorem rmmk2 (l : Launch) (Z : State) (a0 : Array Value) (hw : own_tb a0 Z) (ws : List Jvm.Cond) (c0 : Int32) (c1 : Int32) (c2 : Int32) (c3 : Int32) (zc : Int32) (h0 : Heap) (n0 : Nat) (Z0 : n0 ≤ h0.size) (O_ : Old Z n0 h0) (S_CS : Sta Z Z.heap "java/lang/String" "COMPACT_STRINGS" "Z" (.int zc)) (P_CS : ¬ zc = (0 : Int32)) (S_AD : Sta Z Z.heap "java/lang/StringUTF16" "$assertionsDisabled" "Z" (.int (1 : Int32))) (S_HB : Sta Z Z.heap "java/lang/StringUTF16" "HI_BYTE_SHIFT" "I" (.int (0 : Int32))) (S_LB : Sta Z Z.heap "java/lang/StringUTF16" "LO_BYTE_SHIFT" "I" (.int (8 : Int32))) (P_c0 : own_u c0) (P_c1 : own_u c1) :
    OwnMet l (⟨"com/example/tightrope/tightrope/format/TextFormatIsWordPinLaw", "make", "(ICCCC)Ljava/lang/String;"⟩ : MethodName) method_3_code 5 (some (.object "java/lang/String")) ws ({ frames := 6, cells := 4, slots := 12, locals := 88 } : Room) #[(.int (2 : Int32)), (.int c0), (.int c1), (.int c2), (.int c3)] Z h0 (Qmk2 Z c0 c1 c2 c3 zc h0 n0) := by
  refine own_met (plainFor_of_name pn_1) ?_
  intro p e s m below meth c s₁ X0 hx hby hml hret hlk hown hnm hZ e0
  have N0 := Fr.nil n0
  have Z_ := Z0
  refine OwnGo.cast (ef_mk2 m (2 : Int32) c0 c1 c2 c3) ?_
  show OwnGo p e below s _ _ _ s₁ (mkF m 0 _ [])
  have Kp : Keep h0 h0 [] := Keep.refl h0 []
  refine .iloadN X0 hx (hb hby d1_0) rfl ?_
  refine .ifYes (pc := 1) X0 hx 15 (hb hby d1_1) ((if0 _ _).trans (feq ((by decide) : ¬ ((2 : Int32) = (0 : Int32)))).2) (by decide) (by decide) ?_
  refine .iloadN X0 hx (hb hby d1_15) rfl ?_
  refine .iconst X0 hx (hb hby d1_16) own_ki1 ?_
  refine .icmpYes (pc := 17) X0 hx 25 (hb hby d1_17) (feq ((by decide) : ¬ ((2 : Int32) = (1 : Int32)))).2 (by decide) (by decide) ?_
  refine .iloadN X0 hx (hb hby d1_25) rfl ?_
  refine .iconst X0 hx (hb hby d1_26) own_ki2 ?_
  refine .icmpNo X0 hx (hb hby d1_27) (teq ((by decide) : (2 : Int32) = (2 : Int32))).2 ?_
  obtain ⟨T196, h196, X196, e196, E196, A196, D196, -, st196⟩ := newO X0 hx hZ hown (W_ hw 5 rfl) (W_ hw 6 rfl) (W_ hw 7 rfl) e0 (g := (mkF m 30 #[.val (.int (2 : Int32)), .val (.int c0), .val (.int c1), .val (.int c2), .val (.int c3)] [])) rfl (hb hby d1_30) (by decide) (by decide)
  obtain ⟨b196, g196⟩ : ∃ z, z = h0.size := ⟨_, rfl⟩
  rw [← g196] at A196 D196 st196
  have g_b196 : n0 ≤ b196 := Nat.le_trans Z_ (Nat.le_of_eq g196.symm)
  have sz_b196 : h0.size ≤ b196 := Nat.le_trans Kp.1 (Nat.le_of_eq g196.symm)
  have O_ := O_.ext E196
  have Kp := Kp.ext E196
  have Z_ : n0 ≤ h196.size := Nat.le_trans Z_ E196.1
  have E_b196 := A196
  have F_value_b196 : Fld Z h196 b196 "java/lang/String" "value" "[B" .null := D196 (Or.inr (W_ hw 21 rfl)) (ty := (.array .byte)) (by decide)
  have F_coder_b196 : Fld Z h196 b196 "java/lang/String" "coder" "B" (.int (0 : Int32)) := D196 (Or.inr (W_ hw 22 rfl)) (ty := .byte) (by decide)
  refine .st st196 ?_
  show OwnGo p e below s _ _ _ T196 (mkF m 33 _ [(.ref b196)])
  refine .dup X196 hx (hb hby d1_33) rfl ?_
  refine .iconst X196 hx (hb hby d1_34) own_ki2 ?_
  obtain ⟨T197, h197, k197, X197, e197, E197, A197, Ex197, st197⟩ := newPE X196 hx hZ (W_ hw 8 rfl) e196 (g := (mkF m 35 #[.val (.int (2 : Int32)), .val (.int c0), .val (.int c1), .val (.int c2), .val (.int c3)] [(.int (2 : Int32)), (.ref b196), (.ref b196)])) rfl (hb hby d1_35) rfl (by decide) (cap := 2) (by decide) (by decide) (by decide) (by decide) (ad := "[C") (by decide)
  obtain ⟨b197, g197⟩ : ∃ z, z = h196.size := ⟨_, rfl⟩
  rw [← g197] at A197 Ex197 st197
  have ne_b196_b197 : b196 ≠ b197 := Nat.ne_of_lt (Nat.lt_of_lt_of_le E_b196.lt (Nat.le_of_eq g197.symm))
  have g_b197 : n0 ≤ b197 := Nat.le_trans Z_ (Nat.le_of_eq g197.symm)
  have sz_b197 : h0.size ≤ b197 := Nat.le_trans Kp.1 (Nat.le_of_eq g197.symm)
  have E_b196 := E_b196.ext E197
  have F_value_b196 := F_value_b196.ext E197
  have F_coder_b196 := F_coder_b196.ext E197
  have O_ := O_.ext E197
  have Kp := Kp.ext E197
  have Z_ : n0 ≤ h197.size := Nat.le_trans Z_ E197.1
  have V_b197 : Arv Z h197 b197 k197 .char (2 : Int32) [(.int (0 : Int32)), (.int (0 : Int32))] (.int (0 : Int32)) := (Arv.new A197 (by decide)).pad (pad_rep [] (.int (0 : Int32)) 2)
  have E_b197 := Ex197
  refine .st st197 ?_
  show OwnGo p e below s _ _ _ T197 (mkF m 37 _ [(.ref b197), (.ref b196), (.ref b196)])
  refine .dup X197 hx (hb hby d1_37) rfl ?_
  refine .iconst X197 hx (hb hby d1_38) own_ki0 ?_
  refine .iloadN X197 hx (hb hby d1_39) rfl ?_
  obtain ⟨cl198, Ar198, q198, S198, N198, H198, G198⟩ := id V_b197
  have hin198 : ¬ ((0 : Int32) < 0 ∨ cl198.slots.size ≤ ((0 : Int32)).toNatClampNeg) := inb_of S198 ⟨by decide, by decide⟩
  obtain ⟨T198, h198, X198, e198, W198, st198⟩ := stC X197 hx hZ e197 Ar198 (j := (0 : Int32)) hin198 (g := (mkF m 40 #[.val (.int (2 : Int32)), .val (.int c0), .val (.int c1), .val (.int c2), .val (.int c3)] [(.int c0), (.int (0 : Int32)), (.ref b197), (.ref b197), (.ref b196), (.ref b196)])) rfl rfl (hb hby d1_40)
  have V_b197 : Arv Z h198 b197 k197 .char (2 : Int32) [(.int (nar .char c0)), (.int (0 : Int32))] (.int (0 : Int32)) := Arv.set Ar198 q198 S198 N198 H198 G198 (fits_nar_char _) W198 0 rfl (Nat.le_of_ble_eq_true rfl)
  rw [show nar .char c0 = c0 from (own_unc P_c0)] at V_b197
  have E_b196 := E_b196.wr W198
  have F_value_b196 := F_value_b196.other W198 (Or.inl ne_b196_b197)
  have F_coder_b196 := F_coder_b196.other W198 (Or.inl ne_b196_b197)
  have E_b197 := E_b197.wr W198
  have O_ := O_.wr W198 g_b197
  have Kp := Kp.wr W198 (Or.inr sz_b197)
  have N198 := Fr.snoc X198 N0 g_b197
  have Z_ : n0 ≤ h198.size := by rw [W198.size]; exact Z_
  refine .st st198 ?_
  show OwnGo p e below s _ _ _ T198 (mkF m 41 _ [(.ref b197), (.ref b196), (.ref b196)])
  refine .dup X198 hx (hb hby d1_41) rfl ?_
  refine .iconst X198 hx (hb hby d1_42) own_ki1 ?_
  refine .iloadN X198 hx (hb hby d1_43) rfl ?_
  obtain ⟨cl199, Ar199, q199, S199, N199, H199, G199⟩ := id V_b197
  have hin199 : ¬ ((1 : Int32) < 0 ∨ cl199.slots.size ≤ ((1 : Int32)).toNatClampNeg) := inb_of S199 ⟨by decide, by decide⟩
  obtain ⟨T199, h199, X199, e199, W199, st199⟩ := stC X198 hx hZ e198 Ar199 (j := (1 : Int32)) hin199 (g := (mkF m 44 #[.val (.int (2 : Int32)), .val (.int c0), .val (.int c1), .val (.int c2), .val (.int c3)] [(.int c1), (.int (1 : Int32)), (.ref b197), (.ref b197), (.ref b196), (.ref b196)])) rfl rfl (hb hby d1_44)
  have V_b197 : Arv Z h199 b197 k197 .char (2 : Int32) [(.int c0), (.int (nar .char c1))] (.int (0 : Int32)) := Arv.set Ar199 q199 S199 N199 H199 G199 (fits_nar_char _) W199 1 rfl (Nat.le_of_ble_eq_true rfl)
  rw [show nar .char c1 = c1 from (own_unc P_c1)] at V_b197
  have E_b196 := E_b196.wr W199
  have F_value_b196 := F_value_b196.other W199 (Or.inl ne_b196_b197)
  have F_coder_b196 := F_coder_b196.other W199 (Or.inl ne_b196_b197)
  have E_b197 := E_b197.wr W199
  have O_ := O_.wr W199 g_b197
  have Kp := Kp.wr W199 (Or.inr sz_b197)
  have N199 := Fr.snoc X199 N198 g_b197
  have Z_ : n0 ≤ h199.size := by rw [W199.size]; exact Z_
  refine .st st199 ?_
  show OwnGo p e below s _ _ _ T199 (mkF m 45 _ [(.ref b197), (.ref b196), (.ref b196)])
  obtain ⟨_, _, ⟨T200, L200, k200, n200⟩, -, X200, ⟨Lc200, hQ200, l200, y200, z200⟩, st200⟩ := X199.specialBack hx (y := (⟨"java/lang/String", "<init>", "([C)V"⟩ : MethodName)) rfl hown (mvT hZ (W_ hw 9 rfl)) (mvT hZ (W_ hw 10 rfl)) (mvT hZ (W_ hw 11 rfl)) (by decide) (backOf (W := 1) (rmiC2 l Z a0 hw [] b196 b197 k197 c0 c1 zc h199 n0 Z_ O_ S_CS P_CS S_AD S_HB S_LB E_b196 F_value_b196 F_coder_b196 g_b196 V_b197 (Ne.symm ne_b196_b197) P_c0 P_c1) hZ (W_ hw 11 rfl) (W_ hw 7 rfl) (by decide) (by decide)) (g := (mkF m 45 #[.val (.int (2 : Int32)), .val (.int c0), .val (.int c1), .val (.int c2), .val (.int c3)] [(.ref b197), (.ref b196), (.ref b196)])) rfl (by rw [hml]; rfl) (Steps.refl _) (a := b196) (argsL := [(.ref b197)]) (rest := [(.ref b196)]) (lenOf pd_13 rfl) rfl (Nat.le_of_eq rfl) (hb hby d1_45) (fun _ _ => ⟨rfl, e199, (by decide : 2 + 2 ≤ _), (by decide : 6 + 6 ≤ _)⟩)
  dsimp only [Pt.U, Pt.locs, Pt.cells, Pt.slots] at X200 l200 y200 z200 st200 hQ200
  subst l200 y200 z200
  obtain ⟨t200, kb200, rfl, N200q, K200, S200, zt200⟩ := hQ200
  have N200 := Fr.app N199 N200q
  have ne_b196_t200 : b196 ≠ t200 := Nat.ne_of_lt (Nat.lt_of_lt_of_le E_b196.lt zt200)
  have ne_b197_t200 : b197 ≠ t200 := Nat.ne_of_lt (Nat.lt_of_lt_of_le V_b197.lt zt200)
  have g_t200 : n0 ≤ t200 := Nat.le_trans Z_ zt200
  have sz_t200 : h0.size ≤ t200 := Nat.le_trans Kp.1 zt200
  have Z_ : n0 ≤ T200.heap.size := Nat.le_trans Z_ K200.1
  have E_b196 := E_b196.keep K200
  have V_b197 := V_b197.keep K200 (ninS (Ne.symm ne_b196_b197) nin0)
  have E_b197 := E_b197.keep K200
  have O_ := O_.keep K200 (allS g_b196 all0)
  have Kp := Kp.trans K200 (allS (Or.inr sz_b196) all0)
  refine .st (fun _ => st200.trans) ?_
  show OwnGo p e below s _ _ _ T200 (mkF m 48 _ [(.ref b196)])
  exact OwnGo.ret X200 hx hret hlk rfl (Or.inr (Or.inr (Or.inr (Or.inr ⟨rfl, rfl, rfl⟩)))) (hb hby d1_48) (by show Qmk2 Z c0 c1 c2 c3 zc h0 n0 _ T200.heap _; exact ⟨b196, t200, kb200, rfl, N200, Kp, S200, sz_b196, sz_t200⟩) (by decide) (by decide)
def Qmk3 (Z : State) (c0 : Int32) (c1 : Int32) (c2 : Int32) (c3 : Int32) (zc : Int32) (h0 : Heap) (n0 : Nat) (v : Option Value) (h : Heap) (L : List Loc) : Prop := ∃ (x t : Addr) (kb : ClassId), v = some (.ref x) ∧ Fr n0 L ∧ Keep h0 h [] ∧ own_S3 Z h x t kb c0 c1 c2 ∧ h0.size ≤ x ∧ h0.size ≤ t
theorem rmmk3 (l : Launch) (Z : State) (a0 : Array Value) (hw : own_tb a0 Z) (ws : List Jvm.Cond) (c0 : Int32) (c1 : Int32) (c2 : Int32) (c3 : Int32) (zc : Int32) (h0 : Heap) (n0 : Nat) (Z0 : n0 ≤ h0.size) (O_ : Old Z n0 h0) (S_CS : Sta Z Z.heap "java/lang/String" "COMPACT_STRINGS" "Z" (.int zc)) (P_CS : ¬ zc = (0 : Int32)) (S_AD : Sta Z Z.heap "java/lang/StringUTF16" "$assertionsDisabled" "Z" (.int (1 : Int32))) (S_HB : Sta Z Z.heap "java/lang/StringUTF16" "HI_BYTE_SHIFT" "I" (.int (0 : Int32))) (S_LB : Sta Z Z.heap "java/lang/StringUTF16" "LO_BYTE_SHIFT" "I" (.int (8 : Int32))) (P_c0 : own_u c0) (P_c1 : own_u c1) (P_c2 : own_u c2) :
    OwnMet l (⟨"com/example/tightrope/tightrope/format/TextFormatIsWordPinLaw", "make", "(ICCCC)Ljava/lang/String;"⟩ : MethodName) method_3_code 5 (some (.object "java/lang/String")) ws ({ frames := 6, cells := 4, slots := 16, locals := 88 } : Room) #[(.int (3 : Int32)), (.int c0), (.int c1), (.int c2), (.int c3)] Z h0 (Qmk3 Z c0 c1 c2 c3 zc h0 n0) := by
  refine own_met (plainFor_of_name pn_1) ?_
  intro p e s m below meth c s₁ X0 hx hby hml hret hlk hown hnm hZ e0
  have N0 := Fr.nil n0
  have Z_ := Z0
  refine OwnGo.cast (ef_mk3 m (3 : Int32) c0 c1 c2 c3) ?_
  show OwnGo p e below s _ _ _ s₁ (mkF m 0 _ [])
  have Kp : Keep h0 h0 [] := Keep.refl h0 []
  refine .iloadN X0 hx (hb hby d1_0) rfl ?_
  refine .ifYes (pc := 1) X0 hx 15 (hb hby d1_1) ((if0 _ _).trans (feq ((by decide) : ¬ ((3 : Int32) = (0 : Int32)))).2) (by decide) (by decide) ?_
  refine .iloadN X0 hx (hb hby d1_15) rfl ?_
  refine .iconst X0 hx (hb hby d1_16) own_ki1 ?_
  refine .icmpYes (pc := 17) X0 hx 25 (hb hby d1_17) (feq ((by decide) : ¬ ((3 : Int32) = (1 : Int32)))).2 (by decide) (by decide) ?_
  refine .iloadN X0 hx (hb hby d1_25) rfl ?_
  refine .iconst X0 hx (hb hby d1_26) own_ki2 ?_
  refine .icmpYes (pc := 27) X0 hx 49 (hb hby d1_27) (feq ((by decide) : ¬ ((3 : Int32) = (2 : Int32)))).2 (by decide) (by decide) ?_
  refine .iloadN X0 hx (hb hby d1_49) rfl ?_
  refine .iconst X0 hx (hb hby d1_50) own_ki3 ?_
  refine .icmpNo X0 hx (hb hby d1_51) (teq ((by decide) : (3 : Int32) = (3 : Int32))).2 ?_
  obtain ⟨T201, h201, X201, e201, E201, A201, D201, -, st201⟩ := newO X0 hx hZ hown (W_ hw 5 rfl) (W_ hw 6 rfl) (W_ hw 7 rfl) e0 (g := (mkF m 54 #[.val (.int (3 : Int32)), .val (.int c0), .val (.int c1), .val (.int c2), .val (.int c3)] [])) rfl (hb hby d1_54) (by decide) (by decide)
  obtain ⟨b201, g201⟩ : ∃ z, z = h0.size := ⟨_, rfl⟩
  rw [← g201] at A201 D201 st201
  have g_b201 : n0 ≤ b201 := Nat.le_trans Z_ (Nat.le_of_eq g201.symm)
  have sz_b201 : h0.size ≤ b201 := Nat.le_trans Kp.1 (Nat.le_of_eq g201.symm)
  have O_ := O_.ext E201
  have Kp := Kp.ext E201
  have Z_ : n0 ≤ h201.size := Nat.le_trans Z_ E201.1
  have E_b201 := A201
  have F_value_b201 : Fld Z h201 b201 "java/lang/String" "value" "[B" .null := D201 (Or.inr (W_ hw 21 rfl)) (ty := (.array .byte)) (by decide)
  have F_coder_b201 : Fld Z h201 b201 "java/lang/String" "coder" "B" (.int (0 : Int32)) := D201 (Or.inr (W_ hw 22 rfl)) (ty := .byte) (by decide)
  refine .st st201 ?_
  show OwnGo p e below s _ _ _ T201 (mkF m 57 _ [(.ref b201)])
  refine .dup X201 hx (hb hby d1_57) rfl ?_
  refine .iconst X201 hx (hb hby d1_58) own_ki3 ?_
  obtain ⟨T202, h202, k202, X202, e202, E202, A202, Ex202, st202⟩ := newPE X201 hx hZ (W_ hw 8 rfl) e201 (g := (mkF m 59 #[.val (.int (3 : Int32)), .val (.int c0), .val (.int c1), .val (.int c2), .val (.int c3)] [(.int (3 : Int32)), (.ref b201), (.ref b201)])) rfl (hb hby d1_59) rfl (by decide) (cap := 3) (by decide) (by decide) (by decide) (by decide) (ad := "[C") (by decide)
  obtain ⟨b202, g202⟩ : ∃ z, z = h201.size := ⟨_, rfl⟩
  rw [← g202] at A202 Ex202 st202
  have ne_b201_b202 : b201 ≠ b202 := Nat.ne_of_lt (Nat.lt_of_lt_of_le E_b201.lt (Nat.le_of_eq g202.symm))
  have g_b202 : n0 ≤ b202 := Nat.le_trans Z_ (Nat.le_of_eq g202.symm)
  have sz_b202 : h0.size ≤ b202 := Nat.le_trans Kp.1 (Nat.le_of_eq g202.symm)
  have E_b201 := E_b201.ext E202
  have F_value_b201 := F_value_b201.ext E202
  have F_coder_b201 := F_coder_b201.ext E202
  have O_ := O_.ext E202
  have Kp := Kp.ext E202
  have Z_ : n0 ≤ h202.size := Nat.le_trans Z_ E202.1
  have V_b202 : Arv Z h202 b202 k202 .char (3 : Int32) [(.int (0 : Int32)), (.int (0 : Int32)), (.int (0 : Int32))] (.int (0 : Int32)) := (Arv.new A202 (by decide)).pad (pad_rep [] (.int (0 : Int32)) 3)
  have E_b202 := Ex202
  refine .st st202 ?_
  show OwnGo p e below s _ _ _ T202 (mkF m 61 _ [(.ref b202), (.ref b201), (.ref b201)])
  refine .dup X202 hx (hb hby d1_61) rfl ?_
  refine .iconst X202 hx (hb hby d1_62) own_ki0 ?_
  refine .iloadN X202 hx (hb hby d1_63) rfl ?_
  obtain ⟨cl203, Ar203, q203, S203, N203, H203, G203⟩ := id V_b202
  have hin203 : ¬ ((0 : Int32) < 0 ∨ cl203.slots.size ≤ ((0 : Int32)).toNatClampNeg) := inb_of S203 ⟨by decide, by decide⟩
  obtain ⟨T203, h203, X203, e203, W203, st203⟩ := stC X202 hx hZ e202 Ar203 (j := (0 : Int32)) hin203 (g := (mkF m 64 #[.val (.int (3 : Int32)), .val (.int c0), .val (.int c1), .val (.int c2), .val (.int c3)] [(.int c0), (.int (0 : Int32)), (.ref b202), (.ref b202), (.ref b201), (.ref b201)])) rfl rfl (hb hby d1_64)
  have V_b202 : Arv Z h203 b202 k202 .char (3 : Int32) [(.int (nar .char c0)), (.int (0 : Int32)), (.int (0 : Int32))] (.int (0 : Int32)) := Arv.set Ar203 q203 S203 N203 H203 G203 (fits_nar_char _) W203 0 rfl (Nat.le_of_ble_eq_true rfl)
  rw [show nar .char c0 = c0 from (own_unc P_c0)] at V_b202
  have E_b201 := E_b201.wr W203
  have F_value_b201 := F_value_b201.other W203 (Or.inl ne_b201_b202)
  have F_coder_b201 := F_coder_b201.other W203 (Or.inl ne_b201_b202)
  have E_b202 := E_b202.wr W203
  have O_ := O_.wr W203 g_b202
  have Kp := Kp.wr W203 (Or.inr sz_b202)
  have N203 := Fr.snoc X203 N0 g_b202
  have Z_ : n0 ≤ h203.size := by rw [W203.size]; exact Z_
  refine .st st203 ?_
  show OwnGo p e below s _ _ _ T203 (mkF m 65 _ [(.ref b202), (.ref b201), (.ref b201)])
  refine .dup X203 hx (hb hby d1_65) rfl ?_
  refine .iconst X203 hx (hb hby d1_66) own_ki1 ?_
  refine .iloadN X203 hx (hb hby d1_67) rfl ?_
  obtain ⟨cl204, Ar204, q204, S204, N204, H204, G204⟩ := id V_b202
  have hin204 : ¬ ((1 : Int32) < 0 ∨ cl204.slots.size ≤ ((1 : Int32)).toNatClampNeg) := inb_of S204 ⟨by decide, by decide⟩
  obtain ⟨T204, h204, X204, e204, W204, st204⟩ := stC X203 hx hZ e203 Ar204 (j := (1 : Int32)) hin204 (g := (mkF m 68 #[.val (.int (3 : Int32)), .val (.int c0), .val (.int c1), .val (.int c2), .val (.int c3)] [(.int c1), (.int (1 : Int32)), (.ref b202), (.ref b202), (.ref b201), (.ref b201)])) rfl rfl (hb hby d1_68)
  have V_b202 : Arv Z h204 b202 k202 .char (3 : Int32) [(.int c0), (.int (nar .char c1)), (.int (0 : Int32))] (.int (0 : Int32)) := Arv.set Ar204 q204 S204 N204 H204 G204 (fits_nar_char _) W204 1 rfl (Nat.le_of_ble_eq_true rfl)
  rw [show nar .char c1 = c1 from (own_unc P_c1)] at V_b202
  have E_b201 := E_b201.wr W204
  have F_value_b201 := F_value_b201.other W204 (Or.inl ne_b201_b202)
  have F_coder_b201 := F_coder_b201.other W204 (Or.inl ne_b201_b202)
  have E_b202 := E_b202.wr W204
  have O_ := O_.wr W204 g_b202
  have Kp := Kp.wr W204 (Or.inr sz_b202)
  have N204 := Fr.snoc X204 N203 g_b202
  have Z_ : n0 ≤ h204.size := by rw [W204.size]; exact Z_
  refine .st st204 ?_
  show OwnGo p e below s _ _ _ T204 (mkF m 69 _ [(.ref b202), (.ref b201), (.ref b201)])
  refine .dup X204 hx (hb hby d1_69) rfl ?_
  refine .iconst X204 hx (hb hby d1_70) own_ki2 ?_
  refine .iloadN X204 hx (hb hby d1_71) rfl ?_
  obtain ⟨cl205, Ar205, q205, S205, N205, H205, G205⟩ := id V_b202
  have hin205 : ¬ ((2 : Int32) < 0 ∨ cl205.slots.size ≤ ((2 : Int32)).toNatClampNeg) := inb_of S205 ⟨by decide, by decide⟩
  obtain ⟨T205, h205, X205, e205, W205, st205⟩ := stC X204 hx hZ e204 Ar205 (j := (2 : Int32)) hin205 (g := (mkF m 72 #[.val (.int (3 : Int32)), .val (.int c0), .val (.int c1), .val (.int c2), .val (.int c3)] [(.int c2), (.int (2 : Int32)), (.ref b202), (.ref b202), (.ref b201), (.ref b201)])) rfl rfl (hb hby d1_72)
  have V_b202 : Arv Z h205 b202 k202 .char (3 : Int32) [(.int c0), (.int c1), (.int (nar .char c2))] (.int (0 : Int32)) := Arv.set Ar205 q205 S205 N205 H205 G205 (fits_nar_char _) W205 2 rfl (Nat.le_of_ble_eq_true rfl)
  rw [show nar .char c2 = c2 from (own_unc P_c2)] at V_b202
  have E_b201 := E_b201.wr W205
  have F_value_b201 := F_value_b201.other W205 (Or.inl ne_b201_b202)
  have F_coder_b201 := F_coder_b201.other W205 (Or.inl ne_b201_b202)
  have E_b202 := E_b202.wr W205
  have O_ := O_.wr W205 g_b202
  have Kp := Kp.wr W205 (Or.inr sz_b202)
  have N205 := Fr.snoc X205 N204 g_b202
  have Z_ : n0 ≤ h205.size := by rw [W205.size]; exact Z_
  refine .st st205 ?_
  show OwnGo p e below s _ _ _ T205 (mkF m 73 _ [(.ref b202), (.ref b201), (.ref b201)])
  obtain ⟨_, _, ⟨T206, L206, k206, n206⟩, -, X206, ⟨Lc206, hQ206, l206, y206, z206⟩, st206⟩ := X205.specialBack hx (y := (⟨"java/lang/String", "<init>", "([C)V"⟩ : MethodName)) rfl hown (mvT hZ (W_ hw 9 rfl)) (mvT hZ (W_ hw 10 rfl)) (mvT hZ (W_ hw 11 rfl)) (by decide) (backOf (W := 1) (rmiC3 l Z a0 hw [] b201 b202 k202 c0 c1 c2 zc h205 n0 Z_ O_ S_CS P_CS S_AD S_HB S_LB E_b201 F_value_b201 F_coder_b201 g_b201 V_b202 (Ne.symm ne_b201_b202) P_c0 P_c1 P_c2) hZ (W_ hw 11 rfl) (W_ hw 7 rfl) (by decide) (by decide)) (g := (mkF m 73 #[.val (.int (3 : Int32)), .val (.int c0), .val (.int c1), .val (.int c2), .val (.int c3)] [(.ref b202), (.ref b201), (.ref b201)])) rfl (by rw [hml]; rfl) (Steps.refl _) (a := b201) (argsL := [(.ref b202)]) (rest := [(.ref b201)]) (lenOf pd_13 rfl) rfl (Nat.le_of_eq rfl) (hb hby d1_73) (fun _ _ => ⟨rfl, e205, (by decide : 2 + 2 ≤ _), (by decide : 7 + 9 ≤ _)⟩)
  dsimp only [Pt.U, Pt.locs, Pt.cells, Pt.slots] at X206 l206 y206 z206 st206 hQ206
  subst l206 y206 z206
  obtain ⟨t206, kb206, rfl, N206q, K206, S206, zt206⟩ := hQ206
  have N206 := Fr.app N205 N206q
  have ne_b201_t206 : b201 ≠ t206 := Nat.ne_of_lt (Nat.lt_of_lt_of_le E_b201.lt zt206)
  have ne_b202_t206 : b202 ≠ t206 := Nat.ne_of_lt (Nat.lt_of_lt_of_le V_b202.lt zt206)
  have g_t206 : n0 ≤ t206 := Nat.le_trans Z_ zt206
  have sz_t206 : h0.size ≤ t206 := Nat.le_trans Kp.1 zt206
  have Z_ : n0 ≤ T206.heap.size := Nat.le_trans Z_ K206.1
  have E_b201 := E_b201.keep K206
  have V_b202 := V_b202.keep K206 (ninS (Ne.symm ne_b201_b202) nin0)
  have E_b202 := E_b202.keep K206
  have O_ := O_.keep K206 (allS g_b201 all0)
  have Kp := Kp.trans K206 (allS (Or.inr sz_b201) all0)
  refine .st (fun _ => st206.trans) ?_
  show OwnGo p e below s _ _ _ T206 (mkF m 76 _ [(.ref b201)])
  exact OwnGo.ret X206 hx hret hlk rfl (Or.inr (Or.inr (Or.inr (Or.inr ⟨rfl, rfl, rfl⟩)))) (hb hby d1_76) (by show Qmk3 Z c0 c1 c2 c3 zc h0 n0 _ T206.heap _; exact ⟨b201, t206, kb206, rfl, N206, Kp, S206, sz_b201, sz_t206⟩) (by decide) (by decide)
def Qmk4 (Z : State) (c0 : Int32) (c1 : Int32) (c2 : Int32) (c3 : Int32) (zc : Int32) (h0 : Heap) (n0 : Nat) (v : Option Value) (h : Heap) (L : List Loc) : Prop := ∃ (x t : Addr) (kb : ClassId), v = some (.ref x) ∧ Fr n0 L ∧ Keep h0 h [] ∧ own_S4 Z h x t kb c0 c1 c2 c3 ∧ h0.size ≤ x ∧ h0.size ≤ t
theorem rmmk4 (l : Launch) (Z : State) (a0 : Array Value) (hw : own_tb a0 Z) (ws : List Jvm.Cond) (c0 : Int32) (c1 : Int32) (c2 : Int32) (c3 : Int32) (zc : Int32) (h0 : Heap) (n0 : Nat) (Z0 : n0 ≤ h0.size) (O_ : Old Z n0 h0) (S_CS : Sta Z Z.heap "java/lang/String" "COMPACT_STRINGS" "Z" (.int zc)) (P_CS : ¬ zc = (0 : Int32)) (S_AD : Sta Z Z.heap "java/lang/StringUTF16" "$assertionsDisabled" "Z" (.int (1 : Int32))) (S_HB : Sta Z Z.heap "java/lang/StringUTF16" "HI_BYTE_SHIFT" "I" (.int (0 : Int32))) (S_LB : Sta Z Z.heap "java/lang/StringUTF16" "LO_BYTE_SHIFT" "I" (.int (8 : Int32))) (P_c0 : own_u c0) (P_c1 : own_u c1) (P_c2 : own_u c2) (P_c3 : own_u c3) :
    OwnMet l (⟨"com/example/tightrope/tightrope/format/TextFormatIsWordPinLaw", "make", "(ICCCC)Ljava/lang/String;"⟩ : MethodName) method_3_code 5 (some (.object "java/lang/String")) ws ({ frames := 6, cells := 4, slots := 20, locals := 88 } : Room) #[(.int (4 : Int32)), (.int c0), (.int c1), (.int c2), (.int c3)] Z h0 (Qmk4 Z c0 c1 c2 c3 zc h0 n0) := by
  refine own_met (plainFor_of_name pn_1) ?_
  intro p e s m below meth c s₁ X0 hx hby hml hret hlk hown hnm hZ e0
  have N0 := Fr.nil n0
  have Z_ := Z0
  refine OwnGo.cast (ef_mk4 m (4 : Int32) c0 c1 c2 c3) ?_
  show OwnGo p e below s _ _ _ s₁ (mkF m 0 _ [])
  have Kp : Keep h0 h0 [] := Keep.refl h0 []
  refine .iloadN X0 hx (hb hby d1_0) rfl ?_
  refine .ifYes (pc := 1) X0 hx 15 (hb hby d1_1) ((if0 _ _).trans (feq ((by decide) : ¬ ((4 : Int32) = (0 : Int32)))).2) (by decide) (by decide) ?_
  refine .iloadN X0 hx (hb hby d1_15) rfl ?_
  refine .iconst X0 hx (hb hby d1_16) own_ki1 ?_
  refine .icmpYes (pc := 17) X0 hx 25 (hb hby d1_17) (feq ((by decide) : ¬ ((4 : Int32) = (1 : Int32)))).2 (by decide) (by decide) ?_
  refine .iloadN X0 hx (hb hby d1_25) rfl ?_
  refine .iconst X0 hx (hb hby d1_26) own_ki2 ?_
  refine .icmpYes (pc := 27) X0 hx 49 (hb hby d1_27) (feq ((by decide) : ¬ ((4 : Int32) = (2 : Int32)))).2 (by decide) (by decide) ?_
  refine .iloadN X0 hx (hb hby d1_49) rfl ?_
  refine .iconst X0 hx (hb hby d1_50) own_ki3 ?_
  refine .icmpYes (pc := 51) X0 hx 77 (hb hby d1_51) (feq ((by decide) : ¬ ((4 : Int32) = (3 : Int32)))).2 (by decide) (by decide) ?_
  obtain ⟨T207, h207, X207, e207, E207, A207, D207, -, st207⟩ := newO X0 hx hZ hown (W_ hw 5 rfl) (W_ hw 6 rfl) (W_ hw 7 rfl) e0 (g := (mkF m 77 #[.val (.int (4 : Int32)), .val (.int c0), .val (.int c1), .val (.int c2), .val (.int c3)] [])) rfl (hb hby d1_77) (by decide) (by decide)
  obtain ⟨b207, g207⟩ : ∃ z, z = h0.size := ⟨_, rfl⟩
  rw [← g207] at A207 D207 st207
  have g_b207 : n0 ≤ b207 := Nat.le_trans Z_ (Nat.le_of_eq g207.symm)
  have sz_b207 : h0.size ≤ b207 := Nat.le_trans Kp.1 (Nat.le_of_eq g207.symm)
  have O_ := O_.ext E207
  have Kp := Kp.ext E207
  have Z_ : n0 ≤ h207.size := Nat.le_trans Z_ E207.1
  have E_b207 := A207
  have F_value_b207 : Fld Z h207 b207 "java/lang/String" "value" "[B" .null := D207 (Or.inr (W_ hw 21 rfl)) (ty := (.array .byte)) (by decide)
  have F_coder_b207 : Fld Z h207 b207 "java/lang/String" "coder" "B" (.int (0 : Int32)) := D207 (Or.inr (W_ hw 22 rfl)) (ty := .byte) (by decide)
  refine .st st207 ?_
  show OwnGo p e below s _ _ _ T207 (mkF m 80 _ [(.ref b207)])
  refine .dup X207 hx (hb hby d1_80) rfl ?_
  refine .iconst X207 hx (hb hby d1_81) own_ki4 ?_
  obtain ⟨T208, h208, k208, X208, e208, E208, A208, Ex208, st208⟩ := newPE X207 hx hZ (W_ hw 8 rfl) e207 (g := (mkF m 82 #[.val (.int (4 : Int32)), .val (.int c0), .val (.int c1), .val (.int c2), .val (.int c3)] [(.int (4 : Int32)), (.ref b207), (.ref b207)])) rfl (hb hby d1_82) rfl (by decide) (cap := 4) (by decide) (by decide) (by decide) (by decide) (ad := "[C") (by decide)
  obtain ⟨b208, g208⟩ : ∃ z, z = h207.size := ⟨_, rfl⟩
  rw [← g208] at A208 Ex208 st208
  have ne_b207_b208 : b207 ≠ b208 := Nat.ne_of_lt (Nat.lt_of_lt_of_le E_b207.lt (Nat.le_of_eq g208.symm))
  have g_b208 : n0 ≤ b208 := Nat.le_trans Z_ (Nat.le_of_eq g208.symm)
  have sz_b208 : h0.size ≤ b208 := Nat.le_trans Kp.1 (Nat.le_of_eq g208.symm)
  have E_b207 := E_b207.ext E208
  have F_value_b207 := F_value_b207.ext E208
  have F_coder_b207 := F_coder_b207.ext E208
  have O_ := O_.ext E208
  have Kp := Kp.ext E208
  have Z_ : n0 ≤ h208.size := Nat.le_trans Z_ E208.1
  have V_b208 : Arv Z h208 b208 k208 .char (4 : Int32) [(.int (0 : Int32)), (.int (0 : Int32)), (.int (0 : Int32)), (.int (0 : Int32))] (.int (0 : Int32)) := (Arv.new A208 (by decide)).pad (pad_rep [] (.int (0 : Int32)) 4)
  have E_b208 := Ex208
  refine .st st208 ?_
  show OwnGo p e below s _ _ _ T208 (mkF m 84 _ [(.ref b208), (.ref b207), (.ref b207)])
  refine .dup X208 hx (hb hby d1_84) rfl ?_
  refine .iconst X208 hx (hb hby d1_85) own_ki0 ?_
  refine .iloadN X208 hx (hb hby d1_86) rfl ?_
  obtain ⟨cl209, Ar209, q209, S209, N209, H209, G209⟩ := id V_b208
  have hin209 : ¬ ((0 : Int32) < 0 ∨ cl209.slots.size ≤ ((0 : Int32)).toNatClampNeg) := inb_of S209 ⟨by decide, by decide⟩
  obtain ⟨T209, h209, X209, e209, W209, st209⟩ := stC X208 hx hZ e208 Ar209 (j := (0 : Int32)) hin209 (g := (mkF m 87 #[.val (.int (4 : Int32)), .val (.int c0), .val (.int c1), .val (.int c2), .val (.int c3)] [(.int c0), (.int (0 : Int32)), (.ref b208), (.ref b208), (.ref b207), (.ref b207)])) rfl rfl (hb hby d1_87)
  have V_b208 : Arv Z h209 b208 k208 .char (4 : Int32) [(.int (nar .char c0)), (.int (0 : Int32)), (.int (0 : Int32)), (.int (0 : Int32))] (.int (0 : Int32)) := Arv.set Ar209 q209 S209 N209 H209 G209 (fits_nar_char _) W209 0 rfl (Nat.le_of_ble_eq_true rfl)
  rw [show nar .char c0 = c0 from (own_unc P_c0)] at V_b208
  have E_b207 := E_b207.wr W209
  have F_value_b207 := F_value_b207.other W209 (Or.inl ne_b207_b208)
  have F_coder_b207 := F_coder_b207.other W209 (Or.inl ne_b207_b208)
  have E_b208 := E_b208.wr W209
  have O_ := O_.wr W209 g_b208
  have Kp := Kp.wr W209 (Or.inr sz_b208)
  have N209 := Fr.snoc X209 N0 g_b208
  have Z_ : n0 ≤ h209.size := by rw [W209.size]; exact Z_
  refine .st st209 ?_
  show OwnGo p e below s _ _ _ T209 (mkF m 88 _ [(.ref b208), (.ref b207), (.ref b207)])
  refine .dup X209 hx (hb hby d1_88) rfl ?_
  refine .iconst X209 hx (hb hby d1_89) own_ki1 ?_
  refine .iloadN X209 hx (hb hby d1_90) rfl ?_
  obtain ⟨cl210, Ar210, q210, S210, N210, H210, G210⟩ := id V_b208
  have hin210 : ¬ ((1 : Int32) < 0 ∨ cl210.slots.size ≤ ((1 : Int32)).toNatClampNeg) := inb_of S210 ⟨by decide, by decide⟩
  obtain ⟨T210, h210, X210, e210, W210, st210⟩ := stC X209 hx hZ e209 Ar210 (j := (1 : Int32)) hin210 (g := (mkF m 91 #[.val (.int (4 : Int32)), .val (.int c0), .val (.int c1), .val (.int c2), .val (.int c3)] [(.int c1), (.int (1 : Int32)), (.ref b208), (.ref b208), (.ref b207), (.ref b207)])) rfl rfl (hb hby d1_91)
  have V_b208 : Arv Z h210 b208 k208 .char (4 : Int32) [(.int c0), (.int (nar .char c1)), (.int (0 : Int32)), (.int (0 : Int32))] (.int (0 : Int32)) := Arv.set Ar210 q210 S210 N210 H210 G210 (fits_nar_char _) W210 1 rfl (Nat.le_of_ble_eq_true rfl)
  rw [show nar .char c1 = c1 from (own_unc P_c1)] at V_b208
  have E_b207 := E_b207.wr W210
  have F_value_b207 := F_value_b207.other W210 (Or.inl ne_b207_b208)
  have F_coder_b207 := F_coder_b207.other W210 (Or.inl ne_b207_b208)
  have E_b208 := E_b208.wr W210
  have O_ := O_.wr W210 g_b208
  have Kp := Kp.wr W210 (Or.inr sz_b208)
  have N210 := Fr.snoc X210 N209 g_b208
  have Z_ : n0 ≤ h210.size := by rw [W210.size]; exact Z_
  refine .st st210 ?_
  show OwnGo p e below s _ _ _ T210 (mkF m 92 _ [(.ref b208), (.ref b207), (.ref b207)])
  refine .dup X210 hx (hb hby d1_92) rfl ?_
  refine .iconst X210 hx (hb hby d1_93) own_ki2 ?_
  refine .iloadN X210 hx (hb hby d1_94) rfl ?_
  obtain ⟨cl211, Ar211, q211, S211, N211, H211, G211⟩ := id V_b208
  have hin211 : ¬ ((2 : Int32) < 0 ∨ cl211.slots.size ≤ ((2 : Int32)).toNatClampNeg) := inb_of S211 ⟨by decide, by decide⟩
  obtain ⟨T211, h211, X211, e211, W211, st211⟩ := stC X210 hx hZ e210 Ar211 (j := (2 : Int32)) hin211 (g := (mkF m 95 #[.val (.int (4 : Int32)), .val (.int c0), .val (.int c1), .val (.int c2), .val (.int c3)] [(.int c2), (.int (2 : Int32)), (.ref b208), (.ref b208), (.ref b207), (.ref b207)])) rfl rfl (hb hby d1_95)
  have V_b208 : Arv Z h211 b208 k208 .char (4 : Int32) [(.int c0), (.int c1), (.int (nar .char c2)), (.int (0 : Int32))] (.int (0 : Int32)) := Arv.set Ar211 q211 S211 N211 H211 G211 (fits_nar_char _) W211 2 rfl (Nat.le_of_ble_eq_true rfl)
  rw [show nar .char c2 = c2 from (own_unc P_c2)] at V_b208
  have E_b207 := E_b207.wr W211
  have F_value_b207 := F_value_b207.other W211 (Or.inl ne_b207_b208)
  have F_coder_b207 := F_coder_b207.other W211 (Or.inl ne_b207_b208)
  have E_b208 := E_b208.wr W211
  have O_ := O_.wr W211 g_b208
  have Kp := Kp.wr W211 (Or.inr sz_b208)
  have N211 := Fr.snoc X211 N210 g_b208
  have Z_ : n0 ≤ h211.size := by rw [W211.size]; exact Z_
  refine .st st211 ?_
  show OwnGo p e below s _ _ _ T211 (mkF m 96 _ [(.ref b208), (.ref b207), (.ref b207)])
  refine .dup X211 hx (hb hby d1_96) rfl ?_
  refine .iconst X211 hx (hb hby d1_97) own_ki3 ?_
  refine .iload X211 hx (hb hby d1_98) rfl ?_
  obtain ⟨cl212, Ar212, q212, S212, N212, H212, G212⟩ := id V_b208
  have hin212 : ¬ ((3 : Int32) < 0 ∨ cl212.slots.size ≤ ((3 : Int32)).toNatClampNeg) := inb_of S212 ⟨by decide, by decide⟩
  obtain ⟨T212, h212, X212, e212, W212, st212⟩ := stC X211 hx hZ e211 Ar212 (j := (3 : Int32)) hin212 (g := (mkF m 100 #[.val (.int (4 : Int32)), .val (.int c0), .val (.int c1), .val (.int c2), .val (.int c3)] [(.int c3), (.int (3 : Int32)), (.ref b208), (.ref b208), (.ref b207), (.ref b207)])) rfl rfl (hb hby d1_100)
  have V_b208 : Arv Z h212 b208 k208 .char (4 : Int32) [(.int c0), (.int c1), (.int c2), (.int (nar .char c3))] (.int (0 : Int32)) := Arv.set Ar212 q212 S212 N212 H212 G212 (fits_nar_char _) W212 3 rfl (Nat.le_of_ble_eq_true rfl)
  rw [show nar .char c3 = c3 from (own_unc P_c3)] at V_b208
  have E_b207 := E_b207.wr W212
  have F_value_b207 := F_value_b207.other W212 (Or.inl ne_b207_b208)
  have F_coder_b207 := F_coder_b207.other W212 (Or.inl ne_b207_b208)
  have E_b208 := E_b208.wr W212
  have O_ := O_.wr W212 g_b208
  have Kp := Kp.wr W212 (Or.inr sz_b208)
  have N212 := Fr.snoc X212 N211 g_b208
  have Z_ : n0 ≤ h212.size := by rw [W212.size]; exact Z_
  refine .st st212 ?_
  show OwnGo p e below s _ _ _ T212 (mkF m 101 _ [(.ref b208), (.ref b207), (.ref b207)])
  obtain ⟨_, _, ⟨T213, L213, k213, n213⟩, -, X213, ⟨Lc213, hQ213, l213, y213, z213⟩, st213⟩ := X212.specialBack hx (y := (⟨"java/lang/String", "<init>", "([C)V"⟩ : MethodName)) rfl hown (mvT hZ (W_ hw 9 rfl)) (mvT hZ (W_ hw 10 rfl)) (mvT hZ (W_ hw 11 rfl)) (by decide) (backOf (W := 1) (rmiC4 l Z a0 hw [] b207 b208 k208 c0 c1 c2 c3 zc h212 n0 Z_ O_ S_CS P_CS S_AD S_HB S_LB E_b207 F_value_b207 F_coder_b207 g_b207 V_b208 (Ne.symm ne_b207_b208) P_c0 P_c1 P_c2 P_c3) hZ (W_ hw 11 rfl) (W_ hw 7 rfl) (by decide) (by decide)) (g := (mkF m 101 #[.val (.int (4 : Int32)), .val (.int c0), .val (.int c1), .val (.int c2), .val (.int c3)] [(.ref b208), (.ref b207), (.ref b207)])) rfl (by rw [hml]; rfl) (Steps.refl _) (a := b207) (argsL := [(.ref b208)]) (rest := [(.ref b207)]) (lenOf pd_13 rfl) rfl (Nat.le_of_eq rfl) (hb hby d1_101) (fun _ _ => ⟨rfl, e212, (by decide : 2 + 2 ≤ _), (by decide : 8 + 12 ≤ _)⟩)
  dsimp only [Pt.U, Pt.locs, Pt.cells, Pt.slots] at X213 l213 y213 z213 st213 hQ213
  subst l213 y213 z213
  obtain ⟨t213, kb213, rfl, N213q, K213, S213, zt213⟩ := hQ213
  have N213 := Fr.app N212 N213q
  have ne_b207_t213 : b207 ≠ t213 := Nat.ne_of_lt (Nat.lt_of_lt_of_le E_b207.lt zt213)
  have ne_b208_t213 : b208 ≠ t213 := Nat.ne_of_lt (Nat.lt_of_lt_of_le V_b208.lt zt213)
  have g_t213 : n0 ≤ t213 := Nat.le_trans Z_ zt213
  have sz_t213 : h0.size ≤ t213 := Nat.le_trans Kp.1 zt213
  have Z_ : n0 ≤ T213.heap.size := Nat.le_trans Z_ K213.1
  have E_b207 := E_b207.keep K213
  have V_b208 := V_b208.keep K213 (ninS (Ne.symm ne_b207_b208) nin0)
  have E_b208 := E_b208.keep K213
  have O_ := O_.keep K213 (allS g_b207 all0)
  have Kp := Kp.trans K213 (allS (Or.inr sz_b207) all0)
  refine .st (fun _ => st213.trans) ?_
  show OwnGo p e below s _ _ _ T213 (mkF m 104 _ [(.ref b207)])
  exact OwnGo.ret X213 hx hret hlk rfl (Or.inr (Or.inr (Or.inr (Or.inr ⟨rfl, rfl, rfl⟩)))) (hb hby d1_104) (by show Qmk4 Z c0 c1 c2 c3 zc h0 n0 _ T213.heap _; exact ⟨b207, t213, kb213, rfl, N213, Kp, S213, sz_b207, sz_t213⟩) (by decide) (by decide)
def QiV0 (Z : State) (x : Addr) (a : Addr) (h0 : Heap) (n0 : Nat) (v : Option Value) (h : Heap) (L : List Loc) : Prop := v = none ∧ Fr n0 L ∧ Keep h0 h [x] ∧ Exa Z h x "java/lang/String" ∧ Fld Z h x "java/lang/String" "coder" "B" (.int (0 : Int32)) ∧ ∃ (b : Addr) (kb : ClassId), Fld Z h x "java/lang/String" "value" "[B" (.ref b) ∧ Arv Z h b kb .byte (0 : Int32) [] (.int (0 : Int32))
theorem rmiV0 (l : Launch) (Z : State) (a0 : Array Value) (hw : own_tb a0 Z) (ws : List Jvm.Cond) (x : Addr) (a : Addr) (h0 : Heap) (n0 : Nat) (Z0 : n0 ≤ h0.size) (E_x : Exa Z h0 x "java/lang/String") (Fv : Fld Z h0 x "java/lang/String" "value" "[B" .null) (Fc : Fld Z h0 x "java/lang/String" "coder" "B" (.int (0 : Int32))) (g_x : n0 ≤ x) :
    OwnMetW l (⟨"java/lang/String", "<init>", "([CIILjava/lang/Void;)V"⟩ : MethodName) jdk_42_method_149_code 6 none ws ({ frames := 1, cells := 4, slots := 8, locals := 12 } : Room) #[(.ref x), (.ref a), (.int (0 : Int32)), (.int (0 : Int32)), .null] Z h0 (QiV0 Z x a h0 n0) := by
  refine own_metW (EL := own_EL) (plainFor_of_name pn_6) ?_
  intro p e s m below meth c s₁ X0 hx hby hml hret hlk hown hnm hZ e0 hS_ CR
  have hk_ := Nat.le_refl h0.size
  have N0 := Fr.nil n0
  have Z_ := Z0
  refine OwnGoW.cast (ef_iV0 m x a (0 : Int32) (0 : Int32)) ?_
  show OwnGoW p e below s Z own_EL _ _ _ s₁ (mkF m 0 _ [])
  have sf_x : Safe Z own_EL s.vm h0 x := own_safe_null hZ.alike E_x Fv
  have Kp : Keep h0 h0 [x] := Keep.refl h0 [x]
  refine .aloadN X0 hx (hb hby d3_0) rfl rfl ?_
  obtain ⟨T214, X214, e214, st214⟩ := initO X0 hx hZ hown (W_ hw 16 rfl) (W_ hw 17 rfl) (W_ hw 18 rfl) e0 (g := (mkF m 1 #[.val (.ref x), .val (.ref a), .val (.int (0 : Int32)), .val (.int (0 : Int32)), .val .null, .unset] [(.ref x)])) rfl (by rw [hml]; rfl) rfl (hb hby d3_1) (by decide) (W := 0) (Nat.le_of_eq rfl) (by decide)
  refine .st st214 ?_
  show OwnGoW p e below s Z own_EL _ _ _ T214 (mkF m 4 _ [])
  refine .iloadN X214 hx (hb hby d3_4) rfl ?_
  refine .ifNo X214 hx (hb hby d3_5) ((if0 _ _).trans (teq ((by decide) : (0 : Int32) = (0 : Int32))).2) ?_
  refine .aloadN X214 hx (hb hby d3_8) rfl rfl ?_
  obtain ⟨a215, T215, h215, k1_215, b215, kc215, X215, e215, E215, hS_, hkN, hZ, hown, Ea_, Fc_, Fv_, Vb_, -, -, CN, -, sN, st215⟩ := ldcCH (s := s) (vm0 := s.vm) X214 hx hZ hown (W_ hw 19 rfl) (own_wS hw) e214 hS_ hk_ (own_hEL hw) (by decide) CR.1 (vs := []) (z := (0 : Int32)) ⟨by decide, rfl⟩ (by decide) (by decide) (g := (mkF m 9 #[.val (.ref x), .val (.ref a), .val (.int (0 : Int32)), .val (.int (0 : Int32)), .val .null, .unset] [(.ref x)])) rfl (hb hby d3_9) (n := 0) (by decide) (by decide) (by decide) (by decide)
  have lt_x : x < h0.size := E_x.lt
  have E_x := E_x.ext E215
  have Fv := Fv.ext E215
  have Fc := Fc.ext E215
  have Kp := Kp.ext E215
  have sf_x := CN.safe lt_x sf_x
  have CR := CR.trans CN
  have hk_ := hkN
  have Z_ : n0 ≤ h215.size := Nat.le_trans Z_ E215.1
  have ne_x_a215 := (sN _ sf_x).1
  have ne_x_b215 := (sN _ sf_x).2
  have E_a215 := Ea_
  have Fc_a215 := Fc_
  have Fv_a215 := Fv_
  have V_b215 := Vb_
  refine .st st215 ?_
  show OwnGoW p e below s Z own_EL _ _ _ T215 (mkF m 11 _ [(.ref a215), (.ref x)])
  obtain ⟨T216, X216, e216, st216⟩ := getF X215 hx hZ hown (host := "") (Or.inl (W_ hw 25 rfl)) Via.refl e215 Fv_a215 (g := (mkF m 11 #[.val (.ref x), .val (.ref a), .val (.int (0 : Int32)), .val (.int (0 : Int32)), .val .null, .unset] [(.ref a215), (.ref x)])) rfl rfl (hb hby d3_11)
  refine .st st216 ?_
  show OwnGoW p e below s Z own_EL _ _ _ T216 (mkF m 14 _ [(.ref b215), (.ref x)])
  obtain ⟨T217, h217, X217, e217, W217, st217⟩ := putF X216 hx hZ hown (host := "") (Or.inl (W_ hw 25 rfl)) Via.refl e216 Fv E_x (Or.inr ⟨(W_ hw 21 rfl), rfl, hnm⟩) (W_ hw 6 rfl) (ty := (.array .byte)) (by decide) rfl rfl (g := (mkF m 14 #[.val (.ref x), .val (.ref a), .val (.int (0 : Int32)), .val (.int (0 : Int32)), .val .null, .unset] [(.ref b215), (.ref x)])) rfl rfl (hb hby d3_14)
  have E_x := E_x.wr W217
  have Fv := Fv.same W217
  have Fc := Fc.other W217 (Or.inr (slot_ne (Or.inr (W_ hw 22 rfl)) (Or.inr (W_ hw 21 rfl)) (by decide) (t := .byte) (t' := (.array .byte)) (by decide) (by decide)))
  have E_a215 := E_a215.wr W217
  have Fc_a215 := Fc_a215.other W217 (Or.inl (Ne.symm ne_x_a215))
  have Fv_a215 := Fv_a215.other W217 (Or.inl (Ne.symm ne_x_a215))
  have V_b215 := V_b215.other W217 (Ne.symm ne_x_b215)
  have Kp := Kp.wr W217 (Or.inl (List.mem_of_getElem? (i := 0) rfl))
  have sf_ := sf_x
  have CR0 := CR.1
  have CR := CR.trans (CHr.wr W217 sf_ CR.1)
  have sf_x := Safe.wr W217 sf_ CR0 sf_x
  have hk_ := Nat.le_trans hk_ (Nat.le_of_eq W217.size.symm)
  have N217 := Fr.snoc X217 N0 g_x
  have Z_ : n0 ≤ h217.size := by rw [W217.size]; exact Z_
  refine .st st217 ?_
  show OwnGoW p e below s Z own_EL _ _ _ T217 (mkF m 17 _ [])
  refine .aloadN X217 hx (hb hby d3_17) rfl rfl ?_
  obtain ⟨a218, T218, h218, k1_218, b218, kc218, X218, e218, E218, hS_, hkN, hZ, hown, Ea_, Fc_, Fv_, Vb_, -, -, CN, -, sN, st218⟩ := ldcCH (s := s) (vm0 := T215.vm) X217 hx hZ hown (W_ hw 19 rfl) (own_wS hw) e217 hS_ hk_ (own_hEL hw) (by decide) CR.1 (vs := []) (z := (0 : Int32)) ⟨by decide, rfl⟩ (by decide) (by decide) (g := (mkF m 18 #[.val (.ref x), .val (.ref a), .val (.int (0 : Int32)), .val (.int (0 : Int32)), .val .null, .unset] [(.ref x)])) rfl (hb hby d3_18) (n := 0) (by decide) (by decide) (by decide) (by decide)
  have lt_x : x < h217.size := E_x.lt
  have E_x := E_x.ext E218
  have Fv := Fv.ext E218
  have Fc := Fc.ext E218
  have E_a215 := E_a215.ext E218
  have Fc_a215 := Fc_a215.ext E218
  have Fv_a215 := Fv_a215.ext E218
  have V_b215 := V_b215.ext E218
  have Kp := Kp.ext E218
  have sf_x := CN.safe lt_x sf_x
  have CR := CR.trans CN
  have hk_ := hkN
  have Z_ : n0 ≤ h218.size := Nat.le_trans Z_ E218.1
  have ne_x_a218 := (sN _ sf_x).1
  have ne_x_b218 := (sN _ sf_x).2
  have E_a218 := Ea_
  have Fc_a218 := Fc_
  have Fv_a218 := Fv_
  have V_b218 := Vb_
  refine .st st218 ?_
  show OwnGoW p e below s Z own_EL _ _ _ T218 (mkF m 20 _ [(.ref a218), (.ref x)])
  obtain ⟨T219, X219, e219, st219⟩ := getF X218 hx hZ hown (host := "") (Or.inl (W_ hw 26 rfl)) Via.refl e218 Fc_a218 (g := (mkF m 20 #[.val (.ref x), .val (.ref a), .val (.int (0 : Int32)), .val (.int (0 : Int32)), .val .null, .unset] [(.ref a218), (.ref x)])) rfl rfl (hb hby d3_20)
  refine .st st219 ?_
  show OwnGoW p e below s Z own_EL _ _ _ T219 (mkF m 23 _ [(.int (0 : Int32)), (.ref x)])
  obtain ⟨T220, h220, X220, e220, W220, st220⟩ := putFN X219 hx hZ hown (W_ hw 26 rfl) Via.refl e219 Fc E_x (Or.inr ⟨(W_ hw 22 rfl), rfl, hnm⟩) (W_ hw 6 rfl) (ty := .byte) (v' := (.int (nar .byte (0 : Int32)))) (by decide) rfl (fits_nar_byte _) (g := (mkF m 23 #[.val (.ref x), .val (.ref a), .val (.int (0 : Int32)), .val (.int (0 : Int32)), .val .null, .unset] [(.int (0 : Int32)), (.ref x)])) rfl rfl (hb hby d3_23)
  have E_x := E_x.wr W220
  have Fv := Fv.other W220 (Or.inr (slot_ne (Or.inr (W_ hw 21 rfl)) (Or.inr (W_ hw 22 rfl)) (by decide) (t := (.array .byte)) (t' := .byte) (by decide) (by decide)))
  have Fc := Fc.same W220
  have E_a215 := E_a215.wr W220
  have Fc_a215 := Fc_a215.other W220 (Or.inl (Ne.symm ne_x_a215))
  have Fv_a215 := Fv_a215.other W220 (Or.inl (Ne.symm ne_x_a215))
  have V_b215 := V_b215.other W220 (Ne.symm ne_x_b215)
  have E_a218 := E_a218.wr W220
  have Fc_a218 := Fc_a218.other W220 (Or.inl (Ne.symm ne_x_a218))
  have Fv_a218 := Fv_a218.other W220 (Or.inl (Ne.symm ne_x_a218))
  have V_b218 := V_b218.other W220 (Ne.symm ne_x_b218)
  have Kp := Kp.wr W220 (Or.inl (List.mem_of_getElem? (i := 0) rfl))
  have sf_ := sf_x
  have CR0 := CR.1
  have CR := CR.trans (CHr.wr W220 sf_ CR.1)
  have sf_x := Safe.wr W220 sf_ CR0 sf_x
  have hk_ := Nat.le_trans hk_ (Nat.le_of_eq W220.size.symm)
  have N220 := Fr.snoc X220 N217 g_x
  have Z_ : n0 ≤ h220.size := by rw [W220.size]; exact Z_
  refine .st st220 ?_
  show OwnGoW p e below s Z own_EL _ _ _ T220 (mkF m 26 _ [])
  exact OwnGoW.retV (s := s) (vm0 := T218.vm) X220 hS_ hk_ e220 hZ (own_hEL hw) CR hx hret hlk (hb hby d3_26) (by show QiV0 Z x a h0 n0 _ T220.heap _; rw [e220]; exact ⟨rfl, N220, Kp, E_x, Fc, b215, kc215, Fv, V_b215⟩) (by decide) (by decide)
def QiC0 (Z : State) (x : Addr) (a : Addr) (ka : ClassId) (h0 : Heap) (n0 : Nat) (v : Option Value) (h : Heap) (L : List Loc) : Prop := v = none ∧ Fr n0 L ∧ Keep h0 h [x] ∧ Exa Z h x "java/lang/String" ∧ Fld Z h x "java/lang/String" "coder" "B" (.int (0 : Int32)) ∧ ∃ (b : Addr) (kb : ClassId), Fld Z h x "java/lang/String" "value" "[B" (.ref b) ∧ Arv Z h b kb .byte (0 : Int32) [] (.int (0 : Int32))
theorem rmiC0 (l : Launch) (Z : State) (a0 : Array Value) (hw : own_tb a0 Z) (ws : List Jvm.Cond) (x : Addr) (a : Addr) (ka : ClassId) (h0 : Heap) (n0 : Nat) (Z0 : n0 ≤ h0.size) (E_x : Exa Z h0 x "java/lang/String") (Fv : Fld Z h0 x "java/lang/String" "value" "[B" .null) (Fc : Fld Z h0 x "java/lang/String" "coder" "B" (.int (0 : Int32))) (g_x : n0 ≤ x) (V_a : Arv Z h0 a ka .char (0 : Int32) [] (.int (0 : Int32))) (ne_a_x : a ≠ x) :
    OwnMetW l (⟨"java/lang/String", "<init>", "([C)V"⟩ : MethodName) jdk_42_method_3_code 2 none ws ({ frames := 2, cells := 4, slots := 8, locals := 29 } : Room) #[(.ref x), (.ref a)] Z h0 (QiC0 Z x a ka h0 n0) := by
  refine own_metW (EL := own_EL) (plainFor_of_name pn_6) ?_
  intro p e s m below meth c s₁ X0 hx hby hml hret hlk hown hnm hZ e0 hS_ CR
  have hk_ := Nat.le_refl h0.size
  have N0 := Fr.nil n0
  have Z_ := Z0
  refine OwnGoW.cast (ef_iC0 m x a) ?_
  show OwnGoW p e below s Z own_EL _ _ _ s₁ (mkF m 0 _ [])
  refine .aloadN X0 hx (hb hby d2_0) rfl rfl ?_
  refine .aloadN X0 hx (hb hby d2_1) rfl rfl ?_
  refine .iconst X0 hx (hb hby d2_2) own_ki0 ?_
  refine .aloadN X0 hx (hb hby d2_3) rfl rfl ?_
  obtain ⟨cl221, Ar221, -, S221, N221, -, -⟩ := id V_a
  refine .st (fun _ => own_len hZ (len_of S221 N221) Ar221 X0 e0 hx (g := (mkF m 4 #[.val (.ref x), .val (.ref a)] [(.ref a), (.int (0 : Int32)), (.ref a), (.ref x)])) rfl rfl (hb hby d2_4) _) ?_
  show OwnGoW p e below s Z own_EL _ _ _ s₁ (mkF m 5 _ [(.int (0 : Int32)), (.int (0 : Int32)), (.ref a), (.ref x)])
  refine .aconstNull X0 hx (hb hby d2_5)  ?_
  obtain ⟨_, _, ⟨T222, L222, k222, n222⟩, -, X222, hS222, hg222, ⟨Lc222, hQ222, l222, y222, z222, CN222⟩, st222⟩ := Stand.specialBackS (s := s.setVm s.vm) X0 hx (y := (⟨"java/lang/String", "<init>", "([CIILjava/lang/Void;)V"⟩ : MethodName)) rfl hown (mvT hZ (W_ hw 12 rfl)) (mvT hZ (W_ hw 13 rfl)) (mvT hZ (W_ hw 15 rfl)) (by decide) (backOfSH (s := s) (vm0 := s.vm) (W := 0) (rmiV0 l Z a0 hw [] x a h0 n0 Z_ E_x Fv Fc g_x) hZ (W_ hw 15 rfl) (W_ hw 7 rfl) (by decide) (by decide) (own_hEL hw) CR.1) (g := (mkF m 6 #[.val (.ref x), .val (.ref a)] [.null, (.int (0 : Int32)), (.int (0 : Int32)), (.ref a), (.ref x)])) rfl (by rw [hml]; rfl) (Steps.refl _) (a := x) (argsL := [(.ref a), (.int (0 : Int32)), (.int (0 : Int32)), .null]) (rest := []) (lenOf pd_11 rfl) rfl (Nat.le_of_eq rfl) (hb hby d2_6) (fun _ _ => ⟨rfl, e0, (by decide : 0 + 4 ≤ _), (by decide : 0 + 8 ≤ _)⟩)
  dsimp only [Pt.U, Pt.locs, Pt.cells, Pt.slots] at X222 hS222 hg222 l222 y222 z222 CN222 st222 hQ222
  subst l222 y222 z222
  obtain ⟨X222, hS_, hZ, hown⟩ := rebS hS_ (show _ ≤ s₁.heap.size by rw [(e0 : s₁.heap = h0)]; exact hk_) X222 hS222 hg222 hZ hown
  obtain ⟨rfl, N222q, K222, Ex222, Fc222, b222, kb222, Fv222, V222⟩ := hQ222
  have N222 := Fr.app N0 N222q
  have Z_ : n0 ≤ T222.heap.size := Nat.le_trans Z_ K222.1
  have E_x := E_x.keep K222
  have V_a := V_a.keep K222 (ninS ne_a_x nin0)
  have CR := CR.trans CN222
  have hk_ := Nat.le_refl T222.heap.size
  refine .st (fun _ => st222.trans) ?_
  show OwnGoW p e below s Z own_EL _ _ _ T222 (mkF m 9 _ [])
  exact OwnGoW.retV (s := s) (vm0 := T222.vm) X222 hS_ hk_ rfl hZ (own_hEL hw) CR hx hret hlk (hb hby d2_9) (by show QiC0 Z x a ka h0 n0 _ T222.heap _; exact ⟨rfl, N222, K222, Ex222, Fc222, b222, kb222, Fv222, V222⟩) (by decide) (by decide)
def Qmk0 (Z : State) (c0 : Int32) (c1 : Int32) (c2 : Int32) (c3 : Int32) (h0 : Heap) (n0 : Nat) (v : Option Value) (h : Heap) (L : List Loc) : Prop := ∃ (x b : Addr) (kb : ClassId), v = some (.ref x) ∧ Fr n0 L ∧ Keep h0 h [] ∧ Exa Z h x "java/lang/String" ∧ Fld Z h x "java/lang/String" "coder" "B" (.int (0 : Int32)) ∧ Fld Z h x "java/lang/String" "value" "[B" (.ref b) ∧ Arv Z h b kb .byte (0 : Int32) [] (.int (0 : Int32))
theorem rmmk0 (l : Launch) (Z : State) (a0 : Array Value) (hw : own_tb a0 Z) (ws : List Jvm.Cond) (c0 : Int32) (c1 : Int32) (c2 : Int32) (c3 : Int32) (h0 : Heap) (n0 : Nat) (Z0 : n0 ≤ h0.size) :
    OwnMetW l (⟨"com/example/tightrope/tightrope/format/TextFormatIsWordPinLaw", "make", "(ICCCC)Ljava/lang/String;"⟩ : MethodName) method_3_code 5 (some (.object "java/lang/String")) ws ({ frames := 3, cells := 8, slots := 16, locals := 43 } : Room) #[(.int (0 : Int32)), (.int c0), (.int c1), (.int c2), (.int c3)] Z h0 (Qmk0 Z c0 c1 c2 c3 h0 n0) := by
  refine own_metW (EL := own_EL) (plainFor_of_name pn_1) ?_
  intro p e s m below meth c s₁ X0 hx hby hml hret hlk hown hnm hZ e0 hS_ CR
  have hk_ := Nat.le_refl h0.size
  have N0 := Fr.nil n0
  have Z_ := Z0
  refine OwnGoW.cast (ef_mk0 m (0 : Int32) c0 c1 c2 c3) ?_
  show OwnGoW p e below s Z own_EL _ _ _ s₁ (mkF m 0 _ [])
  have Kp : Keep h0 h0 [] := Keep.refl h0 []
  refine .iloadN X0 hx (hb hby d1_0) rfl ?_
  refine .ifNo X0 hx (hb hby d1_1) ((if0 _ _).trans (teq ((by decide) : (0 : Int32) = (0 : Int32))).2) ?_
  obtain ⟨T223, h223, X223, e223, E223, A223, D223, -, st223⟩ := newO X0 hx hZ hown (W_ hw 5 rfl) (W_ hw 6 rfl) (W_ hw 7 rfl) e0 (g := (mkF m 4 #[.val (.int (0 : Int32)), .val (.int c0), .val (.int c1), .val (.int c2), .val (.int c3)] [])) rfl (hb hby d1_4) (by decide) (by decide)
  obtain ⟨b223, g223⟩ : ∃ z, z = h0.size := ⟨_, rfl⟩
  rw [← g223] at A223 D223 st223
  have g_b223 : n0 ≤ b223 := Nat.le_trans Z_ (Nat.le_of_eq g223.symm)
  have sf_b223 : Safe Z own_EL s.vm h0 b223 := Safe.new (Nat.le_of_eq g223.symm)
  have sz_b223 : h0.size ≤ b223 := Nat.le_trans Kp.1 (Nat.le_of_eq g223.symm)
  have Kp := Kp.ext E223
  have sf_b223 := Safe.ext E223 CR.1 sf_b223
  have CR := CR.trans (CHr.ext E223 CR.1)
  have hk_ := Nat.le_trans hk_ E223.1
  have Z_ : n0 ≤ h223.size := Nat.le_trans Z_ E223.1
  have E_b223 := A223
  have F_value_b223 : Fld Z h223 b223 "java/lang/String" "value" "[B" .null := D223 (Or.inr (W_ hw 21 rfl)) (ty := (.array .byte)) (by decide)
  have F_coder_b223 : Fld Z h223 b223 "java/lang/String" "coder" "B" (.int (0 : Int32)) := D223 (Or.inr (W_ hw 22 rfl)) (ty := .byte) (by decide)
  refine .st st223 ?_
  show OwnGoW p e below s Z own_EL _ _ _ T223 (mkF m 7 _ [(.ref b223)])
  refine .dup X223 hx (hb hby d1_7) rfl ?_
  refine .iconst X223 hx (hb hby d1_8) own_ki0 ?_
  obtain ⟨T224, h224, k224, X224, e224, E224, A224, Ex224, st224⟩ := newPE X223 hx hZ (W_ hw 8 rfl) e223 (g := (mkF m 9 #[.val (.int (0 : Int32)), .val (.int c0), .val (.int c1), .val (.int c2), .val (.int c3)] [(.int (0 : Int32)), (.ref b223), (.ref b223)])) rfl (hb hby d1_9) rfl (by decide) (cap := 0) (by decide) (by decide) (by decide) (by decide) (ad := "[C") (by decide)
  obtain ⟨b224, g224⟩ : ∃ z, z = h223.size := ⟨_, rfl⟩
  rw [← g224] at A224 Ex224 st224
  have ne_b223_b224 : b223 ≠ b224 := Nat.ne_of_lt (Nat.lt_of_lt_of_le E_b223.lt (Nat.le_of_eq g224.symm))
  have g_b224 : n0 ≤ b224 := Nat.le_trans Z_ (Nat.le_of_eq g224.symm)
  have sf_b224 : Safe Z own_EL s.vm h223 b224 := Safe.new (Nat.le_of_eq g224.symm)
  have sz_b224 : h0.size ≤ b224 := Nat.le_trans Kp.1 (Nat.le_of_eq g224.symm)
  have E_b223 := E_b223.ext E224
  have F_value_b223 := F_value_b223.ext E224
  have F_coder_b223 := F_coder_b223.ext E224
  have Kp := Kp.ext E224
  have sf_b223 := Safe.ext E224 CR.1 sf_b223
  have sf_b224 := Safe.ext E224 CR.1 sf_b224
  have CR := CR.trans (CHr.ext E224 CR.1)
  have hk_ := Nat.le_trans hk_ E224.1
  have Z_ : n0 ≤ h224.size := Nat.le_trans Z_ E224.1
  have V_b224 : Arv Z h224 b224 k224 .char (0 : Int32) [] (.int (0 : Int32)) := (Arv.new A224 (by decide)).pad (pad_rep [] (.int (0 : Int32)) 0)
  have E_b224 := Ex224
  refine .st st224 ?_
  show OwnGoW p e below s Z own_EL _ _ _ T224 (mkF m 11 _ [(.ref b224), (.ref b223), (.ref b223)])
  obtain ⟨_, _, ⟨T225, L225, k225, n225⟩, -, X225, hS225, hg225, ⟨Lc225, hQ225, l225, y225, z225, CN225⟩, st225⟩ := Stand.specialBackS (s := s.setVm s.vm) X224 hx (y := (⟨"java/lang/String", "<init>", "([C)V"⟩ : MethodName)) rfl hown (mvT hZ (W_ hw 9 rfl)) (mvT hZ (W_ hw 10 rfl)) (mvT hZ (W_ hw 11 rfl)) (by decide) (backOfSH (s := s) (vm0 := s.vm) (W := 1) (rmiC0 l Z a0 hw [] b223 b224 k224 h224 n0 Z_ E_b223 F_value_b223 F_coder_b223 g_b223 V_b224 (Ne.symm ne_b223_b224)) hZ (W_ hw 11 rfl) (W_ hw 7 rfl) (by decide) (by decide) (own_hEL hw) CR.1) (g := (mkF m 11 #[.val (.int (0 : Int32)), .val (.int c0), .val (.int c1), .val (.int c2), .val (.int c3)] [(.ref b224), (.ref b223), (.ref b223)])) rfl (by rw [hml]; rfl) (Steps.refl _) (a := b223) (argsL := [(.ref b224)]) (rest := [(.ref b223)]) (lenOf pd_13 rfl) rfl (Nat.le_of_eq rfl) (hb hby d1_11) (fun _ _ => ⟨rfl, e224, (by decide : 2 + 4 ≤ _), (by decide : 4 + 8 ≤ _)⟩)
  dsimp only [Pt.U, Pt.locs, Pt.cells, Pt.slots] at X225 hS225 hg225 l225 y225 z225 CN225 st225 hQ225
  subst l225 y225 z225
  obtain ⟨X225, hS_, hZ, hown⟩ := rebS hS_ (show _ ≤ T224.heap.size by rw [(e224 : T224.heap = h224)]; exact hk_) X225 hS225 hg225 hZ hown
  obtain ⟨rfl, N225q, K225, Ex225, Fc225, b225, kb225, Fv225, V225⟩ := hQ225
  have N225 := Fr.app N0 N225q
  have lt_b223 : b223 < h224.size := E_b223.lt
  have lt_b224 : b224 < h224.size := V_b224.lt
  have Z_ : n0 ≤ T225.heap.size := Nat.le_trans Z_ K225.1
  have E_b223 := E_b223.keep K225
  have V_b224 := V_b224.keep K225 (ninS (Ne.symm ne_b223_b224) nin0)
  have E_b224 := E_b224.keep K225
  have Kp := Kp.trans K225 (allS (Or.inr sz_b223) all0)
  have sf_b223 := CN225.safe lt_b223 sf_b223
  have sf_b224 := CN225.safe lt_b224 sf_b224
  have CR := CR.trans CN225
  have hk_ := Nat.le_refl T225.heap.size
  refine .st (fun _ => st225.trans) ?_
  show OwnGoW p e below s Z own_EL _ _ _ T225 (mkF m 14 _ [(.ref b223)])
  exact OwnGoW.ret (s := s) (vm0 := T225.vm) X225 hS_ hk_ rfl hZ (own_hEL hw) CR hx hret hlk rfl (Or.inr (Or.inr (Or.inr (Or.inr ⟨rfl, rfl, rfl⟩)))) (hb hby d1_14) (by show Qmk0 Z c0 c1 c2 c3 h0 n0 _ T225.heap _; exact ⟨b223, b225, kb225, rfl, N225, Kp, Ex225, Fc225, Fv225, V225⟩) (by decide) (by decide)
def Qcoder1 (Z : State) (x : Addr) (zc : Int32) (h0 : Heap) (n0 : Nat) (v : Option Value) (h : Heap) (L : List Loc) : Prop := v = some (.int (1 : Int32)) ∧ Fr n0 L ∧ h = h0
theorem rmcoder1 (l : Launch) (Z : State) (a0 : Array Value) (hw : own_tb a0 Z) (ws : List Jvm.Cond) (x : Addr) (zc : Int32) (h0 : Heap) (n0 : Nat) (Z0 : n0 ≤ h0.size) (O_ : Old Z n0 h0) (S_CS : Sta Z Z.heap "java/lang/String" "COMPACT_STRINGS" "Z" (.int zc)) (P_CS : ¬ zc = (0 : Int32)) (Fc : Fld Z h0 x "java/lang/String" "coder" "B" (.int (1 : Int32))) :
    OwnMet l (⟨"java/lang/String", "coder", "()B"⟩ : MethodName) jdk_42_method_152_code 1 (some .byte) ws ({ frames := 0, cells := 0, slots := 0, locals := 0 } : Room) #[(.ref x)] Z h0 (Qcoder1 Z x zc h0 n0) := by
  refine own_met (plainFor_of_name pn_6) ?_
  intro p e s m below meth c s₁ X0 hx hby hml hret hlk hown hnm hZ e0
  have N0 := Fr.nil n0
  have Z_ := Z0
  refine OwnGo.cast (ef_coder1 m x) ?_
  show OwnGo p e below s _ _ _ s₁ (mkF m 0 _ [])
  obtain ⟨T226, X226, e226, st226⟩ := getS2 X0 hx hZ hown (host := "") (Or.inl (W_ hw 37 rfl)) Via.refl e0 (S_CS.ext O_.2) (g := (mkF m 0 #[.val (.ref x)] [])) rfl (hb hby d6_0)
  refine .st st226 ?_
  show OwnGo p e below s _ _ _ T226 (mkF m 3 _ [(.int zc)])
  refine .ifNo X226 hx (hb hby d6_3) ((if0 _ _).trans (feq (P_CS : ¬ (zc = (0 : Int32)))).1) ?_
  refine .aloadN X226 hx (hb hby d6_6) rfl rfl ?_
  obtain ⟨T227, X227, e227, st227⟩ := getF X226 hx hZ hown (host := "") (Or.inl (W_ hw 26 rfl)) Via.refl e226 Fc (g := (mkF m 7 #[.val (.ref x)] [(.ref x)])) rfl rfl (hb hby d6_7)
  refine .st st227 ?_
  show OwnGo p e below s _ _ _ T227 (mkF m 10 _ [(.int (1 : Int32))])
  refine .goto (pc := 10) X227 hx 14 (hb hby d6_10) (by decide) (by decide) ?_
  exact OwnGo.retN X227 hx (t := .byte) hret hlk (by simp) (hb hby d6_14) (by show Qcoder1 Z x zc h0 n0 _ T227.heap _; rw [e227]; exact ⟨rfl, N0, rfl⟩) (by decide) (by decide)
def QisL1 (Z : State) (x : Addr) (zc : Int32) (h0 : Heap) (n0 : Nat) (v : Option Value) (h : Heap) (L : List Loc) : Prop := v = some (.int (0 : Int32)) ∧ Fr n0 L ∧ h = h0
theorem rmisL1 (l : Launch) (Z : State) (a0 : Array Value) (hw : own_tb a0 Z) (ws : List Jvm.Cond) (x : Addr) (zc : Int32) (h0 : Heap) (n0 : Nat) (Z0 : n0 ≤ h0.size) (O_ : Old Z n0 h0) (S_CS : Sta Z Z.heap "java/lang/String" "COMPACT_STRINGS" "Z" (.int zc)) (P_CS : ¬ zc = (0 : Int32)) (Fc : Fld Z h0 x "java/lang/String" "coder" "B" (.int (1 : Int32))) :
    OwnMet l (⟨"java/lang/String", "isLatin1", "()Z"⟩ : MethodName) jdk_42_method_154_code 1 (some .boolean) ws ({ frames := 0, cells := 0, slots := 0, locals := 0 } : Room) #[(.ref x)] Z h0 (QisL1 Z x zc h0 n0) := by
  refine own_met (plainFor_of_name pn_6) ?_
  intro p e s m below meth c s₁ X0 hx hby hml hret hlk hown hnm hZ e0
  have N0 := Fr.nil n0
  have Z_ := Z0
  refine OwnGo.cast (ef_isL1 m x) ?_
  show OwnGo p e below s _ _ _ s₁ (mkF m 0 _ [])
  obtain ⟨T228, X228, e228, st228⟩ := getS2 X0 hx hZ hown (host := "") (Or.inl (W_ hw 37 rfl)) Via.refl e0 (S_CS.ext O_.2) (g := (mkF m 0 #[.val (.ref x)] [])) rfl (hb hby d14_0)
  refine .st st228 ?_
  show OwnGo p e below s _ _ _ T228 (mkF m 3 _ [(.int zc)])
  refine .ifNo X228 hx (hb hby d14_3) ((if0 _ _).trans (feq (P_CS : ¬ (zc = (0 : Int32)))).1) ?_
  refine .aloadN X228 hx (hb hby d14_6) rfl rfl ?_
  obtain ⟨T229, X229, e229, st229⟩ := getF X228 hx hZ hown (host := "") (Or.inl (W_ hw 26 rfl)) Via.refl e228 Fc (g := (mkF m 7 #[.val (.ref x)] [(.ref x)])) rfl rfl (hb hby d14_7)
  refine .st st229 ?_
  show OwnGo p e below s _ _ _ T229 (mkF m 10 _ [(.int (1 : Int32))])
  refine .ifYes (pc := 10) X229 hx 17 (hb hby d14_10) ((if0 _ _).trans (feq ((by decide) : ¬ ((1 : Int32) = (0 : Int32)))).2) (by decide) (by decide) ?_
  refine .iconst X229 hx (hb hby d14_17) own_ki0 ?_
  exact OwnGo.retN X229 hx (t := .boolean) hret hlk (by simp) (hb hby d14_18) (by show QisL1 Z x zc h0 n0 _ T229.heap _; rw [e229]; exact ⟨rfl, N0, rfl⟩) (by decide) (by decide)
def QempN (Z : State) (x : Addr) (t : Addr) (kb : ClassId) (z : Int32) (vs : List Value) (h0 : Heap) (n0 : Nat) (v : Option Value) (h : Heap) (L : List Loc) : Prop := v = some (.int (0 : Int32)) ∧ Fr n0 L ∧ h = h0
theorem rmempN (l : Launch) (Z : State) (a0 : Array Value) (hw : own_tb a0 Z) (ws : List Jvm.Cond) (x : Addr) (t : Addr) (kb : ClassId) (z : Int32) (vs : List Value) (h0 : Heap) (n0 : Nat) (Z0 : n0 ≤ h0.size) (Fv : Fld Z h0 x "java/lang/String" "value" "[B" (.ref t)) (V_t : Arv Z h0 t kb .byte z vs (.int (0 : Int32))) (hz : ¬ z = (0 : Int32)) :
    OwnMet l (⟨"java/lang/String", "isEmpty", "()Z"⟩ : MethodName) jdk_42_method_55_code 1 (some .boolean) ws ({ frames := 0, cells := 0, slots := 0, locals := 0 } : Room) #[(.ref x)] Z h0 (QempN Z x t kb z vs h0 n0) := by
  refine own_met (plainFor_of_name pn_6) ?_
  intro p e s m below meth c s₁ X0 hx hby hml hret hlk hown hnm hZ e0
  have N0 := Fr.nil n0
  have Z_ := Z0
  refine OwnGo.cast (ef_empN m x) ?_
  show OwnGo p e below s _ _ _ s₁ (mkF m 0 _ [])
  refine .aloadN X0 hx (hb hby d8_0) rfl rfl ?_
  obtain ⟨T230, X230, e230, st230⟩ := getF X0 hx hZ hown (host := "") (Or.inl (W_ hw 25 rfl)) Via.refl e0 Fv (g := (mkF m 1 #[.val (.ref x)] [(.ref x)])) rfl rfl (hb hby d8_1)
  refine .st st230 ?_
  show OwnGo p e below s _ _ _ T230 (mkF m 4 _ [(.ref t)])
  obtain ⟨cl231, Ar231, -, S231, N231, -, -⟩ := id V_t
  refine .st (fun _ => own_len hZ (len_of S231 N231) Ar231 X230 e230 hx (g := (mkF m 4 #[.val (.ref x)] [(.ref t)])) rfl rfl (hb hby d8_4) _) ?_
  show OwnGo p e below s _ _ _ T230 (mkF m 5 _ [(.int z)])
  refine .ifYes (pc := 5) X230 hx 12 (hb hby d8_5) ((if0 _ _).trans (feq (hz : ¬ (z = (0 : Int32)))).2) (by decide) (by decide) ?_
  refine .iconst X230 hx (hb hby d8_12) own_ki0 ?_
  exact OwnGo.retN X230 hx (t := .boolean) hret hlk (by simp) (hb hby d8_13) (by show QempN Z x t kb z vs h0 n0 _ T230.heap _; rw [e230]; exact ⟨rfl, N0, rfl⟩) (by decide) (by decide)
def QempY (Z : State) (x : Addr) (t : Addr) (kb : ClassId) (vs : List Value) (h0 : Heap) (n0 : Nat) (v : Option Value) (h : Heap) (L : List Loc) : Prop := v = some (.int (1 : Int32)) ∧ Fr n0 L ∧ h = h0
theorem rmempY (l : Launch) (Z : State) (a0 : Array Value) (hw : own_tb a0 Z) (ws : List Jvm.Cond) (x : Addr) (t : Addr) (kb : ClassId) (vs : List Value) (h0 : Heap) (n0 : Nat) (Z0 : n0 ≤ h0.size) (Fv : Fld Z h0 x "java/lang/String" "value" "[B" (.ref t)) (V_t : Arv Z h0 t kb .byte (0 : Int32) vs (.int (0 : Int32))) :
    OwnMet l (⟨"java/lang/String", "isEmpty", "()Z"⟩ : MethodName) jdk_42_method_55_code 1 (some .boolean) ws ({ frames := 0, cells := 0, slots := 0, locals := 0 } : Room) #[(.ref x)] Z h0 (QempY Z x t kb vs h0 n0) := by
  refine own_met (plainFor_of_name pn_6) ?_
  intro p e s m below meth c s₁ X0 hx hby hml hret hlk hown hnm hZ e0
  have N0 := Fr.nil n0
  have Z_ := Z0
  refine OwnGo.cast (ef_empY m x) ?_
  show OwnGo p e below s _ _ _ s₁ (mkF m 0 _ [])
  refine .aloadN X0 hx (hb hby d8_0) rfl rfl ?_
  obtain ⟨T232, X232, e232, st232⟩ := getF X0 hx hZ hown (host := "") (Or.inl (W_ hw 25 rfl)) Via.refl e0 Fv (g := (mkF m 1 #[.val (.ref x)] [(.ref x)])) rfl rfl (hb hby d8_1)
  refine .st st232 ?_
  show OwnGo p e below s _ _ _ T232 (mkF m 4 _ [(.ref t)])
  obtain ⟨cl233, Ar233, -, S233, N233, -, -⟩ := id V_t
  refine .st (fun _ => own_len hZ (len_of S233 N233) Ar233 X232 e232 hx (g := (mkF m 4 #[.val (.ref x)] [(.ref t)])) rfl rfl (hb hby d8_4) _) ?_
  show OwnGo p e below s _ _ _ T232 (mkF m 5 _ [(.int (0 : Int32))])
  refine .ifNo X232 hx (hb hby d8_5) ((if0 _ _).trans (teq ((by decide) : (0 : Int32) = (0 : Int32))).2) ?_
  refine .iconst X232 hx (hb hby d8_8) own_ki1 ?_
  refine .goto (pc := 9) X232 hx 13 (hb hby d8_9) (by decide) (by decide) ?_
  exact OwnGo.retN X232 hx (t := .boolean) hret hlk (by simp) (hb hby d8_13) (by show QempY Z x t kb vs h0 n0 _ T232.heap _; rw [e232]; exact ⟨rfl, N0, rfl⟩) (by decide) (by decide)
def Qmax0 (Z : State)  (h0 : Heap) (n0 : Nat) (v : Option Value) (h : Heap) (L : List Loc) : Prop := v = some (.int (0 : Int32)) ∧ Fr n0 L ∧ h = h0
theorem rmmax0 (l : Launch) (Z : State) (a0 : Array Value) (hw : own_tb a0 Z) (ws : List Jvm.Cond)  (h0 : Heap) (n0 : Nat) (Z0 : n0 ≤ h0.size) :
    OwnMet l (⟨"java/lang/Math", "max", "(II)I"⟩ : MethodName) jdk_29_method_65_code 2 (some .int) ws ({ frames := 0, cells := 0, slots := 0, locals := 0 } : Room) #[(.int (0 : Int32)), (.int (0 : Int32))] Z h0 (Qmax0 Z  h0 n0) := by
  refine own_met pf_17 ?_
  intro p e s m below meth c s₁ X0 hx hby hml hret hlk hown hnm hZ e0
  have N0 := Fr.nil n0
  have Z_ := Z0
  refine OwnGo.cast (ef_max0 m (0 : Int32) (0 : Int32)) ?_
  show OwnGo p e below s _ _ _ s₁ (mkF m 0 _ [])
  refine .iloadN X0 hx (hb hby d17_0) rfl ?_
  refine .iloadN X0 hx (hb hby d17_1) rfl ?_
  refine .icmpNo X0 hx (hb hby d17_2) (flt ((by decide) : ¬ ((0 : Int32) < (0 : Int32)))).1 ?_
  refine .iloadN X0 hx (hb hby d17_5) rfl ?_
  refine .goto (pc := 6) X0 hx 10 (hb hby d17_6) (by decide) (by decide) ?_
  exact OwnGo.ret X0 hx hret hlk rfl (Or.inl ⟨rfl, Or.inl rfl, _, rfl⟩) (hb hby d17_10) (by show Qmax0 Z  h0 n0 _ s₁.heap _; rw [e0]; exact ⟨rfl, N0, rfl⟩) (by decide) (by decide)
def QminZ (Z : State) (z : Int32) (h0 : Heap) (n0 : Nat) (v : Option Value) (h : Heap) (L : List Loc) : Prop := v = some (.int z) ∧ Fr n0 L ∧ h = h0
theorem rmminZ (l : Launch) (Z : State) (a0 : Array Value) (hw : own_tb a0 Z) (ws : List Jvm.Cond) (z : Int32) (h0 : Heap) (n0 : Nat) (Z0 : n0 ≤ h0.size) (hz : ¬ z < z) :
    OwnMet l (⟨"java/lang/Math", "min", "(II)I"⟩ : MethodName) jdk_29_method_69_code 2 (some .int) ws ({ frames := 0, cells := 0, slots := 0, locals := 0 } : Room) #[(.int z), (.int z)] Z h0 (QminZ Z z h0 n0) := by
  refine own_met pf_18 ?_
  intro p e s m below meth c s₁ X0 hx hby hml hret hlk hown hnm hZ e0
  have N0 := Fr.nil n0
  have Z_ := Z0
  refine OwnGo.cast (ef_minZ m z z) ?_
  show OwnGo p e below s _ _ _ s₁ (mkF m 0 _ [])
  refine .iloadN X0 hx (hb hby d18_0) rfl ?_
  refine .iloadN X0 hx (hb hby d18_1) rfl ?_
  refine .icmpNo X0 hx (hb hby d18_2) (flt (hz : ¬ (z < z))).2.2.1 ?_
  refine .iloadN X0 hx (hb hby d18_5) rfl ?_
  refine .goto (pc := 6) X0 hx 10 (hb hby d18_6) (by decide) (by decide) ?_
  exact OwnGo.ret X0 hx hret hlk rfl (Or.inl ⟨rfl, Or.inl rfl, _, rfl⟩) (hb hby d18_10) (by show QminZ Z z h0 n0 _ s₁.heap _; rw [e0]; exact ⟨rfl, N0, rfl⟩) (by decide) (by decide)
def QcanI (Z : State)  (h0 : Heap) (n0 : Nat) (v : Option Value) (h : Heap) (L : List Loc) : Prop := v = some (.int (1 : Int32)) ∧ Fr n0 L ∧ h = h0
theorem rmcanI (l : Launch) (Z : State) (a0 : Array Value) (hw : own_tb a0 Z) (ws : List Jvm.Cond)  (h0 : Heap) (n0 : Nat) (Z0 : n0 ≤ h0.size) :
    OwnMet l (⟨"java/lang/StringLatin1", "canEncode", "(I)Z"⟩ : MethodName) jdk_43_method_4_code 1 (some .boolean) ws ({ frames := 0, cells := 0, slots := 0, locals := 0 } : Room) #[(.int (32 : Int32))] Z h0 (QcanI Z  h0 n0) := by
  refine own_met (plainFor_of_name pn_33) ?_
  intro p e s m below meth c s₁ X0 hx hby hml hret hlk hown hnm hZ e0
  have N0 := Fr.nil n0
  have Z_ := Z0
  refine OwnGo.cast (ef_canI m (32 : Int32)) ?_
  show OwnGo p e below s _ _ _ s₁ (mkF m 0 _ [])
  refine .iloadN X0 hx (hb hby d16_0) rfl ?_
  refine .ifNo X0 hx (hb hby d16_1) ((if0 _ _).trans (flt ((by decide) : ¬ ((32 : Int32) < (0 : Int32)))).1) ?_
  refine .iloadN X0 hx (hb hby d16_4) rfl ?_
  refine .sipush X0 hx (hb hby d16_5) own_ks255 ?_
  refine .icmpNo X0 hx (hb hby d16_8) (flt ((by decide) : ¬ ((255 : Int32) < (32 : Int32)))).2.2.1 ?_
  refine .iconst X0 hx (hb hby d16_11) own_ki1 ?_
  refine .goto (pc := 12) X0 hx 16 (hb hby d16_12) (by decide) (by decide) ?_
  exact OwnGo.retN X0 hx (t := .boolean) hret hlk (by simp) (hb hby d16_16) (by show QcanI Z  h0 n0 _ s₁.heap _; rw [e0]; exact ⟨rfl, N0, rfl⟩) (by decide) (by decide)
def Qulen (Z : State) (t : Addr) (kb : ClassId) (vs : List Value) (y : Int32) (z : Int32) (h0 : Heap) (n0 : Nat) (v : Option Value) (h : Heap) (L : List Loc) : Prop := v = some (.int z) ∧ Fr n0 L ∧ h = h0
theorem rmulen (l : Launch) (Z : State) (a0 : Array Value) (hw : own_tb a0 Z) (ws : List Jvm.Cond) (t : Addr) (kb : ClassId) (vs : List Value) (y : Int32) (z : Int32) (h0 : Heap) (n0 : Nat) (Z0 : n0 ≤ h0.size) (V_t : Arv Z h0 t kb .byte y vs (.int (0 : Int32))) (hy : (y >>> ((1 : Int32) &&& 31)) = z) :
    OwnMet l (⟨"java/lang/StringUTF16", "length", "([B)I"⟩ : MethodName) jdk_52_method_6_code 1 (some .int) ws ({ frames := 0, cells := 0, slots := 0, locals := 0 } : Room) #[(.ref t)] Z h0 (Qulen Z t kb vs y z h0 n0) := by
  refine own_met (plainFor_of_name pn_23) ?_
  intro p e s m below meth c s₁ X0 hx hby hml hret hlk hown hnm hZ e0
  have N0 := Fr.nil n0
  have Z_ := Z0
  refine OwnGo.cast (ef_ulen m t) ?_
  show OwnGo p e below s _ _ _ s₁ (mkF m 0 _ [])
  refine .aloadN X0 hx (hb hby d28_0) rfl rfl ?_
  obtain ⟨cl234, Ar234, -, S234, N234, -, -⟩ := id V_t
  refine .st (fun _ => own_len hZ (len_of S234 N234) Ar234 X0 e0 hx (g := (mkF m 1 #[.val (.ref t)] [(.ref t)])) rfl rfl (hb hby d28_1) _) ?_
  show OwnGo p e below s _ _ _ s₁ (mkF m 2 _ [(.int y)])
  refine .iconst X0 hx (hb hby d28_2) own_ki1 ?_
  refine .st (fun _ => XS.ishr X0.here hx rfl (hb hby d28_3) rfl) ?_
  show OwnGo p e below s _ _ _ s₁ (mkF m 4 _ [(.int (y >>> ((1 : Int32) &&& 31)))])
  rw [hy]
  show OwnGo p e below s _ _ _ s₁ (mkF m 4 _ [(.int z)])
  exact OwnGo.ret X0 hx hret hlk rfl (Or.inl ⟨rfl, Or.inl rfl, _, rfl⟩) (hb hby d28_4) (by show Qulen Z t kb vs y z h0 n0 _ s₁.heap _; rw [e0]; exact ⟨rfl, N0, rfl⟩) (by decide) (by decide)
def Qcft (Z : State) (f : Value) (z : Int32) (h0 : Heap) (n0 : Nat) (v : Option Value) (h : Heap) (L : List Loc) : Prop := v = some (.int (0 : Int32)) ∧ Fr n0 L ∧ h = h0
theorem rmcft (l : Launch) (Z : State) (a0 : Array Value) (hw : own_tb a0 Z) (ws : List Jvm.Cond) (f : Value) (z : Int32) (h0 : Heap) (n0 : Nat) (Z0 : n0 ≤ h0.size) (rf_f : f.isRef = true) (h1 : ¬ z < (0 : Int32)) (h2 : ¬ z < z) :
    OwnMet l (⟨"jdk/internal/util/Preconditions", "checkFromToIndex", "(IIILjava/util/function/BiFunction;)I"⟩ : MethodName) jdk_41_method_12_code 4 (some .int) ws ({ frames := 0, cells := 0, slots := 0, locals := 0 } : Room) #[(.int (0 : Int32)), (.int z), (.int z), f] Z h0 (Qcft Z f z h0 n0) := by
  refine own_met (plainFor_of_name pn_30) ?_
  intro p e s m below meth c s₁ X0 hx hby hml hret hlk hown hnm hZ e0
  have N0 := Fr.nil n0
  have Z_ := Z0
  refine OwnGo.cast (ef_cft m (0 : Int32) z z f (own_cat rf_f)) ?_
  show OwnGo p e below s _ _ _ s₁ (mkF m 0 _ [])
  refine .iloadN X0 hx (hb hby d30_0) rfl ?_
  refine .ifNo X0 hx (hb hby d30_1) ((if0 _ _).trans (flt ((by decide) : ¬ ((0 : Int32) < (0 : Int32)))).1) ?_
  refine .iloadN X0 hx (hb hby d30_4) rfl ?_
  refine .iloadN X0 hx (hb hby d30_5) rfl ?_
  refine .icmpNo X0 hx (hb hby d30_6) (flt (h1 : ¬ (z < (0 : Int32)))).2.2.1 ?_
  refine .iloadN X0 hx (hb hby d30_9) rfl ?_
  refine .iloadN X0 hx (hb hby d30_10) rfl ?_
  refine .icmpYes (pc := 11) X0 hx 22 (hb hby d30_11) (flt (h2 : ¬ (z < z))).2.2.2 (by decide) (by decide) ?_
  refine .iloadN X0 hx (hb hby d30_22) rfl ?_
  exact OwnGo.ret X0 hx hret hlk rfl (Or.inl ⟨rfl, Or.inl rfl, _, rfl⟩) (hb hby d30_23) (by show Qcft Z f z h0 n0 _ s₁.heap _; rw [e0]; exact ⟨rfl, N0, rfl⟩) (by decide) (by decide)
def Qcbe (Z : State) (z : Int32) (fmv : Value) (h0 : Heap) (n0 : Nat) (v : Option Value) (h : Heap) (L : List Loc) : Prop := v = none ∧ Fr n0 L ∧ h = h0
theorem rmcbe (l : Launch) (Z : State) (a0 : Array Value) (hw : own_tb a0 Z) (ws : List Jvm.Cond) (z : Int32) (fmv : Value) (h0 : Heap) (n0 : Nat) (Z0 : n0 ≤ h0.size) (O_ : Old Z n0 h0) (S_SF : Sta Z Z.heap "jdk/internal/util/Preconditions" "SIOOBE_FORMATTER" "Ljava/util/function/BiFunction;" fmv) (rf_fmv : fmv.isRef = true) (h1 : ¬ z < (0 : Int32)) (h2 : ¬ z < z) :
    OwnMet l (⟨"java/lang/String", "checkBoundsBeginEnd", "(III)V"⟩ : MethodName) jdk_42_method_158_code 3 none ws ({ frames := 1, cells := 0, slots := 0, locals := 15 } : Room) #[(.int (0 : Int32)), (.int z), (.int z)] Z h0 (Qcbe Z z fmv h0 n0) := by
  refine own_met (plainFor_of_name pn_6) ?_
  intro p e s m below meth c s₁ X0 hx hby hml hret hlk hown hnm hZ e0
  have N0 := Fr.nil n0
  have Z_ := Z0
  refine OwnGo.cast (ef_cbe m (0 : Int32) z z) ?_
  show OwnGo p e below s _ _ _ s₁ (mkF m 0 _ [])
  refine .iloadN X0 hx (hb hby d29_0) rfl ?_
  refine .iloadN X0 hx (hb hby d29_1) rfl ?_
  refine .iloadN X0 hx (hb hby d29_2) rfl ?_
  obtain ⟨T235, X235, e235, st235⟩ := getS2 X0 hx hZ hown (host := "") (Or.inl (W_ hw 127 rfl)) Via.refl e0 (S_SF.ext O_.2) (g := (mkF m 3 #[.val (.int (0 : Int32)), .val (.int z), .val (.int z)] [(.int z), (.int z), (.int (0 : Int32))])) rfl (hb hby d29_3)
  refine .st st235 ?_
  show OwnGo p e below s _ _ _ T235 (mkF m 6 _ [fmv, (.int z), (.int z), (.int (0 : Int32))])
  obtain ⟨_, _, ⟨T236, L236, k236, n236⟩, -, X236, ⟨Lc236, hQ236, l236, y236, z236⟩, st236⟩ := Jvm.LawKit.callS X235 hx (y := (⟨"jdk/internal/util/Preconditions", "checkFromToIndex", "(IIILjava/util/function/BiFunction;)I"⟩ : MethodName)) hown (mvT hZ (W_ hw 129 rfl)) (mvT hZ (W_ hw 130 rfl)) (mvT hZ (W_ hw 128 rfl)) (mvT hZ (W_ hw 131 rfl)) (by decide) (backOf (W := 0) (rmcft l Z a0 hw [] fmv z h0 n0 Z_ rf_fmv h1 h2) hZ (W_ hw 131 rfl) (W_ hw 128 rfl) (by decide) (by decide)) (g := (mkF m 6 #[.val (.int (0 : Int32)), .val (.int z), .val (.int z)] [fmv, (.int z), (.int z), (.int (0 : Int32))])) rfl (by rw [hml]; rfl) (argsL := [(.int (0 : Int32)), (.int z), (.int z), fmv]) (rest := []) (lenOf pd_14 rfl) rfl (Nat.le_of_eq rfl) (hb hby d29_6) (fun _ _ => ⟨rfl, e235, (by decide : 0 + 0 ≤ _), (by decide : 0 + 0 ≤ _)⟩)
  dsimp only [Pt.U, Pt.locs, Pt.cells, Pt.slots] at X236 l236 y236 z236 st236 hQ236
  subst l236 y236 z236
  obtain ⟨rfl, N236q, e236⟩ := hQ236
  have N236 := Fr.app N0 N236q
  refine .st st236 ?_
  show OwnGo p e below s _ _ _ T236 (mkF m 9 _ [(.int (0 : Int32))])
  refine .st (fun _ => XS.pop X236.here hx rfl (hb hby d29_9) rfl rfl) ?_
  show OwnGo p e below s _ _ _ T236 (mkF m 10 _ [])
  exact OwnGo.retV X236 hx hret hlk (hb hby d29_10) (by show Qcbe Z z fmv h0 n0 _ T236.heap _; rw [e236]; exact ⟨rfl, N236, rfl⟩) (by decide) (by decide)
def Qcub (Z : State) (t : Addr) (kb : ClassId) (vs : List Value) (y : Int32) (z : Int32) (fmv : Value) (h0 : Heap) (n0 : Nat) (v : Option Value) (h : Heap) (L : List Loc) : Prop := v = none ∧ Fr n0 L ∧ h = h0
theorem rmcub (l : Launch) (Z : State) (a0 : Array Value) (hw : own_tb a0 Z) (ws : List Jvm.Cond) (t : Addr) (kb : ClassId) (vs : List Value) (y : Int32) (z : Int32) (fmv : Value) (h0 : Heap) (n0 : Nat) (Z0 : n0 ≤ h0.size) (O_ : Old Z n0 h0) (S_SF : Sta Z Z.heap "jdk/internal/util/Preconditions" "SIOOBE_FORMATTER" "Ljava/util/function/BiFunction;" fmv) (rf_fmv : fmv.isRef = true) (V_t : Arv Z h0 t kb .byte y vs (.int (0 : Int32))) (hy : (y >>> ((1 : Int32) &&& 31)) = z) (h1 : ¬ z < (0 : Int32)) (h2 : ¬ z < z) :
    OwnMet l (⟨"java/lang/StringUTF16", "checkBoundsBeginEnd", "(II[B)V"⟩ : MethodName) jdk_52_method_93_code 3 none ws ({ frames := 2, cells := 0, slots := 0, locals := 29 } : Room) #[(.int (0 : Int32)), (.int z), (.ref t)] Z h0 (Qcub Z t kb vs y z fmv h0 n0) := by
  refine own_met (plainFor_of_name pn_23) ?_
  intro p e s m below meth c s₁ X0 hx hby hml hret hlk hown hnm hZ e0
  have N0 := Fr.nil n0
  have Z_ := Z0
  refine OwnGo.cast (ef_cub m (0 : Int32) z t) ?_
  show OwnGo p e below s _ _ _ s₁ (mkF m 0 _ [])
  refine .iloadN X0 hx (hb hby d27_0) rfl ?_
  refine .iloadN X0 hx (hb hby d27_1) rfl ?_
  refine .aloadN X0 hx (hb hby d27_2) rfl rfl ?_
  obtain ⟨_, _, ⟨T237, L237, k237, n237⟩, -, X237, ⟨Lc237, hQ237, l237, y237, z237⟩, st237⟩ := Jvm.LawKit.callS X0 hx (y := (⟨"java/lang/StringUTF16", "length", "([B)I"⟩ : MethodName)) hown (mvT hZ (W_ hw 121 rfl)) (mvT hZ (W_ hw 122 rfl)) (mvT hZ (W_ hw 49 rfl)) (mvT hZ (W_ hw 123 rfl)) (by decide) (backOf (W := 2) (rmulen l Z a0 hw [] t kb vs y z h0 n0 Z_ V_t hy) hZ (W_ hw 123 rfl) (W_ hw 49 rfl) (by decide) (by decide)) (g := (mkF m 3 #[.val (.int (0 : Int32)), .val (.int z), .val (.ref t)] [(.ref t), (.int z), (.int (0 : Int32))])) rfl (by rw [hml]; rfl) (argsL := [(.ref t)]) (rest := [(.int z), (.int (0 : Int32))]) (lenOf pd_15 rfl) rfl (Nat.le_of_eq rfl) (hb hby d27_3) (fun _ _ => ⟨rfl, e0, (by decide : 0 + 0 ≤ _), (by decide : 0 + 0 ≤ _)⟩)
  dsimp only [Pt.U, Pt.locs, Pt.cells, Pt.slots] at X237 l237 y237 z237 st237 hQ237
  subst l237 y237 z237
  obtain ⟨rfl, N237q, e237⟩ := hQ237
  have N237 := Fr.app N0 N237q
  refine .st st237 ?_
  show OwnGo p e below s _ _ _ T237 (mkF m 6 _ [(.int z), (.int z), (.int (0 : Int32))])
  obtain ⟨_, _, ⟨T238, L238, k238, n238⟩, -, X238, ⟨Lc238, hQ238, l238, y238, z238⟩, st238⟩ := Jvm.LawKit.callS X237 hx (y := (⟨"java/lang/String", "checkBoundsBeginEnd", "(III)V"⟩ : MethodName)) hown (mvT hZ (W_ hw 124 rfl)) (mvT hZ (W_ hw 125 rfl)) (mvT hZ (W_ hw 7 rfl)) (mvT hZ (W_ hw 126 rfl)) (by decide) (backOf (W := 0) (rmcbe l Z a0 hw [] z fmv h0 n0 Z_ O_ S_SF rf_fmv h1 h2) hZ (W_ hw 126 rfl) (W_ hw 7 rfl) (by decide) (by decide)) (g := (mkF m 6 #[.val (.int (0 : Int32)), .val (.int z), .val (.ref t)] [(.int z), (.int z), (.int (0 : Int32))])) rfl (by rw [hml]; rfl) (argsL := [(.int (0 : Int32)), (.int z), (.int z)]) (rest := []) (lenOf pd_16 rfl) rfl (Nat.le_of_eq rfl) (hb hby d27_6) (fun _ _ => ⟨rfl, e237, (by decide : 0 + 0 ≤ _), (by decide : 0 + 0 ≤ _)⟩)
  dsimp only [Pt.U, Pt.locs, Pt.cells, Pt.slots] at X238 l238 y238 z238 st238 hQ238
  subst l238 y238 z238
  obtain ⟨rfl, N238q, e238⟩ := hQ238
  have N238 := Fr.app N237 N238q
  refine .st st238 ?_
  show OwnGo p e below s _ _ _ T238 (mkF m 9 _ [])
  exact OwnGo.retV X238 hx hret hlk (hb hby d27_9) (by show Qcub Z t kb vs y z fmv h0 n0 _ T238.heap _; rw [e238]; exact ⟨rfl, N238, rfl⟩) (by decide) (by decide)
def Qilc1 (Z : State) (t : Addr) (kb : ClassId) (c0 : Int32) (h0 : Heap) (n0 : Nat) (v : Option Value) (h : Heap) (L : List Loc) : Prop := ∃ r : Int32, v = some (.int r) ∧ Fr n0 L ∧ h = h0 ∧ ((r < (0 : Int32) ∧ ¬ (c0 = (32 : Int32))) ∨ (¬ r < (0 : Int32) ∧ (c0 = (32 : Int32))))
theorem rmilc1 (l : Launch) (Z : State) (a0 : Array Value) (hw : own_tb a0 Z) (ws : List Jvm.Cond) (t : Addr) (kb : ClassId) (c0 : Int32) (h0 : Heap) (n0 : Nat) (Z0 : n0 ≤ h0.size) (V_t : Arv Z h0 t kb .byte (1 : Int32) [(.int c0.toInt8.toInt32)] (.int (0 : Int32))) (hl : ¬ (255 : Int32) < c0) (P_c0 : own_u c0) :
    OwnMet l (⟨"java/lang/StringLatin1", "indexOfChar", "([BIII)I"⟩ : MethodName) jdk_43_method_23_code 6 (some .int) ws ({ frames := 0, cells := 0, slots := 0, locals := 0 } : Room) #[(.ref t), (.int (32 : Int32)), (.int (0 : Int32)), (.int (1 : Int32))] Z h0 (Qilc1 Z t kb c0 h0 n0) := by
  refine own_met (plainFor_of_name pn_33) ?_
  intro p e s m below meth c s₁ X0 hx hby hml hret hlk hown hnm hZ e0
  have N0 := Fr.nil n0
  have Z_ := Z0
  refine OwnGo.cast (ef_ilc1 m t (32 : Int32) (0 : Int32) (1 : Int32)) ?_
  show OwnGo p e below s _ _ _ s₁ (mkF m 0 _ [])
  refine .iloadN X0 hx (hb hby d19_0) rfl ?_
  refine .st (fun _ => XS.i2b X0.here hx rfl (hb hby d19_1) rfl) ?_
  show OwnGo p e below s _ _ _ s₁ (mkF m 2 _ [(.int ((32 : Int32).toInt8.toInt32))])
  rw [show ((32 : Int32).toInt8.toInt32) = (32 : Int32) from by decide]
  show OwnGo p e below s _ _ _ s₁ (mkF m 2 _ [(.int (32 : Int32))])
  refine .istore X0 hx (hb hby d19_2) (L' := #[.val (.ref t), .val (.int (32 : Int32)), .val (.int (0 : Int32)), .val (.int (1 : Int32)), .val (.int (32 : Int32)), .unset]) rfl ?_
  refine .iloadN X0 hx (hb hby d19_4) rfl ?_
  refine .istore X0 hx (hb hby d19_5) (L' := #[.val (.ref t), .val (.int (32 : Int32)), .val (.int (0 : Int32)), .val (.int (1 : Int32)), .val (.int (32 : Int32)), .val (.int (0 : Int32))]) rfl ?_
  refine .iload X0 hx (hb hby d19_7) rfl ?_
  refine .iloadN X0 hx (hb hby d19_9) rfl ?_
  refine .icmpNo X0 hx (hb hby d19_10) (tlt ((by decide) : (0 : Int32) < (1 : Int32))).2.1 ?_
  refine .aloadN X0 hx (hb hby d19_13) rfl rfl ?_
  refine .iload X0 hx (hb hby d19_14) rfl ?_
  obtain ⟨cl239, Ar239, -, S239, -, H239, -⟩ := id V_t
  have hin239 : ¬ ((0 : Int32) < 0 ∨ cl239.slots.size ≤ ((0 : Int32)).toNatClampNeg) := inb_of S239 ⟨by decide, by decide⟩
  refine .st (fun _ => X0.baloadBytes hx (j := (0 : Int32)) (v := (.int c0.toInt8.toInt32)) (by first | exact Ar239.1 | (rw [e0]; exact Ar239.1)) (State.isArrayOf_alike hZ.alike Ar239.2.1) Ar239.2.2 hin239 (H239.at hin239 rfl) (g := (mkF m 16 #[.val (.ref t), .val (.int (32 : Int32)), .val (.int (0 : Int32)), .val (.int (1 : Int32)), .val (.int (32 : Int32)), .val (.int (0 : Int32))] [(.int (0 : Int32)), (.ref t)])) rfl rfl (hb hby d19_16) _) ?_
  show OwnGo p e below s _ _ _ s₁ (mkF m 17 _ [(.int c0.toInt8.toInt32)])
  refine .iload X0 hx (hb hby d19_17) rfl ?_
  have b0 := own_b32 P_c0 hl
  by_cases q0 : c0.toInt8.toInt32 = (32 : Int32)
  · refine .icmpNo X0 hx (hb hby d19_19) (teq (q0 : c0.toInt8.toInt32 = (32 : Int32))).2 ?_
    refine .iload X0 hx (hb hby d19_22) rfl ?_
    exact OwnGo.ret X0 hx hret hlk rfl (Or.inl ⟨rfl, Or.inl rfl, _, rfl⟩) (hb hby d19_24) (by show Qilc1 Z t kb c0 h0 n0 _ s₁.heap _; rw [e0]; exact ⟨_, rfl, N0, rfl, Or.inr ⟨by decide, (b0.1 q0)⟩⟩) (by decide) (by decide)
  · refine .icmpYes (pc := 19) X0 hx 25 (hb hby d19_19) (feq (q0 : ¬ (c0.toInt8.toInt32 = (32 : Int32)))).2 (by decide) (by decide) ?_
    refine .iinc X0 hx (hb hby d19_25) rfl own_ka0_1 (L' := #[.val (.ref t), .val (.int (32 : Int32)), .val (.int (0 : Int32)), .val (.int (1 : Int32)), .val (.int (32 : Int32)), .val (.int (1 : Int32))]) rfl ?_
    refine .goto (pc := 28) X0 hx 7 (hb hby d19_28) (by decide) (by decide) ?_
    refine .iload X0 hx (hb hby d19_7) rfl ?_
    refine .iloadN X0 hx (hb hby d19_9) rfl ?_
    refine .icmpYes (pc := 10) X0 hx 31 (hb hby d19_10) (flt ((by decide) : ¬ ((1 : Int32) < (1 : Int32)))).2.1 (by decide) (by decide) ?_
    refine .iconst X0 hx (hb hby d19_31) own_kim1 ?_
    exact OwnGo.ret X0 hx hret hlk rfl (Or.inl ⟨rfl, Or.inl rfl, _, rfl⟩) (hb hby d19_32) (by show Qilc1 Z t kb c0 h0 n0 _ s₁.heap _; rw [e0]; exact ⟨_, rfl, N0, rfl, Or.inl ⟨by decide, (fun z => q0 (b0.2 z))⟩⟩) (by decide) (by decide)
def QiL1 (Z : State) (t : Addr) (kb : ClassId) (c0 : Int32) (h0 : Heap) (n0 : Nat) (v : Option Value) (h : Heap) (L : List Loc) : Prop := ∃ r : Int32, v = some (.int r) ∧ Fr n0 L ∧ h = h0 ∧ ((r < (0 : Int32) ∧ ¬ (c0 = (32 : Int32))) ∨ (¬ r < (0 : Int32) ∧ (c0 = (32 : Int32))))
theorem rmiL1 (l : Launch) (Z : State) (a0 : Array Value) (hw : own_tb a0 Z) (ws : List Jvm.Cond) (t : Addr) (kb : ClassId) (c0 : Int32) (h0 : Heap) (n0 : Nat) (Z0 : n0 ≤ h0.size) (V_t : Arv Z h0 t kb .byte (1 : Int32) [(.int c0.toInt8.toInt32)] (.int (0 : Int32))) (hl : ¬ (255 : Int32) < c0) (P_c0 : own_u c0) :
    OwnMet l (⟨"java/lang/StringLatin1", "indexOf", "([BIII)I"⟩ : MethodName) jdk_43_method_22_code 4 (some .int) ws ({ frames := 1, cells := 0, slots := 0, locals := 17 } : Room) #[(.ref t), (.int (32 : Int32)), (.int (0 : Int32)), (.int (1 : Int32))] Z h0 (QiL1 Z t kb c0 h0 n0) := by
  refine own_met (plainFor_of_name pn_33) ?_
  intro p e s m below meth c s₁ X0 hx hby hml hret hlk hown hnm hZ e0
  have N0 := Fr.nil n0
  have Z_ := Z0
  refine OwnGo.cast (ef_iL1 m t (32 : Int32) (0 : Int32) (1 : Int32)) ?_
  show OwnGo p e below s _ _ _ s₁ (mkF m 0 _ [])
  refine .iloadN X0 hx (hb hby d15_0) rfl ?_
  obtain ⟨_, _, ⟨T240, L240, k240, n240⟩, -, X240, ⟨Lc240, hQ240, l240, y240, z240⟩, st240⟩ := Jvm.LawKit.callS X0 hx (y := (⟨"java/lang/StringLatin1", "canEncode", "(I)Z"⟩ : MethodName)) hown (mvT hZ (W_ hw 77 rfl)) (mvT hZ (W_ hw 78 rfl)) (mvT hZ (W_ hw 75 rfl)) (mvT hZ (W_ hw 79 rfl)) (by decide) (backOf (W := 0) (rmcanI l Z a0 hw []  h0 n0 Z_ ) hZ (W_ hw 79 rfl) (W_ hw 75 rfl) (by decide) (by decide)) (g := (mkF m 1 #[.val (.ref t), .val (.int (32 : Int32)), .val (.int (0 : Int32)), .val (.int (1 : Int32))] [(.int (32 : Int32))])) rfl (by rw [hml]; rfl) (argsL := [(.int (32 : Int32))]) (rest := []) (lenOf pd_17 rfl) rfl (Nat.le_of_eq rfl) (hb hby d15_1) (fun _ _ => ⟨rfl, e0, (by decide : 0 + 0 ≤ _), (by decide : 0 + 0 ≤ _)⟩)
  dsimp only [Pt.U, Pt.locs, Pt.cells, Pt.slots] at X240 l240 y240 z240 st240 hQ240
  subst l240 y240 z240
  obtain ⟨rfl, N240q, e240⟩ := hQ240
  have N240 := Fr.app N0 N240q
  refine .st st240 ?_
  show OwnGo p e below s _ _ _ T240 (mkF m 4 _ [(.int (1 : Int32))])
  refine .ifYes (pc := 4) X240 hx 9 (hb hby d15_4) ((if0 _ _).trans (feq ((by decide) : ¬ ((1 : Int32) = (0 : Int32)))).2) (by decide) (by decide) ?_
  refine .iloadN X240 hx (hb hby d15_9) rfl ?_
  refine .iconst X240 hx (hb hby d15_10) own_ki0 ?_
  obtain ⟨_, _, ⟨T241, L241, k241, n241⟩, -, X241, ⟨Lc241, hQ241, l241, y241, z241⟩, st241⟩ := Jvm.LawKit.callS X240 hx (y := (⟨"java/lang/Math", "max", "(II)I"⟩ : MethodName)) hown (mvT hZ (W_ hw 80 rfl)) (mvT hZ (W_ hw 81 rfl)) (mvT hZ (W_ hw 82 rfl)) (mvT hZ (W_ hw 83 rfl)) (by decide) (backOf (W := 0) (rmmax0 l Z a0 hw []  h0 n0 Z_ ) hZ (W_ hw 83 rfl) (W_ hw 82 rfl) (by decide) (by decide)) (g := (mkF m 11 #[.val (.ref t), .val (.int (32 : Int32)), .val (.int (0 : Int32)), .val (.int (1 : Int32))] [(.int (0 : Int32)), (.int (0 : Int32))])) rfl (by rw [hml]; rfl) (argsL := [(.int (0 : Int32)), (.int (0 : Int32))]) (rest := []) (lenOf pd_18 rfl) rfl (Nat.le_of_eq rfl) (hb hby d15_11) (fun _ _ => ⟨rfl, e240, (by decide : 0 + 0 ≤ _), (by decide : 0 + 0 ≤ _)⟩)
  dsimp only [Pt.U, Pt.locs, Pt.cells, Pt.slots] at X241 l241 y241 z241 st241 hQ241
  subst l241 y241 z241
  obtain ⟨rfl, N241q, e241⟩ := hQ241
  have N241 := Fr.app N240 N241q
  refine .st st241 ?_
  show OwnGo p e below s _ _ _ T241 (mkF m 14 _ [(.int (0 : Int32))])
  refine .istoreN X241 hx (hb hby d15_14) (L' := #[.val (.ref t), .val (.int (32 : Int32)), .val (.int (0 : Int32)), .val (.int (1 : Int32))]) rfl ?_
  refine .iloadN X241 hx (hb hby d15_15) rfl ?_
  refine .aloadN X241 hx (hb hby d15_16) rfl rfl ?_
  obtain ⟨cl242, Ar242, -, S242, N242, -, -⟩ := id V_t
  refine .st (fun _ => own_len hZ (len_of S242 N242) Ar242 X241 e241 hx (g := (mkF m 17 #[.val (.ref t), .val (.int (32 : Int32)), .val (.int (0 : Int32)), .val (.int (1 : Int32))] [(.ref t), (.int (1 : Int32))])) rfl rfl (hb hby d15_17) _) ?_
  show OwnGo p e below s _ _ _ T241 (mkF m 18 _ [(.int (1 : Int32)), (.int (1 : Int32))])
  obtain ⟨_, _, ⟨T243, L243, k243, n243⟩, -, X243, ⟨Lc243, hQ243, l243, y243, z243⟩, st243⟩ := Jvm.LawKit.callS X241 hx (y := (⟨"java/lang/Math", "min", "(II)I"⟩ : MethodName)) hown (mvT hZ (W_ hw 84 rfl)) (mvT hZ (W_ hw 85 rfl)) (mvT hZ (W_ hw 82 rfl)) (mvT hZ (W_ hw 86 rfl)) (by decide) (backOf (W := 0) (rmminZ l Z a0 hw [] (1 : Int32) h0 n0 Z_ (by decide)) hZ (W_ hw 86 rfl) (W_ hw 82 rfl) (by decide) (by decide)) (g := (mkF m 18 #[.val (.ref t), .val (.int (32 : Int32)), .val (.int (0 : Int32)), .val (.int (1 : Int32))] [(.int (1 : Int32)), (.int (1 : Int32))])) rfl (by rw [hml]; rfl) (argsL := [(.int (1 : Int32)), (.int (1 : Int32))]) (rest := []) (lenOf pd_18 rfl) rfl (Nat.le_of_eq rfl) (hb hby d15_18) (fun _ _ => ⟨rfl, e241, (by decide : 0 + 0 ≤ _), (by decide : 0 + 0 ≤ _)⟩)
  dsimp only [Pt.U, Pt.locs, Pt.cells, Pt.slots] at X243 l243 y243 z243 st243 hQ243
  subst l243 y243 z243
  obtain ⟨rfl, N243q, e243⟩ := hQ243
  have N243 := Fr.app N241 N243q
  refine .st st243 ?_
  show OwnGo p e below s _ _ _ T243 (mkF m 21 _ [(.int (1 : Int32))])
  refine .istoreN X243 hx (hb hby d15_21) (L' := #[.val (.ref t), .val (.int (32 : Int32)), .val (.int (0 : Int32)), .val (.int (1 : Int32))]) rfl ?_
  refine .iloadN X243 hx (hb hby d15_22) rfl ?_
  refine .iloadN X243 hx (hb hby d15_23) rfl ?_
  refine .icmpYes (pc := 24) X243 hx 29 (hb hby d15_24) (tlt ((by decide) : (0 : Int32) < (1 : Int32))).1 (by decide) (by decide) ?_
  refine .aloadN X243 hx (hb hby d15_29) rfl rfl ?_
  refine .iloadN X243 hx (hb hby d15_30) rfl ?_
  refine .iloadN X243 hx (hb hby d15_31) rfl ?_
  refine .iloadN X243 hx (hb hby d15_32) rfl ?_
  obtain ⟨_, _, ⟨T244, L244, k244, n244⟩, -, X244, ⟨Lc244, hQ244, l244, y244, z244⟩, st244⟩ := Jvm.LawKit.callS X243 hx (y := (⟨"java/lang/StringLatin1", "indexOfChar", "([BIII)I"⟩ : MethodName)) hown (mvT hZ (W_ hw 87 rfl)) (mvT hZ (W_ hw 88 rfl)) (mvT hZ (W_ hw 75 rfl)) (mvT hZ (W_ hw 89 rfl)) (by decide) (backOf (W := 0) (rmilc1 l Z a0 hw [] t kb c0 h0 n0 Z_ V_t hl P_c0) hZ (W_ hw 89 rfl) (W_ hw 75 rfl) (by decide) (by decide)) (g := (mkF m 33 #[.val (.ref t), .val (.int (32 : Int32)), .val (.int (0 : Int32)), .val (.int (1 : Int32))] [(.int (1 : Int32)), (.int (0 : Int32)), (.int (32 : Int32)), (.ref t)])) rfl (by rw [hml]; rfl) (argsL := [(.ref t), (.int (32 : Int32)), (.int (0 : Int32)), (.int (1 : Int32))]) (rest := []) (lenOf pd_19 rfl) rfl (Nat.le_of_eq rfl) (hb hby d15_33) (fun _ _ => ⟨rfl, e243, (by decide : 0 + 0 ≤ _), (by decide : 0 + 0 ≤ _)⟩)
  dsimp only [Pt.U, Pt.locs, Pt.cells, Pt.slots] at X244 l244 y244 z244 st244 hQ244
  subst l244 y244 z244
  obtain ⟨r244, rfl, N244q, e244, hr244⟩ := hQ244
  have N244 := Fr.app N243 N244q
  refine .st st244 ?_
  show OwnGo p e below s _ _ _ T244 (mkF m 36 _ [(.int r244)])
  exact OwnGo.ret X244 hx hret hlk rfl (Or.inl ⟨rfl, Or.inl rfl, _, rfl⟩) (hb hby d15_36) (by show QiL1 Z t kb c0 h0 n0 _ T244.heap _; rw [e244]; exact ⟨_, rfl, N244, rfl, hr244⟩) (by decide) (by decide)
def Qiuu1 (Z : State) (t : Addr) (kb : ClassId) (c0 : Int32) (h0 : Heap) (n0 : Nat) (v : Option Value) (h : Heap) (L : List Loc) : Prop := ∃ r : Int32, v = some (.int r) ∧ Fr n0 L ∧ h = h0 ∧ ((r < (0 : Int32) ∧ ¬ (c0 = (32 : Int32))) ∨ (¬ r < (0 : Int32) ∧ (c0 = (32 : Int32))))
theorem rmiuu1 (l : Launch) (Z : State) (a0 : Array Value) (hw : own_tb a0 Z) (ws : List Jvm.Cond) (t : Addr) (kb : ClassId) (c0 : Int32) (h0 : Heap) (n0 : Nat) (Z0 : n0 ≤ h0.size) (O_ : Old Z n0 h0) (S_AD : Sta Z Z.heap "java/lang/StringUTF16" "$assertionsDisabled" "Z" (.int (1 : Int32))) (S_HB : Sta Z Z.heap "java/lang/StringUTF16" "HI_BYTE_SHIFT" "I" (.int (0 : Int32))) (S_LB : Sta Z Z.heap "java/lang/StringUTF16" "LO_BYTE_SHIFT" "I" (.int (8 : Int32))) (V_t : Arv Z h0 t kb .byte (2 : Int32) [(.int (own_lo c0)), (.int (own_hi c0))] (.int (0 : Int32))) (P_c0 : own_u c0) :
    OwnMet l (⟨"java/lang/StringUTF16", "indexOfCharUnsafe", "([BIII)I"⟩ : MethodName) jdk_52_method_48_code 5 (some .int) ws ({ frames := 1, cells := 0, slots := 0, locals := 13 } : Room) #[(.ref t), (.int (32 : Int32)), (.int (0 : Int32)), (.int (1 : Int32))] Z h0 (Qiuu1 Z t kb c0 h0 n0) := by
  refine own_met (plainFor_of_name pn_23) ?_
  intro p e s m below meth c s₁ X0 hx hby hml hret hlk hown hnm hZ e0
  have N0 := Fr.nil n0
  have Z_ := Z0
  refine OwnGo.cast (ef_iuu1 m t (32 : Int32) (0 : Int32) (1 : Int32)) ?_
  show OwnGo p e below s _ _ _ s₁ (mkF m 0 _ [])
  refine .iloadN X0 hx (hb hby d31_0) rfl ?_
  refine .istore X0 hx (hb hby d31_1) (L' := #[.val (.ref t), .val (.int (32 : Int32)), .val (.int (0 : Int32)), .val (.int (1 : Int32)), .val (.int (0 : Int32))]) rfl ?_
  refine .iload X0 hx (hb hby d31_3) rfl ?_
  refine .iloadN X0 hx (hb hby d31_5) rfl ?_
  refine .icmpNo X0 hx (hb hby d31_6) (tlt ((by decide) : (0 : Int32) < (1 : Int32))).2.1 ?_
  refine .aloadN X0 hx (hb hby d31_9) rfl rfl ?_
  refine .iload X0 hx (hb hby d31_10) rfl ?_
  obtain ⟨_, _, ⟨T245, L245, k245, n245⟩, -, X245, ⟨Lc245, hQ245, l245, y245, z245⟩, st245⟩ := Jvm.LawKit.callS X0 hx (y := (⟨"java/lang/StringUTF16", "getChar", "([BI)C"⟩ : MethodName)) hown (mvT hZ (W_ hw 106 rfl)) (mvT hZ (W_ hw 107 rfl)) (mvT hZ (W_ hw 49 rfl)) (mvT hZ (W_ hw 108 rfl)) (by decide) (backOf (W := 0) (rmgetC0 l Z a0 hw [] t kb c0 (2 : Int32) [(.int (own_lo c0)), (.int (own_hi c0))] h0 n0 Z_ O_ S_AD S_HB S_LB V_t ⟨by decide, by decide⟩ ⟨by decide, by decide⟩ rfl rfl P_c0) hZ (W_ hw 108 rfl) (W_ hw 49 rfl) (by decide) (by decide)) (g := (mkF m 12 #[.val (.ref t), .val (.int (32 : Int32)), .val (.int (0 : Int32)), .val (.int (1 : Int32)), .val (.int (0 : Int32))] [(.int (0 : Int32)), (.ref t)])) rfl (by rw [hml]; rfl) (argsL := [(.ref t), (.int (0 : Int32))]) (rest := []) (lenOf pd_9 rfl) rfl (Nat.le_of_eq rfl) (hb hby d31_12) (fun _ _ => ⟨rfl, e0, (by decide : 0 + 0 ≤ _), (by decide : 0 + 0 ≤ _)⟩)
  dsimp only [Pt.U, Pt.locs, Pt.cells, Pt.slots] at X245 l245 y245 z245 st245 hQ245
  subst l245 y245 z245
  obtain ⟨rfl, N245q, e245⟩ := hQ245
  have N245 := Fr.app N0 N245q
  refine .st st245 ?_
  show OwnGo p e below s _ _ _ T245 (mkF m 15 _ [(.int c0)])
  refine .iloadN X245 hx (hb hby d31_15) rfl ?_
  by_cases q0 : c0 = (32 : Int32)
  · refine .icmpNo X245 hx (hb hby d31_16) (teq (q0 : c0 = (32 : Int32))).2 ?_
    refine .iload X245 hx (hb hby d31_19) rfl ?_
    exact OwnGo.ret X245 hx hret hlk rfl (Or.inl ⟨rfl, Or.inl rfl, _, rfl⟩) (hb hby d31_21) (by show Qiuu1 Z t kb c0 h0 n0 _ T245.heap _; rw [e245]; exact ⟨_, rfl, N245, rfl, Or.inr ⟨by decide, q0⟩⟩) (by decide) (by decide)
  · refine .icmpYes (pc := 16) X245 hx 22 (hb hby d31_16) (feq (q0 : ¬ (c0 = (32 : Int32)))).2 (by decide) (by decide) ?_
    refine .iinc X245 hx (hb hby d31_22) rfl own_ka0_1 (L' := #[.val (.ref t), .val (.int (32 : Int32)), .val (.int (0 : Int32)), .val (.int (1 : Int32)), .val (.int (1 : Int32))]) rfl ?_
    refine .goto (pc := 25) X245 hx 3 (hb hby d31_25) (by decide) (by decide) ?_
    refine .iload X245 hx (hb hby d31_3) rfl ?_
    refine .iloadN X245 hx (hb hby d31_5) rfl ?_
    refine .icmpYes (pc := 6) X245 hx 28 (hb hby d31_6) (flt ((by decide) : ¬ ((1 : Int32) < (1 : Int32)))).2.1 (by decide) (by decide) ?_
    refine .iconst X245 hx (hb hby d31_28) own_kim1 ?_
    exact OwnGo.ret X245 hx hret hlk rfl (Or.inl ⟨rfl, Or.inl rfl, _, rfl⟩) (hb hby d31_29) (by show Qiuu1 Z t kb c0 h0 n0 _ T245.heap _; rw [e245]; exact ⟨_, rfl, N245, rfl, Or.inl ⟨by decide, (q0)⟩⟩) (by decide) (by decide)
def Qiuc1 (Z : State) (t : Addr) (kb : ClassId) (c0 : Int32) (fmv : Value) (h0 : Heap) (n0 : Nat) (v : Option Value) (h : Heap) (L : List Loc) : Prop := ∃ r : Int32, v = some (.int r) ∧ Fr n0 L ∧ h = h0 ∧ ((r < (0 : Int32) ∧ ¬ (c0 = (32 : Int32))) ∨ (¬ r < (0 : Int32) ∧ (c0 = (32 : Int32))))
theorem rmiuc1 (l : Launch) (Z : State) (a0 : Array Value) (hw : own_tb a0 Z) (ws : List Jvm.Cond) (t : Addr) (kb : ClassId) (c0 : Int32) (fmv : Value) (h0 : Heap) (n0 : Nat) (Z0 : n0 ≤ h0.size) (O_ : Old Z n0 h0) (S_AD : Sta Z Z.heap "java/lang/StringUTF16" "$assertionsDisabled" "Z" (.int (1 : Int32))) (S_HB : Sta Z Z.heap "java/lang/StringUTF16" "HI_BYTE_SHIFT" "I" (.int (0 : Int32))) (S_LB : Sta Z Z.heap "java/lang/StringUTF16" "LO_BYTE_SHIFT" "I" (.int (8 : Int32))) (S_SF : Sta Z Z.heap "jdk/internal/util/Preconditions" "SIOOBE_FORMATTER" "Ljava/util/function/BiFunction;" fmv) (rf_fmv : fmv.isRef = true) (V_t : Arv Z h0 t kb .byte (2 : Int32) [(.int (own_lo c0)), (.int (own_hi c0))] (.int (0 : Int32))) (P_c0 : own_u c0) :
    OwnMet l (⟨"java/lang/StringUTF16", "indexOfChar", "([BIII)I"⟩ : MethodName) jdk_52_method_47_code 4 (some .int) ws ({ frames := 3, cells := 0, slots := 0, locals := 43 } : Room) #[(.ref t), (.int (32 : Int32)), (.int (0 : Int32)), (.int (1 : Int32))] Z h0 (Qiuc1 Z t kb c0 fmv h0 n0) := by
  refine own_met (plainFor_of_name pn_23) ?_
  intro p e s m below meth c s₁ X0 hx hby hml hret hlk hown hnm hZ e0
  have N0 := Fr.nil n0
  have Z_ := Z0
  refine OwnGo.cast (ef_iuc1 m t (32 : Int32) (0 : Int32) (1 : Int32)) ?_
  show OwnGo p e below s _ _ _ s₁ (mkF m 0 _ [])
  refine .iloadN X0 hx (hb hby d26_0) rfl ?_
  refine .iloadN X0 hx (hb hby d26_1) rfl ?_
  refine .aloadN X0 hx (hb hby d26_2) rfl rfl ?_
  obtain ⟨_, _, ⟨T246, L246, k246, n246⟩, -, X246, ⟨Lc246, hQ246, l246, y246, z246⟩, st246⟩ := Jvm.LawKit.callS X0 hx (y := (⟨"java/lang/StringUTF16", "checkBoundsBeginEnd", "(II[B)V"⟩ : MethodName)) hown (mvT hZ (W_ hw 118 rfl)) (mvT hZ (W_ hw 119 rfl)) (mvT hZ (W_ hw 49 rfl)) (mvT hZ (W_ hw 120 rfl)) (by decide) (backOf (W := 0) (rmcub l Z a0 hw [] t kb [(.int (own_lo c0)), (.int (own_hi c0))] (2 : Int32) (1 : Int32) fmv h0 n0 Z_ O_ S_SF rf_fmv V_t (by decide) (by decide) (by decide)) hZ (W_ hw 120 rfl) (W_ hw 49 rfl) (by decide) (by decide)) (g := (mkF m 3 #[.val (.ref t), .val (.int (32 : Int32)), .val (.int (0 : Int32)), .val (.int (1 : Int32))] [(.ref t), (.int (1 : Int32)), (.int (0 : Int32))])) rfl (by rw [hml]; rfl) (argsL := [(.int (0 : Int32)), (.int (1 : Int32)), (.ref t)]) (rest := []) (lenOf pd_20 rfl) rfl (Nat.le_of_eq rfl) (hb hby d26_3) (fun _ _ => ⟨rfl, e0, (by decide : 0 + 0 ≤ _), (by decide : 0 + 0 ≤ _)⟩)
  dsimp only [Pt.U, Pt.locs, Pt.cells, Pt.slots] at X246 l246 y246 z246 st246 hQ246
  subst l246 y246 z246
  obtain ⟨rfl, N246q, e246⟩ := hQ246
  have N246 := Fr.app N0 N246q
  refine .st st246 ?_
  show OwnGo p e below s _ _ _ T246 (mkF m 6 _ [])
  refine .aloadN X246 hx (hb hby d26_6) rfl rfl ?_
  refine .iloadN X246 hx (hb hby d26_7) rfl ?_
  refine .iloadN X246 hx (hb hby d26_8) rfl ?_
  refine .iloadN X246 hx (hb hby d26_9) rfl ?_
  obtain ⟨_, _, ⟨T247, L247, k247, n247⟩, -, X247, ⟨Lc247, hQ247, l247, y247, z247⟩, st247⟩ := Jvm.LawKit.callS X246 hx (y := (⟨"java/lang/StringUTF16", "indexOfCharUnsafe", "([BIII)I"⟩ : MethodName)) hown (mvT hZ (W_ hw 132 rfl)) (mvT hZ (W_ hw 133 rfl)) (mvT hZ (W_ hw 49 rfl)) (mvT hZ (W_ hw 134 rfl)) (by decide) (backOf (W := 0) (rmiuu1 l Z a0 hw [] t kb c0 h0 n0 Z_ O_ S_AD S_HB S_LB V_t P_c0) hZ (W_ hw 134 rfl) (W_ hw 49 rfl) (by decide) (by decide)) (g := (mkF m 10 #[.val (.ref t), .val (.int (32 : Int32)), .val (.int (0 : Int32)), .val (.int (1 : Int32))] [(.int (1 : Int32)), (.int (0 : Int32)), (.int (32 : Int32)), (.ref t)])) rfl (by rw [hml]; rfl) (argsL := [(.ref t), (.int (32 : Int32)), (.int (0 : Int32)), (.int (1 : Int32))]) (rest := []) (lenOf pd_19 rfl) rfl (Nat.le_of_eq rfl) (hb hby d26_10) (fun _ _ => ⟨rfl, e246, (by decide : 0 + 0 ≤ _), (by decide : 0 + 0 ≤ _)⟩)
  dsimp only [Pt.U, Pt.locs, Pt.cells, Pt.slots] at X247 l247 y247 z247 st247 hQ247
  subst l247 y247 z247
  obtain ⟨r247, rfl, N247q, e247, hr247⟩ := hQ247
  have N247 := Fr.app N246 N247q
  refine .st st247 ?_
  show OwnGo p e below s _ _ _ T247 (mkF m 13 _ [(.int r247)])
  exact OwnGo.ret X247 hx hret hlk rfl (Or.inl ⟨rfl, Or.inl rfl, _, rfl⟩) (hb hby d26_13) (by show Qiuc1 Z t kb c0 fmv h0 n0 _ T247.heap _; rw [e247]; exact ⟨_, rfl, N247, rfl, hr247⟩) (by decide) (by decide)
def QiU1 (Z : State) (t : Addr) (kb : ClassId) (c0 : Int32) (fmv : Value) (h0 : Heap) (n0 : Nat) (v : Option Value) (h : Heap) (L : List Loc) : Prop := ∃ r : Int32, v = some (.int r) ∧ Fr n0 L ∧ h = h0 ∧ ((r < (0 : Int32) ∧ ¬ (c0 = (32 : Int32))) ∨ (¬ r < (0 : Int32) ∧ (c0 = (32 : Int32))))
theorem rmiU1 (l : Launch) (Z : State) (a0 : Array Value) (hw : own_tb a0 Z) (ws : List Jvm.Cond) (t : Addr) (kb : ClassId) (c0 : Int32) (fmv : Value) (h0 : Heap) (n0 : Nat) (Z0 : n0 ≤ h0.size) (O_ : Old Z n0 h0) (S_AD : Sta Z Z.heap "java/lang/StringUTF16" "$assertionsDisabled" "Z" (.int (1 : Int32))) (S_HB : Sta Z Z.heap "java/lang/StringUTF16" "HI_BYTE_SHIFT" "I" (.int (0 : Int32))) (S_LB : Sta Z Z.heap "java/lang/StringUTF16" "LO_BYTE_SHIFT" "I" (.int (8 : Int32))) (S_SF : Sta Z Z.heap "jdk/internal/util/Preconditions" "SIOOBE_FORMATTER" "Ljava/util/function/BiFunction;" fmv) (rf_fmv : fmv.isRef = true) (V_t : Arv Z h0 t kb .byte (2 : Int32) [(.int (own_lo c0)), (.int (own_hi c0))] (.int (0 : Int32))) (P_c0 : own_u c0) :
    OwnMet l (⟨"java/lang/StringUTF16", "indexOf", "([BIII)I"⟩ : MethodName) jdk_52_method_40_code 4 (some .int) ws ({ frames := 4, cells := 0, slots := 0, locals := 58 } : Room) #[(.ref t), (.int (32 : Int32)), (.int (0 : Int32)), (.int (1 : Int32))] Z h0 (QiU1 Z t kb c0 fmv h0 n0) := by
  refine own_met (plainFor_of_name pn_23) ?_
  intro p e s m below meth c s₁ X0 hx hby hml hret hlk hown hnm hZ e0
  have N0 := Fr.nil n0
  have Z_ := Z0
  refine OwnGo.cast (ef_iU1 m t (32 : Int32) (0 : Int32) (1 : Int32)) ?_
  show OwnGo p e below s _ _ _ s₁ (mkF m 0 _ [])
  refine .iloadN X0 hx (hb hby d25_0) rfl ?_
  refine .iconst X0 hx (hb hby d25_1) own_ki0 ?_
  obtain ⟨_, _, ⟨T248, L248, k248, n248⟩, -, X248, ⟨Lc248, hQ248, l248, y248, z248⟩, st248⟩ := Jvm.LawKit.callS X0 hx (y := (⟨"java/lang/Math", "max", "(II)I"⟩ : MethodName)) hown (mvT hZ (W_ hw 112 rfl)) (mvT hZ (W_ hw 81 rfl)) (mvT hZ (W_ hw 82 rfl)) (mvT hZ (W_ hw 83 rfl)) (by decide) (backOf (W := 0) (rmmax0 l Z a0 hw []  h0 n0 Z_ ) hZ (W_ hw 83 rfl) (W_ hw 82 rfl) (by decide) (by decide)) (g := (mkF m 2 #[.val (.ref t), .val (.int (32 : Int32)), .val (.int (0 : Int32)), .val (.int (1 : Int32))] [(.int (0 : Int32)), (.int (0 : Int32))])) rfl (by rw [hml]; rfl) (argsL := [(.int (0 : Int32)), (.int (0 : Int32))]) (rest := []) (lenOf pd_18 rfl) rfl (Nat.le_of_eq rfl) (hb hby d25_2) (fun _ _ => ⟨rfl, e0, (by decide : 0 + 0 ≤ _), (by decide : 0 + 0 ≤ _)⟩)
  dsimp only [Pt.U, Pt.locs, Pt.cells, Pt.slots] at X248 l248 y248 z248 st248 hQ248
  subst l248 y248 z248
  obtain ⟨rfl, N248q, e248⟩ := hQ248
  have N248 := Fr.app N0 N248q
  refine .st st248 ?_
  show OwnGo p e below s _ _ _ T248 (mkF m 5 _ [(.int (0 : Int32))])
  refine .istoreN X248 hx (hb hby d25_5) (L' := #[.val (.ref t), .val (.int (32 : Int32)), .val (.int (0 : Int32)), .val (.int (1 : Int32))]) rfl ?_
  refine .iloadN X248 hx (hb hby d25_6) rfl ?_
  refine .aloadN X248 hx (hb hby d25_7) rfl rfl ?_
  obtain ⟨cl249, Ar249, -, S249, N249, -, -⟩ := id V_t
  refine .st (fun _ => own_len hZ (len_of S249 N249) Ar249 X248 e248 hx (g := (mkF m 8 #[.val (.ref t), .val (.int (32 : Int32)), .val (.int (0 : Int32)), .val (.int (1 : Int32))] [(.ref t), (.int (1 : Int32))])) rfl rfl (hb hby d25_8) _) ?_
  show OwnGo p e below s _ _ _ T248 (mkF m 9 _ [(.int (2 : Int32)), (.int (1 : Int32))])
  refine .iconst X248 hx (hb hby d25_9) own_ki1 ?_
  refine .st (fun _ => XS.ishr X248.here hx rfl (hb hby d25_10) rfl) ?_
  show OwnGo p e below s _ _ _ T248 (mkF m 11 _ [(.int ((2 : Int32) >>> ((1 : Int32) &&& 31))), (.int (1 : Int32))])
  rw [show ((2 : Int32) >>> ((1 : Int32) &&& 31)) = (1 : Int32) from by decide]
  show OwnGo p e below s _ _ _ T248 (mkF m 11 _ [(.int (1 : Int32)), (.int (1 : Int32))])
  obtain ⟨_, _, ⟨T250, L250, k250, n250⟩, -, X250, ⟨Lc250, hQ250, l250, y250, z250⟩, st250⟩ := Jvm.LawKit.callS X248 hx (y := (⟨"java/lang/Math", "min", "(II)I"⟩ : MethodName)) hown (mvT hZ (W_ hw 113 rfl)) (mvT hZ (W_ hw 85 rfl)) (mvT hZ (W_ hw 82 rfl)) (mvT hZ (W_ hw 86 rfl)) (by decide) (backOf (W := 0) (rmminZ l Z a0 hw [] (1 : Int32) h0 n0 Z_ (by decide)) hZ (W_ hw 86 rfl) (W_ hw 82 rfl) (by decide) (by decide)) (g := (mkF m 11 #[.val (.ref t), .val (.int (32 : Int32)), .val (.int (0 : Int32)), .val (.int (1 : Int32))] [(.int (1 : Int32)), (.int (1 : Int32))])) rfl (by rw [hml]; rfl) (argsL := [(.int (1 : Int32)), (.int (1 : Int32))]) (rest := []) (lenOf pd_18 rfl) rfl (Nat.le_of_eq rfl) (hb hby d25_11) (fun _ _ => ⟨rfl, e248, (by decide : 0 + 0 ≤ _), (by decide : 0 + 0 ≤ _)⟩)
  dsimp only [Pt.U, Pt.locs, Pt.cells, Pt.slots] at X250 l250 y250 z250 st250 hQ250
  subst l250 y250 z250
  obtain ⟨rfl, N250q, e250⟩ := hQ250
  have N250 := Fr.app N248 N250q
  refine .st st250 ?_
  show OwnGo p e below s _ _ _ T250 (mkF m 14 _ [(.int (1 : Int32))])
  refine .istoreN X250 hx (hb hby d25_14) (L' := #[.val (.ref t), .val (.int (32 : Int32)), .val (.int (0 : Int32)), .val (.int (1 : Int32))]) rfl ?_
  refine .iloadN X250 hx (hb hby d25_15) rfl ?_
  refine .iloadN X250 hx (hb hby d25_16) rfl ?_
  refine .icmpYes (pc := 17) X250 hx 22 (hb hby d25_17) (tlt ((by decide) : (0 : Int32) < (1 : Int32))).1 (by decide) (by decide) ?_
  refine .iloadN X250 hx (hb hby d25_22) rfl ?_
  refine .st (fun _ => X250.ldcInt hx hown (mvT hZ (W_ hw 114 rfl)) (g := (mkF m 23 #[.val (.ref t), .val (.int (32 : Int32)), .val (.int (0 : Int32)), .val (.int (1 : Int32))] [(.int (32 : Int32))])) rfl (hb hby d25_23) _) ?_
  show OwnGo p e below s _ _ _ T250 (mkF m 25 _ [(.int (65536 : Int32)), (.int (32 : Int32))])
  refine .icmpNo X250 hx (hb hby d25_25) (tlt (own_bg32_lt_65536 : (32 : Int32) < (65536 : Int32))).2.1 ?_
  refine .aloadN X250 hx (hb hby d25_28) rfl rfl ?_
  refine .iloadN X250 hx (hb hby d25_29) rfl ?_
  refine .iloadN X250 hx (hb hby d25_30) rfl ?_
  refine .iloadN X250 hx (hb hby d25_31) rfl ?_
  obtain ⟨_, _, ⟨T251, L251, k251, n251⟩, -, X251, ⟨Lc251, hQ251, l251, y251, z251⟩, st251⟩ := Jvm.LawKit.callS X250 hx (y := (⟨"java/lang/StringUTF16", "indexOfChar", "([BIII)I"⟩ : MethodName)) hown (mvT hZ (W_ hw 115 rfl)) (mvT hZ (W_ hw 116 rfl)) (mvT hZ (W_ hw 49 rfl)) (mvT hZ (W_ hw 117 rfl)) (by decide) (backOf (W := 0) (rmiuc1 l Z a0 hw [] t kb c0 fmv h0 n0 Z_ O_ S_AD S_HB S_LB S_SF rf_fmv V_t P_c0) hZ (W_ hw 117 rfl) (W_ hw 49 rfl) (by decide) (by decide)) (g := (mkF m 32 #[.val (.ref t), .val (.int (32 : Int32)), .val (.int (0 : Int32)), .val (.int (1 : Int32))] [(.int (1 : Int32)), (.int (0 : Int32)), (.int (32 : Int32)), (.ref t)])) rfl (by rw [hml]; rfl) (argsL := [(.ref t), (.int (32 : Int32)), (.int (0 : Int32)), (.int (1 : Int32))]) (rest := []) (lenOf pd_19 rfl) rfl (Nat.le_of_eq rfl) (hb hby d25_32) (fun _ _ => ⟨rfl, e250, (by decide : 0 + 0 ≤ _), (by decide : 0 + 0 ≤ _)⟩)
  dsimp only [Pt.U, Pt.locs, Pt.cells, Pt.slots] at X251 l251 y251 z251 st251 hQ251
  subst l251 y251 z251
  obtain ⟨r251, rfl, N251q, e251, hr251⟩ := hQ251
  have N251 := Fr.app N250 N251q
  refine .st st251 ?_
  show OwnGo p e below s _ _ _ T251 (mkF m 35 _ [(.int r251)])
  exact OwnGo.ret X251 hx hret hlk rfl (Or.inl ⟨rfl, Or.inl rfl, _, rfl⟩) (hb hby d25_35) (by show QiU1 Z t kb c0 fmv h0 n0 _ T251.heap _; rw [e251]; exact ⟨_, rfl, N251, rfl, hr251⟩) (by decide) (by decide)
def Qslen1 (Z : State) (x : Addr) (t : Addr) (kb : ClassId) (c0 : Int32) (zc : Int32) (h0 : Heap) (n0 : Nat) (v : Option Value) (h : Heap) (L : List Loc) : Prop := v = some (.int (1 : Int32)) ∧ Fr n0 L ∧ h = h0
theorem rmslen1 (l : Launch) (Z : State) (a0 : Array Value) (hw : own_tb a0 Z) (ws : List Jvm.Cond) (x : Addr) (t : Addr) (kb : ClassId) (c0 : Int32) (zc : Int32) (h0 : Heap) (n0 : Nat) (Z0 : n0 ≤ h0.size) (O_ : Old Z n0 h0) (S_CS : Sta Z Z.heap "java/lang/String" "COMPACT_STRINGS" "Z" (.int zc)) (P_CS : ¬ zc = (0 : Int32)) (SS : own_S1 Z h0 x t kb c0) :
    OwnMet l (⟨"java/lang/String", "length", "()I"⟩ : MethodName) jdk_42_method_54_code 1 (some .int) ws ({ frames := 1, cells := 0, slots := 0, locals := 13 } : Room) #[(.ref x)] Z h0 (Qslen1 Z x t kb c0 zc h0 n0) := by
  refine own_met (plainFor_of_name pn_6) ?_
  intro p e s m below meth c s₁ X0 hx hby hml hret hlk hown hnm hZ e0
  have N0 := Fr.nil n0
  have Z_ := Z0
  refine OwnGo.cast (ef_slen1 m x) ?_
  show OwnGo p e below s _ _ _ s₁ (mkF m 0 _ [])
  obtain ⟨E_x, Fv, hk⟩ := SS
  rcases hk with ⟨Fc, V_t, hl⟩ | ⟨Fc, V_t⟩
  · refine .aloadN X0 hx (hb hby d5_0) rfl rfl ?_
    obtain ⟨T252, X252, e252, st252⟩ := getF X0 hx hZ hown (host := "") (Or.inl (W_ hw 25 rfl)) Via.refl e0 Fv (g := (mkF m 1 #[.val (.ref x)] [(.ref x)])) rfl rfl (hb hby d5_1)
    refine .st st252 ?_
    show OwnGo p e below s _ _ _ T252 (mkF m 4 _ [(.ref t)])
    obtain ⟨cl253, Ar253, -, S253, N253, -, -⟩ := id V_t
    refine .st (fun _ => own_len hZ (len_of S253 N253) Ar253 X252 e252 hx (g := (mkF m 4 #[.val (.ref x)] [(.ref t)])) rfl rfl (hb hby d5_4) _) ?_
    show OwnGo p e below s _ _ _ T252 (mkF m 5 _ [(.int (1 : Int32))])
    refine .aloadN X252 hx (hb hby d5_5) rfl rfl ?_
    obtain ⟨cq254, kq254, q254a, q254b, q254c⟩ := isOf hZ e252 E_x
    obtain ⟨_, _, ⟨T254, L254, k254, n254⟩, -, X254, ⟨Lc254, hQ254, l254, y254, z254⟩, st254⟩ := X252.virtualBack hx (y := (⟨"java/lang/String", "coder", "()B"⟩ : MethodName)) (z := (⟨"java/lang/String", "coder", "()B"⟩ : MethodName)) hown (mvT hZ (W_ hw 32 rfl)) (mvT hZ (W_ hw 33 rfl)) (notFace_of_selects (args := #[]) (mvT hZ (W_ hw 35 rfl))) (mvT hZ (W_ hw 35 rfl)) (mvT hZ (W_ hw 34 rfl)) (by decide) (backOf (W := 1) (rmcoder l Z a0 hw [] x zc h0 n0 Z_ O_ S_CS P_CS Fc) hZ (W_ hw 36 rfl) (W_ hw 7 rfl) (by decide) (by decide)) q254a q254c (g := (mkF m 6 #[.val (.ref x)] [(.ref x), (.int (1 : Int32))])) rfl (by rw [hml]; rfl) (Steps.refl _) (argsL := []) (rest := [(.int (1 : Int32))]) (lenOf pd_0 rfl) rfl (Nat.le_of_eq rfl) (hb hby d5_6) (fun _ _ => ⟨rfl, e252, (by decide : 0 + 0 ≤ _), (by decide : 0 + 0 ≤ _)⟩)
    dsimp only [Pt.U, Pt.locs, Pt.cells, Pt.slots] at X254 l254 y254 z254 st254 hQ254
    subst l254 y254 z254
    obtain ⟨rfl, N254q, e254⟩ := hQ254
    have N254 := Fr.app N0 N254q
    refine .st (fun _ => st254.trans) ?_
    show OwnGo p e below s _ _ _ T254 (mkF m 9 _ [(.int (0 : Int32)), (.int (1 : Int32))])
    refine .st (fun _ => XS.ishr X254.here hx rfl (hb hby d5_9) rfl) ?_
    show OwnGo p e below s _ _ _ T254 (mkF m 10 _ [(.int ((1 : Int32) >>> ((0 : Int32) &&& 31)))])
    rw [show ((1 : Int32) >>> ((0 : Int32) &&& 31)) = (1 : Int32) from by decide]
    show OwnGo p e below s _ _ _ T254 (mkF m 10 _ [(.int (1 : Int32))])
    exact OwnGo.ret X254 hx hret hlk rfl (Or.inl ⟨rfl, Or.inl rfl, _, rfl⟩) (hb hby d5_10) (by show Qslen1 Z x t kb c0 zc h0 n0 _ T254.heap _; rw [e254]; exact ⟨rfl, N254, rfl⟩) (by decide) (by decide)
  · refine .aloadN X0 hx (hb hby d5_0) rfl rfl ?_
    obtain ⟨T255, X255, e255, st255⟩ := getF X0 hx hZ hown (host := "") (Or.inl (W_ hw 25 rfl)) Via.refl e0 Fv (g := (mkF m 1 #[.val (.ref x)] [(.ref x)])) rfl rfl (hb hby d5_1)
    refine .st st255 ?_
    show OwnGo p e below s _ _ _ T255 (mkF m 4 _ [(.ref t)])
    obtain ⟨cl256, Ar256, -, S256, N256, -, -⟩ := id V_t
    refine .st (fun _ => own_len hZ (len_of S256 N256) Ar256 X255 e255 hx (g := (mkF m 4 #[.val (.ref x)] [(.ref t)])) rfl rfl (hb hby d5_4) _) ?_
    show OwnGo p e below s _ _ _ T255 (mkF m 5 _ [(.int (2 : Int32))])
    refine .aloadN X255 hx (hb hby d5_5) rfl rfl ?_
    obtain ⟨cq257, kq257, q257a, q257b, q257c⟩ := isOf hZ e255 E_x
    obtain ⟨_, _, ⟨T257, L257, k257, n257⟩, -, X257, ⟨Lc257, hQ257, l257, y257, z257⟩, st257⟩ := X255.virtualBack hx (y := (⟨"java/lang/String", "coder", "()B"⟩ : MethodName)) (z := (⟨"java/lang/String", "coder", "()B"⟩ : MethodName)) hown (mvT hZ (W_ hw 32 rfl)) (mvT hZ (W_ hw 33 rfl)) (notFace_of_selects (args := #[]) (mvT hZ (W_ hw 35 rfl))) (mvT hZ (W_ hw 35 rfl)) (mvT hZ (W_ hw 34 rfl)) (by decide) (backOf (W := 1) (rmcoder1 l Z a0 hw [] x zc h0 n0 Z_ O_ S_CS P_CS Fc) hZ (W_ hw 36 rfl) (W_ hw 7 rfl) (by decide) (by decide)) q257a q257c (g := (mkF m 6 #[.val (.ref x)] [(.ref x), (.int (2 : Int32))])) rfl (by rw [hml]; rfl) (Steps.refl _) (argsL := []) (rest := [(.int (2 : Int32))]) (lenOf pd_0 rfl) rfl (Nat.le_of_eq rfl) (hb hby d5_6) (fun _ _ => ⟨rfl, e255, (by decide : 0 + 0 ≤ _), (by decide : 0 + 0 ≤ _)⟩)
    dsimp only [Pt.U, Pt.locs, Pt.cells, Pt.slots] at X257 l257 y257 z257 st257 hQ257
    subst l257 y257 z257
    obtain ⟨rfl, N257q, e257⟩ := hQ257
    have N257 := Fr.app N0 N257q
    refine .st (fun _ => st257.trans) ?_
    show OwnGo p e below s _ _ _ T257 (mkF m 9 _ [(.int (1 : Int32)), (.int (2 : Int32))])
    refine .st (fun _ => XS.ishr X257.here hx rfl (hb hby d5_9) rfl) ?_
    show OwnGo p e below s _ _ _ T257 (mkF m 10 _ [(.int ((2 : Int32) >>> ((1 : Int32) &&& 31)))])
    rw [show ((2 : Int32) >>> ((1 : Int32) &&& 31)) = (1 : Int32) from by decide]
    show OwnGo p e below s _ _ _ T257 (mkF m 10 _ [(.int (1 : Int32))])
    exact OwnGo.ret X257 hx hret hlk rfl (Or.inl ⟨rfl, Or.inl rfl, _, rfl⟩) (hb hby d5_10) (by show Qslen1 Z x t kb c0 zc h0 n0 _ T257.heap _; rw [e257]; exact ⟨rfl, N257, rfl⟩) (by decide) (by decide)
def Qsidx1 (Z : State) (x : Addr) (t : Addr) (kb : ClassId) (c0 : Int32) (zc : Int32) (fmv : Value) (h0 : Heap) (n0 : Nat) (v : Option Value) (h : Heap) (L : List Loc) : Prop := ∃ r : Int32, v = some (.int r) ∧ Fr n0 L ∧ h = h0 ∧ ((r < (0 : Int32) ∧ ¬ (c0 = (32 : Int32))) ∨ (¬ r < (0 : Int32) ∧ (c0 = (32 : Int32))))
theorem rmsidx1 (l : Launch) (Z : State) (a0 : Array Value) (hw : own_tb a0 Z) (ws : List Jvm.Cond) (x : Addr) (t : Addr) (kb : ClassId) (c0 : Int32) (zc : Int32) (fmv : Value) (h0 : Heap) (n0 : Nat) (Z0 : n0 ≤ h0.size) (O_ : Old Z n0 h0) (S_CS : Sta Z Z.heap "java/lang/String" "COMPACT_STRINGS" "Z" (.int zc)) (P_CS : ¬ zc = (0 : Int32)) (S_AD : Sta Z Z.heap "java/lang/StringUTF16" "$assertionsDisabled" "Z" (.int (1 : Int32))) (S_HB : Sta Z Z.heap "java/lang/StringUTF16" "HI_BYTE_SHIFT" "I" (.int (0 : Int32))) (S_LB : Sta Z Z.heap "java/lang/StringUTF16" "LO_BYTE_SHIFT" "I" (.int (8 : Int32))) (S_SF : Sta Z Z.heap "jdk/internal/util/Preconditions" "SIOOBE_FORMATTER" "Ljava/util/function/BiFunction;" fmv) (rf_fmv : fmv.isRef = true) (SS : own_S1 Z h0 x t kb c0) (P_c0 : own_u c0) :
    OwnMet l (⟨"java/lang/String", "indexOf", "(II)I"⟩ : MethodName) jdk_42_method_80_code 3 (some .int) ws ({ frames := 5, cells := 0, slots := 0, locals := 73 } : Room) #[(.ref x), (.int (32 : Int32)), (.int (0 : Int32))] Z h0 (Qsidx1 Z x t kb c0 zc fmv h0 n0) := by
  refine own_met (plainFor_of_name pn_6) ?_
  intro p e s m below meth c s₁ X0 hx hby hml hret hlk hown hnm hZ e0
  have N0 := Fr.nil n0
  have Z_ := Z0
  refine OwnGo.cast (ef_sidx1 m x (32 : Int32) (0 : Int32)) ?_
  show OwnGo p e below s _ _ _ s₁ (mkF m 0 _ [])
  obtain ⟨E_x, Fv, hk⟩ := SS
  rcases hk with ⟨Fc, V_t, hl⟩ | ⟨Fc, V_t⟩
  · refine .aloadN X0 hx (hb hby d13_0) rfl rfl ?_
    obtain ⟨cq258, kq258, q258a, q258b, q258c⟩ := isOf hZ e0 E_x
    obtain ⟨_, _, ⟨T258, L258, k258, n258⟩, -, X258, ⟨Lc258, hQ258, l258, y258, z258⟩, st258⟩ := X0.virtualBack hx (y := (⟨"java/lang/String", "isLatin1", "()Z"⟩ : MethodName)) (z := (⟨"java/lang/String", "isLatin1", "()Z"⟩ : MethodName)) hown (mvT hZ (W_ hw 67 rfl)) (mvT hZ (W_ hw 68 rfl)) (notFace_of_selects (args := #[]) (mvT hZ (W_ hw 70 rfl))) (mvT hZ (W_ hw 70 rfl)) (mvT hZ (W_ hw 69 rfl)) (by decide) (backOf (W := 0) (rmisLatin1 l Z a0 hw [] x zc h0 n0 Z_ O_ S_CS P_CS Fc) hZ (W_ hw 71 rfl) (W_ hw 7 rfl) (by decide) (by decide)) q258a q258c (g := (mkF m 1 #[.val (.ref x), .val (.int (32 : Int32)), .val (.int (0 : Int32))] [(.ref x)])) rfl (by rw [hml]; rfl) (Steps.refl _) (argsL := []) (rest := []) (lenOf pd_21 rfl) rfl (Nat.le_of_eq rfl) (hb hby d13_1) (fun _ _ => ⟨rfl, e0, (by decide : 0 + 0 ≤ _), (by decide : 0 + 0 ≤ _)⟩)
    dsimp only [Pt.U, Pt.locs, Pt.cells, Pt.slots] at X258 l258 y258 z258 st258 hQ258
    subst l258 y258 z258
    obtain ⟨rfl, N258q, e258⟩ := hQ258
    have N258 := Fr.app N0 N258q
    refine .st (fun _ => st258.trans) ?_
    show OwnGo p e below s _ _ _ T258 (mkF m 4 _ [(.int (1 : Int32))])
    refine .ifNo X258 hx (hb hby d13_4) ((if0 _ _).trans (feq ((by decide) : ¬ ((1 : Int32) = (0 : Int32)))).1) ?_
    refine .aloadN X258 hx (hb hby d13_7) rfl rfl ?_
    obtain ⟨T259, X259, e259, st259⟩ := getF X258 hx hZ hown (host := "") (Or.inl (W_ hw 25 rfl)) Via.refl e258 Fv (g := (mkF m 8 #[.val (.ref x), .val (.int (32 : Int32)), .val (.int (0 : Int32))] [(.ref x)])) rfl rfl (hb hby d13_8)
    refine .st st259 ?_
    show OwnGo p e below s _ _ _ T259 (mkF m 11 _ [(.ref t)])
    refine .iloadN X259 hx (hb hby d13_11) rfl ?_
    refine .iloadN X259 hx (hb hby d13_12) rfl ?_
    refine .aloadN X259 hx (hb hby d13_13) rfl rfl ?_
    obtain ⟨cq260, kq260, q260a, q260b, q260c⟩ := isOf hZ e259 E_x
    obtain ⟨_, _, ⟨T260, L260, k260, n260⟩, -, X260, ⟨Lc260, hQ260, l260, y260, z260⟩, st260⟩ := X259.virtualBack hx (y := (⟨"java/lang/String", "length", "()I"⟩ : MethodName)) (z := (⟨"java/lang/String", "length", "()I"⟩ : MethodName)) hown (mvT hZ (W_ hw 72 rfl)) (mvT hZ (W_ hw 28 rfl)) (notFace_of_selects (args := #[]) (mvT hZ (W_ hw 30 rfl))) (mvT hZ (W_ hw 30 rfl)) (mvT hZ (W_ hw 29 rfl)) (by decide) (backOf (W := 3) (rmslen1 l Z a0 hw [] x t kb c0 zc h0 n0 Z_ O_ S_CS P_CS ⟨E_x, Fv, Or.inl ⟨Fc, V_t, hl⟩⟩) hZ (W_ hw 31 rfl) (W_ hw 7 rfl) (by decide) (by decide)) q260a q260c (g := (mkF m 14 #[.val (.ref x), .val (.int (32 : Int32)), .val (.int (0 : Int32))] [(.ref x), (.int (0 : Int32)), (.int (32 : Int32)), (.ref t)])) rfl (by rw [hml]; rfl) (Steps.refl _) (argsL := []) (rest := [(.int (0 : Int32)), (.int (32 : Int32)), (.ref t)]) (lenOf pd_22 rfl) rfl (Nat.le_of_eq rfl) (hb hby d13_14) (fun _ _ => ⟨rfl, e259, (by decide : 0 + 0 ≤ _), (by decide : 0 + 0 ≤ _)⟩)
    dsimp only [Pt.U, Pt.locs, Pt.cells, Pt.slots] at X260 l260 y260 z260 st260 hQ260
    subst l260 y260 z260
    obtain ⟨rfl, N260q, e260⟩ := hQ260
    have N260 := Fr.app N258 N260q
    refine .st (fun _ => st260.trans) ?_
    show OwnGo p e below s _ _ _ T260 (mkF m 17 _ [(.int (1 : Int32)), (.int (0 : Int32)), (.int (32 : Int32)), (.ref t)])
    obtain ⟨_, _, ⟨T261, L261, k261, n261⟩, -, X261, ⟨Lc261, hQ261, l261, y261, z261⟩, st261⟩ := Jvm.LawKit.callS X260 hx (y := (⟨"java/lang/StringLatin1", "indexOf", "([BIII)I"⟩ : MethodName)) hown (mvT hZ (W_ hw 73 rfl)) (mvT hZ (W_ hw 74 rfl)) (mvT hZ (W_ hw 75 rfl)) (mvT hZ (W_ hw 76 rfl)) (by decide) (backOf (W := 0) (rmiL1 l Z a0 hw [] t kb c0 h0 n0 Z_ V_t hl P_c0) hZ (W_ hw 76 rfl) (W_ hw 75 rfl) (by decide) (by decide)) (g := (mkF m 17 #[.val (.ref x), .val (.int (32 : Int32)), .val (.int (0 : Int32))] [(.int (1 : Int32)), (.int (0 : Int32)), (.int (32 : Int32)), (.ref t)])) rfl (by rw [hml]; rfl) (argsL := [(.ref t), (.int (32 : Int32)), (.int (0 : Int32)), (.int (1 : Int32))]) (rest := []) (lenOf pd_19 rfl) rfl (Nat.le_of_eq rfl) (hb hby d13_17) (fun _ _ => ⟨rfl, e260, (by decide : 0 + 0 ≤ _), (by decide : 0 + 0 ≤ _)⟩)
    dsimp only [Pt.U, Pt.locs, Pt.cells, Pt.slots] at X261 l261 y261 z261 st261 hQ261
    subst l261 y261 z261
    obtain ⟨r261, rfl, N261q, e261, hr261⟩ := hQ261
    have N261 := Fr.app N260 N261q
    refine .st st261 ?_
    show OwnGo p e below s _ _ _ T261 (mkF m 20 _ [(.int r261)])
    refine .goto (pc := 20) X261 hx 36 (hb hby d13_20) (by decide) (by decide) ?_
    exact OwnGo.ret X261 hx hret hlk rfl (Or.inl ⟨rfl, Or.inl rfl, _, rfl⟩) (hb hby d13_36) (by show Qsidx1 Z x t kb c0 zc fmv h0 n0 _ T261.heap _; rw [e261]; exact ⟨_, rfl, N261, rfl, hr261⟩) (by decide) (by decide)
  · refine .aloadN X0 hx (hb hby d13_0) rfl rfl ?_
    obtain ⟨cq262, kq262, q262a, q262b, q262c⟩ := isOf hZ e0 E_x
    obtain ⟨_, _, ⟨T262, L262, k262, n262⟩, -, X262, ⟨Lc262, hQ262, l262, y262, z262⟩, st262⟩ := X0.virtualBack hx (y := (⟨"java/lang/String", "isLatin1", "()Z"⟩ : MethodName)) (z := (⟨"java/lang/String", "isLatin1", "()Z"⟩ : MethodName)) hown (mvT hZ (W_ hw 67 rfl)) (mvT hZ (W_ hw 68 rfl)) (notFace_of_selects (args := #[]) (mvT hZ (W_ hw 70 rfl))) (mvT hZ (W_ hw 70 rfl)) (mvT hZ (W_ hw 69 rfl)) (by decide) (backOf (W := 0) (rmisL1 l Z a0 hw [] x zc h0 n0 Z_ O_ S_CS P_CS Fc) hZ (W_ hw 71 rfl) (W_ hw 7 rfl) (by decide) (by decide)) q262a q262c (g := (mkF m 1 #[.val (.ref x), .val (.int (32 : Int32)), .val (.int (0 : Int32))] [(.ref x)])) rfl (by rw [hml]; rfl) (Steps.refl _) (argsL := []) (rest := []) (lenOf pd_21 rfl) rfl (Nat.le_of_eq rfl) (hb hby d13_1) (fun _ _ => ⟨rfl, e0, (by decide : 0 + 0 ≤ _), (by decide : 0 + 0 ≤ _)⟩)
    dsimp only [Pt.U, Pt.locs, Pt.cells, Pt.slots] at X262 l262 y262 z262 st262 hQ262
    subst l262 y262 z262
    obtain ⟨rfl, N262q, e262⟩ := hQ262
    have N262 := Fr.app N0 N262q
    refine .st (fun _ => st262.trans) ?_
    show OwnGo p e below s _ _ _ T262 (mkF m 4 _ [(.int (0 : Int32))])
    refine .ifYes (pc := 4) X262 hx 23 (hb hby d13_4) ((if0 _ _).trans (teq ((by decide) : (0 : Int32) = (0 : Int32))).1) (by decide) (by decide) ?_
    refine .aloadN X262 hx (hb hby d13_23) rfl rfl ?_
    obtain ⟨T263, X263, e263, st263⟩ := getF X262 hx hZ hown (host := "") (Or.inl (W_ hw 25 rfl)) Via.refl e262 Fv (g := (mkF m 24 #[.val (.ref x), .val (.int (32 : Int32)), .val (.int (0 : Int32))] [(.ref x)])) rfl rfl (hb hby d13_24)
    refine .st st263 ?_
    show OwnGo p e below s _ _ _ T263 (mkF m 27 _ [(.ref t)])
    refine .iloadN X263 hx (hb hby d13_27) rfl ?_
    refine .iloadN X263 hx (hb hby d13_28) rfl ?_
    refine .aloadN X263 hx (hb hby d13_29) rfl rfl ?_
    obtain ⟨cq264, kq264, q264a, q264b, q264c⟩ := isOf hZ e263 E_x
    obtain ⟨_, _, ⟨T264, L264, k264, n264⟩, -, X264, ⟨Lc264, hQ264, l264, y264, z264⟩, st264⟩ := X263.virtualBack hx (y := (⟨"java/lang/String", "length", "()I"⟩ : MethodName)) (z := (⟨"java/lang/String", "length", "()I"⟩ : MethodName)) hown (mvT hZ (W_ hw 72 rfl)) (mvT hZ (W_ hw 28 rfl)) (notFace_of_selects (args := #[]) (mvT hZ (W_ hw 30 rfl))) (mvT hZ (W_ hw 30 rfl)) (mvT hZ (W_ hw 29 rfl)) (by decide) (backOf (W := 3) (rmslen1 l Z a0 hw [] x t kb c0 zc h0 n0 Z_ O_ S_CS P_CS ⟨E_x, Fv, Or.inr ⟨Fc, V_t⟩⟩) hZ (W_ hw 31 rfl) (W_ hw 7 rfl) (by decide) (by decide)) q264a q264c (g := (mkF m 30 #[.val (.ref x), .val (.int (32 : Int32)), .val (.int (0 : Int32))] [(.ref x), (.int (0 : Int32)), (.int (32 : Int32)), (.ref t)])) rfl (by rw [hml]; rfl) (Steps.refl _) (argsL := []) (rest := [(.int (0 : Int32)), (.int (32 : Int32)), (.ref t)]) (lenOf pd_22 rfl) rfl (Nat.le_of_eq rfl) (hb hby d13_30) (fun _ _ => ⟨rfl, e263, (by decide : 0 + 0 ≤ _), (by decide : 0 + 0 ≤ _)⟩)
    dsimp only [Pt.U, Pt.locs, Pt.cells, Pt.slots] at X264 l264 y264 z264 st264 hQ264
    subst l264 y264 z264
    obtain ⟨rfl, N264q, e264⟩ := hQ264
    have N264 := Fr.app N262 N264q
    refine .st (fun _ => st264.trans) ?_
    show OwnGo p e below s _ _ _ T264 (mkF m 33 _ [(.int (1 : Int32)), (.int (0 : Int32)), (.int (32 : Int32)), (.ref t)])
    obtain ⟨_, _, ⟨T265, L265, k265, n265⟩, -, X265, ⟨Lc265, hQ265, l265, y265, z265⟩, st265⟩ := Jvm.LawKit.callS X264 hx (y := (⟨"java/lang/StringUTF16", "indexOf", "([BIII)I"⟩ : MethodName)) hown (mvT hZ (W_ hw 109 rfl)) (mvT hZ (W_ hw 110 rfl)) (mvT hZ (W_ hw 49 rfl)) (mvT hZ (W_ hw 111 rfl)) (by decide) (backOf (W := 0) (rmiU1 l Z a0 hw [] t kb c0 fmv h0 n0 Z_ O_ S_AD S_HB S_LB S_SF rf_fmv V_t P_c0) hZ (W_ hw 111 rfl) (W_ hw 49 rfl) (by decide) (by decide)) (g := (mkF m 33 #[.val (.ref x), .val (.int (32 : Int32)), .val (.int (0 : Int32))] [(.int (1 : Int32)), (.int (0 : Int32)), (.int (32 : Int32)), (.ref t)])) rfl (by rw [hml]; rfl) (argsL := [(.ref t), (.int (32 : Int32)), (.int (0 : Int32)), (.int (1 : Int32))]) (rest := []) (lenOf pd_19 rfl) rfl (Nat.le_of_eq rfl) (hb hby d13_33) (fun _ _ => ⟨rfl, e264, (by decide : 0 + 0 ≤ _), (by decide : 0 + 0 ≤ _)⟩)
    dsimp only [Pt.U, Pt.locs, Pt.cells, Pt.slots] at X265 l265 y265 z265 st265 hQ265
    subst l265 y265 z265
    obtain ⟨r265, rfl, N265q, e265, hr265⟩ := hQ265
    have N265 := Fr.app N264 N265q
    refine .st st265 ?_
    show OwnGo p e below s _ _ _ T265 (mkF m 36 _ [(.int r265)])
    exact OwnGo.ret X265 hx hret hlk rfl (Or.inl ⟨rfl, Or.inl rfl, _, rfl⟩) (hb hby d13_36) (by show Qsidx1 Z x t kb c0 zc fmv h0 n0 _ T265.heap _; rw [e265]; exact ⟨_, rfl, N265, rfl, hr265⟩) (by decide) (by decide)
def QsidI1 (Z : State) (x : Addr) (t : Addr) (kb : ClassId) (c0 : Int32) (zc : Int32) (fmv : Value) (h0 : Heap) (n0 : Nat) (v : Option Value) (h : Heap) (L : List Loc) : Prop := ∃ r : Int32, v = some (.int r) ∧ Fr n0 L ∧ h = h0 ∧ ((r < (0 : Int32) ∧ ¬ (c0 = (32 : Int32))) ∨ (¬ r < (0 : Int32) ∧ (c0 = (32 : Int32))))
theorem rmsidI1 (l : Launch) (Z : State) (a0 : Array Value) (hw : own_tb a0 Z) (ws : List Jvm.Cond) (x : Addr) (t : Addr) (kb : ClassId) (c0 : Int32) (zc : Int32) (fmv : Value) (h0 : Heap) (n0 : Nat) (Z0 : n0 ≤ h0.size) (O_ : Old Z n0 h0) (S_CS : Sta Z Z.heap "java/lang/String" "COMPACT_STRINGS" "Z" (.int zc)) (P_CS : ¬ zc = (0 : Int32)) (S_AD : Sta Z Z.heap "java/lang/StringUTF16" "$assertionsDisabled" "Z" (.int (1 : Int32))) (S_HB : Sta Z Z.heap "java/lang/StringUTF16" "HI_BYTE_SHIFT" "I" (.int (0 : Int32))) (S_LB : Sta Z Z.heap "java/lang/StringUTF16" "LO_BYTE_SHIFT" "I" (.int (8 : Int32))) (S_SF : Sta Z Z.heap "jdk/internal/util/Preconditions" "SIOOBE_FORMATTER" "Ljava/util/function/BiFunction;" fmv) (rf_fmv : fmv.isRef = true) (SS : own_S1 Z h0 x t kb c0) (P_c0 : own_u c0) :
    OwnMet l (⟨"java/lang/String", "indexOf", "(I)I"⟩ : MethodName) jdk_42_method_79_code 2 (some .int) ws ({ frames := 6, cells := 0, slots := 0, locals := 87 } : Room) #[(.ref x), (.int (32 : Int32))] Z h0 (QsidI1 Z x t kb c0 zc fmv h0 n0) := by
  refine own_met (plainFor_of_name pn_6) ?_
  intro p e s m below meth c s₁ X0 hx hby hml hret hlk hown hnm hZ e0
  have N0 := Fr.nil n0
  have Z_ := Z0
  refine OwnGo.cast (ef_sidI1 m x (32 : Int32)) ?_
  show OwnGo p e below s _ _ _ s₁ (mkF m 0 _ [])
  have E_x := SS.1
  refine .aloadN X0 hx (hb hby d12_0) rfl rfl ?_
  refine .iloadN X0 hx (hb hby d12_1) rfl ?_
  refine .iconst X0 hx (hb hby d12_2) own_ki0 ?_
  obtain ⟨cq266, kq266, q266a, q266b, q266c⟩ := isOf hZ e0 E_x
  obtain ⟨_, _, ⟨T266, L266, k266, n266⟩, -, X266, ⟨Lc266, hQ266, l266, y266, z266⟩, st266⟩ := X0.virtualBack hx (y := (⟨"java/lang/String", "indexOf", "(II)I"⟩ : MethodName)) (z := (⟨"java/lang/String", "indexOf", "(II)I"⟩ : MethodName)) hown (mvT hZ (W_ hw 62 rfl)) (mvT hZ (W_ hw 63 rfl)) (notFace_of_selects (args := #[]) (mvT hZ (W_ hw 65 rfl))) (mvT hZ (W_ hw 65 rfl)) (mvT hZ (W_ hw 64 rfl)) (by decide) (backOf (W := 0) (rmsidx1 l Z a0 hw [] x t kb c0 zc fmv h0 n0 Z_ O_ S_CS P_CS S_AD S_HB S_LB S_SF rf_fmv SS P_c0) hZ (W_ hw 66 rfl) (W_ hw 7 rfl) (by decide) (by decide)) q266a q266c (g := (mkF m 3 #[.val (.ref x), .val (.int (32 : Int32))] [(.int (0 : Int32)), (.int (32 : Int32)), (.ref x)])) rfl (by rw [hml]; rfl) (Steps.refl _) (argsL := [(.int (32 : Int32)), (.int (0 : Int32))]) (rest := []) (lenOf pd_18 rfl) rfl (Nat.le_of_eq rfl) (hb hby d12_3) (fun _ _ => ⟨rfl, e0, (by decide : 0 + 0 ≤ _), (by decide : 0 + 0 ≤ _)⟩)
  dsimp only [Pt.U, Pt.locs, Pt.cells, Pt.slots] at X266 l266 y266 z266 st266 hQ266
  subst l266 y266 z266
  obtain ⟨r266, rfl, N266q, e266, hr266⟩ := hQ266
  have N266 := Fr.app N0 N266q
  refine .st (fun _ => st266.trans) ?_
  show OwnGo p e below s _ _ _ T266 (mkF m 6 _ [(.int r266)])
  exact OwnGo.ret X266 hx hret hlk rfl (Or.inl ⟨rfl, Or.inl rfl, _, rfl⟩) (hb hby d12_6) (by show QsidI1 Z x t kb c0 zc fmv h0 n0 _ T266.heap _; rw [e266]; exact ⟨_, rfl, N266, rfl, hr266⟩) (by decide) (by decide)
def QisW1 (Z : State) (x : Addr) (t : Addr) (kb : ClassId) (c0 : Int32) (zc : Int32) (fmv : Value) (h0 : Heap) (n0 : Nat) (v : Option Value) (h : Heap) (L : List Loc) : Prop := ∃ r : Int32, v = some (.int r) ∧ Fr n0 L ∧ h = h0 ∧ ((r = (1 : Int32) ∧ ¬ (c0 = (32 : Int32))) ∨ (r = (0 : Int32) ∧ (c0 = (32 : Int32))))
theorem rmisW1 (l : Launch) (Z : State) (a0 : Array Value) (hw : own_tb a0 Z) (ws : List Jvm.Cond) (x : Addr) (t : Addr) (kb : ClassId) (c0 : Int32) (zc : Int32) (fmv : Value) (h0 : Heap) (n0 : Nat) (Z0 : n0 ≤ h0.size) (O_ : Old Z n0 h0) (S_CS : Sta Z Z.heap "java/lang/String" "COMPACT_STRINGS" "Z" (.int zc)) (P_CS : ¬ zc = (0 : Int32)) (S_AD : Sta Z Z.heap "java/lang/StringUTF16" "$assertionsDisabled" "Z" (.int (1 : Int32))) (S_HB : Sta Z Z.heap "java/lang/StringUTF16" "HI_BYTE_SHIFT" "I" (.int (0 : Int32))) (S_LB : Sta Z Z.heap "java/lang/StringUTF16" "LO_BYTE_SHIFT" "I" (.int (8 : Int32))) (S_SF : Sta Z Z.heap "jdk/internal/util/Preconditions" "SIOOBE_FORMATTER" "Ljava/util/function/BiFunction;" fmv) (rf_fmv : fmv.isRef = true) (SS : own_S1 Z h0 x t kb c0) (P_c0 : own_u c0) :
    OwnMet l (⟨"com/example/tightrope/tightrope/format/TextFormat", "isWord", "(Ljava/lang/String;)Z"⟩ : MethodName) prog_27_method_5_code 1 (some .boolean) ws ({ frames := 7, cells := 0, slots := 0, locals := 100 } : Room) #[(.ref x)] Z h0 (QisW1 Z x t kb c0 zc fmv h0 n0) := by
  refine own_met (plainFor_of_name pn_7) ?_
  intro p e s m below meth c s₁ X0 hx hby hml hret hlk hown hnm hZ e0
  have N0 := Fr.nil n0
  have Z_ := Z0
  refine OwnGo.cast (ef_isW1 m x) ?_
  show OwnGo p e below s _ _ _ s₁ (mkF m 0 _ [])
  obtain ⟨E_x, Fv, hk⟩ := SS
  rcases hk with ⟨Fc, V_t, hl⟩ | ⟨Fc, V_t⟩
  · refine .aloadN X0 hx (hb hby d7_0) rfl rfl ?_
    obtain ⟨cq267, kq267, q267a, q267b, q267c⟩ := isOf hZ e0 E_x
    obtain ⟨_, _, ⟨T267, L267, k267, n267⟩, -, X267, ⟨Lc267, hQ267, l267, y267, z267⟩, st267⟩ := X0.virtualBack hx (y := (⟨"java/lang/String", "isEmpty", "()Z"⟩ : MethodName)) (z := (⟨"java/lang/String", "isEmpty", "()Z"⟩ : MethodName)) hown (mvT hZ (W_ hw 42 rfl)) (mvT hZ (W_ hw 43 rfl)) (notFace_of_selects (args := #[]) (mvT hZ (W_ hw 45 rfl))) (mvT hZ (W_ hw 45 rfl)) (mvT hZ (W_ hw 44 rfl)) (by decide) (backOf (W := 0) (rmempN l Z a0 hw [] x t kb (1 : Int32) [(.int c0.toInt8.toInt32)] h0 n0 Z_ Fv V_t (by decide)) hZ (W_ hw 46 rfl) (W_ hw 7 rfl) (by decide) (by decide)) q267a q267c (g := (mkF m 1 #[.val (.ref x)] [(.ref x)])) rfl (by rw [hml]; rfl) (Steps.refl _) (argsL := []) (rest := []) (lenOf pd_21 rfl) rfl (Nat.le_of_eq rfl) (hb hby d7_1) (fun _ _ => ⟨rfl, e0, (by decide : 0 + 0 ≤ _), (by decide : 0 + 0 ≤ _)⟩)
    dsimp only [Pt.U, Pt.locs, Pt.cells, Pt.slots] at X267 l267 y267 z267 st267 hQ267
    subst l267 y267 z267
    obtain ⟨rfl, N267q, e267⟩ := hQ267
    have N267 := Fr.app N0 N267q
    refine .st (fun _ => st267.trans) ?_
    show OwnGo p e below s _ _ _ T267 (mkF m 4 _ [(.int (0 : Int32))])
    refine .ifNo X267 hx (hb hby d7_4) ((if0 _ _).trans (teq ((by decide) : (0 : Int32) = (0 : Int32))).2) ?_
    refine .aloadN X267 hx (hb hby d7_7) rfl rfl ?_
    refine .bipush X267 hx (hb hby d7_8) own_kb32 ?_
    obtain ⟨cq268, kq268, q268a, q268b, q268c⟩ := isOf hZ e267 E_x
    obtain ⟨_, _, ⟨T268, L268, k268, n268⟩, -, X268, ⟨Lc268, hQ268, l268, y268, z268⟩, st268⟩ := X267.virtualBack hx (y := (⟨"java/lang/String", "indexOf", "(I)I"⟩ : MethodName)) (z := (⟨"java/lang/String", "indexOf", "(I)I"⟩ : MethodName)) hown (mvT hZ (W_ hw 57 rfl)) (mvT hZ (W_ hw 58 rfl)) (notFace_of_selects (args := #[]) (mvT hZ (W_ hw 60 rfl))) (mvT hZ (W_ hw 60 rfl)) (mvT hZ (W_ hw 59 rfl)) (by decide) (backOf (W := 0) (rmsidI1 l Z a0 hw [] x t kb c0 zc fmv h0 n0 Z_ O_ S_CS P_CS S_AD S_HB S_LB S_SF rf_fmv ⟨E_x, Fv, Or.inl ⟨Fc, V_t, hl⟩⟩ P_c0) hZ (W_ hw 61 rfl) (W_ hw 7 rfl) (by decide) (by decide)) q268a q268c (g := (mkF m 10 #[.val (.ref x)] [(.int (32 : Int32)), (.ref x)])) rfl (by rw [hml]; rfl) (Steps.refl _) (argsL := [(.int (32 : Int32))]) (rest := []) (lenOf pd_5 rfl) rfl (Nat.le_of_eq rfl) (hb hby d7_10) (fun _ _ => ⟨rfl, e267, (by decide : 0 + 0 ≤ _), (by decide : 0 + 0 ≤ _)⟩)
    dsimp only [Pt.U, Pt.locs, Pt.cells, Pt.slots] at X268 l268 y268 z268 st268 hQ268
    subst l268 y268 z268
    obtain ⟨r268, rfl, N268q, e268, hr268⟩ := hQ268
    have N268 := Fr.app N267 N268q
    refine .st (fun _ => st268.trans) ?_
    show OwnGo p e below s _ _ _ T268 (mkF m 13 _ [(.int r268)])
    rcases hr268 with ⟨hn, hs⟩ | ⟨hn, hs⟩
    · refine .ifNo X268 hx (hb hby d7_13) ((if0 _ _).trans (tlt (hn : r268 < (0 : Int32))).2.1) ?_
      refine .iconst X268 hx (hb hby d7_16) own_ki1 ?_
      refine .goto (pc := 17) X268 hx 21 (hb hby d7_17) (by decide) (by decide) ?_
      exact OwnGo.retN X268 hx (t := .boolean) hret hlk (by simp) (hb hby d7_21) (by show QisW1 Z x t kb c0 zc fmv h0 n0 _ T268.heap _; rw [e268]; exact ⟨_, rfl, N268, rfl, Or.inl ⟨rfl, hs⟩⟩) (by decide) (by decide)
    · refine .ifYes (pc := 13) X268 hx 20 (hb hby d7_13) ((if0 _ _).trans (flt (hn : ¬ (r268 < (0 : Int32)))).2.1) (by decide) (by decide) ?_
      refine .iconst X268 hx (hb hby d7_20) own_ki0 ?_
      exact OwnGo.retN X268 hx (t := .boolean) hret hlk (by simp) (hb hby d7_21) (by show QisW1 Z x t kb c0 zc fmv h0 n0 _ T268.heap _; rw [e268]; exact ⟨_, rfl, N268, rfl, Or.inr ⟨rfl, hs⟩⟩) (by decide) (by decide)
  · refine .aloadN X0 hx (hb hby d7_0) rfl rfl ?_
    obtain ⟨cq269, kq269, q269a, q269b, q269c⟩ := isOf hZ e0 E_x
    obtain ⟨_, _, ⟨T269, L269, k269, n269⟩, -, X269, ⟨Lc269, hQ269, l269, y269, z269⟩, st269⟩ := X0.virtualBack hx (y := (⟨"java/lang/String", "isEmpty", "()Z"⟩ : MethodName)) (z := (⟨"java/lang/String", "isEmpty", "()Z"⟩ : MethodName)) hown (mvT hZ (W_ hw 42 rfl)) (mvT hZ (W_ hw 43 rfl)) (notFace_of_selects (args := #[]) (mvT hZ (W_ hw 45 rfl))) (mvT hZ (W_ hw 45 rfl)) (mvT hZ (W_ hw 44 rfl)) (by decide) (backOf (W := 0) (rmempN l Z a0 hw [] x t kb (2 : Int32) [(.int (own_lo c0)), (.int (own_hi c0))] h0 n0 Z_ Fv V_t (by decide)) hZ (W_ hw 46 rfl) (W_ hw 7 rfl) (by decide) (by decide)) q269a q269c (g := (mkF m 1 #[.val (.ref x)] [(.ref x)])) rfl (by rw [hml]; rfl) (Steps.refl _) (argsL := []) (rest := []) (lenOf pd_21 rfl) rfl (Nat.le_of_eq rfl) (hb hby d7_1) (fun _ _ => ⟨rfl, e0, (by decide : 0 + 0 ≤ _), (by decide : 0 + 0 ≤ _)⟩)
    dsimp only [Pt.U, Pt.locs, Pt.cells, Pt.slots] at X269 l269 y269 z269 st269 hQ269
    subst l269 y269 z269
    obtain ⟨rfl, N269q, e269⟩ := hQ269
    have N269 := Fr.app N0 N269q
    refine .st (fun _ => st269.trans) ?_
    show OwnGo p e below s _ _ _ T269 (mkF m 4 _ [(.int (0 : Int32))])
    refine .ifNo X269 hx (hb hby d7_4) ((if0 _ _).trans (teq ((by decide) : (0 : Int32) = (0 : Int32))).2) ?_
    refine .aloadN X269 hx (hb hby d7_7) rfl rfl ?_
    refine .bipush X269 hx (hb hby d7_8) own_kb32 ?_
    obtain ⟨cq270, kq270, q270a, q270b, q270c⟩ := isOf hZ e269 E_x
    obtain ⟨_, _, ⟨T270, L270, k270, n270⟩, -, X270, ⟨Lc270, hQ270, l270, y270, z270⟩, st270⟩ := X269.virtualBack hx (y := (⟨"java/lang/String", "indexOf", "(I)I"⟩ : MethodName)) (z := (⟨"java/lang/String", "indexOf", "(I)I"⟩ : MethodName)) hown (mvT hZ (W_ hw 57 rfl)) (mvT hZ (W_ hw 58 rfl)) (notFace_of_selects (args := #[]) (mvT hZ (W_ hw 60 rfl))) (mvT hZ (W_ hw 60 rfl)) (mvT hZ (W_ hw 59 rfl)) (by decide) (backOf (W := 0) (rmsidI1 l Z a0 hw [] x t kb c0 zc fmv h0 n0 Z_ O_ S_CS P_CS S_AD S_HB S_LB S_SF rf_fmv ⟨E_x, Fv, Or.inr ⟨Fc, V_t⟩⟩ P_c0) hZ (W_ hw 61 rfl) (W_ hw 7 rfl) (by decide) (by decide)) q270a q270c (g := (mkF m 10 #[.val (.ref x)] [(.int (32 : Int32)), (.ref x)])) rfl (by rw [hml]; rfl) (Steps.refl _) (argsL := [(.int (32 : Int32))]) (rest := []) (lenOf pd_5 rfl) rfl (Nat.le_of_eq rfl) (hb hby d7_10) (fun _ _ => ⟨rfl, e269, (by decide : 0 + 0 ≤ _), (by decide : 0 + 0 ≤ _)⟩)
    dsimp only [Pt.U, Pt.locs, Pt.cells, Pt.slots] at X270 l270 y270 z270 st270 hQ270
    subst l270 y270 z270
    obtain ⟨r270, rfl, N270q, e270, hr270⟩ := hQ270
    have N270 := Fr.app N269 N270q
    refine .st (fun _ => st270.trans) ?_
    show OwnGo p e below s _ _ _ T270 (mkF m 13 _ [(.int r270)])
    rcases hr270 with ⟨hn, hs⟩ | ⟨hn, hs⟩
    · refine .ifNo X270 hx (hb hby d7_13) ((if0 _ _).trans (tlt (hn : r270 < (0 : Int32))).2.1) ?_
      refine .iconst X270 hx (hb hby d7_16) own_ki1 ?_
      refine .goto (pc := 17) X270 hx 21 (hb hby d7_17) (by decide) (by decide) ?_
      exact OwnGo.retN X270 hx (t := .boolean) hret hlk (by simp) (hb hby d7_21) (by show QisW1 Z x t kb c0 zc fmv h0 n0 _ T270.heap _; rw [e270]; exact ⟨_, rfl, N270, rfl, Or.inl ⟨rfl, hs⟩⟩) (by decide) (by decide)
    · refine .ifYes (pc := 13) X270 hx 20 (hb hby d7_13) ((if0 _ _).trans (flt (hn : ¬ (r270 < (0 : Int32)))).2.1) (by decide) (by decide) ?_
      refine .iconst X270 hx (hb hby d7_20) own_ki0 ?_
      exact OwnGo.retN X270 hx (t := .boolean) hret hlk (by simp) (hb hby d7_21) (by show QisW1 Z x t kb c0 zc fmv h0 n0 _ T270.heap _; rw [e270]; exact ⟨_, rfl, N270, rfl, Or.inr ⟨rfl, hs⟩⟩) (by decide) (by decide)
def Qilc2 (Z : State) (t : Addr) (kb : ClassId) (c0 : Int32) (c1 : Int32) (h0 : Heap) (n0 : Nat) (v : Option Value) (h : Heap) (L : List Loc) : Prop := ∃ r : Int32, v = some (.int r) ∧ Fr n0 L ∧ h = h0 ∧ ((r < (0 : Int32) ∧ ¬ (c0 = (32 : Int32) ∨ c1 = (32 : Int32))) ∨ (¬ r < (0 : Int32) ∧ (c0 = (32 : Int32) ∨ c1 = (32 : Int32))))
theorem rmilc2 (l : Launch) (Z : State) (a0 : Array Value) (hw : own_tb a0 Z) (ws : List Jvm.Cond) (t : Addr) (kb : ClassId) (c0 : Int32) (c1 : Int32) (h0 : Heap) (n0 : Nat) (Z0 : n0 ≤ h0.size) (V_t : Arv Z h0 t kb .byte (2 : Int32) [(.int c0.toInt8.toInt32), (.int c1.toInt8.toInt32)] (.int (0 : Int32))) (hl : ¬ (255 : Int32) < c0 ∧ ¬ (255 : Int32) < c1) (P_c0 : own_u c0) (P_c1 : own_u c1) :
    OwnMet l (⟨"java/lang/StringLatin1", "indexOfChar", "([BIII)I"⟩ : MethodName) jdk_43_method_23_code 6 (some .int) ws ({ frames := 0, cells := 0, slots := 0, locals := 0 } : Room) #[(.ref t), (.int (32 : Int32)), (.int (0 : Int32)), (.int (2 : Int32))] Z h0 (Qilc2 Z t kb c0 c1 h0 n0) := by
  refine own_met (plainFor_of_name pn_33) ?_
  intro p e s m below meth c s₁ X0 hx hby hml hret hlk hown hnm hZ e0
  have N0 := Fr.nil n0
  have Z_ := Z0
  refine OwnGo.cast (ef_ilc2 m t (32 : Int32) (0 : Int32) (2 : Int32)) ?_
  show OwnGo p e below s _ _ _ s₁ (mkF m 0 _ [])
  refine .iloadN X0 hx (hb hby d19_0) rfl ?_
  refine .st (fun _ => XS.i2b X0.here hx rfl (hb hby d19_1) rfl) ?_
  show OwnGo p e below s _ _ _ s₁ (mkF m 2 _ [(.int ((32 : Int32).toInt8.toInt32))])
  rw [show ((32 : Int32).toInt8.toInt32) = (32 : Int32) from by decide]
  show OwnGo p e below s _ _ _ s₁ (mkF m 2 _ [(.int (32 : Int32))])
  refine .istore X0 hx (hb hby d19_2) (L' := #[.val (.ref t), .val (.int (32 : Int32)), .val (.int (0 : Int32)), .val (.int (2 : Int32)), .val (.int (32 : Int32)), .unset]) rfl ?_
  refine .iloadN X0 hx (hb hby d19_4) rfl ?_
  refine .istore X0 hx (hb hby d19_5) (L' := #[.val (.ref t), .val (.int (32 : Int32)), .val (.int (0 : Int32)), .val (.int (2 : Int32)), .val (.int (32 : Int32)), .val (.int (0 : Int32))]) rfl ?_
  refine .iload X0 hx (hb hby d19_7) rfl ?_
  refine .iloadN X0 hx (hb hby d19_9) rfl ?_
  refine .icmpNo X0 hx (hb hby d19_10) (tlt ((by decide) : (0 : Int32) < (2 : Int32))).2.1 ?_
  refine .aloadN X0 hx (hb hby d19_13) rfl rfl ?_
  refine .iload X0 hx (hb hby d19_14) rfl ?_
  obtain ⟨cl271, Ar271, -, S271, -, H271, -⟩ := id V_t
  have hin271 : ¬ ((0 : Int32) < 0 ∨ cl271.slots.size ≤ ((0 : Int32)).toNatClampNeg) := inb_of S271 ⟨by decide, by decide⟩
  refine .st (fun _ => X0.baloadBytes hx (j := (0 : Int32)) (v := (.int c0.toInt8.toInt32)) (by first | exact Ar271.1 | (rw [e0]; exact Ar271.1)) (State.isArrayOf_alike hZ.alike Ar271.2.1) Ar271.2.2 hin271 (H271.at hin271 rfl) (g := (mkF m 16 #[.val (.ref t), .val (.int (32 : Int32)), .val (.int (0 : Int32)), .val (.int (2 : Int32)), .val (.int (32 : Int32)), .val (.int (0 : Int32))] [(.int (0 : Int32)), (.ref t)])) rfl rfl (hb hby d19_16) _) ?_
  show OwnGo p e below s _ _ _ s₁ (mkF m 17 _ [(.int c0.toInt8.toInt32)])
  refine .iload X0 hx (hb hby d19_17) rfl ?_
  have b0 := own_b32 P_c0 hl.1
  by_cases q0 : c0.toInt8.toInt32 = (32 : Int32)
  · refine .icmpNo X0 hx (hb hby d19_19) (teq (q0 : c0.toInt8.toInt32 = (32 : Int32))).2 ?_
    refine .iload X0 hx (hb hby d19_22) rfl ?_
    exact OwnGo.ret X0 hx hret hlk rfl (Or.inl ⟨rfl, Or.inl rfl, _, rfl⟩) (hb hby d19_24) (by show Qilc2 Z t kb c0 c1 h0 n0 _ s₁.heap _; rw [e0]; exact ⟨_, rfl, N0, rfl, Or.inr ⟨by decide, (Or.inl (b0.1 q0))⟩⟩) (by decide) (by decide)
  · refine .icmpYes (pc := 19) X0 hx 25 (hb hby d19_19) (feq (q0 : ¬ (c0.toInt8.toInt32 = (32 : Int32)))).2 (by decide) (by decide) ?_
    refine .iinc X0 hx (hb hby d19_25) rfl own_ka0_1 (L' := #[.val (.ref t), .val (.int (32 : Int32)), .val (.int (0 : Int32)), .val (.int (2 : Int32)), .val (.int (32 : Int32)), .val (.int (1 : Int32))]) rfl ?_
    refine .goto (pc := 28) X0 hx 7 (hb hby d19_28) (by decide) (by decide) ?_
    refine .iload X0 hx (hb hby d19_7) rfl ?_
    refine .iloadN X0 hx (hb hby d19_9) rfl ?_
    refine .icmpNo X0 hx (hb hby d19_10) (tlt ((by decide) : (1 : Int32) < (2 : Int32))).2.1 ?_
    refine .aloadN X0 hx (hb hby d19_13) rfl rfl ?_
    refine .iload X0 hx (hb hby d19_14) rfl ?_
    obtain ⟨cl272, Ar272, -, S272, -, H272, -⟩ := id V_t
    have hin272 : ¬ ((1 : Int32) < 0 ∨ cl272.slots.size ≤ ((1 : Int32)).toNatClampNeg) := inb_of S272 ⟨by decide, by decide⟩
    refine .st (fun _ => X0.baloadBytes hx (j := (1 : Int32)) (v := (.int c1.toInt8.toInt32)) (by first | exact Ar272.1 | (rw [e0]; exact Ar272.1)) (State.isArrayOf_alike hZ.alike Ar272.2.1) Ar272.2.2 hin272 (H272.at hin272 rfl) (g := (mkF m 16 #[.val (.ref t), .val (.int (32 : Int32)), .val (.int (0 : Int32)), .val (.int (2 : Int32)), .val (.int (32 : Int32)), .val (.int (1 : Int32))] [(.int (1 : Int32)), (.ref t)])) rfl rfl (hb hby d19_16) _) ?_
    show OwnGo p e below s _ _ _ s₁ (mkF m 17 _ [(.int c1.toInt8.toInt32)])
    refine .iload X0 hx (hb hby d19_17) rfl ?_
    have b1 := own_b32 P_c1 hl.2
    by_cases q1 : c1.toInt8.toInt32 = (32 : Int32)
    · refine .icmpNo X0 hx (hb hby d19_19) (teq (q1 : c1.toInt8.toInt32 = (32 : Int32))).2 ?_
      refine .iload X0 hx (hb hby d19_22) rfl ?_
      exact OwnGo.ret X0 hx hret hlk rfl (Or.inl ⟨rfl, Or.inl rfl, _, rfl⟩) (hb hby d19_24) (by show Qilc2 Z t kb c0 c1 h0 n0 _ s₁.heap _; rw [e0]; exact ⟨_, rfl, N0, rfl, Or.inr ⟨by decide, (Or.inr (b1.1 q1))⟩⟩) (by decide) (by decide)
    · refine .icmpYes (pc := 19) X0 hx 25 (hb hby d19_19) (feq (q1 : ¬ (c1.toInt8.toInt32 = (32 : Int32)))).2 (by decide) (by decide) ?_
      refine .iinc X0 hx (hb hby d19_25) rfl own_ka1_1 (L' := #[.val (.ref t), .val (.int (32 : Int32)), .val (.int (0 : Int32)), .val (.int (2 : Int32)), .val (.int (32 : Int32)), .val (.int (2 : Int32))]) rfl ?_
      refine .goto (pc := 28) X0 hx 7 (hb hby d19_28) (by decide) (by decide) ?_
      refine .iload X0 hx (hb hby d19_7) rfl ?_
      refine .iloadN X0 hx (hb hby d19_9) rfl ?_
      refine .icmpYes (pc := 10) X0 hx 31 (hb hby d19_10) (flt ((by decide) : ¬ ((2 : Int32) < (2 : Int32)))).2.1 (by decide) (by decide) ?_
      refine .iconst X0 hx (hb hby d19_31) own_kim1 ?_
      exact OwnGo.ret X0 hx hret hlk rfl (Or.inl ⟨rfl, Or.inl rfl, _, rfl⟩) (hb hby d19_32) (by show Qilc2 Z t kb c0 c1 h0 n0 _ s₁.heap _; rw [e0]; exact ⟨_, rfl, N0, rfl, Or.inl ⟨by decide, (by simp only [not_or]; exact ⟨fun z => q0 (b0.2 z), fun z => q1 (b1.2 z)⟩)⟩⟩) (by decide) (by decide)
def QiL2 (Z : State) (t : Addr) (kb : ClassId) (c0 : Int32) (c1 : Int32) (h0 : Heap) (n0 : Nat) (v : Option Value) (h : Heap) (L : List Loc) : Prop := ∃ r : Int32, v = some (.int r) ∧ Fr n0 L ∧ h = h0 ∧ ((r < (0 : Int32) ∧ ¬ (c0 = (32 : Int32) ∨ c1 = (32 : Int32))) ∨ (¬ r < (0 : Int32) ∧ (c0 = (32 : Int32) ∨ c1 = (32 : Int32))))
theorem rmiL2 (l : Launch) (Z : State) (a0 : Array Value) (hw : own_tb a0 Z) (ws : List Jvm.Cond) (t : Addr) (kb : ClassId) (c0 : Int32) (c1 : Int32) (h0 : Heap) (n0 : Nat) (Z0 : n0 ≤ h0.size) (V_t : Arv Z h0 t kb .byte (2 : Int32) [(.int c0.toInt8.toInt32), (.int c1.toInt8.toInt32)] (.int (0 : Int32))) (hl : ¬ (255 : Int32) < c0 ∧ ¬ (255 : Int32) < c1) (P_c0 : own_u c0) (P_c1 : own_u c1) :
    OwnMet l (⟨"java/lang/StringLatin1", "indexOf", "([BIII)I"⟩ : MethodName) jdk_43_method_22_code 4 (some .int) ws ({ frames := 1, cells := 0, slots := 0, locals := 17 } : Room) #[(.ref t), (.int (32 : Int32)), (.int (0 : Int32)), (.int (2 : Int32))] Z h0 (QiL2 Z t kb c0 c1 h0 n0) := by
  refine own_met (plainFor_of_name pn_33) ?_
  intro p e s m below meth c s₁ X0 hx hby hml hret hlk hown hnm hZ e0
  have N0 := Fr.nil n0
  have Z_ := Z0
  refine OwnGo.cast (ef_iL2 m t (32 : Int32) (0 : Int32) (2 : Int32)) ?_
  show OwnGo p e below s _ _ _ s₁ (mkF m 0 _ [])
  refine .iloadN X0 hx (hb hby d15_0) rfl ?_
  obtain ⟨_, _, ⟨T273, L273, k273, n273⟩, -, X273, ⟨Lc273, hQ273, l273, y273, z273⟩, st273⟩ := Jvm.LawKit.callS X0 hx (y := (⟨"java/lang/StringLatin1", "canEncode", "(I)Z"⟩ : MethodName)) hown (mvT hZ (W_ hw 77 rfl)) (mvT hZ (W_ hw 78 rfl)) (mvT hZ (W_ hw 75 rfl)) (mvT hZ (W_ hw 79 rfl)) (by decide) (backOf (W := 0) (rmcanI l Z a0 hw []  h0 n0 Z_ ) hZ (W_ hw 79 rfl) (W_ hw 75 rfl) (by decide) (by decide)) (g := (mkF m 1 #[.val (.ref t), .val (.int (32 : Int32)), .val (.int (0 : Int32)), .val (.int (2 : Int32))] [(.int (32 : Int32))])) rfl (by rw [hml]; rfl) (argsL := [(.int (32 : Int32))]) (rest := []) (lenOf pd_17 rfl) rfl (Nat.le_of_eq rfl) (hb hby d15_1) (fun _ _ => ⟨rfl, e0, (by decide : 0 + 0 ≤ _), (by decide : 0 + 0 ≤ _)⟩)
  dsimp only [Pt.U, Pt.locs, Pt.cells, Pt.slots] at X273 l273 y273 z273 st273 hQ273
  subst l273 y273 z273
  obtain ⟨rfl, N273q, e273⟩ := hQ273
  have N273 := Fr.app N0 N273q
  refine .st st273 ?_
  show OwnGo p e below s _ _ _ T273 (mkF m 4 _ [(.int (1 : Int32))])
  refine .ifYes (pc := 4) X273 hx 9 (hb hby d15_4) ((if0 _ _).trans (feq ((by decide) : ¬ ((1 : Int32) = (0 : Int32)))).2) (by decide) (by decide) ?_
  refine .iloadN X273 hx (hb hby d15_9) rfl ?_
  refine .iconst X273 hx (hb hby d15_10) own_ki0 ?_
  obtain ⟨_, _, ⟨T274, L274, k274, n274⟩, -, X274, ⟨Lc274, hQ274, l274, y274, z274⟩, st274⟩ := Jvm.LawKit.callS X273 hx (y := (⟨"java/lang/Math", "max", "(II)I"⟩ : MethodName)) hown (mvT hZ (W_ hw 80 rfl)) (mvT hZ (W_ hw 81 rfl)) (mvT hZ (W_ hw 82 rfl)) (mvT hZ (W_ hw 83 rfl)) (by decide) (backOf (W := 0) (rmmax0 l Z a0 hw []  h0 n0 Z_ ) hZ (W_ hw 83 rfl) (W_ hw 82 rfl) (by decide) (by decide)) (g := (mkF m 11 #[.val (.ref t), .val (.int (32 : Int32)), .val (.int (0 : Int32)), .val (.int (2 : Int32))] [(.int (0 : Int32)), (.int (0 : Int32))])) rfl (by rw [hml]; rfl) (argsL := [(.int (0 : Int32)), (.int (0 : Int32))]) (rest := []) (lenOf pd_18 rfl) rfl (Nat.le_of_eq rfl) (hb hby d15_11) (fun _ _ => ⟨rfl, e273, (by decide : 0 + 0 ≤ _), (by decide : 0 + 0 ≤ _)⟩)
  dsimp only [Pt.U, Pt.locs, Pt.cells, Pt.slots] at X274 l274 y274 z274 st274 hQ274
  subst l274 y274 z274
  obtain ⟨rfl, N274q, e274⟩ := hQ274
  have N274 := Fr.app N273 N274q
  refine .st st274 ?_
  show OwnGo p e below s _ _ _ T274 (mkF m 14 _ [(.int (0 : Int32))])
  refine .istoreN X274 hx (hb hby d15_14) (L' := #[.val (.ref t), .val (.int (32 : Int32)), .val (.int (0 : Int32)), .val (.int (2 : Int32))]) rfl ?_
  refine .iloadN X274 hx (hb hby d15_15) rfl ?_
  refine .aloadN X274 hx (hb hby d15_16) rfl rfl ?_
  obtain ⟨cl275, Ar275, -, S275, N275, -, -⟩ := id V_t
  refine .st (fun _ => own_len hZ (len_of S275 N275) Ar275 X274 e274 hx (g := (mkF m 17 #[.val (.ref t), .val (.int (32 : Int32)), .val (.int (0 : Int32)), .val (.int (2 : Int32))] [(.ref t), (.int (2 : Int32))])) rfl rfl (hb hby d15_17) _) ?_
  show OwnGo p e below s _ _ _ T274 (mkF m 18 _ [(.int (2 : Int32)), (.int (2 : Int32))])
  obtain ⟨_, _, ⟨T276, L276, k276, n276⟩, -, X276, ⟨Lc276, hQ276, l276, y276, z276⟩, st276⟩ := Jvm.LawKit.callS X274 hx (y := (⟨"java/lang/Math", "min", "(II)I"⟩ : MethodName)) hown (mvT hZ (W_ hw 84 rfl)) (mvT hZ (W_ hw 85 rfl)) (mvT hZ (W_ hw 82 rfl)) (mvT hZ (W_ hw 86 rfl)) (by decide) (backOf (W := 0) (rmminZ l Z a0 hw [] (2 : Int32) h0 n0 Z_ (by decide)) hZ (W_ hw 86 rfl) (W_ hw 82 rfl) (by decide) (by decide)) (g := (mkF m 18 #[.val (.ref t), .val (.int (32 : Int32)), .val (.int (0 : Int32)), .val (.int (2 : Int32))] [(.int (2 : Int32)), (.int (2 : Int32))])) rfl (by rw [hml]; rfl) (argsL := [(.int (2 : Int32)), (.int (2 : Int32))]) (rest := []) (lenOf pd_18 rfl) rfl (Nat.le_of_eq rfl) (hb hby d15_18) (fun _ _ => ⟨rfl, e274, (by decide : 0 + 0 ≤ _), (by decide : 0 + 0 ≤ _)⟩)
  dsimp only [Pt.U, Pt.locs, Pt.cells, Pt.slots] at X276 l276 y276 z276 st276 hQ276
  subst l276 y276 z276
  obtain ⟨rfl, N276q, e276⟩ := hQ276
  have N276 := Fr.app N274 N276q
  refine .st st276 ?_
  show OwnGo p e below s _ _ _ T276 (mkF m 21 _ [(.int (2 : Int32))])
  refine .istoreN X276 hx (hb hby d15_21) (L' := #[.val (.ref t), .val (.int (32 : Int32)), .val (.int (0 : Int32)), .val (.int (2 : Int32))]) rfl ?_
  refine .iloadN X276 hx (hb hby d15_22) rfl ?_
  refine .iloadN X276 hx (hb hby d15_23) rfl ?_
  refine .icmpYes (pc := 24) X276 hx 29 (hb hby d15_24) (tlt ((by decide) : (0 : Int32) < (2 : Int32))).1 (by decide) (by decide) ?_
  refine .aloadN X276 hx (hb hby d15_29) rfl rfl ?_
  refine .iloadN X276 hx (hb hby d15_30) rfl ?_
  refine .iloadN X276 hx (hb hby d15_31) rfl ?_
  refine .iloadN X276 hx (hb hby d15_32) rfl ?_
  obtain ⟨_, _, ⟨T277, L277, k277, n277⟩, -, X277, ⟨Lc277, hQ277, l277, y277, z277⟩, st277⟩ := Jvm.LawKit.callS X276 hx (y := (⟨"java/lang/StringLatin1", "indexOfChar", "([BIII)I"⟩ : MethodName)) hown (mvT hZ (W_ hw 87 rfl)) (mvT hZ (W_ hw 88 rfl)) (mvT hZ (W_ hw 75 rfl)) (mvT hZ (W_ hw 89 rfl)) (by decide) (backOf (W := 0) (rmilc2 l Z a0 hw [] t kb c0 c1 h0 n0 Z_ V_t hl P_c0 P_c1) hZ (W_ hw 89 rfl) (W_ hw 75 rfl) (by decide) (by decide)) (g := (mkF m 33 #[.val (.ref t), .val (.int (32 : Int32)), .val (.int (0 : Int32)), .val (.int (2 : Int32))] [(.int (2 : Int32)), (.int (0 : Int32)), (.int (32 : Int32)), (.ref t)])) rfl (by rw [hml]; rfl) (argsL := [(.ref t), (.int (32 : Int32)), (.int (0 : Int32)), (.int (2 : Int32))]) (rest := []) (lenOf pd_19 rfl) rfl (Nat.le_of_eq rfl) (hb hby d15_33) (fun _ _ => ⟨rfl, e276, (by decide : 0 + 0 ≤ _), (by decide : 0 + 0 ≤ _)⟩)
  dsimp only [Pt.U, Pt.locs, Pt.cells, Pt.slots] at X277 l277 y277 z277 st277 hQ277
  subst l277 y277 z277
  obtain ⟨r277, rfl, N277q, e277, hr277⟩ := hQ277
  have N277 := Fr.app N276 N277q
  refine .st st277 ?_
  show OwnGo p e below s _ _ _ T277 (mkF m 36 _ [(.int r277)])
  exact OwnGo.ret X277 hx hret hlk rfl (Or.inl ⟨rfl, Or.inl rfl, _, rfl⟩) (hb hby d15_36) (by show QiL2 Z t kb c0 c1 h0 n0 _ T277.heap _; rw [e277]; exact ⟨_, rfl, N277, rfl, hr277⟩) (by decide) (by decide)
def Qiuu2 (Z : State) (t : Addr) (kb : ClassId) (c0 : Int32) (c1 : Int32) (h0 : Heap) (n0 : Nat) (v : Option Value) (h : Heap) (L : List Loc) : Prop := ∃ r : Int32, v = some (.int r) ∧ Fr n0 L ∧ h = h0 ∧ ((r < (0 : Int32) ∧ ¬ (c0 = (32 : Int32) ∨ c1 = (32 : Int32))) ∨ (¬ r < (0 : Int32) ∧ (c0 = (32 : Int32) ∨ c1 = (32 : Int32))))
theorem rmiuu2 (l : Launch) (Z : State) (a0 : Array Value) (hw : own_tb a0 Z) (ws : List Jvm.Cond) (t : Addr) (kb : ClassId) (c0 : Int32) (c1 : Int32) (h0 : Heap) (n0 : Nat) (Z0 : n0 ≤ h0.size) (O_ : Old Z n0 h0) (S_AD : Sta Z Z.heap "java/lang/StringUTF16" "$assertionsDisabled" "Z" (.int (1 : Int32))) (S_HB : Sta Z Z.heap "java/lang/StringUTF16" "HI_BYTE_SHIFT" "I" (.int (0 : Int32))) (S_LB : Sta Z Z.heap "java/lang/StringUTF16" "LO_BYTE_SHIFT" "I" (.int (8 : Int32))) (V_t : Arv Z h0 t kb .byte (4 : Int32) [(.int (own_lo c0)), (.int (own_hi c0)), (.int (own_lo c1)), (.int (own_hi c1))] (.int (0 : Int32))) (P_c0 : own_u c0) (P_c1 : own_u c1) :
    OwnMet l (⟨"java/lang/StringUTF16", "indexOfCharUnsafe", "([BIII)I"⟩ : MethodName) jdk_52_method_48_code 5 (some .int) ws ({ frames := 1, cells := 0, slots := 0, locals := 13 } : Room) #[(.ref t), (.int (32 : Int32)), (.int (0 : Int32)), (.int (2 : Int32))] Z h0 (Qiuu2 Z t kb c0 c1 h0 n0) := by
  refine own_met (plainFor_of_name pn_23) ?_
  intro p e s m below meth c s₁ X0 hx hby hml hret hlk hown hnm hZ e0
  have N0 := Fr.nil n0
  have Z_ := Z0
  refine OwnGo.cast (ef_iuu2 m t (32 : Int32) (0 : Int32) (2 : Int32)) ?_
  show OwnGo p e below s _ _ _ s₁ (mkF m 0 _ [])
  refine .iloadN X0 hx (hb hby d31_0) rfl ?_
  refine .istore X0 hx (hb hby d31_1) (L' := #[.val (.ref t), .val (.int (32 : Int32)), .val (.int (0 : Int32)), .val (.int (2 : Int32)), .val (.int (0 : Int32))]) rfl ?_
  refine .iload X0 hx (hb hby d31_3) rfl ?_
  refine .iloadN X0 hx (hb hby d31_5) rfl ?_
  refine .icmpNo X0 hx (hb hby d31_6) (tlt ((by decide) : (0 : Int32) < (2 : Int32))).2.1 ?_
  refine .aloadN X0 hx (hb hby d31_9) rfl rfl ?_
  refine .iload X0 hx (hb hby d31_10) rfl ?_
  obtain ⟨_, _, ⟨T278, L278, k278, n278⟩, -, X278, ⟨Lc278, hQ278, l278, y278, z278⟩, st278⟩ := Jvm.LawKit.callS X0 hx (y := (⟨"java/lang/StringUTF16", "getChar", "([BI)C"⟩ : MethodName)) hown (mvT hZ (W_ hw 106 rfl)) (mvT hZ (W_ hw 107 rfl)) (mvT hZ (W_ hw 49 rfl)) (mvT hZ (W_ hw 108 rfl)) (by decide) (backOf (W := 0) (rmgetC0 l Z a0 hw [] t kb c0 (4 : Int32) [(.int (own_lo c0)), (.int (own_hi c0)), (.int (own_lo c1)), (.int (own_hi c1))] h0 n0 Z_ O_ S_AD S_HB S_LB V_t ⟨by decide, by decide⟩ ⟨by decide, by decide⟩ rfl rfl P_c0) hZ (W_ hw 108 rfl) (W_ hw 49 rfl) (by decide) (by decide)) (g := (mkF m 12 #[.val (.ref t), .val (.int (32 : Int32)), .val (.int (0 : Int32)), .val (.int (2 : Int32)), .val (.int (0 : Int32))] [(.int (0 : Int32)), (.ref t)])) rfl (by rw [hml]; rfl) (argsL := [(.ref t), (.int (0 : Int32))]) (rest := []) (lenOf pd_9 rfl) rfl (Nat.le_of_eq rfl) (hb hby d31_12) (fun _ _ => ⟨rfl, e0, (by decide : 0 + 0 ≤ _), (by decide : 0 + 0 ≤ _)⟩)
  dsimp only [Pt.U, Pt.locs, Pt.cells, Pt.slots] at X278 l278 y278 z278 st278 hQ278
  subst l278 y278 z278
  obtain ⟨rfl, N278q, e278⟩ := hQ278
  have N278 := Fr.app N0 N278q
  refine .st st278 ?_
  show OwnGo p e below s _ _ _ T278 (mkF m 15 _ [(.int c0)])
  refine .iloadN X278 hx (hb hby d31_15) rfl ?_
  by_cases q0 : c0 = (32 : Int32)
  · refine .icmpNo X278 hx (hb hby d31_16) (teq (q0 : c0 = (32 : Int32))).2 ?_
    refine .iload X278 hx (hb hby d31_19) rfl ?_
    exact OwnGo.ret X278 hx hret hlk rfl (Or.inl ⟨rfl, Or.inl rfl, _, rfl⟩) (hb hby d31_21) (by show Qiuu2 Z t kb c0 c1 h0 n0 _ T278.heap _; rw [e278]; exact ⟨_, rfl, N278, rfl, Or.inr ⟨by decide, (Or.inl q0)⟩⟩) (by decide) (by decide)
  · refine .icmpYes (pc := 16) X278 hx 22 (hb hby d31_16) (feq (q0 : ¬ (c0 = (32 : Int32)))).2 (by decide) (by decide) ?_
    refine .iinc X278 hx (hb hby d31_22) rfl own_ka0_1 (L' := #[.val (.ref t), .val (.int (32 : Int32)), .val (.int (0 : Int32)), .val (.int (2 : Int32)), .val (.int (1 : Int32))]) rfl ?_
    refine .goto (pc := 25) X278 hx 3 (hb hby d31_25) (by decide) (by decide) ?_
    refine .iload X278 hx (hb hby d31_3) rfl ?_
    refine .iloadN X278 hx (hb hby d31_5) rfl ?_
    refine .icmpNo X278 hx (hb hby d31_6) (tlt ((by decide) : (1 : Int32) < (2 : Int32))).2.1 ?_
    refine .aloadN X278 hx (hb hby d31_9) rfl rfl ?_
    refine .iload X278 hx (hb hby d31_10) rfl ?_
    obtain ⟨_, _, ⟨T279, L279, k279, n279⟩, -, X279, ⟨Lc279, hQ279, l279, y279, z279⟩, st279⟩ := Jvm.LawKit.callS X278 hx (y := (⟨"java/lang/StringUTF16", "getChar", "([BI)C"⟩ : MethodName)) hown (mvT hZ (W_ hw 106 rfl)) (mvT hZ (W_ hw 107 rfl)) (mvT hZ (W_ hw 49 rfl)) (mvT hZ (W_ hw 108 rfl)) (by decide) (backOf (W := 0) (rmgetC1 l Z a0 hw [] t kb c1 (4 : Int32) [(.int (own_lo c0)), (.int (own_hi c0)), (.int (own_lo c1)), (.int (own_hi c1))] h0 n0 Z_ O_ S_AD S_HB S_LB V_t ⟨by decide, by decide⟩ ⟨by decide, by decide⟩ rfl rfl P_c1) hZ (W_ hw 108 rfl) (W_ hw 49 rfl) (by decide) (by decide)) (g := (mkF m 12 #[.val (.ref t), .val (.int (32 : Int32)), .val (.int (0 : Int32)), .val (.int (2 : Int32)), .val (.int (1 : Int32))] [(.int (1 : Int32)), (.ref t)])) rfl (by rw [hml]; rfl) (argsL := [(.ref t), (.int (1 : Int32))]) (rest := []) (lenOf pd_9 rfl) rfl (Nat.le_of_eq rfl) (hb hby d31_12) (fun _ _ => ⟨rfl, e278, (by decide : 0 + 0 ≤ _), (by decide : 0 + 0 ≤ _)⟩)
    dsimp only [Pt.U, Pt.locs, Pt.cells, Pt.slots] at X279 l279 y279 z279 st279 hQ279
    subst l279 y279 z279
    obtain ⟨rfl, N279q, e279⟩ := hQ279
    have N279 := Fr.app N278 N279q
    refine .st st279 ?_
    show OwnGo p e below s _ _ _ T279 (mkF m 15 _ [(.int c1)])
    refine .iloadN X279 hx (hb hby d31_15) rfl ?_
    by_cases q1 : c1 = (32 : Int32)
    · refine .icmpNo X279 hx (hb hby d31_16) (teq (q1 : c1 = (32 : Int32))).2 ?_
      refine .iload X279 hx (hb hby d31_19) rfl ?_
      exact OwnGo.ret X279 hx hret hlk rfl (Or.inl ⟨rfl, Or.inl rfl, _, rfl⟩) (hb hby d31_21) (by show Qiuu2 Z t kb c0 c1 h0 n0 _ T279.heap _; rw [e279]; exact ⟨_, rfl, N279, rfl, Or.inr ⟨by decide, (Or.inr q1)⟩⟩) (by decide) (by decide)
    · refine .icmpYes (pc := 16) X279 hx 22 (hb hby d31_16) (feq (q1 : ¬ (c1 = (32 : Int32)))).2 (by decide) (by decide) ?_
      refine .iinc X279 hx (hb hby d31_22) rfl own_ka1_1 (L' := #[.val (.ref t), .val (.int (32 : Int32)), .val (.int (0 : Int32)), .val (.int (2 : Int32)), .val (.int (2 : Int32))]) rfl ?_
      refine .goto (pc := 25) X279 hx 3 (hb hby d31_25) (by decide) (by decide) ?_
      refine .iload X279 hx (hb hby d31_3) rfl ?_
      refine .iloadN X279 hx (hb hby d31_5) rfl ?_
      refine .icmpYes (pc := 6) X279 hx 28 (hb hby d31_6) (flt ((by decide) : ¬ ((2 : Int32) < (2 : Int32)))).2.1 (by decide) (by decide) ?_
      refine .iconst X279 hx (hb hby d31_28) own_kim1 ?_
      exact OwnGo.ret X279 hx hret hlk rfl (Or.inl ⟨rfl, Or.inl rfl, _, rfl⟩) (hb hby d31_29) (by show Qiuu2 Z t kb c0 c1 h0 n0 _ T279.heap _; rw [e279]; exact ⟨_, rfl, N279, rfl, Or.inl ⟨by decide, (by simp only [not_or]; exact ⟨q0, q1⟩)⟩⟩) (by decide) (by decide)
def Qiuc2 (Z : State) (t : Addr) (kb : ClassId) (c0 : Int32) (c1 : Int32) (fmv : Value) (h0 : Heap) (n0 : Nat) (v : Option Value) (h : Heap) (L : List Loc) : Prop := ∃ r : Int32, v = some (.int r) ∧ Fr n0 L ∧ h = h0 ∧ ((r < (0 : Int32) ∧ ¬ (c0 = (32 : Int32) ∨ c1 = (32 : Int32))) ∨ (¬ r < (0 : Int32) ∧ (c0 = (32 : Int32) ∨ c1 = (32 : Int32))))
theorem rmiuc2 (l : Launch) (Z : State) (a0 : Array Value) (hw : own_tb a0 Z) (ws : List Jvm.Cond) (t : Addr) (kb : ClassId) (c0 : Int32) (c1 : Int32) (fmv : Value) (h0 : Heap) (n0 : Nat) (Z0 : n0 ≤ h0.size) (O_ : Old Z n0 h0) (S_AD : Sta Z Z.heap "java/lang/StringUTF16" "$assertionsDisabled" "Z" (.int (1 : Int32))) (S_HB : Sta Z Z.heap "java/lang/StringUTF16" "HI_BYTE_SHIFT" "I" (.int (0 : Int32))) (S_LB : Sta Z Z.heap "java/lang/StringUTF16" "LO_BYTE_SHIFT" "I" (.int (8 : Int32))) (S_SF : Sta Z Z.heap "jdk/internal/util/Preconditions" "SIOOBE_FORMATTER" "Ljava/util/function/BiFunction;" fmv) (rf_fmv : fmv.isRef = true) (V_t : Arv Z h0 t kb .byte (4 : Int32) [(.int (own_lo c0)), (.int (own_hi c0)), (.int (own_lo c1)), (.int (own_hi c1))] (.int (0 : Int32))) (P_c0 : own_u c0) (P_c1 : own_u c1) :
    OwnMet l (⟨"java/lang/StringUTF16", "indexOfChar", "([BIII)I"⟩ : MethodName) jdk_52_method_47_code 4 (some .int) ws ({ frames := 3, cells := 0, slots := 0, locals := 43 } : Room) #[(.ref t), (.int (32 : Int32)), (.int (0 : Int32)), (.int (2 : Int32))] Z h0 (Qiuc2 Z t kb c0 c1 fmv h0 n0) := by
  refine own_met (plainFor_of_name pn_23) ?_
  intro p e s m below meth c s₁ X0 hx hby hml hret hlk hown hnm hZ e0
  have N0 := Fr.nil n0
  have Z_ := Z0
  refine OwnGo.cast (ef_iuc2 m t (32 : Int32) (0 : Int32) (2 : Int32)) ?_
  show OwnGo p e below s _ _ _ s₁ (mkF m 0 _ [])
  refine .iloadN X0 hx (hb hby d26_0) rfl ?_
  refine .iloadN X0 hx (hb hby d26_1) rfl ?_
  refine .aloadN X0 hx (hb hby d26_2) rfl rfl ?_
  obtain ⟨_, _, ⟨T280, L280, k280, n280⟩, -, X280, ⟨Lc280, hQ280, l280, y280, z280⟩, st280⟩ := Jvm.LawKit.callS X0 hx (y := (⟨"java/lang/StringUTF16", "checkBoundsBeginEnd", "(II[B)V"⟩ : MethodName)) hown (mvT hZ (W_ hw 118 rfl)) (mvT hZ (W_ hw 119 rfl)) (mvT hZ (W_ hw 49 rfl)) (mvT hZ (W_ hw 120 rfl)) (by decide) (backOf (W := 0) (rmcub l Z a0 hw [] t kb [(.int (own_lo c0)), (.int (own_hi c0)), (.int (own_lo c1)), (.int (own_hi c1))] (4 : Int32) (2 : Int32) fmv h0 n0 Z_ O_ S_SF rf_fmv V_t (by decide) (by decide) (by decide)) hZ (W_ hw 120 rfl) (W_ hw 49 rfl) (by decide) (by decide)) (g := (mkF m 3 #[.val (.ref t), .val (.int (32 : Int32)), .val (.int (0 : Int32)), .val (.int (2 : Int32))] [(.ref t), (.int (2 : Int32)), (.int (0 : Int32))])) rfl (by rw [hml]; rfl) (argsL := [(.int (0 : Int32)), (.int (2 : Int32)), (.ref t)]) (rest := []) (lenOf pd_20 rfl) rfl (Nat.le_of_eq rfl) (hb hby d26_3) (fun _ _ => ⟨rfl, e0, (by decide : 0 + 0 ≤ _), (by decide : 0 + 0 ≤ _)⟩)
  dsimp only [Pt.U, Pt.locs, Pt.cells, Pt.slots] at X280 l280 y280 z280 st280 hQ280
  subst l280 y280 z280
  obtain ⟨rfl, N280q, e280⟩ := hQ280
  have N280 := Fr.app N0 N280q
  refine .st st280 ?_
  show OwnGo p e below s _ _ _ T280 (mkF m 6 _ [])
  refine .aloadN X280 hx (hb hby d26_6) rfl rfl ?_
  refine .iloadN X280 hx (hb hby d26_7) rfl ?_
  refine .iloadN X280 hx (hb hby d26_8) rfl ?_
  refine .iloadN X280 hx (hb hby d26_9) rfl ?_
  obtain ⟨_, _, ⟨T281, L281, k281, n281⟩, -, X281, ⟨Lc281, hQ281, l281, y281, z281⟩, st281⟩ := Jvm.LawKit.callS X280 hx (y := (⟨"java/lang/StringUTF16", "indexOfCharUnsafe", "([BIII)I"⟩ : MethodName)) hown (mvT hZ (W_ hw 132 rfl)) (mvT hZ (W_ hw 133 rfl)) (mvT hZ (W_ hw 49 rfl)) (mvT hZ (W_ hw 134 rfl)) (by decide) (backOf (W := 0) (rmiuu2 l Z a0 hw [] t kb c0 c1 h0 n0 Z_ O_ S_AD S_HB S_LB V_t P_c0 P_c1) hZ (W_ hw 134 rfl) (W_ hw 49 rfl) (by decide) (by decide)) (g := (mkF m 10 #[.val (.ref t), .val (.int (32 : Int32)), .val (.int (0 : Int32)), .val (.int (2 : Int32))] [(.int (2 : Int32)), (.int (0 : Int32)), (.int (32 : Int32)), (.ref t)])) rfl (by rw [hml]; rfl) (argsL := [(.ref t), (.int (32 : Int32)), (.int (0 : Int32)), (.int (2 : Int32))]) (rest := []) (lenOf pd_19 rfl) rfl (Nat.le_of_eq rfl) (hb hby d26_10) (fun _ _ => ⟨rfl, e280, (by decide : 0 + 0 ≤ _), (by decide : 0 + 0 ≤ _)⟩)
  dsimp only [Pt.U, Pt.locs, Pt.cells, Pt.slots] at X281 l281 y281 z281 st281 hQ281
  subst l281 y281 z281
  obtain ⟨r281, rfl, N281q, e281, hr281⟩ := hQ281
  have N281 := Fr.app N280 N281q
  refine .st st281 ?_
  show OwnGo p e below s _ _ _ T281 (mkF m 13 _ [(.int r281)])
  exact OwnGo.ret X281 hx hret hlk rfl (Or.inl ⟨rfl, Or.inl rfl, _, rfl⟩) (hb hby d26_13) (by show Qiuc2 Z t kb c0 c1 fmv h0 n0 _ T281.heap _; rw [e281]; exact ⟨_, rfl, N281, rfl, hr281⟩) (by decide) (by decide)
def QiU2 (Z : State) (t : Addr) (kb : ClassId) (c0 : Int32) (c1 : Int32) (fmv : Value) (h0 : Heap) (n0 : Nat) (v : Option Value) (h : Heap) (L : List Loc) : Prop := ∃ r : Int32, v = some (.int r) ∧ Fr n0 L ∧ h = h0 ∧ ((r < (0 : Int32) ∧ ¬ (c0 = (32 : Int32) ∨ c1 = (32 : Int32))) ∨ (¬ r < (0 : Int32) ∧ (c0 = (32 : Int32) ∨ c1 = (32 : Int32))))
theorem rmiU2 (l : Launch) (Z : State) (a0 : Array Value) (hw : own_tb a0 Z) (ws : List Jvm.Cond) (t : Addr) (kb : ClassId) (c0 : Int32) (c1 : Int32) (fmv : Value) (h0 : Heap) (n0 : Nat) (Z0 : n0 ≤ h0.size) (O_ : Old Z n0 h0) (S_AD : Sta Z Z.heap "java/lang/StringUTF16" "$assertionsDisabled" "Z" (.int (1 : Int32))) (S_HB : Sta Z Z.heap "java/lang/StringUTF16" "HI_BYTE_SHIFT" "I" (.int (0 : Int32))) (S_LB : Sta Z Z.heap "java/lang/StringUTF16" "LO_BYTE_SHIFT" "I" (.int (8 : Int32))) (S_SF : Sta Z Z.heap "jdk/internal/util/Preconditions" "SIOOBE_FORMATTER" "Ljava/util/function/BiFunction;" fmv) (rf_fmv : fmv.isRef = true) (V_t : Arv Z h0 t kb .byte (4 : Int32) [(.int (own_lo c0)), (.int (own_hi c0)), (.int (own_lo c1)), (.int (own_hi c1))] (.int (0 : Int32))) (P_c0 : own_u c0) (P_c1 : own_u c1) :
    OwnMet l (⟨"java/lang/StringUTF16", "indexOf", "([BIII)I"⟩ : MethodName) jdk_52_method_40_code 4 (some .int) ws ({ frames := 4, cells := 0, slots := 0, locals := 58 } : Room) #[(.ref t), (.int (32 : Int32)), (.int (0 : Int32)), (.int (2 : Int32))] Z h0 (QiU2 Z t kb c0 c1 fmv h0 n0) := by
  refine own_met (plainFor_of_name pn_23) ?_
  intro p e s m below meth c s₁ X0 hx hby hml hret hlk hown hnm hZ e0
  have N0 := Fr.nil n0
  have Z_ := Z0
  refine OwnGo.cast (ef_iU2 m t (32 : Int32) (0 : Int32) (2 : Int32)) ?_
  show OwnGo p e below s _ _ _ s₁ (mkF m 0 _ [])
  refine .iloadN X0 hx (hb hby d25_0) rfl ?_
  refine .iconst X0 hx (hb hby d25_1) own_ki0 ?_
  obtain ⟨_, _, ⟨T282, L282, k282, n282⟩, -, X282, ⟨Lc282, hQ282, l282, y282, z282⟩, st282⟩ := Jvm.LawKit.callS X0 hx (y := (⟨"java/lang/Math", "max", "(II)I"⟩ : MethodName)) hown (mvT hZ (W_ hw 112 rfl)) (mvT hZ (W_ hw 81 rfl)) (mvT hZ (W_ hw 82 rfl)) (mvT hZ (W_ hw 83 rfl)) (by decide) (backOf (W := 0) (rmmax0 l Z a0 hw []  h0 n0 Z_ ) hZ (W_ hw 83 rfl) (W_ hw 82 rfl) (by decide) (by decide)) (g := (mkF m 2 #[.val (.ref t), .val (.int (32 : Int32)), .val (.int (0 : Int32)), .val (.int (2 : Int32))] [(.int (0 : Int32)), (.int (0 : Int32))])) rfl (by rw [hml]; rfl) (argsL := [(.int (0 : Int32)), (.int (0 : Int32))]) (rest := []) (lenOf pd_18 rfl) rfl (Nat.le_of_eq rfl) (hb hby d25_2) (fun _ _ => ⟨rfl, e0, (by decide : 0 + 0 ≤ _), (by decide : 0 + 0 ≤ _)⟩)
  dsimp only [Pt.U, Pt.locs, Pt.cells, Pt.slots] at X282 l282 y282 z282 st282 hQ282
  subst l282 y282 z282
  obtain ⟨rfl, N282q, e282⟩ := hQ282
  have N282 := Fr.app N0 N282q
  refine .st st282 ?_
  show OwnGo p e below s _ _ _ T282 (mkF m 5 _ [(.int (0 : Int32))])
  refine .istoreN X282 hx (hb hby d25_5) (L' := #[.val (.ref t), .val (.int (32 : Int32)), .val (.int (0 : Int32)), .val (.int (2 : Int32))]) rfl ?_
  refine .iloadN X282 hx (hb hby d25_6) rfl ?_
  refine .aloadN X282 hx (hb hby d25_7) rfl rfl ?_
  obtain ⟨cl283, Ar283, -, S283, N283, -, -⟩ := id V_t
  refine .st (fun _ => own_len hZ (len_of S283 N283) Ar283 X282 e282 hx (g := (mkF m 8 #[.val (.ref t), .val (.int (32 : Int32)), .val (.int (0 : Int32)), .val (.int (2 : Int32))] [(.ref t), (.int (2 : Int32))])) rfl rfl (hb hby d25_8) _) ?_
  show OwnGo p e below s _ _ _ T282 (mkF m 9 _ [(.int (4 : Int32)), (.int (2 : Int32))])
  refine .iconst X282 hx (hb hby d25_9) own_ki1 ?_
  refine .st (fun _ => XS.ishr X282.here hx rfl (hb hby d25_10) rfl) ?_
  show OwnGo p e below s _ _ _ T282 (mkF m 11 _ [(.int ((4 : Int32) >>> ((1 : Int32) &&& 31))), (.int (2 : Int32))])
  rw [show ((4 : Int32) >>> ((1 : Int32) &&& 31)) = (2 : Int32) from by decide]
  show OwnGo p e below s _ _ _ T282 (mkF m 11 _ [(.int (2 : Int32)), (.int (2 : Int32))])
  obtain ⟨_, _, ⟨T284, L284, k284, n284⟩, -, X284, ⟨Lc284, hQ284, l284, y284, z284⟩, st284⟩ := Jvm.LawKit.callS X282 hx (y := (⟨"java/lang/Math", "min", "(II)I"⟩ : MethodName)) hown (mvT hZ (W_ hw 113 rfl)) (mvT hZ (W_ hw 85 rfl)) (mvT hZ (W_ hw 82 rfl)) (mvT hZ (W_ hw 86 rfl)) (by decide) (backOf (W := 0) (rmminZ l Z a0 hw [] (2 : Int32) h0 n0 Z_ (by decide)) hZ (W_ hw 86 rfl) (W_ hw 82 rfl) (by decide) (by decide)) (g := (mkF m 11 #[.val (.ref t), .val (.int (32 : Int32)), .val (.int (0 : Int32)), .val (.int (2 : Int32))] [(.int (2 : Int32)), (.int (2 : Int32))])) rfl (by rw [hml]; rfl) (argsL := [(.int (2 : Int32)), (.int (2 : Int32))]) (rest := []) (lenOf pd_18 rfl) rfl (Nat.le_of_eq rfl) (hb hby d25_11) (fun _ _ => ⟨rfl, e282, (by decide : 0 + 0 ≤ _), (by decide : 0 + 0 ≤ _)⟩)
  dsimp only [Pt.U, Pt.locs, Pt.cells, Pt.slots] at X284 l284 y284 z284 st284 hQ284
  subst l284 y284 z284
  obtain ⟨rfl, N284q, e284⟩ := hQ284
  have N284 := Fr.app N282 N284q
  refine .st st284 ?_
  show OwnGo p e below s _ _ _ T284 (mkF m 14 _ [(.int (2 : Int32))])
  refine .istoreN X284 hx (hb hby d25_14) (L' := #[.val (.ref t), .val (.int (32 : Int32)), .val (.int (0 : Int32)), .val (.int (2 : Int32))]) rfl ?_
  refine .iloadN X284 hx (hb hby d25_15) rfl ?_
  refine .iloadN X284 hx (hb hby d25_16) rfl ?_
  refine .icmpYes (pc := 17) X284 hx 22 (hb hby d25_17) (tlt ((by decide) : (0 : Int32) < (2 : Int32))).1 (by decide) (by decide) ?_
  refine .iloadN X284 hx (hb hby d25_22) rfl ?_
  refine .st (fun _ => X284.ldcInt hx hown (mvT hZ (W_ hw 114 rfl)) (g := (mkF m 23 #[.val (.ref t), .val (.int (32 : Int32)), .val (.int (0 : Int32)), .val (.int (2 : Int32))] [(.int (32 : Int32))])) rfl (hb hby d25_23) _) ?_
  show OwnGo p e below s _ _ _ T284 (mkF m 25 _ [(.int (65536 : Int32)), (.int (32 : Int32))])
  refine .icmpNo X284 hx (hb hby d25_25) (tlt (own_bg32_lt_65536 : (32 : Int32) < (65536 : Int32))).2.1 ?_
  refine .aloadN X284 hx (hb hby d25_28) rfl rfl ?_
  refine .iloadN X284 hx (hb hby d25_29) rfl ?_
  refine .iloadN X284 hx (hb hby d25_30) rfl ?_
  refine .iloadN X284 hx (hb hby d25_31) rfl ?_
  obtain ⟨_, _, ⟨T285, L285, k285, n285⟩, -, X285, ⟨Lc285, hQ285, l285, y285, z285⟩, st285⟩ := Jvm.LawKit.callS X284 hx (y := (⟨"java/lang/StringUTF16", "indexOfChar", "([BIII)I"⟩ : MethodName)) hown (mvT hZ (W_ hw 115 rfl)) (mvT hZ (W_ hw 116 rfl)) (mvT hZ (W_ hw 49 rfl)) (mvT hZ (W_ hw 117 rfl)) (by decide) (backOf (W := 0) (rmiuc2 l Z a0 hw [] t kb c0 c1 fmv h0 n0 Z_ O_ S_AD S_HB S_LB S_SF rf_fmv V_t P_c0 P_c1) hZ (W_ hw 117 rfl) (W_ hw 49 rfl) (by decide) (by decide)) (g := (mkF m 32 #[.val (.ref t), .val (.int (32 : Int32)), .val (.int (0 : Int32)), .val (.int (2 : Int32))] [(.int (2 : Int32)), (.int (0 : Int32)), (.int (32 : Int32)), (.ref t)])) rfl (by rw [hml]; rfl) (argsL := [(.ref t), (.int (32 : Int32)), (.int (0 : Int32)), (.int (2 : Int32))]) (rest := []) (lenOf pd_19 rfl) rfl (Nat.le_of_eq rfl) (hb hby d25_32) (fun _ _ => ⟨rfl, e284, (by decide : 0 + 0 ≤ _), (by decide : 0 + 0 ≤ _)⟩)
  dsimp only [Pt.U, Pt.locs, Pt.cells, Pt.slots] at X285 l285 y285 z285 st285 hQ285
  subst l285 y285 z285
  obtain ⟨r285, rfl, N285q, e285, hr285⟩ := hQ285
  have N285 := Fr.app N284 N285q
  refine .st st285 ?_
  show OwnGo p e below s _ _ _ T285 (mkF m 35 _ [(.int r285)])
  exact OwnGo.ret X285 hx hret hlk rfl (Or.inl ⟨rfl, Or.inl rfl, _, rfl⟩) (hb hby d25_35) (by show QiU2 Z t kb c0 c1 fmv h0 n0 _ T285.heap _; rw [e285]; exact ⟨_, rfl, N285, rfl, hr285⟩) (by decide) (by decide)
def Qslen2 (Z : State) (x : Addr) (t : Addr) (kb : ClassId) (c0 : Int32) (c1 : Int32) (zc : Int32) (h0 : Heap) (n0 : Nat) (v : Option Value) (h : Heap) (L : List Loc) : Prop := v = some (.int (2 : Int32)) ∧ Fr n0 L ∧ h = h0
theorem rmslen2 (l : Launch) (Z : State) (a0 : Array Value) (hw : own_tb a0 Z) (ws : List Jvm.Cond) (x : Addr) (t : Addr) (kb : ClassId) (c0 : Int32) (c1 : Int32) (zc : Int32) (h0 : Heap) (n0 : Nat) (Z0 : n0 ≤ h0.size) (O_ : Old Z n0 h0) (S_CS : Sta Z Z.heap "java/lang/String" "COMPACT_STRINGS" "Z" (.int zc)) (P_CS : ¬ zc = (0 : Int32)) (SS : own_S2 Z h0 x t kb c0 c1) :
    OwnMet l (⟨"java/lang/String", "length", "()I"⟩ : MethodName) jdk_42_method_54_code 1 (some .int) ws ({ frames := 1, cells := 0, slots := 0, locals := 13 } : Room) #[(.ref x)] Z h0 (Qslen2 Z x t kb c0 c1 zc h0 n0) := by
  refine own_met (plainFor_of_name pn_6) ?_
  intro p e s m below meth c s₁ X0 hx hby hml hret hlk hown hnm hZ e0
  have N0 := Fr.nil n0
  have Z_ := Z0
  refine OwnGo.cast (ef_slen2 m x) ?_
  show OwnGo p e below s _ _ _ s₁ (mkF m 0 _ [])
  obtain ⟨E_x, Fv, hk⟩ := SS
  rcases hk with ⟨Fc, V_t, hl⟩ | ⟨Fc, V_t⟩
  · refine .aloadN X0 hx (hb hby d5_0) rfl rfl ?_
    obtain ⟨T286, X286, e286, st286⟩ := getF X0 hx hZ hown (host := "") (Or.inl (W_ hw 25 rfl)) Via.refl e0 Fv (g := (mkF m 1 #[.val (.ref x)] [(.ref x)])) rfl rfl (hb hby d5_1)
    refine .st st286 ?_
    show OwnGo p e below s _ _ _ T286 (mkF m 4 _ [(.ref t)])
    obtain ⟨cl287, Ar287, -, S287, N287, -, -⟩ := id V_t
    refine .st (fun _ => own_len hZ (len_of S287 N287) Ar287 X286 e286 hx (g := (mkF m 4 #[.val (.ref x)] [(.ref t)])) rfl rfl (hb hby d5_4) _) ?_
    show OwnGo p e below s _ _ _ T286 (mkF m 5 _ [(.int (2 : Int32))])
    refine .aloadN X286 hx (hb hby d5_5) rfl rfl ?_
    obtain ⟨cq288, kq288, q288a, q288b, q288c⟩ := isOf hZ e286 E_x
    obtain ⟨_, _, ⟨T288, L288, k288, n288⟩, -, X288, ⟨Lc288, hQ288, l288, y288, z288⟩, st288⟩ := X286.virtualBack hx (y := (⟨"java/lang/String", "coder", "()B"⟩ : MethodName)) (z := (⟨"java/lang/String", "coder", "()B"⟩ : MethodName)) hown (mvT hZ (W_ hw 32 rfl)) (mvT hZ (W_ hw 33 rfl)) (notFace_of_selects (args := #[]) (mvT hZ (W_ hw 35 rfl))) (mvT hZ (W_ hw 35 rfl)) (mvT hZ (W_ hw 34 rfl)) (by decide) (backOf (W := 1) (rmcoder l Z a0 hw [] x zc h0 n0 Z_ O_ S_CS P_CS Fc) hZ (W_ hw 36 rfl) (W_ hw 7 rfl) (by decide) (by decide)) q288a q288c (g := (mkF m 6 #[.val (.ref x)] [(.ref x), (.int (2 : Int32))])) rfl (by rw [hml]; rfl) (Steps.refl _) (argsL := []) (rest := [(.int (2 : Int32))]) (lenOf pd_0 rfl) rfl (Nat.le_of_eq rfl) (hb hby d5_6) (fun _ _ => ⟨rfl, e286, (by decide : 0 + 0 ≤ _), (by decide : 0 + 0 ≤ _)⟩)
    dsimp only [Pt.U, Pt.locs, Pt.cells, Pt.slots] at X288 l288 y288 z288 st288 hQ288
    subst l288 y288 z288
    obtain ⟨rfl, N288q, e288⟩ := hQ288
    have N288 := Fr.app N0 N288q
    refine .st (fun _ => st288.trans) ?_
    show OwnGo p e below s _ _ _ T288 (mkF m 9 _ [(.int (0 : Int32)), (.int (2 : Int32))])
    refine .st (fun _ => XS.ishr X288.here hx rfl (hb hby d5_9) rfl) ?_
    show OwnGo p e below s _ _ _ T288 (mkF m 10 _ [(.int ((2 : Int32) >>> ((0 : Int32) &&& 31)))])
    rw [show ((2 : Int32) >>> ((0 : Int32) &&& 31)) = (2 : Int32) from by decide]
    show OwnGo p e below s _ _ _ T288 (mkF m 10 _ [(.int (2 : Int32))])
    exact OwnGo.ret X288 hx hret hlk rfl (Or.inl ⟨rfl, Or.inl rfl, _, rfl⟩) (hb hby d5_10) (by show Qslen2 Z x t kb c0 c1 zc h0 n0 _ T288.heap _; rw [e288]; exact ⟨rfl, N288, rfl⟩) (by decide) (by decide)
  · refine .aloadN X0 hx (hb hby d5_0) rfl rfl ?_
    obtain ⟨T289, X289, e289, st289⟩ := getF X0 hx hZ hown (host := "") (Or.inl (W_ hw 25 rfl)) Via.refl e0 Fv (g := (mkF m 1 #[.val (.ref x)] [(.ref x)])) rfl rfl (hb hby d5_1)
    refine .st st289 ?_
    show OwnGo p e below s _ _ _ T289 (mkF m 4 _ [(.ref t)])
    obtain ⟨cl290, Ar290, -, S290, N290, -, -⟩ := id V_t
    refine .st (fun _ => own_len hZ (len_of S290 N290) Ar290 X289 e289 hx (g := (mkF m 4 #[.val (.ref x)] [(.ref t)])) rfl rfl (hb hby d5_4) _) ?_
    show OwnGo p e below s _ _ _ T289 (mkF m 5 _ [(.int (4 : Int32))])
    refine .aloadN X289 hx (hb hby d5_5) rfl rfl ?_
    obtain ⟨cq291, kq291, q291a, q291b, q291c⟩ := isOf hZ e289 E_x
    obtain ⟨_, _, ⟨T291, L291, k291, n291⟩, -, X291, ⟨Lc291, hQ291, l291, y291, z291⟩, st291⟩ := X289.virtualBack hx (y := (⟨"java/lang/String", "coder", "()B"⟩ : MethodName)) (z := (⟨"java/lang/String", "coder", "()B"⟩ : MethodName)) hown (mvT hZ (W_ hw 32 rfl)) (mvT hZ (W_ hw 33 rfl)) (notFace_of_selects (args := #[]) (mvT hZ (W_ hw 35 rfl))) (mvT hZ (W_ hw 35 rfl)) (mvT hZ (W_ hw 34 rfl)) (by decide) (backOf (W := 1) (rmcoder1 l Z a0 hw [] x zc h0 n0 Z_ O_ S_CS P_CS Fc) hZ (W_ hw 36 rfl) (W_ hw 7 rfl) (by decide) (by decide)) q291a q291c (g := (mkF m 6 #[.val (.ref x)] [(.ref x), (.int (4 : Int32))])) rfl (by rw [hml]; rfl) (Steps.refl _) (argsL := []) (rest := [(.int (4 : Int32))]) (lenOf pd_0 rfl) rfl (Nat.le_of_eq rfl) (hb hby d5_6) (fun _ _ => ⟨rfl, e289, (by decide : 0 + 0 ≤ _), (by decide : 0 + 0 ≤ _)⟩)
    dsimp only [Pt.U, Pt.locs, Pt.cells, Pt.slots] at X291 l291 y291 z291 st291 hQ291
    subst l291 y291 z291
    obtain ⟨rfl, N291q, e291⟩ := hQ291
    have N291 := Fr.app N0 N291q
    refine .st (fun _ => st291.trans) ?_
    show OwnGo p e below s _ _ _ T291 (mkF m 9 _ [(.int (1 : Int32)), (.int (4 : Int32))])
    refine .st (fun _ => XS.ishr X291.here hx rfl (hb hby d5_9) rfl) ?_
    show OwnGo p e below s _ _ _ T291 (mkF m 10 _ [(.int ((4 : Int32) >>> ((1 : Int32) &&& 31)))])
    rw [show ((4 : Int32) >>> ((1 : Int32) &&& 31)) = (2 : Int32) from by decide]
    show OwnGo p e below s _ _ _ T291 (mkF m 10 _ [(.int (2 : Int32))])
    exact OwnGo.ret X291 hx hret hlk rfl (Or.inl ⟨rfl, Or.inl rfl, _, rfl⟩) (hb hby d5_10) (by show Qslen2 Z x t kb c0 c1 zc h0 n0 _ T291.heap _; rw [e291]; exact ⟨rfl, N291, rfl⟩) (by decide) (by decide)
def Qsidx2 (Z : State) (x : Addr) (t : Addr) (kb : ClassId) (c0 : Int32) (c1 : Int32) (zc : Int32) (fmv : Value) (h0 : Heap) (n0 : Nat) (v : Option Value) (h : Heap) (L : List Loc) : Prop := ∃ r : Int32, v = some (.int r) ∧ Fr n0 L ∧ h = h0 ∧ ((r < (0 : Int32) ∧ ¬ (c0 = (32 : Int32) ∨ c1 = (32 : Int32))) ∨ (¬ r < (0 : Int32) ∧ (c0 = (32 : Int32) ∨ c1 = (32 : Int32))))
theorem rmsidx2 (l : Launch) (Z : State) (a0 : Array Value) (hw : own_tb a0 Z) (ws : List Jvm.Cond) (x : Addr) (t : Addr) (kb : ClassId) (c0 : Int32) (c1 : Int32) (zc : Int32) (fmv : Value) (h0 : Heap) (n0 : Nat) (Z0 : n0 ≤ h0.size) (O_ : Old Z n0 h0) (S_CS : Sta Z Z.heap "java/lang/String" "COMPACT_STRINGS" "Z" (.int zc)) (P_CS : ¬ zc = (0 : Int32)) (S_AD : Sta Z Z.heap "java/lang/StringUTF16" "$assertionsDisabled" "Z" (.int (1 : Int32))) (S_HB : Sta Z Z.heap "java/lang/StringUTF16" "HI_BYTE_SHIFT" "I" (.int (0 : Int32))) (S_LB : Sta Z Z.heap "java/lang/StringUTF16" "LO_BYTE_SHIFT" "I" (.int (8 : Int32))) (S_SF : Sta Z Z.heap "jdk/internal/util/Preconditions" "SIOOBE_FORMATTER" "Ljava/util/function/BiFunction;" fmv) (rf_fmv : fmv.isRef = true) (SS : own_S2 Z h0 x t kb c0 c1) (P_c0 : own_u c0) (P_c1 : own_u c1) :
    OwnMet l (⟨"java/lang/String", "indexOf", "(II)I"⟩ : MethodName) jdk_42_method_80_code 3 (some .int) ws ({ frames := 5, cells := 0, slots := 0, locals := 73 } : Room) #[(.ref x), (.int (32 : Int32)), (.int (0 : Int32))] Z h0 (Qsidx2 Z x t kb c0 c1 zc fmv h0 n0) := by
  refine own_met (plainFor_of_name pn_6) ?_
  intro p e s m below meth c s₁ X0 hx hby hml hret hlk hown hnm hZ e0
  have N0 := Fr.nil n0
  have Z_ := Z0
  refine OwnGo.cast (ef_sidx2 m x (32 : Int32) (0 : Int32)) ?_
  show OwnGo p e below s _ _ _ s₁ (mkF m 0 _ [])
  obtain ⟨E_x, Fv, hk⟩ := SS
  rcases hk with ⟨Fc, V_t, hl⟩ | ⟨Fc, V_t⟩
  · refine .aloadN X0 hx (hb hby d13_0) rfl rfl ?_
    obtain ⟨cq292, kq292, q292a, q292b, q292c⟩ := isOf hZ e0 E_x
    obtain ⟨_, _, ⟨T292, L292, k292, n292⟩, -, X292, ⟨Lc292, hQ292, l292, y292, z292⟩, st292⟩ := X0.virtualBack hx (y := (⟨"java/lang/String", "isLatin1", "()Z"⟩ : MethodName)) (z := (⟨"java/lang/String", "isLatin1", "()Z"⟩ : MethodName)) hown (mvT hZ (W_ hw 67 rfl)) (mvT hZ (W_ hw 68 rfl)) (notFace_of_selects (args := #[]) (mvT hZ (W_ hw 70 rfl))) (mvT hZ (W_ hw 70 rfl)) (mvT hZ (W_ hw 69 rfl)) (by decide) (backOf (W := 0) (rmisLatin1 l Z a0 hw [] x zc h0 n0 Z_ O_ S_CS P_CS Fc) hZ (W_ hw 71 rfl) (W_ hw 7 rfl) (by decide) (by decide)) q292a q292c (g := (mkF m 1 #[.val (.ref x), .val (.int (32 : Int32)), .val (.int (0 : Int32))] [(.ref x)])) rfl (by rw [hml]; rfl) (Steps.refl _) (argsL := []) (rest := []) (lenOf pd_21 rfl) rfl (Nat.le_of_eq rfl) (hb hby d13_1) (fun _ _ => ⟨rfl, e0, (by decide : 0 + 0 ≤ _), (by decide : 0 + 0 ≤ _)⟩)
    dsimp only [Pt.U, Pt.locs, Pt.cells, Pt.slots] at X292 l292 y292 z292 st292 hQ292
    subst l292 y292 z292
    obtain ⟨rfl, N292q, e292⟩ := hQ292
    have N292 := Fr.app N0 N292q
    refine .st (fun _ => st292.trans) ?_
    show OwnGo p e below s _ _ _ T292 (mkF m 4 _ [(.int (1 : Int32))])
    refine .ifNo X292 hx (hb hby d13_4) ((if0 _ _).trans (feq ((by decide) : ¬ ((1 : Int32) = (0 : Int32)))).1) ?_
    refine .aloadN X292 hx (hb hby d13_7) rfl rfl ?_
    obtain ⟨T293, X293, e293, st293⟩ := getF X292 hx hZ hown (host := "") (Or.inl (W_ hw 25 rfl)) Via.refl e292 Fv (g := (mkF m 8 #[.val (.ref x), .val (.int (32 : Int32)), .val (.int (0 : Int32))] [(.ref x)])) rfl rfl (hb hby d13_8)
    refine .st st293 ?_
    show OwnGo p e below s _ _ _ T293 (mkF m 11 _ [(.ref t)])
    refine .iloadN X293 hx (hb hby d13_11) rfl ?_
    refine .iloadN X293 hx (hb hby d13_12) rfl ?_
    refine .aloadN X293 hx (hb hby d13_13) rfl rfl ?_
    obtain ⟨cq294, kq294, q294a, q294b, q294c⟩ := isOf hZ e293 E_x
    obtain ⟨_, _, ⟨T294, L294, k294, n294⟩, -, X294, ⟨Lc294, hQ294, l294, y294, z294⟩, st294⟩ := X293.virtualBack hx (y := (⟨"java/lang/String", "length", "()I"⟩ : MethodName)) (z := (⟨"java/lang/String", "length", "()I"⟩ : MethodName)) hown (mvT hZ (W_ hw 72 rfl)) (mvT hZ (W_ hw 28 rfl)) (notFace_of_selects (args := #[]) (mvT hZ (W_ hw 30 rfl))) (mvT hZ (W_ hw 30 rfl)) (mvT hZ (W_ hw 29 rfl)) (by decide) (backOf (W := 3) (rmslen2 l Z a0 hw [] x t kb c0 c1 zc h0 n0 Z_ O_ S_CS P_CS ⟨E_x, Fv, Or.inl ⟨Fc, V_t, hl⟩⟩) hZ (W_ hw 31 rfl) (W_ hw 7 rfl) (by decide) (by decide)) q294a q294c (g := (mkF m 14 #[.val (.ref x), .val (.int (32 : Int32)), .val (.int (0 : Int32))] [(.ref x), (.int (0 : Int32)), (.int (32 : Int32)), (.ref t)])) rfl (by rw [hml]; rfl) (Steps.refl _) (argsL := []) (rest := [(.int (0 : Int32)), (.int (32 : Int32)), (.ref t)]) (lenOf pd_22 rfl) rfl (Nat.le_of_eq rfl) (hb hby d13_14) (fun _ _ => ⟨rfl, e293, (by decide : 0 + 0 ≤ _), (by decide : 0 + 0 ≤ _)⟩)
    dsimp only [Pt.U, Pt.locs, Pt.cells, Pt.slots] at X294 l294 y294 z294 st294 hQ294
    subst l294 y294 z294
    obtain ⟨rfl, N294q, e294⟩ := hQ294
    have N294 := Fr.app N292 N294q
    refine .st (fun _ => st294.trans) ?_
    show OwnGo p e below s _ _ _ T294 (mkF m 17 _ [(.int (2 : Int32)), (.int (0 : Int32)), (.int (32 : Int32)), (.ref t)])
    obtain ⟨_, _, ⟨T295, L295, k295, n295⟩, -, X295, ⟨Lc295, hQ295, l295, y295, z295⟩, st295⟩ := Jvm.LawKit.callS X294 hx (y := (⟨"java/lang/StringLatin1", "indexOf", "([BIII)I"⟩ : MethodName)) hown (mvT hZ (W_ hw 73 rfl)) (mvT hZ (W_ hw 74 rfl)) (mvT hZ (W_ hw 75 rfl)) (mvT hZ (W_ hw 76 rfl)) (by decide) (backOf (W := 0) (rmiL2 l Z a0 hw [] t kb c0 c1 h0 n0 Z_ V_t hl P_c0 P_c1) hZ (W_ hw 76 rfl) (W_ hw 75 rfl) (by decide) (by decide)) (g := (mkF m 17 #[.val (.ref x), .val (.int (32 : Int32)), .val (.int (0 : Int32))] [(.int (2 : Int32)), (.int (0 : Int32)), (.int (32 : Int32)), (.ref t)])) rfl (by rw [hml]; rfl) (argsL := [(.ref t), (.int (32 : Int32)), (.int (0 : Int32)), (.int (2 : Int32))]) (rest := []) (lenOf pd_19 rfl) rfl (Nat.le_of_eq rfl) (hb hby d13_17) (fun _ _ => ⟨rfl, e294, (by decide : 0 + 0 ≤ _), (by decide : 0 + 0 ≤ _)⟩)
    dsimp only [Pt.U, Pt.locs, Pt.cells, Pt.slots] at X295 l295 y295 z295 st295 hQ295
    subst l295 y295 z295
    obtain ⟨r295, rfl, N295q, e295, hr295⟩ := hQ295
    have N295 := Fr.app N294 N295q
    refine .st st295 ?_
    show OwnGo p e below s _ _ _ T295 (mkF m 20 _ [(.int r295)])
    refine .goto (pc := 20) X295 hx 36 (hb hby d13_20) (by decide) (by decide) ?_
    exact OwnGo.ret X295 hx hret hlk rfl (Or.inl ⟨rfl, Or.inl rfl, _, rfl⟩) (hb hby d13_36) (by show Qsidx2 Z x t kb c0 c1 zc fmv h0 n0 _ T295.heap _; rw [e295]; exact ⟨_, rfl, N295, rfl, hr295⟩) (by decide) (by decide)
  · refine .aloadN X0 hx (hb hby d13_0) rfl rfl ?_
    obtain ⟨cq296, kq296, q296a, q296b, q296c⟩ := isOf hZ e0 E_x
    obtain ⟨_, _, ⟨T296, L296, k296, n296⟩, -, X296, ⟨Lc296, hQ296, l296, y296, z296⟩, st296⟩ := X0.virtualBack hx (y := (⟨"java/lang/String", "isLatin1", "()Z"⟩ : MethodName)) (z := (⟨"java/lang/String", "isLatin1", "()Z"⟩ : MethodName)) hown (mvT hZ (W_ hw 67 rfl)) (mvT hZ (W_ hw 68 rfl)) (notFace_of_selects (args := #[]) (mvT hZ (W_ hw 70 rfl))) (mvT hZ (W_ hw 70 rfl)) (mvT hZ (W_ hw 69 rfl)) (by decide) (backOf (W := 0) (rmisL1 l Z a0 hw [] x zc h0 n0 Z_ O_ S_CS P_CS Fc) hZ (W_ hw 71 rfl) (W_ hw 7 rfl) (by decide) (by decide)) q296a q296c (g := (mkF m 1 #[.val (.ref x), .val (.int (32 : Int32)), .val (.int (0 : Int32))] [(.ref x)])) rfl (by rw [hml]; rfl) (Steps.refl _) (argsL := []) (rest := []) (lenOf pd_21 rfl) rfl (Nat.le_of_eq rfl) (hb hby d13_1) (fun _ _ => ⟨rfl, e0, (by decide : 0 + 0 ≤ _), (by decide : 0 + 0 ≤ _)⟩)
    dsimp only [Pt.U, Pt.locs, Pt.cells, Pt.slots] at X296 l296 y296 z296 st296 hQ296
    subst l296 y296 z296
    obtain ⟨rfl, N296q, e296⟩ := hQ296
    have N296 := Fr.app N0 N296q
    refine .st (fun _ => st296.trans) ?_
    show OwnGo p e below s _ _ _ T296 (mkF m 4 _ [(.int (0 : Int32))])
    refine .ifYes (pc := 4) X296 hx 23 (hb hby d13_4) ((if0 _ _).trans (teq ((by decide) : (0 : Int32) = (0 : Int32))).1) (by decide) (by decide) ?_
    refine .aloadN X296 hx (hb hby d13_23) rfl rfl ?_
    obtain ⟨T297, X297, e297, st297⟩ := getF X296 hx hZ hown (host := "") (Or.inl (W_ hw 25 rfl)) Via.refl e296 Fv (g := (mkF m 24 #[.val (.ref x), .val (.int (32 : Int32)), .val (.int (0 : Int32))] [(.ref x)])) rfl rfl (hb hby d13_24)
    refine .st st297 ?_
    show OwnGo p e below s _ _ _ T297 (mkF m 27 _ [(.ref t)])
    refine .iloadN X297 hx (hb hby d13_27) rfl ?_
    refine .iloadN X297 hx (hb hby d13_28) rfl ?_
    refine .aloadN X297 hx (hb hby d13_29) rfl rfl ?_
    obtain ⟨cq298, kq298, q298a, q298b, q298c⟩ := isOf hZ e297 E_x
    obtain ⟨_, _, ⟨T298, L298, k298, n298⟩, -, X298, ⟨Lc298, hQ298, l298, y298, z298⟩, st298⟩ := X297.virtualBack hx (y := (⟨"java/lang/String", "length", "()I"⟩ : MethodName)) (z := (⟨"java/lang/String", "length", "()I"⟩ : MethodName)) hown (mvT hZ (W_ hw 72 rfl)) (mvT hZ (W_ hw 28 rfl)) (notFace_of_selects (args := #[]) (mvT hZ (W_ hw 30 rfl))) (mvT hZ (W_ hw 30 rfl)) (mvT hZ (W_ hw 29 rfl)) (by decide) (backOf (W := 3) (rmslen2 l Z a0 hw [] x t kb c0 c1 zc h0 n0 Z_ O_ S_CS P_CS ⟨E_x, Fv, Or.inr ⟨Fc, V_t⟩⟩) hZ (W_ hw 31 rfl) (W_ hw 7 rfl) (by decide) (by decide)) q298a q298c (g := (mkF m 30 #[.val (.ref x), .val (.int (32 : Int32)), .val (.int (0 : Int32))] [(.ref x), (.int (0 : Int32)), (.int (32 : Int32)), (.ref t)])) rfl (by rw [hml]; rfl) (Steps.refl _) (argsL := []) (rest := [(.int (0 : Int32)), (.int (32 : Int32)), (.ref t)]) (lenOf pd_22 rfl) rfl (Nat.le_of_eq rfl) (hb hby d13_30) (fun _ _ => ⟨rfl, e297, (by decide : 0 + 0 ≤ _), (by decide : 0 + 0 ≤ _)⟩)
    dsimp only [Pt.U, Pt.locs, Pt.cells, Pt.slots] at X298 l298 y298 z298 st298 hQ298
    subst l298 y298 z298
    obtain ⟨rfl, N298q, e298⟩ := hQ298
    have N298 := Fr.app N296 N298q
    refine .st (fun _ => st298.trans) ?_
    show OwnGo p e below s _ _ _ T298 (mkF m 33 _ [(.int (2 : Int32)), (.int (0 : Int32)), (.int (32 : Int32)), (.ref t)])
    obtain ⟨_, _, ⟨T299, L299, k299, n299⟩, -, X299, ⟨Lc299, hQ299, l299, y299, z299⟩, st299⟩ := Jvm.LawKit.callS X298 hx (y := (⟨"java/lang/StringUTF16", "indexOf", "([BIII)I"⟩ : MethodName)) hown (mvT hZ (W_ hw 109 rfl)) (mvT hZ (W_ hw 110 rfl)) (mvT hZ (W_ hw 49 rfl)) (mvT hZ (W_ hw 111 rfl)) (by decide) (backOf (W := 0) (rmiU2 l Z a0 hw [] t kb c0 c1 fmv h0 n0 Z_ O_ S_AD S_HB S_LB S_SF rf_fmv V_t P_c0 P_c1) hZ (W_ hw 111 rfl) (W_ hw 49 rfl) (by decide) (by decide)) (g := (mkF m 33 #[.val (.ref x), .val (.int (32 : Int32)), .val (.int (0 : Int32))] [(.int (2 : Int32)), (.int (0 : Int32)), (.int (32 : Int32)), (.ref t)])) rfl (by rw [hml]; rfl) (argsL := [(.ref t), (.int (32 : Int32)), (.int (0 : Int32)), (.int (2 : Int32))]) (rest := []) (lenOf pd_19 rfl) rfl (Nat.le_of_eq rfl) (hb hby d13_33) (fun _ _ => ⟨rfl, e298, (by decide : 0 + 0 ≤ _), (by decide : 0 + 0 ≤ _)⟩)
    dsimp only [Pt.U, Pt.locs, Pt.cells, Pt.slots] at X299 l299 y299 z299 st299 hQ299
    subst l299 y299 z299
    obtain ⟨r299, rfl, N299q, e299, hr299⟩ := hQ299
    have N299 := Fr.app N298 N299q
    refine .st st299 ?_
    show OwnGo p e below s _ _ _ T299 (mkF m 36 _ [(.int r299)])
    exact OwnGo.ret X299 hx hret hlk rfl (Or.inl ⟨rfl, Or.inl rfl, _, rfl⟩) (hb hby d13_36) (by show Qsidx2 Z x t kb c0 c1 zc fmv h0 n0 _ T299.heap _; rw [e299]; exact ⟨_, rfl, N299, rfl, hr299⟩) (by decide) (by decide)
def QsidI2 (Z : State) (x : Addr) (t : Addr) (kb : ClassId) (c0 : Int32) (c1 : Int32) (zc : Int32) (fmv : Value) (h0 : Heap) (n0 : Nat) (v : Option Value) (h : Heap) (L : List Loc) : Prop := ∃ r : Int32, v = some (.int r) ∧ Fr n0 L ∧ h = h0 ∧ ((r < (0 : Int32) ∧ ¬ (c0 = (32 : Int32) ∨ c1 = (32 : Int32))) ∨ (¬ r < (0 : Int32) ∧ (c0 = (32 : Int32) ∨ c1 = (32 : Int32))))
theorem rmsidI2 (l : Launch) (Z : State) (a0 : Array Value) (hw : own_tb a0 Z) (ws : List Jvm.Cond) (x : Addr) (t : Addr) (kb : ClassId) (c0 : Int32) (c1 : Int32) (zc : Int32) (fmv : Value) (h0 : Heap) (n0 : Nat) (Z0 : n0 ≤ h0.size) (O_ : Old Z n0 h0) (S_CS : Sta Z Z.heap "java/lang/String" "COMPACT_STRINGS" "Z" (.int zc)) (P_CS : ¬ zc = (0 : Int32)) (S_AD : Sta Z Z.heap "java/lang/StringUTF16" "$assertionsDisabled" "Z" (.int (1 : Int32))) (S_HB : Sta Z Z.heap "java/lang/StringUTF16" "HI_BYTE_SHIFT" "I" (.int (0 : Int32))) (S_LB : Sta Z Z.heap "java/lang/StringUTF16" "LO_BYTE_SHIFT" "I" (.int (8 : Int32))) (S_SF : Sta Z Z.heap "jdk/internal/util/Preconditions" "SIOOBE_FORMATTER" "Ljava/util/function/BiFunction;" fmv) (rf_fmv : fmv.isRef = true) (SS : own_S2 Z h0 x t kb c0 c1) (P_c0 : own_u c0) (P_c1 : own_u c1) :
    OwnMet l (⟨"java/lang/String", "indexOf", "(I)I"⟩ : MethodName) jdk_42_method_79_code 2 (some .int) ws ({ frames := 6, cells := 0, slots := 0, locals := 87 } : Room) #[(.ref x), (.int (32 : Int32))] Z h0 (QsidI2 Z x t kb c0 c1 zc fmv h0 n0) := by
  refine own_met (plainFor_of_name pn_6) ?_
  intro p e s m below meth c s₁ X0 hx hby hml hret hlk hown hnm hZ e0
  have N0 := Fr.nil n0
  have Z_ := Z0
  refine OwnGo.cast (ef_sidI2 m x (32 : Int32)) ?_
  show OwnGo p e below s _ _ _ s₁ (mkF m 0 _ [])
  have E_x := SS.1
  refine .aloadN X0 hx (hb hby d12_0) rfl rfl ?_
  refine .iloadN X0 hx (hb hby d12_1) rfl ?_
  refine .iconst X0 hx (hb hby d12_2) own_ki0 ?_
  obtain ⟨cq300, kq300, q300a, q300b, q300c⟩ := isOf hZ e0 E_x
  obtain ⟨_, _, ⟨T300, L300, k300, n300⟩, -, X300, ⟨Lc300, hQ300, l300, y300, z300⟩, st300⟩ := X0.virtualBack hx (y := (⟨"java/lang/String", "indexOf", "(II)I"⟩ : MethodName)) (z := (⟨"java/lang/String", "indexOf", "(II)I"⟩ : MethodName)) hown (mvT hZ (W_ hw 62 rfl)) (mvT hZ (W_ hw 63 rfl)) (notFace_of_selects (args := #[]) (mvT hZ (W_ hw 65 rfl))) (mvT hZ (W_ hw 65 rfl)) (mvT hZ (W_ hw 64 rfl)) (by decide) (backOf (W := 0) (rmsidx2 l Z a0 hw [] x t kb c0 c1 zc fmv h0 n0 Z_ O_ S_CS P_CS S_AD S_HB S_LB S_SF rf_fmv SS P_c0 P_c1) hZ (W_ hw 66 rfl) (W_ hw 7 rfl) (by decide) (by decide)) q300a q300c (g := (mkF m 3 #[.val (.ref x), .val (.int (32 : Int32))] [(.int (0 : Int32)), (.int (32 : Int32)), (.ref x)])) rfl (by rw [hml]; rfl) (Steps.refl _) (argsL := [(.int (32 : Int32)), (.int (0 : Int32))]) (rest := []) (lenOf pd_18 rfl) rfl (Nat.le_of_eq rfl) (hb hby d12_3) (fun _ _ => ⟨rfl, e0, (by decide : 0 + 0 ≤ _), (by decide : 0 + 0 ≤ _)⟩)
  dsimp only [Pt.U, Pt.locs, Pt.cells, Pt.slots] at X300 l300 y300 z300 st300 hQ300
  subst l300 y300 z300
  obtain ⟨r300, rfl, N300q, e300, hr300⟩ := hQ300
  have N300 := Fr.app N0 N300q
  refine .st (fun _ => st300.trans) ?_
  show OwnGo p e below s _ _ _ T300 (mkF m 6 _ [(.int r300)])
  exact OwnGo.ret X300 hx hret hlk rfl (Or.inl ⟨rfl, Or.inl rfl, _, rfl⟩) (hb hby d12_6) (by show QsidI2 Z x t kb c0 c1 zc fmv h0 n0 _ T300.heap _; rw [e300]; exact ⟨_, rfl, N300, rfl, hr300⟩) (by decide) (by decide)
def QisW2 (Z : State) (x : Addr) (t : Addr) (kb : ClassId) (c0 : Int32) (c1 : Int32) (zc : Int32) (fmv : Value) (h0 : Heap) (n0 : Nat) (v : Option Value) (h : Heap) (L : List Loc) : Prop := ∃ r : Int32, v = some (.int r) ∧ Fr n0 L ∧ h = h0 ∧ ((r = (1 : Int32) ∧ ¬ (c0 = (32 : Int32) ∨ c1 = (32 : Int32))) ∨ (r = (0 : Int32) ∧ (c0 = (32 : Int32) ∨ c1 = (32 : Int32))))
theorem rmisW2 (l : Launch) (Z : State) (a0 : Array Value) (hw : own_tb a0 Z) (ws : List Jvm.Cond) (x : Addr) (t : Addr) (kb : ClassId) (c0 : Int32) (c1 : Int32) (zc : Int32) (fmv : Value) (h0 : Heap) (n0 : Nat) (Z0 : n0 ≤ h0.size) (O_ : Old Z n0 h0) (S_CS : Sta Z Z.heap "java/lang/String" "COMPACT_STRINGS" "Z" (.int zc)) (P_CS : ¬ zc = (0 : Int32)) (S_AD : Sta Z Z.heap "java/lang/StringUTF16" "$assertionsDisabled" "Z" (.int (1 : Int32))) (S_HB : Sta Z Z.heap "java/lang/StringUTF16" "HI_BYTE_SHIFT" "I" (.int (0 : Int32))) (S_LB : Sta Z Z.heap "java/lang/StringUTF16" "LO_BYTE_SHIFT" "I" (.int (8 : Int32))) (S_SF : Sta Z Z.heap "jdk/internal/util/Preconditions" "SIOOBE_FORMATTER" "Ljava/util/function/BiFunction;" fmv) (rf_fmv : fmv.isRef = true) (SS : own_S2 Z h0 x t kb c0 c1) (P_c0 : own_u c0) (P_c1 : own_u c1) :
    OwnMet l (⟨"com/example/tightrope/tightrope/format/TextFormat", "isWord", "(Ljava/lang/String;)Z"⟩ : MethodName) prog_27_method_5_code 1 (some .boolean) ws ({ frames := 7, cells := 0, slots := 0, locals := 100 } : Room) #[(.ref x)] Z h0 (QisW2 Z x t kb c0 c1 zc fmv h0 n0) := by
  refine own_met (plainFor_of_name pn_7) ?_
  intro p e s m below meth c s₁ X0 hx hby hml hret hlk hown hnm hZ e0
  have N0 := Fr.nil n0
  have Z_ := Z0
  refine OwnGo.cast (ef_isW2 m x) ?_
  show OwnGo p e below s _ _ _ s₁ (mkF m 0 _ [])
  obtain ⟨E_x, Fv, hk⟩ := SS
  rcases hk with ⟨Fc, V_t, hl⟩ | ⟨Fc, V_t⟩
  · refine .aloadN X0 hx (hb hby d7_0) rfl rfl ?_
    obtain ⟨cq301, kq301, q301a, q301b, q301c⟩ := isOf hZ e0 E_x
    obtain ⟨_, _, ⟨T301, L301, k301, n301⟩, -, X301, ⟨Lc301, hQ301, l301, y301, z301⟩, st301⟩ := X0.virtualBack hx (y := (⟨"java/lang/String", "isEmpty", "()Z"⟩ : MethodName)) (z := (⟨"java/lang/String", "isEmpty", "()Z"⟩ : MethodName)) hown (mvT hZ (W_ hw 42 rfl)) (mvT hZ (W_ hw 43 rfl)) (notFace_of_selects (args := #[]) (mvT hZ (W_ hw 45 rfl))) (mvT hZ (W_ hw 45 rfl)) (mvT hZ (W_ hw 44 rfl)) (by decide) (backOf (W := 0) (rmempN l Z a0 hw [] x t kb (2 : Int32) [(.int c0.toInt8.toInt32), (.int c1.toInt8.toInt32)] h0 n0 Z_ Fv V_t (by decide)) hZ (W_ hw 46 rfl) (W_ hw 7 rfl) (by decide) (by decide)) q301a q301c (g := (mkF m 1 #[.val (.ref x)] [(.ref x)])) rfl (by rw [hml]; rfl) (Steps.refl _) (argsL := []) (rest := []) (lenOf pd_21 rfl) rfl (Nat.le_of_eq rfl) (hb hby d7_1) (fun _ _ => ⟨rfl, e0, (by decide : 0 + 0 ≤ _), (by decide : 0 + 0 ≤ _)⟩)
    dsimp only [Pt.U, Pt.locs, Pt.cells, Pt.slots] at X301 l301 y301 z301 st301 hQ301
    subst l301 y301 z301
    obtain ⟨rfl, N301q, e301⟩ := hQ301
    have N301 := Fr.app N0 N301q
    refine .st (fun _ => st301.trans) ?_
    show OwnGo p e below s _ _ _ T301 (mkF m 4 _ [(.int (0 : Int32))])
    refine .ifNo X301 hx (hb hby d7_4) ((if0 _ _).trans (teq ((by decide) : (0 : Int32) = (0 : Int32))).2) ?_
    refine .aloadN X301 hx (hb hby d7_7) rfl rfl ?_
    refine .bipush X301 hx (hb hby d7_8) own_kb32 ?_
    obtain ⟨cq302, kq302, q302a, q302b, q302c⟩ := isOf hZ e301 E_x
    obtain ⟨_, _, ⟨T302, L302, k302, n302⟩, -, X302, ⟨Lc302, hQ302, l302, y302, z302⟩, st302⟩ := X301.virtualBack hx (y := (⟨"java/lang/String", "indexOf", "(I)I"⟩ : MethodName)) (z := (⟨"java/lang/String", "indexOf", "(I)I"⟩ : MethodName)) hown (mvT hZ (W_ hw 57 rfl)) (mvT hZ (W_ hw 58 rfl)) (notFace_of_selects (args := #[]) (mvT hZ (W_ hw 60 rfl))) (mvT hZ (W_ hw 60 rfl)) (mvT hZ (W_ hw 59 rfl)) (by decide) (backOf (W := 0) (rmsidI2 l Z a0 hw [] x t kb c0 c1 zc fmv h0 n0 Z_ O_ S_CS P_CS S_AD S_HB S_LB S_SF rf_fmv ⟨E_x, Fv, Or.inl ⟨Fc, V_t, hl⟩⟩ P_c0 P_c1) hZ (W_ hw 61 rfl) (W_ hw 7 rfl) (by decide) (by decide)) q302a q302c (g := (mkF m 10 #[.val (.ref x)] [(.int (32 : Int32)), (.ref x)])) rfl (by rw [hml]; rfl) (Steps.refl _) (argsL := [(.int (32 : Int32))]) (rest := []) (lenOf pd_5 rfl) rfl (Nat.le_of_eq rfl) (hb hby d7_10) (fun _ _ => ⟨rfl, e301, (by decide : 0 + 0 ≤ _), (by decide : 0 + 0 ≤ _)⟩)
    dsimp only [Pt.U, Pt.locs, Pt.cells, Pt.slots] at X302 l302 y302 z302 st302 hQ302
    subst l302 y302 z302
    obtain ⟨r302, rfl, N302q, e302, hr302⟩ := hQ302
    have N302 := Fr.app N301 N302q
    refine .st (fun _ => st302.trans) ?_
    show OwnGo p e below s _ _ _ T302 (mkF m 13 _ [(.int r302)])
    rcases hr302 with ⟨hn, hs⟩ | ⟨hn, hs⟩
    · refine .ifNo X302 hx (hb hby d7_13) ((if0 _ _).trans (tlt (hn : r302 < (0 : Int32))).2.1) ?_
      refine .iconst X302 hx (hb hby d7_16) own_ki1 ?_
      refine .goto (pc := 17) X302 hx 21 (hb hby d7_17) (by decide) (by decide) ?_
      exact OwnGo.retN X302 hx (t := .boolean) hret hlk (by simp) (hb hby d7_21) (by show QisW2 Z x t kb c0 c1 zc fmv h0 n0 _ T302.heap _; rw [e302]; exact ⟨_, rfl, N302, rfl, Or.inl ⟨rfl, hs⟩⟩) (by decide) (by decide)
    · refine .ifYes (pc := 13) X302 hx 20 (hb hby d7_13) ((if0 _ _).trans (flt (hn : ¬ (r302 < (0 : Int32)))).2.1) (by decide) (by decide) ?_
      refine .iconst X302 hx (hb hby d7_20) own_ki0 ?_
      exact OwnGo.retN X302 hx (t := .boolean) hret hlk (by simp) (hb hby d7_21) (by show QisW2 Z x t kb c0 c1 zc fmv h0 n0 _ T302.heap _; rw [e302]; exact ⟨_, rfl, N302, rfl, Or.inr ⟨rfl, hs⟩⟩) (by decide) (by decide)
  · refine .aloadN X0 hx (hb hby d7_0) rfl rfl ?_
    obtain ⟨cq303, kq303, q303a, q303b, q303c⟩ := isOf hZ e0 E_x
    obtain ⟨_, _, ⟨T303, L303, k303, n303⟩, -, X303, ⟨Lc303, hQ303, l303, y303, z303⟩, st303⟩ := X0.virtualBack hx (y := (⟨"java/lang/String", "isEmpty", "()Z"⟩ : MethodName)) (z := (⟨"java/lang/String", "isEmpty", "()Z"⟩ : MethodName)) hown (mvT hZ (W_ hw 42 rfl)) (mvT hZ (W_ hw 43 rfl)) (notFace_of_selects (args := #[]) (mvT hZ (W_ hw 45 rfl))) (mvT hZ (W_ hw 45 rfl)) (mvT hZ (W_ hw 44 rfl)) (by decide) (backOf (W := 0) (rmempN l Z a0 hw [] x t kb (4 : Int32) [(.int (own_lo c0)), (.int (own_hi c0)), (.int (own_lo c1)), (.int (own_hi c1))] h0 n0 Z_ Fv V_t (by decide)) hZ (W_ hw 46 rfl) (W_ hw 7 rfl) (by decide) (by decide)) q303a q303c (g := (mkF m 1 #[.val (.ref x)] [(.ref x)])) rfl (by rw [hml]; rfl) (Steps.refl _) (argsL := []) (rest := []) (lenOf pd_21 rfl) rfl (Nat.le_of_eq rfl) (hb hby d7_1) (fun _ _ => ⟨rfl, e0, (by decide : 0 + 0 ≤ _), (by decide : 0 + 0 ≤ _)⟩)
    dsimp only [Pt.U, Pt.locs, Pt.cells, Pt.slots] at X303 l303 y303 z303 st303 hQ303
    subst l303 y303 z303
    obtain ⟨rfl, N303q, e303⟩ := hQ303
    have N303 := Fr.app N0 N303q
    refine .st (fun _ => st303.trans) ?_
    show OwnGo p e below s _ _ _ T303 (mkF m 4 _ [(.int (0 : Int32))])
    refine .ifNo X303 hx (hb hby d7_4) ((if0 _ _).trans (teq ((by decide) : (0 : Int32) = (0 : Int32))).2) ?_
    refine .aloadN X303 hx (hb hby d7_7) rfl rfl ?_
    refine .bipush X303 hx (hb hby d7_8) own_kb32 ?_
    obtain ⟨cq304, kq304, q304a, q304b, q304c⟩ := isOf hZ e303 E_x
    obtain ⟨_, _, ⟨T304, L304, k304, n304⟩, -, X304, ⟨Lc304, hQ304, l304, y304, z304⟩, st304⟩ := X303.virtualBack hx (y := (⟨"java/lang/String", "indexOf", "(I)I"⟩ : MethodName)) (z := (⟨"java/lang/String", "indexOf", "(I)I"⟩ : MethodName)) hown (mvT hZ (W_ hw 57 rfl)) (mvT hZ (W_ hw 58 rfl)) (notFace_of_selects (args := #[]) (mvT hZ (W_ hw 60 rfl))) (mvT hZ (W_ hw 60 rfl)) (mvT hZ (W_ hw 59 rfl)) (by decide) (backOf (W := 0) (rmsidI2 l Z a0 hw [] x t kb c0 c1 zc fmv h0 n0 Z_ O_ S_CS P_CS S_AD S_HB S_LB S_SF rf_fmv ⟨E_x, Fv, Or.inr ⟨Fc, V_t⟩⟩ P_c0 P_c1) hZ (W_ hw 61 rfl) (W_ hw 7 rfl) (by decide) (by decide)) q304a q304c (g := (mkF m 10 #[.val (.ref x)] [(.int (32 : Int32)), (.ref x)])) rfl (by rw [hml]; rfl) (Steps.refl _) (argsL := [(.int (32 : Int32))]) (rest := []) (lenOf pd_5 rfl) rfl (Nat.le_of_eq rfl) (hb hby d7_10) (fun _ _ => ⟨rfl, e303, (by decide : 0 + 0 ≤ _), (by decide : 0 + 0 ≤ _)⟩)
    dsimp only [Pt.U, Pt.locs, Pt.cells, Pt.slots] at X304 l304 y304 z304 st304 hQ304
    subst l304 y304 z304
    obtain ⟨r304, rfl, N304q, e304, hr304⟩ := hQ304
    have N304 := Fr.app N303 N304q
    refine .st (fun _ => st304.trans) ?_
    show OwnGo p e below s _ _ _ T304 (mkF m 13 _ [(.int r304)])
    rcases hr304 with ⟨hn, hs⟩ | ⟨hn, hs⟩
    · refine .ifNo X304 hx (hb hby d7_13) ((if0 _ _).trans (tlt (hn : r304 < (0 : Int32))).2.1) ?_
      refine .iconst X304 hx (hb hby d7_16) own_ki1 ?_
      refine .goto (pc := 17) X304 hx 21 (hb hby d7_17) (by decide) (by decide) ?_
      exact OwnGo.retN X304 hx (t := .boolean) hret hlk (by simp) (hb hby d7_21) (by show QisW2 Z x t kb c0 c1 zc fmv h0 n0 _ T304.heap _; rw [e304]; exact ⟨_, rfl, N304, rfl, Or.inl ⟨rfl, hs⟩⟩) (by decide) (by decide)
    · refine .ifYes (pc := 13) X304 hx 20 (hb hby d7_13) ((if0 _ _).trans (flt (hn : ¬ (r304 < (0 : Int32)))).2.1) (by decide) (by decide) ?_
      refine .iconst X304 hx (hb hby d7_20) own_ki0 ?_
      exact OwnGo.retN X304 hx (t := .boolean) hret hlk (by simp) (hb hby d7_21) (by show QisW2 Z x t kb c0 c1 zc fmv h0 n0 _ T304.heap _; rw [e304]; exact ⟨_, rfl, N304, rfl, Or.inr ⟨rfl, hs⟩⟩) (by decide) (by decide)
def Qilc3 (Z : State) (t : Addr) (kb : ClassId) (c0 : Int32) (c1 : Int32) (c2 : Int32) (h0 : Heap) (n0 : Nat) (v : Option Value) (h : Heap) (L : List Loc) : Prop := ∃ r : Int32, v = some (.int r) ∧ Fr n0 L ∧ h = h0 ∧ ((r < (0 : Int32) ∧ ¬ (c0 = (32 : Int32) ∨ c1 = (32 : Int32) ∨ c2 = (32 : Int32))) ∨ (¬ r < (0 : Int32) ∧ (c0 = (32 : Int32) ∨ c1 = (32 : Int32) ∨ c2 = (32 : Int32))))
theorem rmilc3 (l : Launch) (Z : State) (a0 : Array Value) (hw : own_tb a0 Z) (ws : List Jvm.Cond) (t : Addr) (kb : ClassId) (c0 : Int32) (c1 : Int32) (c2 : Int32) (h0 : Heap) (n0 : Nat) (Z0 : n0 ≤ h0.size) (V_t : Arv Z h0 t kb .byte (3 : Int32) [(.int c0.toInt8.toInt32), (.int c1.toInt8.toInt32), (.int c2.toInt8.toInt32)] (.int (0 : Int32))) (hl : ¬ (255 : Int32) < c0 ∧ ¬ (255 : Int32) < c1 ∧ ¬ (255 : Int32) < c2) (P_c0 : own_u c0) (P_c1 : own_u c1) (P_c2 : own_u c2) :
    OwnMet l (⟨"java/lang/StringLatin1", "indexOfChar", "([BIII)I"⟩ : MethodName) jdk_43_method_23_code 6 (some .int) ws ({ frames := 0, cells := 0, slots := 0, locals := 0 } : Room) #[(.ref t), (.int (32 : Int32)), (.int (0 : Int32)), (.int (3 : Int32))] Z h0 (Qilc3 Z t kb c0 c1 c2 h0 n0) := by
  refine own_met (plainFor_of_name pn_33) ?_
  intro p e s m below meth c s₁ X0 hx hby hml hret hlk hown hnm hZ e0
  have N0 := Fr.nil n0
  have Z_ := Z0
  refine OwnGo.cast (ef_ilc3 m t (32 : Int32) (0 : Int32) (3 : Int32)) ?_
  show OwnGo p e below s _ _ _ s₁ (mkF m 0 _ [])
  refine .iloadN X0 hx (hb hby d19_0) rfl ?_
  refine .st (fun _ => XS.i2b X0.here hx rfl (hb hby d19_1) rfl) ?_
  show OwnGo p e below s _ _ _ s₁ (mkF m 2 _ [(.int ((32 : Int32).toInt8.toInt32))])
  rw [show ((32 : Int32).toInt8.toInt32) = (32 : Int32) from by decide]
  show OwnGo p e below s _ _ _ s₁ (mkF m 2 _ [(.int (32 : Int32))])
  refine .istore X0 hx (hb hby d19_2) (L' := #[.val (.ref t), .val (.int (32 : Int32)), .val (.int (0 : Int32)), .val (.int (3 : Int32)), .val (.int (32 : Int32)), .unset]) rfl ?_
  refine .iloadN X0 hx (hb hby d19_4) rfl ?_
  refine .istore X0 hx (hb hby d19_5) (L' := #[.val (.ref t), .val (.int (32 : Int32)), .val (.int (0 : Int32)), .val (.int (3 : Int32)), .val (.int (32 : Int32)), .val (.int (0 : Int32))]) rfl ?_
  refine .iload X0 hx (hb hby d19_7) rfl ?_
  refine .iloadN X0 hx (hb hby d19_9) rfl ?_
  refine .icmpNo X0 hx (hb hby d19_10) (tlt ((by decide) : (0 : Int32) < (3 : Int32))).2.1 ?_
  refine .aloadN X0 hx (hb hby d19_13) rfl rfl ?_
  refine .iload X0 hx (hb hby d19_14) rfl ?_
  obtain ⟨cl305, Ar305, -, S305, -, H305, -⟩ := id V_t
  have hin305 : ¬ ((0 : Int32) < 0 ∨ cl305.slots.size ≤ ((0 : Int32)).toNatClampNeg) := inb_of S305 ⟨by decide, by decide⟩
  refine .st (fun _ => X0.baloadBytes hx (j := (0 : Int32)) (v := (.int c0.toInt8.toInt32)) (by first | exact Ar305.1 | (rw [e0]; exact Ar305.1)) (State.isArrayOf_alike hZ.alike Ar305.2.1) Ar305.2.2 hin305 (H305.at hin305 rfl) (g := (mkF m 16 #[.val (.ref t), .val (.int (32 : Int32)), .val (.int (0 : Int32)), .val (.int (3 : Int32)), .val (.int (32 : Int32)), .val (.int (0 : Int32))] [(.int (0 : Int32)), (.ref t)])) rfl rfl (hb hby d19_16) _) ?_
  show OwnGo p e below s _ _ _ s₁ (mkF m 17 _ [(.int c0.toInt8.toInt32)])
  refine .iload X0 hx (hb hby d19_17) rfl ?_
  have b0 := own_b32 P_c0 hl.1
  by_cases q0 : c0.toInt8.toInt32 = (32 : Int32)
  · refine .icmpNo X0 hx (hb hby d19_19) (teq (q0 : c0.toInt8.toInt32 = (32 : Int32))).2 ?_
    refine .iload X0 hx (hb hby d19_22) rfl ?_
    exact OwnGo.ret X0 hx hret hlk rfl (Or.inl ⟨rfl, Or.inl rfl, _, rfl⟩) (hb hby d19_24) (by show Qilc3 Z t kb c0 c1 c2 h0 n0 _ s₁.heap _; rw [e0]; exact ⟨_, rfl, N0, rfl, Or.inr ⟨by decide, (Or.inl (b0.1 q0))⟩⟩) (by decide) (by decide)
  · refine .icmpYes (pc := 19) X0 hx 25 (hb hby d19_19) (feq (q0 : ¬ (c0.toInt8.toInt32 = (32 : Int32)))).2 (by decide) (by decide) ?_
    refine .iinc X0 hx (hb hby d19_25) rfl own_ka0_1 (L' := #[.val (.ref t), .val (.int (32 : Int32)), .val (.int (0 : Int32)), .val (.int (3 : Int32)), .val (.int (32 : Int32)), .val (.int (1 : Int32))]) rfl ?_
    refine .goto (pc := 28) X0 hx 7 (hb hby d19_28) (by decide) (by decide) ?_
    refine .iload X0 hx (hb hby d19_7) rfl ?_
    refine .iloadN X0 hx (hb hby d19_9) rfl ?_
    refine .icmpNo X0 hx (hb hby d19_10) (tlt ((by decide) : (1 : Int32) < (3 : Int32))).2.1 ?_
    refine .aloadN X0 hx (hb hby d19_13) rfl rfl ?_
    refine .iload X0 hx (hb hby d19_14) rfl ?_
    obtain ⟨cl306, Ar306, -, S306, -, H306, -⟩ := id V_t
    have hin306 : ¬ ((1 : Int32) < 0 ∨ cl306.slots.size ≤ ((1 : Int32)).toNatClampNeg) := inb_of S306 ⟨by decide, by decide⟩
    refine .st (fun _ => X0.baloadBytes hx (j := (1 : Int32)) (v := (.int c1.toInt8.toInt32)) (by first | exact Ar306.1 | (rw [e0]; exact Ar306.1)) (State.isArrayOf_alike hZ.alike Ar306.2.1) Ar306.2.2 hin306 (H306.at hin306 rfl) (g := (mkF m 16 #[.val (.ref t), .val (.int (32 : Int32)), .val (.int (0 : Int32)), .val (.int (3 : Int32)), .val (.int (32 : Int32)), .val (.int (1 : Int32))] [(.int (1 : Int32)), (.ref t)])) rfl rfl (hb hby d19_16) _) ?_
    show OwnGo p e below s _ _ _ s₁ (mkF m 17 _ [(.int c1.toInt8.toInt32)])
    refine .iload X0 hx (hb hby d19_17) rfl ?_
    have b1 := own_b32 P_c1 hl.2.1
    by_cases q1 : c1.toInt8.toInt32 = (32 : Int32)
    · refine .icmpNo X0 hx (hb hby d19_19) (teq (q1 : c1.toInt8.toInt32 = (32 : Int32))).2 ?_
      refine .iload X0 hx (hb hby d19_22) rfl ?_
      exact OwnGo.ret X0 hx hret hlk rfl (Or.inl ⟨rfl, Or.inl rfl, _, rfl⟩) (hb hby d19_24) (by show Qilc3 Z t kb c0 c1 c2 h0 n0 _ s₁.heap _; rw [e0]; exact ⟨_, rfl, N0, rfl, Or.inr ⟨by decide, (Or.inr (Or.inl (b1.1 q1)))⟩⟩) (by decide) (by decide)
    · refine .icmpYes (pc := 19) X0 hx 25 (hb hby d19_19) (feq (q1 : ¬ (c1.toInt8.toInt32 = (32 : Int32)))).2 (by decide) (by decide) ?_
      refine .iinc X0 hx (hb hby d19_25) rfl own_ka1_1 (L' := #[.val (.ref t), .val (.int (32 : Int32)), .val (.int (0 : Int32)), .val (.int (3 : Int32)), .val (.int (32 : Int32)), .val (.int (2 : Int32))]) rfl ?_
      refine .goto (pc := 28) X0 hx 7 (hb hby d19_28) (by decide) (by decide) ?_
      refine .iload X0 hx (hb hby d19_7) rfl ?_
      refine .iloadN X0 hx (hb hby d19_9) rfl ?_
      refine .icmpNo X0 hx (hb hby d19_10) (tlt ((by decide) : (2 : Int32) < (3 : Int32))).2.1 ?_
      refine .aloadN X0 hx (hb hby d19_13) rfl rfl ?_
      refine .iload X0 hx (hb hby d19_14) rfl ?_
      obtain ⟨cl307, Ar307, -, S307, -, H307, -⟩ := id V_t
      have hin307 : ¬ ((2 : Int32) < 0 ∨ cl307.slots.size ≤ ((2 : Int32)).toNatClampNeg) := inb_of S307 ⟨by decide, by decide⟩
      refine .st (fun _ => X0.baloadBytes hx (j := (2 : Int32)) (v := (.int c2.toInt8.toInt32)) (by first | exact Ar307.1 | (rw [e0]; exact Ar307.1)) (State.isArrayOf_alike hZ.alike Ar307.2.1) Ar307.2.2 hin307 (H307.at hin307 rfl) (g := (mkF m 16 #[.val (.ref t), .val (.int (32 : Int32)), .val (.int (0 : Int32)), .val (.int (3 : Int32)), .val (.int (32 : Int32)), .val (.int (2 : Int32))] [(.int (2 : Int32)), (.ref t)])) rfl rfl (hb hby d19_16) _) ?_
      show OwnGo p e below s _ _ _ s₁ (mkF m 17 _ [(.int c2.toInt8.toInt32)])
      refine .iload X0 hx (hb hby d19_17) rfl ?_
      have b2 := own_b32 P_c2 hl.2.2
      by_cases q2 : c2.toInt8.toInt32 = (32 : Int32)
      · refine .icmpNo X0 hx (hb hby d19_19) (teq (q2 : c2.toInt8.toInt32 = (32 : Int32))).2 ?_
        refine .iload X0 hx (hb hby d19_22) rfl ?_
        exact OwnGo.ret X0 hx hret hlk rfl (Or.inl ⟨rfl, Or.inl rfl, _, rfl⟩) (hb hby d19_24) (by show Qilc3 Z t kb c0 c1 c2 h0 n0 _ s₁.heap _; rw [e0]; exact ⟨_, rfl, N0, rfl, Or.inr ⟨by decide, (Or.inr (Or.inr (b2.1 q2)))⟩⟩) (by decide) (by decide)
      · refine .icmpYes (pc := 19) X0 hx 25 (hb hby d19_19) (feq (q2 : ¬ (c2.toInt8.toInt32 = (32 : Int32)))).2 (by decide) (by decide) ?_
        refine .iinc X0 hx (hb hby d19_25) rfl own_ka2_1 (L' := #[.val (.ref t), .val (.int (32 : Int32)), .val (.int (0 : Int32)), .val (.int (3 : Int32)), .val (.int (32 : Int32)), .val (.int (3 : Int32))]) rfl ?_
        refine .goto (pc := 28) X0 hx 7 (hb hby d19_28) (by decide) (by decide) ?_
        refine .iload X0 hx (hb hby d19_7) rfl ?_
        refine .iloadN X0 hx (hb hby d19_9) rfl ?_
        refine .icmpYes (pc := 10) X0 hx 31 (hb hby d19_10) (flt ((by decide) : ¬ ((3 : Int32) < (3 : Int32)))).2.1 (by decide) (by decide) ?_
        refine .iconst X0 hx (hb hby d19_31) own_kim1 ?_
        exact OwnGo.ret X0 hx hret hlk rfl (Or.inl ⟨rfl, Or.inl rfl, _, rfl⟩) (hb hby d19_32) (by show Qilc3 Z t kb c0 c1 c2 h0 n0 _ s₁.heap _; rw [e0]; exact ⟨_, rfl, N0, rfl, Or.inl ⟨by decide, (by simp only [not_or]; exact ⟨fun z => q0 (b0.2 z), fun z => q1 (b1.2 z), fun z => q2 (b2.2 z)⟩)⟩⟩) (by decide) (by decide)
def QiL3 (Z : State) (t : Addr) (kb : ClassId) (c0 : Int32) (c1 : Int32) (c2 : Int32) (h0 : Heap) (n0 : Nat) (v : Option Value) (h : Heap) (L : List Loc) : Prop := ∃ r : Int32, v = some (.int r) ∧ Fr n0 L ∧ h = h0 ∧ ((r < (0 : Int32) ∧ ¬ (c0 = (32 : Int32) ∨ c1 = (32 : Int32) ∨ c2 = (32 : Int32))) ∨ (¬ r < (0 : Int32) ∧ (c0 = (32 : Int32) ∨ c1 = (32 : Int32) ∨ c2 = (32 : Int32))))
theorem rmiL3 (l : Launch) (Z : State) (a0 : Array Value) (hw : own_tb a0 Z) (ws : List Jvm.Cond) (t : Addr) (kb : ClassId) (c0 : Int32) (c1 : Int32) (c2 : Int32) (h0 : Heap) (n0 : Nat) (Z0 : n0 ≤ h0.size) (V_t : Arv Z h0 t kb .byte (3 : Int32) [(.int c0.toInt8.toInt32), (.int c1.toInt8.toInt32), (.int c2.toInt8.toInt32)] (.int (0 : Int32))) (hl : ¬ (255 : Int32) < c0 ∧ ¬ (255 : Int32) < c1 ∧ ¬ (255 : Int32) < c2) (P_c0 : own_u c0) (P_c1 : own_u c1) (P_c2 : own_u c2) :
    OwnMet l (⟨"java/lang/StringLatin1", "indexOf", "([BIII)I"⟩ : MethodName) jdk_43_method_22_code 4 (some .int) ws ({ frames := 1, cells := 0, slots := 0, locals := 17 } : Room) #[(.ref t), (.int (32 : Int32)), (.int (0 : Int32)), (.int (3 : Int32))] Z h0 (QiL3 Z t kb c0 c1 c2 h0 n0) := by
  refine own_met (plainFor_of_name pn_33) ?_
  intro p e s m below meth c s₁ X0 hx hby hml hret hlk hown hnm hZ e0
  have N0 := Fr.nil n0
  have Z_ := Z0
  refine OwnGo.cast (ef_iL3 m t (32 : Int32) (0 : Int32) (3 : Int32)) ?_
  show OwnGo p e below s _ _ _ s₁ (mkF m 0 _ [])
  refine .iloadN X0 hx (hb hby d15_0) rfl ?_
  obtain ⟨_, _, ⟨T308, L308, k308, n308⟩, -, X308, ⟨Lc308, hQ308, l308, y308, z308⟩, st308⟩ := Jvm.LawKit.callS X0 hx (y := (⟨"java/lang/StringLatin1", "canEncode", "(I)Z"⟩ : MethodName)) hown (mvT hZ (W_ hw 77 rfl)) (mvT hZ (W_ hw 78 rfl)) (mvT hZ (W_ hw 75 rfl)) (mvT hZ (W_ hw 79 rfl)) (by decide) (backOf (W := 0) (rmcanI l Z a0 hw []  h0 n0 Z_ ) hZ (W_ hw 79 rfl) (W_ hw 75 rfl) (by decide) (by decide)) (g := (mkF m 1 #[.val (.ref t), .val (.int (32 : Int32)), .val (.int (0 : Int32)), .val (.int (3 : Int32))] [(.int (32 : Int32))])) rfl (by rw [hml]; rfl) (argsL := [(.int (32 : Int32))]) (rest := []) (lenOf pd_17 rfl) rfl (Nat.le_of_eq rfl) (hb hby d15_1) (fun _ _ => ⟨rfl, e0, (by decide : 0 + 0 ≤ _), (by decide : 0 + 0 ≤ _)⟩)
  dsimp only [Pt.U, Pt.locs, Pt.cells, Pt.slots] at X308 l308 y308 z308 st308 hQ308
  subst l308 y308 z308
  obtain ⟨rfl, N308q, e308⟩ := hQ308
  have N308 := Fr.app N0 N308q
  refine .st st308 ?_
  show OwnGo p e below s _ _ _ T308 (mkF m 4 _ [(.int (1 : Int32))])
  refine .ifYes (pc := 4) X308 hx 9 (hb hby d15_4) ((if0 _ _).trans (feq ((by decide) : ¬ ((1 : Int32) = (0 : Int32)))).2) (by decide) (by decide) ?_
  refine .iloadN X308 hx (hb hby d15_9) rfl ?_
  refine .iconst X308 hx (hb hby d15_10) own_ki0 ?_
  obtain ⟨_, _, ⟨T309, L309, k309, n309⟩, -, X309, ⟨Lc309, hQ309, l309, y309, z309⟩, st309⟩ := Jvm.LawKit.callS X308 hx (y := (⟨"java/lang/Math", "max", "(II)I"⟩ : MethodName)) hown (mvT hZ (W_ hw 80 rfl)) (mvT hZ (W_ hw 81 rfl)) (mvT hZ (W_ hw 82 rfl)) (mvT hZ (W_ hw 83 rfl)) (by decide) (backOf (W := 0) (rmmax0 l Z a0 hw []  h0 n0 Z_ ) hZ (W_ hw 83 rfl) (W_ hw 82 rfl) (by decide) (by decide)) (g := (mkF m 11 #[.val (.ref t), .val (.int (32 : Int32)), .val (.int (0 : Int32)), .val (.int (3 : Int32))] [(.int (0 : Int32)), (.int (0 : Int32))])) rfl (by rw [hml]; rfl) (argsL := [(.int (0 : Int32)), (.int (0 : Int32))]) (rest := []) (lenOf pd_18 rfl) rfl (Nat.le_of_eq rfl) (hb hby d15_11) (fun _ _ => ⟨rfl, e308, (by decide : 0 + 0 ≤ _), (by decide : 0 + 0 ≤ _)⟩)
  dsimp only [Pt.U, Pt.locs, Pt.cells, Pt.slots] at X309 l309 y309 z309 st309 hQ309
  subst l309 y309 z309
  obtain ⟨rfl, N309q, e309⟩ := hQ309
  have N309 := Fr.app N308 N309q
  refine .st st309 ?_
  show OwnGo p e below s _ _ _ T309 (mkF m 14 _ [(.int (0 : Int32))])
  refine .istoreN X309 hx (hb hby d15_14) (L' := #[.val (.ref t), .val (.int (32 : Int32)), .val (.int (0 : Int32)), .val (.int (3 : Int32))]) rfl ?_
  refine .iloadN X309 hx (hb hby d15_15) rfl ?_
  refine .aloadN X309 hx (hb hby d15_16) rfl rfl ?_
  obtain ⟨cl310, Ar310, -, S310, N310, -, -⟩ := id V_t
  refine .st (fun _ => own_len hZ (len_of S310 N310) Ar310 X309 e309 hx (g := (mkF m 17 #[.val (.ref t), .val (.int (32 : Int32)), .val (.int (0 : Int32)), .val (.int (3 : Int32))] [(.ref t), (.int (3 : Int32))])) rfl rfl (hb hby d15_17) _) ?_
  show OwnGo p e below s _ _ _ T309 (mkF m 18 _ [(.int (3 : Int32)), (.int (3 : Int32))])
  obtain ⟨_, _, ⟨T311, L311, k311, n311⟩, -, X311, ⟨Lc311, hQ311, l311, y311, z311⟩, st311⟩ := Jvm.LawKit.callS X309 hx (y := (⟨"java/lang/Math", "min", "(II)I"⟩ : MethodName)) hown (mvT hZ (W_ hw 84 rfl)) (mvT hZ (W_ hw 85 rfl)) (mvT hZ (W_ hw 82 rfl)) (mvT hZ (W_ hw 86 rfl)) (by decide) (backOf (W := 0) (rmminZ l Z a0 hw [] (3 : Int32) h0 n0 Z_ (by decide)) hZ (W_ hw 86 rfl) (W_ hw 82 rfl) (by decide) (by decide)) (g := (mkF m 18 #[.val (.ref t), .val (.int (32 : Int32)), .val (.int (0 : Int32)), .val (.int (3 : Int32))] [(.int (3 : Int32)), (.int (3 : Int32))])) rfl (by rw [hml]; rfl) (argsL := [(.int (3 : Int32)), (.int (3 : Int32))]) (rest := []) (lenOf pd_18 rfl) rfl (Nat.le_of_eq rfl) (hb hby d15_18) (fun _ _ => ⟨rfl, e309, (by decide : 0 + 0 ≤ _), (by decide : 0 + 0 ≤ _)⟩)
  dsimp only [Pt.U, Pt.locs, Pt.cells, Pt.slots] at X311 l311 y311 z311 st311 hQ311
  subst l311 y311 z311
  obtain ⟨rfl, N311q, e311⟩ := hQ311
  have N311 := Fr.app N309 N311q
  refine .st st311 ?_
  show OwnGo p e below s _ _ _ T311 (mkF m 21 _ [(.int (3 : Int32))])
  refine .istoreN X311 hx (hb hby d15_21) (L' := #[.val (.ref t), .val (.int (32 : Int32)), .val (.int (0 : Int32)), .val (.int (3 : Int32))]) rfl ?_
  refine .iloadN X311 hx (hb hby d15_22) rfl ?_
  refine .iloadN X311 hx (hb hby d15_23) rfl ?_
  refine .icmpYes (pc := 24) X311 hx 29 (hb hby d15_24) (tlt ((by decide) : (0 : Int32) < (3 : Int32))).1 (by decide) (by decide) ?_
  refine .aloadN X311 hx (hb hby d15_29) rfl rfl ?_
  refine .iloadN X311 hx (hb hby d15_30) rfl ?_
  refine .iloadN X311 hx (hb hby d15_31) rfl ?_
  refine .iloadN X311 hx (hb hby d15_32) rfl ?_
  obtain ⟨_, _, ⟨T312, L312, k312, n312⟩, -, X312, ⟨Lc312, hQ312, l312, y312, z312⟩, st312⟩ := Jvm.LawKit.callS X311 hx (y := (⟨"java/lang/StringLatin1", "indexOfChar", "([BIII)I"⟩ : MethodName)) hown (mvT hZ (W_ hw 87 rfl)) (mvT hZ (W_ hw 88 rfl)) (mvT hZ (W_ hw 75 rfl)) (mvT hZ (W_ hw 89 rfl)) (by decide) (backOf (W := 0) (rmilc3 l Z a0 hw [] t kb c0 c1 c2 h0 n0 Z_ V_t hl P_c0 P_c1 P_c2) hZ (W_ hw 89 rfl) (W_ hw 75 rfl) (by decide) (by decide)) (g := (mkF m 33 #[.val (.ref t), .val (.int (32 : Int32)), .val (.int (0 : Int32)), .val (.int (3 : Int32))] [(.int (3 : Int32)), (.int (0 : Int32)), (.int (32 : Int32)), (.ref t)])) rfl (by rw [hml]; rfl) (argsL := [(.ref t), (.int (32 : Int32)), (.int (0 : Int32)), (.int (3 : Int32))]) (rest := []) (lenOf pd_19 rfl) rfl (Nat.le_of_eq rfl) (hb hby d15_33) (fun _ _ => ⟨rfl, e311, (by decide : 0 + 0 ≤ _), (by decide : 0 + 0 ≤ _)⟩)
  dsimp only [Pt.U, Pt.locs, Pt.cells, Pt.slots] at X312 l312 y312 z312 st312 hQ312
  subst l312 y312 z312
  obtain ⟨r312, rfl, N312q, e312, hr312⟩ := hQ312
  have N312 := Fr.app N311 N312q
  refine .st st312 ?_
  show OwnGo p e below s _ _ _ T312 (mkF m 36 _ [(.int r312)])
  exact OwnGo.ret X312 hx hret hlk rfl (Or.inl ⟨rfl, Or.inl rfl, _, rfl⟩) (hb hby d15_36) (by show QiL3 Z t kb c0 c1 c2 h0 n0 _ T312.heap _; rw [e312]; exact ⟨_, rfl, N312, rfl, hr312⟩) (by decide) (by decide)
def Qiuu3 (Z : State) (t : Addr) (kb : ClassId) (c0 : Int32) (c1 : Int32) (c2 : Int32) (h0 : Heap) (n0 : Nat) (v : Option Value) (h : Heap) (L : List Loc) : Prop := ∃ r : Int32, v = some (.int r) ∧ Fr n0 L ∧ h = h0 ∧ ((r < (0 : Int32) ∧ ¬ (c0 = (32 : Int32) ∨ c1 = (32 : Int32) ∨ c2 = (32 : Int32))) ∨ (¬ r < (0 : Int32) ∧ (c0 = (32 : Int32) ∨ c1 = (32 : Int32) ∨ c2 = (32 : Int32))))
theorem rmiuu3 (l : Launch) (Z : State) (a0 : Array Value) (hw : own_tb a0 Z) (ws : List Jvm.Cond) (t : Addr) (kb : ClassId) (c0 : Int32) (c1 : Int32) (c2 : Int32) (h0 : Heap) (n0 : Nat) (Z0 : n0 ≤ h0.size) (O_ : Old Z n0 h0) (S_AD : Sta Z Z.heap "java/lang/StringUTF16" "$assertionsDisabled" "Z" (.int (1 : Int32))) (S_HB : Sta Z Z.heap "java/lang/StringUTF16" "HI_BYTE_SHIFT" "I" (.int (0 : Int32))) (S_LB : Sta Z Z.heap "java/lang/StringUTF16" "LO_BYTE_SHIFT" "I" (.int (8 : Int32))) (V_t : Arv Z h0 t kb .byte (6 : Int32) [(.int (own_lo c0)), (.int (own_hi c0)), (.int (own_lo c1)), (.int (own_hi c1)), (.int (own_lo c2)), (.int (own_hi c2))] (.int (0 : Int32))) (P_c0 : own_u c0) (P_c1 : own_u c1) (P_c2 : own_u c2) :
    OwnMet l (⟨"java/lang/StringUTF16", "indexOfCharUnsafe", "([BIII)I"⟩ : MethodName) jdk_52_method_48_code 5 (some .int) ws ({ frames := 1, cells := 0, slots := 0, locals := 13 } : Room) #[(.ref t), (.int (32 : Int32)), (.int (0 : Int32)), (.int (3 : Int32))] Z h0 (Qiuu3 Z t kb c0 c1 c2 h0 n0) := by
  refine own_met (plainFor_of_name pn_23) ?_
  intro p e s m below meth c s₁ X0 hx hby hml hret hlk hown hnm hZ e0
  have N0 := Fr.nil n0
  have Z_ := Z0
  refine OwnGo.cast (ef_iuu3 m t (32 : Int32) (0 : Int32) (3 : Int32)) ?_
  show OwnGo p e below s _ _ _ s₁ (mkF m 0 _ [])
  refine .iloadN X0 hx (hb hby d31_0) rfl ?_
  refine .istore X0 hx (hb hby d31_1) (L' := #[.val (.ref t), .val (.int (32 : Int32)), .val (.int (0 : Int32)), .val (.int (3 : Int32)), .val (.int (0 : Int32))]) rfl ?_
  refine .iload X0 hx (hb hby d31_3) rfl ?_
  refine .iloadN X0 hx (hb hby d31_5) rfl ?_
  refine .icmpNo X0 hx (hb hby d31_6) (tlt ((by decide) : (0 : Int32) < (3 : Int32))).2.1 ?_
  refine .aloadN X0 hx (hb hby d31_9) rfl rfl ?_
  refine .iload X0 hx (hb hby d31_10) rfl ?_
  obtain ⟨_, _, ⟨T313, L313, k313, n313⟩, -, X313, ⟨Lc313, hQ313, l313, y313, z313⟩, st313⟩ := Jvm.LawKit.callS X0 hx (y := (⟨"java/lang/StringUTF16", "getChar", "([BI)C"⟩ : MethodName)) hown (mvT hZ (W_ hw 106 rfl)) (mvT hZ (W_ hw 107 rfl)) (mvT hZ (W_ hw 49 rfl)) (mvT hZ (W_ hw 108 rfl)) (by decide) (backOf (W := 0) (rmgetC0 l Z a0 hw [] t kb c0 (6 : Int32) [(.int (own_lo c0)), (.int (own_hi c0)), (.int (own_lo c1)), (.int (own_hi c1)), (.int (own_lo c2)), (.int (own_hi c2))] h0 n0 Z_ O_ S_AD S_HB S_LB V_t ⟨by decide, by decide⟩ ⟨by decide, by decide⟩ rfl rfl P_c0) hZ (W_ hw 108 rfl) (W_ hw 49 rfl) (by decide) (by decide)) (g := (mkF m 12 #[.val (.ref t), .val (.int (32 : Int32)), .val (.int (0 : Int32)), .val (.int (3 : Int32)), .val (.int (0 : Int32))] [(.int (0 : Int32)), (.ref t)])) rfl (by rw [hml]; rfl) (argsL := [(.ref t), (.int (0 : Int32))]) (rest := []) (lenOf pd_9 rfl) rfl (Nat.le_of_eq rfl) (hb hby d31_12) (fun _ _ => ⟨rfl, e0, (by decide : 0 + 0 ≤ _), (by decide : 0 + 0 ≤ _)⟩)
  dsimp only [Pt.U, Pt.locs, Pt.cells, Pt.slots] at X313 l313 y313 z313 st313 hQ313
  subst l313 y313 z313
  obtain ⟨rfl, N313q, e313⟩ := hQ313
  have N313 := Fr.app N0 N313q
  refine .st st313 ?_
  show OwnGo p e below s _ _ _ T313 (mkF m 15 _ [(.int c0)])
  refine .iloadN X313 hx (hb hby d31_15) rfl ?_
  by_cases q0 : c0 = (32 : Int32)
  · refine .icmpNo X313 hx (hb hby d31_16) (teq (q0 : c0 = (32 : Int32))).2 ?_
    refine .iload X313 hx (hb hby d31_19) rfl ?_
    exact OwnGo.ret X313 hx hret hlk rfl (Or.inl ⟨rfl, Or.inl rfl, _, rfl⟩) (hb hby d31_21) (by show Qiuu3 Z t kb c0 c1 c2 h0 n0 _ T313.heap _; rw [e313]; exact ⟨_, rfl, N313, rfl, Or.inr ⟨by decide, (Or.inl q0)⟩⟩) (by decide) (by decide)
  · refine .icmpYes (pc := 16) X313 hx 22 (hb hby d31_16) (feq (q0 : ¬ (c0 = (32 : Int32)))).2 (by decide) (by decide) ?_
    refine .iinc X313 hx (hb hby d31_22) rfl own_ka0_1 (L' := #[.val (.ref t), .val (.int (32 : Int32)), .val (.int (0 : Int32)), .val (.int (3 : Int32)), .val (.int (1 : Int32))]) rfl ?_
    refine .goto (pc := 25) X313 hx 3 (hb hby d31_25) (by decide) (by decide) ?_
    refine .iload X313 hx (hb hby d31_3) rfl ?_
    refine .iloadN X313 hx (hb hby d31_5) rfl ?_
    refine .icmpNo X313 hx (hb hby d31_6) (tlt ((by decide) : (1 : Int32) < (3 : Int32))).2.1 ?_
    refine .aloadN X313 hx (hb hby d31_9) rfl rfl ?_
    refine .iload X313 hx (hb hby d31_10) rfl ?_
    obtain ⟨_, _, ⟨T314, L314, k314, n314⟩, -, X314, ⟨Lc314, hQ314, l314, y314, z314⟩, st314⟩ := Jvm.LawKit.callS X313 hx (y := (⟨"java/lang/StringUTF16", "getChar", "([BI)C"⟩ : MethodName)) hown (mvT hZ (W_ hw 106 rfl)) (mvT hZ (W_ hw 107 rfl)) (mvT hZ (W_ hw 49 rfl)) (mvT hZ (W_ hw 108 rfl)) (by decide) (backOf (W := 0) (rmgetC1 l Z a0 hw [] t kb c1 (6 : Int32) [(.int (own_lo c0)), (.int (own_hi c0)), (.int (own_lo c1)), (.int (own_hi c1)), (.int (own_lo c2)), (.int (own_hi c2))] h0 n0 Z_ O_ S_AD S_HB S_LB V_t ⟨by decide, by decide⟩ ⟨by decide, by decide⟩ rfl rfl P_c1) hZ (W_ hw 108 rfl) (W_ hw 49 rfl) (by decide) (by decide)) (g := (mkF m 12 #[.val (.ref t), .val (.int (32 : Int32)), .val (.int (0 : Int32)), .val (.int (3 : Int32)), .val (.int (1 : Int32))] [(.int (1 : Int32)), (.ref t)])) rfl (by rw [hml]; rfl) (argsL := [(.ref t), (.int (1 : Int32))]) (rest := []) (lenOf pd_9 rfl) rfl (Nat.le_of_eq rfl) (hb hby d31_12) (fun _ _ => ⟨rfl, e313, (by decide : 0 + 0 ≤ _), (by decide : 0 + 0 ≤ _)⟩)
    dsimp only [Pt.U, Pt.locs, Pt.cells, Pt.slots] at X314 l314 y314 z314 st314 hQ314
    subst l314 y314 z314
    obtain ⟨rfl, N314q, e314⟩ := hQ314
    have N314 := Fr.app N313 N314q
    refine .st st314 ?_
    show OwnGo p e below s _ _ _ T314 (mkF m 15 _ [(.int c1)])
    refine .iloadN X314 hx (hb hby d31_15) rfl ?_
    by_cases q1 : c1 = (32 : Int32)
    · refine .icmpNo X314 hx (hb hby d31_16) (teq (q1 : c1 = (32 : Int32))).2 ?_
      refine .iload X314 hx (hb hby d31_19) rfl ?_
      exact OwnGo.ret X314 hx hret hlk rfl (Or.inl ⟨rfl, Or.inl rfl, _, rfl⟩) (hb hby d31_21) (by show Qiuu3 Z t kb c0 c1 c2 h0 n0 _ T314.heap _; rw [e314]; exact ⟨_, rfl, N314, rfl, Or.inr ⟨by decide, (Or.inr (Or.inl q1))⟩⟩) (by decide) (by decide)
    · refine .icmpYes (pc := 16) X314 hx 22 (hb hby d31_16) (feq (q1 : ¬ (c1 = (32 : Int32)))).2 (by decide) (by decide) ?_
      refine .iinc X314 hx (hb hby d31_22) rfl own_ka1_1 (L' := #[.val (.ref t), .val (.int (32 : Int32)), .val (.int (0 : Int32)), .val (.int (3 : Int32)), .val (.int (2 : Int32))]) rfl ?_
      refine .goto (pc := 25) X314 hx 3 (hb hby d31_25) (by decide) (by decide) ?_
      refine .iload X314 hx (hb hby d31_3) rfl ?_
      refine .iloadN X314 hx (hb hby d31_5) rfl ?_
      refine .icmpNo X314 hx (hb hby d31_6) (tlt ((by decide) : (2 : Int32) < (3 : Int32))).2.1 ?_
      refine .aloadN X314 hx (hb hby d31_9) rfl rfl ?_
      refine .iload X314 hx (hb hby d31_10) rfl ?_
      obtain ⟨_, _, ⟨T315, L315, k315, n315⟩, -, X315, ⟨Lc315, hQ315, l315, y315, z315⟩, st315⟩ := Jvm.LawKit.callS X314 hx (y := (⟨"java/lang/StringUTF16", "getChar", "([BI)C"⟩ : MethodName)) hown (mvT hZ (W_ hw 106 rfl)) (mvT hZ (W_ hw 107 rfl)) (mvT hZ (W_ hw 49 rfl)) (mvT hZ (W_ hw 108 rfl)) (by decide) (backOf (W := 0) (rmgetC2 l Z a0 hw [] t kb c2 (6 : Int32) [(.int (own_lo c0)), (.int (own_hi c0)), (.int (own_lo c1)), (.int (own_hi c1)), (.int (own_lo c2)), (.int (own_hi c2))] h0 n0 Z_ O_ S_AD S_HB S_LB V_t ⟨by decide, by decide⟩ ⟨by decide, by decide⟩ rfl rfl P_c2) hZ (W_ hw 108 rfl) (W_ hw 49 rfl) (by decide) (by decide)) (g := (mkF m 12 #[.val (.ref t), .val (.int (32 : Int32)), .val (.int (0 : Int32)), .val (.int (3 : Int32)), .val (.int (2 : Int32))] [(.int (2 : Int32)), (.ref t)])) rfl (by rw [hml]; rfl) (argsL := [(.ref t), (.int (2 : Int32))]) (rest := []) (lenOf pd_9 rfl) rfl (Nat.le_of_eq rfl) (hb hby d31_12) (fun _ _ => ⟨rfl, e314, (by decide : 0 + 0 ≤ _), (by decide : 0 + 0 ≤ _)⟩)
      dsimp only [Pt.U, Pt.locs, Pt.cells, Pt.slots] at X315 l315 y315 z315 st315 hQ315
      subst l315 y315 z315
      obtain ⟨rfl, N315q, e315⟩ := hQ315
      have N315 := Fr.app N314 N315q
      refine .st st315 ?_
      show OwnGo p e below s _ _ _ T315 (mkF m 15 _ [(.int c2)])
      refine .iloadN X315 hx (hb hby d31_15) rfl ?_
      by_cases q2 : c2 = (32 : Int32)
      · refine .icmpNo X315 hx (hb hby d31_16) (teq (q2 : c2 = (32 : Int32))).2 ?_
        refine .iload X315 hx (hb hby d31_19) rfl ?_
        exact OwnGo.ret X315 hx hret hlk rfl (Or.inl ⟨rfl, Or.inl rfl, _, rfl⟩) (hb hby d31_21) (by show Qiuu3 Z t kb c0 c1 c2 h0 n0 _ T315.heap _; rw [e315]; exact ⟨_, rfl, N315, rfl, Or.inr ⟨by decide, (Or.inr (Or.inr q2))⟩⟩) (by decide) (by decide)
      · refine .icmpYes (pc := 16) X315 hx 22 (hb hby d31_16) (feq (q2 : ¬ (c2 = (32 : Int32)))).2 (by decide) (by decide) ?_
        refine .iinc X315 hx (hb hby d31_22) rfl own_ka2_1 (L' := #[.val (.ref t), .val (.int (32 : Int32)), .val (.int (0 : Int32)), .val (.int (3 : Int32)), .val (.int (3 : Int32))]) rfl ?_
        refine .goto (pc := 25) X315 hx 3 (hb hby d31_25) (by decide) (by decide) ?_
        refine .iload X315 hx (hb hby d31_3) rfl ?_
        refine .iloadN X315 hx (hb hby d31_5) rfl ?_
        refine .icmpYes (pc := 6) X315 hx 28 (hb hby d31_6) (flt ((by decide) : ¬ ((3 : Int32) < (3 : Int32)))).2.1 (by decide) (by decide) ?_
        refine .iconst X315 hx (hb hby d31_28) own_kim1 ?_
        exact OwnGo.ret X315 hx hret hlk rfl (Or.inl ⟨rfl, Or.inl rfl, _, rfl⟩) (hb hby d31_29) (by show Qiuu3 Z t kb c0 c1 c2 h0 n0 _ T315.heap _; rw [e315]; exact ⟨_, rfl, N315, rfl, Or.inl ⟨by decide, (by simp only [not_or]; exact ⟨q0, q1, q2⟩)⟩⟩) (by decide) (by decide)
def Qiuc3 (Z : State) (t : Addr) (kb : ClassId) (c0 : Int32) (c1 : Int32) (c2 : Int32) (fmv : Value) (h0 : Heap) (n0 : Nat) (v : Option Value) (h : Heap) (L : List Loc) : Prop := ∃ r : Int32, v = some (.int r) ∧ Fr n0 L ∧ h = h0 ∧ ((r < (0 : Int32) ∧ ¬ (c0 = (32 : Int32) ∨ c1 = (32 : Int32) ∨ c2 = (32 : Int32))) ∨ (¬ r < (0 : Int32) ∧ (c0 = (32 : Int32) ∨ c1 = (32 : Int32) ∨ c2 = (32 : Int32))))
theorem rmiuc3 (l : Launch) (Z : State) (a0 : Array Value) (hw : own_tb a0 Z) (ws : List Jvm.Cond) (t : Addr) (kb : ClassId) (c0 : Int32) (c1 : Int32) (c2 : Int32) (fmv : Value) (h0 : Heap) (n0 : Nat) (Z0 : n0 ≤ h0.size) (O_ : Old Z n0 h0) (S_AD : Sta Z Z.heap "java/lang/StringUTF16" "$assertionsDisabled" "Z" (.int (1 : Int32))) (S_HB : Sta Z Z.heap "java/lang/StringUTF16" "HI_BYTE_SHIFT" "I" (.int (0 : Int32))) (S_LB : Sta Z Z.heap "java/lang/StringUTF16" "LO_BYTE_SHIFT" "I" (.int (8 : Int32))) (S_SF : Sta Z Z.heap "jdk/internal/util/Preconditions" "SIOOBE_FORMATTER" "Ljava/util/function/BiFunction;" fmv) (rf_fmv : fmv.isRef = true) (V_t : Arv Z h0 t kb .byte (6 : Int32) [(.int (own_lo c0)), (.int (own_hi c0)), (.int (own_lo c1)), (.int (own_hi c1)), (.int (own_lo c2)), (.int (own_hi c2))] (.int (0 : Int32))) (P_c0 : own_u c0) (P_c1 : own_u c1) (P_c2 : own_u c2) :
    OwnMet l (⟨"java/lang/StringUTF16", "indexOfChar", "([BIII)I"⟩ : MethodName) jdk_52_method_47_code 4 (some .int) ws ({ frames := 3, cells := 0, slots := 0, locals := 43 } : Room) #[(.ref t), (.int (32 : Int32)), (.int (0 : Int32)), (.int (3 : Int32))] Z h0 (Qiuc3 Z t kb c0 c1 c2 fmv h0 n0) := by
  refine own_met (plainFor_of_name pn_23) ?_
  intro p e s m below meth c s₁ X0 hx hby hml hret hlk hown hnm hZ e0
  have N0 := Fr.nil n0
  have Z_ := Z0
  refine OwnGo.cast (ef_iuc3 m t (32 : Int32) (0 : Int32) (3 : Int32)) ?_
  show OwnGo p e below s _ _ _ s₁ (mkF m 0 _ [])
  refine .iloadN X0 hx (hb hby d26_0) rfl ?_
  refine .iloadN X0 hx (hb hby d26_1) rfl ?_
  refine .aloadN X0 hx (hb hby d26_2) rfl rfl ?_
  obtain ⟨_, _, ⟨T316, L316, k316, n316⟩, -, X316, ⟨Lc316, hQ316, l316, y316, z316⟩, st316⟩ := Jvm.LawKit.callS X0 hx (y := (⟨"java/lang/StringUTF16", "checkBoundsBeginEnd", "(II[B)V"⟩ : MethodName)) hown (mvT hZ (W_ hw 118 rfl)) (mvT hZ (W_ hw 119 rfl)) (mvT hZ (W_ hw 49 rfl)) (mvT hZ (W_ hw 120 rfl)) (by decide) (backOf (W := 0) (rmcub l Z a0 hw [] t kb [(.int (own_lo c0)), (.int (own_hi c0)), (.int (own_lo c1)), (.int (own_hi c1)), (.int (own_lo c2)), (.int (own_hi c2))] (6 : Int32) (3 : Int32) fmv h0 n0 Z_ O_ S_SF rf_fmv V_t (by decide) (by decide) (by decide)) hZ (W_ hw 120 rfl) (W_ hw 49 rfl) (by decide) (by decide)) (g := (mkF m 3 #[.val (.ref t), .val (.int (32 : Int32)), .val (.int (0 : Int32)), .val (.int (3 : Int32))] [(.ref t), (.int (3 : Int32)), (.int (0 : Int32))])) rfl (by rw [hml]; rfl) (argsL := [(.int (0 : Int32)), (.int (3 : Int32)), (.ref t)]) (rest := []) (lenOf pd_20 rfl) rfl (Nat.le_of_eq rfl) (hb hby d26_3) (fun _ _ => ⟨rfl, e0, (by decide : 0 + 0 ≤ _), (by decide : 0 + 0 ≤ _)⟩)
  dsimp only [Pt.U, Pt.locs, Pt.cells, Pt.slots] at X316 l316 y316 z316 st316 hQ316
  subst l316 y316 z316
  obtain ⟨rfl, N316q, e316⟩ := hQ316
  have N316 := Fr.app N0 N316q
  refine .st st316 ?_
  show OwnGo p e below s _ _ _ T316 (mkF m 6 _ [])
  refine .aloadN X316 hx (hb hby d26_6) rfl rfl ?_
  refine .iloadN X316 hx (hb hby d26_7) rfl ?_
  refine .iloadN X316 hx (hb hby d26_8) rfl ?_
  refine .iloadN X316 hx (hb hby d26_9) rfl ?_
  obtain ⟨_, _, ⟨T317, L317, k317, n317⟩, -, X317, ⟨Lc317, hQ317, l317, y317, z317⟩, st317⟩ := Jvm.LawKit.callS X316 hx (y := (⟨"java/lang/StringUTF16", "indexOfCharUnsafe", "([BIII)I"⟩ : MethodName)) hown (mvT hZ (W_ hw 132 rfl)) (mvT hZ (W_ hw 133 rfl)) (mvT hZ (W_ hw 49 rfl)) (mvT hZ (W_ hw 134 rfl)) (by decide) (backOf (W := 0) (rmiuu3 l Z a0 hw [] t kb c0 c1 c2 h0 n0 Z_ O_ S_AD S_HB S_LB V_t P_c0 P_c1 P_c2) hZ (W_ hw 134 rfl) (W_ hw 49 rfl) (by decide) (by decide)) (g := (mkF m 10 #[.val (.ref t), .val (.int (32 : Int32)), .val (.int (0 : Int32)), .val (.int (3 : Int32))] [(.int (3 : Int32)), (.int (0 : Int32)), (.int (32 : Int32)), (.ref t)])) rfl (by rw [hml]; rfl) (argsL := [(.ref t), (.int (32 : Int32)), (.int (0 : Int32)), (.int (3 : Int32))]) (rest := []) (lenOf pd_19 rfl) rfl (Nat.le_of_eq rfl) (hb hby d26_10) (fun _ _ => ⟨rfl, e316, (by decide : 0 + 0 ≤ _), (by decide : 0 + 0 ≤ _)⟩)
  dsimp only [Pt.U, Pt.locs, Pt.cells, Pt.slots] at X317 l317 y317 z317 st317 hQ317
  subst l317 y317 z317
  obtain ⟨r317, rfl, N317q, e317, hr317⟩ := hQ317
  have N317 := Fr.app N316 N317q
  refine .st st317 ?_
  show OwnGo p e below s _ _ _ T317 (mkF m 13 _ [(.int r317)])
  exact OwnGo.ret X317 hx hret hlk rfl (Or.inl ⟨rfl, Or.inl rfl, _, rfl⟩) (hb hby d26_13) (by show Qiuc3 Z t kb c0 c1 c2 fmv h0 n0 _ T317.heap _; rw [e317]; exact ⟨_, rfl, N317, rfl, hr317⟩) (by decide) (by decide)
def QiU3 (Z : State) (t : Addr) (kb : ClassId) (c0 : Int32) (c1 : Int32) (c2 : Int32) (fmv : Value) (h0 : Heap) (n0 : Nat) (v : Option Value) (h : Heap) (L : List Loc) : Prop := ∃ r : Int32, v = some (.int r) ∧ Fr n0 L ∧ h = h0 ∧ ((r < (0 : Int32) ∧ ¬ (c0 = (32 : Int32) ∨ c1 = (32 : Int32) ∨ c2 = (32 : Int32))) ∨ (¬ r < (0 : Int32) ∧ (c0 = (32 : Int32) ∨ c1 = (32 : Int32) ∨ c2 = (32 : Int32))))
theorem rmiU3 (l : Launch) (Z : State) (a0 : Array Value) (hw : own_tb a0 Z) (ws : List Jvm.Cond) (t : Addr) (kb : ClassId) (c0 : Int32) (c1 : Int32) (c2 : Int32) (fmv : Value) (h0 : Heap) (n0 : Nat) (Z0 : n0 ≤ h0.size) (O_ : Old Z n0 h0) (S_AD : Sta Z Z.heap "java/lang/StringUTF16" "$assertionsDisabled" "Z" (.int (1 : Int32))) (S_HB : Sta Z Z.heap "java/lang/StringUTF16" "HI_BYTE_SHIFT" "I" (.int (0 : Int32))) (S_LB : Sta Z Z.heap "java/lang/StringUTF16" "LO_BYTE_SHIFT" "I" (.int (8 : Int32))) (S_SF : Sta Z Z.heap "jdk/internal/util/Preconditions" "SIOOBE_FORMATTER" "Ljava/util/function/BiFunction;" fmv) (rf_fmv : fmv.isRef = true) (V_t : Arv Z h0 t kb .byte (6 : Int32) [(.int (own_lo c0)), (.int (own_hi c0)), (.int (own_lo c1)), (.int (own_hi c1)), (.int (own_lo c2)), (.int (own_hi c2))] (.int (0 : Int32))) (P_c0 : own_u c0) (P_c1 : own_u c1) (P_c2 : own_u c2) :
    OwnMet l (⟨"java/lang/StringUTF16", "indexOf", "([BIII)I"⟩ : MethodName) jdk_52_method_40_code 4 (some .int) ws ({ frames := 4, cells := 0, slots := 0, locals := 58 } : Room) #[(.ref t), (.int (32 : Int32)), (.int (0 : Int32)), (.int (3 : Int32))] Z h0 (QiU3 Z t kb c0 c1 c2 fmv h0 n0) := by
  refine own_met (plainFor_of_name pn_23) ?_
  intro p e s m below meth c s₁ X0 hx hby hml hret hlk hown hnm hZ e0
  have N0 := Fr.nil n0
  have Z_ := Z0
  refine OwnGo.cast (ef_iU3 m t (32 : Int32) (0 : Int32) (3 : Int32)) ?_
  show OwnGo p e below s _ _ _ s₁ (mkF m 0 _ [])
  refine .iloadN X0 hx (hb hby d25_0) rfl ?_
  refine .iconst X0 hx (hb hby d25_1) own_ki0 ?_
  obtain ⟨_, _, ⟨T318, L318, k318, n318⟩, -, X318, ⟨Lc318, hQ318, l318, y318, z318⟩, st318⟩ := Jvm.LawKit.callS X0 hx (y := (⟨"java/lang/Math", "max", "(II)I"⟩ : MethodName)) hown (mvT hZ (W_ hw 112 rfl)) (mvT hZ (W_ hw 81 rfl)) (mvT hZ (W_ hw 82 rfl)) (mvT hZ (W_ hw 83 rfl)) (by decide) (backOf (W := 0) (rmmax0 l Z a0 hw []  h0 n0 Z_ ) hZ (W_ hw 83 rfl) (W_ hw 82 rfl) (by decide) (by decide)) (g := (mkF m 2 #[.val (.ref t), .val (.int (32 : Int32)), .val (.int (0 : Int32)), .val (.int (3 : Int32))] [(.int (0 : Int32)), (.int (0 : Int32))])) rfl (by rw [hml]; rfl) (argsL := [(.int (0 : Int32)), (.int (0 : Int32))]) (rest := []) (lenOf pd_18 rfl) rfl (Nat.le_of_eq rfl) (hb hby d25_2) (fun _ _ => ⟨rfl, e0, (by decide : 0 + 0 ≤ _), (by decide : 0 + 0 ≤ _)⟩)
  dsimp only [Pt.U, Pt.locs, Pt.cells, Pt.slots] at X318 l318 y318 z318 st318 hQ318
  subst l318 y318 z318
  obtain ⟨rfl, N318q, e318⟩ := hQ318
  have N318 := Fr.app N0 N318q
  refine .st st318 ?_
  show OwnGo p e below s _ _ _ T318 (mkF m 5 _ [(.int (0 : Int32))])
  refine .istoreN X318 hx (hb hby d25_5) (L' := #[.val (.ref t), .val (.int (32 : Int32)), .val (.int (0 : Int32)), .val (.int (3 : Int32))]) rfl ?_
  refine .iloadN X318 hx (hb hby d25_6) rfl ?_
  refine .aloadN X318 hx (hb hby d25_7) rfl rfl ?_
  obtain ⟨cl319, Ar319, -, S319, N319, -, -⟩ := id V_t
  refine .st (fun _ => own_len hZ (len_of S319 N319) Ar319 X318 e318 hx (g := (mkF m 8 #[.val (.ref t), .val (.int (32 : Int32)), .val (.int (0 : Int32)), .val (.int (3 : Int32))] [(.ref t), (.int (3 : Int32))])) rfl rfl (hb hby d25_8) _) ?_
  show OwnGo p e below s _ _ _ T318 (mkF m 9 _ [(.int (6 : Int32)), (.int (3 : Int32))])
  refine .iconst X318 hx (hb hby d25_9) own_ki1 ?_
  refine .st (fun _ => XS.ishr X318.here hx rfl (hb hby d25_10) rfl) ?_
  show OwnGo p e below s _ _ _ T318 (mkF m 11 _ [(.int ((6 : Int32) >>> ((1 : Int32) &&& 31))), (.int (3 : Int32))])
  rw [show ((6 : Int32) >>> ((1 : Int32) &&& 31)) = (3 : Int32) from by decide]
  show OwnGo p e below s _ _ _ T318 (mkF m 11 _ [(.int (3 : Int32)), (.int (3 : Int32))])
  obtain ⟨_, _, ⟨T320, L320, k320, n320⟩, -, X320, ⟨Lc320, hQ320, l320, y320, z320⟩, st320⟩ := Jvm.LawKit.callS X318 hx (y := (⟨"java/lang/Math", "min", "(II)I"⟩ : MethodName)) hown (mvT hZ (W_ hw 113 rfl)) (mvT hZ (W_ hw 85 rfl)) (mvT hZ (W_ hw 82 rfl)) (mvT hZ (W_ hw 86 rfl)) (by decide) (backOf (W := 0) (rmminZ l Z a0 hw [] (3 : Int32) h0 n0 Z_ (by decide)) hZ (W_ hw 86 rfl) (W_ hw 82 rfl) (by decide) (by decide)) (g := (mkF m 11 #[.val (.ref t), .val (.int (32 : Int32)), .val (.int (0 : Int32)), .val (.int (3 : Int32))] [(.int (3 : Int32)), (.int (3 : Int32))])) rfl (by rw [hml]; rfl) (argsL := [(.int (3 : Int32)), (.int (3 : Int32))]) (rest := []) (lenOf pd_18 rfl) rfl (Nat.le_of_eq rfl) (hb hby d25_11) (fun _ _ => ⟨rfl, e318, (by decide : 0 + 0 ≤ _), (by decide : 0 + 0 ≤ _)⟩)
  dsimp only [Pt.U, Pt.locs, Pt.cells, Pt.slots] at X320 l320 y320 z320 st320 hQ320
  subst l320 y320 z320
  obtain ⟨rfl, N320q, e320⟩ := hQ320
  have N320 := Fr.app N318 N320q
  refine .st st320 ?_
  show OwnGo p e below s _ _ _ T320 (mkF m 14 _ [(.int (3 : Int32))])
  refine .istoreN X320 hx (hb hby d25_14) (L' := #[.val (.ref t), .val (.int (32 : Int32)), .val (.int (0 : Int32)), .val (.int (3 : Int32))]) rfl ?_
  refine .iloadN X320 hx (hb hby d25_15) rfl ?_
  refine .iloadN X320 hx (hb hby d25_16) rfl ?_
  refine .icmpYes (pc := 17) X320 hx 22 (hb hby d25_17) (tlt ((by decide) : (0 : Int32) < (3 : Int32))).1 (by decide) (by decide) ?_
  refine .iloadN X320 hx (hb hby d25_22) rfl ?_
  refine .st (fun _ => X320.ldcInt hx hown (mvT hZ (W_ hw 114 rfl)) (g := (mkF m 23 #[.val (.ref t), .val (.int (32 : Int32)), .val (.int (0 : Int32)), .val (.int (3 : Int32))] [(.int (32 : Int32))])) rfl (hb hby d25_23) _) ?_
  show OwnGo p e below s _ _ _ T320 (mkF m 25 _ [(.int (65536 : Int32)), (.int (32 : Int32))])
  refine .icmpNo X320 hx (hb hby d25_25) (tlt (own_bg32_lt_65536 : (32 : Int32) < (65536 : Int32))).2.1 ?_
  refine .aloadN X320 hx (hb hby d25_28) rfl rfl ?_
  refine .iloadN X320 hx (hb hby d25_29) rfl ?_
  refine .iloadN X320 hx (hb hby d25_30) rfl ?_
  refine .iloadN X320 hx (hb hby d25_31) rfl ?_
  obtain ⟨_, _, ⟨T321, L321, k321, n321⟩, -, X321, ⟨Lc321, hQ321, l321, y321, z321⟩, st321⟩ := Jvm.LawKit.callS X320 hx (y := (⟨"java/lang/StringUTF16", "indexOfChar", "([BIII)I"⟩ : MethodName)) hown (mvT hZ (W_ hw 115 rfl)) (mvT hZ (W_ hw 116 rfl)) (mvT hZ (W_ hw 49 rfl)) (mvT hZ (W_ hw 117 rfl)) (by decide) (backOf (W := 0) (rmiuc3 l Z a0 hw [] t kb c0 c1 c2 fmv h0 n0 Z_ O_ S_AD S_HB S_LB S_SF rf_fmv V_t P_c0 P_c1 P_c2) hZ (W_ hw 117 rfl) (W_ hw 49 rfl) (by decide) (by decide)) (g := (mkF m 32 #[.val (.ref t), .val (.int (32 : Int32)), .val (.int (0 : Int32)), .val (.int (3 : Int32))] [(.int (3 : Int32)), (.int (0 : Int32)), (.int (32 : Int32)), (.ref t)])) rfl (by rw [hml]; rfl) (argsL := [(.ref t), (.int (32 : Int32)), (.int (0 : Int32)), (.int (3 : Int32))]) (rest := []) (lenOf pd_19 rfl) rfl (Nat.le_of_eq rfl) (hb hby d25_32) (fun _ _ => ⟨rfl, e320, (by decide : 0 + 0 ≤ _), (by decide : 0 + 0 ≤ _)⟩)
  dsimp only [Pt.U, Pt.locs, Pt.cells, Pt.slots] at X321 l321 y321 z321 st321 hQ321
  subst l321 y321 z321
  obtain ⟨r321, rfl, N321q, e321, hr321⟩ := hQ321
  have N321 := Fr.app N320 N321q
  refine .st st321 ?_
  show OwnGo p e below s _ _ _ T321 (mkF m 35 _ [(.int r321)])
  exact OwnGo.ret X321 hx hret hlk rfl (Or.inl ⟨rfl, Or.inl rfl, _, rfl⟩) (hb hby d25_35) (by show QiU3 Z t kb c0 c1 c2 fmv h0 n0 _ T321.heap _; rw [e321]; exact ⟨_, rfl, N321, rfl, hr321⟩) (by decide) (by decide)
def Qslen3 (Z : State) (x : Addr) (t : Addr) (kb : ClassId) (c0 : Int32) (c1 : Int32) (c2 : Int32) (zc : Int32) (h0 : Heap) (n0 : Nat) (v : Option Value) (h : Heap) (L : List Loc) : Prop := v = some (.int (3 : Int32)) ∧ Fr n0 L ∧ h = h0
theorem rmslen3 (l : Launch) (Z : State) (a0 : Array Value) (hw : own_tb a0 Z) (ws : List Jvm.Cond) (x : Addr) (t : Addr) (kb : ClassId) (c0 : Int32) (c1 : Int32) (c2 : Int32) (zc : Int32) (h0 : Heap) (n0 : Nat) (Z0 : n0 ≤ h0.size) (O_ : Old Z n0 h0) (S_CS : Sta Z Z.heap "java/lang/String" "COMPACT_STRINGS" "Z" (.int zc)) (P_CS : ¬ zc = (0 : Int32)) (SS : own_S3 Z h0 x t kb c0 c1 c2) :
    OwnMet l (⟨"java/lang/String", "length", "()I"⟩ : MethodName) jdk_42_method_54_code 1 (some .int) ws ({ frames := 1, cells := 0, slots := 0, locals := 13 } : Room) #[(.ref x)] Z h0 (Qslen3 Z x t kb c0 c1 c2 zc h0 n0) := by
  refine own_met (plainFor_of_name pn_6) ?_
  intro p e s m below meth c s₁ X0 hx hby hml hret hlk hown hnm hZ e0
  have N0 := Fr.nil n0
  have Z_ := Z0
  refine OwnGo.cast (ef_slen3 m x) ?_
  show OwnGo p e below s _ _ _ s₁ (mkF m 0 _ [])
  obtain ⟨E_x, Fv, hk⟩ := SS
  rcases hk with ⟨Fc, V_t, hl⟩ | ⟨Fc, V_t⟩
  · refine .aloadN X0 hx (hb hby d5_0) rfl rfl ?_
    obtain ⟨T322, X322, e322, st322⟩ := getF X0 hx hZ hown (host := "") (Or.inl (W_ hw 25 rfl)) Via.refl e0 Fv (g := (mkF m 1 #[.val (.ref x)] [(.ref x)])) rfl rfl (hb hby d5_1)
    refine .st st322 ?_
    show OwnGo p e below s _ _ _ T322 (mkF m 4 _ [(.ref t)])
    obtain ⟨cl323, Ar323, -, S323, N323, -, -⟩ := id V_t
    refine .st (fun _ => own_len hZ (len_of S323 N323) Ar323 X322 e322 hx (g := (mkF m 4 #[.val (.ref x)] [(.ref t)])) rfl rfl (hb hby d5_4) _) ?_
    show OwnGo p e below s _ _ _ T322 (mkF m 5 _ [(.int (3 : Int32))])
    refine .aloadN X322 hx (hb hby d5_5) rfl rfl ?_
    obtain ⟨cq324, kq324, q324a, q324b, q324c⟩ := isOf hZ e322 E_x
    obtain ⟨_, _, ⟨T324, L324, k324, n324⟩, -, X324, ⟨Lc324, hQ324, l324, y324, z324⟩, st324⟩ := X322.virtualBack hx (y := (⟨"java/lang/String", "coder", "()B"⟩ : MethodName)) (z := (⟨"java/lang/String", "coder", "()B"⟩ : MethodName)) hown (mvT hZ (W_ hw 32 rfl)) (mvT hZ (W_ hw 33 rfl)) (notFace_of_selects (args := #[]) (mvT hZ (W_ hw 35 rfl))) (mvT hZ (W_ hw 35 rfl)) (mvT hZ (W_ hw 34 rfl)) (by decide) (backOf (W := 1) (rmcoder l Z a0 hw [] x zc h0 n0 Z_ O_ S_CS P_CS Fc) hZ (W_ hw 36 rfl) (W_ hw 7 rfl) (by decide) (by decide)) q324a q324c (g := (mkF m 6 #[.val (.ref x)] [(.ref x), (.int (3 : Int32))])) rfl (by rw [hml]; rfl) (Steps.refl _) (argsL := []) (rest := [(.int (3 : Int32))]) (lenOf pd_0 rfl) rfl (Nat.le_of_eq rfl) (hb hby d5_6) (fun _ _ => ⟨rfl, e322, (by decide : 0 + 0 ≤ _), (by decide : 0 + 0 ≤ _)⟩)
    dsimp only [Pt.U, Pt.locs, Pt.cells, Pt.slots] at X324 l324 y324 z324 st324 hQ324
    subst l324 y324 z324
    obtain ⟨rfl, N324q, e324⟩ := hQ324
    have N324 := Fr.app N0 N324q
    refine .st (fun _ => st324.trans) ?_
    show OwnGo p e below s _ _ _ T324 (mkF m 9 _ [(.int (0 : Int32)), (.int (3 : Int32))])
    refine .st (fun _ => XS.ishr X324.here hx rfl (hb hby d5_9) rfl) ?_
    show OwnGo p e below s _ _ _ T324 (mkF m 10 _ [(.int ((3 : Int32) >>> ((0 : Int32) &&& 31)))])
    rw [show ((3 : Int32) >>> ((0 : Int32) &&& 31)) = (3 : Int32) from by decide]
    show OwnGo p e below s _ _ _ T324 (mkF m 10 _ [(.int (3 : Int32))])
    exact OwnGo.ret X324 hx hret hlk rfl (Or.inl ⟨rfl, Or.inl rfl, _, rfl⟩) (hb hby d5_10) (by show Qslen3 Z x t kb c0 c1 c2 zc h0 n0 _ T324.heap _; rw [e324]; exact ⟨rfl, N324, rfl⟩) (by decide) (by decide)
  · refine .aloadN X0 hx (hb hby d5_0) rfl rfl ?_
    obtain ⟨T325, X325, e325, st325⟩ := getF X0 hx hZ hown (host := "") (Or.inl (W_ hw 25 rfl)) Via.refl e0 Fv (g := (mkF m 1 #[.val (.ref x)] [(.ref x)])) rfl rfl (hb hby d5_1)
    refine .st st325 ?_
    show OwnGo p e below s _ _ _ T325 (mkF m 4 _ [(.ref t)])
    obtain ⟨cl326, Ar326, -, S326, N326, -, -⟩ := id V_t
    refine .st (fun _ => own_len hZ (len_of S326 N326) Ar326 X325 e325 hx (g := (mkF m 4 #[.val (.ref x)] [(.ref t)])) rfl rfl (hb hby d5_4) _) ?_
    show OwnGo p e below s _ _ _ T325 (mkF m 5 _ [(.int (6 : Int32))])
    refine .aloadN X325 hx (hb hby d5_5) rfl rfl ?_
    obtain ⟨cq327, kq327, q327a, q327b, q327c⟩ := isOf hZ e325 E_x
    obtain ⟨_, _, ⟨T327, L327, k327, n327⟩, -, X327, ⟨Lc327, hQ327, l327, y327, z327⟩, st327⟩ := X325.virtualBack hx (y := (⟨"java/lang/String", "coder", "()B"⟩ : MethodName)) (z := (⟨"java/lang/String", "coder", "()B"⟩ : MethodName)) hown (mvT hZ (W_ hw 32 rfl)) (mvT hZ (W_ hw 33 rfl)) (notFace_of_selects (args := #[]) (mvT hZ (W_ hw 35 rfl))) (mvT hZ (W_ hw 35 rfl)) (mvT hZ (W_ hw 34 rfl)) (by decide) (backOf (W := 1) (rmcoder1 l Z a0 hw [] x zc h0 n0 Z_ O_ S_CS P_CS Fc) hZ (W_ hw 36 rfl) (W_ hw 7 rfl) (by decide) (by decide)) q327a q327c (g := (mkF m 6 #[.val (.ref x)] [(.ref x), (.int (6 : Int32))])) rfl (by rw [hml]; rfl) (Steps.refl _) (argsL := []) (rest := [(.int (6 : Int32))]) (lenOf pd_0 rfl) rfl (Nat.le_of_eq rfl) (hb hby d5_6) (fun _ _ => ⟨rfl, e325, (by decide : 0 + 0 ≤ _), (by decide : 0 + 0 ≤ _)⟩)
    dsimp only [Pt.U, Pt.locs, Pt.cells, Pt.slots] at X327 l327 y327 z327 st327 hQ327
    subst l327 y327 z327
    obtain ⟨rfl, N327q, e327⟩ := hQ327
    have N327 := Fr.app N0 N327q
    refine .st (fun _ => st327.trans) ?_
    show OwnGo p e below s _ _ _ T327 (mkF m 9 _ [(.int (1 : Int32)), (.int (6 : Int32))])
    refine .st (fun _ => XS.ishr X327.here hx rfl (hb hby d5_9) rfl) ?_
    show OwnGo p e below s _ _ _ T327 (mkF m 10 _ [(.int ((6 : Int32) >>> ((1 : Int32) &&& 31)))])
    rw [show ((6 : Int32) >>> ((1 : Int32) &&& 31)) = (3 : Int32) from by decide]
    show OwnGo p e below s _ _ _ T327 (mkF m 10 _ [(.int (3 : Int32))])
    exact OwnGo.ret X327 hx hret hlk rfl (Or.inl ⟨rfl, Or.inl rfl, _, rfl⟩) (hb hby d5_10) (by show Qslen3 Z x t kb c0 c1 c2 zc h0 n0 _ T327.heap _; rw [e327]; exact ⟨rfl, N327, rfl⟩) (by decide) (by decide)
def Qsidx3 (Z : State) (x : Addr) (t : Addr) (kb : ClassId) (c0 : Int32) (c1 : Int32) (c2 : Int32) (zc : Int32) (fmv : Value) (h0 : Heap) (n0 : Nat) (v : Option Value) (h : Heap) (L : List Loc) : Prop := ∃ r : Int32, v = some (.int r) ∧ Fr n0 L ∧ h = h0 ∧ ((r < (0 : Int32) ∧ ¬ (c0 = (32 : Int32) ∨ c1 = (32 : Int32) ∨ c2 = (32 : Int32))) ∨ (¬ r < (0 : Int32) ∧ (c0 = (32 : Int32) ∨ c1 = (32 : Int32) ∨ c2 = (32 : Int32))))
theorem rmsidx3 (l : Launch) (Z : State) (a0 : Array Value) (hw : own_tb a0 Z) (ws : List Jvm.Cond) (x : Addr) (t : Addr) (kb : ClassId) (c0 : Int32) (c1 : Int32) (c2 : Int32) (zc : Int32) (fmv : Value) (h0 : Heap) (n0 : Nat) (Z0 : n0 ≤ h0.size) (O_ : Old Z n0 h0) (S_CS : Sta Z Z.heap "java/lang/String" "COMPACT_STRINGS" "Z" (.int zc)) (P_CS : ¬ zc = (0 : Int32)) (S_AD : Sta Z Z.heap "java/lang/StringUTF16" "$assertionsDisabled" "Z" (.int (1 : Int32))) (S_HB : Sta Z Z.heap "java/lang/StringUTF16" "HI_BYTE_SHIFT" "I" (.int (0 : Int32))) (S_LB : Sta Z Z.heap "java/lang/StringUTF16" "LO_BYTE_SHIFT" "I" (.int (8 : Int32))) (S_SF : Sta Z Z.heap "jdk/internal/util/Preconditions" "SIOOBE_FORMATTER" "Ljava/util/function/BiFunction;" fmv) (rf_fmv : fmv.isRef = true) (SS : own_S3 Z h0 x t kb c0 c1 c2) (P_c0 : own_u c0) (P_c1 : own_u c1) (P_c2 : own_u c2) :
    OwnMet l (⟨"java/lang/String", "indexOf", "(II)I"⟩ : MethodName) jdk_42_method_80_code 3 (some .int) ws ({ frames := 5, cells := 0, slots := 0, locals := 73 } : Room) #[(.ref x), (.int (32 : Int32)), (.int (0 : Int32))] Z h0 (Qsidx3 Z x t kb c0 c1 c2 zc fmv h0 n0) := by
  refine own_met (plainFor_of_name pn_6) ?_
  intro p e s m below meth c s₁ X0 hx hby hml hret hlk hown hnm hZ e0
  have N0 := Fr.nil n0
  have Z_ := Z0
  refine OwnGo.cast (ef_sidx3 m x (32 : Int32) (0 : Int32)) ?_
  show OwnGo p e below s _ _ _ s₁ (mkF m 0 _ [])
  obtain ⟨E_x, Fv, hk⟩ := SS
  rcases hk with ⟨Fc, V_t, hl⟩ | ⟨Fc, V_t⟩
  · refine .aloadN X0 hx (hb hby d13_0) rfl rfl ?_
    obtain ⟨cq328, kq328, q328a, q328b, q328c⟩ := isOf hZ e0 E_x
    obtain ⟨_, _, ⟨T328, L328, k328, n328⟩, -, X328, ⟨Lc328, hQ328, l328, y328, z328⟩, st328⟩ := X0.virtualBack hx (y := (⟨"java/lang/String", "isLatin1", "()Z"⟩ : MethodName)) (z := (⟨"java/lang/String", "isLatin1", "()Z"⟩ : MethodName)) hown (mvT hZ (W_ hw 67 rfl)) (mvT hZ (W_ hw 68 rfl)) (notFace_of_selects (args := #[]) (mvT hZ (W_ hw 70 rfl))) (mvT hZ (W_ hw 70 rfl)) (mvT hZ (W_ hw 69 rfl)) (by decide) (backOf (W := 0) (rmisLatin1 l Z a0 hw [] x zc h0 n0 Z_ O_ S_CS P_CS Fc) hZ (W_ hw 71 rfl) (W_ hw 7 rfl) (by decide) (by decide)) q328a q328c (g := (mkF m 1 #[.val (.ref x), .val (.int (32 : Int32)), .val (.int (0 : Int32))] [(.ref x)])) rfl (by rw [hml]; rfl) (Steps.refl _) (argsL := []) (rest := []) (lenOf pd_21 rfl) rfl (Nat.le_of_eq rfl) (hb hby d13_1) (fun _ _ => ⟨rfl, e0, (by decide : 0 + 0 ≤ _), (by decide : 0 + 0 ≤ _)⟩)
    dsimp only [Pt.U, Pt.locs, Pt.cells, Pt.slots] at X328 l328 y328 z328 st328 hQ328
    subst l328 y328 z328
    obtain ⟨rfl, N328q, e328⟩ := hQ328
    have N328 := Fr.app N0 N328q
    refine .st (fun _ => st328.trans) ?_
    show OwnGo p e below s _ _ _ T328 (mkF m 4 _ [(.int (1 : Int32))])
    refine .ifNo X328 hx (hb hby d13_4) ((if0 _ _).trans (feq ((by decide) : ¬ ((1 : Int32) = (0 : Int32)))).1) ?_
    refine .aloadN X328 hx (hb hby d13_7) rfl rfl ?_
    obtain ⟨T329, X329, e329, st329⟩ := getF X328 hx hZ hown (host := "") (Or.inl (W_ hw 25 rfl)) Via.refl e328 Fv (g := (mkF m 8 #[.val (.ref x), .val (.int (32 : Int32)), .val (.int (0 : Int32))] [(.ref x)])) rfl rfl (hb hby d13_8)
    refine .st st329 ?_
    show OwnGo p e below s _ _ _ T329 (mkF m 11 _ [(.ref t)])
    refine .iloadN X329 hx (hb hby d13_11) rfl ?_
    refine .iloadN X329 hx (hb hby d13_12) rfl ?_
    refine .aloadN X329 hx (hb hby d13_13) rfl rfl ?_
    obtain ⟨cq330, kq330, q330a, q330b, q330c⟩ := isOf hZ e329 E_x
    obtain ⟨_, _, ⟨T330, L330, k330, n330⟩, -, X330, ⟨Lc330, hQ330, l330, y330, z330⟩, st330⟩ := X329.virtualBack hx (y := (⟨"java/lang/String", "length", "()I"⟩ : MethodName)) (z := (⟨"java/lang/String", "length", "()I"⟩ : MethodName)) hown (mvT hZ (W_ hw 72 rfl)) (mvT hZ (W_ hw 28 rfl)) (notFace_of_selects (args := #[]) (mvT hZ (W_ hw 30 rfl))) (mvT hZ (W_ hw 30 rfl)) (mvT hZ (W_ hw 29 rfl)) (by decide) (backOf (W := 3) (rmslen3 l Z a0 hw [] x t kb c0 c1 c2 zc h0 n0 Z_ O_ S_CS P_CS ⟨E_x, Fv, Or.inl ⟨Fc, V_t, hl⟩⟩) hZ (W_ hw 31 rfl) (W_ hw 7 rfl) (by decide) (by decide)) q330a q330c (g := (mkF m 14 #[.val (.ref x), .val (.int (32 : Int32)), .val (.int (0 : Int32))] [(.ref x), (.int (0 : Int32)), (.int (32 : Int32)), (.ref t)])) rfl (by rw [hml]; rfl) (Steps.refl _) (argsL := []) (rest := [(.int (0 : Int32)), (.int (32 : Int32)), (.ref t)]) (lenOf pd_22 rfl) rfl (Nat.le_of_eq rfl) (hb hby d13_14) (fun _ _ => ⟨rfl, e329, (by decide : 0 + 0 ≤ _), (by decide : 0 + 0 ≤ _)⟩)
    dsimp only [Pt.U, Pt.locs, Pt.cells, Pt.slots] at X330 l330 y330 z330 st330 hQ330
    subst l330 y330 z330
    obtain ⟨rfl, N330q, e330⟩ := hQ330
    have N330 := Fr.app N328 N330q
    refine .st (fun _ => st330.trans) ?_
    show OwnGo p e below s _ _ _ T330 (mkF m 17 _ [(.int (3 : Int32)), (.int (0 : Int32)), (.int (32 : Int32)), (.ref t)])
    obtain ⟨_, _, ⟨T331, L331, k331, n331⟩, -, X331, ⟨Lc331, hQ331, l331, y331, z331⟩, st331⟩ := Jvm.LawKit.callS X330 hx (y := (⟨"java/lang/StringLatin1", "indexOf", "([BIII)I"⟩ : MethodName)) hown (mvT hZ (W_ hw 73 rfl)) (mvT hZ (W_ hw 74 rfl)) (mvT hZ (W_ hw 75 rfl)) (mvT hZ (W_ hw 76 rfl)) (by decide) (backOf (W := 0) (rmiL3 l Z a0 hw [] t kb c0 c1 c2 h0 n0 Z_ V_t hl P_c0 P_c1 P_c2) hZ (W_ hw 76 rfl) (W_ hw 75 rfl) (by decide) (by decide)) (g := (mkF m 17 #[.val (.ref x), .val (.int (32 : Int32)), .val (.int (0 : Int32))] [(.int (3 : Int32)), (.int (0 : Int32)), (.int (32 : Int32)), (.ref t)])) rfl (by rw [hml]; rfl) (argsL := [(.ref t), (.int (32 : Int32)), (.int (0 : Int32)), (.int (3 : Int32))]) (rest := []) (lenOf pd_19 rfl) rfl (Nat.le_of_eq rfl) (hb hby d13_17) (fun _ _ => ⟨rfl, e330, (by decide : 0 + 0 ≤ _), (by decide : 0 + 0 ≤ _)⟩)
    dsimp only [Pt.U, Pt.locs, Pt.cells, Pt.slots] at X331 l331 y331 z331 st331 hQ331
    subst l331 y331 z331
    obtain ⟨r331, rfl, N331q, e331, hr331⟩ := hQ331
    have N331 := Fr.app N330 N331q
    refine .st st331 ?_
    show OwnGo p e below s _ _ _ T331 (mkF m 20 _ [(.int r331)])
    refine .goto (pc := 20) X331 hx 36 (hb hby d13_20) (by decide) (by decide) ?_
    exact OwnGo.ret X331 hx hret hlk rfl (Or.inl ⟨rfl, Or.inl rfl, _, rfl⟩) (hb hby d13_36) (by show Qsidx3 Z x t kb c0 c1 c2 zc fmv h0 n0 _ T331.heap _; rw [e331]; exact ⟨_, rfl, N331, rfl, hr331⟩) (by decide) (by decide)
  · refine .aloadN X0 hx (hb hby d13_0) rfl rfl ?_
    obtain ⟨cq332, kq332, q332a, q332b, q332c⟩ := isOf hZ e0 E_x
    obtain ⟨_, _, ⟨T332, L332, k332, n332⟩, -, X332, ⟨Lc332, hQ332, l332, y332, z332⟩, st332⟩ := X0.virtualBack hx (y := (⟨"java/lang/String", "isLatin1", "()Z"⟩ : MethodName)) (z := (⟨"java/lang/String", "isLatin1", "()Z"⟩ : MethodName)) hown (mvT hZ (W_ hw 67 rfl)) (mvT hZ (W_ hw 68 rfl)) (notFace_of_selects (args := #[]) (mvT hZ (W_ hw 70 rfl))) (mvT hZ (W_ hw 70 rfl)) (mvT hZ (W_ hw 69 rfl)) (by decide) (backOf (W := 0) (rmisL1 l Z a0 hw [] x zc h0 n0 Z_ O_ S_CS P_CS Fc) hZ (W_ hw 71 rfl) (W_ hw 7 rfl) (by decide) (by decide)) q332a q332c (g := (mkF m 1 #[.val (.ref x), .val (.int (32 : Int32)), .val (.int (0 : Int32))] [(.ref x)])) rfl (by rw [hml]; rfl) (Steps.refl _) (argsL := []) (rest := []) (lenOf pd_21 rfl) rfl (Nat.le_of_eq rfl) (hb hby d13_1) (fun _ _ => ⟨rfl, e0, (by decide : 0 + 0 ≤ _), (by decide : 0 + 0 ≤ _)⟩)
    dsimp only [Pt.U, Pt.locs, Pt.cells, Pt.slots] at X332 l332 y332 z332 st332 hQ332
    subst l332 y332 z332
    obtain ⟨rfl, N332q, e332⟩ := hQ332
    have N332 := Fr.app N0 N332q
    refine .st (fun _ => st332.trans) ?_
    show OwnGo p e below s _ _ _ T332 (mkF m 4 _ [(.int (0 : Int32))])
    refine .ifYes (pc := 4) X332 hx 23 (hb hby d13_4) ((if0 _ _).trans (teq ((by decide) : (0 : Int32) = (0 : Int32))).1) (by decide) (by decide) ?_
    refine .aloadN X332 hx (hb hby d13_23) rfl rfl ?_
    obtain ⟨T333, X333, e333, st333⟩ := getF X332 hx hZ hown (host := "") (Or.inl (W_ hw 25 rfl)) Via.refl e332 Fv (g := (mkF m 24 #[.val (.ref x), .val (.int (32 : Int32)), .val (.int (0 : Int32))] [(.ref x)])) rfl rfl (hb hby d13_24)
    refine .st st333 ?_
    show OwnGo p e below s _ _ _ T333 (mkF m 27 _ [(.ref t)])
    refine .iloadN X333 hx (hb hby d13_27) rfl ?_
    refine .iloadN X333 hx (hb hby d13_28) rfl ?_
    refine .aloadN X333 hx (hb hby d13_29) rfl rfl ?_
    obtain ⟨cq334, kq334, q334a, q334b, q334c⟩ := isOf hZ e333 E_x
    obtain ⟨_, _, ⟨T334, L334, k334, n334⟩, -, X334, ⟨Lc334, hQ334, l334, y334, z334⟩, st334⟩ := X333.virtualBack hx (y := (⟨"java/lang/String", "length", "()I"⟩ : MethodName)) (z := (⟨"java/lang/String", "length", "()I"⟩ : MethodName)) hown (mvT hZ (W_ hw 72 rfl)) (mvT hZ (W_ hw 28 rfl)) (notFace_of_selects (args := #[]) (mvT hZ (W_ hw 30 rfl))) (mvT hZ (W_ hw 30 rfl)) (mvT hZ (W_ hw 29 rfl)) (by decide) (backOf (W := 3) (rmslen3 l Z a0 hw [] x t kb c0 c1 c2 zc h0 n0 Z_ O_ S_CS P_CS ⟨E_x, Fv, Or.inr ⟨Fc, V_t⟩⟩) hZ (W_ hw 31 rfl) (W_ hw 7 rfl) (by decide) (by decide)) q334a q334c (g := (mkF m 30 #[.val (.ref x), .val (.int (32 : Int32)), .val (.int (0 : Int32))] [(.ref x), (.int (0 : Int32)), (.int (32 : Int32)), (.ref t)])) rfl (by rw [hml]; rfl) (Steps.refl _) (argsL := []) (rest := [(.int (0 : Int32)), (.int (32 : Int32)), (.ref t)]) (lenOf pd_22 rfl) rfl (Nat.le_of_eq rfl) (hb hby d13_30) (fun _ _ => ⟨rfl, e333, (by decide : 0 + 0 ≤ _), (by decide : 0 + 0 ≤ _)⟩)
    dsimp only [Pt.U, Pt.locs, Pt.cells, Pt.slots] at X334 l334 y334 z334 st334 hQ334
    subst l334 y334 z334
    obtain ⟨rfl, N334q, e334⟩ := hQ334
    have N334 := Fr.app N332 N334q
    refine .st (fun _ => st334.trans) ?_
    show OwnGo p e below s _ _ _ T334 (mkF m 33 _ [(.int (3 : Int32)), (.int (0 : Int32)), (.int (32 : Int32)), (.ref t)])
    obtain ⟨_, _, ⟨T335, L335, k335, n335⟩, -, X335, ⟨Lc335, hQ335, l335, y335, z335⟩, st335⟩ := Jvm.LawKit.callS X334 hx (y := (⟨"java/lang/StringUTF16", "indexOf", "([BIII)I"⟩ : MethodName)) hown (mvT hZ (W_ hw 109 rfl)) (mvT hZ (W_ hw 110 rfl)) (mvT hZ (W_ hw 49 rfl)) (mvT hZ (W_ hw 111 rfl)) (by decide) (backOf (W := 0) (rmiU3 l Z a0 hw [] t kb c0 c1 c2 fmv h0 n0 Z_ O_ S_AD S_HB S_LB S_SF rf_fmv V_t P_c0 P_c1 P_c2) hZ (W_ hw 111 rfl) (W_ hw 49 rfl) (by decide) (by decide)) (g := (mkF m 33 #[.val (.ref x), .val (.int (32 : Int32)), .val (.int (0 : Int32))] [(.int (3 : Int32)), (.int (0 : Int32)), (.int (32 : Int32)), (.ref t)])) rfl (by rw [hml]; rfl) (argsL := [(.ref t), (.int (32 : Int32)), (.int (0 : Int32)), (.int (3 : Int32))]) (rest := []) (lenOf pd_19 rfl) rfl (Nat.le_of_eq rfl) (hb hby d13_33) (fun _ _ => ⟨rfl, e334, (by decide : 0 + 0 ≤ _), (by decide : 0 + 0 ≤ _)⟩)
    dsimp only [Pt.U, Pt.locs, Pt.cells, Pt.slots] at X335 l335 y335 z335 st335 hQ335
    subst l335 y335 z335
    obtain ⟨r335, rfl, N335q, e335, hr335⟩ := hQ335
    have N335 := Fr.app N334 N335q
    refine .st st335 ?_
    show OwnGo p e below s _ _ _ T335 (mkF m 36 _ [(.int r335)])
    exact OwnGo.ret X335 hx hret hlk rfl (Or.inl ⟨rfl, Or.inl rfl, _, rfl⟩) (hb hby d13_36) (by show Qsidx3 Z x t kb c0 c1 c2 zc fmv h0 n0 _ T335.heap _; rw [e335]; exact ⟨_, rfl, N335, rfl, hr335⟩) (by decide) (by decide)
def QsidI3 (Z : State) (x : Addr) (t : Addr) (kb : ClassId) (c0 : Int32) (c1 : Int32) (c2 : Int32) (zc : Int32) (fmv : Value) (h0 : Heap) (n0 : Nat) (v : Option Value) (h : Heap) (L : List Loc) : Prop := ∃ r : Int32, v = some (.int r) ∧ Fr n0 L ∧ h = h0 ∧ ((r < (0 : Int32) ∧ ¬ (c0 = (32 : Int32) ∨ c1 = (32 : Int32) ∨ c2 = (32 : Int32))) ∨ (¬ r < (0 : Int32) ∧ (c0 = (32 : Int32) ∨ c1 = (32 : Int32) ∨ c2 = (32 : Int32))))
theorem rmsidI3 (l : Launch) (Z : State) (a0 : Array Value) (hw : own_tb a0 Z) (ws : List Jvm.Cond) (x : Addr) (t : Addr) (kb : ClassId) (c0 : Int32) (c1 : Int32) (c2 : Int32) (zc : Int32) (fmv : Value) (h0 : Heap) (n0 : Nat) (Z0 : n0 ≤ h0.size) (O_ : Old Z n0 h0) (S_CS : Sta Z Z.heap "java/lang/String" "COMPACT_STRINGS" "Z" (.int zc)) (P_CS : ¬ zc = (0 : Int32)) (S_AD : Sta Z Z.heap "java/lang/StringUTF16" "$assertionsDisabled" "Z" (.int (1 : Int32))) (S_HB : Sta Z Z.heap "java/lang/StringUTF16" "HI_BYTE_SHIFT" "I" (.int (0 : Int32))) (S_LB : Sta Z Z.heap "java/lang/StringUTF16" "LO_BYTE_SHIFT" "I" (.int (8 : Int32))) (S_SF : Sta Z Z.heap "jdk/internal/util/Preconditions" "SIOOBE_FORMATTER" "Ljava/util/function/BiFunction;" fmv) (rf_fmv : fmv.isRef = true) (SS : own_S3 Z h0 x t kb c0 c1 c2) (P_c0 : own_u c0) (P_c1 : own_u c1) (P_c2 : own_u c2) :
    OwnMet l (⟨"java/lang/String", "indexOf", "(I)I"⟩ : MethodName) jdk_42_method_79_code 2 (some .int) ws ({ frames := 6, cells := 0, slots := 0, locals := 87 } : Room) #[(.ref x), (.int (32 : Int32))] Z h0 (QsidI3 Z x t kb c0 c1 c2 zc fmv h0 n0) := by
  refine own_met (plainFor_of_name pn_6) ?_
  intro p e s m below meth c s₁ X0 hx hby hml hret hlk hown hnm hZ e0
  have N0 := Fr.nil n0
  have Z_ := Z0
  refine OwnGo.cast (ef_sidI3 m x (32 : Int32)) ?_
  show OwnGo p e below s _ _ _ s₁ (mkF m 0 _ [])
  have E_x := SS.1
  refine .aloadN X0 hx (hb hby d12_0) rfl rfl ?_
  refine .iloadN X0 hx (hb hby d12_1) rfl ?_
  refine .iconst X0 hx (hb hby d12_2) own_ki0 ?_
  obtain ⟨cq336, kq336, q336a, q336b, q336c⟩ := isOf hZ e0 E_x
  obtain ⟨_, _, ⟨T336, L336, k336, n336⟩, -, X336, ⟨Lc336, hQ336, l336, y336, z336⟩, st336⟩ := X0.virtualBack hx (y := (⟨"java/lang/String", "indexOf", "(II)I"⟩ : MethodName)) (z := (⟨"java/lang/String", "indexOf", "(II)I"⟩ : MethodName)) hown (mvT hZ (W_ hw 62 rfl)) (mvT hZ (W_ hw 63 rfl)) (notFace_of_selects (args := #[]) (mvT hZ (W_ hw 65 rfl))) (mvT hZ (W_ hw 65 rfl)) (mvT hZ (W_ hw 64 rfl)) (by decide) (backOf (W := 0) (rmsidx3 l Z a0 hw [] x t kb c0 c1 c2 zc fmv h0 n0 Z_ O_ S_CS P_CS S_AD S_HB S_LB S_SF rf_fmv SS P_c0 P_c1 P_c2) hZ (W_ hw 66 rfl) (W_ hw 7 rfl) (by decide) (by decide)) q336a q336c (g := (mkF m 3 #[.val (.ref x), .val (.int (32 : Int32))] [(.int (0 : Int32)), (.int (32 : Int32)), (.ref x)])) rfl (by rw [hml]; rfl) (Steps.refl _) (argsL := [(.int (32 : Int32)), (.int (0 : Int32))]) (rest := []) (lenOf pd_18 rfl) rfl (Nat.le_of_eq rfl) (hb hby d12_3) (fun _ _ => ⟨rfl, e0, (by decide : 0 + 0 ≤ _), (by decide : 0 + 0 ≤ _)⟩)
  dsimp only [Pt.U, Pt.locs, Pt.cells, Pt.slots] at X336 l336 y336 z336 st336 hQ336
  subst l336 y336 z336
  obtain ⟨r336, rfl, N336q, e336, hr336⟩ := hQ336
  have N336 := Fr.app N0 N336q
  refine .st (fun _ => st336.trans) ?_
  show OwnGo p e below s _ _ _ T336 (mkF m 6 _ [(.int r336)])
  exact OwnGo.ret X336 hx hret hlk rfl (Or.inl ⟨rfl, Or.inl rfl, _, rfl⟩) (hb hby d12_6) (by show QsidI3 Z x t kb c0 c1 c2 zc fmv h0 n0 _ T336.heap _; rw [e336]; exact ⟨_, rfl, N336, rfl, hr336⟩) (by decide) (by decide)
def QisW3 (Z : State) (x : Addr) (t : Addr) (kb : ClassId) (c0 : Int32) (c1 : Int32) (c2 : Int32) (zc : Int32) (fmv : Value) (h0 : Heap) (n0 : Nat) (v : Option Value) (h : Heap) (L : List Loc) : Prop := ∃ r : Int32, v = some (.int r) ∧ Fr n0 L ∧ h = h0 ∧ ((r = (1 : Int32) ∧ ¬ (c0 = (32 : Int32) ∨ c1 = (32 : Int32) ∨ c2 = (32 : Int32))) ∨ (r = (0 : Int32) ∧ (c0 = (32 : Int32) ∨ c1 = (32 : Int32) ∨ c2 = (32 : Int32))))
theorem rmisW3 (l : Launch) (Z : State) (a0 : Array Value) (hw : own_tb a0 Z) (ws : List Jvm.Cond) (x : Addr) (t : Addr) (kb : ClassId) (c0 : Int32) (c1 : Int32) (c2 : Int32) (zc : Int32) (fmv : Value) (h0 : Heap) (n0 : Nat) (Z0 : n0 ≤ h0.size) (O_ : Old Z n0 h0) (S_CS : Sta Z Z.heap "java/lang/String" "COMPACT_STRINGS" "Z" (.int zc)) (P_CS : ¬ zc = (0 : Int32)) (S_AD : Sta Z Z.heap "java/lang/StringUTF16" "$assertionsDisabled" "Z" (.int (1 : Int32))) (S_HB : Sta Z Z.heap "java/lang/StringUTF16" "HI_BYTE_SHIFT" "I" (.int (0 : Int32))) (S_LB : Sta Z Z.heap "java/lang/StringUTF16" "LO_BYTE_SHIFT" "I" (.int (8 : Int32))) (S_SF : Sta Z Z.heap "jdk/internal/util/Preconditions" "SIOOBE_FORMATTER" "Ljava/util/function/BiFunction;" fmv) (rf_fmv : fmv.isRef = true) (SS : own_S3 Z h0 x t kb c0 c1 c2) (P_c0 : own_u c0) (P_c1 : own_u c1) (P_c2 : own_u c2) :
    OwnMet l (⟨"com/example/tightrope/tightrope/format/TextFormat", "isWord", "(Ljava/lang/String;)Z"⟩ : MethodName) prog_27_method_5_code 1 (some .boolean) ws ({ frames := 7, cells := 0, slots := 0, locals := 100 } : Room) #[(.ref x)] Z h0 (QisW3 Z x t kb c0 c1 c2 zc fmv h0 n0) := by
  refine own_met (plainFor_of_name pn_7) ?_
  intro p e s m below meth c s₁ X0 hx hby hml hret hlk hown hnm hZ e0
  have N0 := Fr.nil n0
  have Z_ := Z0
  refine OwnGo.cast (ef_isW3 m x) ?_
  show OwnGo p e below s _ _ _ s₁ (mkF m 0 _ [])
  obtain ⟨E_x, Fv, hk⟩ := SS
  rcases hk with ⟨Fc, V_t, hl⟩ | ⟨Fc, V_t⟩
  · refine .aloadN X0 hx (hb hby d7_0) rfl rfl ?_
    obtain ⟨cq337, kq337, q337a, q337b, q337c⟩ := isOf hZ e0 E_x
    obtain ⟨_, _, ⟨T337, L337, k337, n337⟩, -, X337, ⟨Lc337, hQ337, l337, y337, z337⟩, st337⟩ := X0.virtualBack hx (y := (⟨"java/lang/String", "isEmpty", "()Z"⟩ : MethodName)) (z := (⟨"java/lang/String", "isEmpty", "()Z"⟩ : MethodName)) hown (mvT hZ (W_ hw 42 rfl)) (mvT hZ (W_ hw 43 rfl)) (notFace_of_selects (args := #[]) (mvT hZ (W_ hw 45 rfl))) (mvT hZ (W_ hw 45 rfl)) (mvT hZ (W_ hw 44 rfl)) (by decide) (backOf (W := 0) (rmempN l Z a0 hw [] x t kb (3 : Int32) [(.int c0.toInt8.toInt32), (.int c1.toInt8.toInt32), (.int c2.toInt8.toInt32)] h0 n0 Z_ Fv V_t (by decide)) hZ (W_ hw 46 rfl) (W_ hw 7 rfl) (by decide) (by decide)) q337a q337c (g := (mkF m 1 #[.val (.ref x)] [(.ref x)])) rfl (by rw [hml]; rfl) (Steps.refl _) (argsL := []) (rest := []) (lenOf pd_21 rfl) rfl (Nat.le_of_eq rfl) (hb hby d7_1) (fun _ _ => ⟨rfl, e0, (by decide : 0 + 0 ≤ _), (by decide : 0 + 0 ≤ _)⟩)
    dsimp only [Pt.U, Pt.locs, Pt.cells, Pt.slots] at X337 l337 y337 z337 st337 hQ337
    subst l337 y337 z337
    obtain ⟨rfl, N337q, e337⟩ := hQ337
    have N337 := Fr.app N0 N337q
    refine .st (fun _ => st337.trans) ?_
    show OwnGo p e below s _ _ _ T337 (mkF m 4 _ [(.int (0 : Int32))])
    refine .ifNo X337 hx (hb hby d7_4) ((if0 _ _).trans (teq ((by decide) : (0 : Int32) = (0 : Int32))).2) ?_
    refine .aloadN X337 hx (hb hby d7_7) rfl rfl ?_
    refine .bipush X337 hx (hb hby d7_8) own_kb32 ?_
    obtain ⟨cq338, kq338, q338a, q338b, q338c⟩ := isOf hZ e337 E_x
    obtain ⟨_, _, ⟨T338, L338, k338, n338⟩, -, X338, ⟨Lc338, hQ338, l338, y338, z338⟩, st338⟩ := X337.virtualBack hx (y := (⟨"java/lang/String", "indexOf", "(I)I"⟩ : MethodName)) (z := (⟨"java/lang/String", "indexOf", "(I)I"⟩ : MethodName)) hown (mvT hZ (W_ hw 57 rfl)) (mvT hZ (W_ hw 58 rfl)) (notFace_of_selects (args := #[]) (mvT hZ (W_ hw 60 rfl))) (mvT hZ (W_ hw 60 rfl)) (mvT hZ (W_ hw 59 rfl)) (by decide) (backOf (W := 0) (rmsidI3 l Z a0 hw [] x t kb c0 c1 c2 zc fmv h0 n0 Z_ O_ S_CS P_CS S_AD S_HB S_LB S_SF rf_fmv ⟨E_x, Fv, Or.inl ⟨Fc, V_t, hl⟩⟩ P_c0 P_c1 P_c2) hZ (W_ hw 61 rfl) (W_ hw 7 rfl) (by decide) (by decide)) q338a q338c (g := (mkF m 10 #[.val (.ref x)] [(.int (32 : Int32)), (.ref x)])) rfl (by rw [hml]; rfl) (Steps.refl _) (argsL := [(.int (32 : Int32))]) (rest := []) (lenOf pd_5 rfl) rfl (Nat.le_of_eq rfl) (hb hby d7_10) (fun _ _ => ⟨rfl, e337, (by decide : 0 + 0 ≤ _), (by decide : 0 + 0 ≤ _)⟩)
    dsimp only [Pt.U, Pt.locs, Pt.cells, Pt.slots] at X338 l338 y338 z338 st338 hQ338
    subst l338 y338 z338
    obtain ⟨r338, rfl, N338q, e338, hr338⟩ := hQ338
    have N338 := Fr.app N337 N338q
    refine .st (fun _ => st338.trans) ?_
    show OwnGo p e below s _ _ _ T338 (mkF m 13 _ [(.int r338)])
    rcases hr338 with ⟨hn, hs⟩ | ⟨hn, hs⟩
    · refine .ifNo X338 hx (hb hby d7_13) ((if0 _ _).trans (tlt (hn : r338 < (0 : Int32))).2.1) ?_
      refine .iconst X338 hx (hb hby d7_16) own_ki1 ?_
      refine .goto (pc := 17) X338 hx 21 (hb hby d7_17) (by decide) (by decide) ?_
      exact OwnGo.retN X338 hx (t := .boolean) hret hlk (by simp) (hb hby d7_21) (by show QisW3 Z x t kb c0 c1 c2 zc fmv h0 n0 _ T338.heap _; rw [e338]; exact ⟨_, rfl, N338, rfl, Or.inl ⟨rfl, hs⟩⟩) (by decide) (by decide)
    · refine .ifYes (pc := 13) X338 hx 20 (hb hby d7_13) ((if0 _ _).trans (flt (hn : ¬ (r338 < (0 : Int32)))).2.1) (by decide) (by decide) ?_
      refine .iconst X338 hx (hb hby d7_20) own_ki0 ?_
      exact OwnGo.retN X338 hx (t := .boolean) hret hlk (by simp) (hb hby d7_21) (by show QisW3 Z x t kb c0 c1 c2 zc fmv h0 n0 _ T338.heap _; rw [e338]; exact ⟨_, rfl, N338, rfl, Or.inr ⟨rfl, hs⟩⟩) (by decide) (by decide)
  · refine .aloadN X0 hx (hb hby d7_0) rfl rfl ?_
    obtain ⟨cq339, kq339, q339a, q339b, q339c⟩ := isOf hZ e0 E_x
    obtain ⟨_, _, ⟨T339, L339, k339, n339⟩, -, X339, ⟨Lc339, hQ339, l339, y339, z339⟩, st339⟩ := X0.virtualBack hx (y := (⟨"java/lang/String", "isEmpty", "()Z"⟩ : MethodName)) (z := (⟨"java/lang/String", "isEmpty", "()Z"⟩ : MethodName)) hown (mvT hZ (W_ hw 42 rfl)) (mvT hZ (W_ hw 43 rfl)) (notFace_of_selects (args := #[]) (mvT hZ (W_ hw 45 rfl))) (mvT hZ (W_ hw 45 rfl)) (mvT hZ (W_ hw 44 rfl)) (by decide) (backOf (W := 0) (rmempN l Z a0 hw [] x t kb (6 : Int32) [(.int (own_lo c0)), (.int (own_hi c0)), (.int (own_lo c1)), (.int (own_hi c1)), (.int (own_lo c2)), (.int (own_hi c2))] h0 n0 Z_ Fv V_t (by decide)) hZ (W_ hw 46 rfl) (W_ hw 7 rfl) (by decide) (by decide)) q339a q339c (g := (mkF m 1 #[.val (.ref x)] [(.ref x)])) rfl (by rw [hml]; rfl) (Steps.refl _) (argsL := []) (rest := []) (lenOf pd_21 rfl) rfl (Nat.le_of_eq rfl) (hb hby d7_1) (fun _ _ => ⟨rfl, e0, (by decide : 0 + 0 ≤ _), (by decide : 0 + 0 ≤ _)⟩)
    dsimp only [Pt.U, Pt.locs, Pt.cells, Pt.slots] at X339 l339 y339 z339 st339 hQ339
    subst l339 y339 z339
    obtain ⟨rfl, N339q, e339⟩ := hQ339
    have N339 := Fr.app N0 N339q
    refine .st (fun _ => st339.trans) ?_
    show OwnGo p e below s _ _ _ T339 (mkF m 4 _ [(.int (0 : Int32))])
    refine .ifNo X339 hx (hb hby d7_4) ((if0 _ _).trans (teq ((by decide) : (0 : Int32) = (0 : Int32))).2) ?_
    refine .aloadN X339 hx (hb hby d7_7) rfl rfl ?_
    refine .bipush X339 hx (hb hby d7_8) own_kb32 ?_
    obtain ⟨cq340, kq340, q340a, q340b, q340c⟩ := isOf hZ e339 E_x
    obtain ⟨_, _, ⟨T340, L340, k340, n340⟩, -, X340, ⟨Lc340, hQ340, l340, y340, z340⟩, st340⟩ := X339.virtualBack hx (y := (⟨"java/lang/String", "indexOf", "(I)I"⟩ : MethodName)) (z := (⟨"java/lang/String", "indexOf", "(I)I"⟩ : MethodName)) hown (mvT hZ (W_ hw 57 rfl)) (mvT hZ (W_ hw 58 rfl)) (notFace_of_selects (args := #[]) (mvT hZ (W_ hw 60 rfl))) (mvT hZ (W_ hw 60 rfl)) (mvT hZ (W_ hw 59 rfl)) (by decide) (backOf (W := 0) (rmsidI3 l Z a0 hw [] x t kb c0 c1 c2 zc fmv h0 n0 Z_ O_ S_CS P_CS S_AD S_HB S_LB S_SF rf_fmv ⟨E_x, Fv, Or.inr ⟨Fc, V_t⟩⟩ P_c0 P_c1 P_c2) hZ (W_ hw 61 rfl) (W_ hw 7 rfl) (by decide) (by decide)) q340a q340c (g := (mkF m 10 #[.val (.ref x)] [(.int (32 : Int32)), (.ref x)])) rfl (by rw [hml]; rfl) (Steps.refl _) (argsL := [(.int (32 : Int32))]) (rest := []) (lenOf pd_5 rfl) rfl (Nat.le_of_eq rfl) (hb hby d7_10) (fun _ _ => ⟨rfl, e339, (by decide : 0 + 0 ≤ _), (by decide : 0 + 0 ≤ _)⟩)
    dsimp only [Pt.U, Pt.locs, Pt.cells, Pt.slots] at X340 l340 y340 z340 st340 hQ340
    subst l340 y340 z340
    obtain ⟨r340, rfl, N340q, e340, hr340⟩ := hQ340
    have N340 := Fr.app N339 N340q
    refine .st (fun _ => st340.trans) ?_
    show OwnGo p e below s _ _ _ T340 (mkF m 13 _ [(.int r340)])
    rcases hr340 with ⟨hn, hs⟩ | ⟨hn, hs⟩
    · refine .ifNo X340 hx (hb hby d7_13) ((if0 _ _).trans (tlt (hn : r340 < (0 : Int32))).2.1) ?_
      refine .iconst X340 hx (hb hby d7_16) own_ki1 ?_
      refine .goto (pc := 17) X340 hx 21 (hb hby d7_17) (by decide) (by decide) ?_
      exact OwnGo.retN X340 hx (t := .boolean) hret hlk (by simp) (hb hby d7_21) (by show QisW3 Z x t kb c0 c1 c2 zc fmv h0 n0 _ T340.heap _; rw [e340]; exact ⟨_, rfl, N340, rfl, Or.inl ⟨rfl, hs⟩⟩) (by decide) (by decide)
    · refine .ifYes (pc := 13) X340 hx 20 (hb hby d7_13) ((if0 _ _).trans (flt (hn : ¬ (r340 < (0 : Int32)))).2.1) (by decide) (by decide) ?_
      refine .iconst X340 hx (hb hby d7_20) own_ki0 ?_
      exact OwnGo.retN X340 hx (t := .boolean) hret hlk (by simp) (hb hby d7_21) (by show QisW3 Z x t kb c0 c1 c2 zc fmv h0 n0 _ T340.heap _; rw [e340]; exact ⟨_, rfl, N340, rfl, Or.inr ⟨rfl, hs⟩⟩) (by decide) (by decide)
def Qilc4 (Z : State) (t : Addr) (kb : ClassId) (c0 : Int32) (c1 : Int32) (c2 : Int32) (c3 : Int32) (h0 : Heap) (n0 : Nat) (v : Option Value) (h : Heap) (L : List Loc) : Prop := ∃ r : Int32, v = some (.int r) ∧ Fr n0 L ∧ h = h0 ∧ ((r < (0 : Int32) ∧ ¬ (c0 = (32 : Int32) ∨ c1 = (32 : Int32) ∨ c2 = (32 : Int32) ∨ c3 = (32 : Int32))) ∨ (¬ r < (0 : Int32) ∧ (c0 = (32 : Int32) ∨ c1 = (32 : Int32) ∨ c2 = (32 : Int32) ∨ c3 = (32 : Int32))))
theorem rmilc4 (l : Launch) (Z : State) (a0 : Array Value) (hw : own_tb a0 Z) (ws : List Jvm.Cond) (t : Addr) (kb : ClassId) (c0 : Int32) (c1 : Int32) (c2 : Int32) (c3 : Int32) (h0 : Heap) (n0 : Nat) (Z0 : n0 ≤ h0.size) (V_t : Arv Z h0 t kb .byte (4 : Int32) [(.int c0.toInt8.toInt32), (.int c1.toInt8.toInt32), (.int c2.toInt8.toInt32), (.int c3.toInt8.toInt32)] (.int (0 : Int32))) (hl : ¬ (255 : Int32) < c0 ∧ ¬ (255 : Int32) < c1 ∧ ¬ (255 : Int32) < c2 ∧ ¬ (255 : Int32) < c3) (P_c0 : own_u c0) (P_c1 : own_u c1) (P_c2 : own_u c2) (P_c3 : own_u c3) :
    OwnMet l (⟨"java/lang/StringLatin1", "indexOfChar", "([BIII)I"⟩ : MethodName) jdk_43_method_23_code 6 (some .int) ws ({ frames := 0, cells := 0, slots := 0, locals := 0 } : Room) #[(.ref t), (.int (32 : Int32)), (.int (0 : Int32)), (.int (4 : Int32))] Z h0 (Qilc4 Z t kb c0 c1 c2 c3 h0 n0) := by
  refine own_met (plainFor_of_name pn_33) ?_
  intro p e s m below meth c s₁ X0 hx hby hml hret hlk hown hnm hZ e0
  have N0 := Fr.nil n0
  have Z_ := Z0
  refine OwnGo.cast (ef_ilc4 m t (32 : Int32) (0 : Int32) (4 : Int32)) ?_
  show OwnGo p e below s _ _ _ s₁ (mkF m 0 _ [])
  refine .iloadN X0 hx (hb hby d19_0) rfl ?_
  refine .st (fun _ => XS.i2b X0.here hx rfl (hb hby d19_1) rfl) ?_
  show OwnGo p e below s _ _ _ s₁ (mkF m 2 _ [(.int ((32 : Int32).toInt8.toInt32))])
  rw [show ((32 : Int32).toInt8.toInt32) = (32 : Int32) from by decide]
  show OwnGo p e below s _ _ _ s₁ (mkF m 2 _ [(.int (32 : Int32))])
  refine .istore X0 hx (hb hby d19_2) (L' := #[.val (.ref t), .val (.int (32 : Int32)), .val (.int (0 : Int32)), .val (.int (4 : Int32)), .val (.int (32 : Int32)), .unset]) rfl ?_
  refine .iloadN X0 hx (hb hby d19_4) rfl ?_
  refine .istore X0 hx (hb hby d19_5) (L' := #[.val (.ref t), .val (.int (32 : Int32)), .val (.int (0 : Int32)), .val (.int (4 : Int32)), .val (.int (32 : Int32)), .val (.int (0 : Int32))]) rfl ?_
  refine .iload X0 hx (hb hby d19_7) rfl ?_
  refine .iloadN X0 hx (hb hby d19_9) rfl ?_
  refine .icmpNo X0 hx (hb hby d19_10) (tlt ((by decide) : (0 : Int32) < (4 : Int32))).2.1 ?_
  refine .aloadN X0 hx (hb hby d19_13) rfl rfl ?_
  refine .iload X0 hx (hb hby d19_14) rfl ?_
  obtain ⟨cl341, Ar341, -, S341, -, H341, -⟩ := id V_t
  have hin341 : ¬ ((0 : Int32) < 0 ∨ cl341.slots.size ≤ ((0 : Int32)).toNatClampNeg) := inb_of S341 ⟨by decide, by decide⟩
  refine .st (fun _ => X0.baloadBytes hx (j := (0 : Int32)) (v := (.int c0.toInt8.toInt32)) (by first | exact Ar341.1 | (rw [e0]; exact Ar341.1)) (State.isArrayOf_alike hZ.alike Ar341.2.1) Ar341.2.2 hin341 (H341.at hin341 rfl) (g := (mkF m 16 #[.val (.ref t), .val (.int (32 : Int32)), .val (.int (0 : Int32)), .val (.int (4 : Int32)), .val (.int (32 : Int32)), .val (.int (0 : Int32))] [(.int (0 : Int32)), (.ref t)])) rfl rfl (hb hby d19_16) _) ?_
  show OwnGo p e below s _ _ _ s₁ (mkF m 17 _ [(.int c0.toInt8.toInt32)])
  refine .iload X0 hx (hb hby d19_17) rfl ?_
  have b0 := own_b32 P_c0 hl.1
  by_cases q0 : c0.toInt8.toInt32 = (32 : Int32)
  · refine .icmpNo X0 hx (hb hby d19_19) (teq (q0 : c0.toInt8.toInt32 = (32 : Int32))).2 ?_
    refine .iload X0 hx (hb hby d19_22) rfl ?_
    exact OwnGo.ret X0 hx hret hlk rfl (Or.inl ⟨rfl, Or.inl rfl, _, rfl⟩) (hb hby d19_24) (by show Qilc4 Z t kb c0 c1 c2 c3 h0 n0 _ s₁.heap _; rw [e0]; exact ⟨_, rfl, N0, rfl, Or.inr ⟨by decide, (Or.inl (b0.1 q0))⟩⟩) (by decide) (by decide)
  · refine .icmpYes (pc := 19) X0 hx 25 (hb hby d19_19) (feq (q0 : ¬ (c0.toInt8.toInt32 = (32 : Int32)))).2 (by decide) (by decide) ?_
    refine .iinc X0 hx (hb hby d19_25) rfl own_ka0_1 (L' := #[.val (.ref t), .val (.int (32 : Int32)), .val (.int (0 : Int32)), .val (.int (4 : Int32)), .val (.int (32 : Int32)), .val (.int (1 : Int32))]) rfl ?_
    refine .goto (pc := 28) X0 hx 7 (hb hby d19_28) (by decide) (by decide) ?_
    refine .iload X0 hx (hb hby d19_7) rfl ?_
    refine .iloadN X0 hx (hb hby d19_9) rfl ?_
    refine .icmpNo X0 hx (hb hby d19_10) (tlt ((by decide) : (1 : Int32) < (4 : Int32))).2.1 ?_
    refine .aloadN X0 hx (hb hby d19_13) rfl rfl ?_
    refine .iload X0 hx (hb hby d19_14) rfl ?_
    obtain ⟨cl342, Ar342, -, S342, -, H342, -⟩ := id V_t
    have hin342 : ¬ ((1 : Int32) < 0 ∨ cl342.slots.size ≤ ((1 : Int32)).toNatClampNeg) := inb_of S342 ⟨by decide, by decide⟩
    refine .st (fun _ => X0.baloadBytes hx (j := (1 : Int32)) (v := (.int c1.toInt8.toInt32)) (by first | exact Ar342.1 | (rw [e0]; exact Ar342.1)) (State.isArrayOf_alike hZ.alike Ar342.2.1) Ar342.2.2 hin342 (H342.at hin342 rfl) (g := (mkF m 16 #[.val (.ref t), .val (.int (32 : Int32)), .val (.int (0 : Int32)), .val (.int (4 : Int32)), .val (.int (32 : Int32)), .val (.int (1 : Int32))] [(.int (1 : Int32)), (.ref t)])) rfl rfl (hb hby d19_16) _) ?_
    show OwnGo p e below s _ _ _ s₁ (mkF m 17 _ [(.int c1.toInt8.toInt32)])
    refine .iload X0 hx (hb hby d19_17) rfl ?_
    have b1 := own_b32 P_c1 hl.2.1
    by_cases q1 : c1.toInt8.toInt32 = (32 : Int32)
    · refine .icmpNo X0 hx (hb hby d19_19) (teq (q1 : c1.toInt8.toInt32 = (32 : Int32))).2 ?_
      refine .iload X0 hx (hb hby d19_22) rfl ?_
      exact OwnGo.ret X0 hx hret hlk rfl (Or.inl ⟨rfl, Or.inl rfl, _, rfl⟩) (hb hby d19_24) (by show Qilc4 Z t kb c0 c1 c2 c3 h0 n0 _ s₁.heap _; rw [e0]; exact ⟨_, rfl, N0, rfl, Or.inr ⟨by decide, (Or.inr (Or.inl (b1.1 q1)))⟩⟩) (by decide) (by decide)
    · refine .icmpYes (pc := 19) X0 hx 25 (hb hby d19_19) (feq (q1 : ¬ (c1.toInt8.toInt32 = (32 : Int32)))).2 (by decide) (by decide) ?_
      refine .iinc X0 hx (hb hby d19_25) rfl own_ka1_1 (L' := #[.val (.ref t), .val (.int (32 : Int32)), .val (.int (0 : Int32)), .val (.int (4 : Int32)), .val (.int (32 : Int32)), .val (.int (2 : Int32))]) rfl ?_
      refine .goto (pc := 28) X0 hx 7 (hb hby d19_28) (by decide) (by decide) ?_
      refine .iload X0 hx (hb hby d19_7) rfl ?_
      refine .iloadN X0 hx (hb hby d19_9) rfl ?_
      refine .icmpNo X0 hx (hb hby d19_10) (tlt ((by decide) : (2 : Int32) < (4 : Int32))).2.1 ?_
      refine .aloadN X0 hx (hb hby d19_13) rfl rfl ?_
      refine .iload X0 hx (hb hby d19_14) rfl ?_
      obtain ⟨cl343, Ar343, -, S343, -, H343, -⟩ := id V_t
      have hin343 : ¬ ((2 : Int32) < 0 ∨ cl343.slots.size ≤ ((2 : Int32)).toNatClampNeg) := inb_of S343 ⟨by decide, by decide⟩
      refine .st (fun _ => X0.baloadBytes hx (j := (2 : Int32)) (v := (.int c2.toInt8.toInt32)) (by first | exact Ar343.1 | (rw [e0]; exact Ar343.1)) (State.isArrayOf_alike hZ.alike Ar343.2.1) Ar343.2.2 hin343 (H343.at hin343 rfl) (g := (mkF m 16 #[.val (.ref t), .val (.int (32 : Int32)), .val (.int (0 : Int32)), .val (.int (4 : Int32)), .val (.int (32 : Int32)), .val (.int (2 : Int32))] [(.int (2 : Int32)), (.ref t)])) rfl rfl (hb hby d19_16) _) ?_
      show OwnGo p e below s _ _ _ s₁ (mkF m 17 _ [(.int c2.toInt8.toInt32)])
      refine .iload X0 hx (hb hby d19_17) rfl ?_
      have b2 := own_b32 P_c2 hl.2.2.1
      by_cases q2 : c2.toInt8.toInt32 = (32 : Int32)
      · refine .icmpNo X0 hx (hb hby d19_19) (teq (q2 : c2.toInt8.toInt32 = (32 : Int32))).2 ?_
        refine .iload X0 hx (hb hby d19_22) rfl ?_
        exact OwnGo.ret X0 hx hret hlk rfl (Or.inl ⟨rfl, Or.inl rfl, _, rfl⟩) (hb hby d19_24) (by show Qilc4 Z t kb c0 c1 c2 c3 h0 n0 _ s₁.heap _; rw [e0]; exact ⟨_, rfl, N0, rfl, Or.inr ⟨by decide, (Or.inr (Or.inr (Or.inl (b2.1 q2))))⟩⟩) (by decide) (by decide)
      · refine .icmpYes (pc := 19) X0 hx 25 (hb hby d19_19) (feq (q2 : ¬ (c2.toInt8.toInt32 = (32 : Int32)))).2 (by decide) (by decide) ?_
        refine .iinc X0 hx (hb hby d19_25) rfl own_ka2_1 (L' := #[.val (.ref t), .val (.int (32 : Int32)), .val (.int (0 : Int32)), .val (.int (4 : Int32)), .val (.int (32 : Int32)), .val (.int (3 : Int32))]) rfl ?_
        refine .goto (pc := 28) X0 hx 7 (hb hby d19_28) (by decide) (by decide) ?_
        refine .iload X0 hx (hb hby d19_7) rfl ?_
        refine .iloadN X0 hx (hb hby d19_9) rfl ?_
        refine .icmpNo X0 hx (hb hby d19_10) (tlt ((by decide) : (3 : Int32) < (4 : Int32))).2.1 ?_
        refine .aloadN X0 hx (hb hby d19_13) rfl rfl ?_
        refine .iload X0 hx (hb hby d19_14) rfl ?_
        obtain ⟨cl344, Ar344, -, S344, -, H344, -⟩ := id V_t
        have hin344 : ¬ ((3 : Int32) < 0 ∨ cl344.slots.size ≤ ((3 : Int32)).toNatClampNeg) := inb_of S344 ⟨by decide, by decide⟩
        refine .st (fun _ => X0.baloadBytes hx (j := (3 : Int32)) (v := (.int c3.toInt8.toInt32)) (by first | exact Ar344.1 | (rw [e0]; exact Ar344.1)) (State.isArrayOf_alike hZ.alike Ar344.2.1) Ar344.2.2 hin344 (H344.at hin344 rfl) (g := (mkF m 16 #[.val (.ref t), .val (.int (32 : Int32)), .val (.int (0 : Int32)), .val (.int (4 : Int32)), .val (.int (32 : Int32)), .val (.int (3 : Int32))] [(.int (3 : Int32)), (.ref t)])) rfl rfl (hb hby d19_16) _) ?_
        show OwnGo p e below s _ _ _ s₁ (mkF m 17 _ [(.int c3.toInt8.toInt32)])
        refine .iload X0 hx (hb hby d19_17) rfl ?_
        have b3 := own_b32 P_c3 hl.2.2.2
        by_cases q3 : c3.toInt8.toInt32 = (32 : Int32)
        · refine .icmpNo X0 hx (hb hby d19_19) (teq (q3 : c3.toInt8.toInt32 = (32 : Int32))).2 ?_
          refine .iload X0 hx (hb hby d19_22) rfl ?_
          exact OwnGo.ret X0 hx hret hlk rfl (Or.inl ⟨rfl, Or.inl rfl, _, rfl⟩) (hb hby d19_24) (by show Qilc4 Z t kb c0 c1 c2 c3 h0 n0 _ s₁.heap _; rw [e0]; exact ⟨_, rfl, N0, rfl, Or.inr ⟨by decide, (Or.inr (Or.inr (Or.inr (b3.1 q3))))⟩⟩) (by decide) (by decide)
        · refine .icmpYes (pc := 19) X0 hx 25 (hb hby d19_19) (feq (q3 : ¬ (c3.toInt8.toInt32 = (32 : Int32)))).2 (by decide) (by decide) ?_
          refine .iinc X0 hx (hb hby d19_25) rfl own_ka3_1 (L' := #[.val (.ref t), .val (.int (32 : Int32)), .val (.int (0 : Int32)), .val (.int (4 : Int32)), .val (.int (32 : Int32)), .val (.int (4 : Int32))]) rfl ?_
          refine .goto (pc := 28) X0 hx 7 (hb hby d19_28) (by decide) (by decide) ?_
          refine .iload X0 hx (hb hby d19_7) rfl ?_
          refine .iloadN X0 hx (hb hby d19_9) rfl ?_
          refine .icmpYes (pc := 10) X0 hx 31 (hb hby d19_10) (flt ((by decide) : ¬ ((4 : Int32) < (4 : Int32)))).2.1 (by decide) (by decide) ?_
          refine .iconst X0 hx (hb hby d19_31) own_kim1 ?_
          exact OwnGo.ret X0 hx hret hlk rfl (Or.inl ⟨rfl, Or.inl rfl, _, rfl⟩) (hb hby d19_32) (by show Qilc4 Z t kb c0 c1 c2 c3 h0 n0 _ s₁.heap _; rw [e0]; exact ⟨_, rfl, N0, rfl, Or.inl ⟨by decide, (by simp only [not_or]; exact ⟨fun z => q0 (b0.2 z), fun z => q1 (b1.2 z), fun z => q2 (b2.2 z), fun z => q3 (b3.2 z)⟩)⟩⟩) (by decide) (by decide)
def QiL4 (Z : State) (t : Addr) (kb : ClassId) (c0 : Int32) (c1 : Int32) (c2 : Int32) (c3 : Int32) (h0 : Heap) (n0 : Nat) (v : Option Value) (h : Heap) (L : List Loc) : Prop := ∃ r : Int32, v = some (.int r) ∧ Fr n0 L ∧ h = h0 ∧ ((r < (0 : Int32) ∧ ¬ (c0 = (32 : Int32) ∨ c1 = (32 : Int32) ∨ c2 = (32 : Int32) ∨ c3 = (32 : Int32))) ∨ (¬ r < (0 : Int32) ∧ (c0 = (32 : Int32) ∨ c1 = (32 : Int32) ∨ c2 = (32 : Int32) ∨ c3 = (32 : Int32))))
theorem rmiL4 (l : Launch) (Z : State) (a0 : Array Value) (hw : own_tb a0 Z) (ws : List Jvm.Cond) (t : Addr) (kb : ClassId) (c0 : Int32) (c1 : Int32) (c2 : Int32) (c3 : Int32) (h0 : Heap) (n0 : Nat) (Z0 : n0 ≤ h0.size) (V_t : Arv Z h0 t kb .byte (4 : Int32) [(.int c0.toInt8.toInt32), (.int c1.toInt8.toInt32), (.int c2.toInt8.toInt32), (.int c3.toInt8.toInt32)] (.int (0 : Int32))) (hl : ¬ (255 : Int32) < c0 ∧ ¬ (255 : Int32) < c1 ∧ ¬ (255 : Int32) < c2 ∧ ¬ (255 : Int32) < c3) (P_c0 : own_u c0) (P_c1 : own_u c1) (P_c2 : own_u c2) (P_c3 : own_u c3) :
    OwnMet l (⟨"java/lang/StringLatin1", "indexOf", "([BIII)I"⟩ : MethodName) jdk_43_method_22_code 4 (some .int) ws ({ frames := 1, cells := 0, slots := 0, locals := 17 } : Room) #[(.ref t), (.int (32 : Int32)), (.int (0 : Int32)), (.int (4 : Int32))] Z h0 (QiL4 Z t kb c0 c1 c2 c3 h0 n0) := by
  refine own_met (plainFor_of_name pn_33) ?_
  intro p e s m below meth c s₁ X0 hx hby hml hret hlk hown hnm hZ e0
  have N0 := Fr.nil n0
  have Z_ := Z0
  refine OwnGo.cast (ef_iL4 m t (32 : Int32) (0 : Int32) (4 : Int32)) ?_
  show OwnGo p e below s _ _ _ s₁ (mkF m 0 _ [])
  refine .iloadN X0 hx (hb hby d15_0) rfl ?_
  obtain ⟨_, _, ⟨T345, L345, k345, n345⟩, -, X345, ⟨Lc345, hQ345, l345, y345, z345⟩, st345⟩ := Jvm.LawKit.callS X0 hx (y := (⟨"java/lang/StringLatin1", "canEncode", "(I)Z"⟩ : MethodName)) hown (mvT hZ (W_ hw 77 rfl)) (mvT hZ (W_ hw 78 rfl)) (mvT hZ (W_ hw 75 rfl)) (mvT hZ (W_ hw 79 rfl)) (by decide) (backOf (W := 0) (rmcanI l Z a0 hw []  h0 n0 Z_ ) hZ (W_ hw 79 rfl) (W_ hw 75 rfl) (by decide) (by decide)) (g := (mkF m 1 #[.val (.ref t), .val (.int (32 : Int32)), .val (.int (0 : Int32)), .val (.int (4 : Int32))] [(.int (32 : Int32))])) rfl (by rw [hml]; rfl) (argsL := [(.int (32 : Int32))]) (rest := []) (lenOf pd_17 rfl) rfl (Nat.le_of_eq rfl) (hb hby d15_1) (fun _ _ => ⟨rfl, e0, (by decide : 0 + 0 ≤ _), (by decide : 0 + 0 ≤ _)⟩)
  dsimp only [Pt.U, Pt.locs, Pt.cells, Pt.slots] at X345 l345 y345 z345 st345 hQ345
  subst l345 y345 z345
  obtain ⟨rfl, N345q, e345⟩ := hQ345
  have N345 := Fr.app N0 N345q
  refine .st st345 ?_
  show OwnGo p e below s _ _ _ T345 (mkF m 4 _ [(.int (1 : Int32))])
  refine .ifYes (pc := 4) X345 hx 9 (hb hby d15_4) ((if0 _ _).trans (feq ((by decide) : ¬ ((1 : Int32) = (0 : Int32)))).2) (by decide) (by decide) ?_
  refine .iloadN X345 hx (hb hby d15_9) rfl ?_
  refine .iconst X345 hx (hb hby d15_10) own_ki0 ?_
  obtain ⟨_, _, ⟨T346, L346, k346, n346⟩, -, X346, ⟨Lc346, hQ346, l346, y346, z346⟩, st346⟩ := Jvm.LawKit.callS X345 hx (y := (⟨"java/lang/Math", "max", "(II)I"⟩ : MethodName)) hown (mvT hZ (W_ hw 80 rfl)) (mvT hZ (W_ hw 81 rfl)) (mvT hZ (W_ hw 82 rfl)) (mvT hZ (W_ hw 83 rfl)) (by decide) (backOf (W := 0) (rmmax0 l Z a0 hw []  h0 n0 Z_ ) hZ (W_ hw 83 rfl) (W_ hw 82 rfl) (by decide) (by decide)) (g := (mkF m 11 #[.val (.ref t), .val (.int (32 : Int32)), .val (.int (0 : Int32)), .val (.int (4 : Int32))] [(.int (0 : Int32)), (.int (0 : Int32))])) rfl (by rw [hml]; rfl) (argsL := [(.int (0 : Int32)), (.int (0 : Int32))]) (rest := []) (lenOf pd_18 rfl) rfl (Nat.le_of_eq rfl) (hb hby d15_11) (fun _ _ => ⟨rfl, e345, (by decide : 0 + 0 ≤ _), (by decide : 0 + 0 ≤ _)⟩)
  dsimp only [Pt.U, Pt.locs, Pt.cells, Pt.slots] at X346 l346 y346 z346 st346 hQ346
  subst l346 y346 z346
  obtain ⟨rfl, N346q, e346⟩ := hQ346
  have N346 := Fr.app N345 N346q
  refine .st st346 ?_
  show OwnGo p e below s _ _ _ T346 (mkF m 14 _ [(.int (0 : Int32))])
  refine .istoreN X346 hx (hb hby d15_14) (L' := #[.val (.ref t), .val (.int (32 : Int32)), .val (.int (0 : Int32)), .val (.int (4 : Int32))]) rfl ?_
  refine .iloadN X346 hx (hb hby d15_15) rfl ?_
  refine .aloadN X346 hx (hb hby d15_16) rfl rfl ?_
  obtain ⟨cl347, Ar347, -, S347, N347, -, -⟩ := id V_t
  refine .st (fun _ => own_len hZ (len_of S347 N347) Ar347 X346 e346 hx (g := (mkF m 17 #[.val (.ref t), .val (.int (32 : Int32)), .val (.int (0 : Int32)), .val (.int (4 : Int32))] [(.ref t), (.int (4 : Int32))])) rfl rfl (hb hby d15_17) _) ?_
  show OwnGo p e below s _ _ _ T346 (mkF m 18 _ [(.int (4 : Int32)), (.int (4 : Int32))])
  obtain ⟨_, _, ⟨T348, L348, k348, n348⟩, -, X348, ⟨Lc348, hQ348, l348, y348, z348⟩, st348⟩ := Jvm.LawKit.callS X346 hx (y := (⟨"java/lang/Math", "min", "(II)I"⟩ : MethodName)) hown (mvT hZ (W_ hw 84 rfl)) (mvT hZ (W_ hw 85 rfl)) (mvT hZ (W_ hw 82 rfl)) (mvT hZ (W_ hw 86 rfl)) (by decide) (backOf (W := 0) (rmminZ l Z a0 hw [] (4 : Int32) h0 n0 Z_ (by decide)) hZ (W_ hw 86 rfl) (W_ hw 82 rfl) (by decide) (by decide)) (g := (mkF m 18 #[.val (.ref t), .val (.int (32 : Int32)), .val (.int (0 : Int32)), .val (.int (4 : Int32))] [(.int (4 : Int32)), (.int (4 : Int32))])) rfl (by rw [hml]; rfl) (argsL := [(.int (4 : Int32)), (.int (4 : Int32))]) (rest := []) (lenOf pd_18 rfl) rfl (Nat.le_of_eq rfl) (hb hby d15_18) (fun _ _ => ⟨rfl, e346, (by decide : 0 + 0 ≤ _), (by decide : 0 + 0 ≤ _)⟩)
  dsimp only [Pt.U, Pt.locs, Pt.cells, Pt.slots] at X348 l348 y348 z348 st348 hQ348
  subst l348 y348 z348
  obtain ⟨rfl, N348q, e348⟩ := hQ348
  have N348 := Fr.app N346 N348q
  refine .st st348 ?_
  show OwnGo p e below s _ _ _ T348 (mkF m 21 _ [(.int (4 : Int32))])
  refine .istoreN X348 hx (hb hby d15_21) (L' := #[.val (.ref t), .val (.int (32 : Int32)), .val (.int (0 : Int32)), .val (.int (4 : Int32))]) rfl ?_
  refine .iloadN X348 hx (hb hby d15_22) rfl ?_
  refine .iloadN X348 hx (hb hby d15_23) rfl ?_
  refine .icmpYes (pc := 24) X348 hx 29 (hb hby d15_24) (tlt ((by decide) : (0 : Int32) < (4 : Int32))).1 (by decide) (by decide) ?_
  refine .aloadN X348 hx (hb hby d15_29) rfl rfl ?_
  refine .iloadN X348 hx (hb hby d15_30) rfl ?_
  refine .iloadN X348 hx (hb hby d15_31) rfl ?_
  refine .iloadN X348 hx (hb hby d15_32) rfl ?_
  obtain ⟨_, _, ⟨T349, L349, k349, n349⟩, -, X349, ⟨Lc349, hQ349, l349, y349, z349⟩, st349⟩ := Jvm.LawKit.callS X348 hx (y := (⟨"java/lang/StringLatin1", "indexOfChar", "([BIII)I"⟩ : MethodName)) hown (mvT hZ (W_ hw 87 rfl)) (mvT hZ (W_ hw 88 rfl)) (mvT hZ (W_ hw 75 rfl)) (mvT hZ (W_ hw 89 rfl)) (by decide) (backOf (W := 0) (rmilc4 l Z a0 hw [] t kb c0 c1 c2 c3 h0 n0 Z_ V_t hl P_c0 P_c1 P_c2 P_c3) hZ (W_ hw 89 rfl) (W_ hw 75 rfl) (by decide) (by decide)) (g := (mkF m 33 #[.val (.ref t), .val (.int (32 : Int32)), .val (.int (0 : Int32)), .val (.int (4 : Int32))] [(.int (4 : Int32)), (.int (0 : Int32)), (.int (32 : Int32)), (.ref t)])) rfl (by rw [hml]; rfl) (argsL := [(.ref t), (.int (32 : Int32)), (.int (0 : Int32)), (.int (4 : Int32))]) (rest := []) (lenOf pd_19 rfl) rfl (Nat.le_of_eq rfl) (hb hby d15_33) (fun _ _ => ⟨rfl, e348, (by decide : 0 + 0 ≤ _), (by decide : 0 + 0 ≤ _)⟩)
  dsimp only [Pt.U, Pt.locs, Pt.cells, Pt.slots] at X349 l349 y349 z349 st349 hQ349
  subst l349 y349 z349
  obtain ⟨r349, rfl, N349q, e349, hr349⟩ := hQ349
  have N349 := Fr.app N348 N349q
  refine .st st349 ?_
  show OwnGo p e below s _ _ _ T349 (mkF m 36 _ [(.int r349)])
  exact OwnGo.ret X349 hx hret hlk rfl (Or.inl ⟨rfl, Or.inl rfl, _, rfl⟩) (hb hby d15_36) (by show QiL4 Z t kb c0 c1 c2 c3 h0 n0 _ T349.heap _; rw [e349]; exact ⟨_, rfl, N349, rfl, hr349⟩) (by decide) (by decide)
def Qiuu4 (Z : State) (t : Addr) (kb : ClassId) (c0 : Int32) (c1 : Int32) (c2 : Int32) (c3 : Int32) (h0 : Heap) (n0 : Nat) (v : Option Value) (h : Heap) (L : List Loc) : Prop := ∃ r : Int32, v = some (.int r) ∧ Fr n0 L ∧ h = h0 ∧ ((r < (0 : Int32) ∧ ¬ (c0 = (32 : Int32) ∨ c1 = (32 : Int32) ∨ c2 = (32 : Int32) ∨ c3 = (32 : Int32))) ∨ (¬ r < (0 : Int32) ∧ (c0 = (32 : Int32) ∨ c1 = (32 : Int32) ∨ c2 = (32 : Int32) ∨ c3 = (32 : Int32))))
theorem rmiuu4 (l : Launch) (Z : State) (a0 : Array Value) (hw : own_tb a0 Z) (ws : List Jvm.Cond) (t : Addr) (kb : ClassId) (c0 : Int32) (c1 : Int32) (c2 : Int32) (c3 : Int32) (h0 : Heap) (n0 : Nat) (Z0 : n0 ≤ h0.size) (O_ : Old Z n0 h0) (S_AD : Sta Z Z.heap "java/lang/StringUTF16" "$assertionsDisabled" "Z" (.int (1 : Int32))) (S_HB : Sta Z Z.heap "java/lang/StringUTF16" "HI_BYTE_SHIFT" "I" (.int (0 : Int32))) (S_LB : Sta Z Z.heap "java/lang/StringUTF16" "LO_BYTE_SHIFT" "I" (.int (8 : Int32))) (V_t : Arv Z h0 t kb .byte (8 : Int32) [(.int (own_lo c0)), (.int (own_hi c0)), (.int (own_lo c1)), (.int (own_hi c1)), (.int (own_lo c2)), (.int (own_hi c2)), (.int (own_lo c3)), (.int (own_hi c3))] (.int (0 : Int32))) (P_c0 : own_u c0) (P_c1 : own_u c1) (P_c2 : own_u c2) (P_c3 : own_u c3) :
    OwnMet l (⟨"java/lang/StringUTF16", "indexOfCharUnsafe", "([BIII)I"⟩ : MethodName) jdk_52_method_48_code 5 (some .int) ws ({ frames := 1, cells := 0, slots := 0, locals := 13 } : Room) #[(.ref t), (.int (32 : Int32)), (.int (0 : Int32)), (.int (4 : Int32))] Z h0 (Qiuu4 Z t kb c0 c1 c2 c3 h0 n0) := by
  refine own_met (plainFor_of_name pn_23) ?_
  intro p e s m below meth c s₁ X0 hx hby hml hret hlk hown hnm hZ e0
  have N0 := Fr.nil n0
  have Z_ := Z0
  refine OwnGo.cast (ef_iuu4 m t (32 : Int32) (0 : Int32) (4 : Int32)) ?_
  show OwnGo p e below s _ _ _ s₁ (mkF m 0 _ [])
  refine .iloadN X0 hx (hb hby d31_0) rfl ?_
  refine .istore X0 hx (hb hby d31_1) (L' := #[.val (.ref t), .val (.int (32 : Int32)), .val (.int (0 : Int32)), .val (.int (4 : Int32)), .val (.int (0 : Int32))]) rfl ?_
  refine .iload X0 hx (hb hby d31_3) rfl ?_
  refine .iloadN X0 hx (hb hby d31_5) rfl ?_
  refine .icmpNo X0 hx (hb hby d31_6) (tlt ((by decide) : (0 : Int32) < (4 : Int32))).2.1 ?_
  refine .aloadN X0 hx (hb hby d31_9) rfl rfl ?_
  refine .iload X0 hx (hb hby d31_10) rfl ?_
  obtain ⟨_, _, ⟨T350, L350, k350, n350⟩, -, X350, ⟨Lc350, hQ350, l350, y350, z350⟩, st350⟩ := Jvm.LawKit.callS X0 hx (y := (⟨"java/lang/StringUTF16", "getChar", "([BI)C"⟩ : MethodName)) hown (mvT hZ (W_ hw 106 rfl)) (mvT hZ (W_ hw 107 rfl)) (mvT hZ (W_ hw 49 rfl)) (mvT hZ (W_ hw 108 rfl)) (by decide) (backOf (W := 0) (rmgetC0 l Z a0 hw [] t kb c0 (8 : Int32) [(.int (own_lo c0)), (.int (own_hi c0)), (.int (own_lo c1)), (.int (own_hi c1)), (.int (own_lo c2)), (.int (own_hi c2)), (.int (own_lo c3)), (.int (own_hi c3))] h0 n0 Z_ O_ S_AD S_HB S_LB V_t ⟨by decide, by decide⟩ ⟨by decide, by decide⟩ rfl rfl P_c0) hZ (W_ hw 108 rfl) (W_ hw 49 rfl) (by decide) (by decide)) (g := (mkF m 12 #[.val (.ref t), .val (.int (32 : Int32)), .val (.int (0 : Int32)), .val (.int (4 : Int32)), .val (.int (0 : Int32))] [(.int (0 : Int32)), (.ref t)])) rfl (by rw [hml]; rfl) (argsL := [(.ref t), (.int (0 : Int32))]) (rest := []) (lenOf pd_9 rfl) rfl (Nat.le_of_eq rfl) (hb hby d31_12) (fun _ _ => ⟨rfl, e0, (by decide : 0 + 0 ≤ _), (by decide : 0 + 0 ≤ _)⟩)
  dsimp only [Pt.U, Pt.locs, Pt.cells, Pt.slots] at X350 l350 y350 z350 st350 hQ350
  subst l350 y350 z350
  obtain ⟨rfl, N350q, e350⟩ := hQ350
  have N350 := Fr.app N0 N350q
  refine .st st350 ?_
  show OwnGo p e below s _ _ _ T350 (mkF m 15 _ [(.int c0)])
  refine .iloadN X350 hx (hb hby d31_15) rfl ?_
  by_cases q0 : c0 = (32 : Int32)
  · refine .icmpNo X350 hx (hb hby d31_16) (teq (q0 : c0 = (32 : Int32))).2 ?_
    refine .iload X350 hx (hb hby d31_19) rfl ?_
    exact OwnGo.ret X350 hx hret hlk rfl (Or.inl ⟨rfl, Or.inl rfl, _, rfl⟩) (hb hby d31_21) (by show Qiuu4 Z t kb c0 c1 c2 c3 h0 n0 _ T350.heap _; rw [e350]; exact ⟨_, rfl, N350, rfl, Or.inr ⟨by decide, (Or.inl q0)⟩⟩) (by decide) (by decide)
  · refine .icmpYes (pc := 16) X350 hx 22 (hb hby d31_16) (feq (q0 : ¬ (c0 = (32 : Int32)))).2 (by decide) (by decide) ?_
    refine .iinc X350 hx (hb hby d31_22) rfl own_ka0_1 (L' := #[.val (.ref t), .val (.int (32 : Int32)), .val (.int (0 : Int32)), .val (.int (4 : Int32)), .val (.int (1 : Int32))]) rfl ?_
    refine .goto (pc := 25) X350 hx 3 (hb hby d31_25) (by decide) (by decide) ?_
    refine .iload X350 hx (hb hby d31_3) rfl ?_
    refine .iloadN X350 hx (hb hby d31_5) rfl ?_
    refine .icmpNo X350 hx (hb hby d31_6) (tlt ((by decide) : (1 : Int32) < (4 : Int32))).2.1 ?_
    refine .aloadN X350 hx (hb hby d31_9) rfl rfl ?_
    refine .iload X350 hx (hb hby d31_10) rfl ?_
    obtain ⟨_, _, ⟨T351, L351, k351, n351⟩, -, X351, ⟨Lc351, hQ351, l351, y351, z351⟩, st351⟩ := Jvm.LawKit.callS X350 hx (y := (⟨"java/lang/StringUTF16", "getChar", "([BI)C"⟩ : MethodName)) hown (mvT hZ (W_ hw 106 rfl)) (mvT hZ (W_ hw 107 rfl)) (mvT hZ (W_ hw 49 rfl)) (mvT hZ (W_ hw 108 rfl)) (by decide) (backOf (W := 0) (rmgetC1 l Z a0 hw [] t kb c1 (8 : Int32) [(.int (own_lo c0)), (.int (own_hi c0)), (.int (own_lo c1)), (.int (own_hi c1)), (.int (own_lo c2)), (.int (own_hi c2)), (.int (own_lo c3)), (.int (own_hi c3))] h0 n0 Z_ O_ S_AD S_HB S_LB V_t ⟨by decide, by decide⟩ ⟨by decide, by decide⟩ rfl rfl P_c1) hZ (W_ hw 108 rfl) (W_ hw 49 rfl) (by decide) (by decide)) (g := (mkF m 12 #[.val (.ref t), .val (.int (32 : Int32)), .val (.int (0 : Int32)), .val (.int (4 : Int32)), .val (.int (1 : Int32))] [(.int (1 : Int32)), (.ref t)])) rfl (by rw [hml]; rfl) (argsL := [(.ref t), (.int (1 : Int32))]) (rest := []) (lenOf pd_9 rfl) rfl (Nat.le_of_eq rfl) (hb hby d31_12) (fun _ _ => ⟨rfl, e350, (by decide : 0 + 0 ≤ _), (by decide : 0 + 0 ≤ _)⟩)
    dsimp only [Pt.U, Pt.locs, Pt.cells, Pt.slots] at X351 l351 y351 z351 st351 hQ351
    subst l351 y351 z351
    obtain ⟨rfl, N351q, e351⟩ := hQ351
    have N351 := Fr.app N350 N351q
    refine .st st351 ?_
    show OwnGo p e below s _ _ _ T351 (mkF m 15 _ [(.int c1)])
    refine .iloadN X351 hx (hb hby d31_15) rfl ?_
    by_cases q1 : c1 = (32 : Int32)
    · refine .icmpNo X351 hx (hb hby d31_16) (teq (q1 : c1 = (32 : Int32))).2 ?_
      refine .iload X351 hx (hb hby d31_19) rfl ?_
      exact OwnGo.ret X351 hx hret hlk rfl (Or.inl ⟨rfl, Or.inl rfl, _, rfl⟩) (hb hby d31_21) (by show Qiuu4 Z t kb c0 c1 c2 c3 h0 n0 _ T351.heap _; rw [e351]; exact ⟨_, rfl, N351, rfl, Or.inr ⟨by decide, (Or.inr (Or.inl q1))⟩⟩) (by decide) (by decide)
    · refine .icmpYes (pc := 16) X351 hx 22 (hb hby d31_16) (feq (q1 : ¬ (c1 = (32 : Int32)))).2 (by decide) (by decide) ?_
      refine .iinc X351 hx (hb hby d31_22) rfl own_ka1_1 (L' := #[.val (.ref t), .val (.int (32 : Int32)), .val (.int (0 : Int32)), .val (.int (4 : Int32)), .val (.int (2 : Int32))]) rfl ?_
      refine .goto (pc := 25) X351 hx 3 (hb hby d31_25) (by decide) (by decide) ?_
      refine .iload X351 hx (hb hby d31_3) rfl ?_
      refine .iloadN X351 hx (hb hby d31_5) rfl ?_
      refine .icmpNo X351 hx (hb hby d31_6) (tlt ((by decide) : (2 : Int32) < (4 : Int32))).2.1 ?_
      refine .aloadN X351 hx (hb hby d31_9) rfl rfl ?_
      refine .iload X351 hx (hb hby d31_10) rfl ?_
      obtain ⟨_, _, ⟨T352, L352, k352, n352⟩, -, X352, ⟨Lc352, hQ352, l352, y352, z352⟩, st352⟩ := Jvm.LawKit.callS X351 hx (y := (⟨"java/lang/StringUTF16", "getChar", "([BI)C"⟩ : MethodName)) hown (mvT hZ (W_ hw 106 rfl)) (mvT hZ (W_ hw 107 rfl)) (mvT hZ (W_ hw 49 rfl)) (mvT hZ (W_ hw 108 rfl)) (by decide) (backOf (W := 0) (rmgetC2 l Z a0 hw [] t kb c2 (8 : Int32) [(.int (own_lo c0)), (.int (own_hi c0)), (.int (own_lo c1)), (.int (own_hi c1)), (.int (own_lo c2)), (.int (own_hi c2)), (.int (own_lo c3)), (.int (own_hi c3))] h0 n0 Z_ O_ S_AD S_HB S_LB V_t ⟨by decide, by decide⟩ ⟨by decide, by decide⟩ rfl rfl P_c2) hZ (W_ hw 108 rfl) (W_ hw 49 rfl) (by decide) (by decide)) (g := (mkF m 12 #[.val (.ref t), .val (.int (32 : Int32)), .val (.int (0 : Int32)), .val (.int (4 : Int32)), .val (.int (2 : Int32))] [(.int (2 : Int32)), (.ref t)])) rfl (by rw [hml]; rfl) (argsL := [(.ref t), (.int (2 : Int32))]) (rest := []) (lenOf pd_9 rfl) rfl (Nat.le_of_eq rfl) (hb hby d31_12) (fun _ _ => ⟨rfl, e351, (by decide : 0 + 0 ≤ _), (by decide : 0 + 0 ≤ _)⟩)
      dsimp only [Pt.U, Pt.locs, Pt.cells, Pt.slots] at X352 l352 y352 z352 st352 hQ352
      subst l352 y352 z352
      obtain ⟨rfl, N352q, e352⟩ := hQ352
      have N352 := Fr.app N351 N352q
      refine .st st352 ?_
      show OwnGo p e below s _ _ _ T352 (mkF m 15 _ [(.int c2)])
      refine .iloadN X352 hx (hb hby d31_15) rfl ?_
      by_cases q2 : c2 = (32 : Int32)
      · refine .icmpNo X352 hx (hb hby d31_16) (teq (q2 : c2 = (32 : Int32))).2 ?_
        refine .iload X352 hx (hb hby d31_19) rfl ?_
        exact OwnGo.ret X352 hx hret hlk rfl (Or.inl ⟨rfl, Or.inl rfl, _, rfl⟩) (hb hby d31_21) (by show Qiuu4 Z t kb c0 c1 c2 c3 h0 n0 _ T352.heap _; rw [e352]; exact ⟨_, rfl, N352, rfl, Or.inr ⟨by decide, (Or.inr (Or.inr (Or.inl q2)))⟩⟩) (by decide) (by decide)
      · refine .icmpYes (pc := 16) X352 hx 22 (hb hby d31_16) (feq (q2 : ¬ (c2 = (32 : Int32)))).2 (by decide) (by decide) ?_
        refine .iinc X352 hx (hb hby d31_22) rfl own_ka2_1 (L' := #[.val (.ref t), .val (.int (32 : Int32)), .val (.int (0 : Int32)), .val (.int (4 : Int32)), .val (.int (3 : Int32))]) rfl ?_
        refine .goto (pc := 25) X352 hx 3 (hb hby d31_25) (by decide) (by decide) ?_
        refine .iload X352 hx (hb hby d31_3) rfl ?_
        refine .iloadN X352 hx (hb hby d31_5) rfl ?_
        refine .icmpNo X352 hx (hb hby d31_6) (tlt ((by decide) : (3 : Int32) < (4 : Int32))).2.1 ?_
        refine .aloadN X352 hx (hb hby d31_9) rfl rfl ?_
        refine .iload X352 hx (hb hby d31_10) rfl ?_
        obtain ⟨_, _, ⟨T353, L353, k353, n353⟩, -, X353, ⟨Lc353, hQ353, l353, y353, z353⟩, st353⟩ := Jvm.LawKit.callS X352 hx (y := (⟨"java/lang/StringUTF16", "getChar", "([BI)C"⟩ : MethodName)) hown (mvT hZ (W_ hw 106 rfl)) (mvT hZ (W_ hw 107 rfl)) (mvT hZ (W_ hw 49 rfl)) (mvT hZ (W_ hw 108 rfl)) (by decide) (backOf (W := 0) (rmgetC3 l Z a0 hw [] t kb c3 (8 : Int32) [(.int (own_lo c0)), (.int (own_hi c0)), (.int (own_lo c1)), (.int (own_hi c1)), (.int (own_lo c2)), (.int (own_hi c2)), (.int (own_lo c3)), (.int (own_hi c3))] h0 n0 Z_ O_ S_AD S_HB S_LB V_t ⟨by decide, by decide⟩ ⟨by decide, by decide⟩ rfl rfl P_c3) hZ (W_ hw 108 rfl) (W_ hw 49 rfl) (by decide) (by decide)) (g := (mkF m 12 #[.val (.ref t), .val (.int (32 : Int32)), .val (.int (0 : Int32)), .val (.int (4 : Int32)), .val (.int (3 : Int32))] [(.int (3 : Int32)), (.ref t)])) rfl (by rw [hml]; rfl) (argsL := [(.ref t), (.int (3 : Int32))]) (rest := []) (lenOf pd_9 rfl) rfl (Nat.le_of_eq rfl) (hb hby d31_12) (fun _ _ => ⟨rfl, e352, (by decide : 0 + 0 ≤ _), (by decide : 0 + 0 ≤ _)⟩)
        dsimp only [Pt.U, Pt.locs, Pt.cells, Pt.slots] at X353 l353 y353 z353 st353 hQ353
        subst l353 y353 z353
        obtain ⟨rfl, N353q, e353⟩ := hQ353
        have N353 := Fr.app N352 N353q
        refine .st st353 ?_
        show OwnGo p e below s _ _ _ T353 (mkF m 15 _ [(.int c3)])
        refine .iloadN X353 hx (hb hby d31_15) rfl ?_
        by_cases q3 : c3 = (32 : Int32)
        · refine .icmpNo X353 hx (hb hby d31_16) (teq (q3 : c3 = (32 : Int32))).2 ?_
          refine .iload X353 hx (hb hby d31_19) rfl ?_
          exact OwnGo.ret X353 hx hret hlk rfl (Or.inl ⟨rfl, Or.inl rfl, _, rfl⟩) (hb hby d31_21) (by show Qiuu4 Z t kb c0 c1 c2 c3 h0 n0 _ T353.heap _; rw [e353]; exact ⟨_, rfl, N353, rfl, Or.inr ⟨by decide, (Or.inr (Or.inr (Or.inr q3)))⟩⟩) (by decide) (by decide)
        · refine .icmpYes (pc := 16) X353 hx 22 (hb hby d31_16) (feq (q3 : ¬ (c3 = (32 : Int32)))).2 (by decide) (by decide) ?_
          refine .iinc X353 hx (hb hby d31_22) rfl own_ka3_1 (L' := #[.val (.ref t), .val (.int (32 : Int32)), .val (.int (0 : Int32)), .val (.int (4 : Int32)), .val (.int (4 : Int32))]) rfl ?_
          refine .goto (pc := 25) X353 hx 3 (hb hby d31_25) (by decide) (by decide) ?_
          refine .iload X353 hx (hb hby d31_3) rfl ?_
          refine .iloadN X353 hx (hb hby d31_5) rfl ?_
          refine .icmpYes (pc := 6) X353 hx 28 (hb hby d31_6) (flt ((by decide) : ¬ ((4 : Int32) < (4 : Int32)))).2.1 (by decide) (by decide) ?_
          refine .iconst X353 hx (hb hby d31_28) own_kim1 ?_
          exact OwnGo.ret X353 hx hret hlk rfl (Or.inl ⟨rfl, Or.inl rfl, _, rfl⟩) (hb hby d31_29) (by show Qiuu4 Z t kb c0 c1 c2 c3 h0 n0 _ T353.heap _; rw [e353]; exact ⟨_, rfl, N353, rfl, Or.inl ⟨by decide, (by simp only [not_or]; exact ⟨q0, q1, q2, q3⟩)⟩⟩) (by decide) (by decide)
def Qiuc4 (Z : State) (t : Addr) (kb : ClassId) (c0 : Int32) (c1 : Int32) (c2 : Int32) (c3 : Int32) (fmv : Value) (h0 : Heap) (n0 : Nat) (v : Option Value) (h : Heap) (L : List Loc) : Prop := ∃ r : Int32, v = some (.int r) ∧ Fr n0 L ∧ h = h0 ∧ ((r < (0 : Int32) ∧ ¬ (c0 = (32 : Int32) ∨ c1 = (32 : Int32) ∨ c2 = (32 : Int32) ∨ c3 = (32 : Int32))) ∨ (¬ r < (0 : Int32) ∧ (c0 = (32 : Int32) ∨ c1 = (32 : Int32) ∨ c2 = (32 : Int32) ∨ c3 = (32 : Int32))))
theorem rmiuc4 (l : Launch) (Z : State) (a0 : Array Value) (hw : own_tb a0 Z) (ws : List Jvm.Cond) (t : Addr) (kb : ClassId) (c0 : Int32) (c1 : Int32) (c2 : Int32) (c3 : Int32) (fmv : Value) (h0 : Heap) (n0 : Nat) (Z0 : n0 ≤ h0.size) (O_ : Old Z n0 h0) (S_AD : Sta Z Z.heap "java/lang/StringUTF16" "$assertionsDisabled" "Z" (.int (1 : Int32))) (S_HB : Sta Z Z.heap "java/lang/StringUTF16" "HI_BYTE_SHIFT" "I" (.int (0 : Int32))) (S_LB : Sta Z Z.heap "java/lang/StringUTF16" "LO_BYTE_SHIFT" "I" (.int (8 : Int32))) (S_SF : Sta Z Z.heap "jdk/internal/util/Preconditions" "SIOOBE_FORMATTER" "Ljava/util/function/BiFunction;" fmv) (rf_fmv : fmv.isRef = true) (V_t : Arv Z h0 t kb .byte (8 : Int32) [(.int (own_lo c0)), (.int (own_hi c0)), (.int (own_lo c1)), (.int (own_hi c1)), (.int (own_lo c2)), (.int (own_hi c2)), (.int (own_lo c3)), (.int (own_hi c3))] (.int (0 : Int32))) (P_c0 : own_u c0) (P_c1 : own_u c1) (P_c2 : own_u c2) (P_c3 : own_u c3) :
    OwnMet l (⟨"java/lang/StringUTF16", "indexOfChar", "([BIII)I"⟩ : MethodName) jdk_52_method_47_code 4 (some .int) ws ({ frames := 3, cells := 0, slots := 0, locals := 43 } : Room) #[(.ref t), (.int (32 : Int32)), (.int (0 : Int32)), (.int (4 : Int32))] Z h0 (Qiuc4 Z t kb c0 c1 c2 c3 fmv h0 n0) := by
  refine own_met (plainFor_of_name pn_23) ?_
  intro p e s m below meth c s₁ X0 hx hby hml hret hlk hown hnm hZ e0
  have N0 := Fr.nil n0
  have Z_ := Z0
  refine OwnGo.cast (ef_iuc4 m t (32 : Int32) (0 : Int32) (4 : Int32)) ?_
  show OwnGo p e below s _ _ _ s₁ (mkF m 0 _ [])
  refine .iloadN X0 hx (hb hby d26_0) rfl ?_
  refine .iloadN X0 hx (hb hby d26_1) rfl ?_
  refine .aloadN X0 hx (hb hby d26_2) rfl rfl ?_
  obtain ⟨_, _, ⟨T354, L354, k354, n354⟩, -, X354, ⟨Lc354, hQ354, l354, y354, z354⟩, st354⟩ := Jvm.LawKit.callS X0 hx (y := (⟨"java/lang/StringUTF16", "checkBoundsBeginEnd", "(II[B)V"⟩ : MethodName)) hown (mvT hZ (W_ hw 118 rfl)) (mvT hZ (W_ hw 119 rfl)) (mvT hZ (W_ hw 49 rfl)) (mvT hZ (W_ hw 120 rfl)) (by decide) (backOf (W := 0) (rmcub l Z a0 hw [] t kb [(.int (own_lo c0)), (.int (own_hi c0)), (.int (own_lo c1)), (.int (own_hi c1)), (.int (own_lo c2)), (.int (own_hi c2)), (.int (own_lo c3)), (.int (own_hi c3))] (8 : Int32) (4 : Int32) fmv h0 n0 Z_ O_ S_SF rf_fmv V_t (by decide) (by decide) (by decide)) hZ (W_ hw 120 rfl) (W_ hw 49 rfl) (by decide) (by decide)) (g := (mkF m 3 #[.val (.ref t), .val (.int (32 : Int32)), .val (.int (0 : Int32)), .val (.int (4 : Int32))] [(.ref t), (.int (4 : Int32)), (.int (0 : Int32))])) rfl (by rw [hml]; rfl) (argsL := [(.int (0 : Int32)), (.int (4 : Int32)), (.ref t)]) (rest := []) (lenOf pd_20 rfl) rfl (Nat.le_of_eq rfl) (hb hby d26_3) (fun _ _ => ⟨rfl, e0, (by decide : 0 + 0 ≤ _), (by decide : 0 + 0 ≤ _)⟩)
  dsimp only [Pt.U, Pt.locs, Pt.cells, Pt.slots] at X354 l354 y354 z354 st354 hQ354
  subst l354 y354 z354
  obtain ⟨rfl, N354q, e354⟩ := hQ354
  have N354 := Fr.app N0 N354q
  refine .st st354 ?_
  show OwnGo p e below s _ _ _ T354 (mkF m 6 _ [])
  refine .aloadN X354 hx (hb hby d26_6) rfl rfl ?_
  refine .iloadN X354 hx (hb hby d26_7) rfl ?_
  refine .iloadN X354 hx (hb hby d26_8) rfl ?_
  refine .iloadN X354 hx (hb hby d26_9) rfl ?_
  obtain ⟨_, _, ⟨T355, L355, k355, n355⟩, -, X355, ⟨Lc355, hQ355, l355, y355, z355⟩, st355⟩ := Jvm.LawKit.callS X354 hx (y := (⟨"java/lang/StringUTF16", "indexOfCharUnsafe", "([BIII)I"⟩ : MethodName)) hown (mvT hZ (W_ hw 132 rfl)) (mvT hZ (W_ hw 133 rfl)) (mvT hZ (W_ hw 49 rfl)) (mvT hZ (W_ hw 134 rfl)) (by decide) (backOf (W := 0) (rmiuu4 l Z a0 hw [] t kb c0 c1 c2 c3 h0 n0 Z_ O_ S_AD S_HB S_LB V_t P_c0 P_c1 P_c2 P_c3) hZ (W_ hw 134 rfl) (W_ hw 49 rfl) (by decide) (by decide)) (g := (mkF m 10 #[.val (.ref t), .val (.int (32 : Int32)), .val (.int (0 : Int32)), .val (.int (4 : Int32))] [(.int (4 : Int32)), (.int (0 : Int32)), (.int (32 : Int32)), (.ref t)])) rfl (by rw [hml]; rfl) (argsL := [(.ref t), (.int (32 : Int32)), (.int (0 : Int32)), (.int (4 : Int32))]) (rest := []) (lenOf pd_19 rfl) rfl (Nat.le_of_eq rfl) (hb hby d26_10) (fun _ _ => ⟨rfl, e354, (by decide : 0 + 0 ≤ _), (by decide : 0 + 0 ≤ _)⟩)
  dsimp only [Pt.U, Pt.locs, Pt.cells, Pt.slots] at X355 l355 y355 z355 st355 hQ355
  subst l355 y355 z355
  obtain ⟨r355, rfl, N355q, e355, hr355⟩ := hQ355
  have N355 := Fr.app N354 N355q
  refine .st st355 ?_
  show OwnGo p e below s _ _ _ T355 (mkF m 13 _ [(.int r355)])
  exact OwnGo.ret X355 hx hret hlk rfl (Or.inl ⟨rfl, Or.inl rfl, _, rfl⟩) (hb hby d26_13) (by show Qiuc4 Z t kb c0 c1 c2 c3 fmv h0 n0 _ T355.heap _; rw [e355]; exact ⟨_, rfl, N355, rfl, hr355⟩) (by decide) (by decide)
def QiU4 (Z : State) (t : Addr) (kb : ClassId) (c0 : Int32) (c1 : Int32) (c2 : Int32) (c3 : Int32) (fmv : Value) (h0 : Heap) (n0 : Nat) (v : Option Value) (h : Heap) (L : List Loc) : Prop := ∃ r : Int32, v = some (.int r) ∧ Fr n0 L ∧ h = h0 ∧ ((r < (0 : Int32) ∧ ¬ (c0 = (32 : Int32) ∨ c1 = (32 : Int32) ∨ c2 = (32 : Int32) ∨ c3 = (32 : Int32))) ∨ (¬ r < (0 : Int32) ∧ (c0 = (32 : Int32) ∨ c1 = (32 : Int32) ∨ c2 = (32 : Int32) ∨ c3 = (32 : Int32))))
theorem rmiU4 (l : Launch) (Z : State) (a0 : Array Value) (hw : own_tb a0 Z) (ws : List Jvm.Cond) (t : Addr) (kb : ClassId) (c0 : Int32) (c1 : Int32) (c2 : Int32) (c3 : Int32) (fmv : Value) (h0 : Heap) (n0 : Nat) (Z0 : n0 ≤ h0.size) (O_ : Old Z n0 h0) (S_AD : Sta Z Z.heap "java/lang/StringUTF16" "$assertionsDisabled" "Z" (.int (1 : Int32))) (S_HB : Sta Z Z.heap "java/lang/StringUTF16" "HI_BYTE_SHIFT" "I" (.int (0 : Int32))) (S_LB : Sta Z Z.heap "java/lang/StringUTF16" "LO_BYTE_SHIFT" "I" (.int (8 : Int32))) (S_SF : Sta Z Z.heap "jdk/internal/util/Preconditions" "SIOOBE_FORMATTER" "Ljava/util/function/BiFunction;" fmv) (rf_fmv : fmv.isRef = true) (V_t : Arv Z h0 t kb .byte (8 : Int32) [(.int (own_lo c0)), (.int (own_hi c0)), (.int (own_lo c1)), (.int (own_hi c1)), (.int (own_lo c2)), (.int (own_hi c2)), (.int (own_lo c3)), (.int (own_hi c3))] (.int (0 : Int32))) (P_c0 : own_u c0) (P_c1 : own_u c1) (P_c2 : own_u c2) (P_c3 : own_u c3) :
    OwnMet l (⟨"java/lang/StringUTF16", "indexOf", "([BIII)I"⟩ : MethodName) jdk_52_method_40_code 4 (some .int) ws ({ frames := 4, cells := 0, slots := 0, locals := 58 } : Room) #[(.ref t), (.int (32 : Int32)), (.int (0 : Int32)), (.int (4 : Int32))] Z h0 (QiU4 Z t kb c0 c1 c2 c3 fmv h0 n0) := by
  refine own_met (plainFor_of_name pn_23) ?_
  intro p e s m below meth c s₁ X0 hx hby hml hret hlk hown hnm hZ e0
  have N0 := Fr.nil n0
  have Z_ := Z0
  refine OwnGo.cast (ef_iU4 m t (32 : Int32) (0 : Int32) (4 : Int32)) ?_
  show OwnGo p e below s _ _ _ s₁ (mkF m 0 _ [])
  refine .iloadN X0 hx (hb hby d25_0) rfl ?_
  refine .iconst X0 hx (hb hby d25_1) own_ki0 ?_
  obtain ⟨_, _, ⟨T356, L356, k356, n356⟩, -, X356, ⟨Lc356, hQ356, l356, y356, z356⟩, st356⟩ := Jvm.LawKit.callS X0 hx (y := (⟨"java/lang/Math", "max", "(II)I"⟩ : MethodName)) hown (mvT hZ (W_ hw 112 rfl)) (mvT hZ (W_ hw 81 rfl)) (mvT hZ (W_ hw 82 rfl)) (mvT hZ (W_ hw 83 rfl)) (by decide) (backOf (W := 0) (rmmax0 l Z a0 hw []  h0 n0 Z_ ) hZ (W_ hw 83 rfl) (W_ hw 82 rfl) (by decide) (by decide)) (g := (mkF m 2 #[.val (.ref t), .val (.int (32 : Int32)), .val (.int (0 : Int32)), .val (.int (4 : Int32))] [(.int (0 : Int32)), (.int (0 : Int32))])) rfl (by rw [hml]; rfl) (argsL := [(.int (0 : Int32)), (.int (0 : Int32))]) (rest := []) (lenOf pd_18 rfl) rfl (Nat.le_of_eq rfl) (hb hby d25_2) (fun _ _ => ⟨rfl, e0, (by decide : 0 + 0 ≤ _), (by decide : 0 + 0 ≤ _)⟩)
  dsimp only [Pt.U, Pt.locs, Pt.cells, Pt.slots] at X356 l356 y356 z356 st356 hQ356
  subst l356 y356 z356
  obtain ⟨rfl, N356q, e356⟩ := hQ356
  have N356 := Fr.app N0 N356q
  refine .st st356 ?_
  show OwnGo p e below s _ _ _ T356 (mkF m 5 _ [(.int (0 : Int32))])
  refine .istoreN X356 hx (hb hby d25_5) (L' := #[.val (.ref t), .val (.int (32 : Int32)), .val (.int (0 : Int32)), .val (.int (4 : Int32))]) rfl ?_
  refine .iloadN X356 hx (hb hby d25_6) rfl ?_
  refine .aloadN X356 hx (hb hby d25_7) rfl rfl ?_
  obtain ⟨cl357, Ar357, -, S357, N357, -, -⟩ := id V_t
  refine .st (fun _ => own_len hZ (len_of S357 N357) Ar357 X356 e356 hx (g := (mkF m 8 #[.val (.ref t), .val (.int (32 : Int32)), .val (.int (0 : Int32)), .val (.int (4 : Int32))] [(.ref t), (.int (4 : Int32))])) rfl rfl (hb hby d25_8) _) ?_
  show OwnGo p e below s _ _ _ T356 (mkF m 9 _ [(.int (8 : Int32)), (.int (4 : Int32))])
  refine .iconst X356 hx (hb hby d25_9) own_ki1 ?_
  refine .st (fun _ => XS.ishr X356.here hx rfl (hb hby d25_10) rfl) ?_
  show OwnGo p e below s _ _ _ T356 (mkF m 11 _ [(.int ((8 : Int32) >>> ((1 : Int32) &&& 31))), (.int (4 : Int32))])
  rw [show ((8 : Int32) >>> ((1 : Int32) &&& 31)) = (4 : Int32) from by decide]
  show OwnGo p e below s _ _ _ T356 (mkF m 11 _ [(.int (4 : Int32)), (.int (4 : Int32))])
  obtain ⟨_, _, ⟨T358, L358, k358, n358⟩, -, X358, ⟨Lc358, hQ358, l358, y358, z358⟩, st358⟩ := Jvm.LawKit.callS X356 hx (y := (⟨"java/lang/Math", "min", "(II)I"⟩ : MethodName)) hown (mvT hZ (W_ hw 113 rfl)) (mvT hZ (W_ hw 85 rfl)) (mvT hZ (W_ hw 82 rfl)) (mvT hZ (W_ hw 86 rfl)) (by decide) (backOf (W := 0) (rmminZ l Z a0 hw [] (4 : Int32) h0 n0 Z_ (by decide)) hZ (W_ hw 86 rfl) (W_ hw 82 rfl) (by decide) (by decide)) (g := (mkF m 11 #[.val (.ref t), .val (.int (32 : Int32)), .val (.int (0 : Int32)), .val (.int (4 : Int32))] [(.int (4 : Int32)), (.int (4 : Int32))])) rfl (by rw [hml]; rfl) (argsL := [(.int (4 : Int32)), (.int (4 : Int32))]) (rest := []) (lenOf pd_18 rfl) rfl (Nat.le_of_eq rfl) (hb hby d25_11) (fun _ _ => ⟨rfl, e356, (by decide : 0 + 0 ≤ _), (by decide : 0 + 0 ≤ _)⟩)
  dsimp only [Pt.U, Pt.locs, Pt.cells, Pt.slots] at X358 l358 y358 z358 st358 hQ358
  subst l358 y358 z358
  obtain ⟨rfl, N358q, e358⟩ := hQ358
  have N358 := Fr.app N356 N358q
  refine .st st358 ?_
  show OwnGo p e below s _ _ _ T358 (mkF m 14 _ [(.int (4 : Int32))])
  refine .istoreN X358 hx (hb hby d25_14) (L' := #[.val (.ref t), .val (.int (32 : Int32)), .val (.int (0 : Int32)), .val (.int (4 : Int32))]) rfl ?_
  refine .iloadN X358 hx (hb hby d25_15) rfl ?_
  refine .iloadN X358 hx (hb hby d25_16) rfl ?_
  refine .icmpYes (pc := 17) X358 hx 22 (hb hby d25_17) (tlt ((by decide) : (0 : Int32) < (4 : Int32))).1 (by decide) (by decide) ?_
  refine .iloadN X358 hx (hb hby d25_22) rfl ?_
  refine .st (fun _ => X358.ldcInt hx hown (mvT hZ (W_ hw 114 rfl)) (g := (mkF m 23 #[.val (.ref t), .val (.int (32 : Int32)), .val (.int (0 : Int32)), .val (.int (4 : Int32))] [(.int (32 : Int32))])) rfl (hb hby d25_23) _) ?_
  show OwnGo p e below s _ _ _ T358 (mkF m 25 _ [(.int (65536 : Int32)), (.int (32 : Int32))])
  refine .icmpNo X358 hx (hb hby d25_25) (tlt (own_bg32_lt_65536 : (32 : Int32) < (65536 : Int32))).2.1 ?_
  refine .aloadN X358 hx (hb hby d25_28) rfl rfl ?_
  refine .iloadN X358 hx (hb hby d25_29) rfl ?_
  refine .iloadN X358 hx (hb hby d25_30) rfl ?_
  refine .iloadN X358 hx (hb hby d25_31) rfl ?_
  obtain ⟨_, _, ⟨T359, L359, k359, n359⟩, -, X359, ⟨Lc359, hQ359, l359, y359, z359⟩, st359⟩ := Jvm.LawKit.callS X358 hx (y := (⟨"java/lang/StringUTF16", "indexOfChar", "([BIII)I"⟩ : MethodName)) hown (mvT hZ (W_ hw 115 rfl)) (mvT hZ (W_ hw 116 rfl)) (mvT hZ (W_ hw 49 rfl)) (mvT hZ (W_ hw 117 rfl)) (by decide) (backOf (W := 0) (rmiuc4 l Z a0 hw [] t kb c0 c1 c2 c3 fmv h0 n0 Z_ O_ S_AD S_HB S_LB S_SF rf_fmv V_t P_c0 P_c1 P_c2 P_c3) hZ (W_ hw 117 rfl) (W_ hw 49 rfl) (by decide) (by decide)) (g := (mkF m 32 #[.val (.ref t), .val (.int (32 : Int32)), .val (.int (0 : Int32)), .val (.int (4 : Int32))] [(.int (4 : Int32)), (.int (0 : Int32)), (.int (32 : Int32)), (.ref t)])) rfl (by rw [hml]; rfl) (argsL := [(.ref t), (.int (32 : Int32)), (.int (0 : Int32)), (.int (4 : Int32))]) (rest := []) (lenOf pd_19 rfl) rfl (Nat.le_of_eq rfl) (hb hby d25_32) (fun _ _ => ⟨rfl, e358, (by decide : 0 + 0 ≤ _), (by decide : 0 + 0 ≤ _)⟩)
  dsimp only [Pt.U, Pt.locs, Pt.cells, Pt.slots] at X359 l359 y359 z359 st359 hQ359
  subst l359 y359 z359
  obtain ⟨r359, rfl, N359q, e359, hr359⟩ := hQ359
  have N359 := Fr.app N358 N359q
  refine .st st359 ?_
  show OwnGo p e below s _ _ _ T359 (mkF m 35 _ [(.int r359)])
  exact OwnGo.ret X359 hx hret hlk rfl (Or.inl ⟨rfl, Or.inl rfl, _, rfl⟩) (hb hby d25_35) (by show QiU4 Z t kb c0 c1 c2 c3 fmv h0 n0 _ T359.heap _; rw [e359]; exact ⟨_, rfl, N359, rfl, hr359⟩) (by decide) (by decide)
def Qslen4 (Z : State) (x : Addr) (t : Addr) (kb : ClassId) (c0 : Int32) (c1 : Int32) (c2 : Int32) (c3 : Int32) (zc : Int32) (h0 : Heap) (n0 : Nat) (v : Option Value) (h : Heap) (L : List Loc) : Prop := v = some (.int (4 : Int32)) ∧ Fr n0 L ∧ h = h0
theorem rmslen4 (l : Launch) (Z : State) (a0 : Array Value) (hw : own_tb a0 Z) (ws : List Jvm.Cond) (x : Addr) (t : Addr) (kb : ClassId) (c0 : Int32) (c1 : Int32) (c2 : Int32) (c3 : Int32) (zc : Int32) (h0 : Heap) (n0 : Nat) (Z0 : n0 ≤ h0.size) (O_ : Old Z n0 h0) (S_CS : Sta Z Z.heap "java/lang/String" "COMPACT_STRINGS" "Z" (.int zc)) (P_CS : ¬ zc = (0 : Int32)) (SS : own_S4 Z h0 x t kb c0 c1 c2 c3) :
    OwnMet l (⟨"java/lang/String", "length", "()I"⟩ : MethodName) jdk_42_method_54_code 1 (some .int) ws ({ frames := 1, cells := 0, slots := 0, locals := 13 } : Room) #[(.ref x)] Z h0 (Qslen4 Z x t kb c0 c1 c2 c3 zc h0 n0) := by
  refine own_met (plainFor_of_name pn_6) ?_
  intro p e s m below meth c s₁ X0 hx hby hml hret hlk hown hnm hZ e0
  have N0 := Fr.nil n0
  have Z_ := Z0
  refine OwnGo.cast (ef_slen4 m x) ?_
  show OwnGo p e below s _ _ _ s₁ (mkF m 0 _ [])
  obtain ⟨E_x, Fv, hk⟩ := SS
  rcases hk with ⟨Fc, V_t, hl⟩ | ⟨Fc, V_t⟩
  · refine .aloadN X0 hx (hb hby d5_0) rfl rfl ?_
    obtain ⟨T360, X360, e360, st360⟩ := getF X0 hx hZ hown (host := "") (Or.inl (W_ hw 25 rfl)) Via.refl e0 Fv (g := (mkF m 1 #[.val (.ref x)] [(.ref x)])) rfl rfl (hb hby d5_1)
    refine .st st360 ?_
    show OwnGo p e below s _ _ _ T360 (mkF m 4 _ [(.ref t)])
    obtain ⟨cl361, Ar361, -, S361, N361, -, -⟩ := id V_t
    refine .st (fun _ => own_len hZ (len_of S361 N361) Ar361 X360 e360 hx (g := (mkF m 4 #[.val (.ref x)] [(.ref t)])) rfl rfl (hb hby d5_4) _) ?_
    show OwnGo p e below s _ _ _ T360 (mkF m 5 _ [(.int (4 : Int32))])
    refine .aloadN X360 hx (hb hby d5_5) rfl rfl ?_
    obtain ⟨cq362, kq362, q362a, q362b, q362c⟩ := isOf hZ e360 E_x
    obtain ⟨_, _, ⟨T362, L362, k362, n362⟩, -, X362, ⟨Lc362, hQ362, l362, y362, z362⟩, st362⟩ := X360.virtualBack hx (y := (⟨"java/lang/String", "coder", "()B"⟩ : MethodName)) (z := (⟨"java/lang/String", "coder", "()B"⟩ : MethodName)) hown (mvT hZ (W_ hw 32 rfl)) (mvT hZ (W_ hw 33 rfl)) (notFace_of_selects (args := #[]) (mvT hZ (W_ hw 35 rfl))) (mvT hZ (W_ hw 35 rfl)) (mvT hZ (W_ hw 34 rfl)) (by decide) (backOf (W := 1) (rmcoder l Z a0 hw [] x zc h0 n0 Z_ O_ S_CS P_CS Fc) hZ (W_ hw 36 rfl) (W_ hw 7 rfl) (by decide) (by decide)) q362a q362c (g := (mkF m 6 #[.val (.ref x)] [(.ref x), (.int (4 : Int32))])) rfl (by rw [hml]; rfl) (Steps.refl _) (argsL := []) (rest := [(.int (4 : Int32))]) (lenOf pd_0 rfl) rfl (Nat.le_of_eq rfl) (hb hby d5_6) (fun _ _ => ⟨rfl, e360, (by decide : 0 + 0 ≤ _), (by decide : 0 + 0 ≤ _)⟩)
    dsimp only [Pt.U, Pt.locs, Pt.cells, Pt.slots] at X362 l362 y362 z362 st362 hQ362
    subst l362 y362 z362
    obtain ⟨rfl, N362q, e362⟩ := hQ362
    have N362 := Fr.app N0 N362q
    refine .st (fun _ => st362.trans) ?_
    show OwnGo p e below s _ _ _ T362 (mkF m 9 _ [(.int (0 : Int32)), (.int (4 : Int32))])
    refine .st (fun _ => XS.ishr X362.here hx rfl (hb hby d5_9) rfl) ?_
    show OwnGo p e below s _ _ _ T362 (mkF m 10 _ [(.int ((4 : Int32) >>> ((0 : Int32) &&& 31)))])
    rw [show ((4 : Int32) >>> ((0 : Int32) &&& 31)) = (4 : Int32) from by decide]
    show OwnGo p e below s _ _ _ T362 (mkF m 10 _ [(.int (4 : Int32))])
    exact OwnGo.ret X362 hx hret hlk rfl (Or.inl ⟨rfl, Or.inl rfl, _, rfl⟩) (hb hby d5_10) (by show Qslen4 Z x t kb c0 c1 c2 c3 zc h0 n0 _ T362.heap _; rw [e362]; exact ⟨rfl, N362, rfl⟩) (by decide) (by decide)
  · refine .aloadN X0 hx (hb hby d5_0) rfl rfl ?_
    obtain ⟨T363, X363, e363, st363⟩ := getF X0 hx hZ hown (host := "") (Or.inl (W_ hw 25 rfl)) Via.refl e0 Fv (g := (mkF m 1 #[.val (.ref x)] [(.ref x)])) rfl rfl (hb hby d5_1)
    refine .st st363 ?_
    show OwnGo p e below s _ _ _ T363 (mkF m 4 _ [(.ref t)])
    obtain ⟨cl364, Ar364, -, S364, N364, -, -⟩ := id V_t
    refine .st (fun _ => own_len hZ (len_of S364 N364) Ar364 X363 e363 hx (g := (mkF m 4 #[.val (.ref x)] [(.ref t)])) rfl rfl (hb hby d5_4) _) ?_
    show OwnGo p e below s _ _ _ T363 (mkF m 5 _ [(.int (8 : Int32))])
    refine .aloadN X363 hx (hb hby d5_5) rfl rfl ?_
    obtain ⟨cq365, kq365, q365a, q365b, q365c⟩ := isOf hZ e363 E_x
    obtain ⟨_, _, ⟨T365, L365, k365, n365⟩, -, X365, ⟨Lc365, hQ365, l365, y365, z365⟩, st365⟩ := X363.virtualBack hx (y := (⟨"java/lang/String", "coder", "()B"⟩ : MethodName)) (z := (⟨"java/lang/String", "coder", "()B"⟩ : MethodName)) hown (mvT hZ (W_ hw 32 rfl)) (mvT hZ (W_ hw 33 rfl)) (notFace_of_selects (args := #[]) (mvT hZ (W_ hw 35 rfl))) (mvT hZ (W_ hw 35 rfl)) (mvT hZ (W_ hw 34 rfl)) (by decide) (backOf (W := 1) (rmcoder1 l Z a0 hw [] x zc h0 n0 Z_ O_ S_CS P_CS Fc) hZ (W_ hw 36 rfl) (W_ hw 7 rfl) (by decide) (by decide)) q365a q365c (g := (mkF m 6 #[.val (.ref x)] [(.ref x), (.int (8 : Int32))])) rfl (by rw [hml]; rfl) (Steps.refl _) (argsL := []) (rest := [(.int (8 : Int32))]) (lenOf pd_0 rfl) rfl (Nat.le_of_eq rfl) (hb hby d5_6) (fun _ _ => ⟨rfl, e363, (by decide : 0 + 0 ≤ _), (by decide : 0 + 0 ≤ _)⟩)
    dsimp only [Pt.U, Pt.locs, Pt.cells, Pt.slots] at X365 l365 y365 z365 st365 hQ365
    subst l365 y365 z365
    obtain ⟨rfl, N365q, e365⟩ := hQ365
    have N365 := Fr.app N0 N365q
    refine .st (fun _ => st365.trans) ?_
    show OwnGo p e below s _ _ _ T365 (mkF m 9 _ [(.int (1 : Int32)), (.int (8 : Int32))])
    refine .st (fun _ => XS.ishr X365.here hx rfl (hb hby d5_9) rfl) ?_
    show OwnGo p e below s _ _ _ T365 (mkF m 10 _ [(.int ((8 : Int32) >>> ((1 : Int32) &&& 31)))])
    rw [show ((8 : Int32) >>> ((1 : Int32) &&& 31)) = (4 : Int32) from by decide]
    show OwnGo p e below s _ _ _ T365 (mkF m 10 _ [(.int (4 : Int32))])
    exact OwnGo.ret X365 hx hret hlk rfl (Or.inl ⟨rfl, Or.inl rfl, _, rfl⟩) (hb hby d5_10) (by show Qslen4 Z x t kb c0 c1 c2 c3 zc h0 n0 _ T365.heap _; rw [e365]; exact ⟨rfl, N365, rfl⟩) (by decide) (by decide)
def Qsidx4 (Z : State) (x : Addr) (t : Addr) (kb : ClassId) (c0 : Int32) (c1 : Int32) (c2 : Int32) (c3 : Int32) (zc : Int32) (fmv : Value) (h0 : Heap) (n0 : Nat) (v : Option Value) (h : Heap) (L : List Loc) : Prop := ∃ r : Int32, v = some (.int r) ∧ Fr n0 L ∧ h = h0 ∧ ((r < (0 : Int32) ∧ ¬ (c0 = (32 : Int32) ∨ c1 = (32 : Int32) ∨ c2 = (32 : Int32) ∨ c3 = (32 : Int32))) ∨ (¬ r < (0 : Int32) ∧ (c0 = (32 : Int32) ∨ c1 = (32 : Int32) ∨ c2 = (32 : Int32) ∨ c3 = (32 : Int32))))
theorem rmsidx4 (l : Launch) (Z : State) (a0 : Array Value) (hw : own_tb a0 Z) (ws : List Jvm.Cond) (x : Addr) (t : Addr) (kb : ClassId) (c0 : Int32) (c1 : Int32) (c2 : Int32) (c3 : Int32) (zc : Int32) (fmv : Value) (h0 : Heap) (n0 : Nat) (Z0 : n0 ≤ h0.size) (O_ : Old Z n0 h0) (S_CS : Sta Z Z.heap "java/lang/String" "COMPACT_STRINGS" "Z" (.int zc)) (P_CS : ¬ zc = (0 : Int32)) (S_AD : Sta Z Z.heap "java/lang/StringUTF16" "$assertionsDisabled" "Z" (.int (1 : Int32))) (S_HB : Sta Z Z.heap "java/lang/StringUTF16" "HI_BYTE_SHIFT" "I" (.int (0 : Int32))) (S_LB : Sta Z Z.heap "java/lang/StringUTF16" "LO_BYTE_SHIFT" "I" (.int (8 : Int32))) (S_SF : Sta Z Z.heap "jdk/internal/util/Preconditions" "SIOOBE_FORMATTER" "Ljava/util/function/BiFunction;" fmv) (rf_fmv : fmv.isRef = true) (SS : own_S4 Z h0 x t kb c0 c1 c2 c3) (P_c0 : own_u c0) (P_c1 : own_u c1) (P_c2 : own_u c2) (P_c3 : own_u c3) :
    OwnMet l (⟨"java/lang/String", "indexOf", "(II)I"⟩ : MethodName) jdk_42_method_80_code 3 (some .int) ws ({ frames := 5, cells := 0, slots := 0, locals := 73 } : Room) #[(.ref x), (.int (32 : Int32)), (.int (0 : Int32))] Z h0 (Qsidx4 Z x t kb c0 c1 c2 c3 zc fmv h0 n0) := by
  refine own_met (plainFor_of_name pn_6) ?_
  intro p e s m below meth c s₁ X0 hx hby hml hret hlk hown hnm hZ e0
  have N0 := Fr.nil n0
  have Z_ := Z0
  refine OwnGo.cast (ef_sidx4 m x (32 : Int32) (0 : Int32)) ?_
  show OwnGo p e below s _ _ _ s₁ (mkF m 0 _ [])
  obtain ⟨E_x, Fv, hk⟩ := SS
  rcases hk with ⟨Fc, V_t, hl⟩ | ⟨Fc, V_t⟩
  · refine .aloadN X0 hx (hb hby d13_0) rfl rfl ?_
    obtain ⟨cq366, kq366, q366a, q366b, q366c⟩ := isOf hZ e0 E_x
    obtain ⟨_, _, ⟨T366, L366, k366, n366⟩, -, X366, ⟨Lc366, hQ366, l366, y366, z366⟩, st366⟩ := X0.virtualBack hx (y := (⟨"java/lang/String", "isLatin1", "()Z"⟩ : MethodName)) (z := (⟨"java/lang/String", "isLatin1", "()Z"⟩ : MethodName)) hown (mvT hZ (W_ hw 67 rfl)) (mvT hZ (W_ hw 68 rfl)) (notFace_of_selects (args := #[]) (mvT hZ (W_ hw 70 rfl))) (mvT hZ (W_ hw 70 rfl)) (mvT hZ (W_ hw 69 rfl)) (by decide) (backOf (W := 0) (rmisLatin1 l Z a0 hw [] x zc h0 n0 Z_ O_ S_CS P_CS Fc) hZ (W_ hw 71 rfl) (W_ hw 7 rfl) (by decide) (by decide)) q366a q366c (g := (mkF m 1 #[.val (.ref x), .val (.int (32 : Int32)), .val (.int (0 : Int32))] [(.ref x)])) rfl (by rw [hml]; rfl) (Steps.refl _) (argsL := []) (rest := []) (lenOf pd_21 rfl) rfl (Nat.le_of_eq rfl) (hb hby d13_1) (fun _ _ => ⟨rfl, e0, (by decide : 0 + 0 ≤ _), (by decide : 0 + 0 ≤ _)⟩)
    dsimp only [Pt.U, Pt.locs, Pt.cells, Pt.slots] at X366 l366 y366 z366 st366 hQ366
    subst l366 y366 z366
    obtain ⟨rfl, N366q, e366⟩ := hQ366
    have N366 := Fr.app N0 N366q
    refine .st (fun _ => st366.trans) ?_
    show OwnGo p e below s _ _ _ T366 (mkF m 4 _ [(.int (1 : Int32))])
    refine .ifNo X366 hx (hb hby d13_4) ((if0 _ _).trans (feq ((by decide) : ¬ ((1 : Int32) = (0 : Int32)))).1) ?_
    refine .aloadN X366 hx (hb hby d13_7) rfl rfl ?_
    obtain ⟨T367, X367, e367, st367⟩ := getF X366 hx hZ hown (host := "") (Or.inl (W_ hw 25 rfl)) Via.refl e366 Fv (g := (mkF m 8 #[.val (.ref x), .val (.int (32 : Int32)), .val (.int (0 : Int32))] [(.ref x)])) rfl rfl (hb hby d13_8)
    refine .st st367 ?_
    show OwnGo p e below s _ _ _ T367 (mkF m 11 _ [(.ref t)])
    refine .iloadN X367 hx (hb hby d13_11) rfl ?_
    refine .iloadN X367 hx (hb hby d13_12) rfl ?_
    refine .aloadN X367 hx (hb hby d13_13) rfl rfl ?_
    obtain ⟨cq368, kq368, q368a, q368b, q368c⟩ := isOf hZ e367 E_x
    obtain ⟨_, _, ⟨T368, L368, k368, n368⟩, -, X368, ⟨Lc368, hQ368, l368, y368, z368⟩, st368⟩ := X367.virtualBack hx (y := (⟨"java/lang/String", "length", "()I"⟩ : MethodName)) (z := (⟨"java/lang/String", "length", "()I"⟩ : MethodName)) hown (mvT hZ (W_ hw 72 rfl)) (mvT hZ (W_ hw 28 rfl)) (notFace_of_selects (args := #[]) (mvT hZ (W_ hw 30 rfl))) (mvT hZ (W_ hw 30 rfl)) (mvT hZ (W_ hw 29 rfl)) (by decide) (backOf (W := 3) (rmslen4 l Z a0 hw [] x t kb c0 c1 c2 c3 zc h0 n0 Z_ O_ S_CS P_CS ⟨E_x, Fv, Or.inl ⟨Fc, V_t, hl⟩⟩) hZ (W_ hw 31 rfl) (W_ hw 7 rfl) (by decide) (by decide)) q368a q368c (g := (mkF m 14 #[.val (.ref x), .val (.int (32 : Int32)), .val (.int (0 : Int32))] [(.ref x), (.int (0 : Int32)), (.int (32 : Int32)), (.ref t)])) rfl (by rw [hml]; rfl) (Steps.refl _) (argsL := []) (rest := [(.int (0 : Int32)), (.int (32 : Int32)), (.ref t)]) (lenOf pd_22 rfl) rfl (Nat.le_of_eq rfl) (hb hby d13_14) (fun _ _ => ⟨rfl, e367, (by decide : 0 + 0 ≤ _), (by decide : 0 + 0 ≤ _)⟩)
    dsimp only [Pt.U, Pt.locs, Pt.cells, Pt.slots] at X368 l368 y368 z368 st368 hQ368
    subst l368 y368 z368
    obtain ⟨rfl, N368q, e368⟩ := hQ368
    have N368 := Fr.app N366 N368q
    refine .st (fun _ => st368.trans) ?_
    show OwnGo p e below s _ _ _ T368 (mkF m 17 _ [(.int (4 : Int32)), (.int (0 : Int32)), (.int (32 : Int32)), (.ref t)])
    obtain ⟨_, _, ⟨T369, L369, k369, n369⟩, -, X369, ⟨Lc369, hQ369, l369, y369, z369⟩, st369⟩ := Jvm.LawKit.callS X368 hx (y := (⟨"java/lang/StringLatin1", "indexOf", "([BIII)I"⟩ : MethodName)) hown (mvT hZ (W_ hw 73 rfl)) (mvT hZ (W_ hw 74 rfl)) (mvT hZ (W_ hw 75 rfl)) (mvT hZ (W_ hw 76 rfl)) (by decide) (backOf (W := 0) (rmiL4 l Z a0 hw [] t kb c0 c1 c2 c3 h0 n0 Z_ V_t hl P_c0 P_c1 P_c2 P_c3) hZ (W_ hw 76 rfl) (W_ hw 75 rfl) (by decide) (by decide)) (g := (mkF m 17 #[.val (.ref x), .val (.int (32 : Int32)), .val (.int (0 : Int32))] [(.int (4 : Int32)), (.int (0 : Int32)), (.int (32 : Int32)), (.ref t)])) rfl (by rw [hml]; rfl) (argsL := [(.ref t), (.int (32 : Int32)), (.int (0 : Int32)), (.int (4 : Int32))]) (rest := []) (lenOf pd_19 rfl) rfl (Nat.le_of_eq rfl) (hb hby d13_17) (fun _ _ => ⟨rfl, e368, (by decide : 0 + 0 ≤ _), (by decide : 0 + 0 ≤ _)⟩)
    dsimp only [Pt.U, Pt.locs, Pt.cells, Pt.slots] at X369 l369 y369 z369 st369 hQ369
    subst l369 y369 z369
    obtain ⟨r369, rfl, N369q, e369, hr369⟩ := hQ369
    have N369 := Fr.app N368 N369q
    refine .st st369 ?_
    show OwnGo p e below s _ _ _ T369 (mkF m 20 _ [(.int r369)])
    refine .goto (pc := 20) X369 hx 36 (hb hby d13_20) (by decide) (by decide) ?_
    exact OwnGo.ret X369 hx hret hlk rfl (Or.inl ⟨rfl, Or.inl rfl, _, rfl⟩) (hb hby d13_36) (by show Qsidx4 Z x t kb c0 c1 c2 c3 zc fmv h0 n0 _ T369.heap _; rw [e369]; exact ⟨_, rfl, N369, rfl, hr369⟩) (by decide) (by decide)
  · refine .aloadN X0 hx (hb hby d13_0) rfl rfl ?_
    obtain ⟨cq370, kq370, q370a, q370b, q370c⟩ := isOf hZ e0 E_x
    obtain ⟨_, _, ⟨T370, L370, k370, n370⟩, -, X370, ⟨Lc370, hQ370, l370, y370, z370⟩, st370⟩ := X0.virtualBack hx (y := (⟨"java/lang/String", "isLatin1", "()Z"⟩ : MethodName)) (z := (⟨"java/lang/String", "isLatin1", "()Z"⟩ : MethodName)) hown (mvT hZ (W_ hw 67 rfl)) (mvT hZ (W_ hw 68 rfl)) (notFace_of_selects (args := #[]) (mvT hZ (W_ hw 70 rfl))) (mvT hZ (W_ hw 70 rfl)) (mvT hZ (W_ hw 69 rfl)) (by decide) (backOf (W := 0) (rmisL1 l Z a0 hw [] x zc h0 n0 Z_ O_ S_CS P_CS Fc) hZ (W_ hw 71 rfl) (W_ hw 7 rfl) (by decide) (by decide)) q370a q370c (g := (mkF m 1 #[.val (.ref x), .val (.int (32 : Int32)), .val (.int (0 : Int32))] [(.ref x)])) rfl (by rw [hml]; rfl) (Steps.refl _) (argsL := []) (rest := []) (lenOf pd_21 rfl) rfl (Nat.le_of_eq rfl) (hb hby d13_1) (fun _ _ => ⟨rfl, e0, (by decide : 0 + 0 ≤ _), (by decide : 0 + 0 ≤ _)⟩)
    dsimp only [Pt.U, Pt.locs, Pt.cells, Pt.slots] at X370 l370 y370 z370 st370 hQ370
    subst l370 y370 z370
    obtain ⟨rfl, N370q, e370⟩ := hQ370
    have N370 := Fr.app N0 N370q
    refine .st (fun _ => st370.trans) ?_
    show OwnGo p e below s _ _ _ T370 (mkF m 4 _ [(.int (0 : Int32))])
    refine .ifYes (pc := 4) X370 hx 23 (hb hby d13_4) ((if0 _ _).trans (teq ((by decide) : (0 : Int32) = (0 : Int32))).1) (by decide) (by decide) ?_
    refine .aloadN X370 hx (hb hby d13_23) rfl rfl ?_
    obtain ⟨T371, X371, e371, st371⟩ := getF X370 hx hZ hown (host := "") (Or.inl (W_ hw 25 rfl)) Via.refl e370 Fv (g := (mkF m 24 #[.val (.ref x), .val (.int (32 : Int32)), .val (.int (0 : Int32))] [(.ref x)])) rfl rfl (hb hby d13_24)
    refine .st st371 ?_
    show OwnGo p e below s _ _ _ T371 (mkF m 27 _ [(.ref t)])
    refine .iloadN X371 hx (hb hby d13_27) rfl ?_
    refine .iloadN X371 hx (hb hby d13_28) rfl ?_
    refine .aloadN X371 hx (hb hby d13_29) rfl rfl ?_
    obtain ⟨cq372, kq372, q372a, q372b, q372c⟩ := isOf hZ e371 E_x
    obtain ⟨_, _, ⟨T372, L372, k372, n372⟩, -, X372, ⟨Lc372, hQ372, l372, y372, z372⟩, st372⟩ := X371.virtualBack hx (y := (⟨"java/lang/String", "length", "()I"⟩ : MethodName)) (z := (⟨"java/lang/String", "length", "()I"⟩ : MethodName)) hown (mvT hZ (W_ hw 72 rfl)) (mvT hZ (W_ hw 28 rfl)) (notFace_of_selects (args := #[]) (mvT hZ (W_ hw 30 rfl))) (mvT hZ (W_ hw 30 rfl)) (mvT hZ (W_ hw 29 rfl)) (by decide) (backOf (W := 3) (rmslen4 l Z a0 hw [] x t kb c0 c1 c2 c3 zc h0 n0 Z_ O_ S_CS P_CS ⟨E_x, Fv, Or.inr ⟨Fc, V_t⟩⟩) hZ (W_ hw 31 rfl) (W_ hw 7 rfl) (by decide) (by decide)) q372a q372c (g := (mkF m 30 #[.val (.ref x), .val (.int (32 : Int32)), .val (.int (0 : Int32))] [(.ref x), (.int (0 : Int32)), (.int (32 : Int32)), (.ref t)])) rfl (by rw [hml]; rfl) (Steps.refl _) (argsL := []) (rest := [(.int (0 : Int32)), (.int (32 : Int32)), (.ref t)]) (lenOf pd_22 rfl) rfl (Nat.le_of_eq rfl) (hb hby d13_30) (fun _ _ => ⟨rfl, e371, (by decide : 0 + 0 ≤ _), (by decide : 0 + 0 ≤ _)⟩)
    dsimp only [Pt.U, Pt.locs, Pt.cells, Pt.slots] at X372 l372 y372 z372 st372 hQ372
    subst l372 y372 z372
    obtain ⟨rfl, N372q, e372⟩ := hQ372
    have N372 := Fr.app N370 N372q
    refine .st (fun _ => st372.trans) ?_
    show OwnGo p e below s _ _ _ T372 (mkF m 33 _ [(.int (4 : Int32)), (.int (0 : Int32)), (.int (32 : Int32)), (.ref t)])
    obtain ⟨_, _, ⟨T373, L373, k373, n373⟩, -, X373, ⟨Lc373, hQ373, l373, y373, z373⟩, st373⟩ := Jvm.LawKit.callS X372 hx (y := (⟨"java/lang/StringUTF16", "indexOf", "([BIII)I"⟩ : MethodName)) hown (mvT hZ (W_ hw 109 rfl)) (mvT hZ (W_ hw 110 rfl)) (mvT hZ (W_ hw 49 rfl)) (mvT hZ (W_ hw 111 rfl)) (by decide) (backOf (W := 0) (rmiU4 l Z a0 hw [] t kb c0 c1 c2 c3 fmv h0 n0 Z_ O_ S_AD S_HB S_LB S_SF rf_fmv V_t P_c0 P_c1 P_c2 P_c3) hZ (W_ hw 111 rfl) (W_ hw 49 rfl) (by decide) (by decide)) (g := (mkF m 33 #[.val (.ref x), .val (.int (32 : Int32)), .val (.int (0 : Int32))] [(.int (4 : Int32)), (.int (0 : Int32)), (.int (32 : Int32)), (.ref t)])) rfl (by rw [hml]; rfl) (argsL := [(.ref t), (.int (32 : Int32)), (.int (0 : Int32)), (.int (4 : Int32))]) (rest := []) (lenOf pd_19 rfl) rfl (Nat.le_of_eq rfl) (hb hby d13_33) (fun _ _ => ⟨rfl, e372, (by decide : 0 + 0 ≤ _), (by decide : 0 + 0 ≤ _)⟩)
    dsimp only [Pt.U, Pt.locs, Pt.cells, Pt.slots] at X373 l373 y373 z373 st373 hQ373
    subst l373 y373 z373
    obtain ⟨r373, rfl, N373q, e373, hr373⟩ := hQ373
    have N373 := Fr.app N372 N373q
    refine .st st373 ?_
    show OwnGo p e below s _ _ _ T373 (mkF m 36 _ [(.int r373)])
    exact OwnGo.ret X373 hx hret hlk rfl (Or.inl ⟨rfl, Or.inl rfl, _, rfl⟩) (hb hby d13_36) (by show Qsidx4 Z x t kb c0 c1 c2 c3 zc fmv h0 n0 _ T373.heap _; rw [e373]; exact ⟨_, rfl, N373, rfl, hr373⟩) (by decide) (by decide)
def QsidI4 (Z : State) (x : Addr) (t : Addr) (kb : ClassId) (c0 : Int32) (c1 : Int32) (c2 : Int32) (c3 : Int32) (zc : Int32) (fmv : Value) (h0 : Heap) (n0 : Nat) (v : Option Value) (h : Heap) (L : List Loc) : Prop := ∃ r : Int32, v = some (.int r) ∧ Fr n0 L ∧ h = h0 ∧ ((r < (0 : Int32) ∧ ¬ (c0 = (32 : Int32) ∨ c1 = (32 : Int32) ∨ c2 = (32 : Int32) ∨ c3 = (32 : Int32))) ∨ (¬ r < (0 : Int32) ∧ (c0 = (32 : Int32) ∨ c1 = (32 : Int32) ∨ c2 = (32 : Int32) ∨ c3 = (32 : Int32))))
theorem rmsidI4 (l : Launch) (Z : State) (a0 : Array Value) (hw : own_tb a0 Z) (ws : List Jvm.Cond) (x : Addr) (t : Addr) (kb : ClassId) (c0 : Int32) (c1 : Int32) (c2 : Int32) (c3 : Int32) (zc : Int32) (fmv : Value) (h0 : Heap) (n0 : Nat) (Z0 : n0 ≤ h0.size) (O_ : Old Z n0 h0) (S_CS : Sta Z Z.heap "java/lang/String" "COMPACT_STRINGS" "Z" (.int zc)) (P_CS : ¬ zc = (0 : Int32)) (S_AD : Sta Z Z.heap "java/lang/StringUTF16" "$assertionsDisabled" "Z" (.int (1 : Int32))) (S_HB : Sta Z Z.heap "java/lang/StringUTF16" "HI_BYTE_SHIFT" "I" (.int (0 : Int32))) (S_LB : Sta Z Z.heap "java/lang/StringUTF16" "LO_BYTE_SHIFT" "I" (.int (8 : Int32))) (S_SF : Sta Z Z.heap "jdk/internal/util/Preconditions" "SIOOBE_FORMATTER" "Ljava/util/function/BiFunction;" fmv) (rf_fmv : fmv.isRef = true) (SS : own_S4 Z h0 x t kb c0 c1 c2 c3) (P_c0 : own_u c0) (P_c1 : own_u c1) (P_c2 : own_u c2) (P_c3 : own_u c3) :
    OwnMet l (⟨"java/lang/String", "indexOf", "(I)I"⟩ : MethodName) jdk_42_method_79_code 2 (some .int) ws ({ frames := 6, cells := 0, slots := 0, locals := 87 } : Room) #[(.ref x), (.int (32 : Int32))] Z h0 (QsidI4 Z x t kb c0 c1 c2 c3 zc fmv h0 n0) := by
  refine own_met (plainFor_of_name pn_6) ?_
  intro p e s m below meth c s₁ X0 hx hby hml hret hlk hown hnm hZ e0
  have N0 := Fr.nil n0
  have Z_ := Z0
  refine OwnGo.cast (ef_sidI4 m x (32 : Int32)) ?_
  show OwnGo p e below s _ _ _ s₁ (mkF m 0 _ [])
  have E_x := SS.1
  refine .aloadN X0 hx (hb hby d12_0) rfl rfl ?_
  refine .iloadN X0 hx (hb hby d12_1) rfl ?_
  refine .iconst X0 hx (hb hby d12_2) own_ki0 ?_
  obtain ⟨cq374, kq374, q374a, q374b, q374c⟩ := isOf hZ e0 E_x
  obtain ⟨_, _, ⟨T374, L374, k374, n374⟩, -, X374, ⟨Lc374, hQ374, l374, y374, z374⟩, st374⟩ := X0.virtualBack hx (y := (⟨"java/lang/String", "indexOf", "(II)I"⟩ : MethodName)) (z := (⟨"java/lang/String", "indexOf", "(II)I"⟩ : MethodName)) hown (mvT hZ (W_ hw 62 rfl)) (mvT hZ (W_ hw 63 rfl)) (notFace_of_selects (args := #[]) (mvT hZ (W_ hw 65 rfl))) (mvT hZ (W_ hw 65 rfl)) (mvT hZ (W_ hw 64 rfl)) (by decide) (backOf (W := 0) (rmsidx4 l Z a0 hw [] x t kb c0 c1 c2 c3 zc fmv h0 n0 Z_ O_ S_CS P_CS S_AD S_HB S_LB S_SF rf_fmv SS P_c0 P_c1 P_c2 P_c3) hZ (W_ hw 66 rfl) (W_ hw 7 rfl) (by decide) (by decide)) q374a q374c (g := (mkF m 3 #[.val (.ref x), .val (.int (32 : Int32))] [(.int (0 : Int32)), (.int (32 : Int32)), (.ref x)])) rfl (by rw [hml]; rfl) (Steps.refl _) (argsL := [(.int (32 : Int32)), (.int (0 : Int32))]) (rest := []) (lenOf pd_18 rfl) rfl (Nat.le_of_eq rfl) (hb hby d12_3) (fun _ _ => ⟨rfl, e0, (by decide : 0 + 0 ≤ _), (by decide : 0 + 0 ≤ _)⟩)
  dsimp only [Pt.U, Pt.locs, Pt.cells, Pt.slots] at X374 l374 y374 z374 st374 hQ374
  subst l374 y374 z374
  obtain ⟨r374, rfl, N374q, e374, hr374⟩ := hQ374
  have N374 := Fr.app N0 N374q
  refine .st (fun _ => st374.trans) ?_
  show OwnGo p e below s _ _ _ T374 (mkF m 6 _ [(.int r374)])
  exact OwnGo.ret X374 hx hret hlk rfl (Or.inl ⟨rfl, Or.inl rfl, _, rfl⟩) (hb hby d12_6) (by show QsidI4 Z x t kb c0 c1 c2 c3 zc fmv h0 n0 _ T374.heap _; rw [e374]; exact ⟨_, rfl, N374, rfl, hr374⟩) (by decide) (by decide)
def QisW4 (Z : State) (x : Addr) (t : Addr) (kb : ClassId) (c0 : Int32) (c1 : Int32) (c2 : Int32) (c3 : Int32) (zc : Int32) (fmv : Value) (h0 : Heap) (n0 : Nat) (v : Option Value) (h : Heap) (L : List Loc) : Prop := ∃ r : Int32, v = some (.int r) ∧ Fr n0 L ∧ h = h0 ∧ ((r = (1 : Int32) ∧ ¬ (c0 = (32 : Int32) ∨ c1 = (32 : Int32) ∨ c2 = (32 : Int32) ∨ c3 = (32 : Int32))) ∨ (r = (0 : Int32) ∧ (c0 = (32 : Int32) ∨ c1 = (32 : Int32) ∨ c2 = (32 : Int32) ∨ c3 = (32 : Int32))))
theorem rmisW4 (l : Launch) (Z : State) (a0 : Array Value) (hw : own_tb a0 Z) (ws : List Jvm.Cond) (x : Addr) (t : Addr) (kb : ClassId) (c0 : Int32) (c1 : Int32) (c2 : Int32) (c3 : Int32) (zc : Int32) (fmv : Value) (h0 : Heap) (n0 : Nat) (Z0 : n0 ≤ h0.size) (O_ : Old Z n0 h0) (S_CS : Sta Z Z.heap "java/lang/String" "COMPACT_STRINGS" "Z" (.int zc)) (P_CS : ¬ zc = (0 : Int32)) (S_AD : Sta Z Z.heap "java/lang/StringUTF16" "$assertionsDisabled" "Z" (.int (1 : Int32))) (S_HB : Sta Z Z.heap "java/lang/StringUTF16" "HI_BYTE_SHIFT" "I" (.int (0 : Int32))) (S_LB : Sta Z Z.heap "java/lang/StringUTF16" "LO_BYTE_SHIFT" "I" (.int (8 : Int32))) (S_SF : Sta Z Z.heap "jdk/internal/util/Preconditions" "SIOOBE_FORMATTER" "Ljava/util/function/BiFunction;" fmv) (rf_fmv : fmv.isRef = true) (SS : own_S4 Z h0 x t kb c0 c1 c2 c3) (P_c0 : own_u c0) (P_c1 : own_u c1) (P_c2 : own_u c2) (P_c3 : own_u c3) :
    OwnMet l (⟨"com/example/tightrope/tightrope/format/TextFormat", "isWord", "(Ljava/lang/String;)Z"⟩ : MethodName) prog_27_method_5_code 1 (some .boolean) ws ({ frames := 7, cells := 0, slots := 0, locals := 100 } : Room) #[(.ref x)] Z h0 (QisW4 Z x t kb c0 c1 c2 c3 zc fmv h0 n0) := by
  refine own_met (plainFor_of_name pn_7) ?_
  intro p e s m below meth c s₁ X0 hx hby hml hret hlk hown hnm hZ e0
  have N0 := Fr.nil n0
  have Z_ := Z0
  refine OwnGo.cast (ef_isW4 m x) ?_
  show OwnGo p e below s _ _ _ s₁ (mkF m 0 _ [])
  obtain ⟨E_x, Fv, hk⟩ := SS
  rcases hk with ⟨Fc, V_t, hl⟩ | ⟨Fc, V_t⟩
  · refine .aloadN X0 hx (hb hby d7_0) rfl rfl ?_
    obtain ⟨cq375, kq375, q375a, q375b, q375c⟩ := isOf hZ e0 E_x
    obtain ⟨_, _, ⟨T375, L375, k375, n375⟩, -, X375, ⟨Lc375, hQ375, l375, y375, z375⟩, st375⟩ := X0.virtualBack hx (y := (⟨"java/lang/String", "isEmpty", "()Z"⟩ : MethodName)) (z := (⟨"java/lang/String", "isEmpty", "()Z"⟩ : MethodName)) hown (mvT hZ (W_ hw 42 rfl)) (mvT hZ (W_ hw 43 rfl)) (notFace_of_selects (args := #[]) (mvT hZ (W_ hw 45 rfl))) (mvT hZ (W_ hw 45 rfl)) (mvT hZ (W_ hw 44 rfl)) (by decide) (backOf (W := 0) (rmempN l Z a0 hw [] x t kb (4 : Int32) [(.int c0.toInt8.toInt32), (.int c1.toInt8.toInt32), (.int c2.toInt8.toInt32), (.int c3.toInt8.toInt32)] h0 n0 Z_ Fv V_t (by decide)) hZ (W_ hw 46 rfl) (W_ hw 7 rfl) (by decide) (by decide)) q375a q375c (g := (mkF m 1 #[.val (.ref x)] [(.ref x)])) rfl (by rw [hml]; rfl) (Steps.refl _) (argsL := []) (rest := []) (lenOf pd_21 rfl) rfl (Nat.le_of_eq rfl) (hb hby d7_1) (fun _ _ => ⟨rfl, e0, (by decide : 0 + 0 ≤ _), (by decide : 0 + 0 ≤ _)⟩)
    dsimp only [Pt.U, Pt.locs, Pt.cells, Pt.slots] at X375 l375 y375 z375 st375 hQ375
    subst l375 y375 z375
    obtain ⟨rfl, N375q, e375⟩ := hQ375
    have N375 := Fr.app N0 N375q
    refine .st (fun _ => st375.trans) ?_
    show OwnGo p e below s _ _ _ T375 (mkF m 4 _ [(.int (0 : Int32))])
    refine .ifNo X375 hx (hb hby d7_4) ((if0 _ _).trans (teq ((by decide) : (0 : Int32) = (0 : Int32))).2) ?_
    refine .aloadN X375 hx (hb hby d7_7) rfl rfl ?_
    refine .bipush X375 hx (hb hby d7_8) own_kb32 ?_
    obtain ⟨cq376, kq376, q376a, q376b, q376c⟩ := isOf hZ e375 E_x
    obtain ⟨_, _, ⟨T376, L376, k376, n376⟩, -, X376, ⟨Lc376, hQ376, l376, y376, z376⟩, st376⟩ := X375.virtualBack hx (y := (⟨"java/lang/String", "indexOf", "(I)I"⟩ : MethodName)) (z := (⟨"java/lang/String", "indexOf", "(I)I"⟩ : MethodName)) hown (mvT hZ (W_ hw 57 rfl)) (mvT hZ (W_ hw 58 rfl)) (notFace_of_selects (args := #[]) (mvT hZ (W_ hw 60 rfl))) (mvT hZ (W_ hw 60 rfl)) (mvT hZ (W_ hw 59 rfl)) (by decide) (backOf (W := 0) (rmsidI4 l Z a0 hw [] x t kb c0 c1 c2 c3 zc fmv h0 n0 Z_ O_ S_CS P_CS S_AD S_HB S_LB S_SF rf_fmv ⟨E_x, Fv, Or.inl ⟨Fc, V_t, hl⟩⟩ P_c0 P_c1 P_c2 P_c3) hZ (W_ hw 61 rfl) (W_ hw 7 rfl) (by decide) (by decide)) q376a q376c (g := (mkF m 10 #[.val (.ref x)] [(.int (32 : Int32)), (.ref x)])) rfl (by rw [hml]; rfl) (Steps.refl _) (argsL := [(.int (32 : Int32))]) (rest := []) (lenOf pd_5 rfl) rfl (Nat.le_of_eq rfl) (hb hby d7_10) (fun _ _ => ⟨rfl, e375, (by decide : 0 + 0 ≤ _), (by decide : 0 + 0 ≤ _)⟩)
    dsimp only [Pt.U, Pt.locs, Pt.cells, Pt.slots] at X376 l376 y376 z376 st376 hQ376
    subst l376 y376 z376
    obtain ⟨r376, rfl, N376q, e376, hr376⟩ := hQ376
    have N376 := Fr.app N375 N376q
    refine .st (fun _ => st376.trans) ?_
    show OwnGo p e below s _ _ _ T376 (mkF m 13 _ [(.int r376)])
    rcases hr376 with ⟨hn, hs⟩ | ⟨hn, hs⟩
    · refine .ifNo X376 hx (hb hby d7_13) ((if0 _ _).trans (tlt (hn : r376 < (0 : Int32))).2.1) ?_
      refine .iconst X376 hx (hb hby d7_16) own_ki1 ?_
      refine .goto (pc := 17) X376 hx 21 (hb hby d7_17) (by decide) (by decide) ?_
      exact OwnGo.retN X376 hx (t := .boolean) hret hlk (by simp) (hb hby d7_21) (by show QisW4 Z x t kb c0 c1 c2 c3 zc fmv h0 n0 _ T376.heap _; rw [e376]; exact ⟨_, rfl, N376, rfl, Or.inl ⟨rfl, hs⟩⟩) (by decide) (by decide)
    · refine .ifYes (pc := 13) X376 hx 20 (hb hby d7_13) ((if0 _ _).trans (flt (hn : ¬ (r376 < (0 : Int32)))).2.1) (by decide) (by decide) ?_
      refine .iconst X376 hx (hb hby d7_20) own_ki0 ?_
      exact OwnGo.retN X376 hx (t := .boolean) hret hlk (by simp) (hb hby d7_21) (by show QisW4 Z x t kb c0 c1 c2 c3 zc fmv h0 n0 _ T376.heap _; rw [e376]; exact ⟨_, rfl, N376, rfl, Or.inr ⟨rfl, hs⟩⟩) (by decide) (by decide)
  · refine .aloadN X0 hx (hb hby d7_0) rfl rfl ?_
    obtain ⟨cq377, kq377, q377a, q377b, q377c⟩ := isOf hZ e0 E_x
    obtain ⟨_, _, ⟨T377, L377, k377, n377⟩, -, X377, ⟨Lc377, hQ377, l377, y377, z377⟩, st377⟩ := X0.virtualBack hx (y := (⟨"java/lang/String", "isEmpty", "()Z"⟩ : MethodName)) (z := (⟨"java/lang/String", "isEmpty", "()Z"⟩ : MethodName)) hown (mvT hZ (W_ hw 42 rfl)) (mvT hZ (W_ hw 43 rfl)) (notFace_of_selects (args := #[]) (mvT hZ (W_ hw 45 rfl))) (mvT hZ (W_ hw 45 rfl)) (mvT hZ (W_ hw 44 rfl)) (by decide) (backOf (W := 0) (rmempN l Z a0 hw [] x t kb (8 : Int32) [(.int (own_lo c0)), (.int (own_hi c0)), (.int (own_lo c1)), (.int (own_hi c1)), (.int (own_lo c2)), (.int (own_hi c2)), (.int (own_lo c3)), (.int (own_hi c3))] h0 n0 Z_ Fv V_t (by decide)) hZ (W_ hw 46 rfl) (W_ hw 7 rfl) (by decide) (by decide)) q377a q377c (g := (mkF m 1 #[.val (.ref x)] [(.ref x)])) rfl (by rw [hml]; rfl) (Steps.refl _) (argsL := []) (rest := []) (lenOf pd_21 rfl) rfl (Nat.le_of_eq rfl) (hb hby d7_1) (fun _ _ => ⟨rfl, e0, (by decide : 0 + 0 ≤ _), (by decide : 0 + 0 ≤ _)⟩)
    dsimp only [Pt.U, Pt.locs, Pt.cells, Pt.slots] at X377 l377 y377 z377 st377 hQ377
    subst l377 y377 z377
    obtain ⟨rfl, N377q, e377⟩ := hQ377
    have N377 := Fr.app N0 N377q
    refine .st (fun _ => st377.trans) ?_
    show OwnGo p e below s _ _ _ T377 (mkF m 4 _ [(.int (0 : Int32))])
    refine .ifNo X377 hx (hb hby d7_4) ((if0 _ _).trans (teq ((by decide) : (0 : Int32) = (0 : Int32))).2) ?_
    refine .aloadN X377 hx (hb hby d7_7) rfl rfl ?_
    refine .bipush X377 hx (hb hby d7_8) own_kb32 ?_
    obtain ⟨cq378, kq378, q378a, q378b, q378c⟩ := isOf hZ e377 E_x
    obtain ⟨_, _, ⟨T378, L378, k378, n378⟩, -, X378, ⟨Lc378, hQ378, l378, y378, z378⟩, st378⟩ := X377.virtualBack hx (y := (⟨"java/lang/String", "indexOf", "(I)I"⟩ : MethodName)) (z := (⟨"java/lang/String", "indexOf", "(I)I"⟩ : MethodName)) hown (mvT hZ (W_ hw 57 rfl)) (mvT hZ (W_ hw 58 rfl)) (notFace_of_selects (args := #[]) (mvT hZ (W_ hw 60 rfl))) (mvT hZ (W_ hw 60 rfl)) (mvT hZ (W_ hw 59 rfl)) (by decide) (backOf (W := 0) (rmsidI4 l Z a0 hw [] x t kb c0 c1 c2 c3 zc fmv h0 n0 Z_ O_ S_CS P_CS S_AD S_HB S_LB S_SF rf_fmv ⟨E_x, Fv, Or.inr ⟨Fc, V_t⟩⟩ P_c0 P_c1 P_c2 P_c3) hZ (W_ hw 61 rfl) (W_ hw 7 rfl) (by decide) (by decide)) q378a q378c (g := (mkF m 10 #[.val (.ref x)] [(.int (32 : Int32)), (.ref x)])) rfl (by rw [hml]; rfl) (Steps.refl _) (argsL := [(.int (32 : Int32))]) (rest := []) (lenOf pd_5 rfl) rfl (Nat.le_of_eq rfl) (hb hby d7_10) (fun _ _ => ⟨rfl, e377, (by decide : 0 + 0 ≤ _), (by decide : 0 + 0 ≤ _)⟩)
    dsimp only [Pt.U, Pt.locs, Pt.cells, Pt.slots] at X378 l378 y378 z378 st378 hQ378
    subst l378 y378 z378
    obtain ⟨r378, rfl, N378q, e378, hr378⟩ := hQ378
    have N378 := Fr.app N377 N378q
    refine .st (fun _ => st378.trans) ?_
    show OwnGo p e below s _ _ _ T378 (mkF m 13 _ [(.int r378)])
    rcases hr378 with ⟨hn, hs⟩ | ⟨hn, hs⟩
    · refine .ifNo X378 hx (hb hby d7_13) ((if0 _ _).trans (tlt (hn : r378 < (0 : Int32))).2.1) ?_
      refine .iconst X378 hx (hb hby d7_16) own_ki1 ?_
      refine .goto (pc := 17) X378 hx 21 (hb hby d7_17) (by decide) (by decide) ?_
      exact OwnGo.retN X378 hx (t := .boolean) hret hlk (by simp) (hb hby d7_21) (by show QisW4 Z x t kb c0 c1 c2 c3 zc fmv h0 n0 _ T378.heap _; rw [e378]; exact ⟨_, rfl, N378, rfl, Or.inl ⟨rfl, hs⟩⟩) (by decide) (by decide)
    · refine .ifYes (pc := 13) X378 hx 20 (hb hby d7_13) ((if0 _ _).trans (flt (hn : ¬ (r378 < (0 : Int32)))).2.1) (by decide) (by decide) ?_
      refine .iconst X378 hx (hb hby d7_20) own_ki0 ?_
      exact OwnGo.retN X378 hx (t := .boolean) hret hlk (by simp) (hb hby d7_21) (by show QisW4 Z x t kb c0 c1 c2 c3 zc fmv h0 n0 _ T378.heap _; rw [e378]; exact ⟨_, rfl, N378, rfl, Or.inr ⟨rfl, hs⟩⟩) (by decide) (by decide)
def QisW0 (Z : State) (x : Addr) (t : Addr) (kb : ClassId) (h0 : Heap) (n0 : Nat) (v : Option Value) (h : Heap) (L : List Loc) : Prop := v = some (.int (0 : Int32)) ∧ Fr n0 L ∧ h = h0
theorem rmisW0 (l : Launch) (Z : State) (a0 : Array Value) (hw : own_tb a0 Z) (ws : List Jvm.Cond) (x : Addr) (t : Addr) (kb : ClassId) (h0 : Heap) (n0 : Nat) (Z0 : n0 ≤ h0.size) (E_x : Exa Z h0 x "java/lang/String") (Fv : Fld Z h0 x "java/lang/String" "value" "[B" (.ref t)) (V_t : Arv Z h0 t kb .byte (0 : Int32) [] (.int (0 : Int32))) :
    OwnMet l (⟨"com/example/tightrope/tightrope/format/TextFormat", "isWord", "(Ljava/lang/String;)Z"⟩ : MethodName) prog_27_method_5_code 1 (some .boolean) ws ({ frames := 1, cells := 0, slots := 0, locals := 12 } : Room) #[(.ref x)] Z h0 (QisW0 Z x t kb h0 n0) := by
  refine own_met (plainFor_of_name pn_7) ?_
  intro p e s m below meth c s₁ X0 hx hby hml hret hlk hown hnm hZ e0
  have N0 := Fr.nil n0
  have Z_ := Z0
  refine OwnGo.cast (ef_isW0 m x) ?_
  show OwnGo p e below s _ _ _ s₁ (mkF m 0 _ [])
  refine .aloadN X0 hx (hb hby d7_0) rfl rfl ?_
  obtain ⟨cq379, kq379, q379a, q379b, q379c⟩ := isOf hZ e0 E_x
  obtain ⟨_, _, ⟨T379, L379, k379, n379⟩, -, X379, ⟨Lc379, hQ379, l379, y379, z379⟩, st379⟩ := X0.virtualBack hx (y := (⟨"java/lang/String", "isEmpty", "()Z"⟩ : MethodName)) (z := (⟨"java/lang/String", "isEmpty", "()Z"⟩ : MethodName)) hown (mvT hZ (W_ hw 42 rfl)) (mvT hZ (W_ hw 43 rfl)) (notFace_of_selects (args := #[]) (mvT hZ (W_ hw 45 rfl))) (mvT hZ (W_ hw 45 rfl)) (mvT hZ (W_ hw 44 rfl)) (by decide) (backOf (W := 0) (rmempY l Z a0 hw [] x t kb [] h0 n0 Z_ Fv V_t) hZ (W_ hw 46 rfl) (W_ hw 7 rfl) (by decide) (by decide)) q379a q379c (g := (mkF m 1 #[.val (.ref x)] [(.ref x)])) rfl (by rw [hml]; rfl) (Steps.refl _) (argsL := []) (rest := []) (lenOf pd_21 rfl) rfl (Nat.le_of_eq rfl) (hb hby d7_1) (fun _ _ => ⟨rfl, e0, (by decide : 0 + 0 ≤ _), (by decide : 0 + 0 ≤ _)⟩)
  dsimp only [Pt.U, Pt.locs, Pt.cells, Pt.slots] at X379 l379 y379 z379 st379 hQ379
  subst l379 y379 z379
  obtain ⟨rfl, N379q, e379⟩ := hQ379
  have N379 := Fr.app N0 N379q
  refine .st (fun _ => st379.trans) ?_
  show OwnGo p e below s _ _ _ T379 (mkF m 4 _ [(.int (1 : Int32))])
  refine .ifYes (pc := 4) X379 hx 20 (hb hby d7_4) ((if0 _ _).trans (feq ((by decide) : ¬ ((1 : Int32) = (0 : Int32)))).2) (by decide) (by decide) ?_
  refine .iconst X379 hx (hb hby d7_20) own_ki0 ?_
  exact OwnGo.retN X379 hx (t := .boolean) hret hlk (by simp) (hb hby d7_21) (by show QisW0 Z x t kb h0 n0 _ T379.heap _; rw [e379]; exact ⟨rfl, N379, rfl⟩) (by decide) (by decide)
def Q0 (Z : State) (p1 : Int32) (p2 : Int32) (p3 : Int32) (p4 : Int32) (p5 : Int32) (zc : Int32) (fmv : Value) (h0 : Heap) (n0 : Nat) (v : Option Value) (h : Heap) (L : List Loc) : Prop := v = some (.int (1 : Int32)) ∧ Fr n0 L
theorem rm0 (l : Launch) (Z : State) (a0 : Array Value) (hw : own_tb a0 Z) (ws : List Jvm.Cond) (p1 : Int32) (p2 : Int32) (p3 : Int32) (p4 : Int32) (p5 : Int32) (zc : Int32) (fmv : Value) (h0 : Heap) (n0 : Nat) (Z0 : n0 ≤ h0.size) (O_ : Old Z n0 h0) (S_CS : Sta Z Z.heap "java/lang/String" "COMPACT_STRINGS" "Z" (.int zc)) (P_CS : ¬ zc = (0 : Int32)) (S_SF : Sta Z Z.heap "jdk/internal/util/Preconditions" "SIOOBE_FORMATTER" "Ljava/util/function/BiFunction;" fmv) (rf_fmv : fmv.isRef = true) (S_AD : Sta Z Z.heap "java/lang/StringUTF16" "$assertionsDisabled" "Z" (.int (1 : Int32))) (S_HB : Sta Z Z.heap "java/lang/StringUTF16" "HI_BYTE_SHIFT" "I" (.int (0 : Int32))) (S_LB : Sta Z Z.heap "java/lang/StringUTF16" "LO_BYTE_SHIFT" "I" (.int (8 : Int32))) :
    OwnMetW l x code maxLocals ret ws room_1 #[(.int p1), (.int p2), (.int p3), (.int p4), (.int p5)] Z h0 (Q0 Z p1 p2 p3 p4 p5 zc fmv h0 n0) := by
  refine own_metW (EL := own_EL) (plainFor_of_name pn_1) ?_
  intro p e s m below meth c s₁ X0 hx hby hml hret hlk hown hnm hZ e0 hS_ CR
  have hk_ := Nat.le_refl h0.size
  have N0 := Fr.nil n0
  have Z_ := Z0
  refine OwnGoW.cast (ef_0 m p1 p2 p3 p4 p5) ?_
  have hml : c.maxLocals = 12 := hml
  show OwnGoW p e below s Z own_EL _ _ _ s₁ (mkF m 0 _ [])
  refine .iloadN X0 hx (hb hby at_0) rfl ?_
  refine .st (fun _ => X0.ldcInt hx hown (mvT hZ (W_ hw 0 rfl)) (g := (mkF m 1 #[.val (.int p1), .val (.int p2), .val (.int p3), .val (.int p4), .val (.int p5), .unset, .unset, .unset, .unset, .unset, .unset, .unset] [(.int p1)])) rfl (hb hby at_1) _) ?_
  show OwnGoW p e below s Z own_EL _ _ _ s₁ (mkF m 3 _ [(.int (2147483647 : Int32)), (.int p1)])
  refine .st (fun _ => XS.iand X0.here hx rfl (hb hby at_3) rfl) ?_
  show OwnGoW p e below s Z own_EL _ _ _ s₁ (mkF m 4 _ [(.int (p1 &&& (2147483647 : Int32)))])
  refine .iconst X0 hx (hb hby at_4) own_ki5 ?_
  refine .st (fun _ => iremM (g := (mkF m 5 #[.val (.int p1), .val (.int p2), .val (.int p3), .val (.int p4), .val (.int p5), .unset, .unset, .unset, .unset, .unset, .unset, .unset] [(.int (5 : Int32)), (.int (p1 &&& (2147483647 : Int32)))])) X0 hx rfl (hb hby at_5) rfl (by decide)) ?_
  show OwnGoW p e below s Z own_EL _ _ _ s₁ (mkF m 6 _ [(.int ((p1 &&& (2147483647 : Int32)) % (5 : Int32)))])
  obtain ⟨nn, hnn⟩ : ∃ z : Int32, z = ((p1 &&& (2147483647 : Int32)) % (5 : Int32)) := ⟨_, rfl⟩
  rw [← hnn]
  show OwnGoW p e below s Z own_EL _ _ _ s₁ (mkF m 6 _ [(.int nn)])
  refine .istore X0 hx (hb hby at_6) (L' := #[.val (.int p1), .val (.int p2), .val (.int p3), .val (.int p4), .val (.int p5), .val (.int nn), .unset, .unset, .unset, .unset, .unset, .unset]) rfl ?_
  refine .iloadN X0 hx (hb hby at_8) rfl ?_
  refine .st (fun _ => XS.i2c X0.here hx rfl (hb hby at_9) rfl) ?_
  show OwnGoW p e below s Z own_EL _ _ _ s₁ (mkF m 10 _ [(.int (p2.toUInt32.toUInt16.toUInt32.toInt32))])
  obtain ⟨c0, hc0⟩ : ∃ z : Int32, z = (p2.toUInt32.toUInt16.toUInt32.toInt32) := ⟨_, rfl⟩
  rw [← hc0]
  show OwnGoW p e below s Z own_EL _ _ _ s₁ (mkF m 10 _ [(.int c0)])
  have P_c0 : own_u c0 := hc0 ▸ own_u_of _
  refine .istore X0 hx (hb hby at_10) (L' := #[.val (.int p1), .val (.int p2), .val (.int p3), .val (.int p4), .val (.int p5), .val (.int nn), .val (.int c0), .unset, .unset, .unset, .unset, .unset]) rfl ?_
  refine .iloadN X0 hx (hb hby at_12) rfl ?_
  refine .st (fun _ => XS.i2c X0.here hx rfl (hb hby at_13) rfl) ?_
  show OwnGoW p e below s Z own_EL _ _ _ s₁ (mkF m 14 _ [(.int (p3.toUInt32.toUInt16.toUInt32.toInt32))])
  obtain ⟨c1, hc1⟩ : ∃ z : Int32, z = (p3.toUInt32.toUInt16.toUInt32.toInt32) := ⟨_, rfl⟩
  rw [← hc1]
  show OwnGoW p e below s Z own_EL _ _ _ s₁ (mkF m 14 _ [(.int c1)])
  have P_c1 : own_u c1 := hc1 ▸ own_u_of _
  refine .istore X0 hx (hb hby at_14) (L' := #[.val (.int p1), .val (.int p2), .val (.int p3), .val (.int p4), .val (.int p5), .val (.int nn), .val (.int c0), .val (.int c1), .unset, .unset, .unset, .unset]) rfl ?_
  refine .iloadN X0 hx (hb hby at_16) rfl ?_
  refine .st (fun _ => XS.i2c X0.here hx rfl (hb hby at_17) rfl) ?_
  show OwnGoW p e below s Z own_EL _ _ _ s₁ (mkF m 18 _ [(.int (p4.toUInt32.toUInt16.toUInt32.toInt32))])
  obtain ⟨c2, hc2⟩ : ∃ z : Int32, z = (p4.toUInt32.toUInt16.toUInt32.toInt32) := ⟨_, rfl⟩
  rw [← hc2]
  show OwnGoW p e below s Z own_EL _ _ _ s₁ (mkF m 18 _ [(.int c2)])
  have P_c2 : own_u c2 := hc2 ▸ own_u_of _
  refine .istore X0 hx (hb hby at_18) (L' := #[.val (.int p1), .val (.int p2), .val (.int p3), .val (.int p4), .val (.int p5), .val (.int nn), .val (.int c0), .val (.int c1), .val (.int c2), .unset, .unset, .unset]) rfl ?_
  refine .iload X0 hx (hb hby at_20) rfl ?_
  refine .st (fun _ => XS.i2c X0.here hx rfl (hb hby at_22) rfl) ?_
  show OwnGoW p e below s Z own_EL _ _ _ s₁ (mkF m 23 _ [(.int (p5.toUInt32.toUInt16.toUInt32.toInt32))])
  obtain ⟨c3, hc3⟩ : ∃ z : Int32, z = (p5.toUInt32.toUInt16.toUInt32.toInt32) := ⟨_, rfl⟩
  rw [← hc3]
  show OwnGoW p e below s Z own_EL _ _ _ s₁ (mkF m 23 _ [(.int c3)])
  have P_c3 : own_u c3 := hc3 ▸ own_u_of _
  refine .istore X0 hx (hb hby at_23) (L' := #[.val (.int p1), .val (.int p2), .val (.int p3), .val (.int p4), .val (.int p5), .val (.int nn), .val (.int c0), .val (.int c1), .val (.int c2), .val (.int c3), .unset, .unset]) rfl ?_
  refine .iload X0 hx (hb hby at_25) rfl ?_
  refine .iload X0 hx (hb hby at_27) rfl ?_
  refine .iload X0 hx (hb hby at_29) rfl ?_
  refine .iload X0 hx (hb hby at_31) rfl ?_
  refine .iload X0 hx (hb hby at_33) rfl ?_
  rcases own_m5 p1 _ hnn with rfl | rfl | rfl | rfl | rfl
  · show OwnGoW p e below s Z own_EL _ _ _ s₁ (mkF m 35 _ [(.int c3), (.int c2), (.int c1), (.int c0), (.int (0 : Int32))])
    obtain ⟨_, _, ⟨T380, L380, k380, n380⟩, -, X380, hS380, hg380, ⟨Lc380, hQ380, l380, y380, z380, CN380⟩, st380⟩ := callSS (s := s.setVm s.vm) X0 hx (y := (⟨"com/example/tightrope/tightrope/format/TextFormatIsWordPinLaw", "make", "(ICCCC)Ljava/lang/String;"⟩ : MethodName)) hown (mvT hZ (W_ hw 1 rfl)) (mvT hZ (W_ hw 2 rfl)) (mvT hZ (W_ hw 3 rfl)) (mvT hZ (W_ hw 4 rfl)) (by decide) (backOfSH (s := s) (vm0 := s.vm) (W := 0) (rmmk0 l Z a0 hw [] c0 c1 c2 c3 h0 n0 Z_ ) hZ (W_ hw 4 rfl) (W_ hw 3 rfl) (by decide) (by decide) (own_hEL hw) CR.1) (g := (mkF m 35 #[.val (.int p1), .val (.int p2), .val (.int p3), .val (.int p4), .val (.int p5), .val (.int (0 : Int32)), .val (.int c0), .val (.int c1), .val (.int c2), .val (.int c3), .unset, .unset] [(.int c3), (.int c2), (.int c1), (.int c0), (.int (0 : Int32))])) rfl (by rw [hml]; rfl) (argsL := [(.int (0 : Int32)), (.int c0), (.int c1), (.int c2), (.int c3)]) (rest := []) (lenOf pd_23 rfl) rfl (Nat.le_of_eq rfl) (hb hby at_35) (fun _ _ => ⟨rfl, e0, (by decide : 0 + 8 ≤ _), (by decide : 0 + 16 ≤ _)⟩)
    dsimp only [Pt.U, Pt.locs, Pt.cells, Pt.slots] at X380 hS380 hg380 l380 y380 z380 CN380 st380 hQ380
    subst l380 y380 z380
    obtain ⟨X380, hS_, hZ, hown⟩ := rebS hS_ (show _ ≤ s₁.heap.size by rw [(e0 : s₁.heap = h0)]; exact hk_) X380 hS380 hg380 hZ hown
    obtain ⟨x380, b380, kb380, rfl, N380q, K380, E380, Fc380, Fv380, V380⟩ := hQ380
    have N380 := Fr.app N0 N380q
    have Z_ : n0 ≤ T380.heap.size := Nat.le_trans Z_ K380.1
    have O_ := O_.keep K380 all0
    have CR := CR.trans CN380
    have hk_ := Nat.le_refl T380.heap.size
    refine .st (fun _ => st380.trans) ?_
    show OwnGoW p e below s Z own_EL _ _ _ T380 (mkF m 38 _ [(.ref x380)])
    refine .astore X380 hx (hb hby at_38) rfl (L' := #[.val (.int p1), .val (.int p2), .val (.int p3), .val (.int p4), .val (.int p5), .val (.int (0 : Int32)), .val (.int c0), .val (.int c1), .val (.int c2), .val (.int c3), .val (.ref x380), .unset]) rfl ?_
    refine .iload X380 hx (hb hby at_40) rfl ?_
    refine .ifYes (pc := 42) X380 hx 100 (hb hby at_42) ((if0 _ _).trans (flt ((by decide) : ¬ ((0 : Int32) < (0 : Int32)))).2.2.2) (by decide) (by decide) ?_
    refine .iconst X380 hx (hb hby at_100) own_ki0 ?_
    refine .istore X380 hx (hb hby at_101) (L' := #[.val (.int p1), .val (.int p2), .val (.int p3), .val (.int p4), .val (.int p5), .val (.int (0 : Int32)), .val (.int c0), .val (.int c1), .val (.int c2), .val (.int c3), .val (.ref x380), .val (.int (0 : Int32))]) rfl ?_
    refine .aload X380 hx (hb hby at_103) rfl rfl ?_
    obtain ⟨cq381, kq381, q381a, q381b, q381c⟩ := isOf hZ rfl E380
    obtain ⟨_, _, ⟨T381, L381, k381, n381⟩, -, X381, ⟨Lc381, hQ381, l381, y381, z381⟩, st381⟩ := X380.virtualBack hx (y := (⟨"java/lang/String", "length", "()I"⟩ : MethodName)) (z := (⟨"java/lang/String", "length", "()I"⟩ : MethodName)) hown (mvT hZ (W_ hw 27 rfl)) (mvT hZ (W_ hw 28 rfl)) (notFace_of_selects (args := #[]) (mvT hZ (W_ hw 30 rfl))) (mvT hZ (W_ hw 30 rfl)) (mvT hZ (W_ hw 29 rfl)) (by decide) (backOf (W := 0) (rmlength l Z a0 hw [] x380 b380 kb380 (0 : Int32) [] zc T380.heap n0 Z_ O_ S_CS P_CS E380 Fc380 Fv380 V380) hZ (W_ hw 31 rfl) (W_ hw 7 rfl) (by decide) (by decide)) q381a q381c (g := (mkF m 105 #[.val (.int p1), .val (.int p2), .val (.int p3), .val (.int p4), .val (.int p5), .val (.int (0 : Int32)), .val (.int c0), .val (.int c1), .val (.int c2), .val (.int c3), .val (.ref x380), .val (.int (0 : Int32))] [(.ref x380)])) rfl (by rw [hml]; rfl) (Steps.refl _) (argsL := []) (rest := []) (lenOf pd_22 rfl) rfl (Nat.le_of_eq rfl) (hb hby at_105) (fun _ _ => ⟨rfl, rfl, (by decide : 8 + 0 ≤ _), (by decide : 16 + 0 ≤ _)⟩)
    dsimp only [Pt.U, Pt.locs, Pt.cells, Pt.slots] at X381 l381 y381 z381 st381 hQ381
    subst l381 y381 z381
    obtain ⟨rfl, N381q, e381⟩ := hQ381
    have N381 := Fr.app N380 N381q
    refine .st (fun _ => st381.trans) ?_
    show OwnGoW p e below s Z own_EL _ _ _ T381 (mkF m 108 _ [(.int (0 : Int32))])
    refine .iload X381 hx (hb hby at_108) rfl ?_
    refine .icmpNo X381 hx (hb hby at_110) (teq ((by decide) : (0 : Int32) = (0 : Int32))).2 ?_
    refine .aload X381 hx (hb hby at_113) rfl rfl ?_
    obtain ⟨_, _, ⟨T382, L382, k382, n382⟩, -, X382, ⟨Lc382, hQ382, l382, y382, z382⟩, st382⟩ := Jvm.LawKit.callS X381 hx (y := (⟨"com/example/tightrope/tightrope/format/TextFormat", "isWord", "(Ljava/lang/String;)Z"⟩ : MethodName)) hown (mvT hZ (W_ hw 38 rfl)) (mvT hZ (W_ hw 39 rfl)) (mvT hZ (W_ hw 40 rfl)) (mvT hZ (W_ hw 41 rfl)) (by decide) (backOf (W := 0) (rmisW0 l Z a0 hw [] x380 b380 kb380 T380.heap n0 Z_ E380 Fv380 V380) hZ (W_ hw 41 rfl) (W_ hw 40 rfl) (by decide) (by decide)) (g := (mkF m 115 #[.val (.int p1), .val (.int p2), .val (.int p3), .val (.int p4), .val (.int p5), .val (.int (0 : Int32)), .val (.int c0), .val (.int c1), .val (.int c2), .val (.int c3), .val (.ref x380), .val (.int (0 : Int32))] [(.ref x380)])) rfl (by rw [hml]; rfl) (argsL := [(.ref x380)]) (rest := []) (lenOf pd_24 rfl) rfl (Nat.le_of_eq rfl) (hb hby at_115) (fun _ _ => ⟨rfl, e381, (by decide : 8 + 0 ≤ _), (by decide : 16 + 0 ≤ _)⟩)
    dsimp only [Pt.U, Pt.locs, Pt.cells, Pt.slots] at X382 l382 y382 z382 st382 hQ382
    subst l382 y382 z382
    obtain ⟨rfl, N382q, e382⟩ := hQ382
    have N382 := Fr.app N381 N382q
    refine .st st382 ?_
    show OwnGoW p e below s Z own_EL _ _ _ T382 (mkF m 118 _ [(.int (0 : Int32))])
    refine .iload X382 hx (hb hby at_118) rfl ?_
    refine .icmpNo X382 hx (hb hby at_120) (teq ((by decide) : (0 : Int32) = (0 : Int32))).2 ?_
    refine .iconst X382 hx (hb hby at_123) own_ki1 ?_
    refine .goto (pc := 124) X382 hx 128 (hb hby at_124) (by decide) (by decide) ?_
    exact OwnGoW.retN (s := s) (vm0 := T380.vm) X382 hS_ hk_ e382 hZ (own_hEL hw) CR hx (t := .boolean) hret hlk (by simp) (hb hby at_128) (by show Q0 Z p1 p2 p3 p4 p5 zc fmv h0 n0 _ T382.heap _; rw [e382]; exact ⟨rfl, N382⟩) (by decide) (by decide)
  · show OwnGoW p e below s Z own_EL _ _ _ s₁ (mkF m 35 _ [(.int c3), (.int c2), (.int c1), (.int c0), (.int (1 : Int32))])
    obtain ⟨_, _, ⟨T383, L383, k383, n383⟩, -, X383, ⟨Lc383, hQ383, l383, y383, z383⟩, st383⟩ := Jvm.LawKit.callS X0 hx (y := (⟨"com/example/tightrope/tightrope/format/TextFormatIsWordPinLaw", "make", "(ICCCC)Ljava/lang/String;"⟩ : MethodName)) hown (mvT hZ (W_ hw 1 rfl)) (mvT hZ (W_ hw 2 rfl)) (mvT hZ (W_ hw 3 rfl)) (mvT hZ (W_ hw 4 rfl)) (by decide) (backOf (W := 0) (rmmk1 l Z a0 hw [] c0 c1 c2 c3 zc h0 n0 Z_ O_ S_CS P_CS S_AD S_HB S_LB P_c0) hZ (W_ hw 4 rfl) (W_ hw 3 rfl) (by decide) (by decide)) (g := (mkF m 35 #[.val (.int p1), .val (.int p2), .val (.int p3), .val (.int p4), .val (.int p5), .val (.int (1 : Int32)), .val (.int c0), .val (.int c1), .val (.int c2), .val (.int c3), .unset, .unset] [(.int c3), (.int c2), (.int c1), (.int c0), (.int (1 : Int32))])) rfl (by rw [hml]; rfl) (argsL := [(.int (1 : Int32)), (.int c0), (.int c1), (.int c2), (.int c3)]) (rest := []) (lenOf pd_23 rfl) rfl (Nat.le_of_eq rfl) (hb hby at_35) (fun _ _ => ⟨rfl, e0, (by decide : 0 + 4 ≤ _), (by decide : 0 + 8 ≤ _)⟩)
    dsimp only [Pt.U, Pt.locs, Pt.cells, Pt.slots] at X383 l383 y383 z383 st383 hQ383
    subst l383 y383 z383
    obtain ⟨x383, t383, kb383, rfl, N383q, K383, S383, zx383, zt383⟩ := hQ383
    have N383 := Fr.app N0 N383q
    have Z_ : n0 ≤ T383.heap.size := Nat.le_trans Z_ K383.1
    have O_ := O_.keep K383 all0
    have CR := CR.trans (CHr.keep K383 sf0 CR.1)
    have hk_ := Nat.le_trans hk_ K383.1
    refine .st st383 ?_
    show OwnGoW p e below s Z own_EL _ _ _ T383 (mkF m 38 _ [(.ref x383)])
    refine OwnGoW.join (T1 := T383) (P := fun z_ : Int32 => (z_ = (1 : Int32) ∧ ¬ (c0 = (32 : Int32))) ∨ (z_ = (0 : Int32) ∧ (c0 = (32 : Int32)))) (f := fun z_ : Int32 => mkF m 101 #[.val (.int p1), .val (.int p2), .val (.int p3), .val (.int p4), .val (.int p5), .val (.int (1 : Int32)), .val (.int c0), .val (.int c1), .val (.int c2), .val (.int c3), .val (.ref x383), .unset] [(.int z_)]) ?_ ?_
    · intro z_ hu
      obtain ⟨uu, hz_⟩ : ∃ u : Int32, u = z_ := ⟨_, rfl⟩
      subst hz_
      replace hu : (uu = (1 : Int32) ∧ ¬ (c0 = (32 : Int32))) ∨ (uu = (0 : Int32) ∧ (c0 = (32 : Int32))) := hu
      show OwnGoW p e below s Z own_EL _ _ _ T383 (mkF m 101 #[.val (.int p1), .val (.int p2), .val (.int p3), .val (.int p4), .val (.int p5), .val (.int (1 : Int32)), .val (.int c0), .val (.int c1), .val (.int c2), .val (.int c3), .val (.ref x383), .unset] [(.int uu)])
      refine .istore X383 hx (hb hby at_101) (L' := #[.val (.int p1), .val (.int p2), .val (.int p3), .val (.int p4), .val (.int p5), .val (.int (1 : Int32)), .val (.int c0), .val (.int c1), .val (.int c2), .val (.int c3), .val (.ref x383), .val (.int uu)]) rfl ?_
      refine .aload X383 hx (hb hby at_103) rfl rfl ?_
      obtain ⟨cq385, kq385, q385a, q385b, q385c⟩ := isOf hZ rfl S383.1
      obtain ⟨_, _, ⟨T385, L385, k385, n385⟩, -, X385, ⟨Lc385, hQ385, l385, y385, z385⟩, st385⟩ := X383.virtualBack hx (y := (⟨"java/lang/String", "length", "()I"⟩ : MethodName)) (z := (⟨"java/lang/String", "length", "()I"⟩ : MethodName)) hown (mvT hZ (W_ hw 27 rfl)) (mvT hZ (W_ hw 28 rfl)) (notFace_of_selects (args := #[]) (mvT hZ (W_ hw 30 rfl))) (mvT hZ (W_ hw 30 rfl)) (mvT hZ (W_ hw 29 rfl)) (by decide) (backOf (W := 0) (rmslen1 l Z a0 hw [] x383 t383 kb383 c0 zc T383.heap n0 Z_ O_ S_CS P_CS S383) hZ (W_ hw 31 rfl) (W_ hw 7 rfl) (by decide) (by decide)) q385a q385c (g := (mkF m 105 #[.val (.int p1), .val (.int p2), .val (.int p3), .val (.int p4), .val (.int p5), .val (.int (1 : Int32)), .val (.int c0), .val (.int c1), .val (.int c2), .val (.int c3), .val (.ref x383), .val (.int uu)] [(.ref x383)])) rfl (by rw [hml]; rfl) (Steps.refl _) (argsL := []) (rest := []) (lenOf pd_22 rfl) rfl (Nat.le_of_eq rfl) (hb hby at_105) (fun _ _ => ⟨rfl, rfl, (by decide : 4 + 0 ≤ _), (by decide : 8 + 0 ≤ _)⟩)
      dsimp only [Pt.U, Pt.locs, Pt.cells, Pt.slots] at X385 l385 y385 z385 st385 hQ385
      subst l385 y385 z385
      obtain ⟨rfl, N385q, e385⟩ := hQ385
      have N385 := Fr.app N383 N385q
      refine .st (fun _ => st385.trans) ?_
      show OwnGoW p e below s Z own_EL _ _ _ T385 (mkF m 108 _ [(.int (1 : Int32))])
      refine .iload X385 hx (hb hby at_108) rfl ?_
      refine .icmpNo X385 hx (hb hby at_110) (teq ((by decide) : (1 : Int32) = (1 : Int32))).2 ?_
      refine .aload X385 hx (hb hby at_113) rfl rfl ?_
      obtain ⟨_, _, ⟨T386, L386, k386, n386⟩, -, X386, ⟨Lc386, hQ386, l386, y386, z386⟩, st386⟩ := Jvm.LawKit.callS X385 hx (y := (⟨"com/example/tightrope/tightrope/format/TextFormat", "isWord", "(Ljava/lang/String;)Z"⟩ : MethodName)) hown (mvT hZ (W_ hw 38 rfl)) (mvT hZ (W_ hw 39 rfl)) (mvT hZ (W_ hw 40 rfl)) (mvT hZ (W_ hw 41 rfl)) (by decide) (backOf (W := 0) (rmisW1 l Z a0 hw [] x383 t383 kb383 c0 zc fmv T383.heap n0 Z_ O_ S_CS P_CS S_AD S_HB S_LB S_SF rf_fmv S383 P_c0) hZ (W_ hw 41 rfl) (W_ hw 40 rfl) (by decide) (by decide)) (g := (mkF m 115 #[.val (.int p1), .val (.int p2), .val (.int p3), .val (.int p4), .val (.int p5), .val (.int (1 : Int32)), .val (.int c0), .val (.int c1), .val (.int c2), .val (.int c3), .val (.ref x383), .val (.int uu)] [(.ref x383)])) rfl (by rw [hml]; rfl) (argsL := [(.ref x383)]) (rest := []) (lenOf pd_24 rfl) rfl (Nat.le_of_eq rfl) (hb hby at_115) (fun _ _ => ⟨rfl, e385, (by decide : 4 + 0 ≤ _), (by decide : 8 + 0 ≤ _)⟩)
      dsimp only [Pt.U, Pt.locs, Pt.cells, Pt.slots] at X386 l386 y386 z386 st386 hQ386
      subst l386 y386 z386
      obtain ⟨r386, rfl, N386q, e386, hr386⟩ := hQ386
      have N386 := Fr.app N385 N386q
      refine .st st386 ?_
      show OwnGoW p e below s Z own_EL _ _ _ T386 (mkF m 118 _ [(.int r386)])
      refine .iload X386 hx (hb hby at_118) rfl ?_
      refine .icmpNo X386 hx (hb hby at_120) (teq ((own_same1 hr386 hu) : r386 = uu)).2 ?_
      refine .iconst X386 hx (hb hby at_123) own_ki1 ?_
      refine .goto (pc := 124) X386 hx 128 (hb hby at_124) (by decide) (by decide) ?_
      exact OwnGoW.retN (s := s) (vm0 := s.vm) X386 hS_ hk_ e386 hZ (own_hEL hw) CR hx (t := .boolean) hret hlk (by simp) (hb hby at_128) (by show Q0 Z p1 p2 p3 p4 p5 zc fmv h0 n0 _ T386.heap _; rw [e386]; exact ⟨rfl, N386⟩) (by decide) (by decide)
    · intro key384
      refine .astore X383 hx (hb hby at_38) rfl (L' := #[.val (.int p1), .val (.int p2), .val (.int p3), .val (.int p4), .val (.int p5), .val (.int (1 : Int32)), .val (.int c0), .val (.int c1), .val (.int c2), .val (.int c3), .val (.ref x383), .unset]) rfl ?_
      refine .iload X383 hx (hb hby at_40) rfl ?_
      refine .ifNo X383 hx (hb hby at_42) ((if0 _ _).trans (tlt ((by decide) : (0 : Int32) < (1 : Int32))).2.2.2) ?_
      refine .iload X383 hx (hb hby at_45) rfl ?_
      refine .ifNo X383 hx (hb hby at_47) ((if0 _ _).trans (tlt ((by decide) : (0 : Int32) < (1 : Int32))).2.2.2) ?_
      refine .iload X383 hx (hb hby at_50) rfl ?_
      refine .bipush X383 hx (hb hby at_52) own_kb32 ?_
      by_cases q0 : c0 = (32 : Int32)
      · refine .icmpYes (pc := 54) X383 hx 100 (hb hby at_54) (teq (q0 : c0 = (32 : Int32))).1 (by decide) (by decide) ?_
        refine .iconst X383 hx (hb hby at_100) own_ki0 ?_
        exact key384 _ (Or.inr ⟨rfl, q0⟩)
      · refine .icmpNo X383 hx (hb hby at_54) (feq (q0 : ¬ (c0 = (32 : Int32)))).1 ?_
        refine .iload X383 hx (hb hby at_57) rfl ?_
        refine .iconst X383 hx (hb hby at_59) own_ki1 ?_
        refine .icmpYes (pc := 60) X383 hx 70 (hb hby at_60) (flt ((by decide) : ¬ ((1 : Int32) < (1 : Int32)))).2.2.2 (by decide) (by decide) ?_
        refine .iload X383 hx (hb hby at_70) rfl ?_
        refine .iconst X383 hx (hb hby at_72) own_ki2 ?_
        refine .icmpYes (pc := 73) X383 hx 83 (hb hby at_73) (flt ((by decide) : ¬ ((2 : Int32) < (1 : Int32)))).2.2.2 (by decide) (by decide) ?_
        refine .iload X383 hx (hb hby at_83) rfl ?_
        refine .iconst X383 hx (hb hby at_85) own_ki3 ?_
        refine .icmpYes (pc := 86) X383 hx 96 (hb hby at_86) (flt ((by decide) : ¬ ((3 : Int32) < (1 : Int32)))).2.2.2 (by decide) (by decide) ?_
        refine .iconst X383 hx (hb hby at_96) own_ki1 ?_
        refine .goto (pc := 97) X383 hx 101 (hb hby at_97) (by decide) (by decide) ?_
        exact key384 _ (Or.inl ⟨rfl, (q0)⟩)
  · show OwnGoW p e below s Z own_EL _ _ _ s₁ (mkF m 35 _ [(.int c3), (.int c2), (.int c1), (.int c0), (.int (2 : Int32))])
    obtain ⟨_, _, ⟨T387, L387, k387, n387⟩, -, X387, ⟨Lc387, hQ387, l387, y387, z387⟩, st387⟩ := Jvm.LawKit.callS X0 hx (y := (⟨"com/example/tightrope/tightrope/format/TextFormatIsWordPinLaw", "make", "(ICCCC)Ljava/lang/String;"⟩ : MethodName)) hown (mvT hZ (W_ hw 1 rfl)) (mvT hZ (W_ hw 2 rfl)) (mvT hZ (W_ hw 3 rfl)) (mvT hZ (W_ hw 4 rfl)) (by decide) (backOf (W := 0) (rmmk2 l Z a0 hw [] c0 c1 c2 c3 zc h0 n0 Z_ O_ S_CS P_CS S_AD S_HB S_LB P_c0 P_c1) hZ (W_ hw 4 rfl) (W_ hw 3 rfl) (by decide) (by decide)) (g := (mkF m 35 #[.val (.int p1), .val (.int p2), .val (.int p3), .val (.int p4), .val (.int p5), .val (.int (2 : Int32)), .val (.int c0), .val (.int c1), .val (.int c2), .val (.int c3), .unset, .unset] [(.int c3), (.int c2), (.int c1), (.int c0), (.int (2 : Int32))])) rfl (by rw [hml]; rfl) (argsL := [(.int (2 : Int32)), (.int c0), (.int c1), (.int c2), (.int c3)]) (rest := []) (lenOf pd_23 rfl) rfl (Nat.le_of_eq rfl) (hb hby at_35) (fun _ _ => ⟨rfl, e0, (by decide : 0 + 4 ≤ _), (by decide : 0 + 12 ≤ _)⟩)
    dsimp only [Pt.U, Pt.locs, Pt.cells, Pt.slots] at X387 l387 y387 z387 st387 hQ387
    subst l387 y387 z387
    obtain ⟨x387, t387, kb387, rfl, N387q, K387, S387, zx387, zt387⟩ := hQ387
    have N387 := Fr.app N0 N387q
    have Z_ : n0 ≤ T387.heap.size := Nat.le_trans Z_ K387.1
    have O_ := O_.keep K387 all0
    have CR := CR.trans (CHr.keep K387 sf0 CR.1)
    have hk_ := Nat.le_trans hk_ K387.1
    refine .st st387 ?_
    show OwnGoW p e below s Z own_EL _ _ _ T387 (mkF m 38 _ [(.ref x387)])
    refine OwnGoW.join (T1 := T387) (P := fun z_ : Int32 => (z_ = (1 : Int32) ∧ ¬ (c0 = (32 : Int32) ∨ c1 = (32 : Int32))) ∨ (z_ = (0 : Int32) ∧ (c0 = (32 : Int32) ∨ c1 = (32 : Int32)))) (f := fun z_ : Int32 => mkF m 101 #[.val (.int p1), .val (.int p2), .val (.int p3), .val (.int p4), .val (.int p5), .val (.int (2 : Int32)), .val (.int c0), .val (.int c1), .val (.int c2), .val (.int c3), .val (.ref x387), .unset] [(.int z_)]) ?_ ?_
    · intro z_ hu
      obtain ⟨uu, hz_⟩ : ∃ u : Int32, u = z_ := ⟨_, rfl⟩
      subst hz_
      replace hu : (uu = (1 : Int32) ∧ ¬ (c0 = (32 : Int32) ∨ c1 = (32 : Int32))) ∨ (uu = (0 : Int32) ∧ (c0 = (32 : Int32) ∨ c1 = (32 : Int32))) := hu
      show OwnGoW p e below s Z own_EL _ _ _ T387 (mkF m 101 #[.val (.int p1), .val (.int p2), .val (.int p3), .val (.int p4), .val (.int p5), .val (.int (2 : Int32)), .val (.int c0), .val (.int c1), .val (.int c2), .val (.int c3), .val (.ref x387), .unset] [(.int uu)])
      refine .istore X387 hx (hb hby at_101) (L' := #[.val (.int p1), .val (.int p2), .val (.int p3), .val (.int p4), .val (.int p5), .val (.int (2 : Int32)), .val (.int c0), .val (.int c1), .val (.int c2), .val (.int c3), .val (.ref x387), .val (.int uu)]) rfl ?_
      refine .aload X387 hx (hb hby at_103) rfl rfl ?_
      obtain ⟨cq389, kq389, q389a, q389b, q389c⟩ := isOf hZ rfl S387.1
      obtain ⟨_, _, ⟨T389, L389, k389, n389⟩, -, X389, ⟨Lc389, hQ389, l389, y389, z389⟩, st389⟩ := X387.virtualBack hx (y := (⟨"java/lang/String", "length", "()I"⟩ : MethodName)) (z := (⟨"java/lang/String", "length", "()I"⟩ : MethodName)) hown (mvT hZ (W_ hw 27 rfl)) (mvT hZ (W_ hw 28 rfl)) (notFace_of_selects (args := #[]) (mvT hZ (W_ hw 30 rfl))) (mvT hZ (W_ hw 30 rfl)) (mvT hZ (W_ hw 29 rfl)) (by decide) (backOf (W := 0) (rmslen2 l Z a0 hw [] x387 t387 kb387 c0 c1 zc T387.heap n0 Z_ O_ S_CS P_CS S387) hZ (W_ hw 31 rfl) (W_ hw 7 rfl) (by decide) (by decide)) q389a q389c (g := (mkF m 105 #[.val (.int p1), .val (.int p2), .val (.int p3), .val (.int p4), .val (.int p5), .val (.int (2 : Int32)), .val (.int c0), .val (.int c1), .val (.int c2), .val (.int c3), .val (.ref x387), .val (.int uu)] [(.ref x387)])) rfl (by rw [hml]; rfl) (Steps.refl _) (argsL := []) (rest := []) (lenOf pd_22 rfl) rfl (Nat.le_of_eq rfl) (hb hby at_105) (fun _ _ => ⟨rfl, rfl, (by decide : 4 + 0 ≤ _), (by decide : 12 + 0 ≤ _)⟩)
      dsimp only [Pt.U, Pt.locs, Pt.cells, Pt.slots] at X389 l389 y389 z389 st389 hQ389
      subst l389 y389 z389
      obtain ⟨rfl, N389q, e389⟩ := hQ389
      have N389 := Fr.app N387 N389q
      refine .st (fun _ => st389.trans) ?_
      show OwnGoW p e below s Z own_EL _ _ _ T389 (mkF m 108 _ [(.int (2 : Int32))])
      refine .iload X389 hx (hb hby at_108) rfl ?_
      refine .icmpNo X389 hx (hb hby at_110) (teq ((by decide) : (2 : Int32) = (2 : Int32))).2 ?_
      refine .aload X389 hx (hb hby at_113) rfl rfl ?_
      obtain ⟨_, _, ⟨T390, L390, k390, n390⟩, -, X390, ⟨Lc390, hQ390, l390, y390, z390⟩, st390⟩ := Jvm.LawKit.callS X389 hx (y := (⟨"com/example/tightrope/tightrope/format/TextFormat", "isWord", "(Ljava/lang/String;)Z"⟩ : MethodName)) hown (mvT hZ (W_ hw 38 rfl)) (mvT hZ (W_ hw 39 rfl)) (mvT hZ (W_ hw 40 rfl)) (mvT hZ (W_ hw 41 rfl)) (by decide) (backOf (W := 0) (rmisW2 l Z a0 hw [] x387 t387 kb387 c0 c1 zc fmv T387.heap n0 Z_ O_ S_CS P_CS S_AD S_HB S_LB S_SF rf_fmv S387 P_c0 P_c1) hZ (W_ hw 41 rfl) (W_ hw 40 rfl) (by decide) (by decide)) (g := (mkF m 115 #[.val (.int p1), .val (.int p2), .val (.int p3), .val (.int p4), .val (.int p5), .val (.int (2 : Int32)), .val (.int c0), .val (.int c1), .val (.int c2), .val (.int c3), .val (.ref x387), .val (.int uu)] [(.ref x387)])) rfl (by rw [hml]; rfl) (argsL := [(.ref x387)]) (rest := []) (lenOf pd_24 rfl) rfl (Nat.le_of_eq rfl) (hb hby at_115) (fun _ _ => ⟨rfl, e389, (by decide : 4 + 0 ≤ _), (by decide : 12 + 0 ≤ _)⟩)
      dsimp only [Pt.U, Pt.locs, Pt.cells, Pt.slots] at X390 l390 y390 z390 st390 hQ390
      subst l390 y390 z390
      obtain ⟨r390, rfl, N390q, e390, hr390⟩ := hQ390
      have N390 := Fr.app N389 N390q
      refine .st st390 ?_
      show OwnGoW p e below s Z own_EL _ _ _ T390 (mkF m 118 _ [(.int r390)])
      refine .iload X390 hx (hb hby at_118) rfl ?_
      refine .icmpNo X390 hx (hb hby at_120) (teq ((own_same1 hr390 hu) : r390 = uu)).2 ?_
      refine .iconst X390 hx (hb hby at_123) own_ki1 ?_
      refine .goto (pc := 124) X390 hx 128 (hb hby at_124) (by decide) (by decide) ?_
      exact OwnGoW.retN (s := s) (vm0 := s.vm) X390 hS_ hk_ e390 hZ (own_hEL hw) CR hx (t := .boolean) hret hlk (by simp) (hb hby at_128) (by show Q0 Z p1 p2 p3 p4 p5 zc fmv h0 n0 _ T390.heap _; rw [e390]; exact ⟨rfl, N390⟩) (by decide) (by decide)
    · intro key388
      refine .astore X387 hx (hb hby at_38) rfl (L' := #[.val (.int p1), .val (.int p2), .val (.int p3), .val (.int p4), .val (.int p5), .val (.int (2 : Int32)), .val (.int c0), .val (.int c1), .val (.int c2), .val (.int c3), .val (.ref x387), .unset]) rfl ?_
      refine .iload X387 hx (hb hby at_40) rfl ?_
      refine .ifNo X387 hx (hb hby at_42) ((if0 _ _).trans (tlt ((by decide) : (0 : Int32) < (2 : Int32))).2.2.2) ?_
      refine .iload X387 hx (hb hby at_45) rfl ?_
      refine .ifNo X387 hx (hb hby at_47) ((if0 _ _).trans (tlt ((by decide) : (0 : Int32) < (2 : Int32))).2.2.2) ?_
      refine .iload X387 hx (hb hby at_50) rfl ?_
      refine .bipush X387 hx (hb hby at_52) own_kb32 ?_
      by_cases q0 : c0 = (32 : Int32)
      · refine .icmpYes (pc := 54) X387 hx 100 (hb hby at_54) (teq (q0 : c0 = (32 : Int32))).1 (by decide) (by decide) ?_
        refine .iconst X387 hx (hb hby at_100) own_ki0 ?_
        exact key388 _ (Or.inr ⟨rfl, (Or.inl q0)⟩)
      · refine .icmpNo X387 hx (hb hby at_54) (feq (q0 : ¬ (c0 = (32 : Int32)))).1 ?_
        refine .iload X387 hx (hb hby at_57) rfl ?_
        refine .iconst X387 hx (hb hby at_59) own_ki1 ?_
        refine .icmpNo X387 hx (hb hby at_60) (tlt ((by decide) : (1 : Int32) < (2 : Int32))).2.2.2 ?_
        refine .iload X387 hx (hb hby at_63) rfl ?_
        refine .bipush X387 hx (hb hby at_65) own_kb32 ?_
        by_cases q1 : c1 = (32 : Int32)
        · refine .icmpYes (pc := 67) X387 hx 100 (hb hby at_67) (teq (q1 : c1 = (32 : Int32))).1 (by decide) (by decide) ?_
          refine .iconst X387 hx (hb hby at_100) own_ki0 ?_
          exact key388 _ (Or.inr ⟨rfl, (Or.inr q1)⟩)
        · refine .icmpNo X387 hx (hb hby at_67) (feq (q1 : ¬ (c1 = (32 : Int32)))).1 ?_
          refine .iload X387 hx (hb hby at_70) rfl ?_
          refine .iconst X387 hx (hb hby at_72) own_ki2 ?_
          refine .icmpYes (pc := 73) X387 hx 83 (hb hby at_73) (flt ((by decide) : ¬ ((2 : Int32) < (2 : Int32)))).2.2.2 (by decide) (by decide) ?_
          refine .iload X387 hx (hb hby at_83) rfl ?_
          refine .iconst X387 hx (hb hby at_85) own_ki3 ?_
          refine .icmpYes (pc := 86) X387 hx 96 (hb hby at_86) (flt ((by decide) : ¬ ((3 : Int32) < (2 : Int32)))).2.2.2 (by decide) (by decide) ?_
          refine .iconst X387 hx (hb hby at_96) own_ki1 ?_
          refine .goto (pc := 97) X387 hx 101 (hb hby at_97) (by decide) (by decide) ?_
          exact key388 _ (Or.inl ⟨rfl, (by simp only [not_or]; exact ⟨q0, q1⟩)⟩)
  · show OwnGoW p e below s Z own_EL _ _ _ s₁ (mkF m 35 _ [(.int c3), (.int c2), (.int c1), (.int c0), (.int (3 : Int32))])
    obtain ⟨_, _, ⟨T391, L391, k391, n391⟩, -, X391, ⟨Lc391, hQ391, l391, y391, z391⟩, st391⟩ := Jvm.LawKit.callS X0 hx (y := (⟨"com/example/tightrope/tightrope/format/TextFormatIsWordPinLaw", "make", "(ICCCC)Ljava/lang/String;"⟩ : MethodName)) hown (mvT hZ (W_ hw 1 rfl)) (mvT hZ (W_ hw 2 rfl)) (mvT hZ (W_ hw 3 rfl)) (mvT hZ (W_ hw 4 rfl)) (by decide) (backOf (W := 0) (rmmk3 l Z a0 hw [] c0 c1 c2 c3 zc h0 n0 Z_ O_ S_CS P_CS S_AD S_HB S_LB P_c0 P_c1 P_c2) hZ (W_ hw 4 rfl) (W_ hw 3 rfl) (by decide) (by decide)) (g := (mkF m 35 #[.val (.int p1), .val (.int p2), .val (.int p3), .val (.int p4), .val (.int p5), .val (.int (3 : Int32)), .val (.int c0), .val (.int c1), .val (.int c2), .val (.int c3), .unset, .unset] [(.int c3), (.int c2), (.int c1), (.int c0), (.int (3 : Int32))])) rfl (by rw [hml]; rfl) (argsL := [(.int (3 : Int32)), (.int c0), (.int c1), (.int c2), (.int c3)]) (rest := []) (lenOf pd_23 rfl) rfl (Nat.le_of_eq rfl) (hb hby at_35) (fun _ _ => ⟨rfl, e0, (by decide : 0 + 4 ≤ _), (by decide : 0 + 16 ≤ _)⟩)
    dsimp only [Pt.U, Pt.locs, Pt.cells, Pt.slots] at X391 l391 y391 z391 st391 hQ391
    subst l391 y391 z391
    obtain ⟨x391, t391, kb391, rfl, N391q, K391, S391, zx391, zt391⟩ := hQ391
    have N391 := Fr.app N0 N391q
    have Z_ : n0 ≤ T391.heap.size := Nat.le_trans Z_ K391.1
    have O_ := O_.keep K391 all0
    have CR := CR.trans (CHr.keep K391 sf0 CR.1)
    have hk_ := Nat.le_trans hk_ K391.1
    refine .st st391 ?_
    show OwnGoW p e below s Z own_EL _ _ _ T391 (mkF m 38 _ [(.ref x391)])
    refine OwnGoW.join (T1 := T391) (P := fun z_ : Int32 => (z_ = (1 : Int32) ∧ ¬ (c0 = (32 : Int32) ∨ c1 = (32 : Int32) ∨ c2 = (32 : Int32))) ∨ (z_ = (0 : Int32) ∧ (c0 = (32 : Int32) ∨ c1 = (32 : Int32) ∨ c2 = (32 : Int32)))) (f := fun z_ : Int32 => mkF m 101 #[.val (.int p1), .val (.int p2), .val (.int p3), .val (.int p4), .val (.int p5), .val (.int (3 : Int32)), .val (.int c0), .val (.int c1), .val (.int c2), .val (.int c3), .val (.ref x391), .unset] [(.int z_)]) ?_ ?_
    · intro z_ hu
      obtain ⟨uu, hz_⟩ : ∃ u : Int32, u = z_ := ⟨_, rfl⟩
      subst hz_
      replace hu : (uu = (1 : Int32) ∧ ¬ (c0 = (32 : Int32) ∨ c1 = (32 : Int32) ∨ c2 = (32 : Int32))) ∨ (uu = (0 : Int32) ∧ (c0 = (32 : Int32) ∨ c1 = (32 : Int32) ∨ c2 = (32 : Int32))) := hu
      show OwnGoW p e below s Z own_EL _ _ _ T391 (mkF m 101 #[.val (.int p1), .val (.int p2), .val (.int p3), .val (.int p4), .val (.int p5), .val (.int (3 : Int32)), .val (.int c0), .val (.int c1), .val (.int c2), .val (.int c3), .val (.ref x391), .unset] [(.int uu)])
      refine .istore X391 hx (hb hby at_101) (L' := #[.val (.int p1), .val (.int p2), .val (.int p3), .val (.int p4), .val (.int p5), .val (.int (3 : Int32)), .val (.int c0), .val (.int c1), .val (.int c2), .val (.int c3), .val (.ref x391), .val (.int uu)]) rfl ?_
      refine .aload X391 hx (hb hby at_103) rfl rfl ?_
      obtain ⟨cq393, kq393, q393a, q393b, q393c⟩ := isOf hZ rfl S391.1
      obtain ⟨_, _, ⟨T393, L393, k393, n393⟩, -, X393, ⟨Lc393, hQ393, l393, y393, z393⟩, st393⟩ := X391.virtualBack hx (y := (⟨"java/lang/String", "length", "()I"⟩ : MethodName)) (z := (⟨"java/lang/String", "length", "()I"⟩ : MethodName)) hown (mvT hZ (W_ hw 27 rfl)) (mvT hZ (W_ hw 28 rfl)) (notFace_of_selects (args := #[]) (mvT hZ (W_ hw 30 rfl))) (mvT hZ (W_ hw 30 rfl)) (mvT hZ (W_ hw 29 rfl)) (by decide) (backOf (W := 0) (rmslen3 l Z a0 hw [] x391 t391 kb391 c0 c1 c2 zc T391.heap n0 Z_ O_ S_CS P_CS S391) hZ (W_ hw 31 rfl) (W_ hw 7 rfl) (by decide) (by decide)) q393a q393c (g := (mkF m 105 #[.val (.int p1), .val (.int p2), .val (.int p3), .val (.int p4), .val (.int p5), .val (.int (3 : Int32)), .val (.int c0), .val (.int c1), .val (.int c2), .val (.int c3), .val (.ref x391), .val (.int uu)] [(.ref x391)])) rfl (by rw [hml]; rfl) (Steps.refl _) (argsL := []) (rest := []) (lenOf pd_22 rfl) rfl (Nat.le_of_eq rfl) (hb hby at_105) (fun _ _ => ⟨rfl, rfl, (by decide : 4 + 0 ≤ _), (by decide : 16 + 0 ≤ _)⟩)
      dsimp only [Pt.U, Pt.locs, Pt.cells, Pt.slots] at X393 l393 y393 z393 st393 hQ393
      subst l393 y393 z393
      obtain ⟨rfl, N393q, e393⟩ := hQ393
      have N393 := Fr.app N391 N393q
      refine .st (fun _ => st393.trans) ?_
      show OwnGoW p e below s Z own_EL _ _ _ T393 (mkF m 108 _ [(.int (3 : Int32))])
      refine .iload X393 hx (hb hby at_108) rfl ?_
      refine .icmpNo X393 hx (hb hby at_110) (teq ((by decide) : (3 : Int32) = (3 : Int32))).2 ?_
      refine .aload X393 hx (hb hby at_113) rfl rfl ?_
      obtain ⟨_, _, ⟨T394, L394, k394, n394⟩, -, X394, ⟨Lc394, hQ394, l394, y394, z394⟩, st394⟩ := Jvm.LawKit.callS X393 hx (y := (⟨"com/example/tightrope/tightrope/format/TextFormat", "isWord", "(Ljava/lang/String;)Z"⟩ : MethodName)) hown (mvT hZ (W_ hw 38 rfl)) (mvT hZ (W_ hw 39 rfl)) (mvT hZ (W_ hw 40 rfl)) (mvT hZ (W_ hw 41 rfl)) (by decide) (backOf (W := 0) (rmisW3 l Z a0 hw [] x391 t391 kb391 c0 c1 c2 zc fmv T391.heap n0 Z_ O_ S_CS P_CS S_AD S_HB S_LB S_SF rf_fmv S391 P_c0 P_c1 P_c2) hZ (W_ hw 41 rfl) (W_ hw 40 rfl) (by decide) (by decide)) (g := (mkF m 115 #[.val (.int p1), .val (.int p2), .val (.int p3), .val (.int p4), .val (.int p5), .val (.int (3 : Int32)), .val (.int c0), .val (.int c1), .val (.int c2), .val (.int c3), .val (.ref x391), .val (.int uu)] [(.ref x391)])) rfl (by rw [hml]; rfl) (argsL := [(.ref x391)]) (rest := []) (lenOf pd_24 rfl) rfl (Nat.le_of_eq rfl) (hb hby at_115) (fun _ _ => ⟨rfl, e393, (by decide : 4 + 0 ≤ _), (by decide : 16 + 0 ≤ _)⟩)
      dsimp only [Pt.U, Pt.locs, Pt.cells, Pt.slots] at X394 l394 y394 z394 st394 hQ394
      subst l394 y394 z394
      obtain ⟨r394, rfl, N394q, e394, hr394⟩ := hQ394
      have N394 := Fr.app N393 N394q
      refine .st st394 ?_
      show OwnGoW p e below s Z own_EL _ _ _ T394 (mkF m 118 _ [(.int r394)])
      refine .iload X394 hx (hb hby at_118) rfl ?_
      refine .icmpNo X394 hx (hb hby at_120) (teq ((own_same1 hr394 hu) : r394 = uu)).2 ?_
      refine .iconst X394 hx (hb hby at_123) own_ki1 ?_
      refine .goto (pc := 124) X394 hx 128 (hb hby at_124) (by decide) (by decide) ?_
      exact OwnGoW.retN (s := s) (vm0 := s.vm) X394 hS_ hk_ e394 hZ (own_hEL hw) CR hx (t := .boolean) hret hlk (by simp) (hb hby at_128) (by show Q0 Z p1 p2 p3 p4 p5 zc fmv h0 n0 _ T394.heap _; rw [e394]; exact ⟨rfl, N394⟩) (by decide) (by decide)
    · intro key392
      refine .astore X391 hx (hb hby at_38) rfl (L' := #[.val (.int p1), .val (.int p2), .val (.int p3), .val (.int p4), .val (.int p5), .val (.int (3 : Int32)), .val (.int c0), .val (.int c1), .val (.int c2), .val (.int c3), .val (.ref x391), .unset]) rfl ?_
      refine .iload X391 hx (hb hby at_40) rfl ?_
      refine .ifNo X391 hx (hb hby at_42) ((if0 _ _).trans (tlt ((by decide) : (0 : Int32) < (3 : Int32))).2.2.2) ?_
      refine .iload X391 hx (hb hby at_45) rfl ?_
      refine .ifNo X391 hx (hb hby at_47) ((if0 _ _).trans (tlt ((by decide) : (0 : Int32) < (3 : Int32))).2.2.2) ?_
      refine .iload X391 hx (hb hby at_50) rfl ?_
      refine .bipush X391 hx (hb hby at_52) own_kb32 ?_
      by_cases q0 : c0 = (32 : Int32)
      · refine .icmpYes (pc := 54) X391 hx 100 (hb hby at_54) (teq (q0 : c0 = (32 : Int32))).1 (by decide) (by decide) ?_
        refine .iconst X391 hx (hb hby at_100) own_ki0 ?_
        exact key392 _ (Or.inr ⟨rfl, (Or.inl q0)⟩)
      · refine .icmpNo X391 hx (hb hby at_54) (feq (q0 : ¬ (c0 = (32 : Int32)))).1 ?_
        refine .iload X391 hx (hb hby at_57) rfl ?_
        refine .iconst X391 hx (hb hby at_59) own_ki1 ?_
        refine .icmpNo X391 hx (hb hby at_60) (tlt ((by decide) : (1 : Int32) < (3 : Int32))).2.2.2 ?_
        refine .iload X391 hx (hb hby at_63) rfl ?_
        refine .bipush X391 hx (hb hby at_65) own_kb32 ?_
        by_cases q1 : c1 = (32 : Int32)
        · refine .icmpYes (pc := 67) X391 hx 100 (hb hby at_67) (teq (q1 : c1 = (32 : Int32))).1 (by decide) (by decide) ?_
          refine .iconst X391 hx (hb hby at_100) own_ki0 ?_
          exact key392 _ (Or.inr ⟨rfl, (Or.inr (Or.inl q1))⟩)
        · refine .icmpNo X391 hx (hb hby at_67) (feq (q1 : ¬ (c1 = (32 : Int32)))).1 ?_
          refine .iload X391 hx (hb hby at_70) rfl ?_
          refine .iconst X391 hx (hb hby at_72) own_ki2 ?_
          refine .icmpNo X391 hx (hb hby at_73) (tlt ((by decide) : (2 : Int32) < (3 : Int32))).2.2.2 ?_
          refine .iload X391 hx (hb hby at_76) rfl ?_
          refine .bipush X391 hx (hb hby at_78) own_kb32 ?_
          by_cases q2 : c2 = (32 : Int32)
          · refine .icmpYes (pc := 80) X391 hx 100 (hb hby at_80) (teq (q2 : c2 = (32 : Int32))).1 (by decide) (by decide) ?_
            refine .iconst X391 hx (hb hby at_100) own_ki0 ?_
            exact key392 _ (Or.inr ⟨rfl, (Or.inr (Or.inr q2))⟩)
          · refine .icmpNo X391 hx (hb hby at_80) (feq (q2 : ¬ (c2 = (32 : Int32)))).1 ?_
            refine .iload X391 hx (hb hby at_83) rfl ?_
            refine .iconst X391 hx (hb hby at_85) own_ki3 ?_
            refine .icmpYes (pc := 86) X391 hx 96 (hb hby at_86) (flt ((by decide) : ¬ ((3 : Int32) < (3 : Int32)))).2.2.2 (by decide) (by decide) ?_
            refine .iconst X391 hx (hb hby at_96) own_ki1 ?_
            refine .goto (pc := 97) X391 hx 101 (hb hby at_97) (by decide) (by decide) ?_
            exact key392 _ (Or.inl ⟨rfl, (by simp only [not_or]; exact ⟨q0, q1, q2⟩)⟩)
  · show OwnGoW p e below s Z own_EL _ _ _ s₁ (mkF m 35 _ [(.int c3), (.int c2), (.int c1), (.int c0), (.int (4 : Int32))])
    obtain ⟨_, _, ⟨T395, L395, k395, n395⟩, -, X395, ⟨Lc395, hQ395, l395, y395, z395⟩, st395⟩ := Jvm.LawKit.callS X0 hx (y := (⟨"com/example/tightrope/tightrope/format/TextFormatIsWordPinLaw", "make", "(ICCCC)Ljava/lang/String;"⟩ : MethodName)) hown (mvT hZ (W_ hw 1 rfl)) (mvT hZ (W_ hw 2 rfl)) (mvT hZ (W_ hw 3 rfl)) (mvT hZ (W_ hw 4 rfl)) (by decide) (backOf (W := 0) (rmmk4 l Z a0 hw [] c0 c1 c2 c3 zc h0 n0 Z_ O_ S_CS P_CS S_AD S_HB S_LB P_c0 P_c1 P_c2 P_c3) hZ (W_ hw 4 rfl) (W_ hw 3 rfl) (by decide) (by decide)) (g := (mkF m 35 #[.val (.int p1), .val (.int p2), .val (.int p3), .val (.int p4), .val (.int p5), .val (.int (4 : Int32)), .val (.int c0), .val (.int c1), .val (.int c2), .val (.int c3), .unset, .unset] [(.int c3), (.int c2), (.int c1), (.int c0), (.int (4 : Int32))])) rfl (by rw [hml]; rfl) (argsL := [(.int (4 : Int32)), (.int c0), (.int c1), (.int c2), (.int c3)]) (rest := []) (lenOf pd_23 rfl) rfl (Nat.le_of_eq rfl) (hb hby at_35) (fun _ _ => ⟨rfl, e0, (by decide : 0 + 4 ≤ _), (by decide : 0 + 20 ≤ _)⟩)
    dsimp only [Pt.U, Pt.locs, Pt.cells, Pt.slots] at X395 l395 y395 z395 st395 hQ395
    subst l395 y395 z395
    obtain ⟨x395, t395, kb395, rfl, N395q, K395, S395, zx395, zt395⟩ := hQ395
    have N395 := Fr.app N0 N395q
    have Z_ : n0 ≤ T395.heap.size := Nat.le_trans Z_ K395.1
    have O_ := O_.keep K395 all0
    have CR := CR.trans (CHr.keep K395 sf0 CR.1)
    have hk_ := Nat.le_trans hk_ K395.1
    refine .st st395 ?_
    show OwnGoW p e below s Z own_EL _ _ _ T395 (mkF m 38 _ [(.ref x395)])
    refine OwnGoW.join (T1 := T395) (P := fun z_ : Int32 => (z_ = (1 : Int32) ∧ ¬ (c0 = (32 : Int32) ∨ c1 = (32 : Int32) ∨ c2 = (32 : Int32) ∨ c3 = (32 : Int32))) ∨ (z_ = (0 : Int32) ∧ (c0 = (32 : Int32) ∨ c1 = (32 : Int32) ∨ c2 = (32 : Int32) ∨ c3 = (32 : Int32)))) (f := fun z_ : Int32 => mkF m 101 #[.val (.int p1), .val (.int p2), .val (.int p3), .val (.int p4), .val (.int p5), .val (.int (4 : Int32)), .val (.int c0), .val (.int c1), .val (.int c2), .val (.int c3), .val (.ref x395), .unset] [(.int z_)]) ?_ ?_
    · intro z_ hu
      obtain ⟨uu, hz_⟩ : ∃ u : Int32, u = z_ := ⟨_, rfl⟩
      subst hz_
      replace hu : (uu = (1 : Int32) ∧ ¬ (c0 = (32 : Int32) ∨ c1 = (32 : Int32) ∨ c2 = (32 : Int32) ∨ c3 = (32 : Int32))) ∨ (uu = (0 : Int32) ∧ (c0 = (32 : Int32) ∨ c1 = (32 : Int32) ∨ c2 = (32 : Int32) ∨ c3 = (32 : Int32))) := hu
      show OwnGoW p e below s Z own_EL _ _ _ T395 (mkF m 101 #[.val (.int p1), .val (.int p2), .val (.int p3), .val (.int p4), .val (.int p5), .val (.int (4 : Int32)), .val (.int c0), .val (.int c1), .val (.int c2), .val (.int c3), .val (.ref x395), .unset] [(.int uu)])
      refine .istore X395 hx (hb hby at_101) (L' := #[.val (.int p1), .val (.int p2), .val (.int p3), .val (.int p4), .val (.int p5), .val (.int (4 : Int32)), .val (.int c0), .val (.int c1), .val (.int c2), .val (.int c3), .val (.ref x395), .val (.int uu)]) rfl ?_
      refine .aload X395 hx (hb hby at_103) rfl rfl ?_
      obtain ⟨cq397, kq397, q397a, q397b, q397c⟩ := isOf hZ rfl S395.1
      obtain ⟨_, _, ⟨T397, L397, k397, n397⟩, -, X397, ⟨Lc397, hQ397, l397, y397, z397⟩, st397⟩ := X395.virtualBack hx (y := (⟨"java/lang/String", "length", "()I"⟩ : MethodName)) (z := (⟨"java/lang/String", "length", "()I"⟩ : MethodName)) hown (mvT hZ (W_ hw 27 rfl)) (mvT hZ (W_ hw 28 rfl)) (notFace_of_selects (args := #[]) (mvT hZ (W_ hw 30 rfl))) (mvT hZ (W_ hw 30 rfl)) (mvT hZ (W_ hw 29 rfl)) (by decide) (backOf (W := 0) (rmslen4 l Z a0 hw [] x395 t395 kb395 c0 c1 c2 c3 zc T395.heap n0 Z_ O_ S_CS P_CS S395) hZ (W_ hw 31 rfl) (W_ hw 7 rfl) (by decide) (by decide)) q397a q397c (g := (mkF m 105 #[.val (.int p1), .val (.int p2), .val (.int p3), .val (.int p4), .val (.int p5), .val (.int (4 : Int32)), .val (.int c0), .val (.int c1), .val (.int c2), .val (.int c3), .val (.ref x395), .val (.int uu)] [(.ref x395)])) rfl (by rw [hml]; rfl) (Steps.refl _) (argsL := []) (rest := []) (lenOf pd_22 rfl) rfl (Nat.le_of_eq rfl) (hb hby at_105) (fun _ _ => ⟨rfl, rfl, (by decide : 4 + 0 ≤ _), (by decide : 20 + 0 ≤ _)⟩)
      dsimp only [Pt.U, Pt.locs, Pt.cells, Pt.slots] at X397 l397 y397 z397 st397 hQ397
      subst l397 y397 z397
      obtain ⟨rfl, N397q, e397⟩ := hQ397
      have N397 := Fr.app N395 N397q
      refine .st (fun _ => st397.trans) ?_
      show OwnGoW p e below s Z own_EL _ _ _ T397 (mkF m 108 _ [(.int (4 : Int32))])
      refine .iload X397 hx (hb hby at_108) rfl ?_
      refine .icmpNo X397 hx (hb hby at_110) (teq ((by decide) : (4 : Int32) = (4 : Int32))).2 ?_
      refine .aload X397 hx (hb hby at_113) rfl rfl ?_
      obtain ⟨_, _, ⟨T398, L398, k398, n398⟩, -, X398, ⟨Lc398, hQ398, l398, y398, z398⟩, st398⟩ := Jvm.LawKit.callS X397 hx (y := (⟨"com/example/tightrope/tightrope/format/TextFormat", "isWord", "(Ljava/lang/String;)Z"⟩ : MethodName)) hown (mvT hZ (W_ hw 38 rfl)) (mvT hZ (W_ hw 39 rfl)) (mvT hZ (W_ hw 40 rfl)) (mvT hZ (W_ hw 41 rfl)) (by decide) (backOf (W := 0) (rmisW4 l Z a0 hw [] x395 t395 kb395 c0 c1 c2 c3 zc fmv T395.heap n0 Z_ O_ S_CS P_CS S_AD S_HB S_LB S_SF rf_fmv S395 P_c0 P_c1 P_c2 P_c3) hZ (W_ hw 41 rfl) (W_ hw 40 rfl) (by decide) (by decide)) (g := (mkF m 115 #[.val (.int p1), .val (.int p2), .val (.int p3), .val (.int p4), .val (.int p5), .val (.int (4 : Int32)), .val (.int c0), .val (.int c1), .val (.int c2), .val (.int c3), .val (.ref x395), .val (.int uu)] [(.ref x395)])) rfl (by rw [hml]; rfl) (argsL := [(.ref x395)]) (rest := []) (lenOf pd_24 rfl) rfl (Nat.le_of_eq rfl) (hb hby at_115) (fun _ _ => ⟨rfl, e397, (by decide : 4 + 0 ≤ _), (by decide : 20 + 0 ≤ _)⟩)
      dsimp only [Pt.U, Pt.locs, Pt.cells, Pt.slots] at X398 l398 y398 z398 st398 hQ398
      subst l398 y398 z398
      obtain ⟨r398, rfl, N398q, e398, hr398⟩ := hQ398
      have N398 := Fr.app N397 N398q
      refine .st st398 ?_
      show OwnGoW p e below s Z own_EL _ _ _ T398 (mkF m 118 _ [(.int r398)])
      refine .iload X398 hx (hb hby at_118) rfl ?_
      refine .icmpNo X398 hx (hb hby at_120) (teq ((own_same1 hr398 hu) : r398 = uu)).2 ?_
      refine .iconst X398 hx (hb hby at_123) own_ki1 ?_
      refine .goto (pc := 124) X398 hx 128 (hb hby at_124) (by decide) (by decide) ?_
      exact OwnGoW.retN (s := s) (vm0 := s.vm) X398 hS_ hk_ e398 hZ (own_hEL hw) CR hx (t := .boolean) hret hlk (by simp) (hb hby at_128) (by show Q0 Z p1 p2 p3 p4 p5 zc fmv h0 n0 _ T398.heap _; rw [e398]; exact ⟨rfl, N398⟩) (by decide) (by decide)
    · intro key396
      refine .astore X395 hx (hb hby at_38) rfl (L' := #[.val (.int p1), .val (.int p2), .val (.int p3), .val (.int p4), .val (.int p5), .val (.int (4 : Int32)), .val (.int c0), .val (.int c1), .val (.int c2), .val (.int c3), .val (.ref x395), .unset]) rfl ?_
      refine .iload X395 hx (hb hby at_40) rfl ?_
      refine .ifNo X395 hx (hb hby at_42) ((if0 _ _).trans (tlt ((by decide) : (0 : Int32) < (4 : Int32))).2.2.2) ?_
      refine .iload X395 hx (hb hby at_45) rfl ?_
      refine .ifNo X395 hx (hb hby at_47) ((if0 _ _).trans (tlt ((by decide) : (0 : Int32) < (4 : Int32))).2.2.2) ?_
      refine .iload X395 hx (hb hby at_50) rfl ?_
      refine .bipush X395 hx (hb hby at_52) own_kb32 ?_
      by_cases q0 : c0 = (32 : Int32)
      · refine .icmpYes (pc := 54) X395 hx 100 (hb hby at_54) (teq (q0 : c0 = (32 : Int32))).1 (by decide) (by decide) ?_
        refine .iconst X395 hx (hb hby at_100) own_ki0 ?_
        exact key396 _ (Or.inr ⟨rfl, (Or.inl q0)⟩)
      · refine .icmpNo X395 hx (hb hby at_54) (feq (q0 : ¬ (c0 = (32 : Int32)))).1 ?_
        refine .iload X395 hx (hb hby at_57) rfl ?_
        refine .iconst X395 hx (hb hby at_59) own_ki1 ?_
        refine .icmpNo X395 hx (hb hby at_60) (tlt ((by decide) : (1 : Int32) < (4 : Int32))).2.2.2 ?_
        refine .iload X395 hx (hb hby at_63) rfl ?_
        refine .bipush X395 hx (hb hby at_65) own_kb32 ?_
        by_cases q1 : c1 = (32 : Int32)
        · refine .icmpYes (pc := 67) X395 hx 100 (hb hby at_67) (teq (q1 : c1 = (32 : Int32))).1 (by decide) (by decide) ?_
          refine .iconst X395 hx (hb hby at_100) own_ki0 ?_
          exact key396 _ (Or.inr ⟨rfl, (Or.inr (Or.inl q1))⟩)
        · refine .icmpNo X395 hx (hb hby at_67) (feq (q1 : ¬ (c1 = (32 : Int32)))).1 ?_
          refine .iload X395 hx (hb hby at_70) rfl ?_
          refine .iconst X395 hx (hb hby at_72) own_ki2 ?_
          refine .icmpNo X395 hx (hb hby at_73) (tlt ((by decide) : (2 : Int32) < (4 : Int32))).2.2.2 ?_
          refine .iload X395 hx (hb hby at_76) rfl ?_
          refine .bipush X395 hx (hb hby at_78) own_kb32 ?_
          by_cases q2 : c2 = (32 : Int32)
          · refine .icmpYes (pc := 80) X395 hx 100 (hb hby at_80) (teq (q2 : c2 = (32 : Int32))).1 (by decide) (by decide) ?_
            refine .iconst X395 hx (hb hby at_100) own_ki0 ?_
            exact key396 _ (Or.inr ⟨rfl, (Or.inr (Or.inr (Or.inl q2)))⟩)
          · refine .icmpNo X395 hx (hb hby at_80) (feq (q2 : ¬ (c2 = (32 : Int32)))).1 ?_
            refine .iload X395 hx (hb hby at_83) rfl ?_
            refine .iconst X395 hx (hb hby at_85) own_ki3 ?_
            refine .icmpNo X395 hx (hb hby at_86) (tlt ((by decide) : (3 : Int32) < (4 : Int32))).2.2.2 ?_
            refine .iload X395 hx (hb hby at_89) rfl ?_
            refine .bipush X395 hx (hb hby at_91) own_kb32 ?_
            by_cases q3 : c3 = (32 : Int32)
            · refine .icmpYes (pc := 93) X395 hx 100 (hb hby at_93) (teq (q3 : c3 = (32 : Int32))).1 (by decide) (by decide) ?_
              refine .iconst X395 hx (hb hby at_100) own_ki0 ?_
              exact key396 _ (Or.inr ⟨rfl, (Or.inr (Or.inr (Or.inr q3)))⟩)
            · refine .icmpNo X395 hx (hb hby at_93) (feq (q3 : ¬ (c3 = (32 : Int32)))).1 ?_
              refine .iconst X395 hx (hb hby at_96) own_ki1 ?_
              refine .goto (pc := 97) X395 hx 101 (hb hby at_97) (by decide) (by decide) ?_
              exact key396 _ (Or.inl ⟨rfl, (by simp only [not_or]; exact ⟨q0, q1, q2, q3⟩)⟩)
theorem comes_1 {Post : Tables → Env → Array Value → State → Outcome → State → Prop} (hpost : ∀ tb e args s v u, (limb_1_1.after args s (.returned v) u = true ∧ limb_1_2.after args s (.returned v) u = true ∧ True) → ReturnedEndW s (.returned v) u (Jvm.fieldLocs frame_1_writes args s ++ Jvm.arrayLocs frame_1_arrays args s ++ Jvm.staticLocs frame_1_statics s) 24 1152 → Post tb e args s (.returned v) u) :
    ArmFor flags0 classFile x code maxLocals ret World_1 tables_1 room_1 Calls_1 rest_1 Pre_1 Post := by
  intro l hfl _ _ p e ha hc hk s m args below hf hA hF happ hP
  obtain ⟨hcalls, hrest, hpre⟩ := hP
  obtain ⟨-, -, -, hnamed, -, -, -, hat⟩ := (Spec.applies_iff hf).mp happ
  obtain ⟨hg, hn⟩ := and_e (Cond.before_iff.mp (show (Jvm.Cond.and given_1 narrow_1).before args s = true from hpre))
  obtain ⟨hcnt, hg⟩ := and_e hg
  obtain ⟨hg0, hg⟩ := and_e hg
  obtain ⟨hg1, hg⟩ := and_e hg
  obtain ⟨hg2, hg⟩ := and_e hg
  obtain ⟨hg3, hg⟩ := and_e hg
  have hg4 := hg
  obtain ⟨w0, w1, w2, w3, w4, rfl⟩ : ∃ w0 w1 w2 w3 w4 : Value, args = #[w0, w1, w2, w3, w4] := by
    have hs : args.size = 5 := by simpa [Cond.value, given_1] using hcnt
    obtain ⟨L⟩ := args
    match L, hs with
    | [w0, w1, w2, w3, w4], _ => exact ⟨w0, w1, w2, w3, w4, rfl⟩
  have hw := fun d (hd : d ∈ tables_1) => atoms_spec (ws := Jvm.Cond.code x code maxLocals ret :: tables_1) hat d (List.mem_cons_of_mem _ hd)
  have hfit : Fit s := fun {y c} hc i hi => by
    obtain ⟨ha, rfl⟩ := Array.getElem?_eq_some_iff.mp hc
    have q := List.all_eq_true.mp ((Array.all_eq_true_iff_forall_mem.mp hF) _ (Array.getElem_mem ha)) i (List.mem_range.mpr hi)
    simpa [Array.getElem?_eq_getElem hi] using q
  obtain ⟨i0, ei0⟩ := is_v hg0
  obtain rfl : w0 = (.int i0) := Option.some.inj ei0
  obtain ⟨i1, ei1⟩ := is_v hg1
  obtain rfl : w1 = (.int i1) := Option.some.inj ei1
  obtain ⟨i2, ei2⟩ := is_v hg2
  obtain rfl : w2 = (.int i2) := Option.some.inj ei2
  obtain ⟨i3, ei3⟩ := is_v hg3
  obtain rfl : w3 = (.int i3) := Option.some.inj ei3
  obtain ⟨i4, ei4⟩ := is_v hg4
  obtain rfl : w4 = (.int i4) := Option.some.inj ei4
  obtain ⟨hsets, hown0⟩ := atoms_of _ (rest_1_c_eq ▸ (show rest_1_c.before _ s = true from hrest))
  obtain ⟨zc, ev_zc⟩ := is_v (Cond.before_iff.mp (hsets _ (List.mem_of_getElem? (i := 1) rfl)))
  have S_CS := Sta.start ev_zc (Or.inl (hsets _ (List.mem_of_getElem? (i := 0) rfl)))
  have P_CS : ¬ zc = (0 : Int32) := gotF (Cond.eq_ints ev_zc (Term.int_eval (0))) (not_v (Cond.before_iff.mp (hsets _ (List.mem_of_getElem? (i := 2) rfl))))
  obtain ⟨fmv, ev_fm, rf_fmv⟩ := isR_v (Cond.before_iff.mp (hsets _ (List.mem_of_getElem? (i := 8) rfl)))
  have S_SF := Sta.start ev_fm (Or.inl (hsets _ (List.mem_of_getElem? (i := 7) rfl)))
  have S_AD := Sta.start (own_eqi (Cond.before_iff.mp (hsets _ (List.mem_of_getElem? (i := 12) rfl)))) (Or.inl (hsets _ (List.mem_of_getElem? (i := 11) rfl)))
  have S_HB := Sta.start (own_eqi (Cond.before_iff.mp (hsets _ (List.mem_of_getElem? (i := 15) rfl)))) (Or.inl (hsets _ (List.mem_of_getElem? (i := 14) rfl)))
  have S_LB := Sta.start (own_eqi (Cond.before_iff.mp (hsets _ (List.mem_of_getElem? (i := 18) rfl)))) (Or.inl (hsets _ (List.mem_of_getElem? (i := 17) rfl)))
  obtain ⟨n, o, h1, h2, h3, _, L, rfl, ⟨rfl, N⟩, -, hq⟩ := rm0 l s _ hw tables_1 i0 i1 i2 i3 i4 zc fmv s.heap s.heap.size (Nat.le_refl _) (Old.start s) S_CS P_CS S_SF rf_fmv S_AD S_HB S_LB  p e ha hc hk s m _ below hf ((Spec.applies_iff_loose hf).mp happ).1 ⟨rfl, State.Warmed39.refl s, rfl, (CHv.start (own_hEL hw) (fun q hq => (hcalls.1 : Jvm.Lit.constsHeld consts_1 s) q ((by decide : ∀ q ∈ own_EL, q ∈ consts_1) q hq)) (hsets _ (List.mem_of_getElem? (i := 2) rfl)) (W_ hw 20 rfl) (W_ hw 6 rfl))⟩ trivial
  refine ⟨n, _, h1, h2, h3, hpost _ _ _ _ _ _ ⟨Cond.after_iff.mpr rfl, Cond.after_iff.mpr (eq_i res_at (Term.int_eval (1)) rfl), trivial⟩ ⟨hq.1, hq.2.1, hq.2.2.1, (hq.2.2.2.sift fun y hy => Or.inr (N y hy)).mono (by decide) (by decide)⟩⟩
theorem main_1_1 : Claimed_1_1 := comes_1 fun _ _ _ _ _ _ h hF => ⟨h.1, hF⟩
theorem main_1_2 : Claimed_1_2 := comes_1 fun _ _ _ _ _ _ h hF => ⟨h.2.1, hF⟩
end Jvm.Pilot.@@N@@
namespace Jvm.Pilot.@@N@@
open Jvm Jvm.ClassFile Sem Op Lib Jvm.Free Jvm.Stand Jvm.Pilot.@@N@@.Jvm.D
/-! MADE BY PROGRAM (witnessworld.py) out of the Statement's table words and the real class files: 21 classes; the members and pool entries that the words name. The judged class is class 1, her method 1. -/
namespace start1
open Jvm.ClassFile
def u (s : String) : CpInfo := .utf8 (stringToUtf16 s)
/-- a pool by its gaps: so many unusable entries, then the entry; so many at the end -/
def gap : Nat → List CpInfo → List CpInfo
  | 0, r => r
  | n + 1, r => .unusable :: gap n r
def poolList (es : List (Nat × CpInfo)) (last : Nat) : List CpInfo := es.foldr (fun e r => gap e.1 (e.2 :: r)) (gap last [])
def pool (es : List (Nat × CpInfo)) (last : Nat) : Array CpInfo := ⟨poolList es last⟩
def fileOf (pool : Array CpInfo) (this : Nat) (attrs : Array Attribute := #[]) (ms : Array MethodInfo := #[]) (fl : Nat := 33) (sup : Nat := 0) (ifs : Array Nat := #[]) (fds : Array FieldInfo := #[]) : ClassFile where
  minorVersion := 0
  majorVersion := 65
  constantPool := pool
  accessFlags := fl
  thisClass := this
  superClass := sup
  interfaces := ifs
  fields := fds
  methods := ms
  attributes := attrs
def plain (name : String) (sup : Option ClassId) : Class where
  name := name
  kind := .ordinary
  loader := none
  accessFlags := 33
  super := sup
  interfaces := #[]
  cf := none
  fields := #[]
  methods := #[]
  instanceTypes := #[]
  staticTypes := #[]
  resolved := #[]
  callSites := []
  init := .initialized
  statics := none
  mirror := none

def pool0 : Array CpInfo := pool [(5, u "<init>"), (0, u "()V"), (1, .class_ 10), (1, u "java/lang/Object")] 113

def k0c0 : Code := { maxStack := 0, maxLocals := 1, code := object_method_1_code, exceptionTable := #[], attributes := #[] }
def k0m0 : Method := { name := "<init>", desc := "()V", sig := { parameters := [], returnType := none }, accessFlags := 1, code := some k0c0 }
/-- java/lang/Object -/
def k0 : Class := { plain "java/lang/Object" none with
  accessFlags := 33
  interfaces := #[]
  cf := some (fileOf pool0 8 #[] #[{ accessFlags := 1, nameIndex := 5, descriptorIndex := 6, attributes := #[] }] 33 0 #[] #[])
  fields := #[]
  methods := #[k0m0]
  instanceTypes := #[]
  staticTypes := #[]
  resolved := Array.replicate 124 none
  statics := none }

def pool1 : Array CpInfo := pool [(2, .class_ 4), (1, u "java/lang/Object"), (0, u "<init>"), (0, u "()V"), (0, .integer 2147483647), (0, .methodref 9 10), (0, .class_ 11), (0, .nameAndType 12 13), (0, u "com/example/tightrope/tightrope/format/TextFormatIsWordPinLaw"), (0, u "make"), (0, u "(ICCCC)Ljava/lang/String;"), (0, .methodref 15 16), (0, .class_ 17), (0, .nameAndType 18 19), (0, u "java/lang/String"), (0, u "length"), (0, u "()I"), (0, .methodref 21 22), (0, .class_ 23), (0, .nameAndType 24 25), (0, u "com/example/tightrope/tightrope/format/TextFormat"), (0, u "isWord"), (0, u "(Ljava/lang/String;)Z"), (0, .methodref 15 27), (0, .nameAndType 5 28), (0, u "([C)V"), (0, .methodref 15 30), (0, .nameAndType 31 32), (0, u "valueOf"), (0, u "(C)Ljava/lang/String;"), (2, u "law"), (0, u "(IIIII)Z")] 3

def k1m0 : Method := { name := "<init>", desc := "()V", sig := { parameters := [], returnType := none }, accessFlags := 2, code := none }
def k1c1 : Code := { maxStack := 5, maxLocals := 12, code := code, exceptionTable := #[], attributes := #[] }
def k1m1 : Method := { name := "law", desc := "(IIIII)Z", sig := { parameters := [.int, .int, .int, .int, .int], returnType := some .boolean }, accessFlags := 9, code := some k1c1 }
def k1c2 : Code := { maxStack := 6, maxLocals := 5, code := method_3_code, exceptionTable := #[], attributes := #[] }
def k1m2 : Method := { name := "make", desc := "(ICCCC)Ljava/lang/String;", sig := { parameters := [.int, .char, .char, .char, .char], returnType := some (.object "java/lang/String") }, accessFlags := 10, code := some k1c2 }
/-- com/example/tightrope/tightrope/format/TextFormatIsWordPinLaw -/
def k1 : Class := { plain "com/example/tightrope/tightrope/format/TextFormatIsWordPinLaw" (some 0) with
  accessFlags := 49
  interfaces := #[]
  cf := some (fileOf pool1 9 #[] #[{ accessFlags := 2, nameIndex := 5, descriptorIndex := 6, attributes := #[] }, { accessFlags := 9, nameIndex := 35, descriptorIndex := 36, attributes := #[] }, { accessFlags := 10, nameIndex := 12, descriptorIndex := 13, attributes := #[] }] 49 2 #[] #[])
  fields := #[]
  methods := #[k1m0, k1m1, k1m2]
  instanceTypes := #[]
  staticTypes := #[]
  resolved := Array.replicate 40 none
  statics := none }

def pool2 : Array CpInfo := pool [(1, .class_ 2), (0, u "java/io/Serializable"), (0, .class_ 4), (0, u "java/lang/Object")] 2

/-- java/io/Serializable -/
def k2 : Class := { plain "java/io/Serializable" (some 0) with
  accessFlags := 1537
  interfaces := #[]
  cf := some (fileOf pool2 1 #[] #[] 1537 3 #[] #[])
  fields := #[]
  methods := #[]
  instanceTypes := #[]
  staticTypes := #[]
  resolved := Array.replicate 7 none
  statics := none }

def pool3 : Array CpInfo := pool [(1, .class_ 2), (0, u "java/lang/Comparable"), (0, .class_ 4), (0, u "java/lang/Object")] 7

/-- java/lang/Comparable -/
def k3 : Class := { plain "java/lang/Comparable" (some 0) with
  accessFlags := 1537
  interfaces := #[]
  cf := some (fileOf pool3 1 #[] #[] 1537 3 #[] #[])
  fields := #[]
  methods := #[]
  instanceTypes := #[]
  staticTypes := #[]
  resolved := Array.replicate 12 none
  statics := none }

def pool4 : Array CpInfo := pool [(2, .class_ 4), (1, u "java/lang/CharSequence"), (42, .class_ 48), (0, u "java/lang/CharSequence$1CodePointIterator"), (10, .class_ 60), (0, u "java/lang/CharSequence$1CharIterator"), (5, .class_ 67), (0, u "java/lang/Object")] 63

/-- java/lang/CharSequence -/
def k4 : Class := { plain "java/lang/CharSequence" (some 0) with
  accessFlags := 1537
  interfaces := #[]
  cf := some (fileOf pool4 2 #[.nestMembers #[47, 59]] #[] 1537 66 #[] #[])
  fields := #[]
  methods := #[]
  instanceTypes := #[]
  staticTypes := #[]
  resolved := Array.replicate 131 none
  statics := none }

def pool5 : Array CpInfo := pool [(1, .class_ 2), (0, u "java/lang/constant/Constable"), (0, .class_ 4), (0, u "java/lang/Object")] 6

/-- java/lang/constant/Constable -/
def k5 : Class := { plain "java/lang/constant/Constable" (some 0) with
  accessFlags := 1537
  interfaces := #[]
  cf := some (fileOf pool5 1 #[] #[] 1537 3 #[] #[])
  fields := #[]
  methods := #[]
  instanceTypes := #[]
  staticTypes := #[]
  resolved := Array.replicate 11 none
  statics := none }

def pool6 : Array CpInfo := pool [(1, .class_ 2), (0, u "java/lang/constant/ConstantDesc"), (0, .class_ 4), (0, u "java/lang/Object")] 32

/-- java/lang/constant/ConstantDesc -/
def k6 : Class := { plain "java/lang/constant/ConstantDesc" (some 0) with
  accessFlags := 1537
  interfaces := #[]
  cf := some (fileOf pool6 1 #[] #[] 1537 3 #[] #[])
  fields := #[]
  methods := #[]
  instanceTypes := #[]
  staticTypes := #[]
  resolved := Array.replicate 37 none
  statics := none }

def pool7 : Array CpInfo := pool [(1, .methodref 2 3), (0, .class_ 4), (0, .nameAndType 5 6), (0, u "java/lang/Object"), (0, u "<init>"), (0, u "()V"), (0, .string 8), (0, u ""), (0, .fieldref 10 11), (0, .class_ 12), (0, .nameAndType 13 14), (0, u "java/lang/String"), (0, u "value"), (0, u "[B"), (0, .fieldref 10 16), (0, .nameAndType 17 18), (0, u "coder"), (0, u "B"), (2, u "hash"), (0, u "I"), (2, u "hashIsZero"), (0, u "Z"), (0, .methodref 10 28), (0, .nameAndType 5 29), (0, u "([CIILjava/lang/Void;)V"), (8, .fieldref 10 39), (0, .nameAndType 40 26), (0, u "COMPACT_STRINGS"), (1, .class_ 44), (1, u "java/lang/StringUTF16"), (0, u "compress"), (1, .methodref 42 48), (0, .nameAndType 49 50), (0, u "coderFromArrayLen"), (0, u "([BI)B"), (2, u "toBytes"), (53, .class_ 109), (1, u "java/lang/StringLatin1"), (32, u "()Z"), (34, .methodref 42 178), (0, .nameAndType 45 179), (0, u "([CII)[B"), (29, .methodref 10 210), (0, .nameAndType 5 211), (0, u "([BB)V"), (122, u "()I"), (0, .methodref 10 336), (0, .nameAndType 17 337), (0, u "()B"), (31, u "(C)Z"), (122, .methodref 10 493), (0, .nameAndType 494 142), (0, u "isLatin1"), (10, .methodref 10 506), (0, .nameAndType 507 334), (0, u "length"), (5, u "checkFromToIndex"), (9, u "checkBoundsBeginEnd"), (0, u "(III)V"), (50, .class_ 576), (0, u "java/lang/CharSequence"), (22, u "CASE_INSENSITIVE_ORDER"), (0, u "Ljava/util/Comparator;"), (32, .methodref 10 634), (0, .nameAndType 635 636), (0, u "indexOf"), (0, u "(II)I"), (0, .methodref 107 638), (0, .nameAndType 635 639), (0, u "([BIII)I"), (0, .methodref 42 638), (51, u "isEmpty"), (72, u "(I)I"), (16, u "valueOf"), (0, u "(C)Ljava/lang/String;"), (226, u "([C)V"), (4, .methodref 107 1016), (0, .nameAndType 1017 369), (0, u "canEncode"), (0, .methodref 107 1019), (0, .nameAndType 53 1020), (0, u "(C)[B"), (0, .methodref 42 1019), (31, .fieldref 1054 1055), (0, .class_ 1056), (0, .nameAndType 1057 1058), (0, u "jdk/internal/util/Preconditions"), (0, u "SIOOBE_FORMATTER"), (0, u "Ljava/util/function/BiFunction;"), (3, .methodref 1054 1063), (0, .nameAndType 513 1064), (0, u "(IIILjava/util/function/BiFunction;)I"), (36, u "serialPersistentFields"), (0, u "[Ljava/io/ObjectStreamField;"), (0, .class_ 1104), (0, u "java/lang/String$CaseInsensitiveComparator"), (1, .class_ 1107), (0, u "java/io/Serializable"), (0, .class_ 1109), (0, u "java/lang/Comparable"), (0, .class_ 1111), (0, u "java/lang/constant/Constable"), (0, .class_ 1113), (0, u "java/lang/constant/ConstantDesc"), (2, u "serialVersionUID"), (0, u "J"), (3, u "REPL"), (0, u "C"), (2, u "LATIN1"), (1, u "UTF16")] 323

def k7m0 : Method := { name := "<init>", desc := "()V", sig := { parameters := [], returnType := none }, accessFlags := 1, code := none }
def k7c1 : Code := { maxStack := 5, maxLocals := 2, code := jdk_42_method_3_code, exceptionTable := #[], attributes := #[] }
def k7m1 : Method := { name := "<init>", desc := "([C)V", sig := { parameters := [(.array .char)], returnType := none }, accessFlags := 1, code := some k7c1 }
def k7c2 : Code := { maxStack := 2, maxLocals := 1, code := jdk_42_method_54_code, exceptionTable := #[], attributes := #[] }
def k7m2 : Method := { name := "length", desc := "()I", sig := { parameters := [], returnType := some .int }, accessFlags := 1, code := some k7c2 }
def k7c3 : Code := { maxStack := 1, maxLocals := 1, code := jdk_42_method_55_code, exceptionTable := #[], attributes := #[] }
def k7m3 : Method := { name := "isEmpty", desc := "()Z", sig := { parameters := [], returnType := some .boolean }, accessFlags := 1, code := some k7c3 }
def k7c4 : Code := { maxStack := 3, maxLocals := 2, code := jdk_42_method_79_code, exceptionTable := #[], attributes := #[] }
def k7m4 : Method := { name := "indexOf", desc := "(I)I", sig := { parameters := [.int], returnType := some .int }, accessFlags := 1, code := some k7c4 }
def k7c5 : Code := { maxStack := 4, maxLocals := 3, code := jdk_42_method_80_code, exceptionTable := #[], attributes := #[] }
def k7m5 : Method := { name := "indexOf", desc := "(II)I", sig := { parameters := [.int, .int], returnType := some .int }, accessFlags := 1, code := some k7c5 }
def k7c6 : Code := { maxStack := 4, maxLocals := 1, code := jdk_42_method_139_code, exceptionTable := #[], attributes := #[] }
def k7m6 : Method := { name := "valueOf", desc := "(C)Ljava/lang/String;", sig := { parameters := [.char], returnType := some (.object "java/lang/String") }, accessFlags := 9, code := some k7c6 }
def k7c7 : Code := { maxStack := 4, maxLocals := 6, code := jdk_42_method_149_code, exceptionTable := #[], attributes := #[] }
def k7m7 : Method := { name := "<init>", desc := "([CIILjava/lang/Void;)V", sig := { parameters := [(.array .char), .int, .int, (.object "java/lang/Void")], returnType := none }, accessFlags := 2, code := some k7c7 }
def k7c8 : Code := { maxStack := 2, maxLocals := 3, code := jdk_42_method_151_code, exceptionTable := #[], attributes := #[] }
def k7m8 : Method := { name := "<init>", desc := "([BB)V", sig := { parameters := [(.array .byte), .byte], returnType := none }, accessFlags := 0, code := some k7c8 }
def k7c9 : Code := { maxStack := 1, maxLocals := 1, code := jdk_42_method_152_code, exceptionTable := #[], attributes := #[] }
def k7m9 : Method := { name := "coder", desc := "()B", sig := { parameters := [], returnType := some .byte }, accessFlags := 0, code := some k7c9 }
def k7c10 : Code := { maxStack := 1, maxLocals := 1, code := jdk_42_method_154_code, exceptionTable := #[], attributes := #[] }
def k7m10 : Method := { name := "isLatin1", desc := "()Z", sig := { parameters := [], returnType := some .boolean }, accessFlags := 0, code := some k7c10 }
def k7c11 : Code := { maxStack := 4, maxLocals := 3, code := jdk_42_method_158_code, exceptionTable := #[], attributes := #[] }
def k7m11 : Method := { name := "checkBoundsBeginEnd", desc := "(III)V", sig := { parameters := [.int, .int, .int], returnType := none }, accessFlags := 8, code := some k7c11 }
/-- java/lang/String -/
def k7 : Class := { plain "java/lang/String" (some 0) with
  accessFlags := 49
  interfaces := #[2, 3, 4, 5, 6]
  cf := some (fileOf pool7 10 #[.nestMembers #[1103]] #[{ accessFlags := 1, nameIndex := 5, descriptorIndex := 6, attributes := #[] }, { accessFlags := 1, nameIndex := 5, descriptorIndex := 1010, attributes := #[] }, { accessFlags := 1, nameIndex := 507, descriptorIndex := 334, attributes := #[] }, { accessFlags := 1, nameIndex := 692, descriptorIndex := 142, attributes := #[] }, { accessFlags := 1, nameIndex := 635, descriptorIndex := 765, attributes := #[] }, { accessFlags := 1, nameIndex := 635, descriptorIndex := 636, attributes := #[] }, { accessFlags := 9, nameIndex := 782, descriptorIndex := 783, attributes := #[] }, { accessFlags := 2, nameIndex := 5, descriptorIndex := 29, attributes := #[] }, { accessFlags := 0, nameIndex := 5, descriptorIndex := 211, attributes := #[] }, { accessFlags := 0, nameIndex := 17, descriptorIndex := 337, attributes := #[] }, { accessFlags := 0, nameIndex := 494, descriptorIndex := 142, attributes := #[] }, { accessFlags := 8, nameIndex := 523, descriptorIndex := 524, attributes := #[] }] 49 2 #[1106, 1108, 575, 1110, 1112] #[{ accessFlags := 18, nameIndex := 13, descriptorIndex := 14, attributes := #[] }, { accessFlags := 18, nameIndex := 17, descriptorIndex := 18, attributes := #[] }, { accessFlags := 2, nameIndex := 21, descriptorIndex := 22, attributes := #[] }, { accessFlags := 2, nameIndex := 25, descriptorIndex := 26, attributes := #[] }, { accessFlags := 26, nameIndex := 1116, descriptorIndex := 1117, attributes := #[] }, { accessFlags := 24, nameIndex := 40, descriptorIndex := 26, attributes := #[] }, { accessFlags := 26, nameIndex := 1101, descriptorIndex := 1102, attributes := #[] }, { accessFlags := 26, nameIndex := 1121, descriptorIndex := 1122, attributes := #[] }, { accessFlags := 25, nameIndex := 599, descriptorIndex := 600, attributes := #[] }, { accessFlags := 24, nameIndex := 1125, descriptorIndex := 18, attributes := #[] }, { accessFlags := 24, nameIndex := 1127, descriptorIndex := 18, attributes := #[] }])
  fields := #[{ name := "value", type := (.array .byte), accessFlags := 18, slot := 0, constantValue := 0 }, { name := "coder", type := .byte, accessFlags := 18, slot := 1, constantValue := 0 }, { name := "hash", type := .int, accessFlags := 2, slot := 2, constantValue := 0 }, { name := "hashIsZero", type := .boolean, accessFlags := 2, slot := 3, constantValue := 0 }, { name := "serialVersionUID", type := .long, accessFlags := 26, slot := 0, constantValue := 0 }, { name := "COMPACT_STRINGS", type := .boolean, accessFlags := 24, slot := 1, constantValue := 0 }, { name := "serialPersistentFields", type := (.array (.object "java/io/ObjectStreamField")), accessFlags := 26, slot := 2, constantValue := 0 }, { name := "REPL", type := .char, accessFlags := 26, slot := 3, constantValue := 0 }, { name := "CASE_INSENSITIVE_ORDER", type := (.object "java/util/Comparator"), accessFlags := 25, slot := 4, constantValue := 0 }, { name := "LATIN1", type := .byte, accessFlags := 24, slot := 5, constantValue := 0 }, { name := "UTF16", type := .byte, accessFlags := 24, slot := 6, constantValue := 0 }]
  methods := #[k7m0, k7m1, k7m2, k7m3, k7m4, k7m5, k7m6, k7m7, k7m8, k7m9, k7m10, k7m11]
  instanceTypes := #[(.array .byte), .byte, .int, .boolean]
  staticTypes := #[.long, .boolean, (.array (.object "java/io/ObjectStreamField")), .char, (.object "java/util/Comparator"), .byte, .byte]
  resolved := Array.replicate 1451 none
  statics := some 0 }

def pool8 : Array CpInfo := pool [(2, .class_ 4), (1, u "java/lang/Object"), (0, u "<init>"), (0, u "()V"), (16, .class_ 25), (1, u "com/example/tightrope/tightrope/format/TextFormat"), (31, .methodref 58 59), (0, .class_ 60), (0, .nameAndType 61 62), (0, u "java/lang/String"), (0, u "isEmpty"), (0, u "()Z"), (73, .methodref 58 137), (0, .nameAndType 138 139), (0, u "indexOf"), (0, u "(I)I"), (17, u "isWord"), (0, u "(Ljava/lang/String;)Z")] 21

def k8m0 : Method := { name := "<init>", desc := "()V", sig := { parameters := [], returnType := none }, accessFlags := 2, code := none }
def k8c1 : Code := { maxStack := 2, maxLocals := 1, code := prog_27_method_5_code, exceptionTable := #[], attributes := #[] }
def k8m1 : Method := { name := "isWord", desc := "(Ljava/lang/String;)Z", sig := { parameters := [(.object "java/lang/String")], returnType := some .boolean }, accessFlags := 9, code := some k8c1 }
/-- com/example/tightrope/tightrope/format/TextFormat -/
def k8 : Class := { plain "com/example/tightrope/tightrope/format/TextFormat" (some 0) with
  accessFlags := 49
  interfaces := #[]
  cf := some (fileOf pool8 23 #[] #[{ accessFlags := 2, nameIndex := 5, descriptorIndex := 6, attributes := #[] }, { accessFlags := 9, nameIndex := 157, descriptorIndex := 158, attributes := #[] }] 49 2 #[] #[])
  fields := #[]
  methods := #[k8m0, k8m1]
  instanceTypes := #[]
  staticTypes := #[]
  resolved := Array.replicate 180 none
  statics := none }

def pool9 : Array CpInfo := pool [(3, .class_ 4), (0, u "java/lang/String"), (1, .class_ 8), (1, u "java/lang/Object"), (0, u "<init>"), (0, u "()V"), (0, .methodref 12 13), (0, .class_ 14), (0, .nameAndType 15 16), (0, u "java/lang/StringUTF16"), (0, u "newBytesLength"), (0, u "(I)I"), (3, .integer 1073741823), (23, .fieldref 12 45), (0, .nameAndType 46 47), (0, u "$assertionsDisabled"), (0, u "Z"), (0, .methodref 12 49), (0, .nameAndType 50 51), (0, u "length"), (0, u "([B)I"), (7, .fieldref 12 60), (0, .nameAndType 61 62), (0, u "HI_BYTE_SHIFT"), (0, u "I"), (0, .fieldref 12 64), (0, .nameAndType 65 62), (0, u "LO_BYTE_SHIFT"), (5, .methodref 12 72), (0, .nameAndType 73 74), (0, u "getChar"), (0, u "([BI)C"), (21, .methodref 12 97), (0, .nameAndType 98 99), (0, u "checkBoundsBeginEnd"), (0, u "(II[B)V"), (7, .methodref 12 108), (0, .nameAndType 109 110), (0, u "newBytesFor"), (0, u "(I)[B"), (0, .methodref 12 112), (0, .nameAndType 113 114), (0, u "putChar"), (0, u "([BII)V"), (0, .methodref 12 116), (0, .nameAndType 117 118), (0, u "compress"), (0, u "([CI[BII)I"), (0, .methodref 12 120), (0, .nameAndType 121 122), (0, u "toBytes"), (0, u "([CII)[B"), (60, .methodref 184 185), (0, .class_ 186), (0, .nameAndType 187 188), (0, u "java/lang/Math"), (0, u "min"), (0, u "(II)I"), (35, .methodref 184 225), (0, .nameAndType 226 188), (0, u "max"), (0, .integer 65536), (0, .methodref 12 229), (0, .nameAndType 230 231), (0, u "indexOfChar"), (0, u "([BIII)I"), (9, .methodref 3 242), (0, .nameAndType 98 243), (0, u "(III)V"), (0, .methodref 12 245), (0, .nameAndType 246 231), (0, u "indexOfCharUnsafe"), (14, u "coderFromArrayLen"), (0, u "([BI)B"), (5, u "indexOf"), (100, .class_ 371), (1, u "java/lang/StringUTF16$LinesSpliterator"), (58, u "MAX_LENGTH"), (44, u "(C)[B"), (151, .class_ 628), (0, u "java/lang/StringUTF16$CodePointsSpliterator"), (0, .class_ 630), (0, u "java/lang/StringUTF16$CharsSpliterator")] 4

def k9m0 : Method := { name := "<init>", desc := "()V", sig := { parameters := [], returnType := none }, accessFlags := 0, code := none }
def k9c1 : Code := { maxStack := 1, maxLocals := 1, code := jdk_52_method_2_code, exceptionTable := #[], attributes := #[] }
def k9m1 : Method := { name := "newBytesFor", desc := "(I)[B", sig := { parameters := [.int], returnType := some (.array .byte) }, accessFlags := 9, code := some k9c1 }
def k9c2 : Code := { maxStack := 4, maxLocals := 1, code := jdk_52_method_3_code, exceptionTable := #[], attributes := #[] }
def k9m2 : Method := { name := "newBytesLength", desc := "(I)I", sig := { parameters := [.int], returnType := some .int }, accessFlags := 9, code := some k9c2 }
def k9c3 : Code := { maxStack := 4, maxLocals := 3, code := jdk_52_method_4_code, exceptionTable := #[], attributes := #[] }
def k9m3 : Method := { name := "putChar", desc := "([BII)V", sig := { parameters := [(.array .byte), .int, .int], returnType := none }, accessFlags := 8, code := some k9c3 }
def k9c4 : Code := { maxStack := 3, maxLocals := 2, code := jdk_52_method_5_code, exceptionTable := #[], attributes := #[] }
def k9m4 : Method := { name := "getChar", desc := "([BI)C", sig := { parameters := [(.array .byte), .int], returnType := some .char }, accessFlags := 8, code := some k9c4 }
def k9c5 : Code := { maxStack := 2, maxLocals := 1, code := jdk_52_method_6_code, exceptionTable := #[], attributes := #[] }
def k9m5 : Method := { name := "length", desc := "([B)I", sig := { parameters := [(.array .byte)], returnType := some .int }, accessFlags := 9, code := some k9c5 }
def k9c6 : Code := { maxStack := 4, maxLocals := 5, code := jdk_52_method_14_code, exceptionTable := #[], attributes := #[] }
def k9m6 : Method := { name := "toBytes", desc := "([CII)[B", sig := { parameters := [(.array .char), .int, .int], returnType := some (.array .byte) }, accessFlags := 9, code := some k9c6 }
def k9c7 : Code := { maxStack := 2, maxLocals := 2, code := jdk_52_method_15_code, exceptionTable := #[], attributes := #[] }
def k9m7 : Method := { name := "coderFromArrayLen", desc := "([BI)B", sig := { parameters := [(.array .byte), .int], returnType := some .byte }, accessFlags := 8, code := some k9c7 }
def k9c8 : Code := { maxStack := 5, maxLocals := 6, code := jdk_52_method_16_code, exceptionTable := #[], attributes := #[] }
def k9m8 : Method := { name := "compress", desc := "([CII)[B", sig := { parameters := [(.array .char), .int, .int], returnType := some (.array .byte) }, accessFlags := 9, code := some k9c8 }
def k9c9 : Code := { maxStack := 3, maxLocals := 7, code := jdk_52_method_21_code, exceptionTable := #[], attributes := #[] }
def k9m9 : Method := { name := "compress", desc := "([CI[BII)I", sig := { parameters := [(.array .char), .int, (.array .byte), .int, .int], returnType := some .int }, accessFlags := 9, code := some k9c9 }
def k9c10 : Code := { maxStack := 3, maxLocals := 2, code := jdk_52_method_24_code, exceptionTable := #[], attributes := #[] }
def k9m10 : Method := { name := "toBytes", desc := "(C)[B", sig := { parameters := [.char], returnType := some (.array .byte) }, accessFlags := 9, code := some k9c10 }
def k9c11 : Code := { maxStack := 4, maxLocals := 4, code := jdk_52_method_40_code, exceptionTable := #[], attributes := #[] }
def k9m11 : Method := { name := "indexOf", desc := "([BIII)I", sig := { parameters := [(.array .byte), .int, .int, .int], returnType := some .int }, accessFlags := 9, code := some k9c11 }
def k9c12 : Code := { maxStack := 4, maxLocals := 4, code := jdk_52_method_47_code, exceptionTable := #[], attributes := #[] }
def k9m12 : Method := { name := "indexOfChar", desc := "([BIII)I", sig := { parameters := [(.array .byte), .int, .int, .int], returnType := some .int }, accessFlags := 10, code := some k9c12 }
def k9c13 : Code := { maxStack := 2, maxLocals := 5, code := jdk_52_method_48_code, exceptionTable := #[], attributes := #[] }
def k9m13 : Method := { name := "indexOfCharUnsafe", desc := "([BIII)I", sig := { parameters := [(.array .byte), .int, .int, .int], returnType := some .int }, accessFlags := 10, code := some k9c13 }
def k9c14 : Code := { maxStack := 3, maxLocals := 3, code := jdk_52_method_93_code, exceptionTable := #[], attributes := #[] }
def k9m14 : Method := { name := "checkBoundsBeginEnd", desc := "(II[B)V", sig := { parameters := [.int, .int, (.array .byte)], returnType := none }, accessFlags := 9, code := some k9c14 }
/-- java/lang/StringUTF16 -/
def k9 : Class := { plain "java/lang/StringUTF16" (some 0) with
  accessFlags := 48
  interfaces := #[]
  cf := some (fileOf pool9 12 #[.nestMembers #[627, 629, 369]] #[{ accessFlags := 0, nameIndex := 9, descriptorIndex := 10, attributes := #[] }, { accessFlags := 9, nameIndex := 109, descriptorIndex := 110, attributes := #[] }, { accessFlags := 9, nameIndex := 15, descriptorIndex := 16, attributes := #[] }, { accessFlags := 8, nameIndex := 113, descriptorIndex := 114, attributes := #[] }, { accessFlags := 8, nameIndex := 73, descriptorIndex := 74, attributes := #[] }, { accessFlags := 9, nameIndex := 50, descriptorIndex := 51, attributes := #[] }, { accessFlags := 9, nameIndex := 121, descriptorIndex := 122, attributes := #[] }, { accessFlags := 8, nameIndex := 261, descriptorIndex := 262, attributes := #[] }, { accessFlags := 9, nameIndex := 117, descriptorIndex := 122, attributes := #[] }, { accessFlags := 9, nameIndex := 117, descriptorIndex := 118, attributes := #[] }, { accessFlags := 9, nameIndex := 121, descriptorIndex := 475, attributes := #[] }, { accessFlags := 9, nameIndex := 268, descriptorIndex := 231, attributes := #[] }, { accessFlags := 10, nameIndex := 230, descriptorIndex := 231, attributes := #[] }, { accessFlags := 10, nameIndex := 246, descriptorIndex := 231, attributes := #[] }, { accessFlags := 9, nameIndex := 98, descriptorIndex := 99, attributes := #[] }] 48 6 #[] #[{ accessFlags := 26, nameIndex := 61, descriptorIndex := 62, attributes := #[] }, { accessFlags := 26, nameIndex := 65, descriptorIndex := 62, attributes := #[] }, { accessFlags := 24, nameIndex := 430, descriptorIndex := 62, attributes := #[] }, { accessFlags := 4120, nameIndex := 46, descriptorIndex := 47, attributes := #[] }])
  fields := #[{ name := "HI_BYTE_SHIFT", type := .int, accessFlags := 26, slot := 0, constantValue := 0 }, { name := "LO_BYTE_SHIFT", type := .int, accessFlags := 26, slot := 1, constantValue := 0 }, { name := "MAX_LENGTH", type := .int, accessFlags := 24, slot := 2, constantValue := 0 }, { name := "$assertionsDisabled", type := .boolean, accessFlags := 4120, slot := 3, constantValue := 0 }]
  methods := #[k9m0, k9m1, k9m2, k9m3, k9m4, k9m5, k9m6, k9m7, k9m8, k9m9, k9m10, k9m11, k9m12, k9m13, k9m14]
  instanceTypes := #[]
  staticTypes := #[.int, .int, .int, .boolean]
  resolved := Array.replicate 635 none
  statics := some 1 }

def pool10 : Array CpInfo := pool [(4, .class_ 6), (1, u "java/lang/Object"), (0, u "<init>"), (0, u "()V"), (5, .class_ 16), (1, u "java/lang/StringLatin1"), (21, .methodref 39 40), (0, .class_ 41), (0, .nameAndType 42 43), (0, u "java/lang/Math"), (0, u "min"), (0, u "(II)I"), (44, .methodref 14 89), (0, .nameAndType 90 91), (0, u "canEncode"), (0, u "(I)Z"), (0, .methodref 39 93), (0, .nameAndType 94 43), (0, u "max"), (0, .methodref 14 96), (0, .nameAndType 97 98), (0, u "indexOfChar"), (0, u "([BIII)I"), (2, u "indexOf"), (3, u "(C)Z"), (15, u "$assertionsDisabled"), (0, u "Z"), (98, .class_ 223), (1, u "java/lang/StringLatin1$LinesSpliterator"), (156, u "toBytes"), (1, u "(C)[B"), (7, .class_ 391), (0, u "java/lang/StringLatin1$CharsSpliterator")] 3

def k10m0 : Method := { name := "<init>", desc := "()V", sig := { parameters := [], returnType := none }, accessFlags := 0, code := none }
def k10c1 : Code := { maxStack := 2, maxLocals := 1, code := jdk_43_method_3_code, exceptionTable := #[], attributes := #[] }
def k10m1 : Method := { name := "canEncode", desc := "(C)Z", sig := { parameters := [.char], returnType := some .boolean }, accessFlags := 9, code := some k10c1 }
def k10c2 : Code := { maxStack := 2, maxLocals := 1, code := jdk_43_method_4_code, exceptionTable := #[], attributes := #[] }
def k10m2 : Method := { name := "canEncode", desc := "(I)Z", sig := { parameters := [.int], returnType := some .boolean }, accessFlags := 9, code := some k10c2 }
def k10c3 : Code := { maxStack := 4, maxLocals := 4, code := jdk_43_method_22_code, exceptionTable := #[], attributes := #[] }
def k10m3 : Method := { name := "indexOf", desc := "([BIII)I", sig := { parameters := [(.array .byte), .int, .int, .int], returnType := some .int }, accessFlags := 9, code := some k10c3 }
def k10c4 : Code := { maxStack := 2, maxLocals := 6, code := jdk_43_method_23_code, exceptionTable := #[], attributes := #[] }
def k10m4 : Method := { name := "indexOfChar", desc := "([BIII)I", sig := { parameters := [(.array .byte), .int, .int, .int], returnType := some .int }, accessFlags := 10, code := some k10c4 }
def k10c5 : Code := { maxStack := 4, maxLocals := 1, code := jdk_43_method_46_code, exceptionTable := #[], attributes := #[] }
def k10m5 : Method := { name := "toBytes", desc := "(C)[B", sig := { parameters := [.char], returnType := some (.array .byte) }, accessFlags := 9, code := some k10c5 }
/-- java/lang/StringLatin1 -/
def k10 : Class := { plain "java/lang/StringLatin1" (some 0) with
  accessFlags := 48
  interfaces := #[]
  cf := some (fileOf pool10 14 #[.nestMembers #[390, 221]] #[{ accessFlags := 0, nameIndex := 7, descriptorIndex := 8, attributes := #[] }, { accessFlags := 9, nameIndex := 90, descriptorIndex := 105, attributes := #[] }, { accessFlags := 9, nameIndex := 90, descriptorIndex := 91, attributes := #[] }, { accessFlags := 9, nameIndex := 101, descriptorIndex := 98, attributes := #[] }, { accessFlags := 10, nameIndex := 97, descriptorIndex := 98, attributes := #[] }, { accessFlags := 9, nameIndex := 380, descriptorIndex := 382, attributes := #[] }] 48 4 #[] #[{ accessFlags := 4120, nameIndex := 121, descriptorIndex := 122, attributes := #[] }])
  fields := #[{ name := "$assertionsDisabled", type := .boolean, accessFlags := 4120, slot := 0, constantValue := 0 }]
  methods := #[k10m0, k10m1, k10m2, k10m3, k10m4, k10m5]
  instanceTypes := #[]
  staticTypes := #[.boolean]
  resolved := Array.replicate 395 none
  statics := none }

def pool11 : Array CpInfo := pool [(1, .class_ 2), (0, u "java/lang/Math"), (1, .class_ 6), (1, u "java/lang/Object"), (0, u "<init>"), (0, u "()V"), (89, .class_ 100), (1, u "java/lang/Math$RandomNumberGeneratorHolder"), (71, u "negativeZeroFloatBits"), (0, u "J"), (2, u "negativeZeroDoubleBits"), (21, u "max"), (2, u "min"), (43, u "$assertionsDisabled"), (0, u "Z"), (88, u "(II)I"), (2, u "twoToTheDoubleScaleDown"), (0, u "D"), (4, u "twoToTheDoubleScaleUp"), (9, u "E"), (3, u "PI"), (2, u "TAU"), (2, u "DEGREES_TO_RADIANS"), (0, u "RADIANS_TO_DEGREES")] 94

def k11m0 : Method := { name := "<init>", desc := "()V", sig := { parameters := [], returnType := none }, accessFlags := 2, code := none }
def k11c1 : Code := { maxStack := 2, maxLocals := 2, code := jdk_29_method_65_code, exceptionTable := #[], attributes := #[] }
def k11m1 : Method := { name := "max", desc := "(II)I", sig := { parameters := [.int, .int], returnType := some .int }, accessFlags := 9, code := some k11c1 }
def k11c2 : Code := { maxStack := 2, maxLocals := 2, code := jdk_29_method_69_code, exceptionTable := #[], attributes := #[] }
def k11m2 : Method := { name := "min", desc := "(II)I", sig := { parameters := [.int, .int], returnType := some .int }, accessFlags := 9, code := some k11c2 }
/-- java/lang/Math -/
def k11 : Class := { plain "java/lang/Math" (some 0) with
  accessFlags := 49
  interfaces := #[]
  cf := some (fileOf pool11 1 #[.nestMembers #[98]] #[{ accessFlags := 2, nameIndex := 7, descriptorIndex := 8, attributes := #[] }, { accessFlags := 9, nameIndex := 198, descriptorIndex := 335, attributes := #[] }, { accessFlags := 9, nameIndex := 201, descriptorIndex := 335, attributes := #[] }] 49 4 #[] #[{ accessFlags := 25, nameIndex := 354, descriptorIndex := 339, attributes := #[] }, { accessFlags := 25, nameIndex := 358, descriptorIndex := 339, attributes := #[] }, { accessFlags := 25, nameIndex := 361, descriptorIndex := 339, attributes := #[] }, { accessFlags := 26, nameIndex := 364, descriptorIndex := 339, attributes := #[] }, { accessFlags := 26, nameIndex := 365, descriptorIndex := 339, attributes := #[] }, { accessFlags := 26, nameIndex := 172, descriptorIndex := 173, attributes := #[] }, { accessFlags := 26, nameIndex := 176, descriptorIndex := 173, attributes := #[] }, { accessFlags := 8, nameIndex := 344, descriptorIndex := 339, attributes := #[] }, { accessFlags := 8, nameIndex := 338, descriptorIndex := 339, attributes := #[] }, { accessFlags := 4120, nameIndex := 245, descriptorIndex := 246, attributes := #[] }])
  fields := #[{ name := "E", type := .double, accessFlags := 25, slot := 0, constantValue := 0 }, { name := "PI", type := .double, accessFlags := 25, slot := 1, constantValue := 0 }, { name := "TAU", type := .double, accessFlags := 25, slot := 2, constantValue := 0 }, { name := "DEGREES_TO_RADIANS", type := .double, accessFlags := 26, slot := 3, constantValue := 0 }, { name := "RADIANS_TO_DEGREES", type := .double, accessFlags := 26, slot := 4, constantValue := 0 }, { name := "negativeZeroFloatBits", type := .long, accessFlags := 26, slot := 5, constantValue := 0 }, { name := "negativeZeroDoubleBits", type := .long, accessFlags := 26, slot := 6, constantValue := 0 }, { name := "twoToTheDoubleScaleUp", type := .double, accessFlags := 8, slot := 7, constantValue := 0 }, { name := "twoToTheDoubleScaleDown", type := .double, accessFlags := 8, slot := 8, constantValue := 0 }, { name := "$assertionsDisabled", type := .boolean, accessFlags := 4120, slot := 9, constantValue := 0 }]
  methods := #[k11m0, k11m1, k11m2]
  instanceTypes := #[]
  staticTypes := #[.double, .double, .double, .double, .double, .long, .long, .double, .double, .boolean]
  resolved := Array.replicate 460 none
  statics := none }

def pool12 : Array CpInfo := pool [(2, .class_ 4), (1, u "java/lang/Object"), (0, u "<init>"), (0, u "()V"), (17, .class_ 26), (1, u "jdk/internal/util/Preconditions"), (20, u "checkFromToIndex"), (7, .class_ 56), (0, u "jdk/internal/util/Preconditions$4"), (57, .class_ 115), (0, u "jdk/internal/util/Preconditions$1"), (7, u "SIOOBE_FORMATTER"), (0, u "Ljava/util/function/BiFunction;"), (0, .class_ 126), (0, u "jdk/internal/util/Preconditions$2"), (3, u "AIOOBE_FORMATTER"), (0, .class_ 132), (0, u "jdk/internal/util/Preconditions$3"), (3, u "IOOBE_FORMATTER"), (46, u "(IIILjava/util/function/BiFunction;)I")] 10

def k12m0 : Method := { name := "<init>", desc := "()V", sig := { parameters := [], returnType := none }, accessFlags := 1, code := none }
def k12c1 : Code := { maxStack := 4, maxLocals := 4, code := jdk_41_method_12_code, exceptionTable := #[], attributes := #[] }
def k12m1 : Method := { name := "checkFromToIndex", desc := "(IIILjava/util/function/BiFunction;)I", sig := { parameters := [.int, .int, .int, (.object "java/util/function/BiFunction")], returnType := some .int }, accessFlags := 9, code := some k12c1 }
/-- jdk/internal/util/Preconditions -/
def k12 : Class := { plain "jdk/internal/util/Preconditions" (some 0) with
  accessFlags := 33
  interfaces := #[]
  cf := some (fileOf pool12 24 #[.nestMembers #[55, 131, 125, 114]] #[{ accessFlags := 1, nameIndex := 5, descriptorIndex := 6, attributes := #[] }, { accessFlags := 9, nameIndex := 47, descriptorIndex := 183, attributes := #[] }] 33 2 #[] #[{ accessFlags := 25, nameIndex := 123, descriptorIndex := 124, attributes := #[] }, { accessFlags := 25, nameIndex := 130, descriptorIndex := 124, attributes := #[] }, { accessFlags := 25, nameIndex := 136, descriptorIndex := 124, attributes := #[] }])
  fields := #[{ name := "SIOOBE_FORMATTER", type := (.object "java/util/function/BiFunction"), accessFlags := 25, slot := 0, constantValue := 0 }, { name := "AIOOBE_FORMATTER", type := (.object "java/util/function/BiFunction"), accessFlags := 25, slot := 1, constantValue := 0 }, { name := "IOOBE_FORMATTER", type := (.object "java/util/function/BiFunction"), accessFlags := 25, slot := 2, constantValue := 0 }]
  methods := #[k12m0, k12m1]
  instanceTypes := #[]
  staticTypes := #[(.object "java/util/function/BiFunction"), (.object "java/util/function/BiFunction"), (.object "java/util/function/BiFunction")]
  resolved := Array.replicate 194 none
  statics := some 2 }

def pool13 : Array CpInfo := pool [(9, u "<init>"), (6, .class_ 18), (1, u "java/lang/Object"), (0, u "()V"), (1, .class_ 23), (1, u "jdk/internal/util/ArraysSupport"), (0, u "LOG2_ARRAY_LONG_INDEX_SCALE"), (0, u "I"), (2, u "U"), (0, u "Ljdk/internal/misc/Unsafe;"), (8, u "BIG_ENDIAN"), (0, u "Z"), (8, u "LOG2_BYTE_BIT_SIZE"), (4, u "LOG2_ARRAY_INT_INDEX_SCALE"), (54, u "JLA"), (0, u "Ljdk/internal/access/JavaLangAccess;"), (11, u "LOG2_ARRAY_BOOLEAN_INDEX_SCALE"), (9, u "LOG2_ARRAY_BYTE_INDEX_SCALE"), (5, u "LOG2_ARRAY_CHAR_INDEX_SCALE"), (5, u "LOG2_ARRAY_SHORT_INDEX_SCALE"), (18, u "LOG2_ARRAY_FLOAT_INDEX_SCALE"), (24, u "LOG2_ARRAY_DOUBLE_INDEX_SCALE"), (89, u "T_BOOLEAN"), (2, u "T_CHAR"), (1, u "T_FLOAT"), (1, u "T_DOUBLE"), (1, u "T_BYTE"), (1, u "T_SHORT"), (1, u "T_INT"), (1, u "T_LONG"), (1, u "SOFT_MAX_ARRAY_LENGTH")] 83

def k13m0 : Method := { name := "<init>", desc := "()V", sig := { parameters := [], returnType := none }, accessFlags := 2, code := none }
/-- jdk/internal/util/ArraysSupport -/
def k13 : Class := { plain "jdk/internal/util/ArraysSupport" (some 0) with
  accessFlags := 33
  interfaces := #[]
  cf := some (fileOf pool13 21 #[] #[{ accessFlags := 2, nameIndex := 9, descriptorIndex := 19, attributes := #[] }] 33 16 #[] #[{ accessFlags := 24, nameIndex := 28, descriptorIndex := 29, attributes := #[] }, { accessFlags := 26, nameIndex := 38, descriptorIndex := 39, attributes := #[] }, { accessFlags := 25, nameIndex := 121, descriptorIndex := 25, attributes := #[] }, { accessFlags := 25, nameIndex := 131, descriptorIndex := 25, attributes := #[] }, { accessFlags := 25, nameIndex := 137, descriptorIndex := 25, attributes := #[] }, { accessFlags := 25, nameIndex := 143, descriptorIndex := 25, attributes := #[] }, { accessFlags := 25, nameIndex := 53, descriptorIndex := 25, attributes := #[] }, { accessFlags := 25, nameIndex := 24, descriptorIndex := 25, attributes := #[] }, { accessFlags := 25, nameIndex := 162, descriptorIndex := 25, attributes := #[] }, { accessFlags := 25, nameIndex := 187, descriptorIndex := 25, attributes := #[] }, { accessFlags := 26, nameIndex := 48, descriptorIndex := 25, attributes := #[] }, { accessFlags := 25, nameIndex := 277, descriptorIndex := 25, attributes := #[] }, { accessFlags := 25, nameIndex := 280, descriptorIndex := 25, attributes := #[] }, { accessFlags := 25, nameIndex := 282, descriptorIndex := 25, attributes := #[] }, { accessFlags := 25, nameIndex := 284, descriptorIndex := 25, attributes := #[] }, { accessFlags := 25, nameIndex := 286, descriptorIndex := 25, attributes := #[] }, { accessFlags := 25, nameIndex := 288, descriptorIndex := 25, attributes := #[] }, { accessFlags := 25, nameIndex := 290, descriptorIndex := 25, attributes := #[] }, { accessFlags := 25, nameIndex := 292, descriptorIndex := 25, attributes := #[] }, { accessFlags := 26, nameIndex := 108, descriptorIndex := 109, attributes := #[] }, { accessFlags := 25, nameIndex := 294, descriptorIndex := 25, attributes := #[] }])
  fields := #[{ name := "U", type := (.object "jdk/internal/misc/Unsafe"), accessFlags := 24, slot := 0, constantValue := 0 }, { name := "BIG_ENDIAN", type := .boolean, accessFlags := 26, slot := 1, constantValue := 0 }, { name := "LOG2_ARRAY_BOOLEAN_INDEX_SCALE", type := .int, accessFlags := 25, slot := 2, constantValue := 0 }, { name := "LOG2_ARRAY_BYTE_INDEX_SCALE", type := .int, accessFlags := 25, slot := 3, constantValue := 0 }, { name := "LOG2_ARRAY_CHAR_INDEX_SCALE", type := .int, accessFlags := 25, slot := 4, constantValue := 0 }, { name := "LOG2_ARRAY_SHORT_INDEX_SCALE", type := .int, accessFlags := 25, slot := 5, constantValue := 0 }, { name := "LOG2_ARRAY_INT_INDEX_SCALE", type := .int, accessFlags := 25, slot := 6, constantValue := 0 }, { name := "LOG2_ARRAY_LONG_INDEX_SCALE", type := .int, accessFlags := 25, slot := 7, constantValue := 0 }, { name := "LOG2_ARRAY_FLOAT_INDEX_SCALE", type := .int, accessFlags := 25, slot := 8, constantValue := 0 }, { name := "LOG2_ARRAY_DOUBLE_INDEX_SCALE", type := .int, accessFlags := 25, slot := 9, constantValue := 0 }, { name := "LOG2_BYTE_BIT_SIZE", type := .int, accessFlags := 26, slot := 10, constantValue := 0 }, { name := "T_BOOLEAN", type := .int, accessFlags := 25, slot := 11, constantValue := 0 }, { name := "T_CHAR", type := .int, accessFlags := 25, slot := 12, constantValue := 0 }, { name := "T_FLOAT", type := .int, accessFlags := 25, slot := 13, constantValue := 0 }, { name := "T_DOUBLE", type := .int, accessFlags := 25, slot := 14, constantValue := 0 }, { name := "T_BYTE", type := .int, accessFlags := 25, slot := 15, constantValue := 0 }, { name := "T_SHORT", type := .int, accessFlags := 25, slot := 16, constantValue := 0 }, { name := "T_INT", type := .int, accessFlags := 25, slot := 17, constantValue := 0 }, { name := "T_LONG", type := .int, accessFlags := 25, slot := 18, constantValue := 0 }, { name := "JLA", type := (.object "jdk/internal/access/JavaLangAccess"), accessFlags := 26, slot := 19, constantValue := 0 }, { name := "SOFT_MAX_ARRAY_LENGTH", type := .int, accessFlags := 25, slot := 20, constantValue := 0 }]
  methods := #[k13m0]
  instanceTypes := #[]
  staticTypes := #[(.object "jdk/internal/misc/Unsafe"), .boolean, .int, .int, .int, .int, .int, .int, .int, .int, .int, .int, .int, .int, .int, .int, .int, .int, .int, (.object "jdk/internal/access/JavaLangAccess"), .int]
  resolved := Array.replicate 378 none
  statics := none }

def pool14 : Array CpInfo := pool [(1, u "java/lang/Cloneable"), (0, .class_ 1), (0, u "java/lang/Object"), (0, .class_ 3)] 3

/-- java/lang/Cloneable -/
def k14 : Class := { plain "java/lang/Cloneable" (some 0) with
  accessFlags := 1537
  interfaces := #[]
  cf := some (fileOf pool14 2 #[] #[] 1537 4 #[] #[])
  fields := #[]
  methods := #[]
  instanceTypes := #[]
  staticTypes := #[]
  resolved := Array.replicate 8 none
  statics := none }

/-- the primitive byte -/
def k15 : Class := { plain "byte" none with kind := .primitive 'B', accessFlags := 0x411 }
/-- [B -/
def k16 : Class := { plain "[B" (some 0) with kind := .array 15 .byte, interfaces := #[14, 2], accessFlags := 1041 }

/-- the primitive char -/
def k17 : Class := { plain "char" none with kind := .primitive 'C', accessFlags := 0x411 }
/-- [C -/
def k18 : Class := { plain "[C" (some 0) with kind := .array 17 .char, interfaces := #[14, 2], accessFlags := 1041 }

/-- the primitive int -/
def k19 : Class := { plain "int" none with kind := .primitive 'I', accessFlags := 0x411 }
/-- [I -/
def k20 : Class := { plain "[I" (some 0) with kind := .array 19 .int, interfaces := #[14, 2], accessFlags := 1041 }

def heap : Heap := #[{ cls := 7, slots := #[.long 0, .int 1, .null, .int 0, .null, .int 0, .int 0], vm := .statics 7 },
  { cls := 9, slots := #[.int 0, .int 8, .int 0, .int 1], vm := .statics 9 },
  { cls := 12, slots := #[.null, .null, .null], vm := .statics 12 }]
def classes : Array Class := #[k0, k1, k2, k3, k4, k5, k6, k7, k8, k9, k10, k11, k12, k13, k14, k15, k16, k17, k18, k19, k20]
def interned : List (Array UInt16 × Addr) := []
def slotsUsed : Nat := 14
def theMethod : MethodId := ⟨1, 1⟩
def args0 : Array Value := #[.int 2, .int 65, .int 66, .int 67, .int 68]
def aboutOver (below : List Frame) : State where
  vm := { classes := classes, interned := interned.toArray }
  heap := heap
  slotsUsed := slotsUsed
  threads := #[{ frames := .invoking theMethod args0 :: below }]
def below0 : List Frame := [.native { method := ⟨0, 0⟩, args := #[] }]
def about1 : State := aboutOver below0
def p0 : Program := .bare "" "" ""
def e0 : Env := launch0.env 0 0 0
theorem w_frames : about1.frames = Frame.invoking theMethod args0 :: below0 := rfl
set_option maxRecDepth 65536 in
theorem w_args : argsFit about1.vm theMethod args0 = true := by decide +kernel
set_option maxRecDepth 65536 in
theorem w_heap : heapFits about1 = true := by decide +kernel
set_option maxRecDepth 65536 in
theorem w_runnable : about1.curStatus? = some .runnable := by decide +kernel
set_option maxRecDepth 65536 in
theorem w_alone : about1.alone = true := by decide +kernel
set_option maxRecDepth 65536 in
theorem w_named : about1.methodNamed? x = some theMethod := by decide +kernel
set_option maxRecDepth 65536 in
theorem w_hears : about1.hears theMethod below0 = true := by decide +kernel
set_option maxRecDepth 65536 in
theorem w_ripe : about1.ripe theMethod args0 below0 = true := by decide +kernel
theorem w_running : about1.status = .running := rfl
set_option maxRecDepth 65536 in
theorem w_room : about1.hasRoom e0.platform room_1 = true :=
  launch0.hasRoom_least _ room_1 (by decide +kernel) (by decide +kernel) (by decide +kernel) (by decide +kernel) (by decide +kernel) (by decide +kernel)
theorem allAtoms_all (ts : List Jvm.Cond) (a : Array Jvm.Value) (st : Jvm.State) : (allAtoms ts).before a st = ts.all (fun c => c.before a st) := by
  induction ts with
  | nil => rfl
  | cons c t ih =>
    show (Jvm.Cond.and c (allAtoms t)).before a st = _
    rw [Jvm.Cond.before_and, ih, List.all_cons]
def words1 : List Jvm.Cond := Jvm.Cond.code x code maxLocals ret :: tables_1
/-- a 'code' word, met by the world's own term for the bytes: nothing is compared byte by byte -/
theorem code_word {y : MethodName} {bytes : ByteArray} {mx : Nat} {rt : Option FieldType} {a : Array Value} {s : State} {m : MethodId} {meth : Method} {c : Code} (h1 : s.methodNamed? y = some m) (h2 : s.vm.method? m = some meth) (h3 : meth.code = some c) (h4 : c.code = bytes)
    (h5 : (c.maxLocals == mx && c.exceptionTable.isEmpty && decide (c.maxStack ≤ mostOperands) && decide (meth.sig.returnType = rt) && !meth.locks && decide (parseMethodDescriptor y.desc = some meth.sig)) = true) : (Jvm.Cond.code y bytes mx rt).before a s = true := by
  simp only [Bool.and_eq_true, beq_iff_eq, Bool.not_eq_true', decide_eq_true_eq] at h5
  obtain ⟨⟨⟨⟨⟨g1, g2⟩, g3⟩, g4⟩, g5⟩, g6⟩ := h5
  simp [Cond.before, Cond.holds, Cond.value, h1, h2, h3, h4, g1, g2, g3, g4, g5, g6]
def isCode : Jvm.Cond → Bool
  | .code _ _ _ _ => true
  | _ => false
theorem all_split {L : List Jvm.Cond} {P : Jvm.Cond → Bool} (h1 : L.all (fun c => isCode c || P c) = true) (h2 : ∀ c ∈ L.filter isCode, P c = true) : L.all P = true := by
  refine List.all_eq_true.mpr fun c hc => ?_
  have h := List.all_eq_true.mp h1 c hc
  rcases Bool.eq_false_or_eq_true (isCode c) with hi | hi
  · exact h2 c (List.mem_filter.mpr ⟨hc, hi⟩)
  · simpa [hi] using h
set_option maxRecDepth 65536 in
theorem w_c0 : (Jvm.Cond.code x code maxLocals ret).before args0 about1 = true := code_word (m := ⟨1, 1⟩) (meth := k1m1) (c := k1c1) (by decide +kernel) rfl rfl rfl (by decide +kernel)
set_option maxRecDepth 65536 in
theorem w_c1 : (Jvm.Cond.code ({ cls := "com/example/tightrope/tightrope/format/TextFormatIsWordPinLaw", name := "make", desc := "(ICCCC)Ljava/lang/String;" } : Jvm.MethodName) method_3_code (5 : Nat) (Option.some (Jvm.ClassFile.FieldType.object "java/lang/String"))).before args0 about1 = true := code_word (m := ⟨1, 2⟩) (meth := k1m2) (c := k1c2) (by decide +kernel) rfl rfl rfl (by decide +kernel)
set_option maxRecDepth 65536 in
theorem w_c2 : (Jvm.Cond.code ({ cls := "java/lang/String", name := "<init>", desc := "([C)V" } : Jvm.MethodName) jdk_42_method_3_code (2 : Nat) (Option.none : Option Jvm.ClassFile.FieldType)).before args0 about1 = true := code_word (m := ⟨7, 1⟩) (meth := k7m1) (c := k7c1) (by decide +kernel) rfl rfl rfl (by decide +kernel)
set_option maxRecDepth 65536 in
theorem w_c3 : (Jvm.Cond.code ({ cls := "java/lang/String", name := "<init>", desc := "([CIILjava/lang/Void;)V" } : Jvm.MethodName) jdk_42_method_149_code (6 : Nat) (Option.none : Option Jvm.ClassFile.FieldType)).before args0 about1 = true := code_word (m := ⟨7, 7⟩) (meth := k7m7) (c := k7c7) (by decide +kernel) rfl rfl rfl (by decide +kernel)
set_option maxRecDepth 65536 in
theorem w_c4 : (Jvm.Cond.code ({ cls := "java/lang/Object", name := "<init>", desc := "()V" } : Jvm.MethodName) object_method_1_code (1 : Nat) (Option.none : Option Jvm.ClassFile.FieldType)).before args0 about1 = true := code_word (m := ⟨0, 0⟩) (meth := k0m0) (c := k0c0) (by decide +kernel) rfl rfl rfl (by decide +kernel)
set_option maxRecDepth 65536 in
theorem w_c5 : (Jvm.Cond.code ({ cls := "java/lang/String", name := "length", desc := "()I" } : Jvm.MethodName) jdk_42_method_54_code (1 : Nat) (Option.some Jvm.ClassFile.FieldType.int)).before args0 about1 = true := code_word (m := ⟨7, 2⟩) (meth := k7m2) (c := k7c2) (by decide +kernel) rfl rfl rfl (by decide +kernel)
set_option maxRecDepth 65536 in
theorem w_c6 : (Jvm.Cond.code ({ cls := "java/lang/String", name := "coder", desc := "()B" } : Jvm.MethodName) jdk_42_method_152_code (1 : Nat) (Option.some Jvm.ClassFile.FieldType.byte)).before args0 about1 = true := code_word (m := ⟨7, 9⟩) (meth := k7m9) (c := k7c9) (by decide +kernel) rfl rfl rfl (by decide +kernel)
set_option maxRecDepth 65536 in
theorem w_c7 : (Jvm.Cond.code ({ cls := "com/example/tightrope/tightrope/format/TextFormat", name := "isWord", desc := "(Ljava/lang/String;)Z" } : Jvm.MethodName) prog_27_method_5_code (1 : Nat) (Option.some Jvm.ClassFile.FieldType.boolean)).before args0 about1 = true := code_word (m := ⟨8, 1⟩) (meth := k8m1) (c := k8c1) (by decide +kernel) rfl rfl rfl (by decide +kernel)
set_option maxRecDepth 65536 in
theorem w_c8 : (Jvm.Cond.code ({ cls := "java/lang/String", name := "isEmpty", desc := "()Z" } : Jvm.MethodName) jdk_42_method_55_code (1 : Nat) (Option.some Jvm.ClassFile.FieldType.boolean)).before args0 about1 = true := code_word (m := ⟨7, 3⟩) (meth := k7m3) (c := k7c3) (by decide +kernel) rfl rfl rfl (by decide +kernel)
set_option maxRecDepth 65536 in
theorem w_c9 : (Jvm.Cond.code ({ cls := "java/lang/StringUTF16", name := "compress", desc := "([CII)[B" } : Jvm.MethodName) jdk_52_method_16_code (6 : Nat) (Option.some (Jvm.ClassFile.FieldType.array Jvm.ClassFile.FieldType.byte))).before args0 about1 = true := code_word (m := ⟨9, 8⟩) (meth := k9m8) (c := k9c8) (by decide +kernel) rfl rfl rfl (by decide +kernel)
set_option maxRecDepth 65536 in
theorem w_c10 : (Jvm.Cond.code ({ cls := "java/lang/StringUTF16", name := "compress", desc := "([CI[BII)I" } : Jvm.MethodName) jdk_52_method_21_code (7 : Nat) (Option.some Jvm.ClassFile.FieldType.int)).before args0 about1 = true := code_word (m := ⟨9, 9⟩) (meth := k9m9) (c := k9c9) (by decide +kernel) rfl rfl rfl (by decide +kernel)
set_option maxRecDepth 65536 in
theorem w_c11 : (Jvm.Cond.code ({ cls := "java/lang/StringUTF16", name := "coderFromArrayLen", desc := "([BI)B" } : Jvm.MethodName) jdk_52_method_15_code (2 : Nat) (Option.some Jvm.ClassFile.FieldType.byte)).before args0 about1 = true := code_word (m := ⟨9, 7⟩) (meth := k9m7) (c := k9c7) (by decide +kernel) rfl rfl rfl (by decide +kernel)
set_option maxRecDepth 65536 in
theorem w_c12 : (Jvm.Cond.code ({ cls := "java/lang/String", name := "indexOf", desc := "(I)I" } : Jvm.MethodName) jdk_42_method_79_code (2 : Nat) (Option.some Jvm.ClassFile.FieldType.int)).before args0 about1 = true := code_word (m := ⟨7, 4⟩) (meth := k7m4) (c := k7c4) (by decide +kernel) rfl rfl rfl (by decide +kernel)
set_option maxRecDepth 65536 in
theorem w_c13 : (Jvm.Cond.code ({ cls := "java/lang/String", name := "indexOf", desc := "(II)I" } : Jvm.MethodName) jdk_42_method_80_code (3 : Nat) (Option.some Jvm.ClassFile.FieldType.int)).before args0 about1 = true := code_word (m := ⟨7, 5⟩) (meth := k7m5) (c := k7c5) (by decide +kernel) rfl rfl rfl (by decide +kernel)
set_option maxRecDepth 65536 in
theorem w_c14 : (Jvm.Cond.code ({ cls := "java/lang/String", name := "isLatin1", desc := "()Z" } : Jvm.MethodName) jdk_42_method_154_code (1 : Nat) (Option.some Jvm.ClassFile.FieldType.boolean)).before args0 about1 = true := code_word (m := ⟨7, 10⟩) (meth := k7m10) (c := k7c10) (by decide +kernel) rfl rfl rfl (by decide +kernel)
set_option maxRecDepth 65536 in
theorem w_c15 : (Jvm.Cond.code ({ cls := "java/lang/StringLatin1", name := "indexOf", desc := "([BIII)I" } : Jvm.MethodName) jdk_43_method_22_code (4 : Nat) (Option.some Jvm.ClassFile.FieldType.int)).before args0 about1 = true := code_word (m := ⟨10, 3⟩) (meth := k10m3) (c := k10c3) (by decide +kernel) rfl rfl rfl (by decide +kernel)
set_option maxRecDepth 65536 in
theorem w_c16 : (Jvm.Cond.code ({ cls := "java/lang/StringLatin1", name := "canEncode", desc := "(I)Z" } : Jvm.MethodName) jdk_43_method_4_code (1 : Nat) (Option.some Jvm.ClassFile.FieldType.boolean)).before args0 about1 = true := code_word (m := ⟨10, 2⟩) (meth := k10m2) (c := k10c2) (by decide +kernel) rfl rfl rfl (by decide +kernel)
set_option maxRecDepth 65536 in
theorem w_c17 : (Jvm.Cond.code ({ cls := "java/lang/Math", name := "max", desc := "(II)I" } : Jvm.MethodName) jdk_29_method_65_code (2 : Nat) (Option.some Jvm.ClassFile.FieldType.int)).before args0 about1 = true := code_word (m := ⟨11, 1⟩) (meth := k11m1) (c := k11c1) (by decide +kernel) rfl rfl rfl (by decide +kernel)
set_option maxRecDepth 65536 in
theorem w_c18 : (Jvm.Cond.code ({ cls := "java/lang/Math", name := "min", desc := "(II)I" } : Jvm.MethodName) jdk_29_method_69_code (2 : Nat) (Option.some Jvm.ClassFile.FieldType.int)).before args0 about1 = true := code_word (m := ⟨11, 2⟩) (meth := k11m2) (c := k11c2) (by decide +kernel) rfl rfl rfl (by decide +kernel)
set_option maxRecDepth 65536 in
theorem w_c19 : (Jvm.Cond.code ({ cls := "java/lang/StringLatin1", name := "indexOfChar", desc := "([BIII)I" } : Jvm.MethodName) jdk_43_method_23_code (6 : Nat) (Option.some Jvm.ClassFile.FieldType.int)).before args0 about1 = true := code_word (m := ⟨10, 4⟩) (meth := k10m4) (c := k10c4) (by decide +kernel) rfl rfl rfl (by decide +kernel)
set_option maxRecDepth 65536 in
theorem w_c20 : (Jvm.Cond.code ({ cls := "java/lang/StringUTF16", name := "toBytes", desc := "([CII)[B" } : Jvm.MethodName) jdk_52_method_14_code (5 : Nat) (Option.some (Jvm.ClassFile.FieldType.array Jvm.ClassFile.FieldType.byte))).before args0 about1 = true := code_word (m := ⟨9, 6⟩) (meth := k9m6) (c := k9c6) (by decide +kernel) rfl rfl rfl (by decide +kernel)
set_option maxRecDepth 65536 in
theorem w_c21 : (Jvm.Cond.code ({ cls := "java/lang/StringUTF16", name := "newBytesFor", desc := "(I)[B" } : Jvm.MethodName) jdk_52_method_2_code (1 : Nat) (Option.some (Jvm.ClassFile.FieldType.array Jvm.ClassFile.FieldType.byte))).before args0 about1 = true := code_word (m := ⟨9, 1⟩) (meth := k9m1) (c := k9c1) (by decide +kernel) rfl rfl rfl (by decide +kernel)
set_option maxRecDepth 65536 in
theorem w_c22 : (Jvm.Cond.code ({ cls := "java/lang/StringUTF16", name := "newBytesLength", desc := "(I)I" } : Jvm.MethodName) jdk_52_method_3_code (1 : Nat) (Option.some Jvm.ClassFile.FieldType.int)).before args0 about1 = true := code_word (m := ⟨9, 2⟩) (meth := k9m2) (c := k9c2) (by decide +kernel) rfl rfl rfl (by decide +kernel)
set_option maxRecDepth 65536 in
theorem w_c23 : (Jvm.Cond.code ({ cls := "java/lang/StringUTF16", name := "putChar", desc := "([BII)V" } : Jvm.MethodName) jdk_52_method_4_code (3 : Nat) (Option.none : Option Jvm.ClassFile.FieldType)).before args0 about1 = true := code_word (m := ⟨9, 3⟩) (meth := k9m3) (c := k9c3) (by decide +kernel) rfl rfl rfl (by decide +kernel)
set_option maxRecDepth 65536 in
theorem w_c24 : (Jvm.Cond.code ({ cls := "java/lang/StringUTF16", name := "getChar", desc := "([BI)C" } : Jvm.MethodName) jdk_52_method_5_code (2 : Nat) (Option.some Jvm.ClassFile.FieldType.char)).before args0 about1 = true := code_word (m := ⟨9, 4⟩) (meth := k9m4) (c := k9c4) (by decide +kernel) rfl rfl rfl (by decide +kernel)
set_option maxRecDepth 65536 in
theorem w_c25 : (Jvm.Cond.code ({ cls := "java/lang/StringUTF16", name := "indexOf", desc := "([BIII)I" } : Jvm.MethodName) jdk_52_method_40_code (4 : Nat) (Option.some Jvm.ClassFile.FieldType.int)).before args0 about1 = true := code_word (m := ⟨9, 11⟩) (meth := k9m11) (c := k9c11) (by decide +kernel) rfl rfl rfl (by decide +kernel)
set_option maxRecDepth 65536 in
theorem w_c26 : (Jvm.Cond.code ({ cls := "java/lang/StringUTF16", name := "indexOfChar", desc := "([BIII)I" } : Jvm.MethodName) jdk_52_method_47_code (4 : Nat) (Option.some Jvm.ClassFile.FieldType.int)).before args0 about1 = true := code_word (m := ⟨9, 12⟩) (meth := k9m12) (c := k9c12) (by decide +kernel) rfl rfl rfl (by decide +kernel)
set_option maxRecDepth 65536 in
theorem w_c27 : (Jvm.Cond.code ({ cls := "java/lang/StringUTF16", name := "checkBoundsBeginEnd", desc := "(II[B)V" } : Jvm.MethodName) jdk_52_method_93_code (3 : Nat) (Option.none : Option Jvm.ClassFile.FieldType)).before args0 about1 = true := code_word (m := ⟨9, 14⟩) (meth := k9m14) (c := k9c14) (by decide +kernel) rfl rfl rfl (by decide +kernel)
set_option maxRecDepth 65536 in
theorem w_c28 : (Jvm.Cond.code ({ cls := "java/lang/StringUTF16", name := "length", desc := "([B)I" } : Jvm.MethodName) jdk_52_method_6_code (1 : Nat) (Option.some Jvm.ClassFile.FieldType.int)).before args0 about1 = true := code_word (m := ⟨9, 5⟩) (meth := k9m5) (c := k9c5) (by decide +kernel) rfl rfl rfl (by decide +kernel)
set_option maxRecDepth 65536 in
theorem w_c29 : (Jvm.Cond.code ({ cls := "java/lang/String", name := "checkBoundsBeginEnd", desc := "(III)V" } : Jvm.MethodName) jdk_42_method_158_code (3 : Nat) (Option.none : Option Jvm.ClassFile.FieldType)).before args0 about1 = true := code_word (m := ⟨7, 11⟩) (meth := k7m11) (c := k7c11) (by decide +kernel) rfl rfl rfl (by decide +kernel)
set_option maxRecDepth 65536 in
theorem w_c30 : (Jvm.Cond.code ({ cls := "jdk/internal/util/Preconditions", name := "checkFromToIndex", desc := "(IIILjava/util/function/BiFunction;)I" } : Jvm.MethodName) jdk_41_method_12_code (4 : Nat) (Option.some Jvm.ClassFile.FieldType.int)).before args0 about1 = true := code_word (m := ⟨12, 1⟩) (meth := k12m1) (c := k12c1) (by decide +kernel) rfl rfl rfl (by decide +kernel)
set_option maxRecDepth 65536 in
theorem w_c31 : (Jvm.Cond.code ({ cls := "java/lang/StringUTF16", name := "indexOfCharUnsafe", desc := "([BIII)I" } : Jvm.MethodName) jdk_52_method_48_code (5 : Nat) (Option.some Jvm.ClassFile.FieldType.int)).before args0 about1 = true := code_word (m := ⟨9, 13⟩) (meth := k9m13) (c := k9c13) (by decide +kernel) rfl rfl rfl (by decide +kernel)
set_option maxRecDepth 65536 in
theorem w_c32 : (Jvm.Cond.code ({ cls := "java/lang/String", name := "valueOf", desc := "(C)Ljava/lang/String;" } : Jvm.MethodName) jdk_42_method_139_code (1 : Nat) (Option.some (Jvm.ClassFile.FieldType.object "java/lang/String"))).before args0 about1 = true := code_word (m := ⟨7, 6⟩) (meth := k7m6) (c := k7c6) (by decide +kernel) rfl rfl rfl (by decide +kernel)
set_option maxRecDepth 65536 in
theorem w_c33 : (Jvm.Cond.code ({ cls := "java/lang/StringLatin1", name := "canEncode", desc := "(C)Z" } : Jvm.MethodName) jdk_43_method_3_code (1 : Nat) (Option.some Jvm.ClassFile.FieldType.boolean)).before args0 about1 = true := code_word (m := ⟨10, 1⟩) (meth := k10m1) (c := k10c1) (by decide +kernel) rfl rfl rfl (by decide +kernel)
set_option maxRecDepth 65536 in
theorem w_c34 : (Jvm.Cond.code ({ cls := "java/lang/StringLatin1", name := "toBytes", desc := "(C)[B" } : Jvm.MethodName) jdk_43_method_46_code (1 : Nat) (Option.some (Jvm.ClassFile.FieldType.array Jvm.ClassFile.FieldType.byte))).before args0 about1 = true := code_word (m := ⟨10, 5⟩) (meth := k10m5) (c := k10c5) (by decide +kernel) rfl rfl rfl (by decide +kernel)
set_option maxRecDepth 65536 in
theorem w_c35 : (Jvm.Cond.code ({ cls := "java/lang/String", name := "<init>", desc := "([BB)V" } : Jvm.MethodName) jdk_42_method_151_code (3 : Nat) (Option.none : Option Jvm.ClassFile.FieldType)).before args0 about1 = true := code_word (m := ⟨7, 8⟩) (meth := k7m8) (c := k7c8) (by decide +kernel) rfl rfl rfl (by decide +kernel)
set_option maxRecDepth 65536 in
theorem w_c36 : (Jvm.Cond.code ({ cls := "java/lang/StringUTF16", name := "toBytes", desc := "(C)[B" } : Jvm.MethodName) jdk_52_method_24_code (2 : Nat) (Option.some (Jvm.ClassFile.FieldType.array Jvm.ClassFile.FieldType.byte))).before args0 about1 = true := code_word (m := ⟨9, 10⟩) (meth := k9m10) (c := k9c10) (by decide +kernel) rfl rfl rfl (by decide +kernel)
def codes1 : List Jvm.Cond := [Jvm.Cond.code x code maxLocals ret, Jvm.Cond.code ({ cls := "com/example/tightrope/tightrope/format/TextFormatIsWordPinLaw", name := "make", desc := "(ICCCC)Ljava/lang/String;" } : Jvm.MethodName) method_3_code (5 : Nat) (Option.some (Jvm.ClassFile.FieldType.object "java/lang/String")), Jvm.Cond.code ({ cls := "java/lang/String", name := "<init>", desc := "([C)V" } : Jvm.MethodName) jdk_42_method_3_code (2 : Nat) (Option.none : Option Jvm.ClassFile.FieldType), Jvm.Cond.code ({ cls := "java/lang/String", name := "<init>", desc := "([CIILjava/lang/Void;)V" } : Jvm.MethodName) jdk_42_method_149_code (6 : Nat) (Option.none : Option Jvm.ClassFile.FieldType), Jvm.Cond.code ({ cls := "java/lang/Object", name := "<init>", desc := "()V" } : Jvm.MethodName) object_method_1_code (1 : Nat) (Option.none : Option Jvm.ClassFile.FieldType), Jvm.Cond.code ({ cls := "java/lang/String", name := "length", desc := "()I" } : Jvm.MethodName) jdk_42_method_54_code (1 : Nat) (Option.some Jvm.ClassFile.FieldType.int), Jvm.Cond.code ({ cls := "java/lang/String", name := "coder", desc := "()B" } : Jvm.MethodName) jdk_42_method_152_code (1 : Nat) (Option.some Jvm.ClassFile.FieldType.byte), Jvm.Cond.code ({ cls := "com/example/tightrope/tightrope/format/TextFormat", name := "isWord", desc := "(Ljava/lang/String;)Z" } : Jvm.MethodName) prog_27_method_5_code (1 : Nat) (Option.some Jvm.ClassFile.FieldType.boolean), Jvm.Cond.code ({ cls := "java/lang/String", name := "isEmpty", desc := "()Z" } : Jvm.MethodName) jdk_42_method_55_code (1 : Nat) (Option.some Jvm.ClassFile.FieldType.boolean), Jvm.Cond.code ({ cls := "java/lang/StringUTF16", name := "compress", desc := "([CII)[B" } : Jvm.MethodName) jdk_52_method_16_code (6 : Nat) (Option.some (Jvm.ClassFile.FieldType.array Jvm.ClassFile.FieldType.byte)), Jvm.Cond.code ({ cls := "java/lang/StringUTF16", name := "compress", desc := "([CI[BII)I" } : Jvm.MethodName) jdk_52_method_21_code (7 : Nat) (Option.some Jvm.ClassFile.FieldType.int), Jvm.Cond.code ({ cls := "java/lang/StringUTF16", name := "coderFromArrayLen", desc := "([BI)B" } : Jvm.MethodName) jdk_52_method_15_code (2 : Nat) (Option.some Jvm.ClassFile.FieldType.byte), Jvm.Cond.code ({ cls := "java/lang/String", name := "indexOf", desc := "(I)I" } : Jvm.MethodName) jdk_42_method_79_code (2 : Nat) (Option.some Jvm.ClassFile.FieldType.int), Jvm.Cond.code ({ cls := "java/lang/String", name := "indexOf", desc := "(II)I" } : Jvm.MethodName) jdk_42_method_80_code (3 : Nat) (Option.some Jvm.ClassFile.FieldType.int), Jvm.Cond.code ({ cls := "java/lang/String", name := "isLatin1", desc := "()Z" } : Jvm.MethodName) jdk_42_method_154_code (1 : Nat) (Option.some Jvm.ClassFile.FieldType.boolean), Jvm.Cond.code ({ cls := "java/lang/StringLatin1", name := "indexOf", desc := "([BIII)I" } : Jvm.MethodName) jdk_43_method_22_code (4 : Nat) (Option.some Jvm.ClassFile.FieldType.int), Jvm.Cond.code ({ cls := "java/lang/StringLatin1", name := "canEncode", desc := "(I)Z" } : Jvm.MethodName) jdk_43_method_4_code (1 : Nat) (Option.some Jvm.ClassFile.FieldType.boolean), Jvm.Cond.code ({ cls := "java/lang/Math", name := "max", desc := "(II)I" } : Jvm.MethodName) jdk_29_method_65_code (2 : Nat) (Option.some Jvm.ClassFile.FieldType.int), Jvm.Cond.code ({ cls := "java/lang/Math", name := "min", desc := "(II)I" } : Jvm.MethodName) jdk_29_method_69_code (2 : Nat) (Option.some Jvm.ClassFile.FieldType.int), Jvm.Cond.code ({ cls := "java/lang/StringLatin1", name := "indexOfChar", desc := "([BIII)I" } : Jvm.MethodName) jdk_43_method_23_code (6 : Nat) (Option.some Jvm.ClassFile.FieldType.int), Jvm.Cond.code ({ cls := "java/lang/StringUTF16", name := "toBytes", desc := "([CII)[B" } : Jvm.MethodName) jdk_52_method_14_code (5 : Nat) (Option.some (Jvm.ClassFile.FieldType.array Jvm.ClassFile.FieldType.byte)), Jvm.Cond.code ({ cls := "java/lang/StringUTF16", name := "newBytesFor", desc := "(I)[B" } : Jvm.MethodName) jdk_52_method_2_code (1 : Nat) (Option.some (Jvm.ClassFile.FieldType.array Jvm.ClassFile.FieldType.byte)), Jvm.Cond.code ({ cls := "java/lang/StringUTF16", name := "newBytesLength", desc := "(I)I" } : Jvm.MethodName) jdk_52_method_3_code (1 : Nat) (Option.some Jvm.ClassFile.FieldType.int), Jvm.Cond.code ({ cls := "java/lang/StringUTF16", name := "putChar", desc := "([BII)V" } : Jvm.MethodName) jdk_52_method_4_code (3 : Nat) (Option.none : Option Jvm.ClassFile.FieldType), Jvm.Cond.code ({ cls := "java/lang/StringUTF16", name := "getChar", desc := "([BI)C" } : Jvm.MethodName) jdk_52_method_5_code (2 : Nat) (Option.some Jvm.ClassFile.FieldType.char), Jvm.Cond.code ({ cls := "java/lang/StringUTF16", name := "indexOf", desc := "([BIII)I" } : Jvm.MethodName) jdk_52_method_40_code (4 : Nat) (Option.some Jvm.ClassFile.FieldType.int), Jvm.Cond.code ({ cls := "java/lang/StringUTF16", name := "indexOfChar", desc := "([BIII)I" } : Jvm.MethodName) jdk_52_method_47_code (4 : Nat) (Option.some Jvm.ClassFile.FieldType.int), Jvm.Cond.code ({ cls := "java/lang/StringUTF16", name := "checkBoundsBeginEnd", desc := "(II[B)V" } : Jvm.MethodName) jdk_52_method_93_code (3 : Nat) (Option.none : Option Jvm.ClassFile.FieldType), Jvm.Cond.code ({ cls := "java/lang/StringUTF16", name := "length", desc := "([B)I" } : Jvm.MethodName) jdk_52_method_6_code (1 : Nat) (Option.some Jvm.ClassFile.FieldType.int), Jvm.Cond.code ({ cls := "java/lang/String", name := "checkBoundsBeginEnd", desc := "(III)V" } : Jvm.MethodName) jdk_42_method_158_code (3 : Nat) (Option.none : Option Jvm.ClassFile.FieldType), Jvm.Cond.code ({ cls := "jdk/internal/util/Preconditions", name := "checkFromToIndex", desc := "(IIILjava/util/function/BiFunction;)I" } : Jvm.MethodName) jdk_41_method_12_code (4 : Nat) (Option.some Jvm.ClassFile.FieldType.int), Jvm.Cond.code ({ cls := "java/lang/StringUTF16", name := "indexOfCharUnsafe", desc := "([BIII)I" } : Jvm.MethodName) jdk_52_method_48_code (5 : Nat) (Option.some Jvm.ClassFile.FieldType.int), Jvm.Cond.code ({ cls := "java/lang/String", name := "valueOf", desc := "(C)Ljava/lang/String;" } : Jvm.MethodName) jdk_42_method_139_code (1 : Nat) (Option.some (Jvm.ClassFile.FieldType.object "java/lang/String")), Jvm.Cond.code ({ cls := "java/lang/StringLatin1", name := "canEncode", desc := "(C)Z" } : Jvm.MethodName) jdk_43_method_3_code (1 : Nat) (Option.some Jvm.ClassFile.FieldType.boolean), Jvm.Cond.code ({ cls := "java/lang/StringLatin1", name := "toBytes", desc := "(C)[B" } : Jvm.MethodName) jdk_43_method_46_code (1 : Nat) (Option.some (Jvm.ClassFile.FieldType.array Jvm.ClassFile.FieldType.byte)), Jvm.Cond.code ({ cls := "java/lang/String", name := "<init>", desc := "([BB)V" } : Jvm.MethodName) jdk_42_method_151_code (3 : Nat) (Option.none : Option Jvm.ClassFile.FieldType), Jvm.Cond.code ({ cls := "java/lang/StringUTF16", name := "toBytes", desc := "(C)[B" } : Jvm.MethodName) jdk_52_method_24_code (2 : Nat) (Option.some (Jvm.ClassFile.FieldType.array Jvm.ClassFile.FieldType.byte))]
set_option maxRecDepth 65536 in
theorem codes_eq : words1.filter isCode = codes1 := rfl
theorem w_codes : ∀ c ∈ words1.filter isCode, c.before args0 about1 = true := by
  rw [codes_eq]
  intro c hc
  simp only [codes1, List.mem_cons, List.not_mem_nil, or_false] at hc
  rcases hc with rfl | rfl | rfl | rfl | rfl | rfl | rfl | rfl | rfl | rfl | rfl | rfl | rfl | rfl | rfl | rfl | rfl | rfl | rfl | rfl | rfl | rfl | rfl | rfl | rfl | rfl | rfl | rfl | rfl | rfl | rfl | rfl | rfl | rfl | rfl | rfl | rfl
  · exact w_c0
  · exact w_c1
  · exact w_c2
  · exact w_c3
  · exact w_c4
  · exact w_c5
  · exact w_c6
  · exact w_c7
  · exact w_c8
  · exact w_c9
  · exact w_c10
  · exact w_c11
  · exact w_c12
  · exact w_c13
  · exact w_c14
  · exact w_c15
  · exact w_c16
  · exact w_c17
  · exact w_c18
  · exact w_c19
  · exact w_c20
  · exact w_c21
  · exact w_c22
  · exact w_c23
  · exact w_c24
  · exact w_c25
  · exact w_c26
  · exact w_c27
  · exact w_c28
  · exact w_c29
  · exact w_c30
  · exact w_c31
  · exact w_c32
  · exact w_c33
  · exact w_c34
  · exact w_c35
  · exact w_c36
set_option maxRecDepth 65536 in
theorem w_t1 : (words1.take 24).all (fun c => isCode c || c.before args0 about1) = true := by decide +kernel
set_option maxRecDepth 65536 in
theorem w_t2 : ((words1.drop 24).take 24).all (fun c => isCode c || c.before args0 about1) = true := by decide +kernel
set_option maxRecDepth 65536 in
theorem w_t3 : (((words1.drop 24).drop 24).take 24).all (fun c => isCode c || c.before args0 about1) = true := by decide +kernel
set_option maxRecDepth 65536 in
theorem w_t4 : ((((words1.drop 24).drop 24).drop 24).take 24).all (fun c => isCode c || c.before args0 about1) = true := by decide +kernel
set_option maxRecDepth 65536 in
theorem w_t5 : (((((words1.drop 24).drop 24).drop 24).drop 24).take 24).all (fun c => isCode c || c.before args0 about1) = true := by decide +kernel
set_option maxRecDepth 65536 in
theorem w_t6 : ((((((words1.drop 24).drop 24).drop 24).drop 24).drop 24).take 24).all (fun c => isCode c || c.before args0 about1) = true := by decide +kernel
set_option maxRecDepth 65536 in
theorem w_t7 : ((((((words1.drop 24).drop 24).drop 24).drop 24).drop 24).drop 24).all (fun c => isCode c || c.before args0 about1) = true := by decide +kernel
theorem w_tables : (allAtoms (Jvm.Cond.code x code maxLocals ret :: tables_1)).before args0 about1 = true := by
  rw [allAtoms_all]
  show words1.all (fun c => c.before args0 about1) = true
  refine all_split ?_ w_codes
  rw [← List.take_append_drop 24 words1, List.all_append, w_t1, ← List.take_append_drop 24 (words1.drop 24), List.all_append, w_t2, ← List.take_append_drop 24 ((words1.drop 24).drop 24), List.all_append, w_t3, ← List.take_append_drop 24 (((words1.drop 24).drop 24).drop 24), List.all_append, w_t4, ← List.take_append_drop 24 ((((words1.drop 24).drop 24).drop 24).drop 24), List.all_append, w_t5, ← List.take_append_drop 24 (((((words1.drop 24).drop 24).drop 24).drop 24).drop 24), List.all_append, w_t6, w_t7]
  rfl
set_option maxRecDepth 65536 in
theorem w_rest : rest_1_c.before args0 about1 = true := by decide +kernel
set_option maxRecDepth 65536 in
theorem w_case : (Jvm.Cond.and given_1 narrow_1).before args0 about1 = true := by decide +kernel
set_option maxRecDepth 65536 in
theorem w_consts : constsHeld consts_1 about1 := Jvm.Lit.constsHeldB_iff.mp (by decide +kernel)
theorem w_applies : (headSpec (Jvm.Cond.code x code maxLocals ret :: tables_1) room_1).applies x e0.platform about1 = true :=
  (Spec.applies_iff w_frames).mpr ⟨w_running, w_runnable, w_alone, w_named, w_hears, w_ripe, w_room, w_tables⟩
theorem atStart : AtStart classFile x code maxLocals ret World_1 tables_1 room_1 Calls_1 rest_1 Pre_1 launch0 p0 e0 about1 theMethod args0 below0 :=
  ⟨lists_1, trivial, launch0.admits_env _ _ _, launch0.least_env, fairChoices_fair.cas, fairChoices_fair.clock, w_frames, w_args, w_heap, w_applies, ⟨w_consts, trivial⟩, w_rest, w_case⟩
end start1
theorem witness_1 : WitnessClaimed_1 := ⟨start1.p0, start1.e0, start1.about1, start1.theMethod, start1.args0, start1.below0, start1.atStart⟩
end Jvm.Pilot.@@N@@
