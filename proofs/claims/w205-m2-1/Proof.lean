import JvmDerived
import JvmDerived.Pilot.@@N@@Statement
import JvmDerived.Pilot.@@N@@Code
set_option linter.unusedVariables false
set_option linter.unusedSimpArgs false
namespace Jvm.RoadKit
open Sem ClassFile Op Lib Jvm.Stand Jvm.Free Jvm.LawKit
section Own
variable {p : Program} {l : Launch} {e : Env} {R : Room} {s : State} {m : MethodId} {args : Array Value} {below : List Frame} {meth : Method} {c : Code} {T T' : State} {locs : List Loc} {cells slots rc rs : Nat} {Q : Option Value → Heap → List Loc → Prop} {g g' : JFrame}
/-- from the state T with the top frame g the run ends in a return of which Q is true -/
def OwnGo (p : Program) (e : Env) (below : List Frame) (s : State) (rc rs : Nat) (Q : Option Value → Heap → List Loc → Prop) (T : State) (g : JFrame) : Prop :=
  ∃ (U : State) (o : Outcome), Steps p.tables e below (T.setTop g) U ∧ U.status = .running ∧ Ended U below o ∧ ∃ v L, o = .returned v ∧ Q v U.heap L ∧ FrameEnd s o U L rc rs
theorem OwnGo.st (k : ∀ target, Steps p.tables e below (T'.setTop g') target → Steps p.tables e below (T.setTop g) target) (h : OwnGo p e below s rc rs Q T' g') : OwnGo p e below s rc rs Q T g := by
  obtain ⟨U, o, h1, h2⟩ := h
  exact ⟨U, o, k _ h1, h2⟩
theorem OwnGo.join {ι : Type} {P : ι → Prop} {f : ι → JFrame} {T1 : State} (h : ∀ i, P i → OwnGo p e below s rc rs Q T1 (f i)) (k : (∀ i, P i → OwnGo p e below s rc rs Q T1 (f i)) → OwnGo p e below s rc rs Q T g) : OwnGo p e below s rc rs Q T g := k h
theorem OwnGo.cast (q : g = g') (h : OwnGo p e below s rc rs Q T g') : OwnGo p e below s rc rs Q T g := q ▸ h
theorem OwnGo.ret (X : Stand p l e R s m args below meth c T locs cells slots) (hx : p.tables.exec = Jvm.exec) {pc : Nat} {Ls : Array Slot} {w : Value} {t : FieldType} {i : Instr} {rest : List Value} (hret : meth.sig.returnType = some t) (hlk : meth.locks = false) (hn : narrow t w = w)
    (hi : (i = .ireturn ∧ (t = .int ∨ t = .boolean ∨ t = .byte ∨ t = .char ∨ t = .short) ∧ ∃ z, w = .int z) ∨ (i = .lreturn ∧ t = .long ∧ ∃ z, w = .long z) ∨ (i = .dreturn ∧ t = .double ∧ ∃ z, w = .double z) ∨ (i = .freturn ∧ t = .float ∧ ∃ z, w = .float z) ∨ (i = .areturn ∧ t.isReference = true ∧ w.isRef = true))
    (hd : decode c.code pc = .ok (i, 1)) (hQ : Q (some w) T.heap locs) (hc : cells ≤ rc) (hs : slots ≤ rs) : OwnGo p e below s rc rs Q T (mkF m pc Ls (w :: rest)) := by
  obtain ⟨fs, hr, hrun, hended, hW, hsame⟩ := X.leave (v := some w) (fun h => by rw [hret] at h; cases h) hlk
  exact ⟨_, _, retOut X hx hret hn hi hd hr, hrun, hended, _, _, rfl, hQ, ⟨_, rfl⟩, hW, hsame.mono hc hs⟩
theorem OwnGo.retN (X : Stand p l e R s m args below meth c T locs cells slots) (hx : p.tables.exec = Jvm.exec) {pc : Nat} {Ls : Array Slot} {z : Int32} {t : FieldType} {rest : List Value} (hret : meth.sig.returnType = some t) (hlk : meth.locks = false) (ht : t = .boolean ∨ t = .byte ∨ t = .char ∨ t = .short)
    (hd : decode c.code pc = .ok (.ireturn, 1)) (hQ : Q (some (.int (nar t z))) T.heap locs) (hc : cells ≤ rc) (hs : slots ≤ rs) : OwnGo p e below s rc rs Q T (mkF m pc Ls (.int z :: rest)) := by
  obtain ⟨fs, hr, hrun, hended, hW, hsame⟩ := X.leave (v := some (.int (nar t z))) (fun h => by rw [hret] at h; cases h) hlk
  exact ⟨_, _, Jvm.RoadKit.retN X hx hret ht hd hr, hrun, hended, _, _, rfl, hQ, ⟨_, rfl⟩, hW, hsame.mono hc hs⟩
theorem OwnGo.retV (X : Stand p l e R s m args below meth c T locs cells slots) (hx : p.tables.exec = Jvm.exec) {pc : Nat} {Ls : Array Slot} (hret : meth.sig.returnType = none) (hlk : meth.locks = false)
    (hd : decode c.code pc = .ok (.return_, 1)) (hQ : Q none T.heap locs) (hc : cells ≤ rc) (hs : slots ≤ rs) : OwnGo p e below s rc rs Q T (mkF m pc Ls []) := by
  obtain ⟨fs, hr, hrun, hended, hW, hsame⟩ := X.leave (v := none) (fun _ => rfl) hlk
  exact ⟨_, _, X.returnOut hx hret hd hr, hrun, hended, _, _, rfl, hQ, ⟨_, rfl⟩, hW, hsame.mono hc hs⟩
theorem own_met {y : MethodName} {bytes : ByteArray} {maxL : Nat} {ret : Option FieldType} {ws : List Jvm.Cond} {rm : Room} {Z : State} {as' : Array Value} {h0 : Heap} (hp : plainFor y = true)
    (body : ∀ (p : Program) (e : Env) (s : State) (m : MethodId) (below : List Frame) (meth : Method) (c : Code) (s₁ : State), Stand p l e rm s m as' below meth c s₁ [] 0 0 → p.tables.exec = Jvm.exec → c.code = bytes → c.maxLocals = maxL → meth.sig.returnType = ret → meth.locks = false → s.vm.findClass y.cls = some m.cls → meth.name = y.name → Z.Warmed39 s.vm → s₁.heap = h0 →
      OwnGo p e below s rm.cells rm.slots Q s₁ (entryFrame m as' maxL)) :
    MetFree l y (head1 (Jvm.Cond.code y bytes maxL ret :: ws) rm) (fun a U => a = as' ∧ Z.Warmed39 U.vm ∧ U.heap = h0) (fun _ _ _ _ _ => True) (fun _ U o U' => ∃ v L, o = .returned v ∧ Q v U'.heap L ∧ FrameEnd U o U' L rm.cells rm.slots) := by
  refine MetFree.of_bodySF hp hisR ?_
  intro p e s m args below meth c s₁ Bd hml0 hP hK
  obtain ⟨rfl, hZ, hh⟩ := hP
  exact body p e s m below meth c s₁ (Stand.of_body Bd) Bd.exec Bd.bytes hml0 Bd.returns Bd.notSynchronized (findClass_of_methodNamed Bd.named) (name_of_methodNamed Bd.named Bd.method).1 hZ (by rw [← hh, Bd.state]; rfl)
theorem own_len {Z : State} {h : Heap} {a : Addr} {cl : Cell} {ty : FieldType} {z : Int32} (hZ : Z.Warmed39 s.vm) (q : cl.slots.size.toInt32 = z) (A : Arr Z h a cl ty) (X : Stand p l e R s m args below meth c T locs cells slots) (eT : T.heap = h) (hx : p.tables.exec = Jvm.exec) {rest : List Value}
    (hg : g.method = m) (hst : g.stack = .ref a :: rest) (hd : decode c.code g.pc = .ok (.arraylength, 1)) (target : State) (k : Steps p.tables e below (T.setTop { g with pc := g.pc + 1, stack := .int z :: rest }) target) : Steps p.tables e below (T.setTop g) target := by
  refine X.arraylength hx (by rw [eT]; exact A.1) (State.isArrayOf_alike hZ.alike A.2.1) hg hst hd _ ?_
  rw [q]; exact k
theorem own_eqi {args : Array Value} {first U : State} {o : Option Outcome} {idx : List Nat} {a : Term} {k : Int32} (h : (Jvm.Cond.eq a (.int k)).value args first o U idx = some true) : a.eval args first o idx U = some (.int k) := Cond.eq_int (b := .int k) (by simp only [Cond.holds, h]; rfl) rfl
theorem own_eqv {args : Array Value} {first U : State} {o : Option Outcome} {idx : List Nat} {a b : Term} {v : Value} (h : (Jvm.Cond.eq a b).value args first o U idx = some true) (hb : b.eval args first o idx U = some v) (hv : v.isRef = true) : a.eval args first o idx U = some v := by
  obtain ⟨x, y, h1, h2, k1, k2⟩ := cmp_v (Or.inl h)
  cases h2.symm.trans hb
  have hx : x.isRef = true := by cases x <;> cases v <;> simp [Kin, Value.isRef] at k1 k2 hv ⊢
  rw [h1, gotT (eq_R h1 h2 hx hv) h]
theorem own_lenv {Z : State} {args : Array Value} {t : Term} {a : Addr} {cl : Cell} {ty : FieldType} {z : Int32} (ev : t.eval args Z none [] Z = some (.ref a)) (A : Arr Z Z.heap a cl ty) (h : (Jvm.Cond.eq (.length t) (.int z)).value args Z none Z [] = some true) : cl.slots.size < 2 ^ 31 ∧ cl.slots.size.toInt32 = z := by
  have e := own_eqi h
  have hA := A.fin (Vm.Alike.refl _)
  refine ⟨SBG.length_lt ev hA e, ?_⟩
  obtain ⟨a', c', e1, e2, e3⟩ := Term.length_spec e
  cases ev.symm.trans e1
  cases hA.symm.trans e2
  exact (Value.int.inj e3).symm
theorem own_elem {Z : State} {args : Array Value} {t : Term} {a : Addr} {cl : Cell} {ty : FieldType} {k : Int32} {v : Value} (ev : t.eval args Z none [] Z = some (.ref a)) (A : Arr Z Z.heap a cl ty) (h : (Term.elem t (.int k)).eval args Z none [] Z = some v) : cl.slots[k.toNatClampNeg]? = some v := (elem_in h ev rfl A.1).2
theorem own_narR {w : Value} {t : FieldType} (h : w.isRef = true) (ht : t.isReference = true) : narrow t w = w := by
  cases w <;> simp [Value.isRef] at h <;> cases t <;> simp [FieldType.isReference] at ht <;> rfl
theorem own_selp {C : String} {x y z : MethodName} (hz : (Jvm.Cond.selects C x z).before args s = true) (hcls : z.cls = y.cls) (hpriv : s.PrivateAt y) (hinst : (Jvm.Cond.instanceMethod y).before args s = true) (hy : y.cls ≠ "java/lang/invoke/MethodHandle" ∧ y.cls ≠ "java/lang/invoke/VarHandle") : (Jvm.Cond.selects y.cls y y).before args s = true := by
  obtain ⟨c, r, mz, h1, h2, h3, h4, mk, h5, h6⟩ := Cond.selects_spec hz
  exact selects_self_of_private (by rw [← hcls]; exact findClass_of_methodNamed h3) h5 h6 hpriv hinst hy
theorem own_nface {C : String} {x y z : MethodName} (hz : (Jvm.Cond.selects C x z).before args s = true) (hcls : z.cls = y.cls) : NotFace s y := fun r0 h0 => by
  obtain ⟨c, r, mz, h1, h2, h3, h4, mk, h5, h6⟩ := Cond.selects_spec hz
  have e1 : s.vm.findClass y.cls = some mz.cls := by rw [← hcls]; exact findClass_of_methodNamed h3
  have e2 : r0.cls = mz.cls := Option.some.inj ((findClass_of_methodNamed h0).symm.trans e1)
  exact ⟨mk, by rw [e2]; exact h5, h6⟩
theorem own_same {C : String} {x y z : MethodName} (hz : (Jvm.Cond.selects C x z).before args s = true) (hcls : z.cls = y.cls) (hinst : (Jvm.Cond.instanceMethod y).before args s = true) (hy : y.cls ≠ "java/lang/invoke/MethodHandle" ∧ y.cls ≠ "java/lang/invoke/VarHandle") : (Jvm.Cond.sameMethod y.cls y.cls y.name y.desc).before args s = true := by
  obtain ⟨c, r, mz, h1, h2, h3, h4, mk, h5, h6⟩ := Cond.selects_spec hz
  obtain ⟨ym, methM, hnamed, -, -, -⟩ := Cond.instanceMethod_spec hinst
  have hf : s.methodFound? y.cls y.name y.desc = some ym := State.methodFound?_of_named hnamed hy
  have hc : s.vm.findClass y.cls = some mz.cls := by rw [← hcls]; exact findClass_of_methodNamed h3
  simp [Cond.before, Cond.holds, Cond.value, hc, hf, hnamed, h5, h6]
theorem own_frl {n0 : Nat} {L M N : List Loc} (h : L = M ++ N) (a : Fr n0 M) (b : Fr n0 N) : Fr n0 L := h ▸ Fr.app a b
theorem own_cat {w : Value} (h : w.isRef = true) : w.category = 1 := by cases w <;> simp [Value.isRef] at h <;> rfl
/-- an array of n places, whatever they hold -/
def OwnArr (Z : State) (h : Heap) (a : Addr) (ty : FieldType) (n : Nat) : Prop := ∃ cl : Cell, Arr Z h a cl ty ∧ cl.slots.size = n
theorem OwnArr.lt {Z : State} {h : Heap} {a : Addr} {ty : FieldType} {n : Nat} (F : OwnArr Z h a ty n) : a < h.size := by obtain ⟨_, A, -⟩ := F; exact A.lt
theorem OwnArr.ext {Z : State} {h h' : Heap} {a : Addr} {ty : FieldType} {n : Nat} (F : OwnArr Z h a ty n) (E : Ext h h') : OwnArr Z h' a ty n := by obtain ⟨c, A, S⟩ := F; exact ⟨c, A.ext E, S⟩
theorem OwnArr.keep {Z : State} {h h' : Heap} {a : Addr} {ty : FieldType} {n : Nat} {ws : List Addr} (F : OwnArr Z h a ty n) (K : Keep h h' ws) : OwnArr Z h' a ty n := by
  obtain ⟨c, ⟨A1, ⟨q1, q2⟩, A3⟩, S⟩ := F
  obtain ⟨c', e1, e2, e3, e4⟩ := K.2.2 _ _ A1
  exact ⟨c', ⟨e1, ⟨by rw [e3]; exact q1, by rw [e2]; exact q2⟩, by rw [e3]; exact A3⟩, e4.trans S⟩
theorem OwnArr.wr {Z : State} {h h' : Heap} {a b : Addr} {ty : FieldType} {n sl : Nat} {v : Value} (F : OwnArr Z h a ty n) (W : Wr h h' b sl v) : OwnArr Z h' a ty n := F.keep (Keep.of_wr W)
theorem OwnArr.of {Z : State} {h : Heap} {a : Addr} {k : ClassId} {ty : FieldType} {z : Int32} {vs : List Value} {d : Value} (F : Arv Z h a k ty z vs d) : OwnArr Z h a ty z.toNatClampNeg := by obtain ⟨c, A, -, S, -⟩ := F; exact ⟨c, A, S⟩
/-- an array of n ints (or bytes, chars, ..): place j holds f j -/
def OwnFn (Z : State) (h : Heap) (a : Addr) (ty : FieldType) (n : Nat) (f : Nat → Int32) : Prop := ∃ cl : Cell, Arr Z h a cl ty ∧ cl.slots.size = n ∧ ∀ j, j < n → cl.slots[j]? = some (.int (f j))
theorem OwnFn.lt {Z : State} {h : Heap} {a : Addr} {ty : FieldType} {n : Nat} {f : Nat → Int32} (F : OwnFn Z h a ty n f) : a < h.size := by obtain ⟨_, A, -⟩ := F; exact A.lt
theorem OwnFn.ext {Z : State} {h h' : Heap} {a : Addr} {ty : FieldType} {n : Nat} {f : Nat → Int32} (F : OwnFn Z h a ty n f) (E : Ext h h') : OwnFn Z h' a ty n f := by obtain ⟨c, A, r⟩ := F; exact ⟨c, A.ext E, r⟩
theorem OwnFn.keep {Z : State} {h h' : Heap} {a : Addr} {ty : FieldType} {n : Nat} {f : Nat → Int32} {ws : List Addr} (F : OwnFn Z h a ty n f) (K : Keep h h' ws) (q : a ∉ ws) : OwnFn Z h' a ty n f := by obtain ⟨c, A, r⟩ := F; exact ⟨c, ⟨K.2.1 a c A.1 q, A.2⟩, r⟩
theorem OwnFn.other {Z : State} {h h' : Heap} {a b : Addr} {ty : FieldType} {n sl : Nat} {f : Nat → Int32} {v : Value} (F : OwnFn Z h a ty n f) (W : Wr h h' b sl v) (q : a ≠ b) : OwnFn Z h' a ty n f := by obtain ⟨c, A, r⟩ := F; exact ⟨c, A.other W q, r⟩
theorem OwnFn.set {Z : State} {h h' : Heap} {a : Addr} {ty : FieldType} {n sl : Nat} {f : Nat → Int32} {v : Int32} (F : OwnFn Z h a ty n f) (W : Wr h h' a sl (.int v)) : OwnFn Z h' a ty n (fun j => if j = sl then v else f j) := by
  obtain ⟨c, A, S, H⟩ := F
  refine ⟨_, A.same W, by simp [Cell.setSlot, S], fun j hj => ?_⟩
  have e : (c.setSlot sl (.int v)).slots[j]? = if sl = j then some (.int v) else c.slots[j]? := by
    have hj' : j < c.slots.size := S ▸ hj
    simp only [Cell.setSlot, Array.getElem?_setIfInBounds]
    by_cases q : sl = j
    · subst q; simp [hj']
    · simp [q]
  rw [e]
  by_cases q : j = sl
  · subst q; simp
  · simp [q, Ne.symm q, H j hj]
theorem OwnFn.new {Z : State} {h : Heap} {a : Addr} {k : ClassId} {ty : FieldType} {z : Int32} (A : Arr Z h a (newA k ty z) ty) (hd : defaultValue ty = .int 0) : OwnFn Z h a ty z.toNatClampNeg (fun _ => 0) :=
  ⟨_, A, sz_new _ _ _, fun j hj => by simp [newA, hd, hj]⟩
theorem own_nb (x : Int32) : nar .byte x.toInt8.toInt32 = x.toInt8.toInt32 := by
  show (x.toInt8.toInt32).toInt8.toInt32 = _
  rw [Int8.toInt8_toInt32]
theorem OwnGo.iload (X : Stand p l e R s m args below meth c T locs cells slots) (hx : p.tables.exec = Jvm.exec) {pc : Nat} {L : Array Slot} {S : List Value} {k : Nat} {v : Int32} (hd : decode c.code pc = .ok (.iload k, 2)) (hl : L[k]? = some (.val (.int v))) (h : OwnGo p e below s rc rs Q T (mkF m (pc + 2) L (.int v :: S))) : OwnGo p e below s rc rs Q T (mkF m pc L S) := by
  exact .st (fun _ => XS.iload (g := mkF m pc L S) X.here hx rfl hd hl) h
theorem OwnGo.iloadN (X : Stand p l e R s m args below meth c T locs cells slots) (hx : p.tables.exec = Jvm.exec) {pc : Nat} {L : Array Slot} {S : List Value} {k : Fin 4} {v : Int32} (hd : decode c.code pc = .ok (.iload_n k, 1)) (hl : L[k.val]? = some (.val (.int v))) (h : OwnGo p e below s rc rs Q T (mkF m (pc + 1) L (.int v :: S))) : OwnGo p e below s rc rs Q T (mkF m pc L S) := by
  exact .st (fun _ => XS.iloadN (g := mkF m pc L S) X.here hx rfl hd hl) h
theorem OwnGo.aload (X : Stand p l e R s m args below meth c T locs cells slots) (hx : p.tables.exec = Jvm.exec) {pc : Nat} {L : Array Slot} {S : List Value} {k : Nat} {v : Value} (hd : decode c.code pc = .ok (.aload k, 2)) (hl : L[k]? = some (.val v)) (hv : v.isRef = true) (h : OwnGo p e below s rc rs Q T (mkF m (pc + 2) L (v :: S))) : OwnGo p e below s rc rs Q T (mkF m pc L S) := by
  exact .st (fun _ => XS.aload (g := mkF m pc L S) X.here hx rfl hd hl hv) h
theorem OwnGo.aloadN (X : Stand p l e R s m args below meth c T locs cells slots) (hx : p.tables.exec = Jvm.exec) {pc : Nat} {L : Array Slot} {S : List Value} {k : Fin 4} {v : Value} (hd : decode c.code pc = .ok (.aload_n k, 1)) (hl : L[k.val]? = some (.val v)) (hv : v.isRef = true) (h : OwnGo p e below s rc rs Q T (mkF m (pc + 1) L (v :: S))) : OwnGo p e below s rc rs Q T (mkF m pc L S) := by
  exact .st (fun _ => XS.aloadN (g := mkF m pc L S) X.here hx rfl hd hl hv) h
theorem OwnGo.iconst (X : Stand p l e R s m args below meth c T locs cells slots) (hx : p.tables.exec = Jvm.exec) {pc : Nat} {L : Array Slot} {S : List Value} {i : Int} {n : Int32} (hd : decode c.code pc = .ok (.iconst i, 1)) (hn : Int32.ofInt i = n) (h : OwnGo p e below s rc rs Q T (mkF m (pc + 1) L (.int n :: S))) : OwnGo p e below s rc rs Q T (mkF m pc L S) := by
  subst hn
  exact .st (fun _ => XS.iconst (g := mkF m pc L S) X.here hx rfl hd) h
theorem OwnGo.bipush (X : Stand p l e R s m args below meth c T locs cells slots) (hx : p.tables.exec = Jvm.exec) {pc : Nat} {L : Array Slot} {S : List Value} {i : Int} {n : Int32} (hd : decode c.code pc = .ok (.bipush i, 2)) (hn : (Int8.ofInt i).toInt32 = n) (h : OwnGo p e below s rc rs Q T (mkF m (pc + 2) L (.int n :: S))) : OwnGo p e below s rc rs Q T (mkF m pc L S) := by
  subst hn
  exact .st (fun _ => XS.bipush (g := mkF m pc L S) X.here hx rfl hd) h
theorem OwnGo.sipush (X : Stand p l e R s m args below meth c T locs cells slots) (hx : p.tables.exec = Jvm.exec) {pc : Nat} {L : Array Slot} {S : List Value} {i : Int} {n : Int32} (hd : decode c.code pc = .ok (.sipush i, 3)) (hn : (Int16.ofInt i).toInt32 = n) (h : OwnGo p e below s rc rs Q T (mkF m (pc + 3) L (.int n :: S))) : OwnGo p e below s rc rs Q T (mkF m pc L S) := by
  subst hn
  exact .st (fun _ => XS.sipush (g := mkF m pc L S) X.here hx rfl hd) h
theorem OwnGo.aconstNull (X : Stand p l e R s m args below meth c T locs cells slots) (hx : p.tables.exec = Jvm.exec) {pc : Nat} {L : Array Slot} {S : List Value}  (hd : decode c.code pc = .ok (.aconst_null, 1)) (h : OwnGo p e below s rc rs Q T (mkF m (pc + 1) L (.null :: S))) : OwnGo p e below s rc rs Q T (mkF m pc L S) := by
  exact .st (fun _ => XS.aconstNull (g := mkF m pc L S) X.here hx rfl hd) h
theorem OwnGo.dup (X : Stand p l e R s m args below meth c T locs cells slots) (hx : p.tables.exec = Jvm.exec) {pc : Nat} {L : Array Slot} {S : List Value} {x : Value} (hd : decode c.code pc = .ok (.dup, 1)) (hc : x.category = 1) (h : OwnGo p e below s rc rs Q T (mkF m (pc + 1) L (x :: x :: S))) : OwnGo p e below s rc rs Q T (mkF m pc L (x :: S)) := by
  exact .st (fun _ => XS.dup (g := mkF m pc L (x :: S)) X.here hx rfl hd rfl hc) h
theorem OwnGo.goto (X : Stand p l e R s m args below meth c T locs cells slots) (hx : p.tables.exec = Jvm.exec) {pc : Nat} {L : Array Slot} {S : List Value} {o : Int} (pc' : Nat) (hd : decode c.code pc = .ok (.goto o, 3)) (ho : 0 ≤ (pc : Int) + o) (hp : ((pc : Int) + o).toNat = pc') (h : OwnGo p e below s rc rs Q T (mkF m pc' L S)) : OwnGo p e below s rc rs Q T (mkF m pc L S) := by
  exact .st (fun _ => XS.goto (g := mkF m pc L S) X.here hx rfl rfl hd ho hp) h
theorem OwnGo.istore (X : Stand p l e R s m args below meth c T locs cells slots) (hx : p.tables.exec = Jvm.exec) {pc : Nat} {L : Array Slot} {S : List Value} {k : Nat} {x : Int32} {L' : Array Slot} (hd : decode c.code pc = .ok (.istore k, 2)) (hl : storeLocals L k (.int x) = some L') (h : OwnGo p e below s rc rs Q T (mkF m (pc + 2) L' S)) : OwnGo p e below s rc rs Q T (mkF m pc L (.int x :: S)) := by
  exact .st (fun _ => XS.istore (g := mkF m pc L (.int x :: S)) X.here hx rfl hd rfl hl) h
theorem OwnGo.istoreN (X : Stand p l e R s m args below meth c T locs cells slots) (hx : p.tables.exec = Jvm.exec) {pc : Nat} {L : Array Slot} {S : List Value} {k : Fin 4} {x : Int32} {L' : Array Slot} (hd : decode c.code pc = .ok (.istore_n k, 1)) (hl : storeLocals L k.val (.int x) = some L') (h : OwnGo p e below s rc rs Q T (mkF m (pc + 1) L' S)) : OwnGo p e below s rc rs Q T (mkF m pc L (.int x :: S)) := by
  exact .st (fun _ => XS.istoreN (g := mkF m pc L (.int x :: S)) X.here hx rfl hd rfl hl) h
theorem OwnGo.astore (X : Stand p l e R s m args below meth c T locs cells slots) (hx : p.tables.exec = Jvm.exec) {pc : Nat} {L : Array Slot} {S : List Value} {k : Nat} {x : Value} {L' : Array Slot} (hd : decode c.code pc = .ok (.astore k, 2)) (hv : x.isRef = true) (hl : storeLocals L k x = some L') (h : OwnGo p e below s rc rs Q T (mkF m (pc + 2) L' S)) : OwnGo p e below s rc rs Q T (mkF m pc L (x :: S)) := by
  exact .st (fun _ => XS.astore (g := mkF m pc L (x :: S)) X.here hx rfl hd rfl hv hl) h
theorem OwnGo.astoreN (X : Stand p l e R s m args below meth c T locs cells slots) (hx : p.tables.exec = Jvm.exec) {pc : Nat} {L : Array Slot} {S : List Value} {k : Fin 4} {x : Value} {L' : Array Slot} (hd : decode c.code pc = .ok (.astore_n k, 1)) (hv : x.isRef = true) (hl : storeLocals L k.val x = some L') (h : OwnGo p e below s rc rs Q T (mkF m (pc + 1) L' S)) : OwnGo p e below s rc rs Q T (mkF m pc L (x :: S)) := by
  exact .st (fun _ => XS.astoreN (g := mkF m pc L (x :: S)) X.here hx rfl hd rfl hv hl) h
theorem OwnGo.iinc (X : Stand p l e R s m args below meth c T locs cells slots) (hx : p.tables.exec = Jvm.exec) {pc : Nat} {L : Array Slot} {S : List Value} {k : Nat} {cst : Int} {x y : Int32} {L' : Array Slot} (hd : decode c.code pc = .ok (.iinc k cst, 3)) (hl : L[k]? = some (.val (.int x))) (hn : x + Int32.ofInt cst = y) (hl' : storeLocals L k (.int y) = some L') (h : OwnGo p e below s rc rs Q T (mkF m (pc + 3) L' S)) : OwnGo p e below s rc rs Q T (mkF m pc L S) := by
  subst hn
  exact .st (fun _ => XS.iinc (g := mkF m pc L S) X.here hx rfl hd hl hl') h
theorem OwnGo.ifNo (X : Stand p l e R s m args below meth c T locs cells slots) (hx : p.tables.exec = Jvm.exec) {pc : Nat} {L : Array Slot} {S : List Value} {cd : ClassFile.Cond} {o : Int} {x : Int32} (hd : decode c.code pc = .ok (.ifCond cd o, 3)) (hc : ifCond.holds cd x = false) (h : OwnGo p e below s rc rs Q T (mkF m (pc + 3) L S)) : OwnGo p e below s rc rs Q T (mkF m pc L (.int x :: S)) := by
  exact .st (fun _ => XS.ifNo (g := mkF m pc L (.int x :: S)) X.here hx rfl hd rfl hc) h
theorem OwnGo.ifYes (X : Stand p l e R s m args below meth c T locs cells slots) (hx : p.tables.exec = Jvm.exec) {pc : Nat} {L : Array Slot} {S : List Value} {cd : ClassFile.Cond} {o : Int} {x : Int32} (pc' : Nat) (hd : decode c.code pc = .ok (.ifCond cd o, 3)) (hc : ifCond.holds cd x = true) (ho : 0 ≤ (pc : Int) + o) (hp : ((pc : Int) + o).toNat = pc') (h : OwnGo p e below s rc rs Q T (mkF m pc' L S)) : OwnGo p e below s rc rs Q T (mkF m pc L (.int x :: S)) := by
  exact .st (fun _ => XS.ifYes (g := mkF m pc L (.int x :: S)) X.here hx rfl rfl hd rfl hc ho hp) h
theorem OwnGo.icmpNo (X : Stand p l e R s m args below meth c T locs cells slots) (hx : p.tables.exec = Jvm.exec) {pc : Nat} {L : Array Slot} {S : List Value} {cd : ClassFile.Cond} {o : Int} {x y : Int32} (hd : decode c.code pc = .ok (.if_icmp cd o, 3)) (hc : if_icmp.holds cd x y = false) (h : OwnGo p e below s rc rs Q T (mkF m (pc + 3) L S)) : OwnGo p e below s rc rs Q T (mkF m pc L (.int y :: .int x :: S)) := by
  exact .st (fun _ => XS.icmpNo (g := mkF m pc L (.int y :: .int x :: S)) X.here hx rfl hd rfl hc) h
theorem OwnGo.tswIn (X : Stand p l e R s m args below meth c T locs cells slots) (hx : p.tables.exec = Jvm.exec) {pc : Nat} {L : Array Slot} {S : List Value} {dflt low high : Int} {offs : Array Int} {len : Nat} {o : Int} {i : Int32} (pc' : Nat) (hd : decode c.code pc = .ok (.tableswitch dflt low high offs, len)) (hin : ¬ (i.toInt < low ∨ i.toInt > high)) (hoff : offs[(i.toInt - low).toNat]? = some o) (ho : 0 ≤ (pc : Int) + o) (hp : ((pc : Int) + o).toNat = pc') (h : OwnGo p e below s rc rs Q T (mkF m pc' L S)) : OwnGo p e below s rc rs Q T (mkF m pc L (.int i :: S)) := by
  exact .st (fun _ => XS.tswIn (g := mkF m pc L (.int i :: S)) X.here hx rfl rfl hd rfl hin hoff ho hp) h
theorem OwnGo.tswOut (X : Stand p l e R s m args below meth c T locs cells slots) (hx : p.tables.exec = Jvm.exec) {pc : Nat} {L : Array Slot} {S : List Value} {dflt low high : Int} {offs : Array Int} {len : Nat} {i : Int32} (pc' : Nat) (hd : decode c.code pc = .ok (.tableswitch dflt low high offs, len)) (hout : i.toInt < low ∨ i.toInt > high) (ho : 0 ≤ (pc : Int) + dflt) (hp : ((pc : Int) + dflt).toNat = pc') (h : OwnGo p e below s rc rs Q T (mkF m pc' L S)) : OwnGo p e below s rc rs Q T (mkF m pc L (.int i :: S)) := by
  exact .st (fun _ => XS.tswOut (g := mkF m pc L (.int i :: S)) X.here hx rfl rfl hd rfl hout ho hp) h
theorem OwnGo.icmpYes (X : Stand p l e R s m args below meth c T locs cells slots) (hx : p.tables.exec = Jvm.exec) {pc : Nat} {L : Array Slot} {S : List Value} {cd : ClassFile.Cond} {o : Int} {x y : Int32} (pc' : Nat) (hd : decode c.code pc = .ok (.if_icmp cd o, 3)) (hc : if_icmp.holds cd x y = true) (ho : 0 ≤ (pc : Int) + o) (hp : ((pc : Int) + o).toNat = pc') (h : OwnGo p e below s rc rs Q T (mkF m pc' L S)) : OwnGo p e below s rc rs Q T (mkF m pc L (.int y :: .int x :: S)) := by
  exact .st (fun _ => XS.icmpYes (g := mkF m pc L (.int y :: .int x :: S)) X.here hx rfl rfl hd rfl hc ho hp) h
end Own
end Jvm.RoadKit
namespace Jvm.RoadKit
open Sem ClassFile Op Lib Jvm.Stand Jvm.Free Jvm.LawKit
section OwnW
variable {p : Program} {l : Launch} {e : Env} {R : Room} {s : State} {vm0 : Vm} {m : MethodId} {args : Array Value} {below : List Frame} {meth : Method} {c : Code} {T T' Z : State} {locs : List Loc} {cells slots rc rs k0 : Nat} {Q : Option Value → Heap → List Loc → Prop} {g g' : JFrame} {EL : List (String × Nat)} {a0 : Array Value} {h0 h : Heap}
/-- the same, where String constants may be loaded: the wide frame, and the booked constants' invariant -/
def OwnGoW (p : Program) (e : Env) (below : List Frame) (s Z : State) (EL : List (String × Nat)) (rc rs : Nat) (Q : Option Value → Heap → List Loc → Prop) (T : State) (g : JFrame) : Prop :=
  ∃ (U : State) (o : Outcome), Steps p.tables e below (T.setTop g) U ∧ U.status = .running ∧ Ended U below o ∧ ∃ v L, o = .returned v ∧ Q v U.heap L ∧ CHr Z EL s.vm s.heap U.vm U.heap ∧ ReturnedEndW s o U L rc rs
theorem OwnGoW.st (k : ∀ target, Steps p.tables e below (T'.setTop g') target → Steps p.tables e below (T.setTop g) target) (h : OwnGoW p e below s Z EL rc rs Q T' g') : OwnGoW p e below s Z EL rc rs Q T g := by
  obtain ⟨U, o, h1, h2⟩ := h
  exact ⟨U, o, k _ h1, h2⟩
theorem OwnGoW.join {ι : Type} {P : ι → Prop} {f : ι → JFrame} {T1 : State} (h : ∀ i, P i → OwnGoW p e below s Z EL rc rs Q T1 (f i)) (k : (∀ i, P i → OwnGoW p e below s Z EL rc rs Q T1 (f i)) → OwnGoW p e below s Z EL rc rs Q T g) : OwnGoW p e below s Z EL rc rs Q T g := k h
theorem OwnGoW.cast (q : g = g') (h : OwnGoW p e below s Z EL rc rs Q T g') : OwnGoW p e below s Z EL rc rs Q T g := q ▸ h
theorem OwnGoW.ret (X : Stand p l e R (s.setVm vm0) m args below meth c T locs cells slots) (hS : s.Since vm0 k0) (hk : k0 ≤ h.size) (eT : T.heap = h) (hZ : Z.Warmed39 (s.setVm vm0).vm) (hEL : EW Z a0 EL) (CR : CHr Z EL s.vm s.heap vm0 h) (hx : p.tables.exec = Jvm.exec) {pc : Nat} {Ls : Array Slot} {w : Value} {t : FieldType} {i : Instr} {rest : List Value} (hret : meth.sig.returnType = some t) (hlk : meth.locks = false) (hn : narrow t w = w)
    (hi : (i = .ireturn ∧ (t = .int ∨ t = .boolean ∨ t = .byte ∨ t = .char ∨ t = .short) ∧ ∃ z, w = .int z) ∨ (i = .lreturn ∧ t = .long ∧ ∃ z, w = .long z) ∨ (i = .dreturn ∧ t = .double ∧ ∃ z, w = .double z) ∨ (i = .freturn ∧ t = .float ∧ ∃ z, w = .float z) ∨ (i = .areturn ∧ t.isReference = true ∧ w.isRef = true))
    (hd : decode c.code pc = .ok (i, 1)) (hQ : Q (some w) T.heap locs) (hc : cells ≤ rc) (hs : slots ≤ rs) : OwnGoW p e below s Z EL rc rs Q T (mkF m pc Ls (w :: rest)) := by
  subst eT
  have CX : CHr Z EL vm0 T.heap T.vm T.heap := CHv.at X hZ hEL CR.1
  obtain ⟨fs, hr, hrun, hended, e1, e2, e3, e4⟩ := X.leaveW (v := some w) hS hk (fun h => by rw [hret] at h; cases h) hlk
  exact ⟨_, _, retOut X hx hret hn hi hd hr, hrun, hended, _, _, rfl, hQ, CR.trans CX, e1, e2, e3, e4.mono hc hs⟩
theorem OwnGoW.retN (X : Stand p l e R (s.setVm vm0) m args below meth c T locs cells slots) (hS : s.Since vm0 k0) (hk : k0 ≤ h.size) (eT : T.heap = h) (hZ : Z.Warmed39 (s.setVm vm0).vm) (hEL : EW Z a0 EL) (CR : CHr Z EL s.vm s.heap vm0 h) (hx : p.tables.exec = Jvm.exec) {pc : Nat} {Ls : Array Slot} {z : Int32} {t : FieldType} {rest : List Value} (hret : meth.sig.returnType = some t) (hlk : meth.locks = false) (ht : t = .boolean ∨ t = .byte ∨ t = .char ∨ t = .short)
    (hd : decode c.code pc = .ok (.ireturn, 1)) (hQ : Q (some (.int (nar t z))) T.heap locs) (hc : cells ≤ rc) (hs : slots ≤ rs) : OwnGoW p e below s Z EL rc rs Q T (mkF m pc Ls (.int z :: rest)) := by
  subst eT
  have CX : CHr Z EL vm0 T.heap T.vm T.heap := CHv.at X hZ hEL CR.1
  obtain ⟨fs, hr, hrun, hended, e1, e2, e3, e4⟩ := X.leaveW (v := some (.int (nar t z))) hS hk (fun h => by rw [hret] at h; cases h) hlk
  exact ⟨_, _, Jvm.RoadKit.retN X hx hret ht hd hr, hrun, hended, _, _, rfl, hQ, CR.trans CX, e1, e2, e3, e4.mono hc hs⟩
theorem OwnGoW.retV (X : Stand p l e R (s.setVm vm0) m args below meth c T locs cells slots) (hS : s.Since vm0 k0) (hk : k0 ≤ h.size) (eT : T.heap = h) (hZ : Z.Warmed39 (s.setVm vm0).vm) (hEL : EW Z a0 EL) (CR : CHr Z EL s.vm s.heap vm0 h) (hx : p.tables.exec = Jvm.exec) {pc : Nat} {Ls : Array Slot} (hret : meth.sig.returnType = none) (hlk : meth.locks = false)
    (hd : decode c.code pc = .ok (.return_, 1)) (hQ : Q none T.heap locs) (hc : cells ≤ rc) (hs : slots ≤ rs) : OwnGoW p e below s Z EL rc rs Q T (mkF m pc Ls []) := by
  subst eT
  have CX : CHr Z EL vm0 T.heap T.vm T.heap := CHv.at X hZ hEL CR.1
  obtain ⟨fs, hr, hrun, hended, e1, e2, e3, e4⟩ := X.leaveW (v := none) hS hk (fun _ => rfl) hlk
  exact ⟨_, _, X.returnOut hx hret hd hr, hrun, hended, _, _, rfl, hQ, CR.trans CX, e1, e2, e3, e4.mono hc hs⟩
theorem own_metW {y : MethodName} {bytes : ByteArray} {maxL : Nat} {ret : Option FieldType} {ws : List Jvm.Cond} {rm : Room} {as' : Array Value} (hp : plainFor y = true)
    (body : ∀ (p : Program) (e : Env) (s : State) (m : MethodId) (below : List Frame) (meth : Method) (c : Code) (s₁ : State), Stand p l e rm (s.setVm s.vm) m as' below meth c s₁ [] 0 0 → p.tables.exec = Jvm.exec → c.code = bytes → c.maxLocals = maxL → meth.sig.returnType = ret → meth.locks = false → (s.setVm s.vm).vm.findClass y.cls = some m.cls → meth.name = y.name → Z.Warmed39 (s.setVm s.vm).vm → s₁.heap = h0 →
      s.Since s.vm h0.size → CHr Z EL s.vm s.heap s.vm h0 → OwnGoW p e below s Z EL rm.cells rm.slots Q s₁ (entryFrame m as' maxL)) :
    MetFree l y (head1 (Jvm.Cond.code y bytes maxL ret :: ws) rm) (fun a U => a = as' ∧ Z.Warmed39 U.vm ∧ U.heap = h0 ∧ CHv Z EL U.vm h0) (fun _ _ _ _ _ => True) (fun _ U o U' => ∃ v L, o = .returned v ∧ Q v U'.heap L ∧ CHr Z EL U.vm U.heap U'.vm U'.heap ∧ ReturnedEndW U o U' L rm.cells rm.slots) := by
  refine MetFree.of_bodySF hp hisR ?_
  intro p e s m args below meth c s₁ Bd hml0 hP hK
  obtain ⟨rfl, hZ, hh, hC⟩ := hP
  subst hh
  exact body p e s m below meth c s₁ (Stand.of_body Bd) Bd.exec Bd.bytes hml0 Bd.returns Bd.notSynchronized (findClass_of_methodNamed Bd.named) (name_of_methodNamed Bd.named Bd.method).1 hZ (by rw [Bd.state]; rfl) ((State.WarmedH.refl s).since _) (CHr.refl hC)
theorem OwnGoW.iload (X : Stand p l e R (s.setVm vm0) m args below meth c T locs cells slots) (hx : p.tables.exec = Jvm.exec) {pc : Nat} {L : Array Slot} {S : List Value} {k : Nat} {v : Int32} (hd : decode c.code pc = .ok (.iload k, 2)) (hl : L[k]? = some (.val (.int v))) (h : OwnGoW p e below s Z EL rc rs Q T (mkF m (pc + 2) L (.int v :: S))) : OwnGoW p e below s Z EL rc rs Q T (mkF m pc L S) := by
  exact .st (fun _ => XS.iload (g := mkF m pc L S) X.here hx rfl hd hl) h
theorem OwnGoW.iloadN (X : Stand p l e R (s.setVm vm0) m args below meth c T locs cells slots) (hx : p.tables.exec = Jvm.exec) {pc : Nat} {L : Array Slot} {S : List Value} {k : Fin 4} {v : Int32} (hd : decode c.code pc = .ok (.iload_n k, 1)) (hl : L[k.val]? = some (.val (.int v))) (h : OwnGoW p e below s Z EL rc rs Q T (mkF m (pc + 1) L (.int v :: S))) : OwnGoW p e below s Z EL rc rs Q T (mkF m pc L S) := by
  exact .st (fun _ => XS.iloadN (g := mkF m pc L S) X.here hx rfl hd hl) h
theorem OwnGoW.aload (X : Stand p l e R (s.setVm vm0) m args below meth c T locs cells slots) (hx : p.tables.exec = Jvm.exec) {pc : Nat} {L : Array Slot} {S : List Value} {k : Nat} {v : Value} (hd : decode c.code pc = .ok (.aload k, 2)) (hl : L[k]? = some (.val v)) (hv : v.isRef = true) (h : OwnGoW p e below s Z EL rc rs Q T (mkF m (pc + 2) L (v :: S))) : OwnGoW p e below s Z EL rc rs Q T (mkF m pc L S) := by
  exact .st (fun _ => XS.aload (g := mkF m pc L S) X.here hx rfl hd hl hv) h
theorem OwnGoW.aloadN (X : Stand p l e R (s.setVm vm0) m args below meth c T locs cells slots) (hx : p.tables.exec = Jvm.exec) {pc : Nat} {L : Array Slot} {S : List Value} {k : Fin 4} {v : Value} (hd : decode c.code pc = .ok (.aload_n k, 1)) (hl : L[k.val]? = some (.val v)) (hv : v.isRef = true) (h : OwnGoW p e below s Z EL rc rs Q T (mkF m (pc + 1) L (v :: S))) : OwnGoW p e below s Z EL rc rs Q T (mkF m pc L S) := by
  exact .st (fun _ => XS.aloadN (g := mkF m pc L S) X.here hx rfl hd hl hv) h
theorem OwnGoW.iconst (X : Stand p l e R (s.setVm vm0) m args below meth c T locs cells slots) (hx : p.tables.exec = Jvm.exec) {pc : Nat} {L : Array Slot} {S : List Value} {i : Int} {n : Int32} (hd : decode c.code pc = .ok (.iconst i, 1)) (hn : Int32.ofInt i = n) (h : OwnGoW p e below s Z EL rc rs Q T (mkF m (pc + 1) L (.int n :: S))) : OwnGoW p e below s Z EL rc rs Q T (mkF m pc L S) := by
  subst hn
  exact .st (fun _ => XS.iconst (g := mkF m pc L S) X.here hx rfl hd) h
theorem OwnGoW.bipush (X : Stand p l e R (s.setVm vm0) m args below meth c T locs cells slots) (hx : p.tables.exec = Jvm.exec) {pc : Nat} {L : Array Slot} {S : List Value} {i : Int} {n : Int32} (hd : decode c.code pc = .ok (.bipush i, 2)) (hn : (Int8.ofInt i).toInt32 = n) (h : OwnGoW p e below s Z EL rc rs Q T (mkF m (pc + 2) L (.int n :: S))) : OwnGoW p e below s Z EL rc rs Q T (mkF m pc L S) := by
  subst hn
  exact .st (fun _ => XS.bipush (g := mkF m pc L S) X.here hx rfl hd) h
theorem OwnGoW.sipush (X : Stand p l e R (s.setVm vm0) m args below meth c T locs cells slots) (hx : p.tables.exec = Jvm.exec) {pc : Nat} {L : Array Slot} {S : List Value} {i : Int} {n : Int32} (hd : decode c.code pc = .ok (.sipush i, 3)) (hn : (Int16.ofInt i).toInt32 = n) (h : OwnGoW p e below s Z EL rc rs Q T (mkF m (pc + 3) L (.int n :: S))) : OwnGoW p e below s Z EL rc rs Q T (mkF m pc L S) := by
  subst hn
  exact .st (fun _ => XS.sipush (g := mkF m pc L S) X.here hx rfl hd) h
theorem OwnGoW.aconstNull (X : Stand p l e R (s.setVm vm0) m args below meth c T locs cells slots) (hx : p.tables.exec = Jvm.exec) {pc : Nat} {L : Array Slot} {S : List Value}  (hd : decode c.code pc = .ok (.aconst_null, 1)) (h : OwnGoW p e below s Z EL rc rs Q T (mkF m (pc + 1) L (.null :: S))) : OwnGoW p e below s Z EL rc rs Q T (mkF m pc L S) := by
  exact .st (fun _ => XS.aconstNull (g := mkF m pc L S) X.here hx rfl hd) h
theorem OwnGoW.dup (X : Stand p l e R (s.setVm vm0) m args below meth c T locs cells slots) (hx : p.tables.exec = Jvm.exec) {pc : Nat} {L : Array Slot} {S : List Value} {x : Value} (hd : decode c.code pc = .ok (.dup, 1)) (hc : x.category = 1) (h : OwnGoW p e below s Z EL rc rs Q T (mkF m (pc + 1) L (x :: x :: S))) : OwnGoW p e below s Z EL rc rs Q T (mkF m pc L (x :: S)) := by
  exact .st (fun _ => XS.dup (g := mkF m pc L (x :: S)) X.here hx rfl hd rfl hc) h
theorem OwnGoW.goto (X : Stand p l e R (s.setVm vm0) m args below meth c T locs cells slots) (hx : p.tables.exec = Jvm.exec) {pc : Nat} {L : Array Slot} {S : List Value} {o : Int} (pc' : Nat) (hd : decode c.code pc = .ok (.goto o, 3)) (ho : 0 ≤ (pc : Int) + o) (hp : ((pc : Int) + o).toNat = pc') (h : OwnGoW p e below s Z EL rc rs Q T (mkF m pc' L S)) : OwnGoW p e below s Z EL rc rs Q T (mkF m pc L S) := by
  exact .st (fun _ => XS.goto (g := mkF m pc L S) X.here hx rfl rfl hd ho hp) h
theorem OwnGoW.istore (X : Stand p l e R (s.setVm vm0) m args below meth c T locs cells slots) (hx : p.tables.exec = Jvm.exec) {pc : Nat} {L : Array Slot} {S : List Value} {k : Nat} {x : Int32} {L' : Array Slot} (hd : decode c.code pc = .ok (.istore k, 2)) (hl : storeLocals L k (.int x) = some L') (h : OwnGoW p e below s Z EL rc rs Q T (mkF m (pc + 2) L' S)) : OwnGoW p e below s Z EL rc rs Q T (mkF m pc L (.int x :: S)) := by
  exact .st (fun _ => XS.istore (g := mkF m pc L (.int x :: S)) X.here hx rfl hd rfl hl) h
theorem OwnGoW.istoreN (X : Stand p l e R (s.setVm vm0) m args below meth c T locs cells slots) (hx : p.tables.exec = Jvm.exec) {pc : Nat} {L : Array Slot} {S : List Value} {k : Fin 4} {x : Int32} {L' : Array Slot} (hd : decode c.code pc = .ok (.istore_n k, 1)) (hl : storeLocals L k.val (.int x) = some L') (h : OwnGoW p e below s Z EL rc rs Q T (mkF m (pc + 1) L' S)) : OwnGoW p e below s Z EL rc rs Q T (mkF m pc L (.int x :: S)) := by
  exact .st (fun _ => XS.istoreN (g := mkF m pc L (.int x :: S)) X.here hx rfl hd rfl hl) h
theorem OwnGoW.astore (X : Stand p l e R (s.setVm vm0) m args below meth c T locs cells slots) (hx : p.tables.exec = Jvm.exec) {pc : Nat} {L : Array Slot} {S : List Value} {k : Nat} {x : Value} {L' : Array Slot} (hd : decode c.code pc = .ok (.astore k, 2)) (hv : x.isRef = true) (hl : storeLocals L k x = some L') (h : OwnGoW p e below s Z EL rc rs Q T (mkF m (pc + 2) L' S)) : OwnGoW p e below s Z EL rc rs Q T (mkF m pc L (x :: S)) := by
  exact .st (fun _ => XS.astore (g := mkF m pc L (x :: S)) X.here hx rfl hd rfl hv hl) h
theorem OwnGoW.astoreN (X : Stand p l e R (s.setVm vm0) m args below meth c T locs cells slots) (hx : p.tables.exec = Jvm.exec) {pc : Nat} {L : Array Slot} {S : List Value} {k : Fin 4} {x : Value} {L' : Array Slot} (hd : decode c.code pc = .ok (.astore_n k, 1)) (hv : x.isRef = true) (hl : storeLocals L k.val x = some L') (h : OwnGoW p e below s Z EL rc rs Q T (mkF m (pc + 1) L' S)) : OwnGoW p e below s Z EL rc rs Q T (mkF m pc L (x :: S)) := by
  exact .st (fun _ => XS.astoreN (g := mkF m pc L (x :: S)) X.here hx rfl hd rfl hv hl) h
theorem OwnGoW.iinc (X : Stand p l e R (s.setVm vm0) m args below meth c T locs cells slots) (hx : p.tables.exec = Jvm.exec) {pc : Nat} {L : Array Slot} {S : List Value} {k : Nat} {cst : Int} {x y : Int32} {L' : Array Slot} (hd : decode c.code pc = .ok (.iinc k cst, 3)) (hl : L[k]? = some (.val (.int x))) (hn : x + Int32.ofInt cst = y) (hl' : storeLocals L k (.int y) = some L') (h : OwnGoW p e below s Z EL rc rs Q T (mkF m (pc + 3) L' S)) : OwnGoW p e below s Z EL rc rs Q T (mkF m pc L S) := by
  subst hn
  exact .st (fun _ => XS.iinc (g := mkF m pc L S) X.here hx rfl hd hl hl') h
theorem OwnGoW.ifNo (X : Stand p l e R (s.setVm vm0) m args below meth c T locs cells slots) (hx : p.tables.exec = Jvm.exec) {pc : Nat} {L : Array Slot} {S : List Value} {cd : ClassFile.Cond} {o : Int} {x : Int32} (hd : decode c.code pc = .ok (.ifCond cd o, 3)) (hc : ifCond.holds cd x = false) (h : OwnGoW p e below s Z EL rc rs Q T (mkF m (pc + 3) L S)) : OwnGoW p e below s Z EL rc rs Q T (mkF m pc L (.int x :: S)) := by
  exact .st (fun _ => XS.ifNo (g := mkF m pc L (.int x :: S)) X.here hx rfl hd rfl hc) h
theorem OwnGoW.ifYes (X : Stand p l e R (s.setVm vm0) m args below meth c T locs cells slots) (hx : p.tables.exec = Jvm.exec) {pc : Nat} {L : Array Slot} {S : List Value} {cd : ClassFile.Cond} {o : Int} {x : Int32} (pc' : Nat) (hd : decode c.code pc = .ok (.ifCond cd o, 3)) (hc : ifCond.holds cd x = true) (ho : 0 ≤ (pc : Int) + o) (hp : ((pc : Int) + o).toNat = pc') (h : OwnGoW p e below s Z EL rc rs Q T (mkF m pc' L S)) : OwnGoW p e below s Z EL rc rs Q T (mkF m pc L (.int x :: S)) := by
  exact .st (fun _ => XS.ifYes (g := mkF m pc L (.int x :: S)) X.here hx rfl rfl hd rfl hc ho hp) h
theorem OwnGoW.icmpNo (X : Stand p l e R (s.setVm vm0) m args below meth c T locs cells slots) (hx : p.tables.exec = Jvm.exec) {pc : Nat} {L : Array Slot} {S : List Value} {cd : ClassFile.Cond} {o : Int} {x y : Int32} (hd : decode c.code pc = .ok (.if_icmp cd o, 3)) (hc : if_icmp.holds cd x y = false) (h : OwnGoW p e below s Z EL rc rs Q T (mkF m (pc + 3) L S)) : OwnGoW p e below s Z EL rc rs Q T (mkF m pc L (.int y :: .int x :: S)) := by
  exact .st (fun _ => XS.icmpNo (g := mkF m pc L (.int y :: .int x :: S)) X.here hx rfl hd rfl hc) h
theorem OwnGoW.tswIn (X : Stand p l e R (s.setVm vm0) m args below meth c T locs cells slots) (hx : p.tables.exec = Jvm.exec) {pc : Nat} {L : Array Slot} {S : List Value} {dflt low high : Int} {offs : Array Int} {len : Nat} {o : Int} {i : Int32} (pc' : Nat) (hd : decode c.code pc = .ok (.tableswitch dflt low high offs, len)) (hin : ¬ (i.toInt < low ∨ i.toInt > high)) (hoff : offs[(i.toInt - low).toNat]? = some o) (ho : 0 ≤ (pc : Int) + o) (hp : ((pc : Int) + o).toNat = pc') (h : OwnGoW p e below s Z EL rc rs Q T (mkF m pc' L S)) : OwnGoW p e below s Z EL rc rs Q T (mkF m pc L (.int i :: S)) := by
  exact .st (fun _ => XS.tswIn (g := mkF m pc L (.int i :: S)) X.here hx rfl rfl hd rfl hin hoff ho hp) h
theorem OwnGoW.tswOut (X : Stand p l e R (s.setVm vm0) m args below meth c T locs cells slots) (hx : p.tables.exec = Jvm.exec) {pc : Nat} {L : Array Slot} {S : List Value} {dflt low high : Int} {offs : Array Int} {len : Nat} {i : Int32} (pc' : Nat) (hd : decode c.code pc = .ok (.tableswitch dflt low high offs, len)) (hout : i.toInt < low ∨ i.toInt > high) (ho : 0 ≤ (pc : Int) + dflt) (hp : ((pc : Int) + dflt).toNat = pc') (h : OwnGoW p e below s Z EL rc rs Q T (mkF m pc' L S)) : OwnGoW p e below s Z EL rc rs Q T (mkF m pc L (.int i :: S)) := by
  exact .st (fun _ => XS.tswOut (g := mkF m pc L (.int i :: S)) X.here hx rfl rfl hd rfl hout ho hp) h
theorem OwnGoW.icmpYes (X : Stand p l e R (s.setVm vm0) m args below meth c T locs cells slots) (hx : p.tables.exec = Jvm.exec) {pc : Nat} {L : Array Slot} {S : List Value} {cd : ClassFile.Cond} {o : Int} {x y : Int32} (pc' : Nat) (hd : decode c.code pc = .ok (.if_icmp cd o, 3)) (hc : if_icmp.holds cd x y = true) (ho : 0 ≤ (pc : Int) + o) (hp : ((pc : Int) + o).toNat = pc') (h : OwnGoW p e below s Z EL rc rs Q T (mkF m pc' L S)) : OwnGoW p e below s Z EL rc rs Q T (mkF m pc L (.int y :: .int x :: S)) := by
  exact .st (fun _ => XS.icmpYes (g := mkF m pc L (.int y :: .int x :: S)) X.here hx rfl rfl hd rfl hc ho hp) h
end OwnW
end Jvm.RoadKit
namespace Jvm.RoadKit
open Sem ClassFile Op Lib Jvm.Stand Jvm.Free Jvm.LawKit
section Own
variable {p : Program} {l : Launch} {e : Env} {R : Room} {s : State} {m : MethodId} {args : Array Value} {below : List Frame} {meth : Method} {c : Code} {T T' : State} {locs : List Loc} {cells slots rc rs : Nat}
/-- System.arraycopy of bytes between two known arrays -/
theorem own_copy {Z : State} {h : Heap} (X : Stand p l e R s m args below meth c T locs cells slots) (hx : p.tables.exec = Jvm.exec) (hZ : Z.Warmed39 s.vm) {a0 : Array Value} {own : String} {index : Nat} (hown : s.vm.findClass own = some m.cls)
    (w1 : (Cond.methodLink own index arraycopyName).before a0 Z = true) (w2 : (Cond.native arraycopyName).before a0 Z = true) (w3 : (Cond.static arraycopyName).before a0 Z = true) (w4 : (Cond.initialized "java/lang/System").before a0 Z = true)
    (eT : T.heap = h) {src dst : Addr} {ks kd : ClassId} {zs zd : Int32} {vs vd us : List Value} {d d' : Value} (A : Arv Z h src ks .byte zs vs d) (B : Arv Z h dst kd .byte zd vd d') {sp dp n : Int32} (h1 : ¬ sp < 0) (h2 : ¬ dp < 0) (h3 : ¬ n < 0)
    (h4 : sp.toNatClampNeg + n.toNatClampNeg ≤ zs.toNatClampNeg) (h5 : dp.toNatClampNeg + n.toNatClampNeg ≤ zd.toNatClampNeg)
    (hus : ∀ i, i < zd.toNatClampNeg → us.getD i d' = if dp.toNatClampNeg ≤ i ∧ i < dp.toNatClampNeg + n.toNatClampNeg then vs.getD (sp.toNatClampNeg + (i - dp.toNatClampNeg)) d else vd.getD i d')
    {g : JFrame} (hg : g.method = m) (hsize : g.locals.size = c.maxLocals) {rest : List Value} (hst : g.stack = .int n :: .int dp :: .ref dst :: .int sp :: .ref src :: rest) (hd : decode c.code g.pc = .ok (.invokestatic index, 3))
    (hf : 1 ≤ R.frames) {W : Nat} (hW : 2 * g.monitorRoom + (rest.map fun v => v.category).sum ≤ W) (hl : W + 18 ≤ R.locals) :
    ∃ T' h' L', Stand p l e R s m args below meth c T' (locs ++ L') cells slots ∧ T'.heap = h' ∧ Keep h h' [dst] ∧ Arv Z h' dst kd .byte zd us d' ∧ (∀ k, k ≤ dst → Fr k L') ∧
      ∀ target, Steps p.tables e below (T'.setTop { g with pc := g.pc + 3, stack := rest }) target → Steps p.tables e below (T.setTop g) target := by
  subst eT
  obtain ⟨cs, As, as1, as2, as3, HA, GA⟩ := A
  obtain ⟨cd, Bs, bs1, bs2, bs3, HB, GB⟩ := B
  obtain ⟨s1, s2, s3, s4, s5⟩ := State.isArrayOf_alike hZ.alike As.2.1
  obtain ⟨d1, d2, d3, d4, d5⟩ := State.isArrayOf_alike hZ.alike Bs.2.1
  have tn : ∀ z : Int32, ¬ z < 0 → z.toInt = (z.toNatClampNeg : Int) := fun z hz => by
    rw [Int32.lt_iff_toInt_lt] at hz
    have e0 : (0 : Int32).toInt = 0 := by decide
    show z.toInt = ((z.toInt.toNat : Nat) : Int)
    omega
  have hv : ∀ i, i < n.toNatClampNeg → cs.slots.getD (sp.toNatClampNeg + i) .null = vs.getD (sp.toNatClampNeg + i) d := fun i hi => by
    have := HA (sp.toNatClampNeg + i) (by omega)
    rw [Array.getD_eq_getD_getElem?, this]; rfl
  obtain ⟨vm', X', st⟩ := X.arraycopy hx hown (mvT hZ w1) (mvT hZ w2) (mvT hZ w3) (mvT hZ w4) (src := src) (dst := dst) (srcPos := sp) (destPos := dp) (n := n) (sType := .byte) (dType := .byte) As.1 Bs.1 s1 d1 As.2.2 Bs.2.2 s3 d3 s5 d5 rfl h1 h2 h3
    (by rw [tn _ h1, tn _ h3, as2]; omega) (by rw [tn _ h2, tn _ h3, bs2]; omega)
    (fun vm' hal i hi => by
      rw [hv i hi]
      have f := GA (sp.toNatClampNeg + i) (by omega)
      refine ⟨f, ?_⟩
      generalize vs.getD (sp.toNatClampNeg + i) d = v at f
      cases v <;> simp [fits] at f <;> exact trivial) hg hsize hst hd hf (by show _ + _ + (7 + 11) ≤ _; omega)
  have hsl : (cs.stretch sp.toNatClampNeg n.toNatClampNeg).length = n.toNatClampNeg := by simp [Cell.stretch]
  obtain ⟨f1, f2, f3, -, -⟩ := cd.storeRun_facts dp.toNatClampNeg (cs.stretch sp.toNatClampNeg n.toNatClampNeg)
  have hlt := Bs.lt
  have hg1 : ((T.setVm vm').setCell dst (cd.storeRun dp.toNatClampNeg (cs.stretch sp.toNatClampNeg n.toNatClampNeg))).heap[dst]? = some (cd.storeRun dp.toNatClampNeg (cs.stretch sp.toNatClampNeg n.toNatClampNeg)) := State.heap_setCell_self (s := T.setVm vm') Bs.1
  have hat : ∀ i, i < zd.toNatClampNeg → (cd.storeRun dp.toNatClampNeg (cs.stretch sp.toNatClampNeg n.toNatClampNeg)).slots[i]? = some (us.getD i d') := fun i hi => by
    rw [Cell.storeRun_get _ _ _ _ (by rw [hsl, bs2]; exact h5), hsl, hus i hi]
    by_cases q : dp.toNatClampNeg ≤ i ∧ i < dp.toNatClampNeg + n.toNatClampNeg
    · rw [if_pos q, if_pos q, ← hv _ (by omega)]
      have hb : i - dp.toNatClampNeg < n.toNatClampNeg := by omega
      simp [Cell.stretch, hb]
    · rw [if_neg q, if_neg q]
      exact HB i (by omega)
  refine ⟨_, _, _, X', rfl, ⟨?_, ?_, ?_⟩, ⟨_, ⟨hg1, ⟨by rw [f2]; exact Bs.2.1.1, by rw [f1]; exact Bs.2.1.2⟩, by rw [f2]; exact Bs.2.2⟩, f1.trans bs1, f3.trans bs2, bs3, fun i hi => hat i (by rw [f3, bs2] at hi; exact hi), fun i hi => ?_⟩, ?_, st⟩
  · show T.heap.size ≤ (T.heap.setIfInBounds dst _).size
    simp
  · intro x cx hx' hn
    have hne : dst ≠ x := fun e => hn (e ▸ List.mem_singleton.mpr rfl)
    exact (State.heap_setCell_other (s := T.setVm vm') hne).trans hx'
  · intro x cx hx'
    by_cases q : dst = x
    · subst q
      cases Bs.1.symm.trans hx'
      exact ⟨_, hg1, f1, f2, f3⟩
    · exact ⟨cx, (State.heap_setCell_other (s := T.setVm vm') q).trans hx', rfl, rfl, rfl⟩
  · rw [f3, bs2] at hi
    rw [hus i hi]
    by_cases q : dp.toNatClampNeg ≤ i ∧ i < dp.toNatClampNeg + n.toNatClampNeg
    · rw [if_pos q]; exact GA _ (by omega)
    · rw [if_neg q]; exact GB _ (by omega)
  · intro k hk y hy
    obtain ⟨q, -, rfl⟩ := List.mem_map.mp hy
    exact hk
end Own
end Jvm.RoadKit
set_option maxRecDepth 65536
set_option maxHeartbeats 40000000
namespace Jvm.Pilot.@@N@@
open Jvm Jvm.ClassFile Sem Op Lib Jvm.Free Jvm.Stand Jvm.LawKit Jvm.RoadKit Bundle Jvm.Pilot.@@N@@.Jvm.D
theorem W_ {Z : State} {a0 : Array Value} {d : Jvm.Cond} (hw : ∀ d ∈ tables_1, d.before a0 Z = true) (i : Nat) (h : tables_1[i]? = some d) : d.before a0 Z = true := hw d (List.mem_of_getElem? h)
abbrev own_tb (a0 : Array Value) (Z : State) : Prop := ∀ d ∈ tables_1, d.before a0 Z = true
abbrev OwnMet (l : Launch) (y : MethodName) (bytes : ByteArray) (ml : Nat) (rt : Option FieldType) (ws : List Jvm.Cond) (rm : Room) (as' : Array Value) (Z : State) (h0 : Heap) (Q : Option Value → Heap → List Loc → Prop) : Prop := MetFree l y (head1 (Jvm.Cond.code y bytes ml rt :: ws) rm) (fun as_ UU => as_ = as' ∧ Z.Warmed39 UU.vm ∧ UU.heap = h0) (fun _ _ _ _ _ => True) (fun _ UU oo UU' => ∃ vv LL, oo = .returned vv ∧ Q vv UU'.heap LL ∧ FrameEnd UU oo UU' LL rm.cells rm.slots)
def own_EL : List (String × Nat) := [("com/example/cofferhand/cofferhand/nbt/NbtWriterToByteArrayPinLaw", 14)]
theorem own_sAt : ∀ a ∈ Bundle.stringAtoms, a ∈ tables_1 := by decide +kernel
theorem own_wS {Z : State} {a0 : Array Value} (hw : ∀ d ∈ tables_1, d.before a0 Z = true) : ∀ a ∈ Bundle.stringAtoms, a.before a0 Z = true := fun a ha => hw a (own_sAt a ha)
theorem own_hEL {Z : State} {a0 : Array Value} (hw : ∀ d ∈ tables_1, d.before a0 Z = true) : EW Z a0 own_EL := (EW.cons (W_ hw 243 rfl) (by decide) EW.nil)
theorem own_sh0 (z : Int32) : (z >>> ((0 : Int32) &&& 31)) = z := by
  apply Int32.toBitVec_inj.mp
  show BitVec.sshiftRight _ _ = _
  simp
def own_lo (c : Int32) : Int32 := (c >>> ((0 : Int32) &&& 31)).toInt8.toInt32
def own_hi (c : Int32) : Int32 := (c >>> ((8 : Int32) &&& 31)).toInt8.toInt32
def own_u (c : Int32) : Prop := ¬ c < (0 : Int32) ∧ ¬ (65535 : Int32) < c
theorem own_u_of (p : Int32) : own_u (p.toUInt32.toUInt16.toUInt32.toInt32) := by
  have h2 := c_i2c p
  have e0 : (0 : Int32).toInt = 0 := by decide
  have e1 : (65535 : Int32).toInt = 65535 := by decide
  constructor
  · rw [Int32.lt_iff_toInt_lt]; omega
  · rw [Int32.lt_iff_toInt_lt]; omega
theorem own_uch {c : Int32} (h : own_u c) : ((((own_lo c &&& (255 : Int32)) <<< ((0 : Int32) &&& 31)) ||| ((own_hi c &&& (255 : Int32)) <<< ((8 : Int32) &&& 31))).toUInt32.toUInt16.toUInt32.toInt32) = c := by
  obtain ⟨h0, h1⟩ := h
  rw [Int32.lt_iff_toInt_lt] at h0 h1
  have e0 : (0 : Int32).toInt = 0 := by decide
  have e1 : (65535 : Int32).toInt = 65535 := by decide
  have a1 := c_ishr c 0 0 (by decide)
  have a2 := c_ishr c 8 8 (by decide)
  have b1 := c_i2b (c >>> ((0 : Int32) &&& 31))
  have b2 := c_i2b (c >>> ((8 : Int32) &&& 31))
  have m1 := c_mask (own_lo c) 255 8 (by decide) (by decide)
  have m2 := c_mask (own_hi c) 255 8 (by decide) (by decide)
  rw [show (c >>> ((0 : Int32) &&& 31)).toInt8.toInt32 = own_lo c from rfl] at b1
  rw [show (c >>> ((8 : Int32) &&& 31)).toInt8.toInt32 = own_hi c from rfl] at b2
  have p0 : ((2 ^ 0 : Nat) : Int) = 1 := by decide
  have p8 : ((2 ^ 8 : Nat) : Int) = 256 := by decide
  rw [p0] at a1
  rw [p8] at a2 m1 m2
  generalize own_lo c &&& (255 : Int32) = x at *
  generalize own_hi c &&& (255 : Int32) = y at *
  have s1 := c_ishl x 0 0 (by decide)
  have s2 := c_ishl y 8 8 (by decide)
  rw [p0] at s1
  rw [p8] at s2
  have rx := rng32 (x <<< ((0 : Int32) &&& 31))
  have ry := rng32 (y <<< ((8 : Int32) &&& 31))
  generalize x <<< ((0 : Int32) &&& 31) = u at *
  generalize y <<< ((8 : Int32) &&& 31) = v at *
  have o := c_or' u v 8 (by decide) 256 (by decide) (by omega) (by omega) (by omega)
  have ro := rng32 (u ||| v)
  generalize u ||| v = w at *
  have q := c_i2c w
  apply Int32.toInt_inj.mp
  omega
theorem own_unc {c : Int32} (h : own_u c) : nar .char c = c := by
  obtain ⟨h0, h1⟩ := h
  rw [Int32.lt_iff_toInt_lt] at h0 h1
  have e0 : (0 : Int32).toInt = 0 := by decide
  have e1 : (65535 : Int32).toInt = 65535 := by decide
  have q := c_i2c c
  show c.toUInt32.toUInt16.toUInt32.toInt32 = c
  apply Int32.toInt_inj.mp
  omega
theorem own_b32 {c : Int32} (h : own_u c) (h1 : ¬ (255 : Int32) < c) : c.toInt8.toInt32 = (32 : Int32) ↔ c = (32 : Int32) := by
  obtain ⟨h0, -⟩ := h
  rw [Int32.lt_iff_toInt_lt] at h0 h1
  have e0 : (0 : Int32).toInt = 0 := by decide
  have e1 : (255 : Int32).toInt = 255 := by decide
  have e2 : (32 : Int32).toInt = 32 := by decide
  have q := c_i2b c
  rw [← Int32.toInt_inj, ← Int32.toInt_inj, e2]
  omega
theorem own_nand {A B : Prop} (h : ¬ (¬ A ∧ B)) : A ∨ ¬ B := (Classical.em A).elim Or.inl (fun n => Or.inr (fun b => h ⟨n, b⟩))
def own_S0 (Z : State) (h : Heap) (x t : Addr) (kb : ClassId)  : Prop := Exa Z h x "java/lang/String" ∧ Fld Z h x "java/lang/String" "value" "[B" (.ref t) ∧ ((Fld Z h x "java/lang/String" "coder" "B" (.int (0 : Int32)) ∧ Arv Z h t kb .byte (0 : Int32) [] (.int (0 : Int32)) ∧ (True)) ∨ (Fld Z h x "java/lang/String" "coder" "B" (.int (1 : Int32)) ∧ Arv Z h t kb .byte (0 : Int32) [] (.int (0 : Int32))))
theorem own_S0.ext {Z : State} {h h' : Heap} {x t : Addr} {kb : ClassId}  (SS : own_S0 Z h x t kb ) (E : Ext h h') : own_S0 Z h' x t kb  := ⟨SS.1.ext E, SS.2.1.ext E, SS.2.2.imp (fun q => ⟨q.1.ext E, q.2.1.ext E, q.2.2⟩) (fun q => ⟨q.1.ext E, q.2.ext E⟩)⟩
theorem own_S0.wr {Z : State} {h h' : Heap} {x t : Addr} {kb : ClassId}  {b : Addr} {sl : Nat} {v : Value} (SS : own_S0 Z h x t kb ) (W : Wr h h' b sl v) (nx : x ≠ b) (nt : t ≠ b) : own_S0 Z h' x t kb  := ⟨SS.1.wr W, SS.2.1.other W (Or.inl nx), SS.2.2.imp (fun q => ⟨q.1.other W (Or.inl nx), q.2.1.other W nt, q.2.2⟩) (fun q => ⟨q.1.other W (Or.inl nx), q.2.other W nt⟩)⟩
theorem own_S0.keep {Z : State} {h h' : Heap} {x t : Addr} {kb : ClassId}  {ws : List Addr} (SS : own_S0 Z h x t kb ) (K : Keep h h' ws) (nx : x ∉ ws) (nt : t ∉ ws) : own_S0 Z h' x t kb  := ⟨SS.1.keep K, SS.2.1.keep K nx, SS.2.2.imp (fun q => ⟨q.1.keep K nx, q.2.1.keep K nt, q.2.2⟩) (fun q => ⟨q.1.keep K nx, q.2.keep K nt⟩)⟩
theorem own_S0.ltx {Z : State} {h : Heap} {x t : Addr} {kb : ClassId}  (SS : own_S0 Z h x t kb ) : x < h.size := SS.1.lt
theorem own_S0.ltt {Z : State} {h : Heap} {x t : Addr} {kb : ClassId}  (SS : own_S0 Z h x t kb ) : t < h.size := SS.2.2.elim (fun q => q.2.1.lt) (fun q => q.2.lt)
def own_S1 (Z : State) (h : Heap) (x t : Addr) (kb : ClassId) (c0 : Int32) : Prop := Exa Z h x "java/lang/String" ∧ Fld Z h x "java/lang/String" "value" "[B" (.ref t) ∧ ((Fld Z h x "java/lang/String" "coder" "B" (.int (0 : Int32)) ∧ Arv Z h t kb .byte (1 : Int32) [(.int c0.toInt8.toInt32)] (.int (0 : Int32)) ∧ (¬ (255 : Int32) < c0)) ∨ (Fld Z h x "java/lang/String" "coder" "B" (.int (1 : Int32)) ∧ Arv Z h t kb .byte (2 : Int32) [(.int (own_lo c0)), (.int (own_hi c0))] (.int (0 : Int32))))
theorem own_S1.ext {Z : State} {h h' : Heap} {x t : Addr} {kb : ClassId} {c0 : Int32} (SS : own_S1 Z h x t kb c0) (E : Ext h h') : own_S1 Z h' x t kb c0 := ⟨SS.1.ext E, SS.2.1.ext E, SS.2.2.imp (fun q => ⟨q.1.ext E, q.2.1.ext E, q.2.2⟩) (fun q => ⟨q.1.ext E, q.2.ext E⟩)⟩
theorem own_S1.wr {Z : State} {h h' : Heap} {x t : Addr} {kb : ClassId} {c0 : Int32} {b : Addr} {sl : Nat} {v : Value} (SS : own_S1 Z h x t kb c0) (W : Wr h h' b sl v) (nx : x ≠ b) (nt : t ≠ b) : own_S1 Z h' x t kb c0 := ⟨SS.1.wr W, SS.2.1.other W (Or.inl nx), SS.2.2.imp (fun q => ⟨q.1.other W (Or.inl nx), q.2.1.other W nt, q.2.2⟩) (fun q => ⟨q.1.other W (Or.inl nx), q.2.other W nt⟩)⟩
theorem own_S1.keep {Z : State} {h h' : Heap} {x t : Addr} {kb : ClassId} {c0 : Int32} {ws : List Addr} (SS : own_S1 Z h x t kb c0) (K : Keep h h' ws) (nx : x ∉ ws) (nt : t ∉ ws) : own_S1 Z h' x t kb c0 := ⟨SS.1.keep K, SS.2.1.keep K nx, SS.2.2.imp (fun q => ⟨q.1.keep K nx, q.2.1.keep K nt, q.2.2⟩) (fun q => ⟨q.1.keep K nx, q.2.keep K nt⟩)⟩
theorem own_S1.ltx {Z : State} {h : Heap} {x t : Addr} {kb : ClassId} {c0 : Int32} (SS : own_S1 Z h x t kb c0) : x < h.size := SS.1.lt
theorem own_S1.ltt {Z : State} {h : Heap} {x t : Addr} {kb : ClassId} {c0 : Int32} (SS : own_S1 Z h x t kb c0) : t < h.size := SS.2.2.elim (fun q => q.2.1.lt) (fun q => q.2.lt)
def own_S2 (Z : State) (h : Heap) (x t : Addr) (kb : ClassId) (c0 : Int32) (c1 : Int32) : Prop := Exa Z h x "java/lang/String" ∧ Fld Z h x "java/lang/String" "value" "[B" (.ref t) ∧ ((Fld Z h x "java/lang/String" "coder" "B" (.int (0 : Int32)) ∧ Arv Z h t kb .byte (2 : Int32) [(.int c0.toInt8.toInt32), (.int c1.toInt8.toInt32)] (.int (0 : Int32)) ∧ (¬ (255 : Int32) < c0 ∧ ¬ (255 : Int32) < c1)) ∨ (Fld Z h x "java/lang/String" "coder" "B" (.int (1 : Int32)) ∧ Arv Z h t kb .byte (4 : Int32) [(.int (own_lo c0)), (.int (own_hi c0)), (.int (own_lo c1)), (.int (own_hi c1))] (.int (0 : Int32))))
theorem own_S2.ext {Z : State} {h h' : Heap} {x t : Addr} {kb : ClassId} {c0 : Int32} {c1 : Int32} (SS : own_S2 Z h x t kb c0 c1) (E : Ext h h') : own_S2 Z h' x t kb c0 c1 := ⟨SS.1.ext E, SS.2.1.ext E, SS.2.2.imp (fun q => ⟨q.1.ext E, q.2.1.ext E, q.2.2⟩) (fun q => ⟨q.1.ext E, q.2.ext E⟩)⟩
theorem own_S2.wr {Z : State} {h h' : Heap} {x t : Addr} {kb : ClassId} {c0 : Int32} {c1 : Int32} {b : Addr} {sl : Nat} {v : Value} (SS : own_S2 Z h x t kb c0 c1) (W : Wr h h' b sl v) (nx : x ≠ b) (nt : t ≠ b) : own_S2 Z h' x t kb c0 c1 := ⟨SS.1.wr W, SS.2.1.other W (Or.inl nx), SS.2.2.imp (fun q => ⟨q.1.other W (Or.inl nx), q.2.1.other W nt, q.2.2⟩) (fun q => ⟨q.1.other W (Or.inl nx), q.2.other W nt⟩)⟩
theorem own_S2.keep {Z : State} {h h' : Heap} {x t : Addr} {kb : ClassId} {c0 : Int32} {c1 : Int32} {ws : List Addr} (SS : own_S2 Z h x t kb c0 c1) (K : Keep h h' ws) (nx : x ∉ ws) (nt : t ∉ ws) : own_S2 Z h' x t kb c0 c1 := ⟨SS.1.keep K, SS.2.1.keep K nx, SS.2.2.imp (fun q => ⟨q.1.keep K nx, q.2.1.keep K nt, q.2.2⟩) (fun q => ⟨q.1.keep K nx, q.2.keep K nt⟩)⟩
theorem own_S2.ltx {Z : State} {h : Heap} {x t : Addr} {kb : ClassId} {c0 : Int32} {c1 : Int32} (SS : own_S2 Z h x t kb c0 c1) : x < h.size := SS.1.lt
theorem own_S2.ltt {Z : State} {h : Heap} {x t : Addr} {kb : ClassId} {c0 : Int32} {c1 : Int32} (SS : own_S2 Z h x t kb c0 c1) : t < h.size := SS.2.2.elim (fun q => q.2.1.lt) (fun q => q.2.lt)
def own_T (Z : State) (h : Heap) (x t : Addr) (kb : ClassId) : List Int32 → Prop
  | [] => own_S0 Z h x t kb 
  | [c0] => own_S1 Z h x t kb c0
  | [c0, c1] => own_S2 Z h x t kb c0 c1
  | _ => False
theorem own_T.ext {Z : State} {h h' : Heap} {x t : Addr} {kb : ClassId} {cl : List Int32}  (SS : own_T Z h x t kb cl) (E : Ext h h') : own_T Z h' x t kb cl :=
  match cl, SS with
  | [], SS => own_S0.ext SS E
  | [c0], SS => own_S1.ext SS E
  | [c0, c1], SS => own_S2.ext SS E
  | _ :: _ :: _ :: _, SS => False.elim SS
theorem own_T.wr {Z : State} {h h' : Heap} {x t : Addr} {kb : ClassId} {cl : List Int32} {b : Addr} {sl : Nat} {v : Value} (SS : own_T Z h x t kb cl) (W : Wr h h' b sl v) (nx : x ≠ b) (nt : t ≠ b) : own_T Z h' x t kb cl :=
  match cl, SS with
  | [], SS => own_S0.wr SS W nx nt
  | [c0], SS => own_S1.wr SS W nx nt
  | [c0, c1], SS => own_S2.wr SS W nx nt
  | _ :: _ :: _ :: _, SS => False.elim SS
theorem own_T.keep {Z : State} {h h' : Heap} {x t : Addr} {kb : ClassId} {cl : List Int32} {ws : List Addr} (SS : own_T Z h x t kb cl) (K : Keep h h' ws) (nx : x ∉ ws) (nt : t ∉ ws) : own_T Z h' x t kb cl :=
  match cl, SS with
  | [], SS => own_S0.keep SS K nx nt
  | [c0], SS => own_S1.keep SS K nx nt
  | [c0, c1], SS => own_S2.keep SS K nx nt
  | _ :: _ :: _ :: _, SS => False.elim SS
theorem own_T.ltx {Z : State} {h : Heap} {x t : Addr} {kb : ClassId} {cl : List Int32}  (SS : own_T Z h x t kb cl)  : x < h.size :=
  match cl, SS with
  | [], SS => own_S0.ltx SS
  | [c0], SS => own_S1.ltx SS
  | [c0, c1], SS => own_S2.ltx SS
  | _ :: _ :: _ :: _, SS => False.elim SS
theorem own_T.ltt {Z : State} {h : Heap} {x t : Addr} {kb : ClassId} {cl : List Int32}  (SS : own_T Z h x t kb cl)  : t < h.size :=
  match cl, SS with
  | [], SS => own_S0.ltt SS
  | [c0], SS => own_S1.ltt SS
  | [c0, c1], SS => own_S2.ltt SS
  | _ :: _ :: _ :: _, SS => False.elim SS
theorem own_T.exa {Z : State} {h : Heap} {x t : Addr} {kb : ClassId} {cl : List Int32}  (SS : own_T Z h x t kb cl)  : Exa Z h x "java/lang/String" :=
  match cl, SS with
  | [], SS => SS.1
  | [c0], SS => SS.1
  | [c0, c1], SS => SS.1
  | _ :: _ :: _ :: _, SS => False.elim SS
def own_enc (c : Int32) : List Int32 := if ¬ c = (0 : Int32) ∧ c < (128 : Int32) then [c.toInt8.toInt32] else if c < (2048 : Int32) then [((192 : Int32) ||| (c >>> ((6 : Int32) &&& 31))).toInt8.toInt32, ((128 : Int32) ||| (c &&& (63 : Int32))).toInt8.toInt32] else [((224 : Int32) ||| (c >>> ((12 : Int32) &&& 31))).toInt8.toInt32, ((128 : Int32) ||| ((c >>> ((6 : Int32) &&& 31)) &&& (63 : Int32))).toInt8.toInt32, ((128 : Int32) ||| (c &&& (63 : Int32))).toInt8.toInt32]
theorem own_enc1 {c : Int32} (h0 : ¬ c = (0 : Int32)) (h1 : c < (128 : Int32)) : own_enc c = [c.toInt8.toInt32] := if_pos ⟨h0, h1⟩
theorem own_enc2 {c : Int32} (h : c = (0 : Int32) ∨ ¬ c < (128 : Int32)) (h2 : c < (2048 : Int32)) : own_enc c = [((192 : Int32) ||| (c >>> ((6 : Int32) &&& 31))).toInt8.toInt32, ((128 : Int32) ||| (c &&& (63 : Int32))).toInt8.toInt32] := (if_neg (fun q => h.elim q.1 (fun n => n q.2))).trans (if_pos h2)
theorem own_enc3 {c : Int32} (h : c = (0 : Int32) ∨ ¬ c < (128 : Int32)) (h2 : ¬ c < (2048 : Int32)) : own_enc c = [((224 : Int32) ||| (c >>> ((12 : Int32) &&& 31))).toInt8.toInt32, ((128 : Int32) ||| ((c >>> ((6 : Int32) &&& 31)) &&& (63 : Int32))).toInt8.toInt32, ((128 : Int32) ||| (c &&& (63 : Int32))).toInt8.toInt32] := (if_neg (fun q => h.elim q.1 (fun n => n q.2))).trans (if_neg h2)
def own_encs : List Int32 → List Int32
  | [] => []
  | c :: cl => own_enc c ++ own_encs cl
def own_x (c : Int32) : Int64 := if ¬ c = (0 : Int32) ∧ c < (128 : Int32) then 0 else if c < (2048 : Int32) then 1 else 2
theorem own_key (c : Int32) : (own_x c = 0 ∧ (own_enc c).length = 1) ∨ (own_x c = 1 ∧ (own_enc c).length = 2) ∨ (own_x c = 2 ∧ (own_enc c).length = 3) := by
  by_cases h : ¬ c = (0 : Int32) ∧ c < (128 : Int32)
  · exact Or.inl ⟨if_pos h, by rw [own_enc1 h.1 h.2]; rfl⟩
  · have h' : c = (0 : Int32) ∨ ¬ c < (128 : Int32) := (Classical.em (c = (0 : Int32))).elim Or.inl (fun n => Or.inr (fun q => h ⟨n, q⟩))
    by_cases h2 : c < (2048 : Int32)
    · exact Or.inr (Or.inl ⟨(if_neg h).trans (if_pos h2), by rw [own_enc2 h' h2]; rfl⟩)
    · exact Or.inr (Or.inr ⟨(if_neg h).trans (if_neg h2), by rw [own_enc3 h' h2]; rfl⟩)
theorem own_encl (c : Int32) : (own_enc c).length ≤ 3 := by
  rcases own_key c with ⟨-, h⟩ | ⟨-, h⟩ | ⟨-, h⟩ <;> omega
theorem own_x1 {l : Int64} {c : Int32} (h0 : ¬ c = (0 : Int32)) (h1 : c < (128 : Int32)) : l = l + own_x c := by
  rw [show own_x c = 0 from if_pos ⟨h0, h1⟩, Int64.add_zero]
theorem own_x2 {l : Int64} {c : Int32} (h : c = (0 : Int32) ∨ ¬ c < (128 : Int32)) (h2 : c < (2048 : Int32)) : l + 1 = l + own_x c := by
  rw [show own_x c = 1 from (if_neg (fun q => h.elim q.1 (fun n => n q.2))).trans (if_pos h2)]
theorem own_x3 {l : Int64} {c : Int32} (h : c = (0 : Int32) ∨ ¬ c < (128 : Int32)) (h2 : ¬ c < (2048 : Int32)) : l + 2 = l + own_x c := by
  rw [show own_x c = 2 from (if_neg (fun q => h.elim q.1 (fun n => n q.2))).trans (if_neg h2)]
theorem own_el0 : (0 : Int64).toInt32 = Int32.ofNat (List.length ([] : List Int32)) := by decide
theorem own_el1 (c : Int32) : ((1 : Int64) + own_x c).toInt32 = Int32.ofNat (List.length (own_enc c)) := by
  rcases own_key c with ⟨h, k⟩ | ⟨h, k⟩ | ⟨h, k⟩ <;> rw [h, k] <;> decide
theorem own_el2 (c d : Int32) : (((2 : Int64) + own_x c) + own_x d).toInt32 = Int32.ofNat (List.length (own_enc c ++ own_enc d)) := by
  rw [List.length_append]
  rcases own_key c with ⟨h, k⟩ | ⟨h, k⟩ | ⟨h, k⟩ <;> rcases own_key d with ⟨h', k'⟩ | ⟨h', k'⟩ | ⟨h', k'⟩ <;> rw [h, k, h', k'] <;> decide
def own_xs : List Int32 → Int64
  | [] => 0
  | [c] => 1 + own_x c
  | [c, d] => (2 + own_x c) + own_x d
  | _ => 0
theorem own_elT (cl : List Int32) (h : List.length cl ≤ 2) : (own_xs cl).toInt32 = Int32.ofNat (List.length (own_encs cl)) := by
  rcases cl with _ | ⟨c, _ | ⟨d, _ | ⟨f, cl⟩⟩⟩
  · exact own_el0
  · show ((1 : Int64) + own_x c).toInt32 = Int32.ofNat (List.length (own_enc c ++ []))
    rw [List.append_nil]; exact own_el1 c
  · show (((2 : Int64) + own_x c) + own_x d).toInt32 = Int32.ofNat (List.length (own_enc c ++ (own_enc d ++ [])))
    rw [List.append_nil]; exact own_el2 c d
  · exact absurd h (by simp)
theorem own_encsl (cl : List Int32) (h : List.length cl ≤ 2) : List.length (own_encs cl) ≤ 6 := by
  rcases cl with _ | ⟨c, _ | ⟨d, _ | ⟨f, cl⟩⟩⟩
  · exact Nat.zero_le _
  · have := own_encl c
    show List.length (own_enc c ++ []) ≤ 6
    rw [List.append_nil]; omega
  · have := own_encl c
    have := own_encl d
    show List.length (own_enc c ++ (own_enc d ++ [])) ≤ 6
    rw [List.append_nil, List.length_append]; omega
  · exact absurd h (by simp)
theorem own_ofNat {n : Nat} (hn : n < 2 ^ 31) : (Int32.ofNat n).toInt = n := Int32.toInt_ofNat_small (by omega)
theorem own_ixn {n i m : Nat} (h : n + i = m) : Int32.ofNat n + Int32.ofNat i = Int32.ofNat m := by rw [← h, Int32.ofNat_add]
theorem own_e1 (n : Nat) : Int32.ofNat n + 1 = Int32.ofNat (n + 1) := (inc_ofNat n).symm
theorem own_e2 (n : Nat) : Int32.ofNat n + 1 + 1 = Int32.ofNat (n + 2) := by rw [own_e1, own_e1]
theorem own_e3 (n : Nat) : Int32.ofNat n + 1 + 1 + 1 = Int32.ofNat (n + 3) := by rw [own_e1, own_e1, own_e1]
theorem own_f1 (n : Nat) : Int32.ofNat n + 1 = Int32.ofNat (n + 1) := own_e1 n
theorem own_f2 (n : Nat) : Int32.ofNat n + 2 = Int32.ofNat (n + 2) := own_ixn (i := 2) rfl
theorem own_f3 (n : Nat) : Int32.ofNat n + 3 = Int32.ofNat (n + 3) := own_ixn (i := 3) rfl
theorem own_sz1 {l : List Int32} {x : Int32} : Int32.ofNat (List.length (l ++ [x])) = Int32.ofNat (List.length l) + 1 := by rw [List.length_append]; exact inc_ofNat _
theorem own_j2 {l : List Int32} {a b : Int32} : Int32.ofNat (List.length l) + 2 = Int32.ofNat (List.length ((l ++ [a]) ++ [b])) := (own_f2 _).trans (by rw [List.length_append, List.length_append]; rfl)
theorem own_nn {i : Nat} (h : i < 2 ^ 31) : ¬ (Int32.ofNat i < 0) := by
  have e0 : (0 : Int32).toInt = 0 := by decide
  rw [Int32.lt_iff_toInt_lt, own_ofNat h, e0]; omega
theorem own_inb {j : Int32} {k c : Nat} (hj : j = Int32.ofNat k) (h : k < c) (hc : c < 2 ^ 31) : ¬ j < 0 ∧ j < Int32.ofNat c := by
  subst hj
  refine ⟨own_nn (Nat.lt_trans h hc), ?_⟩
  rw [Int32.lt_iff_toInt_lt, own_ofNat hc, own_ofNat (Nat.lt_trans h hc)]; omega
theorem own_gdm (vs : List Int32) (i : Nat) : (List.map Value.int vs).getD i (.int (0 : Int32)) = .int (vs.getD i 0) := by
  induction vs generalizing i with
  | nil => rfl
  | cons a l ih => cases i with
    | zero => rfl
    | succ i => exact ih i
theorem own_gdj {vl : List Int32} {j : Int32} {n : Nat} (hj : j = Int32.ofNat n) (hn : n < 2 ^ 31) : (List.map Value.int vl).getD j.toNatClampNeg (.int (0 : Int32)) = .int (vl.getD n 0) := by
  rw [clamp_of hj hn]; exact own_gdm vl n
theorem own_gd0 (bl : List Int32) (i : Nat) : (bl ++ [0]).getD i 0 = bl.getD i 0 := by
  induction bl generalizing i with
  | nil => cases i <;> rfl
  | cons a l ih => cases i with
    | zero => rfl
    | succ i => exact ih i
theorem own_setl (bl : List Int32) (v : Int32) : (List.map Value.int (bl ++ [0])).set bl.length (.int v) = List.map Value.int (bl ++ [v]) := by
  induction bl with
  | nil => rfl
  | cons a l ih => exact congrArg (List.cons (Value.int a)) ih
theorem own_push {Z : State} {h h' : Heap} {a : Addr} {k : ClassId} {z : Int32} {bl : List Int32} {v j : Int32} (V : Arv Z h a k .byte z (List.map Value.int bl) (.int (0 : Int32))) (W : Wr h h' a j.toNatClampNeg (.int (nar .byte v))) (hj : j = Int32.ofNat (List.length bl)) (hb : List.length bl < 2 ^ 31) (hv : nar .byte v = v) : Arv Z h' a k .byte z (List.map Value.int (bl ++ [v])) (.int (0 : Int32)) := by
  have V1 := V.pad (vs' := List.map Value.int (bl ++ [0])) (fun i => by rw [own_gdm, own_gdm, own_gd0])
  obtain ⟨c, A, q1, S, N, H, G⟩ := V1
  have V2 := Arv.set A q1 S N H G (fits_nar_byte _) W (List.length bl) (clamp_of hj hb) (by simp)
  rw [show v.toInt8.toInt32 = v from hv, own_setl] at V2
  exact V2
theorem own_ens {n m : Nat} (h : n + m ≤ 256) : ¬ ((256 : Int32) - Int32.ofNat n) < Int32.ofNat m := by
  have q := c_isub 256 (Int32.ofNat n)
  have r := rng32 ((256 : Int32) - Int32.ofNat n)
  have e : (256 : Int32).toInt = 256 := by decide
  rw [own_ofNat (by omega), e] at q
  rw [Int32.lt_iff_toInt_lt, own_ofNat (n := m) (by omega)]
  omega
theorem own_nbig {n : Nat} (h : n ≤ 2) : ¬ (21845 : Int32) < Int32.ofNat n := by
  have e : (21845 : Int32).toInt = 21845 := by decide
  rw [Int32.lt_iff_toInt_lt, own_ofNat (by omega), e]; omega
theorem own_le2 {z : Int32} (h : ¬ z < (0 : Int32)) (k : ¬ (2 : Int32) < z) : z = (0 : Int32) ∨ z = (1 : Int32) ∨ z = (2 : Int32) := by
  rw [Int32.lt_iff_toInt_lt] at h k
  simp only [← Int32.toInt_inj]
  have e0 : (0 : Int32).toInt = 0 := by decide
  have e1 : (1 : Int32).toInt = 1 := by decide
  have e2 : (2 : Int32).toInt = 2 := by decide
  rw [e0, e1, e2]
  omega
theorem own_and3 (p : Int32) : ¬ (p &&& (3 : Int32)) < (0 : Int32) := by
  have h1 := c_and p 3 (by decide)
  have e0 : (0 : Int32).toInt = 0 := by decide
  rw [Int32.lt_iff_toInt_lt]; omega
theorem own_pad3 (i : Nat) : (List.map Value.int ([(4 : Int32), (0 : Int32), (0 : Int32)] : List Int32)).getD i (.int (0 : Int32)) = (List.map Value.int (([] : List Int32) ++ [(4 : Int32)])).getD i (.int (0 : Int32)) :=
  match i with
  | 0 => rfl
  | 1 => rfl
  | 2 => rfl
  | _ + 3 => rfl
theorem own_all0 : ∀ c ∈ ([] : List Int32), own_u c := fun c h => by cases h
theorem own_all1 {c0 : Int32} (h0 : own_u c0) : ∀ c ∈ [c0], own_u c := fun c h => by
  rcases List.mem_cons.mp h with rfl | h
  · exact h0
  · cases h
theorem own_all2 {c0 c1 : Int32} (h0 : own_u c0) (h1 : own_u c1) : ∀ c ∈ [c0, c1], own_u c := fun c h => by
  rcases List.mem_cons.mp h with rfl | h
  · exact h0
  · exact own_all1 h1 c h
theorem own_len3 {a b : Int32} (l : List Int32) : 2 < List.length ([(4 : Int32), a, b] ++ l) := by
  rw [List.length_append]; show 2 < 3 + _; omega
theorem own_at3 {l : List Int32} : Int32.ofNat (List.length (([(4 : Int32), (0 : Int32), (0 : Int32)] : List Int32) ++ l)) - (3 : Int32) = Int32.ofNat (List.length l) := by
  rw [List.length_append, show List.length ([(4 : Int32), (0 : Int32), (0 : Int32)] : List Int32) = 3 from rfl, Nat.add_comm, Int32.ofNat_add]
  exact Int32.add_sub_cancel _ _
theorem own_ix0 {n m : Nat} (h : n = m) : Int32.ofNat n = Int32.ofNat m := congrArg _ h
theorem own_two (l : List Int32) : Int32.ofNat (List.length (l ++ l)) = (2 : Int32) * Int32.ofNat (List.length l) := by
  rw [List.length_append, ← Nat.two_mul, Int32.ofNat_mul]; rfl
theorem own_gdl {l m : List Int32} {j : Nat} (h : j < List.length l) : (l ++ m).getD j 0 = l.getD j 0 := by
  simp only [List.getD_eq_getElem?_getD, List.getElem?_append_left h]
theorem own_gdr {l m : List Int32} {j : Nat} : (l ++ m).getD (List.length l + j) 0 = m.getD j 0 := by
  simp only [List.getD_eq_getElem?_getD]
  rw [List.getElem?_append_right (Nat.le_add_right _ _), Nat.add_sub_cancel_left]
theorem own_ltinv {i : Int32} {k n : Nat} (hi : i = Int32.ofNat k) (hk : k < 2 ^ 31) (hn : n < 2 ^ 31) (h : i < Int32.ofNat n) : k < n := by
  rw [hi, Int32.lt_iff_toInt_lt, own_ofNat hk, own_ofNat hn] at h
  omega
theorem own_neA {n : Nat} (h : n < 64) : ¬ Int32.ofNat n = (256 : Int32) := fun q => by
  have e := congrArg Int32.toInt q
  rw [own_ofNat (by omega), show (256 : Int32).toInt = 256 by decide] at e
  omega
theorem own_lt256 {n : Nat} (h : n < 256) : Int32.ofNat n < (256 : Int32) := (own_inb rfl h (by decide)).2
theorem own_cl2 {n : Nat} (h : n < 2 ^ 31) : (Int32.ofNat n).toNatClampNeg = n := clamp_of rfl h
theorem own_cl {n : Nat} (h : n ≤ 64) : (Int32.ofNat n).toNatClampNeg ≤ 64 := by rw [own_cl2 (by omega)]; exact h
theorem own_lch {c : Int32} (h : ¬ c < 0 ∧ ¬ (255 : Int32) < c) : (c.toInt8.toInt32 &&& (255 : Int32)).toUInt32.toUInt16.toUInt32.toInt32 = c := by
  obtain ⟨h0, h1⟩ := h
  rw [Int32.lt_iff_toInt_lt] at h0 h1
  have e0 : (0 : Int32).toInt = 0 := by decide
  have e1 : (255 : Int32).toInt = 255 := by decide
  have a1 := c_i2b c
  have a2 := c_mask c.toInt8.toInt32 255 8 (by decide) (by decide)
  have p8 : ((2 ^ 8 : Nat) : Int) = 256 := by decide
  rw [p8] at a2
  have a3 := c_i2c (c.toInt8.toInt32 &&& 255)
  apply Int32.toInt_inj.mp
  omega
theorem own_all {Z : State} {args : Array Value} {t : Term} {a : Addr} {cl : Cell} {ty : FieldType} (ev : t.eval args Z none [] Z = some (.ref a)) (hi : ∀ idx, t.eval args Z none idx Z = t.eval args Z none [] Z) (A : Arr Z Z.heap a cl ty) (h : (Jvm.Cond.all t (.eq (.elem t (.index 0)) (.index 0))).value args Z none Z [] = some true) (hl : cl.slots.size < 2 ^ 31 ∧ cl.slots.size.toInt32 = (13 : Int32)) (i : Nat) (h13 : i < 13) : cl.slots[i]? = some (.int (Int32.ofNat i)) := by
  have hs : cl.slots.size = 13 := by
    have e := congrArg Int32.toInt hl.2
    rw [show (13 : Int32).toInt = 13 by decide, show cl.slots.size.toInt32 = Int32.ofNat cl.slots.size from rfl, own_ofNat hl.1] at e
    omega
  have hA := A.fin (Vm.Alike.refl _)
  have q := Cond.all_elim ev hA h i (by omega)
  have e := Cond.eq_int (args := args) (first := Z) (t := Z) (out := none) (idx := [i]) (a := .elem t (.index 0)) (b := .index 0) (n := Int32.ofNat i) (by simp only [Cond.holds, q]; rfl) rfl
  have r := (elem_in e ((hi [i]).trans ev) rfl A.1).2
  rwa [clamp_of rfl (by omega)] at r
theorem own_w56 (vv : Int64) : ((vv >>> ((56 : Int32) &&& 0x3f).toInt64).toInt32).toInt8.toInt32 = (((vv >>> ((32 : Int32) &&& 0x3f).toInt64).toInt32) >>> ((24 : Int32) &&& 31)).toInt8.toInt32 := by
  have a1 := c_lshr vv 56 56 (by decide)
  have a2 := c_l2i (vv >>> ((56 : Int32) &&& 0x3f).toInt64)
  have a3 := c_i2b (vv >>> ((56 : Int32) &&& 0x3f).toInt64).toInt32
  have p1 : ((2 ^ 56 : Nat) : Int) = 72057594037927936 := by decide
  rw [p1] at a1
  have b1 := c_lshr vv 32 32 (by decide)
  have p2 : ((2 ^ 32 : Nat) : Int) = 4294967296 := by decide
  rw [p2] at b1
  have b2 := c_l2i (vv >>> ((32 : Int32) &&& 0x3f).toInt64)
  have b3 := c_ishr ((vv >>> ((32 : Int32) &&& 0x3f).toInt64).toInt32) 24 24 (by decide)
  have p3 : ((2 ^ 24 : Nat) : Int) = 16777216 := by decide
  rw [p3] at b3
  have b4 := c_i2b (((vv >>> ((32 : Int32) &&& 0x3f).toInt64).toInt32) >>> ((24 : Int32) &&& 31))
  have rx := rng32 ((vv >>> ((32 : Int32) &&& 0x3f).toInt64).toInt32)
  apply Int32.toInt_inj.mp
  omega
theorem own_w48 (vv : Int64) : ((vv >>> ((48 : Int32) &&& 0x3f).toInt64).toInt32).toInt8.toInt32 = (((vv >>> ((32 : Int32) &&& 0x3f).toInt64).toInt32) >>> ((16 : Int32) &&& 31)).toInt8.toInt32 := by
  have a1 := c_lshr vv 48 48 (by decide)
  have a2 := c_l2i (vv >>> ((48 : Int32) &&& 0x3f).toInt64)
  have a3 := c_i2b (vv >>> ((48 : Int32) &&& 0x3f).toInt64).toInt32
  have p1 : ((2 ^ 48 : Nat) : Int) = 281474976710656 := by decide
  rw [p1] at a1
  have b1 := c_lshr vv 32 32 (by decide)
  have p2 : ((2 ^ 32 : Nat) : Int) = 4294967296 := by decide
  rw [p2] at b1
  have b2 := c_l2i (vv >>> ((32 : Int32) &&& 0x3f).toInt64)
  have b3 := c_ishr ((vv >>> ((32 : Int32) &&& 0x3f).toInt64).toInt32) 16 16 (by decide)
  have p3 : ((2 ^ 16 : Nat) : Int) = 65536 := by decide
  rw [p3] at b3
  have b4 := c_i2b (((vv >>> ((32 : Int32) &&& 0x3f).toInt64).toInt32) >>> ((16 : Int32) &&& 31))
  have rx := rng32 ((vv >>> ((32 : Int32) &&& 0x3f).toInt64).toInt32)
  apply Int32.toInt_inj.mp
  omega
theorem own_w40 (vv : Int64) : ((vv >>> ((40 : Int32) &&& 0x3f).toInt64).toInt32).toInt8.toInt32 = (((vv >>> ((32 : Int32) &&& 0x3f).toInt64).toInt32) >>> ((8 : Int32) &&& 31)).toInt8.toInt32 := by
  have a1 := c_lshr vv 40 40 (by decide)
  have a2 := c_l2i (vv >>> ((40 : Int32) &&& 0x3f).toInt64)
  have a3 := c_i2b (vv >>> ((40 : Int32) &&& 0x3f).toInt64).toInt32
  have p1 : ((2 ^ 40 : Nat) : Int) = 1099511627776 := by decide
  rw [p1] at a1
  have b1 := c_lshr vv 32 32 (by decide)
  have p2 : ((2 ^ 32 : Nat) : Int) = 4294967296 := by decide
  rw [p2] at b1
  have b2 := c_l2i (vv >>> ((32 : Int32) &&& 0x3f).toInt64)
  have b3 := c_ishr ((vv >>> ((32 : Int32) &&& 0x3f).toInt64).toInt32) 8 8 (by decide)
  have p3 : ((2 ^ 8 : Nat) : Int) = 256 := by decide
  rw [p3] at b3
  have b4 := c_i2b (((vv >>> ((32 : Int32) &&& 0x3f).toInt64).toInt32) >>> ((8 : Int32) &&& 31))
  have rx := rng32 ((vv >>> ((32 : Int32) &&& 0x3f).toInt64).toInt32)
  apply Int32.toInt_inj.mp
  omega
theorem own_w24 (vv : Int64) : ((vv >>> ((24 : Int32) &&& 0x3f).toInt64).toInt32).toInt8.toInt32 = ((vv.toInt32) >>> ((24 : Int32) &&& 31)).toInt8.toInt32 := by
  have a1 := c_lshr vv 24 24 (by decide)
  have a2 := c_l2i (vv >>> ((24 : Int32) &&& 0x3f).toInt64)
  have a3 := c_i2b (vv >>> ((24 : Int32) &&& 0x3f).toInt64).toInt32
  have p1 : ((2 ^ 24 : Nat) : Int) = 16777216 := by decide
  rw [p1] at a1
  have b2 := c_l2i vv
  have b3 := c_ishr (vv.toInt32) 24 24 (by decide)
  have p3 : ((2 ^ 24 : Nat) : Int) = 16777216 := by decide
  rw [p3] at b3
  have b4 := c_i2b ((vv.toInt32) >>> ((24 : Int32) &&& 31))
  have rx := rng32 (vv.toInt32)
  apply Int32.toInt_inj.mp
  omega
theorem own_w16 (vv : Int64) : ((vv >>> ((16 : Int32) &&& 0x3f).toInt64).toInt32).toInt8.toInt32 = ((vv.toInt32) >>> ((16 : Int32) &&& 31)).toInt8.toInt32 := by
  have a1 := c_lshr vv 16 16 (by decide)
  have a2 := c_l2i (vv >>> ((16 : Int32) &&& 0x3f).toInt64)
  have a3 := c_i2b (vv >>> ((16 : Int32) &&& 0x3f).toInt64).toInt32
  have p1 : ((2 ^ 16 : Nat) : Int) = 65536 := by decide
  rw [p1] at a1
  have b2 := c_l2i vv
  have b3 := c_ishr (vv.toInt32) 16 16 (by decide)
  have p3 : ((2 ^ 16 : Nat) : Int) = 65536 := by decide
  rw [p3] at b3
  have b4 := c_i2b ((vv.toInt32) >>> ((16 : Int32) &&& 31))
  have rx := rng32 (vv.toInt32)
  apply Int32.toInt_inj.mp
  omega
theorem own_w8 (vv : Int64) : ((vv >>> ((8 : Int32) &&& 0x3f).toInt64).toInt32).toInt8.toInt32 = ((vv.toInt32) >>> ((8 : Int32) &&& 31)).toInt8.toInt32 := by
  have a1 := c_lshr vv 8 8 (by decide)
  have a2 := c_l2i (vv >>> ((8 : Int32) &&& 0x3f).toInt64)
  have a3 := c_i2b (vv >>> ((8 : Int32) &&& 0x3f).toInt64).toInt32
  have p1 : ((2 ^ 8 : Nat) : Int) = 256 := by decide
  rw [p1] at a1
  have b2 := c_l2i vv
  have b3 := c_ishr (vv.toInt32) 8 8 (by decide)
  have p3 : ((2 ^ 8 : Nat) : Int) = 256 := by decide
  rw [p3] at b3
  have b4 := c_i2b ((vv.toInt32) >>> ((8 : Int32) &&& 31))
  have rx := rng32 (vv.toInt32)
  apply Int32.toInt_inj.mp
  omega
abbrev OwnMetW (l : Launch) (y : MethodName) (bytes : ByteArray) (ml : Nat) (rt : Option FieldType) (ws : List Jvm.Cond) (rm : Room) (as' : Array Value) (Z : State) (h0 : Heap) (Q : Option Value → Heap → List Loc → Prop) : Prop := MetFree l y (head1 (Jvm.Cond.code y bytes ml rt :: ws) rm) (fun as_ UU => as_ = as' ∧ Z.Warmed39 UU.vm ∧ UU.heap = h0 ∧ CHv Z own_EL UU.vm h0) (fun _ _ _ _ _ => True) (fun _ UU oo UU' => ∃ vv LL, oo = .returned vv ∧ Q vv UU'.heap LL ∧ CHr Z own_EL UU.vm UU.heap UU'.vm UU'.heap ∧ ReturnedEndW UU oo UU' LL rm.cells rm.slots)
theorem d1_0 : decode jdk_29_method_69_code 0 = .ok (.iload_n 0, 1) := by decide +kernel
theorem d1_1 : decode jdk_29_method_69_code 1 = .ok (.iload_n 1, 1) := by decide +kernel
theorem d1_2 : decode jdk_29_method_69_code 2 = .ok (.if_icmp .gt 7, 3) := by decide +kernel
theorem d1_5 : decode jdk_29_method_69_code 5 = .ok (.iload_n 0, 1) := by decide +kernel
theorem d1_6 : decode jdk_29_method_69_code 6 = .ok (.goto 4, 3) := by decide +kernel
theorem d1_9 : decode jdk_29_method_69_code 9 = .ok (.iload_n 1, 1) := by decide +kernel
theorem d1_10 : decode jdk_29_method_69_code 10 = .ok (.ireturn, 1) := by decide +kernel
theorem d2_0 : decode jdk_42_method_139_code 0 = .ok (.getstatic 38, 3) := by decide +kernel
theorem d2_3 : decode jdk_42_method_139_code 3 = .ok (.ifCond .eq 23, 3) := by decide +kernel
theorem d2_6 : decode jdk_42_method_139_code 6 = .ok (.iload_n 0, 1) := by decide +kernel
theorem d2_7 : decode jdk_42_method_139_code 7 = .ok (.invokestatic 1015, 3) := by decide +kernel
theorem d2_10 : decode jdk_42_method_139_code 10 = .ok (.ifCond .eq 16, 3) := by decide +kernel
theorem d2_13 : decode jdk_42_method_139_code 13 = .ok (.new 10, 3) := by decide +kernel
theorem d2_16 : decode jdk_42_method_139_code 16 = .ok (.dup, 1) := by decide +kernel
theorem d2_17 : decode jdk_42_method_139_code 17 = .ok (.iload_n 0, 1) := by decide +kernel
theorem d2_18 : decode jdk_42_method_139_code 18 = .ok (.invokestatic 1018, 3) := by decide +kernel
theorem d2_21 : decode jdk_42_method_139_code 21 = .ok (.iconst 0, 1) := by decide +kernel
theorem d2_22 : decode jdk_42_method_139_code 22 = .ok (.invokespecial 209, 3) := by decide +kernel
theorem d2_25 : decode jdk_42_method_139_code 25 = .ok (.areturn, 1) := by decide +kernel
theorem d2_26 : decode jdk_42_method_139_code 26 = .ok (.new 10, 3) := by decide +kernel
theorem d2_29 : decode jdk_42_method_139_code 29 = .ok (.dup, 1) := by decide +kernel
theorem d2_30 : decode jdk_42_method_139_code 30 = .ok (.iload_n 0, 1) := by decide +kernel
theorem d2_31 : decode jdk_42_method_139_code 31 = .ok (.invokestatic 1021, 3) := by decide +kernel
theorem d2_34 : decode jdk_42_method_139_code 34 = .ok (.iconst 1, 1) := by decide +kernel
theorem d2_35 : decode jdk_42_method_139_code 35 = .ok (.invokespecial 209, 3) := by decide +kernel
theorem d2_38 : decode jdk_42_method_139_code 38 = .ok (.areturn, 1) := by decide +kernel
theorem d3_0 : decode jdk_43_method_3_code 0 = .ok (.iload_n 0, 1) := by decide +kernel
theorem d3_1 : decode jdk_43_method_3_code 1 = .ok (.sipush 255, 3) := by decide +kernel
theorem d3_4 : decode jdk_43_method_3_code 4 = .ok (.if_icmp .gt 7, 3) := by decide +kernel
theorem d3_7 : decode jdk_43_method_3_code 7 = .ok (.iconst 1, 1) := by decide +kernel
theorem d3_8 : decode jdk_43_method_3_code 8 = .ok (.goto 4, 3) := by decide +kernel
theorem d3_11 : decode jdk_43_method_3_code 11 = .ok (.iconst 0, 1) := by decide +kernel
theorem d3_12 : decode jdk_43_method_3_code 12 = .ok (.ireturn, 1) := by decide +kernel
theorem d4_0 : decode jdk_43_method_46_code 0 = .ok (.iconst 1, 1) := by decide +kernel
theorem d4_1 : decode jdk_43_method_46_code 1 = .ok (.newarray .byte, 2) := by decide +kernel
theorem d4_3 : decode jdk_43_method_46_code 3 = .ok (.dup, 1) := by decide +kernel
theorem d4_4 : decode jdk_43_method_46_code 4 = .ok (.iconst 0, 1) := by decide +kernel
theorem d4_5 : decode jdk_43_method_46_code 5 = .ok (.iload_n 0, 1) := by decide +kernel
theorem d4_6 : decode jdk_43_method_46_code 6 = .ok (.i2b, 1) := by decide +kernel
theorem d4_7 : decode jdk_43_method_46_code 7 = .ok (.bastore, 1) := by decide +kernel
theorem d4_8 : decode jdk_43_method_46_code 8 = .ok (.areturn, 1) := by decide +kernel
theorem d5_0 : decode jdk_42_method_151_code 0 = .ok (.aload_n 0, 1) := by decide +kernel
theorem d5_1 : decode jdk_42_method_151_code 1 = .ok (.invokespecial 1, 3) := by decide +kernel
theorem d5_4 : decode jdk_42_method_151_code 4 = .ok (.aload_n 0, 1) := by decide +kernel
theorem d5_5 : decode jdk_42_method_151_code 5 = .ok (.aload_n 1, 1) := by decide +kernel
theorem d5_6 : decode jdk_42_method_151_code 6 = .ok (.putfield 9, 3) := by decide +kernel
theorem d5_9 : decode jdk_42_method_151_code 9 = .ok (.aload_n 0, 1) := by decide +kernel
theorem d5_10 : decode jdk_42_method_151_code 10 = .ok (.iload_n 2, 1) := by decide +kernel
theorem d5_11 : decode jdk_42_method_151_code 11 = .ok (.putfield 15, 3) := by decide +kernel
theorem d5_14 : decode jdk_42_method_151_code 14 = .ok (.return_, 1) := by decide +kernel
theorem d7_0 : decode method_3_code 0 = .ok (.iload_n 2, 1) := by decide +kernel
theorem d7_1 : decode method_3_code 1 = .ok (.ifCond .eq 19, 3) := by decide +kernel
theorem d7_4 : decode method_3_code 4 = .ok (.iload_n 2, 1) := by decide +kernel
theorem d7_5 : decode method_3_code 5 = .ok (.sipush 128, 3) := by decide +kernel
theorem d7_8 : decode method_3_code 8 = .ok (.if_icmp .ge 12, 3) := by decide +kernel
theorem d7_11 : decode method_3_code 11 = .ok (.aload_n 0, 1) := by decide +kernel
theorem d7_12 : decode method_3_code 12 = .ok (.iload_n 1, 1) := by decide +kernel
theorem d7_13 : decode method_3_code 13 = .ok (.iload_n 2, 1) := by decide +kernel
theorem d7_14 : decode method_3_code 14 = .ok (.i2b, 1) := by decide +kernel
theorem d7_15 : decode method_3_code 15 = .ok (.bastore, 1) := by decide +kernel
theorem d7_16 : decode method_3_code 16 = .ok (.iload_n 1, 1) := by decide +kernel
theorem d7_17 : decode method_3_code 17 = .ok (.iconst 1, 1) := by decide +kernel
theorem d7_18 : decode method_3_code 18 = .ok (.iadd, 1) := by decide +kernel
theorem d7_19 : decode method_3_code 19 = .ok (.ireturn, 1) := by decide +kernel
theorem d7_20 : decode method_3_code 20 = .ok (.iload_n 2, 1) := by decide +kernel
theorem d7_21 : decode method_3_code 21 = .ok (.sipush 2048, 3) := by decide +kernel
theorem d7_24 : decode method_3_code 24 = .ok (.if_icmp .ge 33, 3) := by decide +kernel
theorem d7_27 : decode method_3_code 27 = .ok (.aload_n 0, 1) := by decide +kernel
theorem d7_28 : decode method_3_code 28 = .ok (.iload_n 1, 1) := by decide +kernel
theorem d7_29 : decode method_3_code 29 = .ok (.sipush 192, 3) := by decide +kernel
theorem d7_32 : decode method_3_code 32 = .ok (.iload_n 2, 1) := by decide +kernel
theorem d7_33 : decode method_3_code 33 = .ok (.bipush 6, 2) := by decide +kernel
theorem d7_35 : decode method_3_code 35 = .ok (.ishr, 1) := by decide +kernel
theorem d7_36 : decode method_3_code 36 = .ok (.ior, 1) := by decide +kernel
theorem d7_37 : decode method_3_code 37 = .ok (.i2b, 1) := by decide +kernel
theorem d7_38 : decode method_3_code 38 = .ok (.bastore, 1) := by decide +kernel
theorem d7_39 : decode method_3_code 39 = .ok (.aload_n 0, 1) := by decide +kernel
theorem d7_40 : decode method_3_code 40 = .ok (.iload_n 1, 1) := by decide +kernel
theorem d7_41 : decode method_3_code 41 = .ok (.iconst 1, 1) := by decide +kernel
theorem d7_42 : decode method_3_code 42 = .ok (.iadd, 1) := by decide +kernel
theorem d7_43 : decode method_3_code 43 = .ok (.sipush 128, 3) := by decide +kernel
theorem d7_46 : decode method_3_code 46 = .ok (.iload_n 2, 1) := by decide +kernel
theorem d7_47 : decode method_3_code 47 = .ok (.bipush 63, 2) := by decide +kernel
theorem d7_49 : decode method_3_code 49 = .ok (.iand, 1) := by decide +kernel
theorem d7_50 : decode method_3_code 50 = .ok (.ior, 1) := by decide +kernel
theorem d7_51 : decode method_3_code 51 = .ok (.i2b, 1) := by decide +kernel
theorem d7_52 : decode method_3_code 52 = .ok (.bastore, 1) := by decide +kernel
theorem d7_53 : decode method_3_code 53 = .ok (.iload_n 1, 1) := by decide +kernel
theorem d7_54 : decode method_3_code 54 = .ok (.iconst 2, 1) := by decide +kernel
theorem d7_55 : decode method_3_code 55 = .ok (.iadd, 1) := by decide +kernel
theorem d7_56 : decode method_3_code 56 = .ok (.ireturn, 1) := by decide +kernel
theorem d7_57 : decode method_3_code 57 = .ok (.aload_n 0, 1) := by decide +kernel
theorem d7_58 : decode method_3_code 58 = .ok (.iload_n 1, 1) := by decide +kernel
theorem d7_59 : decode method_3_code 59 = .ok (.sipush 224, 3) := by decide +kernel
theorem d7_62 : decode method_3_code 62 = .ok (.iload_n 2, 1) := by decide +kernel
theorem d7_63 : decode method_3_code 63 = .ok (.bipush 12, 2) := by decide +kernel
theorem d7_65 : decode method_3_code 65 = .ok (.ishr, 1) := by decide +kernel
theorem d7_66 : decode method_3_code 66 = .ok (.ior, 1) := by decide +kernel
theorem d7_67 : decode method_3_code 67 = .ok (.i2b, 1) := by decide +kernel
theorem d7_68 : decode method_3_code 68 = .ok (.bastore, 1) := by decide +kernel
theorem d7_69 : decode method_3_code 69 = .ok (.aload_n 0, 1) := by decide +kernel
theorem d7_70 : decode method_3_code 70 = .ok (.iload_n 1, 1) := by decide +kernel
theorem d7_71 : decode method_3_code 71 = .ok (.iconst 1, 1) := by decide +kernel
theorem d7_72 : decode method_3_code 72 = .ok (.iadd, 1) := by decide +kernel
theorem d7_73 : decode method_3_code 73 = .ok (.sipush 128, 3) := by decide +kernel
theorem d7_76 : decode method_3_code 76 = .ok (.iload_n 2, 1) := by decide +kernel
theorem d7_77 : decode method_3_code 77 = .ok (.bipush 6, 2) := by decide +kernel
theorem d7_79 : decode method_3_code 79 = .ok (.ishr, 1) := by decide +kernel
theorem d7_80 : decode method_3_code 80 = .ok (.bipush 63, 2) := by decide +kernel
theorem d7_82 : decode method_3_code 82 = .ok (.iand, 1) := by decide +kernel
theorem d7_83 : decode method_3_code 83 = .ok (.ior, 1) := by decide +kernel
theorem d7_84 : decode method_3_code 84 = .ok (.i2b, 1) := by decide +kernel
theorem d7_85 : decode method_3_code 85 = .ok (.bastore, 1) := by decide +kernel
theorem d7_86 : decode method_3_code 86 = .ok (.aload_n 0, 1) := by decide +kernel
theorem d7_87 : decode method_3_code 87 = .ok (.iload_n 1, 1) := by decide +kernel
theorem d7_88 : decode method_3_code 88 = .ok (.iconst 2, 1) := by decide +kernel
theorem d7_89 : decode method_3_code 89 = .ok (.iadd, 1) := by decide +kernel
theorem d7_90 : decode method_3_code 90 = .ok (.sipush 128, 3) := by decide +kernel
theorem d7_93 : decode method_3_code 93 = .ok (.iload_n 2, 1) := by decide +kernel
theorem d7_94 : decode method_3_code 94 = .ok (.bipush 63, 2) := by decide +kernel
theorem d7_96 : decode method_3_code 96 = .ok (.iand, 1) := by decide +kernel
theorem d7_97 : decode method_3_code 97 = .ok (.ior, 1) := by decide +kernel
theorem d7_98 : decode method_3_code 98 = .ok (.i2b, 1) := by decide +kernel
theorem d7_99 : decode method_3_code 99 = .ok (.bastore, 1) := by decide +kernel
theorem d7_100 : decode method_3_code 100 = .ok (.iload_n 1, 1) := by decide +kernel
theorem d7_101 : decode method_3_code 101 = .ok (.iconst 3, 1) := by decide +kernel
theorem d7_102 : decode method_3_code 102 = .ok (.iadd, 1) := by decide +kernel
theorem d7_103 : decode method_3_code 103 = .ok (.ireturn, 1) := by decide +kernel
theorem d8_0 : decode prog_31_method_1_code 0 = .ok (.aload_n 0, 1) := by decide +kernel
theorem d8_1 : decode prog_31_method_1_code 1 = .ok (.invokespecial 1, 3) := by decide +kernel
theorem d8_4 : decode prog_31_method_1_code 4 = .ok (.aload_n 0, 1) := by decide +kernel
theorem d8_5 : decode prog_31_method_1_code 5 = .ok (.lload_n 1, 1) := by decide +kernel
theorem d8_6 : decode prog_31_method_1_code 6 = .ok (.putfield 7, 3) := by decide +kernel
theorem d8_9 : decode prog_31_method_1_code 9 = .ok (.return_, 1) := by decide +kernel
theorem d9_0 : decode jdk_30_method_1_code 0 = .ok (.aload_n 0, 1) := by decide +kernel
theorem d9_1 : decode jdk_30_method_1_code 1 = .ok (.invokespecial 1, 3) := by decide +kernel
theorem d9_4 : decode jdk_30_method_1_code 4 = .ok (.return_, 1) := by decide +kernel
theorem d10_0 : decode prog_33_method_1_code 0 = .ok (.aload_n 0, 1) := by decide +kernel
theorem d10_1 : decode prog_33_method_1_code 1 = .ok (.invokespecial 1, 3) := by decide +kernel
theorem d10_4 : decode prog_33_method_1_code 4 = .ok (.aload_n 1, 1) := by decide +kernel
theorem d10_5 : decode prog_33_method_1_code 5 = .ok (.ldc 7, 2) := by decide +kernel
theorem d10_7 : decode prog_33_method_1_code 7 = .ok (.invokestatic 9, 3) := by decide +kernel
theorem d10_10 : decode prog_33_method_1_code 10 = .ok (.checkcast 15, 3) := by decide +kernel
theorem d10_13 : decode prog_33_method_1_code 13 = .ok (.invokestatic 17, 3) := by decide +kernel
theorem d10_16 : decode prog_33_method_1_code 16 = .ok (.aload_n 2, 1) := by decide +kernel
theorem d10_17 : decode prog_33_method_1_code 17 = .ok (.ldc 23, 2) := by decide +kernel
theorem d10_19 : decode prog_33_method_1_code 19 = .ok (.invokestatic 9, 3) := by decide +kernel
theorem d10_22 : decode prog_33_method_1_code 22 = .ok (.pop, 1) := by decide +kernel
theorem d10_23 : decode prog_33_method_1_code 23 = .ok (.aload_n 0, 1) := by decide +kernel
theorem d10_24 : decode prog_33_method_1_code 24 = .ok (.aload_n 1, 1) := by decide +kernel
theorem d10_25 : decode prog_33_method_1_code 25 = .ok (.putfield 25, 3) := by decide +kernel
theorem d10_28 : decode prog_33_method_1_code 28 = .ok (.aload_n 0, 1) := by decide +kernel
theorem d10_29 : decode prog_33_method_1_code 29 = .ok (.aload_n 2, 1) := by decide +kernel
theorem d10_30 : decode prog_33_method_1_code 30 = .ok (.putfield 30, 3) := by decide +kernel
theorem d10_33 : decode prog_33_method_1_code 33 = .ok (.return_, 1) := by decide +kernel
theorem d11_0 : decode jdk_31_method_11_code 0 = .ok (.aload_n 0, 1) := by decide +kernel
theorem d11_1 : decode jdk_31_method_11_code 1 = .ok (.ifnonnull 12, 3) := by decide +kernel
theorem d11_13 : decode jdk_31_method_11_code 13 = .ok (.aload_n 0, 1) := by decide +kernel
theorem d11_14 : decode jdk_31_method_11_code 14 = .ok (.areturn, 1) := by decide +kernel
theorem d12_0 : decode prog_32_method_4_code 0 = .ok (.aload_n 0, 1) := by decide +kernel
theorem d12_1 : decode prog_32_method_4_code 1 = .ok (.invokestatic 27, 3) := by decide +kernel
theorem d12_4 : decode prog_32_method_4_code 4 = .ok (.ifCond .ne 20, 3) := by decide +kernel
theorem d12_24 : decode prog_32_method_4_code 24 = .ok (.return_, 1) := by decide +kernel
theorem d13_0 : decode prog_32_method_3_code 0 = .ok (.aload_n 0, 1) := by decide +kernel
theorem d13_1 : decode prog_32_method_3_code 1 = .ok (.invokevirtual 9, 3) := by decide +kernel
theorem d13_4 : decode prog_32_method_3_code 4 = .ok (.sipush 21845, 3) := by decide +kernel
theorem d13_7 : decode prog_32_method_3_code 7 = .ok (.if_icmp .le 14, 3) := by decide +kernel
theorem d13_21 : decode prog_32_method_3_code 21 = .ok (.iconst 1, 1) := by decide +kernel
theorem d13_22 : decode prog_32_method_3_code 22 = .ok (.goto 4, 3) := by decide +kernel
theorem d13_26 : decode prog_32_method_3_code 26 = .ok (.ireturn, 1) := by decide +kernel
theorem d14_0 : decode jdk_42_method_54_code 0 = .ok (.aload_n 0, 1) := by decide +kernel
theorem d14_1 : decode jdk_42_method_54_code 1 = .ok (.getfield 9, 3) := by decide +kernel
theorem d14_4 : decode jdk_42_method_54_code 4 = .ok (.arraylength, 1) := by decide +kernel
theorem d14_5 : decode jdk_42_method_54_code 5 = .ok (.aload_n 0, 1) := by decide +kernel
theorem d14_6 : decode jdk_42_method_54_code 6 = .ok (.invokevirtual 335, 3) := by decide +kernel
theorem d14_9 : decode jdk_42_method_54_code 9 = .ok (.ishr, 1) := by decide +kernel
theorem d14_10 : decode jdk_42_method_54_code 10 = .ok (.ireturn, 1) := by decide +kernel
theorem d15_0 : decode jdk_42_method_152_code 0 = .ok (.getstatic 38, 3) := by decide +kernel
theorem d15_3 : decode jdk_42_method_152_code 3 = .ok (.ifCond .eq 10, 3) := by decide +kernel
theorem d15_6 : decode jdk_42_method_152_code 6 = .ok (.aload_n 0, 1) := by decide +kernel
theorem d15_7 : decode jdk_42_method_152_code 7 = .ok (.getfield 15, 3) := by decide +kernel
theorem d15_10 : decode jdk_42_method_152_code 10 = .ok (.goto 4, 3) := by decide +kernel
theorem d15_14 : decode jdk_42_method_152_code 14 = .ok (.ireturn, 1) := by decide +kernel
theorem d16_0 : decode prog_41_method_1_code 0 = .ok (.aload_n 0, 1) := by decide +kernel
theorem d16_1 : decode prog_41_method_1_code 1 = .ok (.invokespecial 1, 3) := by decide +kernel
theorem d16_4 : decode prog_41_method_1_code 4 = .ok (.aload_n 0, 1) := by decide +kernel
theorem d16_5 : decode prog_41_method_1_code 5 = .ok (.sipush 256, 3) := by decide +kernel
theorem d16_8 : decode prog_41_method_1_code 8 = .ok (.newarray .byte, 2) := by decide +kernel
theorem d16_10 : decode prog_41_method_1_code 10 = .ok (.putfield 7, 3) := by decide +kernel
theorem d16_13 : decode prog_41_method_1_code 13 = .ok (.return_, 1) := by decide +kernel
theorem d17_0 : decode prog_41_method_3_code 0 = .ok (.aload_n 0, 1) := by decide +kernel
theorem d17_1 : decode prog_41_method_3_code 1 = .ok (.getfield 7, 3) := by decide +kernel
theorem d17_4 : decode prog_41_method_3_code 4 = .ok (.aload_n 0, 1) := by decide +kernel
theorem d17_5 : decode prog_41_method_3_code 5 = .ok (.getfield 47, 3) := by decide +kernel
theorem d17_8 : decode prog_41_method_3_code 8 = .ok (.invokestatic 51, 3) := by decide +kernel
theorem d17_11 : decode prog_41_method_3_code 11 = .ok (.areturn, 1) := by decide +kernel
theorem d18_0 : decode jdk_65_method_121_code 0 = .ok (.iload_n 1, 1) := by decide +kernel
theorem d18_1 : decode jdk_65_method_121_code 1 = .ok (.aload_n 0, 1) := by decide +kernel
theorem d18_2 : decode jdk_65_method_121_code 2 = .ok (.arraylength, 1) := by decide +kernel
theorem d18_3 : decode jdk_65_method_121_code 3 = .ok (.if_icmp .ne 11, 3) := by decide +kernel
theorem d18_14 : decode jdk_65_method_121_code 14 = .ok (.iload_n 1, 1) := by decide +kernel
theorem d18_15 : decode jdk_65_method_121_code 15 = .ok (.newarray .byte, 2) := by decide +kernel
theorem d18_17 : decode jdk_65_method_121_code 17 = .ok (.astore_n 2, 1) := by decide +kernel
theorem d18_18 : decode jdk_65_method_121_code 18 = .ok (.aload_n 0, 1) := by decide +kernel
theorem d18_19 : decode jdk_65_method_121_code 19 = .ok (.iconst 0, 1) := by decide +kernel
theorem d18_20 : decode jdk_65_method_121_code 20 = .ok (.aload_n 2, 1) := by decide +kernel
theorem d18_21 : decode jdk_65_method_121_code 21 = .ok (.iconst 0, 1) := by decide +kernel
theorem d18_22 : decode jdk_65_method_121_code 22 = .ok (.aload_n 0, 1) := by decide +kernel
theorem d18_23 : decode jdk_65_method_121_code 23 = .ok (.arraylength, 1) := by decide +kernel
theorem d18_24 : decode jdk_65_method_121_code 24 = .ok (.iload_n 1, 1) := by decide +kernel
theorem d18_25 : decode jdk_65_method_121_code 25 = .ok (.invokestatic 304, 3) := by decide +kernel
theorem d18_28 : decode jdk_65_method_121_code 28 = .ok (.invokestatic 150, 3) := by decide +kernel
theorem d18_31 : decode jdk_65_method_121_code 31 = .ok (.aload_n 2, 1) := by decide +kernel
theorem d18_32 : decode jdk_65_method_121_code 32 = .ok (.areturn, 1) := by decide +kernel
theorem d19_0 : decode prog_41_method_2_code 0 = .ok (.aload_n 0, 1) := by decide +kernel
theorem d19_1 : decode prog_41_method_2_code 1 = .ok (.aload_n 1, 1) := by decide +kernel
theorem d19_2 : decode prog_41_method_2_code 2 = .ok (.invokevirtual 13, 3) := by decide +kernel
theorem d19_5 : decode prog_41_method_2_code 5 = .ok (.invokeinterface 19 1, 5) := by decide +kernel
theorem d19_10 : decode prog_41_method_2_code 10 = .ok (.invokevirtual 25, 3) := by decide +kernel
theorem d19_13 : decode prog_41_method_2_code 13 = .ok (.invokevirtual 31, 3) := by decide +kernel
theorem d19_16 : decode prog_41_method_2_code 16 = .ok (.aload_n 0, 1) := by decide +kernel
theorem d19_17 : decode prog_41_method_2_code 17 = .ok (.aload_n 1, 1) := by decide +kernel
theorem d19_18 : decode prog_41_method_2_code 18 = .ok (.invokevirtual 35, 3) := by decide +kernel
theorem d19_21 : decode prog_41_method_2_code 21 = .ok (.invokevirtual 39, 3) := by decide +kernel
theorem d19_24 : decode prog_41_method_2_code 24 = .ok (.aload_n 0, 1) := by decide +kernel
theorem d19_25 : decode prog_41_method_2_code 25 = .ok (.aload_n 1, 1) := by decide +kernel
theorem d19_26 : decode prog_41_method_2_code 26 = .ok (.invokevirtual 13, 3) := by decide +kernel
theorem d19_29 : decode prog_41_method_2_code 29 = .ok (.invokevirtual 43, 3) := by decide +kernel
theorem d19_32 : decode prog_41_method_2_code 32 = .ok (.return_, 1) := by decide +kernel
theorem d20_0 : decode prog_33_method_6_code 0 = .ok (.aload_n 0, 1) := by decide +kernel
theorem d20_1 : decode prog_33_method_6_code 1 = .ok (.getfield 30, 3) := by decide +kernel
theorem d20_4 : decode prog_33_method_6_code 4 = .ok (.areturn, 1) := by decide +kernel
theorem d21_0 : decode prog_31_method_2_code 0 = .ok (.getstatic 13, 3) := by decide +kernel
theorem d21_3 : decode prog_31_method_2_code 3 = .ok (.areturn, 1) := by decide +kernel
theorem d22_0 : decode prog_47_method_4_code 0 = .ok (.aload_n 0, 1) := by decide +kernel
theorem d22_1 : decode prog_47_method_4_code 1 = .ok (.getfield 62, 3) := by decide +kernel
theorem d22_4 : decode prog_47_method_4_code 4 = .ok (.ireturn, 1) := by decide +kernel
theorem d23_0 : decode prog_41_method_6_code 0 = .ok (.aload_n 0, 1) := by decide +kernel
theorem d23_1 : decode prog_41_method_6_code 1 = .ok (.iconst 1, 1) := by decide +kernel
theorem d23_2 : decode prog_41_method_6_code 2 = .ok (.invokevirtual 124, 3) := by decide +kernel
theorem d23_5 : decode prog_41_method_6_code 5 = .ok (.aload_n 0, 1) := by decide +kernel
theorem d23_6 : decode prog_41_method_6_code 6 = .ok (.getfield 7, 3) := by decide +kernel
theorem d23_9 : decode prog_41_method_6_code 9 = .ok (.aload_n 0, 1) := by decide +kernel
theorem d23_10 : decode prog_41_method_6_code 10 = .ok (.dup, 1) := by decide +kernel
theorem d23_11 : decode prog_41_method_6_code 11 = .ok (.getfield 47, 3) := by decide +kernel
theorem d23_14 : decode prog_41_method_6_code 14 = .ok (.dup_x1, 1) := by decide +kernel
theorem d23_15 : decode prog_41_method_6_code 15 = .ok (.iconst 1, 1) := by decide +kernel
theorem d23_16 : decode prog_41_method_6_code 16 = .ok (.iadd, 1) := by decide +kernel
theorem d23_17 : decode prog_41_method_6_code 17 = .ok (.putfield 47, 3) := by decide +kernel
theorem d23_20 : decode prog_41_method_6_code 20 = .ok (.iload_n 1, 1) := by decide +kernel
theorem d23_21 : decode prog_41_method_6_code 21 = .ok (.i2b, 1) := by decide +kernel
theorem d23_22 : decode prog_41_method_6_code 22 = .ok (.bastore, 1) := by decide +kernel
theorem d23_23 : decode prog_41_method_6_code 23 = .ok (.return_, 1) := by decide +kernel
theorem d24_0 : decode prog_41_method_10_code 0 = .ok (.iload_n 1, 1) := by decide +kernel
theorem d24_1 : decode prog_41_method_10_code 1 = .ok (.aload_n 0, 1) := by decide +kernel
theorem d24_2 : decode prog_41_method_10_code 2 = .ok (.getfield 7, 3) := by decide +kernel
theorem d24_5 : decode prog_41_method_10_code 5 = .ok (.arraylength, 1) := by decide +kernel
theorem d24_6 : decode prog_41_method_10_code 6 = .ok (.aload_n 0, 1) := by decide +kernel
theorem d24_7 : decode prog_41_method_10_code 7 = .ok (.getfield 47, 3) := by decide +kernel
theorem d24_10 : decode prog_41_method_10_code 10 = .ok (.isub, 1) := by decide +kernel
theorem d24_11 : decode prog_41_method_10_code 11 = .ok (.if_icmp .le 69, 3) := by decide +kernel
theorem d24_80 : decode prog_41_method_10_code 80 = .ok (.return_, 1) := by decide +kernel
theorem d25_0 : decode prog_33_method_5_code 0 = .ok (.aload_n 0, 1) := by decide +kernel
theorem d25_1 : decode prog_33_method_5_code 1 = .ok (.getfield 25, 3) := by decide +kernel
theorem d25_4 : decode prog_33_method_5_code 4 = .ok (.areturn, 1) := by decide +kernel
theorem d26_0 : decode prog_41_method_5_code 0 = .ok (.aload_n 1, 1) := by decide +kernel
theorem d26_1 : decode prog_41_method_5_code 1 = .ok (.invokestatic 187, 3) := by decide +kernel
theorem d26_4 : decode prog_41_method_5_code 4 = .ok (.l2i, 1) := by decide +kernel
theorem d26_5 : decode prog_41_method_5_code 5 = .ok (.istore_n 2, 1) := by decide +kernel
theorem d26_6 : decode prog_41_method_5_code 6 = .ok (.aload_n 0, 1) := by decide +kernel
theorem d26_7 : decode prog_41_method_5_code 7 = .ok (.iload_n 2, 1) := by decide +kernel
theorem d26_8 : decode prog_41_method_5_code 8 = .ok (.invokevirtual 77, 3) := by decide +kernel
theorem d26_11 : decode prog_41_method_5_code 11 = .ok (.aload_n 0, 1) := by decide +kernel
theorem d26_12 : decode prog_41_method_5_code 12 = .ok (.iload_n 2, 1) := by decide +kernel
theorem d26_13 : decode prog_41_method_5_code 13 = .ok (.invokevirtual 124, 3) := by decide +kernel
theorem d26_16 : decode prog_41_method_5_code 16 = .ok (.aload_n 0, 1) := by decide +kernel
theorem d26_17 : decode prog_41_method_5_code 17 = .ok (.aload_n 1, 1) := by decide +kernel
theorem d26_18 : decode prog_41_method_5_code 18 = .ok (.aload_n 0, 1) := by decide +kernel
theorem d26_19 : decode prog_41_method_5_code 19 = .ok (.getfield 7, 3) := by decide +kernel
theorem d26_22 : decode prog_41_method_5_code 22 = .ok (.aload_n 0, 1) := by decide +kernel
theorem d26_23 : decode prog_41_method_5_code 23 = .ok (.getfield 47, 3) := by decide +kernel
theorem d26_26 : decode prog_41_method_5_code 26 = .ok (.invokestatic 193, 3) := by decide +kernel
theorem d26_29 : decode prog_41_method_5_code 29 = .ok (.putfield 47, 3) := by decide +kernel
theorem d26_32 : decode prog_41_method_5_code 32 = .ok (.return_, 1) := by decide +kernel
theorem d27_0 : decode prog_32_method_2_code 0 = .ok (.aload_n 0, 1) := by decide +kernel
theorem d27_1 : decode prog_32_method_2_code 1 = .ok (.invokevirtual 9, 3) := by decide +kernel
theorem d27_4 : decode prog_32_method_2_code 4 = .ok (.i2l, 1) := by decide +kernel
theorem d27_5 : decode prog_32_method_2_code 5 = .ok (.lstore_n 1, 1) := by decide +kernel
theorem d27_6 : decode prog_32_method_2_code 6 = .ok (.iconst 0, 1) := by decide +kernel
theorem d27_7 : decode prog_32_method_2_code 7 = .ok (.istore_n 3, 1) := by decide +kernel
theorem d27_8 : decode prog_32_method_2_code 8 = .ok (.iload_n 3, 1) := by decide +kernel
theorem d27_9 : decode prog_32_method_2_code 9 = .ok (.aload_n 0, 1) := by decide +kernel
theorem d27_10 : decode prog_32_method_2_code 10 = .ok (.invokevirtual 9, 3) := by decide +kernel
theorem d27_13 : decode prog_32_method_2_code 13 = .ok (.if_icmp .ge 47, 3) := by decide +kernel
theorem d27_16 : decode prog_32_method_2_code 16 = .ok (.aload_n 0, 1) := by decide +kernel
theorem d27_17 : decode prog_32_method_2_code 17 = .ok (.iload_n 3, 1) := by decide +kernel
theorem d27_18 : decode prog_32_method_2_code 18 = .ok (.invokevirtual 15, 3) := by decide +kernel
theorem d27_21 : decode prog_32_method_2_code 21 = .ok (.istore 4, 2) := by decide +kernel
theorem d27_23 : decode prog_32_method_2_code 23 = .ok (.iload 4, 2) := by decide +kernel
theorem d27_25 : decode prog_32_method_2_code 25 = .ok (.ifCond .eq 11, 3) := by decide +kernel
theorem d27_28 : decode prog_32_method_2_code 28 = .ok (.iload 4, 2) := by decide +kernel
theorem d27_30 : decode prog_32_method_2_code 30 = .ok (.sipush 128, 3) := by decide +kernel
theorem d27_33 : decode prog_32_method_2_code 33 = .ok (.if_icmp .lt 21, 3) := by decide +kernel
theorem d27_36 : decode prog_32_method_2_code 36 = .ok (.lload_n 1, 1) := by decide +kernel
theorem d27_37 : decode prog_32_method_2_code 37 = .ok (.iload 4, 2) := by decide +kernel
theorem d27_39 : decode prog_32_method_2_code 39 = .ok (.sipush 2048, 3) := by decide +kernel
theorem d27_42 : decode prog_32_method_2_code 42 = .ok (.if_icmp .ge 7, 3) := by decide +kernel
theorem d27_45 : decode prog_32_method_2_code 45 = .ok (.lconst 1, 1) := by decide +kernel
theorem d27_46 : decode prog_32_method_2_code 46 = .ok (.goto 6, 3) := by decide +kernel
theorem d27_49 : decode prog_32_method_2_code 49 = .ok (.ldc2_w 19, 3) := by decide +kernel
theorem d27_52 : decode prog_32_method_2_code 52 = .ok (.ladd, 1) := by decide +kernel
theorem d27_53 : decode prog_32_method_2_code 53 = .ok (.lstore_n 1, 1) := by decide +kernel
theorem d27_54 : decode prog_32_method_2_code 54 = .ok (.iinc 3 1, 3) := by decide +kernel
theorem d27_57 : decode prog_32_method_2_code 57 = .ok (.goto (-49), 3) := by decide +kernel
theorem d27_60 : decode prog_32_method_2_code 60 = .ok (.lload_n 1, 1) := by decide +kernel
theorem d27_61 : decode prog_32_method_2_code 61 = .ok (.lreturn, 1) := by decide +kernel
theorem d28_0 : decode jdk_42_method_56_code 0 = .ok (.aload_n 0, 1) := by decide +kernel
theorem d28_1 : decode jdk_42_method_56_code 1 = .ok (.invokevirtual 492, 3) := by decide +kernel
theorem d28_4 : decode jdk_42_method_56_code 4 = .ok (.ifCond .eq 12, 3) := by decide +kernel
theorem d28_7 : decode jdk_42_method_56_code 7 = .ok (.aload_n 0, 1) := by decide +kernel
theorem d28_8 : decode jdk_42_method_56_code 8 = .ok (.getfield 9, 3) := by decide +kernel
theorem d28_11 : decode jdk_42_method_56_code 11 = .ok (.iload_n 1, 1) := by decide +kernel
theorem d28_12 : decode jdk_42_method_56_code 12 = .ok (.invokestatic 495, 3) := by decide +kernel
theorem d28_15 : decode jdk_42_method_56_code 15 = .ok (.ireturn, 1) := by decide +kernel
theorem d28_16 : decode jdk_42_method_56_code 16 = .ok (.aload_n 0, 1) := by decide +kernel
theorem d28_17 : decode jdk_42_method_56_code 17 = .ok (.getfield 9, 3) := by decide +kernel
theorem d28_20 : decode jdk_42_method_56_code 20 = .ok (.iload_n 1, 1) := by decide +kernel
theorem d28_21 : decode jdk_42_method_56_code 21 = .ok (.invokestatic 498, 3) := by decide +kernel
theorem d28_24 : decode jdk_42_method_56_code 24 = .ok (.ireturn, 1) := by decide +kernel
theorem d29_0 : decode jdk_42_method_154_code 0 = .ok (.getstatic 38, 3) := by decide +kernel
theorem d29_3 : decode jdk_42_method_154_code 3 = .ok (.ifCond .eq 14, 3) := by decide +kernel
theorem d29_6 : decode jdk_42_method_154_code 6 = .ok (.aload_n 0, 1) := by decide +kernel
theorem d29_7 : decode jdk_42_method_154_code 7 = .ok (.getfield 15, 3) := by decide +kernel
theorem d29_10 : decode jdk_42_method_154_code 10 = .ok (.ifCond .ne 7, 3) := by decide +kernel
theorem d29_13 : decode jdk_42_method_154_code 13 = .ok (.iconst 1, 1) := by decide +kernel
theorem d29_14 : decode jdk_42_method_154_code 14 = .ok (.goto 4, 3) := by decide +kernel
theorem d29_17 : decode jdk_42_method_154_code 17 = .ok (.iconst 0, 1) := by decide +kernel
theorem d29_18 : decode jdk_42_method_154_code 18 = .ok (.ireturn, 1) := by decide +kernel
theorem d30_0 : decode jdk_43_method_2_code 0 = .ok (.iload_n 1, 1) := by decide +kernel
theorem d30_1 : decode jdk_43_method_2_code 1 = .ok (.aload_n 0, 1) := by decide +kernel
theorem d30_2 : decode jdk_43_method_2_code 2 = .ok (.arraylength, 1) := by decide +kernel
theorem d30_3 : decode jdk_43_method_2_code 3 = .ok (.invokestatic 9, 3) := by decide +kernel
theorem d30_6 : decode jdk_43_method_2_code 6 = .ok (.aload_n 0, 1) := by decide +kernel
theorem d30_7 : decode jdk_43_method_2_code 7 = .ok (.iload_n 1, 1) := by decide +kernel
theorem d30_8 : decode jdk_43_method_2_code 8 = .ok (.baload, 1) := by decide +kernel
theorem d30_9 : decode jdk_43_method_2_code 9 = .ok (.sipush 255, 3) := by decide +kernel
theorem d30_12 : decode jdk_43_method_2_code 12 = .ok (.iand, 1) := by decide +kernel
theorem d30_13 : decode jdk_43_method_2_code 13 = .ok (.i2c, 1) := by decide +kernel
theorem d30_14 : decode jdk_43_method_2_code 14 = .ok (.ireturn, 1) := by decide +kernel
theorem d31_0 : decode jdk_42_method_155_code 0 = .ok (.iload_n 0, 1) := by decide +kernel
theorem d31_1 : decode jdk_42_method_155_code 1 = .ok (.iload_n 1, 1) := by decide +kernel
theorem d31_2 : decode jdk_42_method_155_code 2 = .ok (.getstatic 1053, 3) := by decide +kernel
theorem d31_5 : decode jdk_42_method_155_code 5 = .ok (.invokestatic 1059, 3) := by decide +kernel
theorem d31_8 : decode jdk_42_method_155_code 8 = .ok (.pop, 1) := by decide +kernel
theorem d31_9 : decode jdk_42_method_155_code 9 = .ok (.return_, 1) := by decide +kernel
theorem d32_0 : decode jdk_41_method_11_code 0 = .ok (.iload_n 0, 1) := by decide +kernel
theorem d32_1 : decode jdk_41_method_11_code 1 = .ok (.ifCond .lt 8, 3) := by decide +kernel
theorem d32_4 : decode jdk_41_method_11_code 4 = .ok (.iload_n 0, 1) := by decide +kernel
theorem d32_5 : decode jdk_41_method_11_code 5 = .ok (.iload_n 1, 1) := by decide +kernel
theorem d32_6 : decode jdk_41_method_11_code 6 = .ok (.if_icmp .lt 10, 3) := by decide +kernel
theorem d32_16 : decode jdk_41_method_11_code 16 = .ok (.iload_n 0, 1) := by decide +kernel
theorem d32_17 : decode jdk_41_method_11_code 17 = .ok (.ireturn, 1) := by decide +kernel
theorem d33_0 : decode prog_41_method_7_code 0 = .ok (.aload_n 0, 1) := by decide +kernel
theorem d33_1 : decode prog_41_method_7_code 1 = .ok (.iconst 2, 1) := by decide +kernel
theorem d33_2 : decode prog_41_method_7_code 2 = .ok (.invokevirtual 124, 3) := by decide +kernel
theorem d33_5 : decode prog_41_method_7_code 5 = .ok (.aload_n 0, 1) := by decide +kernel
theorem d33_6 : decode prog_41_method_7_code 6 = .ok (.getfield 7, 3) := by decide +kernel
theorem d33_9 : decode prog_41_method_7_code 9 = .ok (.aload_n 0, 1) := by decide +kernel
theorem d33_10 : decode prog_41_method_7_code 10 = .ok (.dup, 1) := by decide +kernel
theorem d33_11 : decode prog_41_method_7_code 11 = .ok (.getfield 47, 3) := by decide +kernel
theorem d33_14 : decode prog_41_method_7_code 14 = .ok (.dup_x1, 1) := by decide +kernel
theorem d33_15 : decode prog_41_method_7_code 15 = .ok (.iconst 1, 1) := by decide +kernel
theorem d33_16 : decode prog_41_method_7_code 16 = .ok (.iadd, 1) := by decide +kernel
theorem d33_17 : decode prog_41_method_7_code 17 = .ok (.putfield 47, 3) := by decide +kernel
theorem d33_20 : decode prog_41_method_7_code 20 = .ok (.iload_n 1, 1) := by decide +kernel
theorem d33_21 : decode prog_41_method_7_code 21 = .ok (.bipush 8, 2) := by decide +kernel
theorem d33_23 : decode prog_41_method_7_code 23 = .ok (.ishr, 1) := by decide +kernel
theorem d33_24 : decode prog_41_method_7_code 24 = .ok (.i2b, 1) := by decide +kernel
theorem d33_25 : decode prog_41_method_7_code 25 = .ok (.bastore, 1) := by decide +kernel
theorem d33_26 : decode prog_41_method_7_code 26 = .ok (.aload_n 0, 1) := by decide +kernel
theorem d33_27 : decode prog_41_method_7_code 27 = .ok (.getfield 7, 3) := by decide +kernel
theorem d33_30 : decode prog_41_method_7_code 30 = .ok (.aload_n 0, 1) := by decide +kernel
theorem d33_31 : decode prog_41_method_7_code 31 = .ok (.dup, 1) := by decide +kernel
theorem d33_32 : decode prog_41_method_7_code 32 = .ok (.getfield 47, 3) := by decide +kernel
theorem d33_35 : decode prog_41_method_7_code 35 = .ok (.dup_x1, 1) := by decide +kernel
theorem d33_36 : decode prog_41_method_7_code 36 = .ok (.iconst 1, 1) := by decide +kernel
theorem d33_37 : decode prog_41_method_7_code 37 = .ok (.iadd, 1) := by decide +kernel
theorem d33_38 : decode prog_41_method_7_code 38 = .ok (.putfield 47, 3) := by decide +kernel
theorem d33_41 : decode prog_41_method_7_code 41 = .ok (.iload_n 1, 1) := by decide +kernel
theorem d33_42 : decode prog_41_method_7_code 42 = .ok (.i2b, 1) := by decide +kernel
theorem d33_43 : decode prog_41_method_7_code 43 = .ok (.bastore, 1) := by decide +kernel
theorem d33_44 : decode prog_41_method_7_code 44 = .ok (.return_, 1) := by decide +kernel
theorem d34_0 : decode prog_32_method_5_code 0 = .ok (.iload_n 2, 1) := by decide +kernel
theorem d34_1 : decode prog_32_method_5_code 1 = .ok (.istore_n 3, 1) := by decide +kernel
theorem d34_2 : decode prog_32_method_5_code 2 = .ok (.iconst 0, 1) := by decide +kernel
theorem d34_3 : decode prog_32_method_5_code 3 = .ok (.istore 4, 2) := by decide +kernel
theorem d34_5 : decode prog_32_method_5_code 5 = .ok (.iload 4, 2) := by decide +kernel
theorem d34_7 : decode prog_32_method_5_code 7 = .ok (.aload_n 0, 1) := by decide +kernel
theorem d34_8 : decode prog_32_method_5_code 8 = .ok (.invokevirtual 9, 3) := by decide +kernel
theorem d34_11 : decode prog_32_method_5_code 11 = .ok (.if_icmp .ge 136, 3) := by decide +kernel
theorem d34_14 : decode prog_32_method_5_code 14 = .ok (.aload_n 0, 1) := by decide +kernel
theorem d34_15 : decode prog_32_method_5_code 15 = .ok (.iload 4, 2) := by decide +kernel
theorem d34_17 : decode prog_32_method_5_code 17 = .ok (.invokevirtual 15, 3) := by decide +kernel
theorem d34_20 : decode prog_32_method_5_code 20 = .ok (.istore 5, 2) := by decide +kernel
theorem d34_22 : decode prog_32_method_5_code 22 = .ok (.iload 5, 2) := by decide +kernel
theorem d34_24 : decode prog_32_method_5_code 24 = .ok (.ifCond .eq 23, 3) := by decide +kernel
theorem d34_27 : decode prog_32_method_5_code 27 = .ok (.iload 5, 2) := by decide +kernel
theorem d34_29 : decode prog_32_method_5_code 29 = .ok (.sipush 128, 3) := by decide +kernel
theorem d34_32 : decode prog_32_method_5_code 32 = .ok (.if_icmp .ge 15, 3) := by decide +kernel
theorem d34_35 : decode prog_32_method_5_code 35 = .ok (.aload_n 1, 1) := by decide +kernel
theorem d34_36 : decode prog_32_method_5_code 36 = .ok (.iload_n 3, 1) := by decide +kernel
theorem d34_37 : decode prog_32_method_5_code 37 = .ok (.iinc 3 1, 3) := by decide +kernel
theorem d34_40 : decode prog_32_method_5_code 40 = .ok (.iload 5, 2) := by decide +kernel
theorem d34_42 : decode prog_32_method_5_code 42 = .ok (.i2b, 1) := by decide +kernel
theorem d34_43 : decode prog_32_method_5_code 43 = .ok (.bastore, 1) := by decide +kernel
theorem d34_44 : decode prog_32_method_5_code 44 = .ok (.goto 97, 3) := by decide +kernel
theorem d34_47 : decode prog_32_method_5_code 47 = .ok (.iload 5, 2) := by decide +kernel
theorem d34_49 : decode prog_32_method_5_code 49 = .ok (.sipush 2048, 3) := by decide +kernel
theorem d34_52 : decode prog_32_method_5_code 52 = .ok (.if_icmp .ge 38, 3) := by decide +kernel
theorem d34_55 : decode prog_32_method_5_code 55 = .ok (.aload_n 1, 1) := by decide +kernel
theorem d34_56 : decode prog_32_method_5_code 56 = .ok (.iload_n 3, 1) := by decide +kernel
theorem d34_57 : decode prog_32_method_5_code 57 = .ok (.iinc 3 1, 3) := by decide +kernel
theorem d34_60 : decode prog_32_method_5_code 60 = .ok (.sipush 192, 3) := by decide +kernel
theorem d34_63 : decode prog_32_method_5_code 63 = .ok (.iload 5, 2) := by decide +kernel
theorem d34_65 : decode prog_32_method_5_code 65 = .ok (.bipush 6, 2) := by decide +kernel
theorem d34_67 : decode prog_32_method_5_code 67 = .ok (.ishr, 1) := by decide +kernel
theorem d34_68 : decode prog_32_method_5_code 68 = .ok (.ior, 1) := by decide +kernel
theorem d34_69 : decode prog_32_method_5_code 69 = .ok (.i2b, 1) := by decide +kernel
theorem d34_70 : decode prog_32_method_5_code 70 = .ok (.bastore, 1) := by decide +kernel
theorem d34_71 : decode prog_32_method_5_code 71 = .ok (.aload_n 1, 1) := by decide +kernel
theorem d34_72 : decode prog_32_method_5_code 72 = .ok (.iload_n 3, 1) := by decide +kernel
theorem d34_73 : decode prog_32_method_5_code 73 = .ok (.iinc 3 1, 3) := by decide +kernel
theorem d34_76 : decode prog_32_method_5_code 76 = .ok (.sipush 128, 3) := by decide +kernel
theorem d34_79 : decode prog_32_method_5_code 79 = .ok (.iload 5, 2) := by decide +kernel
theorem d34_81 : decode prog_32_method_5_code 81 = .ok (.bipush 63, 2) := by decide +kernel
theorem d34_83 : decode prog_32_method_5_code 83 = .ok (.iand, 1) := by decide +kernel
theorem d34_84 : decode prog_32_method_5_code 84 = .ok (.ior, 1) := by decide +kernel
theorem d34_85 : decode prog_32_method_5_code 85 = .ok (.i2b, 1) := by decide +kernel
theorem d34_86 : decode prog_32_method_5_code 86 = .ok (.bastore, 1) := by decide +kernel
theorem d34_87 : decode prog_32_method_5_code 87 = .ok (.goto 54, 3) := by decide +kernel
theorem d34_90 : decode prog_32_method_5_code 90 = .ok (.aload_n 1, 1) := by decide +kernel
theorem d34_91 : decode prog_32_method_5_code 91 = .ok (.iload_n 3, 1) := by decide +kernel
theorem d34_92 : decode prog_32_method_5_code 92 = .ok (.iinc 3 1, 3) := by decide +kernel
theorem d34_95 : decode prog_32_method_5_code 95 = .ok (.sipush 224, 3) := by decide +kernel
theorem d34_98 : decode prog_32_method_5_code 98 = .ok (.iload 5, 2) := by decide +kernel
theorem d34_100 : decode prog_32_method_5_code 100 = .ok (.bipush 12, 2) := by decide +kernel
theorem d34_102 : decode prog_32_method_5_code 102 = .ok (.ishr, 1) := by decide +kernel
theorem d34_103 : decode prog_32_method_5_code 103 = .ok (.ior, 1) := by decide +kernel
theorem d34_104 : decode prog_32_method_5_code 104 = .ok (.i2b, 1) := by decide +kernel
theorem d34_105 : decode prog_32_method_5_code 105 = .ok (.bastore, 1) := by decide +kernel
theorem d34_106 : decode prog_32_method_5_code 106 = .ok (.aload_n 1, 1) := by decide +kernel
theorem d34_107 : decode prog_32_method_5_code 107 = .ok (.iload_n 3, 1) := by decide +kernel
theorem d34_108 : decode prog_32_method_5_code 108 = .ok (.iinc 3 1, 3) := by decide +kernel
theorem d34_111 : decode prog_32_method_5_code 111 = .ok (.sipush 128, 3) := by decide +kernel
theorem d34_114 : decode prog_32_method_5_code 114 = .ok (.iload 5, 2) := by decide +kernel
theorem d34_116 : decode prog_32_method_5_code 116 = .ok (.bipush 6, 2) := by decide +kernel
theorem d34_118 : decode prog_32_method_5_code 118 = .ok (.ishr, 1) := by decide +kernel
theorem d34_119 : decode prog_32_method_5_code 119 = .ok (.bipush 63, 2) := by decide +kernel
theorem d34_121 : decode prog_32_method_5_code 121 = .ok (.iand, 1) := by decide +kernel
theorem d34_122 : decode prog_32_method_5_code 122 = .ok (.ior, 1) := by decide +kernel
theorem d34_123 : decode prog_32_method_5_code 123 = .ok (.i2b, 1) := by decide +kernel
theorem d34_124 : decode prog_32_method_5_code 124 = .ok (.bastore, 1) := by decide +kernel
theorem d34_125 : decode prog_32_method_5_code 125 = .ok (.aload_n 1, 1) := by decide +kernel
theorem d34_126 : decode prog_32_method_5_code 126 = .ok (.iload_n 3, 1) := by decide +kernel
theorem d34_127 : decode prog_32_method_5_code 127 = .ok (.iinc 3 1, 3) := by decide +kernel
theorem d34_130 : decode prog_32_method_5_code 130 = .ok (.sipush 128, 3) := by decide +kernel
theorem d34_133 : decode prog_32_method_5_code 133 = .ok (.iload 5, 2) := by decide +kernel
theorem d34_135 : decode prog_32_method_5_code 135 = .ok (.bipush 63, 2) := by decide +kernel
theorem d34_137 : decode prog_32_method_5_code 137 = .ok (.iand, 1) := by decide +kernel
theorem d34_138 : decode prog_32_method_5_code 138 = .ok (.ior, 1) := by decide +kernel
theorem d34_139 : decode prog_32_method_5_code 139 = .ok (.i2b, 1) := by decide +kernel
theorem d34_140 : decode prog_32_method_5_code 140 = .ok (.bastore, 1) := by decide +kernel
theorem d34_141 : decode prog_32_method_5_code 141 = .ok (.iinc 4 1, 3) := by decide +kernel
theorem d34_144 : decode prog_32_method_5_code 144 = .ok (.goto (-139), 3) := by decide +kernel
theorem d34_147 : decode prog_32_method_5_code 147 = .ok (.iload_n 3, 1) := by decide +kernel
theorem d34_148 : decode prog_32_method_5_code 148 = .ok (.ireturn, 1) := by decide +kernel
theorem d35_0 : decode prog_41_method_4_code 0 = .ok (.getstatic 57, 3) := by decide +kernel
theorem d35_3 : decode prog_41_method_4_code 3 = .ok (.aload_n 1, 1) := by decide +kernel
theorem d35_4 : decode prog_41_method_4_code 4 = .ok (.invokeinterface 19 1, 5) := by decide +kernel
theorem d35_9 : decode prog_41_method_4_code 9 = .ok (.invokevirtual 63, 3) := by decide +kernel
theorem d35_12 : decode prog_41_method_4_code 12 = .ok (.iaload, 1) := by decide +kernel
theorem d35_13 : decode prog_41_method_4_code 13 = .ok (.tableswitch 440 1 12 #[63, 77, 91, 105, 119, 136, 153, 202, 216, 268, 338, 389], 63) := by decide +kernel
theorem d35_118 : decode prog_41_method_4_code 118 = .ok (.aload_n 0, 1) := by decide +kernel
theorem d35_119 : decode prog_41_method_4_code 119 = .ok (.aload_n 1, 1) := by decide +kernel
theorem d35_120 : decode prog_41_method_4_code 120 = .ok (.checkcast 87, 3) := by decide +kernel
theorem d35_123 : decode prog_41_method_4_code 123 = .ok (.invokevirtual 89, 3) := by decide +kernel
theorem d35_126 : decode prog_41_method_4_code 126 = .ok (.invokevirtual 92, 3) := by decide +kernel
theorem d35_129 : decode prog_41_method_4_code 129 = .ok (.goto 346, 3) := by decide +kernel
theorem d35_475 : decode prog_41_method_4_code 475 = .ok (.return_, 1) := by decide +kernel
theorem d36_0 : decode jdk_37_method_2_code 0 = .ok (.aload_n 0, 1) := by decide +kernel
theorem d36_1 : decode jdk_37_method_2_code 1 = .ok (.getfield 7, 3) := by decide +kernel
theorem d36_4 : decode jdk_37_method_2_code 4 = .ok (.ireturn, 1) := by decide +kernel
theorem d37_0 : decode prog_31_method_6_code 0 = .ok (.aload_n 0, 1) := by decide +kernel
theorem d37_1 : decode prog_31_method_6_code 1 = .ok (.getfield 7, 3) := by decide +kernel
theorem d37_4 : decode prog_31_method_6_code 4 = .ok (.lreturn, 1) := by decide +kernel
theorem d38_0 : decode prog_41_method_9_code 0 = .ok (.aload_n 0, 1) := by decide +kernel
theorem d38_1 : decode prog_41_method_9_code 1 = .ok (.lload_n 1, 1) := by decide +kernel
theorem d38_2 : decode prog_41_method_9_code 2 = .ok (.bipush 32, 2) := by decide +kernel
theorem d38_4 : decode prog_41_method_9_code 4 = .ok (.lshr, 1) := by decide +kernel
theorem d38_5 : decode prog_41_method_9_code 5 = .ok (.l2i, 1) := by decide +kernel
theorem d38_6 : decode prog_41_method_9_code 6 = .ok (.invokevirtual 84, 3) := by decide +kernel
theorem d38_9 : decode prog_41_method_9_code 9 = .ok (.aload_n 0, 1) := by decide +kernel
theorem d38_10 : decode prog_41_method_9_code 10 = .ok (.lload_n 1, 1) := by decide +kernel
theorem d38_11 : decode prog_41_method_9_code 11 = .ok (.l2i, 1) := by decide +kernel
theorem d38_12 : decode prog_41_method_9_code 12 = .ok (.invokevirtual 84, 3) := by decide +kernel
theorem d38_15 : decode prog_41_method_9_code 15 = .ok (.return_, 1) := by decide +kernel
theorem d39_0 : decode prog_41_method_8_code 0 = .ok (.aload_n 0, 1) := by decide +kernel
theorem d39_1 : decode prog_41_method_8_code 1 = .ok (.iconst 4, 1) := by decide +kernel
theorem d39_2 : decode prog_41_method_8_code 2 = .ok (.invokevirtual 124, 3) := by decide +kernel
theorem d39_5 : decode prog_41_method_8_code 5 = .ok (.aload_n 0, 1) := by decide +kernel
theorem d39_6 : decode prog_41_method_8_code 6 = .ok (.getfield 7, 3) := by decide +kernel
theorem d39_9 : decode prog_41_method_8_code 9 = .ok (.aload_n 0, 1) := by decide +kernel
theorem d39_10 : decode prog_41_method_8_code 10 = .ok (.dup, 1) := by decide +kernel
theorem d39_11 : decode prog_41_method_8_code 11 = .ok (.getfield 47, 3) := by decide +kernel
theorem d39_14 : decode prog_41_method_8_code 14 = .ok (.dup_x1, 1) := by decide +kernel
theorem d39_15 : decode prog_41_method_8_code 15 = .ok (.iconst 1, 1) := by decide +kernel
theorem d39_16 : decode prog_41_method_8_code 16 = .ok (.iadd, 1) := by decide +kernel
theorem d39_17 : decode prog_41_method_8_code 17 = .ok (.putfield 47, 3) := by decide +kernel
theorem d39_20 : decode prog_41_method_8_code 20 = .ok (.iload_n 1, 1) := by decide +kernel
theorem d39_21 : decode prog_41_method_8_code 21 = .ok (.bipush 24, 2) := by decide +kernel
theorem d39_23 : decode prog_41_method_8_code 23 = .ok (.ishr, 1) := by decide +kernel
theorem d39_24 : decode prog_41_method_8_code 24 = .ok (.i2b, 1) := by decide +kernel
theorem d39_25 : decode prog_41_method_8_code 25 = .ok (.bastore, 1) := by decide +kernel
theorem d39_26 : decode prog_41_method_8_code 26 = .ok (.aload_n 0, 1) := by decide +kernel
theorem d39_27 : decode prog_41_method_8_code 27 = .ok (.getfield 7, 3) := by decide +kernel
theorem d39_30 : decode prog_41_method_8_code 30 = .ok (.aload_n 0, 1) := by decide +kernel
theorem d39_31 : decode prog_41_method_8_code 31 = .ok (.dup, 1) := by decide +kernel
theorem d39_32 : decode prog_41_method_8_code 32 = .ok (.getfield 47, 3) := by decide +kernel
theorem d39_35 : decode prog_41_method_8_code 35 = .ok (.dup_x1, 1) := by decide +kernel
theorem d39_36 : decode prog_41_method_8_code 36 = .ok (.iconst 1, 1) := by decide +kernel
theorem d39_37 : decode prog_41_method_8_code 37 = .ok (.iadd, 1) := by decide +kernel
theorem d39_38 : decode prog_41_method_8_code 38 = .ok (.putfield 47, 3) := by decide +kernel
theorem d39_41 : decode prog_41_method_8_code 41 = .ok (.iload_n 1, 1) := by decide +kernel
theorem d39_42 : decode prog_41_method_8_code 42 = .ok (.bipush 16, 2) := by decide +kernel
theorem d39_44 : decode prog_41_method_8_code 44 = .ok (.ishr, 1) := by decide +kernel
theorem d39_45 : decode prog_41_method_8_code 45 = .ok (.i2b, 1) := by decide +kernel
theorem d39_46 : decode prog_41_method_8_code 46 = .ok (.bastore, 1) := by decide +kernel
theorem d39_47 : decode prog_41_method_8_code 47 = .ok (.aload_n 0, 1) := by decide +kernel
theorem d39_48 : decode prog_41_method_8_code 48 = .ok (.getfield 7, 3) := by decide +kernel
theorem d39_51 : decode prog_41_method_8_code 51 = .ok (.aload_n 0, 1) := by decide +kernel
theorem d39_52 : decode prog_41_method_8_code 52 = .ok (.dup, 1) := by decide +kernel
theorem d39_53 : decode prog_41_method_8_code 53 = .ok (.getfield 47, 3) := by decide +kernel
theorem d39_56 : decode prog_41_method_8_code 56 = .ok (.dup_x1, 1) := by decide +kernel
theorem d39_57 : decode prog_41_method_8_code 57 = .ok (.iconst 1, 1) := by decide +kernel
theorem d39_58 : decode prog_41_method_8_code 58 = .ok (.iadd, 1) := by decide +kernel
theorem d39_59 : decode prog_41_method_8_code 59 = .ok (.putfield 47, 3) := by decide +kernel
theorem d39_62 : decode prog_41_method_8_code 62 = .ok (.iload_n 1, 1) := by decide +kernel
theorem d39_63 : decode prog_41_method_8_code 63 = .ok (.bipush 8, 2) := by decide +kernel
theorem d39_65 : decode prog_41_method_8_code 65 = .ok (.ishr, 1) := by decide +kernel
theorem d39_66 : decode prog_41_method_8_code 66 = .ok (.i2b, 1) := by decide +kernel
theorem d39_67 : decode prog_41_method_8_code 67 = .ok (.bastore, 1) := by decide +kernel
theorem d39_68 : decode prog_41_method_8_code 68 = .ok (.aload_n 0, 1) := by decide +kernel
theorem d39_69 : decode prog_41_method_8_code 69 = .ok (.getfield 7, 3) := by decide +kernel
theorem d39_72 : decode prog_41_method_8_code 72 = .ok (.aload_n 0, 1) := by decide +kernel
theorem d39_73 : decode prog_41_method_8_code 73 = .ok (.dup, 1) := by decide +kernel
theorem d39_74 : decode prog_41_method_8_code 74 = .ok (.getfield 47, 3) := by decide +kernel
theorem d39_77 : decode prog_41_method_8_code 77 = .ok (.dup_x1, 1) := by decide +kernel
theorem d39_78 : decode prog_41_method_8_code 78 = .ok (.iconst 1, 1) := by decide +kernel
theorem d39_79 : decode prog_41_method_8_code 79 = .ok (.iadd, 1) := by decide +kernel
theorem d39_80 : decode prog_41_method_8_code 80 = .ok (.putfield 47, 3) := by decide +kernel
theorem d39_83 : decode prog_41_method_8_code 83 = .ok (.iload_n 1, 1) := by decide +kernel
theorem d39_84 : decode prog_41_method_8_code 84 = .ok (.i2b, 1) := by decide +kernel
theorem d39_85 : decode prog_41_method_8_code 85 = .ok (.bastore, 1) := by decide +kernel
theorem d39_86 : decode prog_41_method_8_code 86 = .ok (.return_, 1) := by decide +kernel
theorem d40_0 : decode method_5_code 0 = .ok (.aload_n 0, 1) := by decide +kernel
theorem d40_1 : decode method_5_code 1 = .ok (.iload_n 1, 1) := by decide +kernel
theorem d40_2 : decode method_5_code 2 = .ok (.aload_n 2, 1) := by decide +kernel
theorem d40_3 : decode method_5_code 3 = .ok (.iload_n 3, 1) := by decide +kernel
theorem d40_4 : decode method_5_code 4 = .ok (.iconst 0, 1) := by decide +kernel
theorem d40_5 : decode method_5_code 5 = .ok (.invokestatic 56, 3) := by decide +kernel
theorem d40_8 : decode method_5_code 8 = .ok (.ifCond .eq 194, 3) := by decide +kernel
theorem d40_11 : decode method_5_code 11 = .ok (.aload_n 0, 1) := by decide +kernel
theorem d40_12 : decode method_5_code 12 = .ok (.iload_n 1, 1) := by decide +kernel
theorem d40_13 : decode method_5_code 13 = .ok (.aload_n 2, 1) := by decide +kernel
theorem d40_14 : decode method_5_code 14 = .ok (.iload_n 3, 1) := by decide +kernel
theorem d40_15 : decode method_5_code 15 = .ok (.iconst 1, 1) := by decide +kernel
theorem d40_16 : decode method_5_code 16 = .ok (.invokestatic 56, 3) := by decide +kernel
theorem d40_19 : decode method_5_code 19 = .ok (.ifCond .eq 183, 3) := by decide +kernel
theorem d40_22 : decode method_5_code 22 = .ok (.aload_n 0, 1) := by decide +kernel
theorem d40_23 : decode method_5_code 23 = .ok (.iload_n 1, 1) := by decide +kernel
theorem d40_24 : decode method_5_code 24 = .ok (.aload_n 2, 1) := by decide +kernel
theorem d40_25 : decode method_5_code 25 = .ok (.iload_n 3, 1) := by decide +kernel
theorem d40_26 : decode method_5_code 26 = .ok (.iconst 2, 1) := by decide +kernel
theorem d40_27 : decode method_5_code 27 = .ok (.invokestatic 56, 3) := by decide +kernel
theorem d40_30 : decode method_5_code 30 = .ok (.ifCond .eq 172, 3) := by decide +kernel
theorem d40_33 : decode method_5_code 33 = .ok (.aload_n 0, 1) := by decide +kernel
theorem d40_34 : decode method_5_code 34 = .ok (.iload_n 1, 1) := by decide +kernel
theorem d40_35 : decode method_5_code 35 = .ok (.aload_n 2, 1) := by decide +kernel
theorem d40_36 : decode method_5_code 36 = .ok (.iload_n 3, 1) := by decide +kernel
theorem d40_37 : decode method_5_code 37 = .ok (.iconst 3, 1) := by decide +kernel
theorem d40_38 : decode method_5_code 38 = .ok (.invokestatic 56, 3) := by decide +kernel
theorem d40_41 : decode method_5_code 41 = .ok (.ifCond .eq 161, 3) := by decide +kernel
theorem d40_44 : decode method_5_code 44 = .ok (.aload_n 0, 1) := by decide +kernel
theorem d40_45 : decode method_5_code 45 = .ok (.iload_n 1, 1) := by decide +kernel
theorem d40_46 : decode method_5_code 46 = .ok (.aload_n 2, 1) := by decide +kernel
theorem d40_47 : decode method_5_code 47 = .ok (.iload_n 3, 1) := by decide +kernel
theorem d40_48 : decode method_5_code 48 = .ok (.iconst 4, 1) := by decide +kernel
theorem d40_49 : decode method_5_code 49 = .ok (.invokestatic 56, 3) := by decide +kernel
theorem d40_52 : decode method_5_code 52 = .ok (.ifCond .eq 150, 3) := by decide +kernel
theorem d40_55 : decode method_5_code 55 = .ok (.aload_n 0, 1) := by decide +kernel
theorem d40_56 : decode method_5_code 56 = .ok (.iload_n 1, 1) := by decide +kernel
theorem d40_57 : decode method_5_code 57 = .ok (.aload_n 2, 1) := by decide +kernel
theorem d40_58 : decode method_5_code 58 = .ok (.iload_n 3, 1) := by decide +kernel
theorem d40_59 : decode method_5_code 59 = .ok (.iconst 5, 1) := by decide +kernel
theorem d40_60 : decode method_5_code 60 = .ok (.invokestatic 56, 3) := by decide +kernel
theorem d40_63 : decode method_5_code 63 = .ok (.ifCond .eq 139, 3) := by decide +kernel
theorem d40_66 : decode method_5_code 66 = .ok (.aload_n 0, 1) := by decide +kernel
theorem d40_67 : decode method_5_code 67 = .ok (.iload_n 1, 1) := by decide +kernel
theorem d40_68 : decode method_5_code 68 = .ok (.aload_n 2, 1) := by decide +kernel
theorem d40_69 : decode method_5_code 69 = .ok (.iload_n 3, 1) := by decide +kernel
theorem d40_70 : decode method_5_code 70 = .ok (.bipush 6, 2) := by decide +kernel
theorem d40_72 : decode method_5_code 72 = .ok (.invokestatic 56, 3) := by decide +kernel
theorem d40_75 : decode method_5_code 75 = .ok (.ifCond .eq 127, 3) := by decide +kernel
theorem d40_78 : decode method_5_code 78 = .ok (.aload_n 0, 1) := by decide +kernel
theorem d40_79 : decode method_5_code 79 = .ok (.iload_n 1, 1) := by decide +kernel
theorem d40_80 : decode method_5_code 80 = .ok (.aload_n 2, 1) := by decide +kernel
theorem d40_81 : decode method_5_code 81 = .ok (.iload_n 3, 1) := by decide +kernel
theorem d40_82 : decode method_5_code 82 = .ok (.bipush 7, 2) := by decide +kernel
theorem d40_84 : decode method_5_code 84 = .ok (.invokestatic 56, 3) := by decide +kernel
theorem d40_87 : decode method_5_code 87 = .ok (.ifCond .eq 115, 3) := by decide +kernel
theorem d40_90 : decode method_5_code 90 = .ok (.aload_n 0, 1) := by decide +kernel
theorem d40_91 : decode method_5_code 91 = .ok (.iload_n 1, 1) := by decide +kernel
theorem d40_92 : decode method_5_code 92 = .ok (.aload_n 2, 1) := by decide +kernel
theorem d40_93 : decode method_5_code 93 = .ok (.iload_n 3, 1) := by decide +kernel
theorem d40_94 : decode method_5_code 94 = .ok (.bipush 8, 2) := by decide +kernel
theorem d40_96 : decode method_5_code 96 = .ok (.invokestatic 56, 3) := by decide +kernel
theorem d40_99 : decode method_5_code 99 = .ok (.ifCond .eq 103, 3) := by decide +kernel
theorem d40_102 : decode method_5_code 102 = .ok (.aload_n 0, 1) := by decide +kernel
theorem d40_103 : decode method_5_code 103 = .ok (.iload_n 1, 1) := by decide +kernel
theorem d40_104 : decode method_5_code 104 = .ok (.aload_n 2, 1) := by decide +kernel
theorem d40_105 : decode method_5_code 105 = .ok (.iload_n 3, 1) := by decide +kernel
theorem d40_106 : decode method_5_code 106 = .ok (.bipush 9, 2) := by decide +kernel
theorem d40_108 : decode method_5_code 108 = .ok (.invokestatic 56, 3) := by decide +kernel
theorem d40_111 : decode method_5_code 111 = .ok (.ifCond .eq 91, 3) := by decide +kernel
theorem d40_114 : decode method_5_code 114 = .ok (.aload_n 0, 1) := by decide +kernel
theorem d40_115 : decode method_5_code 115 = .ok (.iload_n 1, 1) := by decide +kernel
theorem d40_116 : decode method_5_code 116 = .ok (.aload_n 2, 1) := by decide +kernel
theorem d40_117 : decode method_5_code 117 = .ok (.iload_n 3, 1) := by decide +kernel
theorem d40_118 : decode method_5_code 118 = .ok (.bipush 10, 2) := by decide +kernel
theorem d40_120 : decode method_5_code 120 = .ok (.invokestatic 56, 3) := by decide +kernel
theorem d40_123 : decode method_5_code 123 = .ok (.ifCond .eq 79, 3) := by decide +kernel
theorem d40_126 : decode method_5_code 126 = .ok (.aload_n 0, 1) := by decide +kernel
theorem d40_127 : decode method_5_code 127 = .ok (.iload_n 1, 1) := by decide +kernel
theorem d40_128 : decode method_5_code 128 = .ok (.aload_n 2, 1) := by decide +kernel
theorem d40_129 : decode method_5_code 129 = .ok (.iload_n 3, 1) := by decide +kernel
theorem d40_130 : decode method_5_code 130 = .ok (.bipush 11, 2) := by decide +kernel
theorem d40_132 : decode method_5_code 132 = .ok (.invokestatic 56, 3) := by decide +kernel
theorem d40_135 : decode method_5_code 135 = .ok (.ifCond .eq 67, 3) := by decide +kernel
theorem d40_138 : decode method_5_code 138 = .ok (.aload_n 0, 1) := by decide +kernel
theorem d40_139 : decode method_5_code 139 = .ok (.iload_n 1, 1) := by decide +kernel
theorem d40_140 : decode method_5_code 140 = .ok (.aload_n 2, 1) := by decide +kernel
theorem d40_141 : decode method_5_code 141 = .ok (.iload_n 3, 1) := by decide +kernel
theorem d40_142 : decode method_5_code 142 = .ok (.bipush 12, 2) := by decide +kernel
theorem d40_144 : decode method_5_code 144 = .ok (.invokestatic 56, 3) := by decide +kernel
theorem d40_147 : decode method_5_code 147 = .ok (.ifCond .eq 55, 3) := by decide +kernel
theorem d40_150 : decode method_5_code 150 = .ok (.aload_n 0, 1) := by decide +kernel
theorem d40_151 : decode method_5_code 151 = .ok (.iload_n 1, 1) := by decide +kernel
theorem d40_152 : decode method_5_code 152 = .ok (.aload_n 2, 1) := by decide +kernel
theorem d40_153 : decode method_5_code 153 = .ok (.iload_n 3, 1) := by decide +kernel
theorem d40_154 : decode method_5_code 154 = .ok (.bipush 13, 2) := by decide +kernel
theorem d40_156 : decode method_5_code 156 = .ok (.invokestatic 56, 3) := by decide +kernel
theorem d40_159 : decode method_5_code 159 = .ok (.ifCond .eq 43, 3) := by decide +kernel
theorem d40_162 : decode method_5_code 162 = .ok (.aload_n 0, 1) := by decide +kernel
theorem d40_163 : decode method_5_code 163 = .ok (.iload_n 1, 1) := by decide +kernel
theorem d40_164 : decode method_5_code 164 = .ok (.aload_n 2, 1) := by decide +kernel
theorem d40_165 : decode method_5_code 165 = .ok (.iload_n 3, 1) := by decide +kernel
theorem d40_166 : decode method_5_code 166 = .ok (.bipush 14, 2) := by decide +kernel
theorem d40_168 : decode method_5_code 168 = .ok (.invokestatic 56, 3) := by decide +kernel
theorem d40_171 : decode method_5_code 171 = .ok (.ifCond .eq 31, 3) := by decide +kernel
theorem d40_174 : decode method_5_code 174 = .ok (.aload_n 0, 1) := by decide +kernel
theorem d40_175 : decode method_5_code 175 = .ok (.iload_n 1, 1) := by decide +kernel
theorem d40_176 : decode method_5_code 176 = .ok (.aload_n 2, 1) := by decide +kernel
theorem d40_177 : decode method_5_code 177 = .ok (.iload_n 3, 1) := by decide +kernel
theorem d40_178 : decode method_5_code 178 = .ok (.bipush 15, 2) := by decide +kernel
theorem d40_180 : decode method_5_code 180 = .ok (.invokestatic 56, 3) := by decide +kernel
theorem d40_183 : decode method_5_code 183 = .ok (.ifCond .eq 19, 3) := by decide +kernel
theorem d40_186 : decode method_5_code 186 = .ok (.aload_n 0, 1) := by decide +kernel
theorem d40_187 : decode method_5_code 187 = .ok (.iload_n 1, 1) := by decide +kernel
theorem d40_188 : decode method_5_code 188 = .ok (.aload_n 2, 1) := by decide +kernel
theorem d40_189 : decode method_5_code 189 = .ok (.iload_n 3, 1) := by decide +kernel
theorem d40_190 : decode method_5_code 190 = .ok (.bipush 16, 2) := by decide +kernel
theorem d40_192 : decode method_5_code 192 = .ok (.invokestatic 56, 3) := by decide +kernel
theorem d40_195 : decode method_5_code 195 = .ok (.ifCond .eq 7, 3) := by decide +kernel
theorem d40_198 : decode method_5_code 198 = .ok (.iconst 1, 1) := by decide +kernel
theorem d40_199 : decode method_5_code 199 = .ok (.goto 4, 3) := by decide +kernel
theorem d40_203 : decode method_5_code 203 = .ok (.ireturn, 1) := by decide +kernel
theorem d41_0 : decode method_4_code 0 = .ok (.iload 4, 2) := by decide +kernel
theorem d41_2 : decode method_4_code 2 = .ok (.iload_n 3, 1) := by decide +kernel
theorem d41_3 : decode method_4_code 3 = .ok (.if_icmp .ge 16, 3) := by decide +kernel
theorem d41_6 : decode method_4_code 6 = .ok (.aload_n 0, 1) := by decide +kernel
theorem d41_7 : decode method_4_code 7 = .ok (.iload_n 1, 1) := by decide +kernel
theorem d41_8 : decode method_4_code 8 = .ok (.iload 4, 2) := by decide +kernel
theorem d41_10 : decode method_4_code 10 = .ok (.iadd, 1) := by decide +kernel
theorem d41_11 : decode method_4_code 11 = .ok (.baload, 1) := by decide +kernel
theorem d41_12 : decode method_4_code 12 = .ok (.aload_n 2, 1) := by decide +kernel
theorem d41_13 : decode method_4_code 13 = .ok (.iload 4, 2) := by decide +kernel
theorem d41_15 : decode method_4_code 15 = .ok (.baload, 1) := by decide +kernel
theorem d41_16 : decode method_4_code 16 = .ok (.if_icmp .ne 7, 3) := by decide +kernel
theorem d41_19 : decode method_4_code 19 = .ok (.iconst 1, 1) := by decide +kernel
theorem d41_20 : decode method_4_code 20 = .ok (.goto 4, 3) := by decide +kernel
theorem d41_24 : decode method_4_code 24 = .ok (.ireturn, 1) := by decide +kernel
theorem d42_0 : decode jdk_42_method_3_code 0 = .ok (.aload_n 0, 1) := by decide +kernel
theorem d42_1 : decode jdk_42_method_3_code 1 = .ok (.aload_n 1, 1) := by decide +kernel
theorem d42_2 : decode jdk_42_method_3_code 2 = .ok (.iconst 0, 1) := by decide +kernel
theorem d42_3 : decode jdk_42_method_3_code 3 = .ok (.aload_n 1, 1) := by decide +kernel
theorem d42_4 : decode jdk_42_method_3_code 4 = .ok (.arraylength, 1) := by decide +kernel
theorem d42_5 : decode jdk_42_method_3_code 5 = .ok (.aconst_null, 1) := by decide +kernel
theorem d42_6 : decode jdk_42_method_3_code 6 = .ok (.invokespecial 27, 3) := by decide +kernel
theorem d42_9 : decode jdk_42_method_3_code 9 = .ok (.return_, 1) := by decide +kernel
theorem d43_0 : decode jdk_42_method_149_code 0 = .ok (.aload_n 0, 1) := by decide +kernel
theorem d43_1 : decode jdk_42_method_149_code 1 = .ok (.invokespecial 1, 3) := by decide +kernel
theorem d43_4 : decode jdk_42_method_149_code 4 = .ok (.iload_n 3, 1) := by decide +kernel
theorem d43_5 : decode jdk_42_method_149_code 5 = .ok (.ifCond .ne 22, 3) := by decide +kernel
theorem d43_27 : decode jdk_42_method_149_code 27 = .ok (.getstatic 38, 3) := by decide +kernel
theorem d43_30 : decode jdk_42_method_149_code 30 = .ok (.ifCond .eq 28, 3) := by decide +kernel
theorem d43_33 : decode jdk_42_method_149_code 33 = .ok (.aload_n 1, 1) := by decide +kernel
theorem d43_34 : decode jdk_42_method_149_code 34 = .ok (.iload_n 2, 1) := by decide +kernel
theorem d43_35 : decode jdk_42_method_149_code 35 = .ok (.iload_n 3, 1) := by decide +kernel
theorem d43_36 : decode jdk_42_method_149_code 36 = .ok (.invokestatic 177, 3) := by decide +kernel
theorem d43_39 : decode jdk_42_method_149_code 39 = .ok (.astore 5, 2) := by decide +kernel
theorem d43_41 : decode jdk_42_method_149_code 41 = .ok (.aload_n 0, 1) := by decide +kernel
theorem d43_42 : decode jdk_42_method_149_code 42 = .ok (.aload 5, 2) := by decide +kernel
theorem d43_44 : decode jdk_42_method_149_code 44 = .ok (.iload_n 3, 1) := by decide +kernel
theorem d43_45 : decode jdk_42_method_149_code 45 = .ok (.invokestatic 47, 3) := by decide +kernel
theorem d43_48 : decode jdk_42_method_149_code 48 = .ok (.putfield 15, 3) := by decide +kernel
theorem d43_51 : decode jdk_42_method_149_code 51 = .ok (.aload_n 0, 1) := by decide +kernel
theorem d43_52 : decode jdk_42_method_149_code 52 = .ok (.aload 5, 2) := by decide +kernel
theorem d43_54 : decode jdk_42_method_149_code 54 = .ok (.putfield 9, 3) := by decide +kernel
theorem d43_57 : decode jdk_42_method_149_code 57 = .ok (.return_, 1) := by decide +kernel
theorem d44_0 : decode jdk_52_method_16_code 0 = .ok (.iload_n 2, 1) := by decide +kernel
theorem d44_1 : decode jdk_52_method_16_code 1 = .ok (.newarray .byte, 2) := by decide +kernel
theorem d44_3 : decode jdk_52_method_16_code 3 = .ok (.astore_n 3, 1) := by decide +kernel
theorem d44_4 : decode jdk_52_method_16_code 4 = .ok (.aload_n 0, 1) := by decide +kernel
theorem d44_5 : decode jdk_52_method_16_code 5 = .ok (.iload_n 1, 1) := by decide +kernel
theorem d44_6 : decode jdk_52_method_16_code 6 = .ok (.aload_n 3, 1) := by decide +kernel
theorem d44_7 : decode jdk_52_method_16_code 7 = .ok (.iconst 0, 1) := by decide +kernel
theorem d44_8 : decode jdk_52_method_16_code 8 = .ok (.iload_n 2, 1) := by decide +kernel
theorem d44_9 : decode jdk_52_method_16_code 9 = .ok (.invokestatic 115, 3) := by decide +kernel
theorem d44_12 : decode jdk_52_method_16_code 12 = .ok (.istore 4, 2) := by decide +kernel
theorem d44_14 : decode jdk_52_method_16_code 14 = .ok (.iload 4, 2) := by decide +kernel
theorem d44_16 : decode jdk_52_method_16_code 16 = .ok (.iload_n 2, 1) := by decide +kernel
theorem d44_17 : decode jdk_52_method_16_code 17 = .ok (.if_icmp .eq 40, 3) := by decide +kernel
theorem d44_20 : decode jdk_52_method_16_code 20 = .ok (.aload_n 0, 1) := by decide +kernel
theorem d44_21 : decode jdk_52_method_16_code 21 = .ok (.iload_n 1, 1) := by decide +kernel
theorem d44_22 : decode jdk_52_method_16_code 22 = .ok (.iload_n 2, 1) := by decide +kernel
theorem d44_23 : decode jdk_52_method_16_code 23 = .ok (.invokestatic 119, 3) := by decide +kernel
theorem d44_26 : decode jdk_52_method_16_code 26 = .ok (.astore 5, 2) := by decide +kernel
theorem d44_28 : decode jdk_52_method_16_code 28 = .ok (.aload 5, 2) := by decide +kernel
theorem d44_30 : decode jdk_52_method_16_code 30 = .ok (.iload 4, 2) := by decide +kernel
theorem d44_32 : decode jdk_52_method_16_code 32 = .ok (.invokestatic 71, 3) := by decide +kernel
theorem d44_35 : decode jdk_52_method_16_code 35 = .ok (.sipush 255, 3) := by decide +kernel
theorem d44_38 : decode jdk_52_method_16_code 38 = .ok (.if_icmp .gt 16, 3) := by decide +kernel
theorem d44_54 : decode jdk_52_method_16_code 54 = .ok (.aload 5, 2) := by decide +kernel
theorem d44_56 : decode jdk_52_method_16_code 56 = .ok (.areturn, 1) := by decide +kernel
theorem d44_57 : decode jdk_52_method_16_code 57 = .ok (.aload_n 3, 1) := by decide +kernel
theorem d44_58 : decode jdk_52_method_16_code 58 = .ok (.areturn, 1) := by decide +kernel
theorem d45_0 : decode jdk_52_method_21_code 0 = .ok (.iconst 0, 1) := by decide +kernel
theorem d45_1 : decode jdk_52_method_21_code 1 = .ok (.istore 5, 2) := by decide +kernel
theorem d45_3 : decode jdk_52_method_21_code 3 = .ok (.iload 5, 2) := by decide +kernel
theorem d45_5 : decode jdk_52_method_21_code 5 = .ok (.iload 4, 2) := by decide +kernel
theorem d45_7 : decode jdk_52_method_21_code 7 = .ok (.if_icmp .ge 37, 3) := by decide +kernel
theorem d45_10 : decode jdk_52_method_21_code 10 = .ok (.aload_n 0, 1) := by decide +kernel
theorem d45_11 : decode jdk_52_method_21_code 11 = .ok (.iload_n 1, 1) := by decide +kernel
theorem d45_12 : decode jdk_52_method_21_code 12 = .ok (.caload, 1) := by decide +kernel
theorem d45_13 : decode jdk_52_method_21_code 13 = .ok (.istore 6, 2) := by decide +kernel
theorem d45_15 : decode jdk_52_method_21_code 15 = .ok (.iload 6, 2) := by decide +kernel
theorem d45_17 : decode jdk_52_method_21_code 17 = .ok (.sipush 255, 3) := by decide +kernel
theorem d45_20 : decode jdk_52_method_21_code 20 = .ok (.if_icmp .le 6, 3) := by decide +kernel
theorem d45_23 : decode jdk_52_method_21_code 23 = .ok (.iload 5, 2) := by decide +kernel
theorem d45_25 : decode jdk_52_method_21_code 25 = .ok (.ireturn, 1) := by decide +kernel
theorem d45_26 : decode jdk_52_method_21_code 26 = .ok (.aload_n 2, 1) := by decide +kernel
theorem d45_27 : decode jdk_52_method_21_code 27 = .ok (.iload_n 3, 1) := by decide +kernel
theorem d45_28 : decode jdk_52_method_21_code 28 = .ok (.iload 6, 2) := by decide +kernel
theorem d45_30 : decode jdk_52_method_21_code 30 = .ok (.i2b, 1) := by decide +kernel
theorem d45_31 : decode jdk_52_method_21_code 31 = .ok (.bastore, 1) := by decide +kernel
theorem d45_32 : decode jdk_52_method_21_code 32 = .ok (.iinc 1 1, 3) := by decide +kernel
theorem d45_35 : decode jdk_52_method_21_code 35 = .ok (.iinc 3 1, 3) := by decide +kernel
theorem d45_38 : decode jdk_52_method_21_code 38 = .ok (.iinc 5 1, 3) := by decide +kernel
theorem d45_41 : decode jdk_52_method_21_code 41 = .ok (.goto (-38), 3) := by decide +kernel
theorem d45_44 : decode jdk_52_method_21_code 44 = .ok (.iload 4, 2) := by decide +kernel
theorem d45_46 : decode jdk_52_method_21_code 46 = .ok (.ireturn, 1) := by decide +kernel
theorem d46_0 : decode jdk_52_method_15_code 0 = .ok (.iload_n 1, 1) := by decide +kernel
theorem d46_1 : decode jdk_52_method_15_code 1 = .ok (.aload_n 0, 1) := by decide +kernel
theorem d46_2 : decode jdk_52_method_15_code 2 = .ok (.arraylength, 1) := by decide +kernel
theorem d46_3 : decode jdk_52_method_15_code 3 = .ok (.isub, 1) := by decide +kernel
theorem d46_4 : decode jdk_52_method_15_code 4 = .ok (.bipush 31, 2) := by decide +kernel
theorem d46_6 : decode jdk_52_method_15_code 6 = .ok (.iushr, 1) := by decide +kernel
theorem d46_7 : decode jdk_52_method_15_code 7 = .ok (.i2b, 1) := by decide +kernel
theorem d46_8 : decode jdk_52_method_15_code 8 = .ok (.ireturn, 1) := by decide +kernel
theorem d47_0 : decode jdk_52_method_14_code 0 = .ok (.iload_n 2, 1) := by decide +kernel
theorem d47_1 : decode jdk_52_method_14_code 1 = .ok (.invokestatic 107, 3) := by decide +kernel
theorem d47_4 : decode jdk_52_method_14_code 4 = .ok (.astore_n 3, 1) := by decide +kernel
theorem d47_5 : decode jdk_52_method_14_code 5 = .ok (.iconst 0, 1) := by decide +kernel
theorem d47_6 : decode jdk_52_method_14_code 6 = .ok (.istore 4, 2) := by decide +kernel
theorem d47_8 : decode jdk_52_method_14_code 8 = .ok (.iload 4, 2) := by decide +kernel
theorem d47_10 : decode jdk_52_method_14_code 10 = .ok (.iload_n 2, 1) := by decide +kernel
theorem d47_11 : decode jdk_52_method_14_code 11 = .ok (.if_icmp .ge 21, 3) := by decide +kernel
theorem d47_14 : decode jdk_52_method_14_code 14 = .ok (.aload_n 3, 1) := by decide +kernel
theorem d47_15 : decode jdk_52_method_14_code 15 = .ok (.iload 4, 2) := by decide +kernel
theorem d47_17 : decode jdk_52_method_14_code 17 = .ok (.aload_n 0, 1) := by decide +kernel
theorem d47_18 : decode jdk_52_method_14_code 18 = .ok (.iload_n 1, 1) := by decide +kernel
theorem d47_19 : decode jdk_52_method_14_code 19 = .ok (.caload, 1) := by decide +kernel
theorem d47_20 : decode jdk_52_method_14_code 20 = .ok (.invokestatic 111, 3) := by decide +kernel
theorem d47_23 : decode jdk_52_method_14_code 23 = .ok (.iinc 1 1, 3) := by decide +kernel
theorem d47_26 : decode jdk_52_method_14_code 26 = .ok (.iinc 4 1, 3) := by decide +kernel
theorem d47_29 : decode jdk_52_method_14_code 29 = .ok (.goto (-21), 3) := by decide +kernel
theorem d47_32 : decode jdk_52_method_14_code 32 = .ok (.aload_n 3, 1) := by decide +kernel
theorem d47_33 : decode jdk_52_method_14_code 33 = .ok (.areturn, 1) := by decide +kernel
theorem d48_0 : decode jdk_52_method_2_code 0 = .ok (.iload_n 0, 1) := by decide +kernel
theorem d48_1 : decode jdk_52_method_2_code 1 = .ok (.invokestatic 11, 3) := by decide +kernel
theorem d48_4 : decode jdk_52_method_2_code 4 = .ok (.newarray .byte, 2) := by decide +kernel
theorem d48_6 : decode jdk_52_method_2_code 6 = .ok (.areturn, 1) := by decide +kernel
theorem d49_0 : decode jdk_52_method_3_code 0 = .ok (.iload_n 0, 1) := by decide +kernel
theorem d49_1 : decode jdk_52_method_3_code 1 = .ok (.ifCond .ge 11, 3) := by decide +kernel
theorem d49_12 : decode jdk_52_method_3_code 12 = .ok (.iload_n 0, 1) := by decide +kernel
theorem d49_13 : decode jdk_52_method_3_code 13 = .ok (.ldc 20, 2) := by decide +kernel
theorem d49_15 : decode jdk_52_method_3_code 15 = .ok (.if_icmp .lt 40, 3) := by decide +kernel
theorem d49_55 : decode jdk_52_method_3_code 55 = .ok (.iload_n 0, 1) := by decide +kernel
theorem d49_56 : decode jdk_52_method_3_code 56 = .ok (.iconst 1, 1) := by decide +kernel
theorem d49_57 : decode jdk_52_method_3_code 57 = .ok (.ishl, 1) := by decide +kernel
theorem d49_58 : decode jdk_52_method_3_code 58 = .ok (.ireturn, 1) := by decide +kernel
theorem d50_0 : decode jdk_52_method_4_code 0 = .ok (.getstatic 44, 3) := by decide +kernel
theorem d50_3 : decode jdk_52_method_4_code 3 = .ok (.ifCond .ne 25, 3) := by decide +kernel
theorem d50_28 : decode jdk_52_method_4_code 28 = .ok (.iload_n 1, 1) := by decide +kernel
theorem d50_29 : decode jdk_52_method_4_code 29 = .ok (.iconst 1, 1) := by decide +kernel
theorem d50_30 : decode jdk_52_method_4_code 30 = .ok (.ishl, 1) := by decide +kernel
theorem d50_31 : decode jdk_52_method_4_code 31 = .ok (.istore_n 1, 1) := by decide +kernel
theorem d50_32 : decode jdk_52_method_4_code 32 = .ok (.aload_n 0, 1) := by decide +kernel
theorem d50_33 : decode jdk_52_method_4_code 33 = .ok (.iload_n 1, 1) := by decide +kernel
theorem d50_34 : decode jdk_52_method_4_code 34 = .ok (.iinc 1 1, 3) := by decide +kernel
theorem d50_37 : decode jdk_52_method_4_code 37 = .ok (.iload_n 2, 1) := by decide +kernel
theorem d50_38 : decode jdk_52_method_4_code 38 = .ok (.getstatic 59, 3) := by decide +kernel
theorem d50_41 : decode jdk_52_method_4_code 41 = .ok (.ishr, 1) := by decide +kernel
theorem d50_42 : decode jdk_52_method_4_code 42 = .ok (.i2b, 1) := by decide +kernel
theorem d50_43 : decode jdk_52_method_4_code 43 = .ok (.bastore, 1) := by decide +kernel
theorem d50_44 : decode jdk_52_method_4_code 44 = .ok (.aload_n 0, 1) := by decide +kernel
theorem d50_45 : decode jdk_52_method_4_code 45 = .ok (.iload_n 1, 1) := by decide +kernel
theorem d50_46 : decode jdk_52_method_4_code 46 = .ok (.iload_n 2, 1) := by decide +kernel
theorem d50_47 : decode jdk_52_method_4_code 47 = .ok (.getstatic 63, 3) := by decide +kernel
theorem d50_50 : decode jdk_52_method_4_code 50 = .ok (.ishr, 1) := by decide +kernel
theorem d50_51 : decode jdk_52_method_4_code 51 = .ok (.i2b, 1) := by decide +kernel
theorem d50_52 : decode jdk_52_method_4_code 52 = .ok (.bastore, 1) := by decide +kernel
theorem d50_53 : decode jdk_52_method_4_code 53 = .ok (.return_, 1) := by decide +kernel
theorem d51_0 : decode jdk_52_method_5_code 0 = .ok (.getstatic 44, 3) := by decide +kernel
theorem d51_3 : decode jdk_52_method_5_code 3 = .ok (.ifCond .ne 25, 3) := by decide +kernel
theorem d51_28 : decode jdk_52_method_5_code 28 = .ok (.iload_n 1, 1) := by decide +kernel
theorem d51_29 : decode jdk_52_method_5_code 29 = .ok (.iconst 1, 1) := by decide +kernel
theorem d51_30 : decode jdk_52_method_5_code 30 = .ok (.ishl, 1) := by decide +kernel
theorem d51_31 : decode jdk_52_method_5_code 31 = .ok (.istore_n 1, 1) := by decide +kernel
theorem d51_32 : decode jdk_52_method_5_code 32 = .ok (.aload_n 0, 1) := by decide +kernel
theorem d51_33 : decode jdk_52_method_5_code 33 = .ok (.iload_n 1, 1) := by decide +kernel
theorem d51_34 : decode jdk_52_method_5_code 34 = .ok (.iinc 1 1, 3) := by decide +kernel
theorem d51_37 : decode jdk_52_method_5_code 37 = .ok (.baload, 1) := by decide +kernel
theorem d51_38 : decode jdk_52_method_5_code 38 = .ok (.sipush 255, 3) := by decide +kernel
theorem d51_41 : decode jdk_52_method_5_code 41 = .ok (.iand, 1) := by decide +kernel
theorem d51_42 : decode jdk_52_method_5_code 42 = .ok (.getstatic 59, 3) := by decide +kernel
theorem d51_45 : decode jdk_52_method_5_code 45 = .ok (.ishl, 1) := by decide +kernel
theorem d51_46 : decode jdk_52_method_5_code 46 = .ok (.aload_n 0, 1) := by decide +kernel
theorem d51_47 : decode jdk_52_method_5_code 47 = .ok (.iload_n 1, 1) := by decide +kernel
theorem d51_48 : decode jdk_52_method_5_code 48 = .ok (.baload, 1) := by decide +kernel
theorem d51_49 : decode jdk_52_method_5_code 49 = .ok (.sipush 255, 3) := by decide +kernel
theorem d51_52 : decode jdk_52_method_5_code 52 = .ok (.iand, 1) := by decide +kernel
theorem d51_53 : decode jdk_52_method_5_code 53 = .ok (.getstatic 63, 3) := by decide +kernel
theorem d51_56 : decode jdk_52_method_5_code 56 = .ok (.ishl, 1) := by decide +kernel
theorem d51_57 : decode jdk_52_method_5_code 57 = .ok (.ior, 1) := by decide +kernel
theorem d51_58 : decode jdk_52_method_5_code 58 = .ok (.i2c, 1) := by decide +kernel
theorem d51_59 : decode jdk_52_method_5_code 59 = .ok (.ireturn, 1) := by decide +kernel
theorem d52_0 : decode jdk_52_method_83_code 0 = .ok (.iload_n 1, 1) := by decide +kernel
theorem d52_1 : decode jdk_52_method_83_code 1 = .ok (.aload_n 0, 1) := by decide +kernel
theorem d52_2 : decode jdk_52_method_83_code 2 = .ok (.invokestatic 67, 3) := by decide +kernel
theorem d52_5 : decode jdk_52_method_83_code 5 = .ok (.aload_n 0, 1) := by decide +kernel
theorem d52_6 : decode jdk_52_method_83_code 6 = .ok (.iload_n 1, 1) := by decide +kernel
theorem d52_7 : decode jdk_52_method_83_code 7 = .ok (.invokestatic 71, 3) := by decide +kernel
theorem d52_10 : decode jdk_52_method_83_code 10 = .ok (.ireturn, 1) := by decide +kernel
theorem d53_0 : decode jdk_52_method_91_code 0 = .ok (.iload_n 0, 1) := by decide +kernel
theorem d53_1 : decode jdk_52_method_91_code 1 = .ok (.aload_n 1, 1) := by decide +kernel
theorem d53_2 : decode jdk_52_method_91_code 2 = .ok (.invokestatic 48, 3) := by decide +kernel
theorem d53_5 : decode jdk_52_method_91_code 5 = .ok (.invokestatic 414, 3) := by decide +kernel
theorem d53_8 : decode jdk_52_method_91_code 8 = .ok (.return_, 1) := by decide +kernel
theorem d54_0 : decode jdk_52_method_6_code 0 = .ok (.aload_n 0, 1) := by decide +kernel
theorem d54_1 : decode jdk_52_method_6_code 1 = .ok (.arraylength, 1) := by decide +kernel
theorem d54_2 : decode jdk_52_method_6_code 2 = .ok (.iconst 1, 1) := by decide +kernel
theorem d54_3 : decode jdk_52_method_6_code 3 = .ok (.ishr, 1) := by decide +kernel
theorem d54_4 : decode jdk_52_method_6_code 4 = .ok (.ireturn, 1) := by decide +kernel
theorem d55_0 : decode jdk_52_method_24_code 0 = .ok (.iconst 2, 1) := by decide +kernel
theorem d55_1 : decode jdk_52_method_24_code 1 = .ok (.newarray .byte, 2) := by decide +kernel
theorem d55_3 : decode jdk_52_method_24_code 3 = .ok (.astore_n 1, 1) := by decide +kernel
theorem d55_4 : decode jdk_52_method_24_code 4 = .ok (.aload_n 1, 1) := by decide +kernel
theorem d55_5 : decode jdk_52_method_24_code 5 = .ok (.iconst 0, 1) := by decide +kernel
theorem d55_6 : decode jdk_52_method_24_code 6 = .ok (.iload_n 0, 1) := by decide +kernel
theorem d55_7 : decode jdk_52_method_24_code 7 = .ok (.invokestatic 111, 3) := by decide +kernel
theorem d55_10 : decode jdk_52_method_24_code 10 = .ok (.aload_n 1, 1) := by decide +kernel
theorem d55_11 : decode jdk_52_method_24_code 11 = .ok (.areturn, 1) := by decide +kernel
theorem pd_0 : parseMethodDescriptor "()B" = some ⟨[], some .byte⟩ := by decide +kernel
theorem pd_1 : parseMethodDescriptor "(C)Z" = some ⟨[.char], some .boolean⟩ := by decide +kernel
theorem pd_2 : parseMethodDescriptor "(C)[B" = some ⟨[.char], some (.array .byte)⟩ := by decide +kernel
theorem pd_3 : parseMethodDescriptor "([BB)V" = some ⟨[(.array .byte), .byte], none⟩ := by decide +kernel
theorem pd_4 : parseMethodDescriptor "(IILjava/util/function/BiFunction;)I" = some ⟨[.int, .int, (.object "java/util/function/BiFunction")], some .int⟩ := by decide +kernel
theorem pd_5 : parseMethodDescriptor "(II)V" = some ⟨[.int, .int], none⟩ := by decide +kernel
theorem pd_6 : parseMethodDescriptor "()Z" = some ⟨[], some .boolean⟩ := by decide +kernel
theorem pd_7 : parseMethodDescriptor "([BI)C" = some ⟨[(.array .byte), .int], some .char⟩ := by decide +kernel
theorem pd_8 : parseMethodDescriptor "([BII)V" = some ⟨[(.array .byte), .int, .int], none⟩ := by decide +kernel
theorem pd_9 : parseMethodDescriptor "(I)I" = some ⟨[.int], some .int⟩ := by decide +kernel
theorem pd_10 : parseMethodDescriptor "(I)[B" = some ⟨[.int], some (.array .byte)⟩ := by decide +kernel
theorem pd_11 : parseMethodDescriptor "([CI[BII)I" = some ⟨[(.array .char), .int, (.array .byte), .int, .int], some .int⟩ := by decide +kernel
theorem pd_12 : parseMethodDescriptor "([CII)[B" = some ⟨[(.array .char), .int, .int], some (.array .byte)⟩ := by decide +kernel
theorem pd_13 : parseMethodDescriptor "([BI)B" = some ⟨[(.array .byte), .int], some .byte⟩ := by decide +kernel
theorem pd_14 : parseMethodDescriptor "([CIILjava/lang/Void;)V" = some ⟨[(.array .char), .int, .int, (.object "java/lang/Void")], none⟩ := by decide +kernel
theorem pd_15 : parseMethodDescriptor "([B)I" = some ⟨[(.array .byte)], some .int⟩ := by decide +kernel
theorem pd_16 : parseMethodDescriptor "(I[B)V" = some ⟨[.int, (.array .byte)], none⟩ := by decide +kernel
theorem pd_17 : parseMethodDescriptor "()I" = some ⟨[], some .int⟩ := by decide +kernel
theorem pd_18 : parseMethodDescriptor "(Ljava/lang/String;)Z" = some ⟨[(.object "java/lang/String")], some .boolean⟩ := by decide +kernel
theorem pd_19 : parseMethodDescriptor "(I)C" = some ⟨[.int], some .char⟩ := by decide +kernel
theorem pd_20 : parseMethodDescriptor "(I)V" = some ⟨[.int], none⟩ := by decide +kernel
theorem pd_21 : parseMethodDescriptor "(Ljava/lang/String;)J" = some ⟨[(.object "java/lang/String")], some .long⟩ := by decide +kernel
theorem pd_22 : parseMethodDescriptor "(Ljava/lang/String;[BI)I" = some ⟨[(.object "java/lang/String"), (.array .byte), .int], some .int⟩ := by decide +kernel
theorem pd_23 : parseMethodDescriptor "()Lcom/example/cofferhand/cofferhand/nbt/TagType;" = some ⟨[], some (.object "com/example/cofferhand/cofferhand/nbt/TagType")⟩ := by decide +kernel
theorem pd_24 : parseMethodDescriptor "()J" = some ⟨[], some .long⟩ := by decide +kernel
theorem pd_25 : parseMethodDescriptor "(J)V" = some ⟨[.long], none⟩ := by decide +kernel
theorem pd_26 : parseMethodDescriptor "()Lcom/example/cofferhand/cofferhand/nbt/Tag;" = some ⟨[], some (.object "com/example/cofferhand/cofferhand/nbt/Tag")⟩ := by decide +kernel
theorem pd_27 : parseMethodDescriptor "()Ljava/lang/String;" = some ⟨[], some (.object "java/lang/String")⟩ := by decide +kernel
theorem pd_28 : parseMethodDescriptor "(Ljava/lang/String;)V" = some ⟨[(.object "java/lang/String")], none⟩ := by decide +kernel
theorem pd_29 : parseMethodDescriptor "(Lcom/example/cofferhand/cofferhand/nbt/Tag;)V" = some ⟨[(.object "com/example/cofferhand/cofferhand/nbt/Tag")], none⟩ := by decide +kernel
theorem pd_30 : parseMethodDescriptor "(II)I" = some ⟨[.int, .int], some .int⟩ := by decide +kernel
theorem pd_31 : parseMethodDescriptor "([BI)[B" = some ⟨[(.array .byte), .int], some (.array .byte)⟩ := by decide +kernel
theorem pd_32 : parseMethodDescriptor "([BI[BII)Z" = some ⟨[(.array .byte), .int, (.array .byte), .int, .int], some .boolean⟩ := by decide +kernel
theorem pd_33 : parseMethodDescriptor "()V" = some ⟨[], none⟩ := by decide +kernel
theorem pd_34 : parseMethodDescriptor "(Ljava/lang/Object;Ljava/lang/String;)Ljava/lang/Object;" = some ⟨[(.object "java/lang/Object"), (.object "java/lang/String")], some (.object "java/lang/Object")⟩ := by decide +kernel
theorem pd_35 : parseMethodDescriptor "(C)Ljava/lang/String;" = some ⟨[.char], some (.object "java/lang/String")⟩ := by decide +kernel
theorem pd_36 : parseMethodDescriptor "([BIC)I" = some ⟨[(.array .byte), .int, .char], some .int⟩ := by decide +kernel
theorem pd_37 : parseMethodDescriptor "([C)V" = some ⟨[(.array .char)], none⟩ := by decide +kernel
theorem pd_38 : parseMethodDescriptor "(Ljava/lang/String;Lcom/example/cofferhand/cofferhand/nbt/Tag;)V" = some ⟨[(.object "java/lang/String"), (.object "com/example/cofferhand/cofferhand/nbt/Tag")], none⟩ := by decide +kernel
theorem pd_39 : parseMethodDescriptor "()[B" = some ⟨[], some (.array .byte)⟩ := by decide +kernel
theorem pd_40 : parseMethodDescriptor "(Lcom/example/cofferhand/cofferhand/nbt/NamedTag;)V" = some ⟨[(.object "com/example/cofferhand/cofferhand/nbt/NamedTag")], none⟩ := by decide +kernel
theorem pd_41 : parseMethodDescriptor "([BI[BI)Z" = some ⟨[(.array .byte), .int, (.array .byte), .int], some .boolean⟩ := by decide +kernel
theorem pn_15 : plainName "java/lang/String" = true := by first | (simp [plainName, overriddenIn]; done) | decide +kernel
theorem pn_3 : plainName "java/lang/StringLatin1" = true := by first | (simp [plainName, overriddenIn]; done) | decide +kernel
theorem pn_32 : plainName "jdk/internal/util/Preconditions" = true := by first | (simp [plainName, overriddenIn]; done) | decide +kernel
theorem pn_50 : plainName "java/lang/StringUTF16" = true := by first | (simp [plainName, overriddenIn]; done) | decide +kernel
theorem pn_13 : plainName "com/example/cofferhand/cofferhand/nbt/ModifiedUtf8" = true := by first | (simp [plainName, overriddenIn]; done) | decide +kernel
theorem pn_24 : plainName "com/example/cofferhand/cofferhand/nbt/NbtWriter" = true := by first | (simp [plainName, overriddenIn]; done) | decide +kernel
theorem pn_20 : plainName "com/example/cofferhand/cofferhand/nbt/NamedTag" = true := by first | (simp [plainName, overriddenIn]; done) | decide +kernel
theorem pn_37 : plainName "com/example/cofferhand/cofferhand/nbt/LongTag" = true := by first | (simp [plainName, overriddenIn]; done) | decide +kernel
theorem pn_22 : plainName "com/example/cofferhand/cofferhand/nbt/TagType" = true := by first | (simp [plainName, overriddenIn]; done) | decide +kernel
theorem pn_36 : plainName "java/lang/Enum" = true := by first | (simp [plainName, overriddenIn]; done) | decide +kernel
theorem pf_1 : plainFor (⟨"java/lang/Math", "min", "(II)I"⟩ : MethodName) = true := by decide +kernel
theorem pn_18 : plainName "java/util/Arrays" = true := by first | (simp [plainName, overriddenIn]; done) | decide +kernel
theorem pn_7 : plainName "com/example/cofferhand/cofferhand/nbt/NbtWriterToByteArrayPinLaw" = true := by first | (simp [plainName, overriddenIn]; done) | decide +kernel
theorem pn_9 : plainName "java/lang/Record" = true := by first | (simp [plainName, overriddenIn]; done) | decide +kernel
theorem pn_11 : plainName "java/util/Objects" = true := by first | (simp [plainName, overriddenIn]; done) | decide +kernel
theorem ef_coder (m : MethodId) (x0 : Addr) : entryFrame m #[(.ref x0)] 1 = mkF m 0 #[.val (.ref x0)] [] := by first | (simp [entryFrame, mkF, argsToLocals, Value.category]; done) | rfl
theorem ef_length (m : MethodId) (x0 : Addr) : entryFrame m #[(.ref x0)] 1 = mkF m 0 #[.val (.ref x0)] [] := by first | (simp [entryFrame, mkF, argsToLocals, Value.category]; done) | rfl
theorem ef_isLatin1 (m : MethodId) (x0 : Addr) : entryFrame m #[(.ref x0)] 1 = mkF m 0 #[.val (.ref x0)] [] := by first | (simp [entryFrame, mkF, argsToLocals, Value.category]; done) | rfl
theorem own_ki1 : Int32.ofInt 1 = (1 : Int32) := by decide
theorem ef_canEnc (m : MethodId) (x0 : Int32) : entryFrame m #[(.int x0)] 1 = mkF m 0 #[.val (.int x0)] [] := by first | (simp [entryFrame, mkF, argsToLocals, Value.category]; done) | rfl
theorem own_ks255 : (Int16.ofInt 255).toInt32 = (255 : Int32) := by decide
theorem ef_toB1 (m : MethodId) (x0 : Int32) : entryFrame m #[(.int x0)] 1 = mkF m 0 #[.val (.int x0)] [] := by first | (simp [entryFrame, mkF, argsToLocals, Value.category]; done) | rfl
theorem own_ki0 : Int32.ofInt 0 = (0 : Int32) := by decide
theorem ef_iniBB (m : MethodId) (x0 : Addr) (x1 : Addr) (x2 : Int32) : entryFrame m #[(.ref x0), (.ref x1), (.int x2)] 3 = mkF m 0 #[.val (.ref x0), .val (.ref x1), .val (.int x2)] [] := by first | (simp [entryFrame, mkF, argsToLocals, Value.category]; done) | rfl
theorem ef_valueOfC (m : MethodId) (x0 : Int32) : entryFrame m #[(.int x0)] 1 = mkF m 0 #[.val (.int x0)] [] := by first | (simp [entryFrame, mkF, argsToLocals, Value.category]; done) | rfl
theorem ef_pcheck (m : MethodId) (x0 : Int32) (x1 : Int32) (x2 : Value) (hx2 : x2.category = 1) : entryFrame m #[(.int x0), (.int x1), x2] 3 = mkF m 0 #[.val (.int x0), .val (.int x1), .val x2] [] := by cases x2 <;> first | (simp [Value.category] at hx2; done) | (first | (simp [entryFrame, mkF, argsToLocals, Value.category]; done) | rfl)
theorem ef_scheck (m : MethodId) (x0 : Int32) (x1 : Int32) : entryFrame m #[(.int x0), (.int x1)] 2 = mkF m 0 #[.val (.int x0), .val (.int x1)] [] := by first | (simp [entryFrame, mkF, argsToLocals, Value.category]; done) | rfl
theorem ef_lcharAt (m : MethodId) (x0 : Addr) (x1 : Int32) : entryFrame m #[(.ref x0), (.int x1)] 2 = mkF m 0 #[.val (.ref x0), .val (.int x1)] [] := by first | (simp [entryFrame, mkF, argsToLocals, Value.category]; done) | rfl
theorem ef_charAt (m : MethodId) (x0 : Addr) (x1 : Int32) : entryFrame m #[(.ref x0), (.int x1)] 2 = mkF m 0 #[.val (.ref x0), .val (.int x1)] [] := by first | (simp [entryFrame, mkF, argsToLocals, Value.category]; done) | rfl
theorem ef_putC0 (m : MethodId) (x0 : Addr) (x1 : Int32) (x2 : Int32) : entryFrame m #[(.ref x0), (.int x1), (.int x2)] 3 = mkF m 0 #[.val (.ref x0), .val (.int x1), .val (.int x2)] [] := by first | (simp [entryFrame, mkF, argsToLocals, Value.category]; done) | rfl
theorem own_ka0_1 : (0 : Int32) + Int32.ofInt 1 = (1 : Int32) := by decide
theorem ef_getC0 (m : MethodId) (x0 : Addr) (x1 : Int32) : entryFrame m #[(.ref x0), (.int x1)] 2 = mkF m 0 #[.val (.ref x0), .val (.int x1)] [] := by first | (simp [entryFrame, mkF, argsToLocals, Value.category]; done) | rfl
theorem ef_putC1 (m : MethodId) (x0 : Addr) (x1 : Int32) (x2 : Int32) : entryFrame m #[(.ref x0), (.int x1), (.int x2)] 3 = mkF m 0 #[.val (.ref x0), .val (.int x1), .val (.int x2)] [] := by first | (simp [entryFrame, mkF, argsToLocals, Value.category]; done) | rfl
theorem own_ka2_1 : (2 : Int32) + Int32.ofInt 1 = (3 : Int32) := by decide
theorem ef_getC1 (m : MethodId) (x0 : Addr) (x1 : Int32) : entryFrame m #[(.ref x0), (.int x1)] 2 = mkF m 0 #[.val (.ref x0), .val (.int x1)] [] := by first | (simp [entryFrame, mkF, argsToLocals, Value.category]; done) | rfl
theorem ef_toBu1 (m : MethodId) (x0 : Int32) : entryFrame m #[(.int x0)] 2 = mkF m 0 #[.val (.int x0), .unset] [] := by first | (simp [entryFrame, mkF, argsToLocals, Value.category]; done) | rfl
theorem own_ki2 : Int32.ofInt 2 = (2 : Int32) := by decide
theorem ef_nbl2 (m : MethodId) (x0 : Int32) : entryFrame m #[(.int x0)] 1 = mkF m 0 #[.val (.int x0)] [] := by first | (simp [entryFrame, mkF, argsToLocals, Value.category]; done) | rfl
theorem own_bg2_lt_1073741823 : (2 : Int32) < (1073741823 : Int32) := by decide
theorem ef_nbf2 (m : MethodId) (x0 : Int32) : entryFrame m #[(.int x0)] 1 = mkF m 0 #[.val (.int x0)] [] := by first | (simp [entryFrame, mkF, argsToLocals, Value.category]; done) | rfl
theorem ef_toB2 (m : MethodId) (x0 : Addr) (x1 : Int32) (x2 : Int32) : entryFrame m #[(.ref x0), (.int x1), (.int x2)] 5 = mkF m 0 #[.val (.ref x0), .val (.int x1), .val (.int x2), .unset, .unset] [] := by first | (simp [entryFrame, mkF, argsToLocals, Value.category]; done) | rfl
theorem own_ka1_1 : (1 : Int32) + Int32.ofInt 1 = (2 : Int32) := by decide
theorem ef_cmpL2 (m : MethodId) (x0 : Addr) (x1 : Int32) (x2 : Addr) (x3 : Int32) (x4 : Int32) : entryFrame m #[(.ref x0), (.int x1), (.ref x2), (.int x3), (.int x4)] 7 = mkF m 0 #[.val (.ref x0), .val (.int x1), .val (.ref x2), .val (.int x3), .val (.int x4), .unset, .unset] [] := by first | (simp [entryFrame, mkF, argsToLocals, Value.category]; done) | rfl
theorem ef_cmpU2 (m : MethodId) (x0 : Addr) (x1 : Int32) (x2 : Addr) (x3 : Int32) (x4 : Int32) : entryFrame m #[(.ref x0), (.int x1), (.ref x2), (.int x3), (.int x4)] 7 = mkF m 0 #[.val (.ref x0), .val (.int x1), .val (.ref x2), .val (.int x3), .val (.int x4), .unset, .unset] [] := by first | (simp [entryFrame, mkF, argsToLocals, Value.category]; done) | rfl
theorem ef_cpL2 (m : MethodId) (x0 : Addr) (x1 : Int32) (x2 : Int32) : entryFrame m #[(.ref x0), (.int x1), (.int x2)] 6 = mkF m 0 #[.val (.ref x0), .val (.int x1), .val (.int x2), .unset, .unset, .unset] [] := by first | (simp [entryFrame, mkF, argsToLocals, Value.category]; done) | rfl
theorem ef_cpU2 (m : MethodId) (x0 : Addr) (x1 : Int32) (x2 : Int32) : entryFrame m #[(.ref x0), (.int x1), (.int x2)] 6 = mkF m 0 #[.val (.ref x0), .val (.int x1), .val (.int x2), .unset, .unset, .unset] [] := by first | (simp [entryFrame, mkF, argsToLocals, Value.category]; done) | rfl
theorem ef_cfl2_0 (m : MethodId) (x0 : Addr) (x1 : Int32) : entryFrame m #[(.ref x0), (.int x1)] 2 = mkF m 0 #[.val (.ref x0), .val (.int x1)] [] := by first | (simp [entryFrame, mkF, argsToLocals, Value.category]; done) | rfl
theorem own_kb31 : (Int8.ofInt 31).toInt32 = (31 : Int32) := by decide
theorem ef_cfl2_1 (m : MethodId) (x0 : Addr) (x1 : Int32) : entryFrame m #[(.ref x0), (.int x1)] 2 = mkF m 0 #[.val (.ref x0), .val (.int x1)] [] := by first | (simp [entryFrame, mkF, argsToLocals, Value.category]; done) | rfl
theorem ef_iV2 (m : MethodId) (x0 : Addr) (x1 : Addr) (x2 : Int32) (x3 : Int32) : entryFrame m #[(.ref x0), (.ref x1), (.int x2), (.int x3), .null] 6 = mkF m 0 #[.val (.ref x0), .val (.ref x1), .val (.int x2), .val (.int x3), .val .null, .unset] [] := by first | (simp [entryFrame, mkF, argsToLocals, Value.category]; done) | rfl
theorem ef_iC2 (m : MethodId) (x0 : Addr) (x1 : Addr) : entryFrame m #[(.ref x0), (.ref x1)] 2 = mkF m 0 #[.val (.ref x0), .val (.ref x1)] [] := by first | (simp [entryFrame, mkF, argsToLocals, Value.category]; done) | rfl
theorem ef_canE0 (m : MethodId) (x0 : Int32) : entryFrame m #[(.int x0)] 1 = mkF m 0 #[.val (.int x0)] [] := by first | (simp [entryFrame, mkF, argsToLocals, Value.category]; done) | rfl
theorem ef_iniB1 (m : MethodId) (x0 : Addr) (x1 : Addr) (x2 : Int32) : entryFrame m #[(.ref x0), (.ref x1), (.int x2)] 3 = mkF m 0 #[.val (.ref x0), .val (.ref x1), .val (.int x2)] [] := by first | (simp [entryFrame, mkF, argsToLocals, Value.category]; done) | rfl
theorem ef_valU (m : MethodId) (x0 : Int32) : entryFrame m #[(.int x0)] 1 = mkF m 0 #[.val (.int x0)] [] := by first | (simp [entryFrame, mkF, argsToLocals, Value.category]; done) | rfl
theorem ef_coder1 (m : MethodId) (x0 : Addr) : entryFrame m #[(.ref x0)] 1 = mkF m 0 #[.val (.ref x0)] [] := by first | (simp [entryFrame, mkF, argsToLocals, Value.category]; done) | rfl
theorem ef_isL1 (m : MethodId) (x0 : Addr) : entryFrame m #[(.ref x0)] 1 = mkF m 0 #[.val (.ref x0)] [] := by first | (simp [entryFrame, mkF, argsToLocals, Value.category]; done) | rfl
theorem ef_ulen (m : MethodId) (x0 : Addr) : entryFrame m #[(.ref x0)] 1 = mkF m 0 #[.val (.ref x0)] [] := by first | (simp [entryFrame, mkF, argsToLocals, Value.category]; done) | rfl
theorem ef_uck (m : MethodId) (x0 : Int32) (x1 : Addr) : entryFrame m #[(.int x0), (.ref x1)] 2 = mkF m 0 #[.val (.int x0), .val (.ref x1)] [] := by first | (simp [entryFrame, mkF, argsToLocals, Value.category]; done) | rfl
theorem ef_slen (m : MethodId) (x0 : Addr) : entryFrame m #[(.ref x0)] 1 = mkF m 0 #[.val (.ref x0)] [] := by first | (simp [entryFrame, mkF, argsToLocals, Value.category]; done) | rfl
theorem ef_uch1_0 (m : MethodId) (x0 : Addr) (x1 : Int32) : entryFrame m #[(.ref x0), (.int x1)] 2 = mkF m 0 #[.val (.ref x0), .val (.int x1)] [] := by first | (simp [entryFrame, mkF, argsToLocals, Value.category]; done) | rfl
theorem ef_chA1_0 (m : MethodId) (x0 : Addr) (x1 : Int32) : entryFrame m #[(.ref x0), (.int x1)] 2 = mkF m 0 #[.val (.ref x0), .val (.int x1)] [] := by first | (simp [entryFrame, mkF, argsToLocals, Value.category]; done) | rfl
theorem ef_uch2_0 (m : MethodId) (x0 : Addr) (x1 : Int32) : entryFrame m #[(.ref x0), (.int x1)] 2 = mkF m 0 #[.val (.ref x0), .val (.int x1)] [] := by first | (simp [entryFrame, mkF, argsToLocals, Value.category]; done) | rfl
theorem ef_chA2_0 (m : MethodId) (x0 : Addr) (x1 : Int32) : entryFrame m #[(.ref x0), (.int x1)] 2 = mkF m 0 #[.val (.ref x0), .val (.int x1)] [] := by first | (simp [entryFrame, mkF, argsToLocals, Value.category]; done) | rfl
theorem ef_uch2_1 (m : MethodId) (x0 : Addr) (x1 : Int32) : entryFrame m #[(.ref x0), (.int x1)] 2 = mkF m 0 #[.val (.ref x0), .val (.int x1)] [] := by first | (simp [entryFrame, mkF, argsToLocals, Value.category]; done) | rfl
theorem ef_chA2_1 (m : MethodId) (x0 : Addr) (x1 : Int32) : entryFrame m #[(.ref x0), (.int x1)] 2 = mkF m 0 #[.val (.ref x0), .val (.int x1)] [] := by first | (simp [entryFrame, mkF, argsToLocals, Value.category]; done) | rfl
theorem ef_fits (m : MethodId) (x0 : Addr) : entryFrame m #[(.ref x0)] 1 = mkF m 0 #[.val (.ref x0)] [] := by first | (simp [entryFrame, mkF, argsToLocals, Value.category]; done) | rfl
theorem own_ks21845 : (Int16.ofInt 21845).toInt32 = (21845 : Int32) := by decide
theorem ef_req (m : MethodId) (x0 : Addr) : entryFrame m #[(.ref x0)] 1 = mkF m 0 #[.val (.ref x0)] [] := by first | (simp [entryFrame, mkF, argsToLocals, Value.category]; done) | rfl
theorem ef_elen (m : MethodId) (x0 : Addr) : entryFrame m #[(.ref x0)] 5 = mkF m 0 #[.val (.ref x0), .unset, .unset, .unset, .unset] [] := by first | (simp [entryFrame, mkF, argsToLocals, Value.category]; done) | rfl
theorem own_ks2048 : (Int16.ofInt 2048).toInt32 = (2048 : Int32) := by decide
theorem own_ks128 : (Int16.ofInt 128).toInt32 = (128 : Int32) := by decide
theorem ef_ens (m : MethodId) (x0 : Addr) (x1 : Int32) : entryFrame m #[(.ref x0), (.int x1)] 4 = mkF m 0 #[.val (.ref x0), .val (.int x1), .unset, .unset] [] := by first | (simp [entryFrame, mkF, argsToLocals, Value.category]; done) | rfl
theorem ef_writeByte (m : MethodId) (x0 : Addr) (x1 : Int32) : entryFrame m #[(.ref x0), (.int x1)] 2 = mkF m 0 #[.val (.ref x0), .val (.int x1)] [] := by first | (simp [entryFrame, mkF, argsToLocals, Value.category]; done) | rfl
theorem ef_writeShort (m : MethodId) (x0 : Addr) (x1 : Int32) : entryFrame m #[(.ref x0), (.int x1)] 2 = mkF m 0 #[.val (.ref x0), .val (.int x1)] [] := by first | (simp [entryFrame, mkF, argsToLocals, Value.category]; done) | rfl
theorem own_kb8 : (Int8.ofInt 8).toInt32 = (8 : Int32) := by decide
theorem ef_writeInt (m : MethodId) (x0 : Addr) (x1 : Int32) : entryFrame m #[(.ref x0), (.int x1)] 2 = mkF m 0 #[.val (.ref x0), .val (.int x1)] [] := by first | (simp [entryFrame, mkF, argsToLocals, Value.category]; done) | rfl
theorem own_ki4 : Int32.ofInt 4 = (4 : Int32) := by decide
theorem own_kb24 : (Int8.ofInt 24).toInt32 = (24 : Int32) := by decide
theorem own_kb16 : (Int8.ofInt 16).toInt32 = (16 : Int32) := by decide
theorem ef_wl (m : MethodId) (x0 : Addr) (x1 : Int64) : entryFrame m #[(.ref x0), (.long x1)] 3 = mkF m 0 #[.val (.ref x0), .val (.long x1), .second] [] := by first | (simp [entryFrame, mkF, argsToLocals, Value.category]; done) | rfl
theorem own_kb32 : (Int8.ofInt 32).toInt32 = (32 : Int32) := by decide
theorem own_ks192 : (Int16.ofInt 192).toInt32 = (192 : Int32) := by decide
theorem own_kb6 : (Int8.ofInt 6).toInt32 = (6 : Int32) := by decide
theorem own_kb63 : (Int8.ofInt 63).toInt32 = (63 : Int32) := by decide
theorem own_ks224 : (Int16.ofInt 224).toInt32 = (224 : Int32) := by decide
theorem own_kb12 : (Int8.ofInt 12).toInt32 = (12 : Int32) := by decide
theorem ef_enc (m : MethodId) (x0 : Addr) (x1 : Addr) (x2 : Int32) : entryFrame m #[(.ref x0), (.ref x1), (.int x2)] 6 = mkF m 0 #[.val (.ref x0), .val (.ref x1), .val (.int x2), .unset, .unset, .unset] [] := by first | (simp [entryFrame, mkF, argsToLocals, Value.category]; done) | rfl
theorem ef_ws (m : MethodId) (x0 : Addr) (x1 : Addr) : entryFrame m #[(.ref x0), (.ref x1)] 3 = mkF m 0 #[.val (.ref x0), .val (.ref x1), .unset] [] := by first | (simp [entryFrame, mkF, argsToLocals, Value.category]; done) | rfl
theorem ef_gtag (m : MethodId) (x0 : Addr) : entryFrame m #[(.ref x0)] 1 = mkF m 0 #[.val (.ref x0)] [] := by first | (simp [entryFrame, mkF, argsToLocals, Value.category]; done) | rfl
theorem ef_gname (m : MethodId) (x0 : Addr) : entryFrame m #[(.ref x0)] 1 = mkF m 0 #[.val (.ref x0)] [] := by first | (simp [entryFrame, mkF, argsToLocals, Value.category]; done) | rfl
theorem ef_gval (m : MethodId) (x0 : Addr) : entryFrame m #[(.ref x0)] 1 = mkF m 0 #[.val (.ref x0)] [] := by first | (simp [entryFrame, mkF, argsToLocals, Value.category]; done) | rfl
theorem ef_gid (m : MethodId) (x0 : Addr) : entryFrame m #[(.ref x0)] 1 = mkF m 0 #[.val (.ref x0)] [] := by first | (simp [entryFrame, mkF, argsToLocals, Value.category]; done) | rfl
theorem ef_gord (m : MethodId) (x0 : Addr) : entryFrame m #[(.ref x0)] 1 = mkF m 0 #[.val (.ref x0)] [] := by first | (simp [entryFrame, mkF, argsToLocals, Value.category]; done) | rfl
theorem ef_gty (m : MethodId) (x0 : Addr) : entryFrame m #[(.ref x0)] 1 = mkF m 0 #[.val (.ref x0)] [] := by first | (simp [entryFrame, mkF, argsToLocals, Value.category]; done) | rfl
theorem ef_wp (m : MethodId) (x0 : Addr) (x1 : Addr) : entryFrame m #[(.ref x0), (.ref x1)] 8 = mkF m 0 #[.val (.ref x0), .val (.ref x1), .unset, .unset, .unset, .unset, .unset, .unset] [] := by first | (simp [entryFrame, mkF, argsToLocals, Value.category]; done) | rfl
theorem own_ts35_13_4 : (¬ (((4 : Int32).toInt < 1) ∨ ((4 : Int32).toInt > 12))) ∧ (#[63, 77, 91, 105, 119, 136, 153, 202, 216, 268, 338, 389] : Array Int)[((4 : Int32).toInt - 1).toNat]? = some 105 := by decide
theorem ef_wroot (m : MethodId) (x0 : Addr) (x1 : Addr) : entryFrame m #[(.ref x0), (.ref x1)] 2 = mkF m 0 #[.val (.ref x0), .val (.ref x1)] [] := by first | (simp [entryFrame, mkF, argsToLocals, Value.category]; done) | rfl
theorem ef_minA (m : MethodId) (x0 : Int32) (x1 : Int32) : entryFrame m #[(.int x0), (.int x1)] 2 = mkF m 0 #[.val (.int x0), .val (.int x1)] [] := by first | (simp [entryFrame, mkF, argsToLocals, Value.category]; done) | rfl
theorem ef_cpy (m : MethodId) (x0 : Addr) (x1 : Int32) : entryFrame m #[(.ref x0), (.int x1)] 3 = mkF m 0 #[.val (.ref x0), .val (.int x1), .unset] [] := by first | (simp [entryFrame, mkF, argsToLocals, Value.category]; done) | rfl
theorem ef_tba (m : MethodId) (x0 : Addr) : entryFrame m #[(.ref x0)] 1 = mkF m 0 #[.val (.ref x0)] [] := by first | (simp [entryFrame, mkF, argsToLocals, Value.category]; done) | rfl
theorem ef_put (m : MethodId) (x0 : Addr) (x1 : Int32) (x2 : Int32) : entryFrame m #[(.ref x0), (.int x1), (.int x2)] 3 = mkF m 0 #[.val (.ref x0), .val (.int x1), .val (.int x2)] [] := by first | (simp [entryFrame, mkF, argsToLocals, Value.category]; done) | rfl
theorem own_ki3 : Int32.ofInt 3 = (3 : Int32) := by decide
theorem ef_same (m : MethodId) (x0 : Addr) (x1 : Int32) (x2 : Addr) (x3 : Int32) (x4 : Int32) : entryFrame m #[(.ref x0), (.int x1), (.ref x2), (.int x3), (.int x4)] 5 = mkF m 0 #[.val (.ref x0), .val (.int x1), .val (.ref x2), .val (.int x3), .val (.int x4)] [] := by first | (simp [entryFrame, mkF, argsToLocals, Value.category]; done) | rfl
theorem ef_als (m : MethodId) (x0 : Addr) (x1 : Int32) (x2 : Addr) (x3 : Int32) : entryFrame m #[(.ref x0), (.int x1), (.ref x2), (.int x3)] 4 = mkF m 0 #[.val (.ref x0), .val (.int x1), .val (.ref x2), .val (.int x3)] [] := by first | (simp [entryFrame, mkF, argsToLocals, Value.category]; done) | rfl
theorem own_ki5 : Int32.ofInt 5 = (5 : Int32) := by decide
theorem own_kb7 : (Int8.ofInt 7).toInt32 = (7 : Int32) := by decide
theorem own_kb9 : (Int8.ofInt 9).toInt32 = (9 : Int32) := by decide
theorem own_kb10 : (Int8.ofInt 10).toInt32 = (10 : Int32) := by decide
theorem own_kb11 : (Int8.ofInt 11).toInt32 = (11 : Int32) := by decide
theorem own_kb13 : (Int8.ofInt 13).toInt32 = (13 : Int32) := by decide
theorem own_kb14 : (Int8.ofInt 14).toInt32 = (14 : Int32) := by decide
theorem own_kb15 : (Int8.ofInt 15).toInt32 = (15 : Int32) := by decide
theorem ef_recI (m : MethodId) (x0 : Addr) : entryFrame m #[(.ref x0)] 1 = mkF m 0 #[.val (.ref x0)] [] := by first | (simp [entryFrame, mkF, argsToLocals, Value.category]; done) | rfl
theorem ef_ltI (m : MethodId) (x0 : Addr) (x1 : Int64) : entryFrame m #[(.ref x0), (.long x1)] 3 = mkF m 0 #[.val (.ref x0), .val (.long x1), .second] [] := by first | (simp [entryFrame, mkF, argsToLocals, Value.category]; done) | rfl
theorem ef_rnn (m : MethodId) (x0 : Addr) (x1 : Addr) : entryFrame m #[(.ref x0), (.ref x1)] 2 = mkF m 0 #[.val (.ref x0), .val (.ref x1)] [] := by first | (simp [entryFrame, mkF, argsToLocals, Value.category]; done) | rfl
theorem ef_ntI (m : MethodId) (x0 : Addr) (x1 : Addr) (x2 : Addr) : entryFrame m #[(.ref x0), (.ref x1), (.ref x2)] 3 = mkF m 0 #[.val (.ref x0), .val (.ref x1), .val (.ref x2)] [] := by first | (simp [entryFrame, mkF, argsToLocals, Value.category]; done) | rfl
theorem ef_nwI (m : MethodId) (x0 : Addr) : entryFrame m #[(.ref x0)] 1 = mkF m 0 #[.val (.ref x0)] [] := by first | (simp [entryFrame, mkF, argsToLocals, Value.category]; done) | rfl
theorem own_ks256 : (Int16.ofInt 256).toInt32 = (256 : Int32) := by decide
theorem ef_min2 (m : MethodId) (x0 : Int32) (x1 : Int32) : entryFrame m #[(.int x0), (.int x1)] 2 = mkF m 0 #[.val (.int x0), .val (.int x1)] [] := by first | (simp [entryFrame, mkF, argsToLocals, Value.category]; done) | rfl
theorem ef_0 (m : MethodId) (x0 : Int32) (x1 : Int64) (x2 : Int32) : entryFrame m #[(.int x0), (.long x1), (.int x2)] maxLocals = mkF m 0 #[.val (.int x0), .val (.long x1), .second, .val (.int x2), .unset, .unset, .unset, .unset, .unset, .unset, .unset, .unset, .unset, .unset, .unset, .unset] [] := by first | (simp [entryFrame, mkF, argsToLocals, Value.category, maxLocals]; done) | rfl
theorem own_kb17 : (Int8.ofInt 17).toInt32 = (17 : Int32) := by decide
theorem own_kb56 : (Int8.ofInt 56).toInt32 = (56 : Int32) := by decide
theorem own_kb48 : (Int8.ofInt 48).toInt32 = (48 : Int32) := by decide
theorem own_kb40 : (Int8.ofInt 40).toInt32 = (40 : Int32) := by decide
theorem own_kb99 : (Int8.ofInt 99).toInt32 = (99 : Int32) := by decide
def Qcoder (Z : State) (a : Addr) (zc : Int32) (h0 : Heap) (n0 : Nat) (v : Option Value) (h : Heap) (L : List Loc) : Prop := v = some (.int (0 : Int32)) ∧ Fr n0 L ∧ h = h0
theorem rmcoder (l : Launch) (Z : State) (a0 : Array Value) (hw : own_tb a0 Z) (ws : List Jvm.Cond) (a : Addr) (zc : Int32) (h0 : Heap) (n0 : Nat) (Z0 : n0 ≤ h0.size) (O_ : Old Z n0 h0) (S_CS : Sta Z Z.heap "java/lang/String" "COMPACT_STRINGS" "Z" (.int zc)) (P_CS : ¬ zc = (0 : Int32)) (Fc : Fld Z h0 a "java/lang/String" "coder" "B" (.int (0 : Int32))) :
    OwnMet l (⟨"java/lang/String", "coder", "()B"⟩ : MethodName) jdk_42_method_152_code 1 (some .byte) ws ({ frames := 0, cells := 0, slots := 0, locals := 0 } : Room) #[(.ref a)] Z h0 (Qcoder Z a zc h0 n0) := by
  refine own_met (plainFor_of_name pn_15) ?_
  intro p e s m below meth c s₁ X0 hx hby hml hret hlk hown hnm hZ e0
  have N0 := Fr.nil n0
  have Z_ := Z0
  refine OwnGo.cast (ef_coder m a) ?_
  show OwnGo p e below s _ _ _ s₁ (mkF m 0 _ [])
  obtain ⟨T1, X1, e1, st1⟩ := getS2 X0 hx hZ hown (host := "") (Or.inl (W_ hw 9 rfl)) Via.refl e0 (S_CS.ext O_.2) (g := (mkF m 0 #[.val (.ref a)] [])) rfl (hb hby d15_0)
  refine .st st1 ?_
  show OwnGo p e below s _ _ _ T1 (mkF m 3 _ [(.int zc)])
  refine .ifNo X1 hx (hb hby d15_3) ((if0 _ _).trans (feq (P_CS : ¬ (zc = (0 : Int32)))).1) ?_
  refine .aloadN X1 hx (hb hby d15_6) rfl rfl ?_
  obtain ⟨T2, X2, e2, st2⟩ := getF X1 hx hZ hown (host := "") (Or.inl (W_ hw 29 rfl)) Via.refl e1 Fc (g := (mkF m 7 #[.val (.ref a)] [(.ref a)])) rfl rfl (hb hby d15_7)
  refine .st st2 ?_
  show OwnGo p e below s _ _ _ T2 (mkF m 10 _ [(.int (0 : Int32))])
  refine .goto (pc := 10) X2 hx 14 (hb hby d15_10) (by decide) (by decide) ?_
  exact OwnGo.retN X2 hx (t := .byte) hret hlk (by simp) (hb hby d15_14) (by show Qcoder Z a zc h0 n0 _ T2.heap _; rw [e2]; exact ⟨rfl, N0, rfl⟩) (by decide) (by decide)
def Qlength (Z : State) (a : Addr) (t : Addr) (kc : ClassId) (z : Int32) (vs : List Value) (zc : Int32) (h0 : Heap) (n0 : Nat) (v : Option Value) (h : Heap) (L : List Loc) : Prop := v = some (.int z) ∧ Fr n0 L ∧ h = h0
theorem rmlength (l : Launch) (Z : State) (a0 : Array Value) (hw : own_tb a0 Z) (ws : List Jvm.Cond) (a : Addr) (t : Addr) (kc : ClassId) (z : Int32) (vs : List Value) (zc : Int32) (h0 : Heap) (n0 : Nat) (Z0 : n0 ≤ h0.size) (O_ : Old Z n0 h0) (S_CS : Sta Z Z.heap "java/lang/String" "COMPACT_STRINGS" "Z" (.int zc)) (P_CS : ¬ zc = (0 : Int32)) (E_a : Exa Z h0 a "java/lang/String") (Fc : Fld Z h0 a "java/lang/String" "coder" "B" (.int (0 : Int32))) (Fv : Fld Z h0 a "java/lang/String" "value" "[B" (.ref t)) (V : Arv Z h0 t kc .byte z vs (.int (0 : Int32))) :
    OwnMet l (⟨"java/lang/String", "length", "()I"⟩ : MethodName) jdk_42_method_54_code 1 (some .int) ws ({ frames := 1, cells := 0, slots := 0, locals := 13 } : Room) #[(.ref a)] Z h0 (Qlength Z a t kc z vs zc h0 n0) := by
  refine own_met (plainFor_of_name pn_15) ?_
  intro p e s m below meth c s₁ X0 hx hby hml hret hlk hown hnm hZ e0
  have N0 := Fr.nil n0
  have Z_ := Z0
  refine OwnGo.cast (ef_length m a) ?_
  show OwnGo p e below s _ _ _ s₁ (mkF m 0 _ [])
  refine .aloadN X0 hx (hb hby d14_0) rfl rfl ?_
  obtain ⟨T3, X3, e3, st3⟩ := getF X0 hx hZ hown (host := "") (Or.inl (W_ hw 27 rfl)) Via.refl e0 Fv (g := (mkF m 1 #[.val (.ref a)] [(.ref a)])) rfl rfl (hb hby d14_1)
  refine .st st3 ?_
  show OwnGo p e below s _ _ _ T3 (mkF m 4 _ [(.ref t)])
  obtain ⟨cl4, Ar4, -, S4, N4, -, -⟩ := id V
  refine .st (fun _ => own_len hZ (len_of S4 N4) Ar4 X3 e3 hx (g := (mkF m 4 #[.val (.ref a)] [(.ref t)])) rfl rfl (hb hby d14_4) _) ?_
  show OwnGo p e below s _ _ _ T3 (mkF m 5 _ [(.int z)])
  refine .aloadN X3 hx (hb hby d14_5) rfl rfl ?_
  obtain ⟨cq5, kq5, q5a, q5b, q5c⟩ := isOf hZ e3 E_a
  obtain ⟨_, _, ⟨T5, L5, k5, n5⟩, -, X5, ⟨Lc5, hQ5, l5, y5, z5⟩, st5⟩ := X3.virtualBack hx (y := (⟨"java/lang/String", "coder", "()B"⟩ : MethodName)) (z := (⟨"java/lang/String", "coder", "()B"⟩ : MethodName)) hown (mvT hZ (W_ hw 76 rfl)) (mvT hZ (W_ hw 77 rfl)) (notFace_of_selects (args := #[]) (mvT hZ (W_ hw 79 rfl))) (mvT hZ (W_ hw 79 rfl)) (mvT hZ (W_ hw 78 rfl)) (by decide) (backOf (W := 1) (rmcoder l Z a0 hw [] a zc h0 n0 Z_ O_ S_CS P_CS Fc) hZ (W_ hw 80 rfl) (W_ hw 7 rfl) (by decide) (by decide)) q5a q5c (g := (mkF m 6 #[.val (.ref a)] [(.ref a), (.int z)])) rfl (by rw [hml]; rfl) (Steps.refl _) (argsL := []) (rest := [(.int z)]) (lenOf pd_0 rfl) rfl (Nat.le_of_eq rfl) (hb hby d14_6) (fun _ _ => ⟨rfl, e3, (by decide : 0 + 0 ≤ _), (by decide : 0 + 0 ≤ _)⟩)
  dsimp only [Pt.U, Pt.locs, Pt.cells, Pt.slots] at X5 l5 y5 z5 st5 hQ5
  subst y5 z5
  obtain ⟨rfl, N5q, e5⟩ := hQ5
  have N5 := own_frl l5 N0 N5q
  refine .st (fun _ => st5.trans) ?_
  show OwnGo p e below s _ _ _ T5 (mkF m 9 _ [(.int (0 : Int32)), (.int z)])
  refine .st (fun _ => XS.ishr X5.here hx rfl (hb hby d14_9) rfl) ?_
  show OwnGo p e below s _ _ _ T5 (mkF m 10 _ [(.int (z >>> ((0 : Int32) &&& 31)))])
  rw [own_sh0]
  show OwnGo p e below s _ _ _ T5 (mkF m 10 _ [(.int z)])
  exact OwnGo.ret X5 hx hret hlk rfl (Or.inl ⟨rfl, Or.inl rfl, _, rfl⟩) (hb hby d14_10) (by show Qlength Z a t kc z vs zc h0 n0 _ T5.heap _; rw [e5]; exact ⟨rfl, N5, rfl⟩) (by decide) (by decide)
def QisLatin1 (Z : State) (a : Addr) (zc : Int32) (h0 : Heap) (n0 : Nat) (v : Option Value) (h : Heap) (L : List Loc) : Prop := v = some (.int (1 : Int32)) ∧ Fr n0 L ∧ h = h0
theorem rmisLatin1 (l : Launch) (Z : State) (a0 : Array Value) (hw : own_tb a0 Z) (ws : List Jvm.Cond) (a : Addr) (zc : Int32) (h0 : Heap) (n0 : Nat) (Z0 : n0 ≤ h0.size) (O_ : Old Z n0 h0) (S_CS : Sta Z Z.heap "java/lang/String" "COMPACT_STRINGS" "Z" (.int zc)) (P_CS : ¬ zc = (0 : Int32)) (Fc : Fld Z h0 a "java/lang/String" "coder" "B" (.int (0 : Int32))) :
    OwnMet l (⟨"java/lang/String", "isLatin1", "()Z"⟩ : MethodName) jdk_42_method_154_code 1 (some .boolean) ws ({ frames := 0, cells := 0, slots := 0, locals := 0 } : Room) #[(.ref a)] Z h0 (QisLatin1 Z a zc h0 n0) := by
  refine own_met (plainFor_of_name pn_15) ?_
  intro p e s m below meth c s₁ X0 hx hby hml hret hlk hown hnm hZ e0
  have N0 := Fr.nil n0
  have Z_ := Z0
  refine OwnGo.cast (ef_isLatin1 m a) ?_
  show OwnGo p e below s _ _ _ s₁ (mkF m 0 _ [])
  obtain ⟨T6, X6, e6, st6⟩ := getS2 X0 hx hZ hown (host := "") (Or.inl (W_ hw 9 rfl)) Via.refl e0 (S_CS.ext O_.2) (g := (mkF m 0 #[.val (.ref a)] [])) rfl (hb hby d29_0)
  refine .st st6 ?_
  show OwnGo p e below s _ _ _ T6 (mkF m 3 _ [(.int zc)])
  refine .ifNo X6 hx (hb hby d29_3) ((if0 _ _).trans (feq (P_CS : ¬ (zc = (0 : Int32)))).1) ?_
  refine .aloadN X6 hx (hb hby d29_6) rfl rfl ?_
  obtain ⟨T7, X7, e7, st7⟩ := getF X6 hx hZ hown (host := "") (Or.inl (W_ hw 29 rfl)) Via.refl e6 Fc (g := (mkF m 7 #[.val (.ref a)] [(.ref a)])) rfl rfl (hb hby d29_7)
  refine .st st7 ?_
  show OwnGo p e below s _ _ _ T7 (mkF m 10 _ [(.int (0 : Int32))])
  refine .ifNo X7 hx (hb hby d29_10) ((if0 _ _).trans (teq (rfl : (0 : Int32) = (0 : Int32))).2) ?_
  refine .iconst X7 hx (hb hby d29_13) own_ki1 ?_
  refine .goto (pc := 14) X7 hx 18 (hb hby d29_14) (by decide) (by decide) ?_
  exact OwnGo.retN X7 hx (t := .boolean) hret hlk (by simp) (hb hby d29_18) (by show QisLatin1 Z a zc h0 n0 _ T7.heap _; rw [e7]; exact ⟨rfl, N0, rfl⟩) (by decide) (by decide)
def QcanEnc (Z : State) (cc : Int32) (h0 : Heap) (n0 : Nat) (v : Option Value) (h : Heap) (L : List Loc) : Prop := v = some (.int (1 : Int32)) ∧ Fr n0 L ∧ h = h0
theorem rmcanEnc (l : Launch) (Z : State) (a0 : Array Value) (hw : own_tb a0 Z) (ws : List Jvm.Cond) (cc : Int32) (h0 : Heap) (n0 : Nat) (Z0 : n0 ≤ h0.size) (hc : ¬ (255 : Int32) < cc) :
    OwnMet l (⟨"java/lang/StringLatin1", "canEncode", "(C)Z"⟩ : MethodName) jdk_43_method_3_code 1 (some .boolean) ws ({ frames := 0, cells := 0, slots := 0, locals := 0 } : Room) #[(.int cc)] Z h0 (QcanEnc Z cc h0 n0) := by
  refine own_met (plainFor_of_name pn_3) ?_
  intro p e s m below meth c s₁ X0 hx hby hml hret hlk hown hnm hZ e0
  have N0 := Fr.nil n0
  have Z_ := Z0
  refine OwnGo.cast (ef_canEnc m cc) ?_
  show OwnGo p e below s _ _ _ s₁ (mkF m 0 _ [])
  refine .iloadN X0 hx (hb hby d3_0) rfl ?_
  refine .sipush X0 hx (hb hby d3_1) own_ks255 ?_
  refine .icmpNo X0 hx (hb hby d3_4) (flt (hc : ¬ ((255 : Int32) < cc))).2.2.1 ?_
  refine .iconst X0 hx (hb hby d3_7) own_ki1 ?_
  refine .goto (pc := 8) X0 hx 12 (hb hby d3_8) (by decide) (by decide) ?_
  exact OwnGo.retN X0 hx (t := .boolean) hret hlk (by simp) (hb hby d3_12) (by show QcanEnc Z cc h0 n0 _ s₁.heap _; rw [e0]; exact ⟨rfl, N0, rfl⟩) (by decide) (by decide)
def QtoB1 (Z : State) (cc : Int32) (h0 : Heap) (n0 : Nat) (v : Option Value) (h : Heap) (L : List Loc) : Prop := ∃ (t : Addr) (kb : ClassId), v = some (.ref t) ∧ Fr n0 L ∧ Keep h0 h [] ∧ Arv Z h t kb .byte (1 : Int32) [(.int cc.toInt8.toInt32)] (.int (0 : Int32)) ∧ h0.size ≤ t
theorem rmtoB1 (l : Launch) (Z : State) (a0 : Array Value) (hw : own_tb a0 Z) (ws : List Jvm.Cond) (cc : Int32) (h0 : Heap) (n0 : Nat) (Z0 : n0 ≤ h0.size) :
    OwnMet l (⟨"java/lang/StringLatin1", "toBytes", "(C)[B"⟩ : MethodName) jdk_43_method_46_code 1 (some (.array .byte)) ws ({ frames := 0, cells := 1, slots := 1, locals := 0 } : Room) #[(.int cc)] Z h0 (QtoB1 Z cc h0 n0) := by
  refine own_met (plainFor_of_name pn_3) ?_
  intro p e s m below meth c s₁ X0 hx hby hml hret hlk hown hnm hZ e0
  have N0 := Fr.nil n0
  have Z_ := Z0
  refine OwnGo.cast (ef_toB1 m cc) ?_
  show OwnGo p e below s _ _ _ s₁ (mkF m 0 _ [])
  have Kp : Keep h0 h0 [] := Keep.refl h0 []
  refine .iconst X0 hx (hb hby d4_0) own_ki1 ?_
  obtain ⟨T8, h8, k8, X8, e8, E8, A8, Ex8, st8⟩ := newPE X0 hx hZ (W_ hw 19 rfl) e0 (g := (mkF m 1 #[.val (.int cc)] [(.int (1 : Int32))])) rfl (hb hby d4_1) rfl (by decide) (cap := 1) (by decide) (by decide) (by decide) (by decide) (ad := "[B") (by decide)
  obtain ⟨b8, g8⟩ : ∃ z, z = h0.size := ⟨_, rfl⟩
  rw [← g8] at A8 Ex8 st8
  have g_b8 : n0 ≤ b8 := Nat.le_trans Z_ (Nat.le_of_eq g8.symm)
  have sz_b8 : h0.size ≤ b8 := Nat.le_trans Kp.1 (Nat.le_of_eq g8.symm)
  have Kp := Kp.ext E8
  have Z_ : n0 ≤ h8.size := Nat.le_trans Z_ E8.1
  have V_b8 : Arv Z h8 b8 k8 .byte (1 : Int32) [(.int (0 : Int32))] (.int (0 : Int32)) := (Arv.new A8 (by decide)).pad (pad_rep [] (.int (0 : Int32)) 1)
  have E_b8 := Ex8
  refine .st st8 ?_
  show OwnGo p e below s _ _ _ T8 (mkF m 3 _ [(.ref b8)])
  refine .dup X8 hx (hb hby d4_3) rfl ?_
  refine .iconst X8 hx (hb hby d4_4) own_ki0 ?_
  refine .iloadN X8 hx (hb hby d4_5) rfl ?_
  refine .st (fun _ => XS.i2b X8.here hx rfl (hb hby d4_6) rfl) ?_
  show OwnGo p e below s _ _ _ T8 (mkF m 7 _ [(.int (cc.toInt8.toInt32)), (.int (0 : Int32)), (.ref b8), (.ref b8)])
  obtain ⟨cl9, Ar9, q9, S9, N9, H9, G9⟩ := id V_b8
  have hin9 : ¬ ((0 : Int32) < 0 ∨ cl9.slots.size ≤ ((0 : Int32)).toNatClampNeg) := inb_of S9 ⟨by decide, by decide⟩
  obtain ⟨T9, h9, X9, e9, W9, st9⟩ := stB X8 hx hZ e8 Ar9 (j := (0 : Int32)) hin9 (g := (mkF m 7 #[.val (.int cc)] [(.int (cc.toInt8.toInt32)), (.int (0 : Int32)), (.ref b8), (.ref b8)])) rfl rfl (hb hby d4_7)
  have V_b8 : Arv Z h9 b8 k8 .byte (1 : Int32) [(.int (nar .byte (cc.toInt8.toInt32)))] (.int (0 : Int32)) := Arv.set Ar9 q9 S9 N9 H9 G9 (fits_nar_byte _) W9 0 rfl (Nat.le_of_ble_eq_true rfl)
  rw [show nar .byte (cc.toInt8.toInt32) = (cc.toInt8.toInt32) from own_nb _] at V_b8
  have E_b8 := E_b8.wr W9
  have Kp := Kp.wr W9 (Or.inr sz_b8)
  have N9 := Fr.snoc X9 N0 g_b8
  have Z_ : n0 ≤ h9.size := by rw [W9.size]; exact Z_
  refine .st st9 ?_
  show OwnGo p e below s _ _ _ T9 (mkF m 8 _ [(.ref b8)])
  exact OwnGo.ret X9 hx hret hlk rfl (Or.inr (Or.inr (Or.inr (Or.inr ⟨rfl, rfl, rfl⟩)))) (hb hby d4_8) (by show QtoB1 Z cc h0 n0 _ T9.heap _; rw [e9]; exact ⟨b8, k8, rfl, N9, Kp, V_b8, sz_b8⟩) (by decide) (by decide)
def QiniBB (Z : State) (x : Addr) (t : Addr) (h0 : Heap) (n0 : Nat) (v : Option Value) (h : Heap) (L : List Loc) : Prop := v = none ∧ Fr n0 L ∧ Keep h0 h [x] ∧ Exa Z h x "java/lang/String" ∧ Fld Z h x "java/lang/String" "coder" "B" (.int (0 : Int32)) ∧ Fld Z h x "java/lang/String" "value" "[B" (.ref t)
theorem rminiBB (l : Launch) (Z : State) (a0 : Array Value) (hw : own_tb a0 Z) (ws : List Jvm.Cond) (x : Addr) (t : Addr) (h0 : Heap) (n0 : Nat) (Z0 : n0 ≤ h0.size) (E_x : Exa Z h0 x "java/lang/String") (Fv : Fld Z h0 x "java/lang/String" "value" "[B" .null) (Fc : Fld Z h0 x "java/lang/String" "coder" "B" (.int (0 : Int32))) (g_x : n0 ≤ x) :
    OwnMet l (⟨"java/lang/String", "<init>", "([BB)V"⟩ : MethodName) jdk_42_method_151_code 3 none ws ({ frames := 1, cells := 0, slots := 0, locals := 12 } : Room) #[(.ref x), (.ref t), (.int (0 : Int32))] Z h0 (QiniBB Z x t h0 n0) := by
  refine own_met (plainFor_of_name pn_15) ?_
  intro p e s m below meth c s₁ X0 hx hby hml hret hlk hown hnm hZ e0
  have N0 := Fr.nil n0
  have Z_ := Z0
  refine OwnGo.cast (ef_iniBB m x t (0 : Int32)) ?_
  show OwnGo p e below s _ _ _ s₁ (mkF m 0 _ [])
  have Kp : Keep h0 h0 [x] := Keep.refl h0 [x]
  refine .aloadN X0 hx (hb hby d5_0) rfl rfl ?_
  obtain ⟨T10, X10, e10, st10⟩ := initO X0 hx hZ hown (W_ hw 24 rfl) (W_ hw 25 rfl) (W_ hw 26 rfl) e0 (g := (mkF m 1 #[.val (.ref x), .val (.ref t), .val (.int (0 : Int32))] [(.ref x)])) rfl (by rw [hml]; rfl) rfl (hb hby d5_1) (by decide) (W := 0) (Nat.le_of_eq rfl) (by decide)
  refine .st st10 ?_
  show OwnGo p e below s _ _ _ T10 (mkF m 4 _ [])
  refine .aloadN X10 hx (hb hby d5_4) rfl rfl ?_
  refine .aloadN X10 hx (hb hby d5_5) rfl rfl ?_
  obtain ⟨T11, h11, X11, e11, W11, st11⟩ := putF X10 hx hZ hown (host := "") (Or.inl (W_ hw 27 rfl)) Via.refl e10 Fv E_x (Or.inr ⟨(W_ hw 28 rfl), rfl, hnm⟩) (W_ hw 15 rfl) (ty := (.array .byte)) (by decide) rfl rfl (g := (mkF m 6 #[.val (.ref x), .val (.ref t), .val (.int (0 : Int32))] [(.ref t), (.ref x)])) rfl rfl (hb hby d5_6)
  have E_x := E_x.wr W11
  have Fv := Fv.same W11
  have Fc := Fc.other W11 (Or.inr (slot_ne (Or.inr (W_ hw 30 rfl)) (Or.inr (W_ hw 28 rfl)) (by decide) (t := .byte) (t' := (.array .byte)) (by decide) (by decide)))
  have Kp := Kp.wr W11 (Or.inl (List.mem_of_getElem? (i := 0) rfl))
  have N11 := Fr.snoc X11 N0 g_x
  have Z_ : n0 ≤ h11.size := by rw [W11.size]; exact Z_
  refine .st st11 ?_
  show OwnGo p e below s _ _ _ T11 (mkF m 9 _ [])
  refine .aloadN X11 hx (hb hby d5_9) rfl rfl ?_
  refine .iloadN X11 hx (hb hby d5_10) rfl ?_
  obtain ⟨T12, h12, X12, e12, W12, st12⟩ := putFN X11 hx hZ hown (W_ hw 29 rfl) Via.refl e11 Fc E_x (Or.inr ⟨(W_ hw 30 rfl), rfl, hnm⟩) (W_ hw 15 rfl) (ty := .byte) (v' := (.int (0 : Int32))) (by decide) rfl (by decide) (g := (mkF m 11 #[.val (.ref x), .val (.ref t), .val (.int (0 : Int32))] [(.int (0 : Int32)), (.ref x)])) rfl rfl (hb hby d5_11)
  have E_x := E_x.wr W12
  have Fv := Fv.other W12 (Or.inr (slot_ne (Or.inr (W_ hw 28 rfl)) (Or.inr (W_ hw 30 rfl)) (by decide) (t := (.array .byte)) (t' := .byte) (by decide) (by decide)))
  have Fc := Fc.same W12
  have Kp := Kp.wr W12 (Or.inl (List.mem_of_getElem? (i := 0) rfl))
  have N12 := Fr.snoc X12 N11 g_x
  have Z_ : n0 ≤ h12.size := by rw [W12.size]; exact Z_
  refine .st st12 ?_
  show OwnGo p e below s _ _ _ T12 (mkF m 14 _ [])
  exact OwnGo.retV X12 hx hret hlk (hb hby d5_14) (by show QiniBB Z x t h0 n0 _ T12.heap _; rw [e12]; exact ⟨rfl, N12, Kp, E_x, Fc, Fv⟩) (by decide) (by decide)
def QvalueOfC (Z : State) (cc : Int32) (zc : Int32) (h0 : Heap) (n0 : Nat) (v : Option Value) (h : Heap) (L : List Loc) : Prop := ∃ (x t : Addr) (kb : ClassId), v = some (.ref x) ∧ Fr n0 L ∧ Keep h0 h [] ∧ Exa Z h x "java/lang/String" ∧ Fld Z h x "java/lang/String" "coder" "B" (.int (0 : Int32)) ∧ Fld Z h x "java/lang/String" "value" "[B" (.ref t) ∧ Arv Z h t kb .byte (1 : Int32) [(.int cc.toInt8.toInt32)] (.int (0 : Int32)) ∧ h0.size ≤ x ∧ h0.size ≤ t
theorem rmvalueOfC (l : Launch) (Z : State) (a0 : Array Value) (hw : own_tb a0 Z) (ws : List Jvm.Cond) (cc : Int32) (zc : Int32) (h0 : Heap) (n0 : Nat) (Z0 : n0 ≤ h0.size) (O_ : Old Z n0 h0) (S_CS : Sta Z Z.heap "java/lang/String" "COMPACT_STRINGS" "Z" (.int zc)) (P_CS : ¬ zc = (0 : Int32)) (hc : ¬ (255 : Int32) < cc) :
    OwnMet l (⟨"java/lang/String", "valueOf", "(C)Ljava/lang/String;"⟩ : MethodName) jdk_42_method_139_code 1 (some (.object "java/lang/String")) ws ({ frames := 2, cells := 2, slots := 5, locals := 27 } : Room) #[(.int cc)] Z h0 (QvalueOfC Z cc zc h0 n0) := by
  refine own_met (plainFor_of_name pn_15) ?_
  intro p e s m below meth c s₁ X0 hx hby hml hret hlk hown hnm hZ e0
  have N0 := Fr.nil n0
  have Z_ := Z0
  refine OwnGo.cast (ef_valueOfC m cc) ?_
  show OwnGo p e below s _ _ _ s₁ (mkF m 0 _ [])
  have Kp : Keep h0 h0 [] := Keep.refl h0 []
  obtain ⟨T13, X13, e13, st13⟩ := getS2 X0 hx hZ hown (host := "") (Or.inl (W_ hw 9 rfl)) Via.refl e0 (S_CS.ext O_.2) (g := (mkF m 0 #[.val (.int cc)] [])) rfl (hb hby d2_0)
  refine .st st13 ?_
  show OwnGo p e below s _ _ _ T13 (mkF m 3 _ [(.int zc)])
  refine .ifNo X13 hx (hb hby d2_3) ((if0 _ _).trans (feq (P_CS : ¬ (zc = (0 : Int32)))).1) ?_
  refine .iloadN X13 hx (hb hby d2_6) rfl ?_
  obtain ⟨_, _, ⟨T14, L14, k14, n14⟩, -, X14, ⟨Lc14, hQ14, l14, y14, z14⟩, st14⟩ := Jvm.LawKit.callS X13 hx (y := (⟨"java/lang/StringLatin1", "canEncode", "(C)Z"⟩ : MethodName)) hown (mvT hZ (W_ hw 10 rfl)) (mvT hZ (W_ hw 11 rfl)) (mvT hZ (W_ hw 12 rfl)) (mvT hZ (W_ hw 13 rfl)) (by decide) (backOf (W := 0) (rmcanEnc l Z a0 hw [] cc h0 n0 Z_ hc) hZ (W_ hw 13 rfl) (W_ hw 12 rfl) (by decide) (by decide)) (g := (mkF m 7 #[.val (.int cc)] [(.int cc)])) rfl (by rw [hml]; rfl) (argsL := [(.int cc)]) (rest := []) (lenOf pd_1 rfl) rfl (Nat.le_of_eq rfl) (hb hby d2_7) (fun _ _ => ⟨rfl, e13, (by decide : 0 + 0 ≤ _), (by decide : 0 + 0 ≤ _)⟩)
  dsimp only [Pt.U, Pt.locs, Pt.cells, Pt.slots] at X14 l14 y14 z14 st14 hQ14
  subst y14 z14
  obtain ⟨rfl, N14q, e14⟩ := hQ14
  have N14 := own_frl l14 N0 N14q
  refine .st st14 ?_
  show OwnGo p e below s _ _ _ T14 (mkF m 10 _ [(.int (1 : Int32))])
  refine .ifNo X14 hx (hb hby d2_10) ((if0 _ _).trans (feq ((by decide) : ¬ ((1 : Int32) = (0 : Int32)))).1) ?_
  obtain ⟨T15, h15, X15, e15, E15, A15, D15, -, st15⟩ := newO X14 hx hZ hown (W_ hw 14 rfl) (W_ hw 15 rfl) (W_ hw 7 rfl) e14 (g := (mkF m 13 #[.val (.int cc)] [])) rfl (hb hby d2_13) (by decide) (by decide)
  obtain ⟨b15, g15⟩ : ∃ z, z = h0.size := ⟨_, rfl⟩
  rw [← g15] at A15 D15 st15
  have g_b15 : n0 ≤ b15 := Nat.le_trans Z_ (Nat.le_of_eq g15.symm)
  have sz_b15 : h0.size ≤ b15 := Nat.le_trans Kp.1 (Nat.le_of_eq g15.symm)
  have O_ := O_.ext E15
  have Kp := Kp.ext E15
  have Z_ : n0 ≤ h15.size := Nat.le_trans Z_ E15.1
  have E_b15 := A15
  have F_value_b15 : Fld Z h15 b15 "java/lang/String" "value" "[B" .null := D15 (Or.inr (W_ hw 28 rfl)) (ty := (.array .byte)) (by decide)
  have F_coder_b15 : Fld Z h15 b15 "java/lang/String" "coder" "B" (.int (0 : Int32)) := D15 (Or.inr (W_ hw 30 rfl)) (ty := .byte) (by decide)
  refine .st st15 ?_
  show OwnGo p e below s _ _ _ T15 (mkF m 16 _ [(.ref b15)])
  refine .dup X15 hx (hb hby d2_16) rfl ?_
  refine .iloadN X15 hx (hb hby d2_17) rfl ?_
  obtain ⟨_, _, ⟨T16, L16, k16, n16⟩, -, X16, ⟨Lc16, hQ16, l16, y16, z16⟩, st16⟩ := Jvm.LawKit.callS X15 hx (y := (⟨"java/lang/StringLatin1", "toBytes", "(C)[B"⟩ : MethodName)) hown (mvT hZ (W_ hw 16 rfl)) (mvT hZ (W_ hw 17 rfl)) (mvT hZ (W_ hw 12 rfl)) (mvT hZ (W_ hw 18 rfl)) (by decide) (backOf (W := 2) (rmtoB1 l Z a0 hw [] cc h15 n0 Z_ ) hZ (W_ hw 18 rfl) (W_ hw 12 rfl) (by decide) (by decide)) (g := (mkF m 18 #[.val (.int cc)] [(.int cc), (.ref b15), (.ref b15)])) rfl (by rw [hml]; rfl) (argsL := [(.int cc)]) (rest := [(.ref b15), (.ref b15)]) (lenOf pd_2 rfl) rfl (Nat.le_of_eq rfl) (hb hby d2_18) (fun _ _ => ⟨rfl, e15, (by decide : 1 + 1 ≤ _), (by decide : 4 + 1 ≤ _)⟩)
  dsimp only [Pt.U, Pt.locs, Pt.cells, Pt.slots] at X16 l16 y16 z16 st16 hQ16
  subst y16 z16
  obtain ⟨t16, kb16, rfl, N16q, K16, V16, zt16⟩ := hQ16
  have N16 := own_frl l16 N14 N16q
  have ne_b15_t16 : b15 ≠ t16 := Nat.ne_of_lt (Nat.lt_of_lt_of_le E_b15.lt zt16)
  have g_t16 : n0 ≤ t16 := Nat.le_trans Z_ zt16
  have sz_t16 : h0.size ≤ t16 := Nat.le_trans Kp.1 zt16
  have Z_ : n0 ≤ T16.heap.size := Nat.le_trans Z_ K16.1
  have E_b15 := E_b15.keep K16
  have F_value_b15 := F_value_b15.keep K16 nin0
  have F_coder_b15 := F_coder_b15.keep K16 nin0
  have O_ := O_.keep K16 all0
  have Kp := Kp.trans K16 all0
  refine .st st16 ?_
  show OwnGo p e below s _ _ _ T16 (mkF m 21 _ [(.ref t16), (.ref b15), (.ref b15)])
  refine .iconst X16 hx (hb hby d2_21) own_ki0 ?_
  obtain ⟨_, _, ⟨T17, L17, k17, n17⟩, -, X17, ⟨Lc17, hQ17, l17, y17, z17⟩, st17⟩ := X16.specialBack hx (y := (⟨"java/lang/String", "<init>", "([BB)V"⟩ : MethodName)) rfl hown (mvT hZ (W_ hw 20 rfl)) (mvT hZ (W_ hw 21 rfl)) (mvT hZ (W_ hw 23 rfl)) (by decide) (backOf (W := 1) (rminiBB l Z a0 hw [] b15 t16 T16.heap n0 Z_ E_b15 F_value_b15 F_coder_b15 g_b15) hZ (W_ hw 23 rfl) (W_ hw 7 rfl) (by decide) (by decide)) (g := (mkF m 22 #[.val (.int cc)] [(.int (0 : Int32)), (.ref t16), (.ref b15), (.ref b15)])) rfl (by rw [hml]; rfl) (Steps.refl _) (a := b15) (argsL := [(.ref t16), (.int (0 : Int32))]) (rest := [(.ref b15)]) (lenOf pd_3 rfl) rfl (Nat.le_of_eq rfl) (hb hby d2_22) (fun _ _ => ⟨rfl, rfl, (by decide : 2 + 0 ≤ _), (by decide : 5 + 0 ≤ _)⟩)
  dsimp only [Pt.U, Pt.locs, Pt.cells, Pt.slots] at X17 l17 y17 z17 st17 hQ17
  subst y17 z17
  obtain ⟨rfl, N17q, K17, Ex17, Fc17, Fv17⟩ := hQ17
  have N17 := own_frl l17 N16 N17q
  have Z_ : n0 ≤ T17.heap.size := Nat.le_trans Z_ K17.1
  have E_b15 := E_b15.keep K17
  have V16 := V16.keep K17 (ninS (Ne.symm ne_b15_t16) nin0)
  have O_ := O_.keep K17 (allS g_b15 all0)
  have Kp := Kp.trans K17 (allS (Or.inr sz_b15) all0)
  refine .st (fun _ => st17.trans) ?_
  show OwnGo p e below s _ _ _ T17 (mkF m 25 _ [(.ref b15)])
  exact OwnGo.ret X17 hx hret hlk rfl (Or.inr (Or.inr (Or.inr (Or.inr ⟨rfl, rfl, rfl⟩)))) (hb hby d2_25) (by show QvalueOfC Z cc zc h0 n0 _ T17.heap _; exact ⟨b15, t16, kb16, rfl, N17, Kp, Ex17, Fc17, Fv17, V16, sz_b15, sz_t16⟩) (by decide) (by decide)
def Qpcheck (Z : State) (i : Int32) (n : Int32) (f : Value) (h0 : Heap) (n0 : Nat) (v : Option Value) (h : Heap) (L : List Loc) : Prop := v = some (.int i) ∧ Fr n0 L ∧ h = h0
theorem rmpcheck (l : Launch) (Z : State) (a0 : Array Value) (hw : own_tb a0 Z) (ws : List Jvm.Cond) (i : Int32) (n : Int32) (f : Value) (h0 : Heap) (n0 : Nat) (Z0 : n0 ≤ h0.size) (rf_f : f.isRef = true) (hi : ¬ i < (0 : Int32)) (hn : i < n) :
    OwnMet l (⟨"jdk/internal/util/Preconditions", "checkIndex", "(IILjava/util/function/BiFunction;)I"⟩ : MethodName) jdk_41_method_11_code 3 (some .int) ws ({ frames := 0, cells := 0, slots := 0, locals := 0 } : Room) #[(.int i), (.int n), f] Z h0 (Qpcheck Z i n f h0 n0) := by
  refine own_met (plainFor_of_name pn_32) ?_
  intro p e s m below meth c s₁ X0 hx hby hml hret hlk hown hnm hZ e0
  have N0 := Fr.nil n0
  have Z_ := Z0
  refine OwnGo.cast (ef_pcheck m i n f (own_cat rf_f)) ?_
  show OwnGo p e below s _ _ _ s₁ (mkF m 0 _ [])
  refine .iloadN X0 hx (hb hby d32_0) rfl ?_
  refine .ifNo X0 hx (hb hby d32_1) ((if0 _ _).trans (flt (hi : ¬ (i < (0 : Int32)))).1) ?_
  refine .iloadN X0 hx (hb hby d32_4) rfl ?_
  refine .iloadN X0 hx (hb hby d32_5) rfl ?_
  refine .icmpYes (pc := 6) X0 hx 16 (hb hby d32_6) (tlt (hn : i < n)).1 (by decide) (by decide) ?_
  refine .iloadN X0 hx (hb hby d32_16) rfl ?_
  exact OwnGo.ret X0 hx hret hlk rfl (Or.inl ⟨rfl, Or.inl rfl, _, rfl⟩) (hb hby d32_17) (by show Qpcheck Z i n f h0 n0 _ s₁.heap _; rw [e0]; exact ⟨rfl, N0, rfl⟩) (by decide) (by decide)
def Qscheck (Z : State) (i : Int32) (n : Int32) (fmv : Value) (h0 : Heap) (n0 : Nat) (v : Option Value) (h : Heap) (L : List Loc) : Prop := v = none ∧ Fr n0 L ∧ h = h0
theorem rmscheck (l : Launch) (Z : State) (a0 : Array Value) (hw : own_tb a0 Z) (ws : List Jvm.Cond) (i : Int32) (n : Int32) (fmv : Value) (h0 : Heap) (n0 : Nat) (Z0 : n0 ≤ h0.size) (O_ : Old Z n0 h0) (S_SF : Sta Z Z.heap "jdk/internal/util/Preconditions" "SIOOBE_FORMATTER" "Ljava/util/function/BiFunction;" fmv) (rf_fmv : fmv.isRef = true) (hi : ¬ i < (0 : Int32)) (hn : i < n) :
    OwnMet l (⟨"java/lang/String", "checkIndex", "(II)V"⟩ : MethodName) jdk_42_method_155_code 2 none ws ({ frames := 1, cells := 0, slots := 0, locals := 14 } : Room) #[(.int i), (.int n)] Z h0 (Qscheck Z i n fmv h0 n0) := by
  refine own_met (plainFor_of_name pn_15) ?_
  intro p e s m below meth c s₁ X0 hx hby hml hret hlk hown hnm hZ e0
  have N0 := Fr.nil n0
  have Z_ := Z0
  refine OwnGo.cast (ef_scheck m i n) ?_
  show OwnGo p e below s _ _ _ s₁ (mkF m 0 _ [])
  refine .iloadN X0 hx (hb hby d31_0) rfl ?_
  refine .iloadN X0 hx (hb hby d31_1) rfl ?_
  obtain ⟨T18, X18, e18, st18⟩ := getS2 X0 hx hZ hown (host := "") (Or.inl (W_ hw 176 rfl)) Via.refl e0 (S_SF.ext O_.2) (g := (mkF m 2 #[.val (.int i), .val (.int n)] [(.int n), (.int i)])) rfl (hb hby d31_2)
  refine .st st18 ?_
  show OwnGo p e below s _ _ _ T18 (mkF m 5 _ [fmv, (.int n), (.int i)])
  obtain ⟨_, _, ⟨T19, L19, k19, n19⟩, -, X19, ⟨Lc19, hQ19, l19, y19, z19⟩, st19⟩ := Jvm.LawKit.callS X18 hx (y := (⟨"jdk/internal/util/Preconditions", "checkIndex", "(IILjava/util/function/BiFunction;)I"⟩ : MethodName)) hown (mvT hZ (W_ hw 178 rfl)) (mvT hZ (W_ hw 179 rfl)) (mvT hZ (W_ hw 177 rfl)) (mvT hZ (W_ hw 180 rfl)) (by decide) (backOf (W := 0) (rmpcheck l Z a0 hw [] i n fmv h0 n0 Z_ rf_fmv hi hn) hZ (W_ hw 180 rfl) (W_ hw 177 rfl) (by decide) (by decide)) (g := (mkF m 5 #[.val (.int i), .val (.int n)] [fmv, (.int n), (.int i)])) rfl (by rw [hml]; rfl) (argsL := [(.int i), (.int n), fmv]) (rest := []) (lenOf pd_4 rfl) rfl (Nat.le_of_eq rfl) (hb hby d31_5) (fun _ _ => ⟨rfl, e18, (by decide : 0 + 0 ≤ _), (by decide : 0 + 0 ≤ _)⟩)
  dsimp only [Pt.U, Pt.locs, Pt.cells, Pt.slots] at X19 l19 y19 z19 st19 hQ19
  subst y19 z19
  obtain ⟨rfl, N19q, e19⟩ := hQ19
  have N19 := own_frl l19 N0 N19q
  refine .st st19 ?_
  show OwnGo p e below s _ _ _ T19 (mkF m 8 _ [(.int i)])
  refine .st (fun _ => XS.pop X19.here hx rfl (hb hby d31_8) rfl rfl) ?_
  show OwnGo p e below s _ _ _ T19 (mkF m 9 _ [])
  exact OwnGo.retV X19 hx hret hlk (hb hby d31_9) (by show Qscheck Z i n fmv h0 n0 _ T19.heap _; rw [e19]; exact ⟨rfl, N19, rfl⟩) (by decide) (by decide)
def QlcharAt (Z : State) (t : Addr) (kc : ClassId) (z : Int32) (vs : List Value) (i : Int32) (b : Int32) (ch : Int32) (fmv : Value) (h0 : Heap) (n0 : Nat) (v : Option Value) (h : Heap) (L : List Loc) : Prop := v = some (.int ch) ∧ Fr n0 L ∧ h = h0
theorem rmlcharAt (l : Launch) (Z : State) (a0 : Array Value) (hw : own_tb a0 Z) (ws : List Jvm.Cond) (t : Addr) (kc : ClassId) (z : Int32) (vs : List Value) (i : Int32) (b : Int32) (ch : Int32) (fmv : Value) (h0 : Heap) (n0 : Nat) (Z0 : n0 ≤ h0.size) (O_ : Old Z n0 h0) (S_SF : Sta Z Z.heap "jdk/internal/util/Preconditions" "SIOOBE_FORMATTER" "Ljava/util/function/BiFunction;" fmv) (rf_fmv : fmv.isRef = true) (V : Arv Z h0 t kc .byte z vs (.int (0 : Int32))) (hin : ¬ i < (0 : Int32) ∧ i < z) (hat : vs.getD i.toNatClampNeg (.int (0 : Int32)) = .int b) (hch : (b &&& (255 : Int32)).toUInt32.toUInt16.toUInt32.toInt32 = ch) (hcc : nar .char ch = ch) :
    OwnMet l (⟨"java/lang/StringLatin1", "charAt", "([BI)C"⟩ : MethodName) jdk_43_method_2_code 2 (some .char) ws ({ frames := 2, cells := 0, slots := 0, locals := 27 } : Room) #[(.ref t), (.int i)] Z h0 (QlcharAt Z t kc z vs i b ch fmv h0 n0) := by
  refine own_met (plainFor_of_name pn_3) ?_
  intro p e s m below meth c s₁ X0 hx hby hml hret hlk hown hnm hZ e0
  have N0 := Fr.nil n0
  have Z_ := Z0
  refine OwnGo.cast (ef_lcharAt m t i) ?_
  show OwnGo p e below s _ _ _ s₁ (mkF m 0 _ [])
  refine .iloadN X0 hx (hb hby d30_0) rfl ?_
  refine .aloadN X0 hx (hb hby d30_1) rfl rfl ?_
  obtain ⟨cl20, Ar20, -, S20, N20, -, -⟩ := id V
  refine .st (fun _ => own_len hZ (len_of S20 N20) Ar20 X0 e0 hx (g := (mkF m 2 #[.val (.ref t), .val (.int i)] [(.ref t), (.int i)])) rfl rfl (hb hby d30_2) _) ?_
  show OwnGo p e below s _ _ _ s₁ (mkF m 3 _ [(.int z), (.int i)])
  obtain ⟨_, _, ⟨T21, L21, k21, n21⟩, -, X21, ⟨Lc21, hQ21, l21, y21, z21⟩, st21⟩ := Jvm.LawKit.callS X0 hx (y := (⟨"java/lang/String", "checkIndex", "(II)V"⟩ : MethodName)) hown (mvT hZ (W_ hw 173 rfl)) (mvT hZ (W_ hw 174 rfl)) (mvT hZ (W_ hw 7 rfl)) (mvT hZ (W_ hw 175 rfl)) (by decide) (backOf (W := 0) (rmscheck l Z a0 hw [] i z fmv h0 n0 Z_ O_ S_SF rf_fmv hin.1 hin.2) hZ (W_ hw 175 rfl) (W_ hw 7 rfl) (by decide) (by decide)) (g := (mkF m 3 #[.val (.ref t), .val (.int i)] [(.int z), (.int i)])) rfl (by rw [hml]; rfl) (argsL := [(.int i), (.int z)]) (rest := []) (lenOf pd_5 rfl) rfl (Nat.le_of_eq rfl) (hb hby d30_3) (fun _ _ => ⟨rfl, e0, (by decide : 0 + 0 ≤ _), (by decide : 0 + 0 ≤ _)⟩)
  dsimp only [Pt.U, Pt.locs, Pt.cells, Pt.slots] at X21 l21 y21 z21 st21 hQ21
  subst y21 z21
  obtain ⟨rfl, N21q, e21⟩ := hQ21
  have N21 := own_frl l21 N0 N21q
  refine .st st21 ?_
  show OwnGo p e below s _ _ _ T21 (mkF m 6 _ [])
  refine .aloadN X21 hx (hb hby d30_6) rfl rfl ?_
  refine .iloadN X21 hx (hb hby d30_7) rfl ?_
  obtain ⟨cl22, Ar22, -, S22, -, H22, -⟩ := id V
  have hin22 : ¬ (i < 0 ∨ cl22.slots.size ≤ (i).toNatClampNeg) := inb_of S22 hin
  refine .st (fun _ => X21.baloadBytes hx (j := i) (v := (.int b)) (by first | exact Ar22.1 | (rw [e21]; exact Ar22.1)) (State.isArrayOf_alike hZ.alike Ar22.2.1) Ar22.2.2 hin22 (H22.at hin22 hat) (g := (mkF m 8 #[.val (.ref t), .val (.int i)] [(.int i), (.ref t)])) rfl rfl (hb hby d30_8) _) ?_
  show OwnGo p e below s _ _ _ T21 (mkF m 9 _ [(.int b)])
  refine .sipush X21 hx (hb hby d30_9) own_ks255 ?_
  refine .st (fun _ => XS.iand X21.here hx rfl (hb hby d30_12) rfl) ?_
  show OwnGo p e below s _ _ _ T21 (mkF m 13 _ [(.int (b &&& (255 : Int32)))])
  refine .st (fun _ => XS.i2c X21.here hx rfl (hb hby d30_13) rfl) ?_
  show OwnGo p e below s _ _ _ T21 (mkF m 14 _ [(.int ((b &&& (255 : Int32)).toUInt32.toUInt16.toUInt32.toInt32))])
  rw [hch]
  show OwnGo p e below s _ _ _ T21 (mkF m 14 _ [(.int ch)])
  exact OwnGo.retN X21 hx (t := .char) hret hlk (by simp) (hb hby d30_14) (by show QlcharAt Z t kc z vs i b ch fmv h0 n0 _ T21.heap _; rw [e21]; exact ⟨by rw [hcc], N21, rfl⟩) (by decide) (by decide)
def QcharAt (Z : State) (a : Addr) (t : Addr) (kc : ClassId) (z : Int32) (vs : List Value) (i : Int32) (b : Int32) (ch : Int32) (zc : Int32) (fmv : Value) (h0 : Heap) (n0 : Nat) (v : Option Value) (h : Heap) (L : List Loc) : Prop := v = some (.int ch) ∧ Fr n0 L ∧ h = h0
theorem rmcharAt (l : Launch) (Z : State) (a0 : Array Value) (hw : own_tb a0 Z) (ws : List Jvm.Cond) (a : Addr) (t : Addr) (kc : ClassId) (z : Int32) (vs : List Value) (i : Int32) (b : Int32) (ch : Int32) (zc : Int32) (fmv : Value) (h0 : Heap) (n0 : Nat) (Z0 : n0 ≤ h0.size) (O_ : Old Z n0 h0) (S_CS : Sta Z Z.heap "java/lang/String" "COMPACT_STRINGS" "Z" (.int zc)) (P_CS : ¬ zc = (0 : Int32)) (S_SF : Sta Z Z.heap "jdk/internal/util/Preconditions" "SIOOBE_FORMATTER" "Ljava/util/function/BiFunction;" fmv) (rf_fmv : fmv.isRef = true) (E_a : Exa Z h0 a "java/lang/String") (Fc : Fld Z h0 a "java/lang/String" "coder" "B" (.int (0 : Int32))) (Fv : Fld Z h0 a "java/lang/String" "value" "[B" (.ref t)) (V : Arv Z h0 t kc .byte z vs (.int (0 : Int32))) (hin : ¬ i < (0 : Int32) ∧ i < z) (hat : vs.getD i.toNatClampNeg (.int (0 : Int32)) = .int b) (hch : (b &&& (255 : Int32)).toUInt32.toUInt16.toUInt32.toInt32 = ch) (hcc : nar .char ch = ch) :
    OwnMet l (⟨"java/lang/String", "charAt", "(I)C"⟩ : MethodName) jdk_42_method_56_code 2 (some .char) ws ({ frames := 3, cells := 0, slots := 0, locals := 40 } : Room) #[(.ref a), (.int i)] Z h0 (QcharAt Z a t kc z vs i b ch zc fmv h0 n0) := by
  refine own_met (plainFor_of_name pn_15) ?_
  intro p e s m below meth c s₁ X0 hx hby hml hret hlk hown hnm hZ e0
  have N0 := Fr.nil n0
  have Z_ := Z0
  refine OwnGo.cast (ef_charAt m a i) ?_
  show OwnGo p e below s _ _ _ s₁ (mkF m 0 _ [])
  refine .aloadN X0 hx (hb hby d28_0) rfl rfl ?_
  obtain ⟨cq23, kq23, q23a, q23b, q23c⟩ := isOf hZ e0 E_a
  obtain ⟨_, _, ⟨T23, L23, k23, n23⟩, -, X23, ⟨Lc23, hQ23, l23, y23, z23⟩, st23⟩ := X0.virtualBack hx (y := (⟨"java/lang/String", "isLatin1", "()Z"⟩ : MethodName)) (z := (⟨"java/lang/String", "isLatin1", "()Z"⟩ : MethodName)) hown (mvT hZ (W_ hw 165 rfl)) (mvT hZ (W_ hw 166 rfl)) (notFace_of_selects (args := #[]) (mvT hZ (W_ hw 168 rfl))) (mvT hZ (W_ hw 168 rfl)) (mvT hZ (W_ hw 167 rfl)) (by decide) (backOf (W := 0) (rmisLatin1 l Z a0 hw [] a zc h0 n0 Z_ O_ S_CS P_CS Fc) hZ (W_ hw 169 rfl) (W_ hw 7 rfl) (by decide) (by decide)) q23a q23c (g := (mkF m 1 #[.val (.ref a), .val (.int i)] [(.ref a)])) rfl (by rw [hml]; rfl) (Steps.refl _) (argsL := []) (rest := []) (lenOf pd_6 rfl) rfl (Nat.le_of_eq rfl) (hb hby d28_1) (fun _ _ => ⟨rfl, e0, (by decide : 0 + 0 ≤ _), (by decide : 0 + 0 ≤ _)⟩)
  dsimp only [Pt.U, Pt.locs, Pt.cells, Pt.slots] at X23 l23 y23 z23 st23 hQ23
  subst y23 z23
  obtain ⟨rfl, N23q, e23⟩ := hQ23
  have N23 := own_frl l23 N0 N23q
  refine .st (fun _ => st23.trans) ?_
  show OwnGo p e below s _ _ _ T23 (mkF m 4 _ [(.int (1 : Int32))])
  refine .ifNo X23 hx (hb hby d28_4) ((if0 _ _).trans (feq ((by decide) : ¬ ((1 : Int32) = (0 : Int32)))).1) ?_
  refine .aloadN X23 hx (hb hby d28_7) rfl rfl ?_
  obtain ⟨T24, X24, e24, st24⟩ := getF X23 hx hZ hown (host := "") (Or.inl (W_ hw 27 rfl)) Via.refl e23 Fv (g := (mkF m 8 #[.val (.ref a), .val (.int i)] [(.ref a)])) rfl rfl (hb hby d28_8)
  refine .st st24 ?_
  show OwnGo p e below s _ _ _ T24 (mkF m 11 _ [(.ref t)])
  refine .iloadN X24 hx (hb hby d28_11) rfl ?_
  obtain ⟨_, _, ⟨T25, L25, k25, n25⟩, -, X25, ⟨Lc25, hQ25, l25, y25, z25⟩, st25⟩ := Jvm.LawKit.callS X24 hx (y := (⟨"java/lang/StringLatin1", "charAt", "([BI)C"⟩ : MethodName)) hown (mvT hZ (W_ hw 170 rfl)) (mvT hZ (W_ hw 171 rfl)) (mvT hZ (W_ hw 12 rfl)) (mvT hZ (W_ hw 172 rfl)) (by decide) (backOf (W := 0) (rmlcharAt l Z a0 hw [] t kc z vs i b ch fmv h0 n0 Z_ O_ S_SF rf_fmv V hin hat hch hcc) hZ (W_ hw 172 rfl) (W_ hw 12 rfl) (by decide) (by decide)) (g := (mkF m 12 #[.val (.ref a), .val (.int i)] [(.int i), (.ref t)])) rfl (by rw [hml]; rfl) (argsL := [(.ref t), (.int i)]) (rest := []) (lenOf pd_7 rfl) rfl (Nat.le_of_eq rfl) (hb hby d28_12) (fun _ _ => ⟨rfl, e24, (by decide : 0 + 0 ≤ _), (by decide : 0 + 0 ≤ _)⟩)
  dsimp only [Pt.U, Pt.locs, Pt.cells, Pt.slots] at X25 l25 y25 z25 st25 hQ25
  subst y25 z25
  obtain ⟨rfl, N25q, e25⟩ := hQ25
  have N25 := own_frl l25 N23 N25q
  refine .st st25 ?_
  show OwnGo p e below s _ _ _ T25 (mkF m 15 _ [(.int ch)])
  exact OwnGo.retN X25 hx (t := .char) hret hlk (by simp) (hb hby d28_15) (by show QcharAt Z a t kc z vs i b ch zc fmv h0 n0 _ T25.heap _; rw [e25]; exact ⟨by rw [hcc], N25, rfl⟩) (by decide) (by decide)
def QputC0 (Z : State) (t : Addr) (kc : ClassId) (cc : Int32) (z : Int32) (vs : List Value) (h0 : Heap) (n0 : Nat) (v : Option Value) (h : Heap) (L : List Loc) : Prop := v = none ∧ Fr n0 L ∧ Keep h0 h [t] ∧ Arv Z h t kc .byte z ((vs.set 0 (.int (own_lo cc))).set 1 (.int (own_hi cc))) (.int (0 : Int32))
theorem rmputC0 (l : Launch) (Z : State) (a0 : Array Value) (hw : own_tb a0 Z) (ws : List Jvm.Cond) (t : Addr) (kc : ClassId) (cc : Int32) (z : Int32) (vs : List Value) (h0 : Heap) (n0 : Nat) (Z0 : n0 ≤ h0.size) (O_ : Old Z n0 h0) (S_AD : Sta Z Z.heap "java/lang/StringUTF16" "$assertionsDisabled" "Z" (.int (1 : Int32))) (S_HB : Sta Z Z.heap "java/lang/StringUTF16" "HI_BYTE_SHIFT" "I" (.int (0 : Int32))) (S_LB : Sta Z Z.heap "java/lang/StringUTF16" "LO_BYTE_SHIFT" "I" (.int (8 : Int32))) (V_t : Arv Z h0 t kc .byte z vs (.int (0 : Int32))) (g_t : n0 ≤ t) (hz : ¬ (0 : Int32) < 0 ∧ (0 : Int32) < z) (hz' : ¬ (1 : Int32) < 0 ∧ (1 : Int32) < z) (hl : 1 < vs.length) :
    OwnMet l (⟨"java/lang/StringUTF16", "putChar", "([BII)V"⟩ : MethodName) jdk_52_method_4_code 3 none ws ({ frames := 0, cells := 0, slots := 0, locals := 0 } : Room) #[(.ref t), (.int (0 : Int32)), (.int cc)] Z h0 (QputC0 Z t kc cc z vs h0 n0) := by
  refine own_met (plainFor_of_name pn_50) ?_
  intro p e s m below meth c s₁ X0 hx hby hml hret hlk hown hnm hZ e0
  have N0 := Fr.nil n0
  have Z_ := Z0
  refine OwnGo.cast (ef_putC0 m t (0 : Int32) cc) ?_
  show OwnGo p e below s _ _ _ s₁ (mkF m 0 _ [])
  have Kp : Keep h0 h0 [t] := Keep.refl h0 [t]
  obtain ⟨T26, X26, e26, st26⟩ := getS2 X0 hx hZ hown (host := "") (Or.inl (W_ hw 257 rfl)) Via.refl e0 (S_AD.ext O_.2) (g := (mkF m 0 #[.val (.ref t), .val (.int (0 : Int32)), .val (.int cc)] [])) rfl (hb hby d50_0)
  refine .st st26 ?_
  show OwnGo p e below s _ _ _ T26 (mkF m 3 _ [(.int (1 : Int32))])
  refine .ifYes (pc := 3) X26 hx 28 (hb hby d50_3) ((if0 _ _).trans (feq ((by decide) : ¬ ((1 : Int32) = (0 : Int32)))).2) (by decide) (by decide) ?_
  refine .iloadN X26 hx (hb hby d50_28) rfl ?_
  refine .iconst X26 hx (hb hby d50_29) own_ki1 ?_
  refine .st (fun _ => XS.ishl X26.here hx rfl (hb hby d50_30) rfl) ?_
  show OwnGo p e below s _ _ _ T26 (mkF m 31 _ [(.int ((0 : Int32) <<< ((1 : Int32) &&& 31)))])
  rw [show ((0 : Int32) <<< ((1 : Int32) &&& 31)) = (0 : Int32) from by decide]
  show OwnGo p e below s _ _ _ T26 (mkF m 31 _ [(.int (0 : Int32))])
  refine .istoreN X26 hx (hb hby d50_31) (L' := #[.val (.ref t), .val (.int (0 : Int32)), .val (.int cc)]) rfl ?_
  refine .aloadN X26 hx (hb hby d50_32) rfl rfl ?_
  refine .iloadN X26 hx (hb hby d50_33) rfl ?_
  refine .iinc X26 hx (hb hby d50_34) rfl own_ka0_1 (L' := #[.val (.ref t), .val (.int (1 : Int32)), .val (.int cc)]) rfl ?_
  refine .iloadN X26 hx (hb hby d50_37) rfl ?_
  obtain ⟨T27, X27, e27, st27⟩ := getS2 X26 hx hZ hown (host := "") (Or.inl (W_ hw 258 rfl)) Via.refl e26 (S_HB.ext O_.2) (g := (mkF m 38 #[.val (.ref t), .val (.int (1 : Int32)), .val (.int cc)] [(.int cc), (.int (0 : Int32)), (.ref t)])) rfl (hb hby d50_38)
  refine .st st27 ?_
  show OwnGo p e below s _ _ _ T27 (mkF m 41 _ [(.int (0 : Int32)), (.int cc), (.int (0 : Int32)), (.ref t)])
  refine .st (fun _ => XS.ishr X27.here hx rfl (hb hby d50_41) rfl) ?_
  show OwnGo p e below s _ _ _ T27 (mkF m 42 _ [(.int (cc >>> ((0 : Int32) &&& 31))), (.int (0 : Int32)), (.ref t)])
  refine .st (fun _ => XS.i2b X27.here hx rfl (hb hby d50_42) rfl) ?_
  show OwnGo p e below s _ _ _ T27 (mkF m 43 _ [(.int ((cc >>> ((0 : Int32) &&& 31)).toInt8.toInt32)), (.int (0 : Int32)), (.ref t)])
  show OwnGo p e below s _ _ _ T27 (mkF m 43 _ [(.int (own_lo cc)), (.int (0 : Int32)), (.ref t)])
  obtain ⟨cl28, Ar28, q28, S28, N28, H28, G28⟩ := id V_t
  obtain ⟨T28, h28, X28, e28, W28, st28⟩ := stB X27 hx hZ e27 Ar28 (j := (0 : Int32)) (inb_of S28 hz) (g := (mkF m 43 #[.val (.ref t), .val (.int (1 : Int32)), .val (.int cc)] [(.int (own_lo cc)), (.int (0 : Int32)), (.ref t)])) rfl rfl (hb hby d50_43)
  have V' := Arv.set Ar28 q28 S28 N28 H28 G28 (fits_nar_byte _) W28 0 rfl (Nat.lt_of_succ_lt hl)
  rw [show (own_lo cc).toInt8.toInt32 = (own_lo cc) from (own_nb _)] at V'
  have O_ := O_.wr W28 g_t
  have Kp := Kp.wr W28 (Or.inl (List.mem_of_getElem? (i := 0) rfl))
  have N28 := Fr.snoc X28 N0 g_t
  have Z_ : n0 ≤ h28.size := by rw [W28.size]; exact Z_
  have V_t := V'
  refine .st st28 ?_
  show OwnGo p e below s _ _ _ T28 (mkF m 44 _ [])
  refine .aloadN X28 hx (hb hby d50_44) rfl rfl ?_
  refine .iloadN X28 hx (hb hby d50_45) rfl ?_
  refine .iloadN X28 hx (hb hby d50_46) rfl ?_
  obtain ⟨T29, X29, e29, st29⟩ := getS2 X28 hx hZ hown (host := "") (Or.inl (W_ hw 259 rfl)) Via.refl e28 (S_LB.ext O_.2) (g := (mkF m 47 #[.val (.ref t), .val (.int (1 : Int32)), .val (.int cc)] [(.int cc), (.int (1 : Int32)), (.ref t)])) rfl (hb hby d50_47)
  refine .st st29 ?_
  show OwnGo p e below s _ _ _ T29 (mkF m 50 _ [(.int (8 : Int32)), (.int cc), (.int (1 : Int32)), (.ref t)])
  refine .st (fun _ => XS.ishr X29.here hx rfl (hb hby d50_50) rfl) ?_
  show OwnGo p e below s _ _ _ T29 (mkF m 51 _ [(.int (cc >>> ((8 : Int32) &&& 31))), (.int (1 : Int32)), (.ref t)])
  refine .st (fun _ => XS.i2b X29.here hx rfl (hb hby d50_51) rfl) ?_
  show OwnGo p e below s _ _ _ T29 (mkF m 52 _ [(.int ((cc >>> ((8 : Int32) &&& 31)).toInt8.toInt32)), (.int (1 : Int32)), (.ref t)])
  show OwnGo p e below s _ _ _ T29 (mkF m 52 _ [(.int (own_hi cc)), (.int (1 : Int32)), (.ref t)])
  obtain ⟨cl30, Ar30, q30, S30, N30, H30, G30⟩ := id V_t
  obtain ⟨T30, h30, X30, e30, W30, st30⟩ := stB X29 hx hZ e29 Ar30 (j := (1 : Int32)) (inb_of S30 hz') (g := (mkF m 52 #[.val (.ref t), .val (.int (1 : Int32)), .val (.int cc)] [(.int (own_hi cc)), (.int (1 : Int32)), (.ref t)])) rfl rfl (hb hby d50_52)
  have V' := Arv.set Ar30 q30 S30 N30 H30 G30 (fits_nar_byte _) W30 1 rfl (by rw [List.length_set]; exact hl)
  rw [show (own_hi cc).toInt8.toInt32 = (own_hi cc) from (own_nb _)] at V'
  have O_ := O_.wr W30 g_t
  have Kp := Kp.wr W30 (Or.inl (List.mem_of_getElem? (i := 0) rfl))
  have N30 := Fr.snoc X30 N28 g_t
  have Z_ : n0 ≤ h30.size := by rw [W30.size]; exact Z_
  have V_t := V'
  refine .st st30 ?_
  show OwnGo p e below s _ _ _ T30 (mkF m 53 _ [])
  exact OwnGo.retV X30 hx hret hlk (hb hby d50_53) (by show QputC0 Z t kc cc z vs h0 n0 _ T30.heap _; rw [e30]; exact ⟨rfl, N30, Kp, V_t⟩) (by decide) (by decide)
def QgetC0 (Z : State) (t : Addr) (kc : ClassId) (cc : Int32) (z : Int32) (vs : List Value) (h0 : Heap) (n0 : Nat) (v : Option Value) (h : Heap) (L : List Loc) : Prop := v = some (.int cc) ∧ Fr n0 L ∧ h = h0
theorem rmgetC0 (l : Launch) (Z : State) (a0 : Array Value) (hw : own_tb a0 Z) (ws : List Jvm.Cond) (t : Addr) (kc : ClassId) (cc : Int32) (z : Int32) (vs : List Value) (h0 : Heap) (n0 : Nat) (Z0 : n0 ≤ h0.size) (O_ : Old Z n0 h0) (S_AD : Sta Z Z.heap "java/lang/StringUTF16" "$assertionsDisabled" "Z" (.int (1 : Int32))) (S_HB : Sta Z Z.heap "java/lang/StringUTF16" "HI_BYTE_SHIFT" "I" (.int (0 : Int32))) (S_LB : Sta Z Z.heap "java/lang/StringUTF16" "LO_BYTE_SHIFT" "I" (.int (8 : Int32))) (V_t : Arv Z h0 t kc .byte z vs (.int (0 : Int32))) (hz : ¬ (0 : Int32) < 0 ∧ (0 : Int32) < z) (hz' : ¬ (1 : Int32) < 0 ∧ (1 : Int32) < z) (ha : vs.getD 0 (.int (0 : Int32)) = .int (own_lo cc)) (ha' : vs.getD 1 (.int (0 : Int32)) = .int (own_hi cc)) (P_ : own_u cc) :
    OwnMet l (⟨"java/lang/StringUTF16", "getChar", "([BI)C"⟩ : MethodName) jdk_52_method_5_code 2 (some .char) ws ({ frames := 0, cells := 0, slots := 0, locals := 0 } : Room) #[(.ref t), (.int (0 : Int32))] Z h0 (QgetC0 Z t kc cc z vs h0 n0) := by
  refine own_met (plainFor_of_name pn_50) ?_
  intro p e s m below meth c s₁ X0 hx hby hml hret hlk hown hnm hZ e0
  have N0 := Fr.nil n0
  have Z_ := Z0
  refine OwnGo.cast (ef_getC0 m t (0 : Int32)) ?_
  show OwnGo p e below s _ _ _ s₁ (mkF m 0 _ [])
  obtain ⟨T31, X31, e31, st31⟩ := getS2 X0 hx hZ hown (host := "") (Or.inl (W_ hw 257 rfl)) Via.refl e0 (S_AD.ext O_.2) (g := (mkF m 0 #[.val (.ref t), .val (.int (0 : Int32))] [])) rfl (hb hby d51_0)
  refine .st st31 ?_
  show OwnGo p e below s _ _ _ T31 (mkF m 3 _ [(.int (1 : Int32))])
  refine .ifYes (pc := 3) X31 hx 28 (hb hby d51_3) ((if0 _ _).trans (feq ((by decide) : ¬ ((1 : Int32) = (0 : Int32)))).2) (by decide) (by decide) ?_
  refine .iloadN X31 hx (hb hby d51_28) rfl ?_
  refine .iconst X31 hx (hb hby d51_29) own_ki1 ?_
  refine .st (fun _ => XS.ishl X31.here hx rfl (hb hby d51_30) rfl) ?_
  show OwnGo p e below s _ _ _ T31 (mkF m 31 _ [(.int ((0 : Int32) <<< ((1 : Int32) &&& 31)))])
  rw [show ((0 : Int32) <<< ((1 : Int32) &&& 31)) = (0 : Int32) from by decide]
  show OwnGo p e below s _ _ _ T31 (mkF m 31 _ [(.int (0 : Int32))])
  refine .istoreN X31 hx (hb hby d51_31) (L' := #[.val (.ref t), .val (.int (0 : Int32))]) rfl ?_
  refine .aloadN X31 hx (hb hby d51_32) rfl rfl ?_
  refine .iloadN X31 hx (hb hby d51_33) rfl ?_
  refine .iinc X31 hx (hb hby d51_34) rfl own_ka0_1 (L' := #[.val (.ref t), .val (.int (1 : Int32))]) rfl ?_
  obtain ⟨cl32, Ar32, -, S32, -, H32, -⟩ := id V_t
  have hin32 : ¬ ((0 : Int32) < 0 ∨ cl32.slots.size ≤ ((0 : Int32)).toNatClampNeg) := inb_of S32 hz
  refine .st (fun _ => X31.baloadBytes hx (j := (0 : Int32)) (v := (.int (own_lo cc))) (by first | exact Ar32.1 | (rw [e31]; exact Ar32.1)) (State.isArrayOf_alike hZ.alike Ar32.2.1) Ar32.2.2 hin32 (H32.at hin32 ha) (g := (mkF m 37 #[.val (.ref t), .val (.int (1 : Int32))] [(.int (0 : Int32)), (.ref t)])) rfl rfl (hb hby d51_37) _) ?_
  show OwnGo p e below s _ _ _ T31 (mkF m 38 _ [(.int (own_lo cc))])
  refine .sipush X31 hx (hb hby d51_38) own_ks255 ?_
  refine .st (fun _ => XS.iand X31.here hx rfl (hb hby d51_41) rfl) ?_
  show OwnGo p e below s _ _ _ T31 (mkF m 42 _ [(.int ((own_lo cc) &&& (255 : Int32)))])
  obtain ⟨T33, X33, e33, st33⟩ := getS2 X31 hx hZ hown (host := "") (Or.inl (W_ hw 258 rfl)) Via.refl e31 (S_HB.ext O_.2) (g := (mkF m 42 #[.val (.ref t), .val (.int (1 : Int32))] [(.int ((own_lo cc) &&& (255 : Int32)))])) rfl (hb hby d51_42)
  refine .st st33 ?_
  show OwnGo p e below s _ _ _ T33 (mkF m 45 _ [(.int (0 : Int32)), (.int ((own_lo cc) &&& (255 : Int32)))])
  refine .st (fun _ => XS.ishl X33.here hx rfl (hb hby d51_45) rfl) ?_
  show OwnGo p e below s _ _ _ T33 (mkF m 46 _ [(.int (((own_lo cc) &&& (255 : Int32)) <<< ((0 : Int32) &&& 31)))])
  refine .aloadN X33 hx (hb hby d51_46) rfl rfl ?_
  refine .iloadN X33 hx (hb hby d51_47) rfl ?_
  obtain ⟨cl34, Ar34, -, S34, -, H34, -⟩ := id V_t
  have hin34 : ¬ ((1 : Int32) < 0 ∨ cl34.slots.size ≤ ((1 : Int32)).toNatClampNeg) := inb_of S34 hz'
  refine .st (fun _ => X33.baloadBytes hx (j := (1 : Int32)) (v := (.int (own_hi cc))) (by first | exact Ar34.1 | (rw [e33]; exact Ar34.1)) (State.isArrayOf_alike hZ.alike Ar34.2.1) Ar34.2.2 hin34 (H34.at hin34 ha') (g := (mkF m 48 #[.val (.ref t), .val (.int (1 : Int32))] [(.int (1 : Int32)), (.ref t), (.int (((own_lo cc) &&& (255 : Int32)) <<< ((0 : Int32) &&& 31)))])) rfl rfl (hb hby d51_48) _) ?_
  show OwnGo p e below s _ _ _ T33 (mkF m 49 _ [(.int (own_hi cc)), (.int (((own_lo cc) &&& (255 : Int32)) <<< ((0 : Int32) &&& 31)))])
  refine .sipush X33 hx (hb hby d51_49) own_ks255 ?_
  refine .st (fun _ => XS.iand X33.here hx rfl (hb hby d51_52) rfl) ?_
  show OwnGo p e below s _ _ _ T33 (mkF m 53 _ [(.int ((own_hi cc) &&& (255 : Int32))), (.int (((own_lo cc) &&& (255 : Int32)) <<< ((0 : Int32) &&& 31)))])
  obtain ⟨T35, X35, e35, st35⟩ := getS2 X33 hx hZ hown (host := "") (Or.inl (W_ hw 259 rfl)) Via.refl e33 (S_LB.ext O_.2) (g := (mkF m 53 #[.val (.ref t), .val (.int (1 : Int32))] [(.int ((own_hi cc) &&& (255 : Int32))), (.int (((own_lo cc) &&& (255 : Int32)) <<< ((0 : Int32) &&& 31)))])) rfl (hb hby d51_53)
  refine .st st35 ?_
  show OwnGo p e below s _ _ _ T35 (mkF m 56 _ [(.int (8 : Int32)), (.int ((own_hi cc) &&& (255 : Int32))), (.int (((own_lo cc) &&& (255 : Int32)) <<< ((0 : Int32) &&& 31)))])
  refine .st (fun _ => XS.ishl X35.here hx rfl (hb hby d51_56) rfl) ?_
  show OwnGo p e below s _ _ _ T35 (mkF m 57 _ [(.int (((own_hi cc) &&& (255 : Int32)) <<< ((8 : Int32) &&& 31))), (.int (((own_lo cc) &&& (255 : Int32)) <<< ((0 : Int32) &&& 31)))])
  refine .st (fun _ => XS.ior X35.here hx rfl (hb hby d51_57) rfl) ?_
  show OwnGo p e below s _ _ _ T35 (mkF m 58 _ [(.int ((((own_lo cc) &&& (255 : Int32)) <<< ((0 : Int32) &&& 31)) ||| (((own_hi cc) &&& (255 : Int32)) <<< ((8 : Int32) &&& 31))))])
  refine .st (fun _ => XS.i2c X35.here hx rfl (hb hby d51_58) rfl) ?_
  show OwnGo p e below s _ _ _ T35 (mkF m 59 _ [(.int (((((own_lo cc) &&& (255 : Int32)) <<< ((0 : Int32) &&& 31)) ||| (((own_hi cc) &&& (255 : Int32)) <<< ((8 : Int32) &&& 31))).toUInt32.toUInt16.toUInt32.toInt32))])
  rw [own_uch P_]
  show OwnGo p e below s _ _ _ T35 (mkF m 59 _ [(.int cc)])
  exact OwnGo.retN X35 hx (t := .char) hret hlk (by simp) (hb hby d51_59) (by show QgetC0 Z t kc cc z vs h0 n0 _ T35.heap _; rw [e35]; exact ⟨by rw [own_unc P_], N0, rfl⟩) (by decide) (by decide)
def QputC1 (Z : State) (t : Addr) (kc : ClassId) (cc : Int32) (z : Int32) (vs : List Value) (h0 : Heap) (n0 : Nat) (v : Option Value) (h : Heap) (L : List Loc) : Prop := v = none ∧ Fr n0 L ∧ Keep h0 h [t] ∧ Arv Z h t kc .byte z ((vs.set 2 (.int (own_lo cc))).set 3 (.int (own_hi cc))) (.int (0 : Int32))
theorem rmputC1 (l : Launch) (Z : State) (a0 : Array Value) (hw : own_tb a0 Z) (ws : List Jvm.Cond) (t : Addr) (kc : ClassId) (cc : Int32) (z : Int32) (vs : List Value) (h0 : Heap) (n0 : Nat) (Z0 : n0 ≤ h0.size) (O_ : Old Z n0 h0) (S_AD : Sta Z Z.heap "java/lang/StringUTF16" "$assertionsDisabled" "Z" (.int (1 : Int32))) (S_HB : Sta Z Z.heap "java/lang/StringUTF16" "HI_BYTE_SHIFT" "I" (.int (0 : Int32))) (S_LB : Sta Z Z.heap "java/lang/StringUTF16" "LO_BYTE_SHIFT" "I" (.int (8 : Int32))) (V_t : Arv Z h0 t kc .byte z vs (.int (0 : Int32))) (g_t : n0 ≤ t) (hz : ¬ (2 : Int32) < 0 ∧ (2 : Int32) < z) (hz' : ¬ (3 : Int32) < 0 ∧ (3 : Int32) < z) (hl : 3 < vs.length) :
    OwnMet l (⟨"java/lang/StringUTF16", "putChar", "([BII)V"⟩ : MethodName) jdk_52_method_4_code 3 none ws ({ frames := 0, cells := 0, slots := 0, locals := 0 } : Room) #[(.ref t), (.int (1 : Int32)), (.int cc)] Z h0 (QputC1 Z t kc cc z vs h0 n0) := by
  refine own_met (plainFor_of_name pn_50) ?_
  intro p e s m below meth c s₁ X0 hx hby hml hret hlk hown hnm hZ e0
  have N0 := Fr.nil n0
  have Z_ := Z0
  refine OwnGo.cast (ef_putC1 m t (1 : Int32) cc) ?_
  show OwnGo p e below s _ _ _ s₁ (mkF m 0 _ [])
  have Kp : Keep h0 h0 [t] := Keep.refl h0 [t]
  obtain ⟨T36, X36, e36, st36⟩ := getS2 X0 hx hZ hown (host := "") (Or.inl (W_ hw 257 rfl)) Via.refl e0 (S_AD.ext O_.2) (g := (mkF m 0 #[.val (.ref t), .val (.int (1 : Int32)), .val (.int cc)] [])) rfl (hb hby d50_0)
  refine .st st36 ?_
  show OwnGo p e below s _ _ _ T36 (mkF m 3 _ [(.int (1 : Int32))])
  refine .ifYes (pc := 3) X36 hx 28 (hb hby d50_3) ((if0 _ _).trans (feq ((by decide) : ¬ ((1 : Int32) = (0 : Int32)))).2) (by decide) (by decide) ?_
  refine .iloadN X36 hx (hb hby d50_28) rfl ?_
  refine .iconst X36 hx (hb hby d50_29) own_ki1 ?_
  refine .st (fun _ => XS.ishl X36.here hx rfl (hb hby d50_30) rfl) ?_
  show OwnGo p e below s _ _ _ T36 (mkF m 31 _ [(.int ((1 : Int32) <<< ((1 : Int32) &&& 31)))])
  rw [show ((1 : Int32) <<< ((1 : Int32) &&& 31)) = (2 : Int32) from by decide]
  show OwnGo p e below s _ _ _ T36 (mkF m 31 _ [(.int (2 : Int32))])
  refine .istoreN X36 hx (hb hby d50_31) (L' := #[.val (.ref t), .val (.int (2 : Int32)), .val (.int cc)]) rfl ?_
  refine .aloadN X36 hx (hb hby d50_32) rfl rfl ?_
  refine .iloadN X36 hx (hb hby d50_33) rfl ?_
  refine .iinc X36 hx (hb hby d50_34) rfl own_ka2_1 (L' := #[.val (.ref t), .val (.int (3 : Int32)), .val (.int cc)]) rfl ?_
  refine .iloadN X36 hx (hb hby d50_37) rfl ?_
  obtain ⟨T37, X37, e37, st37⟩ := getS2 X36 hx hZ hown (host := "") (Or.inl (W_ hw 258 rfl)) Via.refl e36 (S_HB.ext O_.2) (g := (mkF m 38 #[.val (.ref t), .val (.int (3 : Int32)), .val (.int cc)] [(.int cc), (.int (2 : Int32)), (.ref t)])) rfl (hb hby d50_38)
  refine .st st37 ?_
  show OwnGo p e below s _ _ _ T37 (mkF m 41 _ [(.int (0 : Int32)), (.int cc), (.int (2 : Int32)), (.ref t)])
  refine .st (fun _ => XS.ishr X37.here hx rfl (hb hby d50_41) rfl) ?_
  show OwnGo p e below s _ _ _ T37 (mkF m 42 _ [(.int (cc >>> ((0 : Int32) &&& 31))), (.int (2 : Int32)), (.ref t)])
  refine .st (fun _ => XS.i2b X37.here hx rfl (hb hby d50_42) rfl) ?_
  show OwnGo p e below s _ _ _ T37 (mkF m 43 _ [(.int ((cc >>> ((0 : Int32) &&& 31)).toInt8.toInt32)), (.int (2 : Int32)), (.ref t)])
  show OwnGo p e below s _ _ _ T37 (mkF m 43 _ [(.int (own_lo cc)), (.int (2 : Int32)), (.ref t)])
  obtain ⟨cl38, Ar38, q38, S38, N38, H38, G38⟩ := id V_t
  obtain ⟨T38, h38, X38, e38, W38, st38⟩ := stB X37 hx hZ e37 Ar38 (j := (2 : Int32)) (inb_of S38 hz) (g := (mkF m 43 #[.val (.ref t), .val (.int (3 : Int32)), .val (.int cc)] [(.int (own_lo cc)), (.int (2 : Int32)), (.ref t)])) rfl rfl (hb hby d50_43)
  have V' := Arv.set Ar38 q38 S38 N38 H38 G38 (fits_nar_byte _) W38 2 rfl (Nat.lt_of_succ_lt hl)
  rw [show (own_lo cc).toInt8.toInt32 = (own_lo cc) from (own_nb _)] at V'
  have O_ := O_.wr W38 g_t
  have Kp := Kp.wr W38 (Or.inl (List.mem_of_getElem? (i := 0) rfl))
  have N38 := Fr.snoc X38 N0 g_t
  have Z_ : n0 ≤ h38.size := by rw [W38.size]; exact Z_
  have V_t := V'
  refine .st st38 ?_
  show OwnGo p e below s _ _ _ T38 (mkF m 44 _ [])
  refine .aloadN X38 hx (hb hby d50_44) rfl rfl ?_
  refine .iloadN X38 hx (hb hby d50_45) rfl ?_
  refine .iloadN X38 hx (hb hby d50_46) rfl ?_
  obtain ⟨T39, X39, e39, st39⟩ := getS2 X38 hx hZ hown (host := "") (Or.inl (W_ hw 259 rfl)) Via.refl e38 (S_LB.ext O_.2) (g := (mkF m 47 #[.val (.ref t), .val (.int (3 : Int32)), .val (.int cc)] [(.int cc), (.int (3 : Int32)), (.ref t)])) rfl (hb hby d50_47)
  refine .st st39 ?_
  show OwnGo p e below s _ _ _ T39 (mkF m 50 _ [(.int (8 : Int32)), (.int cc), (.int (3 : Int32)), (.ref t)])
  refine .st (fun _ => XS.ishr X39.here hx rfl (hb hby d50_50) rfl) ?_
  show OwnGo p e below s _ _ _ T39 (mkF m 51 _ [(.int (cc >>> ((8 : Int32) &&& 31))), (.int (3 : Int32)), (.ref t)])
  refine .st (fun _ => XS.i2b X39.here hx rfl (hb hby d50_51) rfl) ?_
  show OwnGo p e below s _ _ _ T39 (mkF m 52 _ [(.int ((cc >>> ((8 : Int32) &&& 31)).toInt8.toInt32)), (.int (3 : Int32)), (.ref t)])
  show OwnGo p e below s _ _ _ T39 (mkF m 52 _ [(.int (own_hi cc)), (.int (3 : Int32)), (.ref t)])
  obtain ⟨cl40, Ar40, q40, S40, N40, H40, G40⟩ := id V_t
  obtain ⟨T40, h40, X40, e40, W40, st40⟩ := stB X39 hx hZ e39 Ar40 (j := (3 : Int32)) (inb_of S40 hz') (g := (mkF m 52 #[.val (.ref t), .val (.int (3 : Int32)), .val (.int cc)] [(.int (own_hi cc)), (.int (3 : Int32)), (.ref t)])) rfl rfl (hb hby d50_52)
  have V' := Arv.set Ar40 q40 S40 N40 H40 G40 (fits_nar_byte _) W40 3 rfl (by rw [List.length_set]; exact hl)
  rw [show (own_hi cc).toInt8.toInt32 = (own_hi cc) from (own_nb _)] at V'
  have O_ := O_.wr W40 g_t
  have Kp := Kp.wr W40 (Or.inl (List.mem_of_getElem? (i := 0) rfl))
  have N40 := Fr.snoc X40 N38 g_t
  have Z_ : n0 ≤ h40.size := by rw [W40.size]; exact Z_
  have V_t := V'
  refine .st st40 ?_
  show OwnGo p e below s _ _ _ T40 (mkF m 53 _ [])
  exact OwnGo.retV X40 hx hret hlk (hb hby d50_53) (by show QputC1 Z t kc cc z vs h0 n0 _ T40.heap _; rw [e40]; exact ⟨rfl, N40, Kp, V_t⟩) (by decide) (by decide)
def QgetC1 (Z : State) (t : Addr) (kc : ClassId) (cc : Int32) (z : Int32) (vs : List Value) (h0 : Heap) (n0 : Nat) (v : Option Value) (h : Heap) (L : List Loc) : Prop := v = some (.int cc) ∧ Fr n0 L ∧ h = h0
theorem rmgetC1 (l : Launch) (Z : State) (a0 : Array Value) (hw : own_tb a0 Z) (ws : List Jvm.Cond) (t : Addr) (kc : ClassId) (cc : Int32) (z : Int32) (vs : List Value) (h0 : Heap) (n0 : Nat) (Z0 : n0 ≤ h0.size) (O_ : Old Z n0 h0) (S_AD : Sta Z Z.heap "java/lang/StringUTF16" "$assertionsDisabled" "Z" (.int (1 : Int32))) (S_HB : Sta Z Z.heap "java/lang/StringUTF16" "HI_BYTE_SHIFT" "I" (.int (0 : Int32))) (S_LB : Sta Z Z.heap "java/lang/StringUTF16" "LO_BYTE_SHIFT" "I" (.int (8 : Int32))) (V_t : Arv Z h0 t kc .byte z vs (.int (0 : Int32))) (hz : ¬ (2 : Int32) < 0 ∧ (2 : Int32) < z) (hz' : ¬ (3 : Int32) < 0 ∧ (3 : Int32) < z) (ha : vs.getD 2 (.int (0 : Int32)) = .int (own_lo cc)) (ha' : vs.getD 3 (.int (0 : Int32)) = .int (own_hi cc)) (P_ : own_u cc) :
    OwnMet l (⟨"java/lang/StringUTF16", "getChar", "([BI)C"⟩ : MethodName) jdk_52_method_5_code 2 (some .char) ws ({ frames := 0, cells := 0, slots := 0, locals := 0 } : Room) #[(.ref t), (.int (1 : Int32))] Z h0 (QgetC1 Z t kc cc z vs h0 n0) := by
  refine own_met (plainFor_of_name pn_50) ?_
  intro p e s m below meth c s₁ X0 hx hby hml hret hlk hown hnm hZ e0
  have N0 := Fr.nil n0
  have Z_ := Z0
  refine OwnGo.cast (ef_getC1 m t (1 : Int32)) ?_
  show OwnGo p e below s _ _ _ s₁ (mkF m 0 _ [])
  obtain ⟨T41, X41, e41, st41⟩ := getS2 X0 hx hZ hown (host := "") (Or.inl (W_ hw 257 rfl)) Via.refl e0 (S_AD.ext O_.2) (g := (mkF m 0 #[.val (.ref t), .val (.int (1 : Int32))] [])) rfl (hb hby d51_0)
  refine .st st41 ?_
  show OwnGo p e below s _ _ _ T41 (mkF m 3 _ [(.int (1 : Int32))])
  refine .ifYes (pc := 3) X41 hx 28 (hb hby d51_3) ((if0 _ _).trans (feq ((by decide) : ¬ ((1 : Int32) = (0 : Int32)))).2) (by decide) (by decide) ?_
  refine .iloadN X41 hx (hb hby d51_28) rfl ?_
  refine .iconst X41 hx (hb hby d51_29) own_ki1 ?_
  refine .st (fun _ => XS.ishl X41.here hx rfl (hb hby d51_30) rfl) ?_
  show OwnGo p e below s _ _ _ T41 (mkF m 31 _ [(.int ((1 : Int32) <<< ((1 : Int32) &&& 31)))])
  rw [show ((1 : Int32) <<< ((1 : Int32) &&& 31)) = (2 : Int32) from by decide]
  show OwnGo p e below s _ _ _ T41 (mkF m 31 _ [(.int (2 : Int32))])
  refine .istoreN X41 hx (hb hby d51_31) (L' := #[.val (.ref t), .val (.int (2 : Int32))]) rfl ?_
  refine .aloadN X41 hx (hb hby d51_32) rfl rfl ?_
  refine .iloadN X41 hx (hb hby d51_33) rfl ?_
  refine .iinc X41 hx (hb hby d51_34) rfl own_ka2_1 (L' := #[.val (.ref t), .val (.int (3 : Int32))]) rfl ?_
  obtain ⟨cl42, Ar42, -, S42, -, H42, -⟩ := id V_t
  have hin42 : ¬ ((2 : Int32) < 0 ∨ cl42.slots.size ≤ ((2 : Int32)).toNatClampNeg) := inb_of S42 hz
  refine .st (fun _ => X41.baloadBytes hx (j := (2 : Int32)) (v := (.int (own_lo cc))) (by first | exact Ar42.1 | (rw [e41]; exact Ar42.1)) (State.isArrayOf_alike hZ.alike Ar42.2.1) Ar42.2.2 hin42 (H42.at hin42 ha) (g := (mkF m 37 #[.val (.ref t), .val (.int (3 : Int32))] [(.int (2 : Int32)), (.ref t)])) rfl rfl (hb hby d51_37) _) ?_
  show OwnGo p e below s _ _ _ T41 (mkF m 38 _ [(.int (own_lo cc))])
  refine .sipush X41 hx (hb hby d51_38) own_ks255 ?_
  refine .st (fun _ => XS.iand X41.here hx rfl (hb hby d51_41) rfl) ?_
  show OwnGo p e below s _ _ _ T41 (mkF m 42 _ [(.int ((own_lo cc) &&& (255 : Int32)))])
  obtain ⟨T43, X43, e43, st43⟩ := getS2 X41 hx hZ hown (host := "") (Or.inl (W_ hw 258 rfl)) Via.refl e41 (S_HB.ext O_.2) (g := (mkF m 42 #[.val (.ref t), .val (.int (3 : Int32))] [(.int ((own_lo cc) &&& (255 : Int32)))])) rfl (hb hby d51_42)
  refine .st st43 ?_
  show OwnGo p e below s _ _ _ T43 (mkF m 45 _ [(.int (0 : Int32)), (.int ((own_lo cc) &&& (255 : Int32)))])
  refine .st (fun _ => XS.ishl X43.here hx rfl (hb hby d51_45) rfl) ?_
  show OwnGo p e below s _ _ _ T43 (mkF m 46 _ [(.int (((own_lo cc) &&& (255 : Int32)) <<< ((0 : Int32) &&& 31)))])
  refine .aloadN X43 hx (hb hby d51_46) rfl rfl ?_
  refine .iloadN X43 hx (hb hby d51_47) rfl ?_
  obtain ⟨cl44, Ar44, -, S44, -, H44, -⟩ := id V_t
  have hin44 : ¬ ((3 : Int32) < 0 ∨ cl44.slots.size ≤ ((3 : Int32)).toNatClampNeg) := inb_of S44 hz'
  refine .st (fun _ => X43.baloadBytes hx (j := (3 : Int32)) (v := (.int (own_hi cc))) (by first | exact Ar44.1 | (rw [e43]; exact Ar44.1)) (State.isArrayOf_alike hZ.alike Ar44.2.1) Ar44.2.2 hin44 (H44.at hin44 ha') (g := (mkF m 48 #[.val (.ref t), .val (.int (3 : Int32))] [(.int (3 : Int32)), (.ref t), (.int (((own_lo cc) &&& (255 : Int32)) <<< ((0 : Int32) &&& 31)))])) rfl rfl (hb hby d51_48) _) ?_
  show OwnGo p e below s _ _ _ T43 (mkF m 49 _ [(.int (own_hi cc)), (.int (((own_lo cc) &&& (255 : Int32)) <<< ((0 : Int32) &&& 31)))])
  refine .sipush X43 hx (hb hby d51_49) own_ks255 ?_
  refine .st (fun _ => XS.iand X43.here hx rfl (hb hby d51_52) rfl) ?_
  show OwnGo p e below s _ _ _ T43 (mkF m 53 _ [(.int ((own_hi cc) &&& (255 : Int32))), (.int (((own_lo cc) &&& (255 : Int32)) <<< ((0 : Int32) &&& 31)))])
  obtain ⟨T45, X45, e45, st45⟩ := getS2 X43 hx hZ hown (host := "") (Or.inl (W_ hw 259 rfl)) Via.refl e43 (S_LB.ext O_.2) (g := (mkF m 53 #[.val (.ref t), .val (.int (3 : Int32))] [(.int ((own_hi cc) &&& (255 : Int32))), (.int (((own_lo cc) &&& (255 : Int32)) <<< ((0 : Int32) &&& 31)))])) rfl (hb hby d51_53)
  refine .st st45 ?_
  show OwnGo p e below s _ _ _ T45 (mkF m 56 _ [(.int (8 : Int32)), (.int ((own_hi cc) &&& (255 : Int32))), (.int (((own_lo cc) &&& (255 : Int32)) <<< ((0 : Int32) &&& 31)))])
  refine .st (fun _ => XS.ishl X45.here hx rfl (hb hby d51_56) rfl) ?_
  show OwnGo p e below s _ _ _ T45 (mkF m 57 _ [(.int (((own_hi cc) &&& (255 : Int32)) <<< ((8 : Int32) &&& 31))), (.int (((own_lo cc) &&& (255 : Int32)) <<< ((0 : Int32) &&& 31)))])
  refine .st (fun _ => XS.ior X45.here hx rfl (hb hby d51_57) rfl) ?_
  show OwnGo p e below s _ _ _ T45 (mkF m 58 _ [(.int ((((own_lo cc) &&& (255 : Int32)) <<< ((0 : Int32) &&& 31)) ||| (((own_hi cc) &&& (255 : Int32)) <<< ((8 : Int32) &&& 31))))])
  refine .st (fun _ => XS.i2c X45.here hx rfl (hb hby d51_58) rfl) ?_
  show OwnGo p e below s _ _ _ T45 (mkF m 59 _ [(.int (((((own_lo cc) &&& (255 : Int32)) <<< ((0 : Int32) &&& 31)) ||| (((own_hi cc) &&& (255 : Int32)) <<< ((8 : Int32) &&& 31))).toUInt32.toUInt16.toUInt32.toInt32))])
  rw [own_uch P_]
  show OwnGo p e below s _ _ _ T45 (mkF m 59 _ [(.int cc)])
  exact OwnGo.retN X45 hx (t := .char) hret hlk (by simp) (hb hby d51_59) (by show QgetC1 Z t kc cc z vs h0 n0 _ T45.heap _; rw [e45]; exact ⟨by rw [own_unc P_], N0, rfl⟩) (by decide) (by decide)
def QtoBu1 (Z : State) (c0 : Int32) (h0 : Heap) (n0 : Nat) (v : Option Value) (h : Heap) (L : List Loc) : Prop := ∃ (t : Addr) (kb : ClassId), v = some (.ref t) ∧ Fr n0 L ∧ Keep h0 h [] ∧ Arv Z h t kb .byte (2 : Int32) [(.int (own_lo c0)), (.int (own_hi c0))] (.int (0 : Int32)) ∧ h0.size ≤ t
theorem rmtoBu1 (l : Launch) (Z : State) (a0 : Array Value) (hw : own_tb a0 Z) (ws : List Jvm.Cond) (c0 : Int32) (h0 : Heap) (n0 : Nat) (Z0 : n0 ≤ h0.size) (O_ : Old Z n0 h0) (S_AD : Sta Z Z.heap "java/lang/StringUTF16" "$assertionsDisabled" "Z" (.int (1 : Int32))) (S_HB : Sta Z Z.heap "java/lang/StringUTF16" "HI_BYTE_SHIFT" "I" (.int (0 : Int32))) (S_LB : Sta Z Z.heap "java/lang/StringUTF16" "LO_BYTE_SHIFT" "I" (.int (8 : Int32))) :
    OwnMet l (⟨"java/lang/StringUTF16", "toBytes", "(C)[B"⟩ : MethodName) jdk_52_method_24_code 2 (some (.array .byte)) ws ({ frames := 1, cells := 1, slots := 2, locals := 14 } : Room) #[(.int c0)] Z h0 (QtoBu1 Z c0 h0 n0) := by
  refine own_met (plainFor_of_name pn_50) ?_
  intro p e s m below meth c s₁ X0 hx hby hml hret hlk hown hnm hZ e0
  have N0 := Fr.nil n0
  have Z_ := Z0
  refine OwnGo.cast (ef_toBu1 m c0) ?_
  show OwnGo p e below s _ _ _ s₁ (mkF m 0 _ [])
  have Kp : Keep h0 h0 [] := Keep.refl h0 []
  refine .iconst X0 hx (hb hby d55_0) own_ki2 ?_
  obtain ⟨T46, h46, k46, X46, e46, E46, A46, Ex46, st46⟩ := newPE X0 hx hZ (W_ hw 19 rfl) e0 (g := (mkF m 1 #[.val (.int c0), .unset] [(.int (2 : Int32))])) rfl (hb hby d55_1) rfl (by decide) (cap := 2) (by decide) (by decide) (by decide) (by decide) (ad := "[B") (by decide)
  obtain ⟨b46, g46⟩ : ∃ z, z = h0.size := ⟨_, rfl⟩
  rw [← g46] at A46 Ex46 st46
  have g_b46 : n0 ≤ b46 := Nat.le_trans Z_ (Nat.le_of_eq g46.symm)
  have sz_b46 : h0.size ≤ b46 := Nat.le_trans Kp.1 (Nat.le_of_eq g46.symm)
  have O_ := O_.ext E46
  have Kp := Kp.ext E46
  have Z_ : n0 ≤ h46.size := Nat.le_trans Z_ E46.1
  have V_b46 : Arv Z h46 b46 k46 .byte (2 : Int32) [(.int (0 : Int32)), (.int (0 : Int32))] (.int (0 : Int32)) := (Arv.new A46 (by decide)).pad (pad_rep [] (.int (0 : Int32)) 2)
  have E_b46 := Ex46
  refine .st st46 ?_
  show OwnGo p e below s _ _ _ T46 (mkF m 3 _ [(.ref b46)])
  refine .astoreN X46 hx (hb hby d55_3) rfl (L' := #[.val (.int c0), .val (.ref b46)]) rfl ?_
  refine .aloadN X46 hx (hb hby d55_4) rfl rfl ?_
  refine .iconst X46 hx (hb hby d55_5) own_ki0 ?_
  refine .iloadN X46 hx (hb hby d55_6) rfl ?_
  obtain ⟨_, _, ⟨T47, L47, k47, n47⟩, -, X47, ⟨Lc47, hQ47, l47, y47, z47⟩, st47⟩ := Jvm.LawKit.callS X46 hx (y := (⟨"java/lang/StringUTF16", "putChar", "([BII)V"⟩ : MethodName)) hown (mvT hZ (W_ hw 254 rfl)) (mvT hZ (W_ hw 255 rfl)) (mvT hZ (W_ hw 235 rfl)) (mvT hZ (W_ hw 256 rfl)) (by decide) (backOf (W := 0) (rmputC0 l Z a0 hw [] b46 k46 c0 (2 : Int32) [(.int (0 : Int32)), (.int (0 : Int32))] h46 n0 Z_ O_ S_AD S_HB S_LB V_b46 g_b46 ⟨by decide, by decide⟩ ⟨by decide, by decide⟩ (Nat.le_of_ble_eq_true rfl)) hZ (W_ hw 256 rfl) (W_ hw 235 rfl) (by decide) (by decide)) (g := (mkF m 7 #[.val (.int c0), .val (.ref b46)] [(.int c0), (.int (0 : Int32)), (.ref b46)])) rfl (by rw [hml]; rfl) (argsL := [(.ref b46), (.int (0 : Int32)), (.int c0)]) (rest := []) (lenOf pd_8 rfl) rfl (Nat.le_of_eq rfl) (hb hby d55_7) (fun _ _ => ⟨rfl, e46, (by decide : 1 + 0 ≤ _), (by decide : 2 + 0 ≤ _)⟩)
  dsimp only [Pt.U, Pt.locs, Pt.cells, Pt.slots] at X47 l47 y47 z47 st47 hQ47
  subst y47 z47
  obtain ⟨rfl, N47q, K47, V47⟩ := hQ47
  have N47 := own_frl l47 N0 N47q
  have Z_ : n0 ≤ T47.heap.size := Nat.le_trans Z_ K47.1
  have E_b46 := E_b46.keep K47
  have O_ := O_.keep K47 (allS g_b46 all0)
  have Kp := Kp.trans K47 (allS (Or.inr sz_b46) all0)
  refine .st st47 ?_
  show OwnGo p e below s _ _ _ T47 (mkF m 10 _ [])
  have V47 : Arv Z T47.heap b46 k46 .byte (2 : Int32) [(.int (own_lo c0)), (.int (own_hi c0))] (.int (0 : Int32)) := V47
  refine .aloadN X47 hx (hb hby d55_10) rfl rfl ?_
  exact OwnGo.ret X47 hx hret hlk rfl (Or.inr (Or.inr (Or.inr (Or.inr ⟨rfl, rfl, rfl⟩)))) (hb hby d55_11) (by show QtoBu1 Z c0 h0 n0 _ T47.heap _; exact ⟨b46, k46, rfl, N47, Kp, V47, sz_b46⟩) (by decide) (by decide)
def Qnbl2 (Z : State)  (h0 : Heap) (n0 : Nat) (v : Option Value) (h : Heap) (L : List Loc) : Prop := v = some (.int (4 : Int32)) ∧ Fr n0 L ∧ h = h0
theorem rmnbl2 (l : Launch) (Z : State) (a0 : Array Value) (hw : own_tb a0 Z) (ws : List Jvm.Cond)  (h0 : Heap) (n0 : Nat) (Z0 : n0 ≤ h0.size) :
    OwnMet l (⟨"java/lang/StringUTF16", "newBytesLength", "(I)I"⟩ : MethodName) jdk_52_method_3_code 1 (some .int) ws ({ frames := 0, cells := 0, slots := 0, locals := 0 } : Room) #[(.int (2 : Int32))] Z h0 (Qnbl2 Z  h0 n0) := by
  refine own_met (plainFor_of_name pn_50) ?_
  intro p e s m below meth c s₁ X0 hx hby hml hret hlk hown hnm hZ e0
  have N0 := Fr.nil n0
  have Z_ := Z0
  refine OwnGo.cast (ef_nbl2 m (2 : Int32)) ?_
  show OwnGo p e below s _ _ _ s₁ (mkF m 0 _ [])
  refine .iloadN X0 hx (hb hby d49_0) rfl ?_
  refine .ifYes (pc := 1) X0 hx 12 (hb hby d49_1) ((if0 _ _).trans (flt ((by decide) : ¬ ((2 : Int32) < (0 : Int32)))).2.1) (by decide) (by decide) ?_
  refine .iloadN X0 hx (hb hby d49_12) rfl ?_
  refine .st (fun _ => X0.ldcInt hx hown (mvT hZ (W_ hw 253 rfl)) (g := (mkF m 13 #[.val (.int (2 : Int32))] [(.int (2 : Int32))])) rfl (hb hby d49_13) _) ?_
  show OwnGo p e below s _ _ _ s₁ (mkF m 15 _ [(.int (1073741823 : Int32)), (.int (2 : Int32))])
  refine .icmpYes (pc := 15) X0 hx 55 (hb hby d49_15) (tlt (own_bg2_lt_1073741823 : (2 : Int32) < (1073741823 : Int32))).1 (by decide) (by decide) ?_
  refine .iloadN X0 hx (hb hby d49_55) rfl ?_
  refine .iconst X0 hx (hb hby d49_56) own_ki1 ?_
  refine .st (fun _ => XS.ishl X0.here hx rfl (hb hby d49_57) rfl) ?_
  show OwnGo p e below s _ _ _ s₁ (mkF m 58 _ [(.int ((2 : Int32) <<< ((1 : Int32) &&& 31)))])
  rw [show ((2 : Int32) <<< ((1 : Int32) &&& 31)) = (4 : Int32) from by decide]
  show OwnGo p e below s _ _ _ s₁ (mkF m 58 _ [(.int (4 : Int32))])
  exact OwnGo.ret X0 hx hret hlk rfl (Or.inl ⟨rfl, Or.inl rfl, _, rfl⟩) (hb hby d49_58) (by show Qnbl2 Z  h0 n0 _ s₁.heap _; rw [e0]; exact ⟨rfl, N0, rfl⟩) (by decide) (by decide)
def Qnbf2 (Z : State)  (h0 : Heap) (n0 : Nat) (v : Option Value) (h : Heap) (L : List Loc) : Prop := ∃ (t : Addr) (kb : ClassId), v = some (.ref t) ∧ Fr n0 L ∧ Keep h0 h [] ∧ Arv Z h t kb .byte (4 : Int32) [(.int (0 : Int32)), (.int (0 : Int32)), (.int (0 : Int32)), (.int (0 : Int32))] (.int (0 : Int32)) ∧ h0.size ≤ t
theorem rmnbf2 (l : Launch) (Z : State) (a0 : Array Value) (hw : own_tb a0 Z) (ws : List Jvm.Cond)  (h0 : Heap) (n0 : Nat) (Z0 : n0 ≤ h0.size) :
    OwnMet l (⟨"java/lang/StringUTF16", "newBytesFor", "(I)[B"⟩ : MethodName) jdk_52_method_2_code 1 (some (.array .byte)) ws ({ frames := 1, cells := 1, slots := 4, locals := 12 } : Room) #[(.int (2 : Int32))] Z h0 (Qnbf2 Z  h0 n0) := by
  refine own_met (plainFor_of_name pn_50) ?_
  intro p e s m below meth c s₁ X0 hx hby hml hret hlk hown hnm hZ e0
  have N0 := Fr.nil n0
  have Z_ := Z0
  refine OwnGo.cast (ef_nbf2 m (2 : Int32)) ?_
  show OwnGo p e below s _ _ _ s₁ (mkF m 0 _ [])
  have Kp : Keep h0 h0 [] := Keep.refl h0 []
  refine .iloadN X0 hx (hb hby d48_0) rfl ?_
  obtain ⟨_, _, ⟨T48, L48, k48, n48⟩, -, X48, ⟨Lc48, hQ48, l48, y48, z48⟩, st48⟩ := Jvm.LawKit.callS X0 hx (y := (⟨"java/lang/StringUTF16", "newBytesLength", "(I)I"⟩ : MethodName)) hown (mvT hZ (W_ hw 250 rfl)) (mvT hZ (W_ hw 251 rfl)) (mvT hZ (W_ hw 235 rfl)) (mvT hZ (W_ hw 252 rfl)) (by decide) (backOf (W := 0) (rmnbl2 l Z a0 hw []  h0 n0 Z_ ) hZ (W_ hw 252 rfl) (W_ hw 235 rfl) (by decide) (by decide)) (g := (mkF m 1 #[.val (.int (2 : Int32))] [(.int (2 : Int32))])) rfl (by rw [hml]; rfl) (argsL := [(.int (2 : Int32))]) (rest := []) (lenOf pd_9 rfl) rfl (Nat.le_of_eq rfl) (hb hby d48_1) (fun _ _ => ⟨rfl, e0, (by decide : 0 + 0 ≤ _), (by decide : 0 + 0 ≤ _)⟩)
  dsimp only [Pt.U, Pt.locs, Pt.cells, Pt.slots] at X48 l48 y48 z48 st48 hQ48
  subst y48 z48
  obtain ⟨rfl, N48q, e48⟩ := hQ48
  have N48 := own_frl l48 N0 N48q
  refine .st st48 ?_
  show OwnGo p e below s _ _ _ T48 (mkF m 4 _ [(.int (4 : Int32))])
  obtain ⟨T49, h49, k49, X49, e49, E49, A49, Ex49, st49⟩ := newPE X48 hx hZ (W_ hw 19 rfl) e48 (g := (mkF m 4 #[.val (.int (2 : Int32))] [(.int (4 : Int32))])) rfl (hb hby d48_4) rfl (by decide) (cap := 4) (by decide) (by decide) (by decide) (by decide) (ad := "[B") (by decide)
  obtain ⟨b49, g49⟩ : ∃ z, z = h0.size := ⟨_, rfl⟩
  rw [← g49] at A49 Ex49 st49
  have g_b49 : n0 ≤ b49 := Nat.le_trans Z_ (Nat.le_of_eq g49.symm)
  have sz_b49 : h0.size ≤ b49 := Nat.le_trans Kp.1 (Nat.le_of_eq g49.symm)
  have Kp := Kp.ext E49
  have Z_ : n0 ≤ h49.size := Nat.le_trans Z_ E49.1
  have V_b49 : Arv Z h49 b49 k49 .byte (4 : Int32) [(.int (0 : Int32)), (.int (0 : Int32)), (.int (0 : Int32)), (.int (0 : Int32))] (.int (0 : Int32)) := (Arv.new A49 (by decide)).pad (pad_rep [] (.int (0 : Int32)) 4)
  have E_b49 := Ex49
  refine .st st49 ?_
  show OwnGo p e below s _ _ _ T49 (mkF m 6 _ [(.ref b49)])
  exact OwnGo.ret X49 hx hret hlk rfl (Or.inr (Or.inr (Or.inr (Or.inr ⟨rfl, rfl, rfl⟩)))) (hb hby d48_6) (by show Qnbf2 Z  h0 n0 _ T49.heap _; rw [e49]; exact ⟨b49, k49, rfl, N48, Kp, V_b49, sz_b49⟩) (by decide) (by decide)
def QtoB2 (Z : State) (a : Addr) (ka : ClassId) (c0 : Int32) (c1 : Int32) (h0 : Heap) (n0 : Nat) (v : Option Value) (h : Heap) (L : List Loc) : Prop := ∃ (t : Addr) (kb : ClassId), v = some (.ref t) ∧ Fr n0 L ∧ Keep h0 h [] ∧ Arv Z h t kb .byte (4 : Int32) [(.int (own_lo c0)), (.int (own_hi c0)), (.int (own_lo c1)), (.int (own_hi c1))] (.int (0 : Int32)) ∧ h0.size ≤ t
theorem rmtoB2 (l : Launch) (Z : State) (a0 : Array Value) (hw : own_tb a0 Z) (ws : List Jvm.Cond) (a : Addr) (ka : ClassId) (c0 : Int32) (c1 : Int32) (h0 : Heap) (n0 : Nat) (Z0 : n0 ≤ h0.size) (O_ : Old Z n0 h0) (S_AD : Sta Z Z.heap "java/lang/StringUTF16" "$assertionsDisabled" "Z" (.int (1 : Int32))) (S_HB : Sta Z Z.heap "java/lang/StringUTF16" "HI_BYTE_SHIFT" "I" (.int (0 : Int32))) (S_LB : Sta Z Z.heap "java/lang/StringUTF16" "LO_BYTE_SHIFT" "I" (.int (8 : Int32))) (V_a : Arv Z h0 a ka .char (2 : Int32) [(.int c0), (.int c1)] (.int (0 : Int32))) :
    OwnMet l (⟨"java/lang/StringUTF16", "toBytes", "([CII)[B"⟩ : MethodName) jdk_52_method_14_code 5 (some (.array .byte)) ws ({ frames := 2, cells := 1, slots := 4, locals := 24 } : Room) #[(.ref a), (.int (0 : Int32)), (.int (2 : Int32))] Z h0 (QtoB2 Z a ka c0 c1 h0 n0) := by
  refine own_met (plainFor_of_name pn_50) ?_
  intro p e s m below meth c s₁ X0 hx hby hml hret hlk hown hnm hZ e0
  have N0 := Fr.nil n0
  have Z_ := Z0
  refine OwnGo.cast (ef_toB2 m a (0 : Int32) (2 : Int32)) ?_
  show OwnGo p e below s _ _ _ s₁ (mkF m 0 _ [])
  have Kp : Keep h0 h0 [] := Keep.refl h0 []
  refine .iloadN X0 hx (hb hby d47_0) rfl ?_
  obtain ⟨_, _, ⟨T50, L50, k50, n50⟩, -, X50, ⟨Lc50, hQ50, l50, y50, z50⟩, st50⟩ := Jvm.LawKit.callS X0 hx (y := (⟨"java/lang/StringUTF16", "newBytesFor", "(I)[B"⟩ : MethodName)) hown (mvT hZ (W_ hw 247 rfl)) (mvT hZ (W_ hw 248 rfl)) (mvT hZ (W_ hw 235 rfl)) (mvT hZ (W_ hw 249 rfl)) (by decide) (backOf (W := 0) (rmnbf2 l Z a0 hw []  h0 n0 Z_ ) hZ (W_ hw 249 rfl) (W_ hw 235 rfl) (by decide) (by decide)) (g := (mkF m 1 #[.val (.ref a), .val (.int (0 : Int32)), .val (.int (2 : Int32)), .unset, .unset] [(.int (2 : Int32))])) rfl (by rw [hml]; rfl) (argsL := [(.int (2 : Int32))]) (rest := []) (lenOf pd_10 rfl) rfl (Nat.le_of_eq rfl) (hb hby d47_1) (fun _ _ => ⟨rfl, e0, (by decide : 0 + 1 ≤ _), (by decide : 0 + 4 ≤ _)⟩)
  dsimp only [Pt.U, Pt.locs, Pt.cells, Pt.slots] at X50 l50 y50 z50 st50 hQ50
  subst y50 z50
  obtain ⟨t50, kb50, rfl, N50q, K50, V50, zt50⟩ := hQ50
  have N50 := own_frl l50 N0 N50q
  have ne_a_t50 : a ≠ t50 := Nat.ne_of_lt (Nat.lt_of_lt_of_le V_a.lt zt50)
  have g_t50 : n0 ≤ t50 := Nat.le_trans Z_ zt50
  have sz_t50 : h0.size ≤ t50 := Nat.le_trans Kp.1 zt50
  have Z_ : n0 ≤ T50.heap.size := Nat.le_trans Z_ K50.1
  have V_a := V_a.keep K50 nin0
  have O_ := O_.keep K50 all0
  have Kp := Kp.trans K50 all0
  refine .st st50 ?_
  show OwnGo p e below s _ _ _ T50 (mkF m 4 _ [(.ref t50)])
  refine .astoreN X50 hx (hb hby d47_4) rfl (L' := #[.val (.ref a), .val (.int (0 : Int32)), .val (.int (2 : Int32)), .val (.ref t50), .unset]) rfl ?_
  refine .iconst X50 hx (hb hby d47_5) own_ki0 ?_
  refine .istore X50 hx (hb hby d47_6) (L' := #[.val (.ref a), .val (.int (0 : Int32)), .val (.int (2 : Int32)), .val (.ref t50), .val (.int (0 : Int32))]) rfl ?_
  refine .iload X50 hx (hb hby d47_8) rfl ?_
  refine .iloadN X50 hx (hb hby d47_10) rfl ?_
  refine .icmpNo X50 hx (hb hby d47_11) (tlt ((by decide) : (0 : Int32) < (2 : Int32))).2.1 ?_
  refine .aloadN X50 hx (hb hby d47_14) rfl rfl ?_
  refine .iload X50 hx (hb hby d47_15) rfl ?_
  refine .aloadN X50 hx (hb hby d47_17) rfl rfl ?_
  refine .iloadN X50 hx (hb hby d47_18) rfl ?_
  obtain ⟨cl51, Ar51, -, S51, -, H51, -⟩ := id V_a
  have hin51 : ¬ ((0 : Int32) < 0 ∨ cl51.slots.size ≤ ((0 : Int32)).toNatClampNeg) := inb_of S51 ⟨by decide, by decide⟩
  refine .st (fun _ => X50.caload hx (j := (0 : Int32)) (v := (.int c0)) (by first | exact Ar51.1 | (rw [rfl]; exact Ar51.1)) (State.isArrayOf_alike hZ.alike Ar51.2.1) Ar51.2.2 hin51 (H51.at hin51 rfl) (g := (mkF m 19 #[.val (.ref a), .val (.int (0 : Int32)), .val (.int (2 : Int32)), .val (.ref t50), .val (.int (0 : Int32))] [(.int (0 : Int32)), (.ref a), (.int (0 : Int32)), (.ref t50)])) rfl rfl (hb hby d47_19) _) ?_
  show OwnGo p e below s _ _ _ T50 (mkF m 20 _ [(.int c0), (.int (0 : Int32)), (.ref t50)])
  obtain ⟨_, _, ⟨T52, L52, k52, n52⟩, -, X52, ⟨Lc52, hQ52, l52, y52, z52⟩, st52⟩ := Jvm.LawKit.callS X50 hx (y := (⟨"java/lang/StringUTF16", "putChar", "([BII)V"⟩ : MethodName)) hown (mvT hZ (W_ hw 254 rfl)) (mvT hZ (W_ hw 255 rfl)) (mvT hZ (W_ hw 235 rfl)) (mvT hZ (W_ hw 256 rfl)) (by decide) (backOf (W := 0) (rmputC0 l Z a0 hw [] t50 kb50 c0 (4 : Int32) [(.int (0 : Int32)), (.int (0 : Int32)), (.int (0 : Int32)), (.int (0 : Int32))] T50.heap n0 Z_ O_ S_AD S_HB S_LB V50 g_t50 ⟨by decide, by decide⟩ ⟨by decide, by decide⟩ (Nat.le_of_ble_eq_true rfl)) hZ (W_ hw 256 rfl) (W_ hw 235 rfl) (by decide) (by decide)) (g := (mkF m 20 #[.val (.ref a), .val (.int (0 : Int32)), .val (.int (2 : Int32)), .val (.ref t50), .val (.int (0 : Int32))] [(.int c0), (.int (0 : Int32)), (.ref t50)])) rfl (by rw [hml]; rfl) (argsL := [(.ref t50), (.int (0 : Int32)), (.int c0)]) (rest := []) (lenOf pd_8 rfl) rfl (Nat.le_of_eq rfl) (hb hby d47_20) (fun _ _ => ⟨rfl, rfl, (by decide : 1 + 0 ≤ _), (by decide : 4 + 0 ≤ _)⟩)
  dsimp only [Pt.U, Pt.locs, Pt.cells, Pt.slots] at X52 l52 y52 z52 st52 hQ52
  subst y52 z52
  obtain ⟨rfl, N52q, K52, V52⟩ := hQ52
  have N52 := own_frl l52 N50 N52q
  have Z_ : n0 ≤ T52.heap.size := Nat.le_trans Z_ K52.1
  have V_a := V_a.keep K52 (ninS ne_a_t50 nin0)
  have O_ := O_.keep K52 (allS g_t50 all0)
  have Kp := Kp.trans K52 (allS (Or.inr sz_t50) all0)
  refine .st st52 ?_
  show OwnGo p e below s _ _ _ T52 (mkF m 23 _ [])
  have V52 : Arv Z T52.heap t50 kb50 .byte (4 : Int32) [(.int (own_lo c0)), (.int (own_hi c0)), (.int (0 : Int32)), (.int (0 : Int32))] (.int (0 : Int32)) := V52
  refine .iinc X52 hx (hb hby d47_23) rfl own_ka0_1 (L' := #[.val (.ref a), .val (.int (1 : Int32)), .val (.int (2 : Int32)), .val (.ref t50), .val (.int (0 : Int32))]) rfl ?_
  refine .iinc X52 hx (hb hby d47_26) rfl own_ka0_1 (L' := #[.val (.ref a), .val (.int (1 : Int32)), .val (.int (2 : Int32)), .val (.ref t50), .val (.int (1 : Int32))]) rfl ?_
  refine .goto (pc := 29) X52 hx 8 (hb hby d47_29) (by decide) (by decide) ?_
  refine .iload X52 hx (hb hby d47_8) rfl ?_
  refine .iloadN X52 hx (hb hby d47_10) rfl ?_
  refine .icmpNo X52 hx (hb hby d47_11) (tlt ((by decide) : (1 : Int32) < (2 : Int32))).2.1 ?_
  refine .aloadN X52 hx (hb hby d47_14) rfl rfl ?_
  refine .iload X52 hx (hb hby d47_15) rfl ?_
  refine .aloadN X52 hx (hb hby d47_17) rfl rfl ?_
  refine .iloadN X52 hx (hb hby d47_18) rfl ?_
  obtain ⟨cl53, Ar53, -, S53, -, H53, -⟩ := id V_a
  have hin53 : ¬ ((1 : Int32) < 0 ∨ cl53.slots.size ≤ ((1 : Int32)).toNatClampNeg) := inb_of S53 ⟨by decide, by decide⟩
  refine .st (fun _ => X52.caload hx (j := (1 : Int32)) (v := (.int c1)) (by first | exact Ar53.1 | (rw [rfl]; exact Ar53.1)) (State.isArrayOf_alike hZ.alike Ar53.2.1) Ar53.2.2 hin53 (H53.at hin53 rfl) (g := (mkF m 19 #[.val (.ref a), .val (.int (1 : Int32)), .val (.int (2 : Int32)), .val (.ref t50), .val (.int (1 : Int32))] [(.int (1 : Int32)), (.ref a), (.int (1 : Int32)), (.ref t50)])) rfl rfl (hb hby d47_19) _) ?_
  show OwnGo p e below s _ _ _ T52 (mkF m 20 _ [(.int c1), (.int (1 : Int32)), (.ref t50)])
  obtain ⟨_, _, ⟨T54, L54, k54, n54⟩, -, X54, ⟨Lc54, hQ54, l54, y54, z54⟩, st54⟩ := Jvm.LawKit.callS X52 hx (y := (⟨"java/lang/StringUTF16", "putChar", "([BII)V"⟩ : MethodName)) hown (mvT hZ (W_ hw 254 rfl)) (mvT hZ (W_ hw 255 rfl)) (mvT hZ (W_ hw 235 rfl)) (mvT hZ (W_ hw 256 rfl)) (by decide) (backOf (W := 0) (rmputC1 l Z a0 hw [] t50 kb50 c1 (4 : Int32) [(.int (own_lo c0)), (.int (own_hi c0)), (.int (0 : Int32)), (.int (0 : Int32))] T52.heap n0 Z_ O_ S_AD S_HB S_LB V52 g_t50 ⟨by decide, by decide⟩ ⟨by decide, by decide⟩ (Nat.le_of_ble_eq_true rfl)) hZ (W_ hw 256 rfl) (W_ hw 235 rfl) (by decide) (by decide)) (g := (mkF m 20 #[.val (.ref a), .val (.int (1 : Int32)), .val (.int (2 : Int32)), .val (.ref t50), .val (.int (1 : Int32))] [(.int c1), (.int (1 : Int32)), (.ref t50)])) rfl (by rw [hml]; rfl) (argsL := [(.ref t50), (.int (1 : Int32)), (.int c1)]) (rest := []) (lenOf pd_8 rfl) rfl (Nat.le_of_eq rfl) (hb hby d47_20) (fun _ _ => ⟨rfl, rfl, (by decide : 1 + 0 ≤ _), (by decide : 4 + 0 ≤ _)⟩)
  dsimp only [Pt.U, Pt.locs, Pt.cells, Pt.slots] at X54 l54 y54 z54 st54 hQ54
  subst y54 z54
  obtain ⟨rfl, N54q, K54, V54⟩ := hQ54
  have N54 := own_frl l54 N52 N54q
  have Z_ : n0 ≤ T54.heap.size := Nat.le_trans Z_ K54.1
  have V_a := V_a.keep K54 (ninS ne_a_t50 nin0)
  have O_ := O_.keep K54 (allS g_t50 all0)
  have Kp := Kp.trans K54 (allS (Or.inr sz_t50) all0)
  refine .st st54 ?_
  show OwnGo p e below s _ _ _ T54 (mkF m 23 _ [])
  have V54 : Arv Z T54.heap t50 kb50 .byte (4 : Int32) [(.int (own_lo c0)), (.int (own_hi c0)), (.int (own_lo c1)), (.int (own_hi c1))] (.int (0 : Int32)) := V54
  refine .iinc X54 hx (hb hby d47_23) rfl own_ka1_1 (L' := #[.val (.ref a), .val (.int (2 : Int32)), .val (.int (2 : Int32)), .val (.ref t50), .val (.int (1 : Int32))]) rfl ?_
  refine .iinc X54 hx (hb hby d47_26) rfl own_ka1_1 (L' := #[.val (.ref a), .val (.int (2 : Int32)), .val (.int (2 : Int32)), .val (.ref t50), .val (.int (2 : Int32))]) rfl ?_
  refine .goto (pc := 29) X54 hx 8 (hb hby d47_29) (by decide) (by decide) ?_
  refine .iload X54 hx (hb hby d47_8) rfl ?_
  refine .iloadN X54 hx (hb hby d47_10) rfl ?_
  refine .icmpYes (pc := 11) X54 hx 32 (hb hby d47_11) (flt ((by decide) : ¬ ((2 : Int32) < (2 : Int32)))).2.1 (by decide) (by decide) ?_
  refine .aloadN X54 hx (hb hby d47_32) rfl rfl ?_
  exact OwnGo.ret X54 hx hret hlk rfl (Or.inr (Or.inr (Or.inr (Or.inr ⟨rfl, rfl, rfl⟩)))) (hb hby d47_33) (by show QtoB2 Z a ka c0 c1 h0 n0 _ T54.heap _; exact ⟨t50, kb50, rfl, N54, Kp, V54, sz_t50⟩) (by decide) (by decide)
def QcmpL2 (Z : State) (a : Addr) (ka : ClassId) (c0 : Int32) (c1 : Int32) (d : Addr) (kd : ClassId) (h0 : Heap) (n0 : Nat) (v : Option Value) (h : Heap) (L : List Loc) : Prop := v = some (.int (2 : Int32)) ∧ Fr n0 L ∧ Keep h0 h [d] ∧ Arv Z h d kd .byte (2 : Int32) [(.int c0.toInt8.toInt32), (.int c1.toInt8.toInt32)] (.int (0 : Int32))
theorem rmcmpL2 (l : Launch) (Z : State) (a0 : Array Value) (hw : own_tb a0 Z) (ws : List Jvm.Cond) (a : Addr) (ka : ClassId) (c0 : Int32) (c1 : Int32) (d : Addr) (kd : ClassId) (h0 : Heap) (n0 : Nat) (Z0 : n0 ≤ h0.size) (V_a : Arv Z h0 a ka .char (2 : Int32) [(.int c0), (.int c1)] (.int (0 : Int32))) (V_d : Arv Z h0 d kd .byte (2 : Int32) [(.int (0 : Int32)), (.int (0 : Int32))] (.int (0 : Int32))) (g_d : n0 ≤ d) (ne_a_d : a ≠ d) (hl : ¬ (255 : Int32) < c0 ∧ ¬ (255 : Int32) < c1) :
    OwnMet l (⟨"java/lang/StringUTF16", "compress", "([CI[BII)I"⟩ : MethodName) jdk_52_method_21_code 7 (some .int) ws ({ frames := 0, cells := 0, slots := 0, locals := 0 } : Room) #[(.ref a), (.int (0 : Int32)), (.ref d), (.int (0 : Int32)), (.int (2 : Int32))] Z h0 (QcmpL2 Z a ka c0 c1 d kd h0 n0) := by
  refine own_met (plainFor_of_name pn_50) ?_
  intro p e s m below meth c s₁ X0 hx hby hml hret hlk hown hnm hZ e0
  have N0 := Fr.nil n0
  have Z_ := Z0
  refine OwnGo.cast (ef_cmpL2 m a (0 : Int32) d (0 : Int32) (2 : Int32)) ?_
  show OwnGo p e below s _ _ _ s₁ (mkF m 0 _ [])
  have Kp : Keep h0 h0 [d] := Keep.refl h0 [d]
  refine .iconst X0 hx (hb hby d45_0) own_ki0 ?_
  refine .istore X0 hx (hb hby d45_1) (L' := #[.val (.ref a), .val (.int (0 : Int32)), .val (.ref d), .val (.int (0 : Int32)), .val (.int (2 : Int32)), .val (.int (0 : Int32)), .unset]) rfl ?_
  refine .iload X0 hx (hb hby d45_3) rfl ?_
  refine .iload X0 hx (hb hby d45_5) rfl ?_
  refine .icmpNo X0 hx (hb hby d45_7) (tlt ((by decide) : (0 : Int32) < (2 : Int32))).2.1 ?_
  refine .aloadN X0 hx (hb hby d45_10) rfl rfl ?_
  refine .iloadN X0 hx (hb hby d45_11) rfl ?_
  obtain ⟨cl55, Ar55, -, S55, -, H55, -⟩ := id V_a
  have hin55 : ¬ ((0 : Int32) < 0 ∨ cl55.slots.size ≤ ((0 : Int32)).toNatClampNeg) := inb_of S55 ⟨by decide, by decide⟩
  refine .st (fun _ => X0.caload hx (j := (0 : Int32)) (v := (.int c0)) (by first | exact Ar55.1 | (rw [e0]; exact Ar55.1)) (State.isArrayOf_alike hZ.alike Ar55.2.1) Ar55.2.2 hin55 (H55.at hin55 rfl) (g := (mkF m 12 #[.val (.ref a), .val (.int (0 : Int32)), .val (.ref d), .val (.int (0 : Int32)), .val (.int (2 : Int32)), .val (.int (0 : Int32)), .unset] [(.int (0 : Int32)), (.ref a)])) rfl rfl (hb hby d45_12) _) ?_
  show OwnGo p e below s _ _ _ s₁ (mkF m 13 _ [(.int c0)])
  refine .istore X0 hx (hb hby d45_13) (L' := #[.val (.ref a), .val (.int (0 : Int32)), .val (.ref d), .val (.int (0 : Int32)), .val (.int (2 : Int32)), .val (.int (0 : Int32)), .val (.int c0)]) rfl ?_
  refine .iload X0 hx (hb hby d45_15) rfl ?_
  refine .sipush X0 hx (hb hby d45_17) own_ks255 ?_
  refine .icmpYes (pc := 20) X0 hx 26 (hb hby d45_20) (flt (hl.1 : ¬ ((255 : Int32) < c0))).2.2.2 (by decide) (by decide) ?_
  refine .aloadN X0 hx (hb hby d45_26) rfl rfl ?_
  refine .iloadN X0 hx (hb hby d45_27) rfl ?_
  refine .iload X0 hx (hb hby d45_28) rfl ?_
  refine .st (fun _ => XS.i2b X0.here hx rfl (hb hby d45_30) rfl) ?_
  show OwnGo p e below s _ _ _ s₁ (mkF m 31 _ [(.int (c0.toInt8.toInt32)), (.int (0 : Int32)), (.ref d)])
  obtain ⟨cl56, Ar56, q56, S56, N56, H56, G56⟩ := id V_d
  have hin56 : ¬ ((0 : Int32) < 0 ∨ cl56.slots.size ≤ ((0 : Int32)).toNatClampNeg) := inb_of S56 ⟨by decide, by decide⟩
  obtain ⟨T56, h56, X56, e56, W56, st56⟩ := stB X0 hx hZ e0 Ar56 (j := (0 : Int32)) hin56 (g := (mkF m 31 #[.val (.ref a), .val (.int (0 : Int32)), .val (.ref d), .val (.int (0 : Int32)), .val (.int (2 : Int32)), .val (.int (0 : Int32)), .val (.int c0)] [(.int (c0.toInt8.toInt32)), (.int (0 : Int32)), (.ref d)])) rfl rfl (hb hby d45_31)
  have V_d : Arv Z h56 d kd .byte (2 : Int32) [(.int (nar .byte (c0.toInt8.toInt32))), (.int (0 : Int32))] (.int (0 : Int32)) := Arv.set Ar56 q56 S56 N56 H56 G56 (fits_nar_byte _) W56 0 rfl (Nat.le_of_ble_eq_true rfl)
  rw [show nar .byte (c0.toInt8.toInt32) = (c0.toInt8.toInt32) from (own_nb _)] at V_d
  have V_a := V_a.other W56 ne_a_d
  have Kp := Kp.wr W56 (Or.inl (List.mem_of_getElem? (i := 0) rfl))
  have N56 := Fr.snoc X56 N0 g_d
  have Z_ : n0 ≤ h56.size := by rw [W56.size]; exact Z_
  refine .st st56 ?_
  show OwnGo p e below s _ _ _ T56 (mkF m 32 _ [])
  refine .iinc X56 hx (hb hby d45_32) rfl own_ka0_1 (L' := #[.val (.ref a), .val (.int (1 : Int32)), .val (.ref d), .val (.int (0 : Int32)), .val (.int (2 : Int32)), .val (.int (0 : Int32)), .val (.int c0)]) rfl ?_
  refine .iinc X56 hx (hb hby d45_35) rfl own_ka0_1 (L' := #[.val (.ref a), .val (.int (1 : Int32)), .val (.ref d), .val (.int (1 : Int32)), .val (.int (2 : Int32)), .val (.int (0 : Int32)), .val (.int c0)]) rfl ?_
  refine .iinc X56 hx (hb hby d45_38) rfl own_ka0_1 (L' := #[.val (.ref a), .val (.int (1 : Int32)), .val (.ref d), .val (.int (1 : Int32)), .val (.int (2 : Int32)), .val (.int (1 : Int32)), .val (.int c0)]) rfl ?_
  refine .goto (pc := 41) X56 hx 3 (hb hby d45_41) (by decide) (by decide) ?_
  refine .iload X56 hx (hb hby d45_3) rfl ?_
  refine .iload X56 hx (hb hby d45_5) rfl ?_
  refine .icmpNo X56 hx (hb hby d45_7) (tlt ((by decide) : (1 : Int32) < (2 : Int32))).2.1 ?_
  refine .aloadN X56 hx (hb hby d45_10) rfl rfl ?_
  refine .iloadN X56 hx (hb hby d45_11) rfl ?_
  obtain ⟨cl57, Ar57, -, S57, -, H57, -⟩ := id V_a
  have hin57 : ¬ ((1 : Int32) < 0 ∨ cl57.slots.size ≤ ((1 : Int32)).toNatClampNeg) := inb_of S57 ⟨by decide, by decide⟩
  refine .st (fun _ => X56.caload hx (j := (1 : Int32)) (v := (.int c1)) (by first | exact Ar57.1 | (rw [e56]; exact Ar57.1)) (State.isArrayOf_alike hZ.alike Ar57.2.1) Ar57.2.2 hin57 (H57.at hin57 rfl) (g := (mkF m 12 #[.val (.ref a), .val (.int (1 : Int32)), .val (.ref d), .val (.int (1 : Int32)), .val (.int (2 : Int32)), .val (.int (1 : Int32)), .val (.int c0)] [(.int (1 : Int32)), (.ref a)])) rfl rfl (hb hby d45_12) _) ?_
  show OwnGo p e below s _ _ _ T56 (mkF m 13 _ [(.int c1)])
  refine .istore X56 hx (hb hby d45_13) (L' := #[.val (.ref a), .val (.int (1 : Int32)), .val (.ref d), .val (.int (1 : Int32)), .val (.int (2 : Int32)), .val (.int (1 : Int32)), .val (.int c1)]) rfl ?_
  refine .iload X56 hx (hb hby d45_15) rfl ?_
  refine .sipush X56 hx (hb hby d45_17) own_ks255 ?_
  refine .icmpYes (pc := 20) X56 hx 26 (hb hby d45_20) (flt (hl.2 : ¬ ((255 : Int32) < c1))).2.2.2 (by decide) (by decide) ?_
  refine .aloadN X56 hx (hb hby d45_26) rfl rfl ?_
  refine .iloadN X56 hx (hb hby d45_27) rfl ?_
  refine .iload X56 hx (hb hby d45_28) rfl ?_
  refine .st (fun _ => XS.i2b X56.here hx rfl (hb hby d45_30) rfl) ?_
  show OwnGo p e below s _ _ _ T56 (mkF m 31 _ [(.int (c1.toInt8.toInt32)), (.int (1 : Int32)), (.ref d)])
  obtain ⟨cl58, Ar58, q58, S58, N58, H58, G58⟩ := id V_d
  have hin58 : ¬ ((1 : Int32) < 0 ∨ cl58.slots.size ≤ ((1 : Int32)).toNatClampNeg) := inb_of S58 ⟨by decide, by decide⟩
  obtain ⟨T58, h58, X58, e58, W58, st58⟩ := stB X56 hx hZ e56 Ar58 (j := (1 : Int32)) hin58 (g := (mkF m 31 #[.val (.ref a), .val (.int (1 : Int32)), .val (.ref d), .val (.int (1 : Int32)), .val (.int (2 : Int32)), .val (.int (1 : Int32)), .val (.int c1)] [(.int (c1.toInt8.toInt32)), (.int (1 : Int32)), (.ref d)])) rfl rfl (hb hby d45_31)
  have V_d : Arv Z h58 d kd .byte (2 : Int32) [(.int (c0.toInt8.toInt32)), (.int (nar .byte (c1.toInt8.toInt32)))] (.int (0 : Int32)) := Arv.set Ar58 q58 S58 N58 H58 G58 (fits_nar_byte _) W58 1 rfl (Nat.le_of_ble_eq_true rfl)
  rw [show nar .byte (c1.toInt8.toInt32) = (c1.toInt8.toInt32) from (own_nb _)] at V_d
  have V_a := V_a.other W58 ne_a_d
  have Kp := Kp.wr W58 (Or.inl (List.mem_of_getElem? (i := 0) rfl))
  have N58 := Fr.snoc X58 N56 g_d
  have Z_ : n0 ≤ h58.size := by rw [W58.size]; exact Z_
  refine .st st58 ?_
  show OwnGo p e below s _ _ _ T58 (mkF m 32 _ [])
  refine .iinc X58 hx (hb hby d45_32) rfl own_ka1_1 (L' := #[.val (.ref a), .val (.int (2 : Int32)), .val (.ref d), .val (.int (1 : Int32)), .val (.int (2 : Int32)), .val (.int (1 : Int32)), .val (.int c1)]) rfl ?_
  refine .iinc X58 hx (hb hby d45_35) rfl own_ka1_1 (L' := #[.val (.ref a), .val (.int (2 : Int32)), .val (.ref d), .val (.int (2 : Int32)), .val (.int (2 : Int32)), .val (.int (1 : Int32)), .val (.int c1)]) rfl ?_
  refine .iinc X58 hx (hb hby d45_38) rfl own_ka1_1 (L' := #[.val (.ref a), .val (.int (2 : Int32)), .val (.ref d), .val (.int (2 : Int32)), .val (.int (2 : Int32)), .val (.int (2 : Int32)), .val (.int c1)]) rfl ?_
  refine .goto (pc := 41) X58 hx 3 (hb hby d45_41) (by decide) (by decide) ?_
  refine .iload X58 hx (hb hby d45_3) rfl ?_
  refine .iload X58 hx (hb hby d45_5) rfl ?_
  refine .icmpYes (pc := 7) X58 hx 44 (hb hby d45_7) (flt ((by decide) : ¬ ((2 : Int32) < (2 : Int32)))).2.1 (by decide) (by decide) ?_
  refine .iload X58 hx (hb hby d45_44) rfl ?_
  exact OwnGo.ret X58 hx hret hlk rfl (Or.inl ⟨rfl, Or.inl rfl, _, rfl⟩) (hb hby d45_46) (by show QcmpL2 Z a ka c0 c1 d kd h0 n0 _ T58.heap _; rw [e58]; exact ⟨rfl, N58, Kp, V_d⟩) (by decide) (by decide)
def QcmpU2 (Z : State) (a : Addr) (ka : ClassId) (c0 : Int32) (c1 : Int32) (d : Addr) (kd : ClassId) (h0 : Heap) (n0 : Nat) (v : Option Value) (h : Heap) (L : List Loc) : Prop := ∃ k : Int32, v = some (.int k) ∧ Fr n0 L ∧ Keep h0 h [d] ∧ ((k = (0 : Int32) ∧ (255 : Int32) < c0) ∨ (k = (1 : Int32) ∧ (255 : Int32) < c1))
theorem rmcmpU2 (l : Launch) (Z : State) (a0 : Array Value) (hw : own_tb a0 Z) (ws : List Jvm.Cond) (a : Addr) (ka : ClassId) (c0 : Int32) (c1 : Int32) (d : Addr) (kd : ClassId) (h0 : Heap) (n0 : Nat) (Z0 : n0 ≤ h0.size) (V_a : Arv Z h0 a ka .char (2 : Int32) [(.int c0), (.int c1)] (.int (0 : Int32))) (V_d : Arv Z h0 d kd .byte (2 : Int32) [(.int (0 : Int32)), (.int (0 : Int32))] (.int (0 : Int32))) (g_d : n0 ≤ d) (ne_a_d : a ≠ d) (hb_ : (255 : Int32) < c0 ∨ (255 : Int32) < c1) :
    OwnMet l (⟨"java/lang/StringUTF16", "compress", "([CI[BII)I"⟩ : MethodName) jdk_52_method_21_code 7 (some .int) ws ({ frames := 0, cells := 0, slots := 0, locals := 0 } : Room) #[(.ref a), (.int (0 : Int32)), (.ref d), (.int (0 : Int32)), (.int (2 : Int32))] Z h0 (QcmpU2 Z a ka c0 c1 d kd h0 n0) := by
  refine own_met (plainFor_of_name pn_50) ?_
  intro p e s m below meth c s₁ X0 hx hby hml hret hlk hown hnm hZ e0
  have N0 := Fr.nil n0
  have Z_ := Z0
  refine OwnGo.cast (ef_cmpU2 m a (0 : Int32) d (0 : Int32) (2 : Int32)) ?_
  show OwnGo p e below s _ _ _ s₁ (mkF m 0 _ [])
  have Kp : Keep h0 h0 [d] := Keep.refl h0 [d]
  refine .iconst X0 hx (hb hby d45_0) own_ki0 ?_
  refine .istore X0 hx (hb hby d45_1) (L' := #[.val (.ref a), .val (.int (0 : Int32)), .val (.ref d), .val (.int (0 : Int32)), .val (.int (2 : Int32)), .val (.int (0 : Int32)), .unset]) rfl ?_
  refine .iload X0 hx (hb hby d45_3) rfl ?_
  refine .iload X0 hx (hb hby d45_5) rfl ?_
  refine .icmpNo X0 hx (hb hby d45_7) (tlt ((by decide) : (0 : Int32) < (2 : Int32))).2.1 ?_
  refine .aloadN X0 hx (hb hby d45_10) rfl rfl ?_
  refine .iloadN X0 hx (hb hby d45_11) rfl ?_
  obtain ⟨cl59, Ar59, -, S59, -, H59, -⟩ := id V_a
  have hin59 : ¬ ((0 : Int32) < 0 ∨ cl59.slots.size ≤ ((0 : Int32)).toNatClampNeg) := inb_of S59 ⟨by decide, by decide⟩
  refine .st (fun _ => X0.caload hx (j := (0 : Int32)) (v := (.int c0)) (by first | exact Ar59.1 | (rw [e0]; exact Ar59.1)) (State.isArrayOf_alike hZ.alike Ar59.2.1) Ar59.2.2 hin59 (H59.at hin59 rfl) (g := (mkF m 12 #[.val (.ref a), .val (.int (0 : Int32)), .val (.ref d), .val (.int (0 : Int32)), .val (.int (2 : Int32)), .val (.int (0 : Int32)), .unset] [(.int (0 : Int32)), (.ref a)])) rfl rfl (hb hby d45_12) _) ?_
  show OwnGo p e below s _ _ _ s₁ (mkF m 13 _ [(.int c0)])
  refine .istore X0 hx (hb hby d45_13) (L' := #[.val (.ref a), .val (.int (0 : Int32)), .val (.ref d), .val (.int (0 : Int32)), .val (.int (2 : Int32)), .val (.int (0 : Int32)), .val (.int c0)]) rfl ?_
  refine .iload X0 hx (hb hby d45_15) rfl ?_
  refine .sipush X0 hx (hb hby d45_17) own_ks255 ?_
  by_cases q0 : (255 : Int32) < c0
  · refine .icmpNo X0 hx (hb hby d45_20) (tlt (q0 : (255 : Int32) < c0)).2.2.2 ?_
    refine .iload X0 hx (hb hby d45_23) rfl ?_
    exact OwnGo.ret X0 hx hret hlk rfl (Or.inl ⟨rfl, Or.inl rfl, _, rfl⟩) (hb hby d45_25) (by show QcmpU2 Z a ka c0 c1 d kd h0 n0 _ s₁.heap _; rw [e0]; exact ⟨_, rfl, N0, Kp, (Or.inl ⟨rfl, q0⟩)⟩) (by decide) (by decide)
  · refine .icmpYes (pc := 20) X0 hx 26 (hb hby d45_20) (flt (q0 : ¬ ((255 : Int32) < c0))).2.2.2 (by decide) (by decide) ?_
    refine .aloadN X0 hx (hb hby d45_26) rfl rfl ?_
    refine .iloadN X0 hx (hb hby d45_27) rfl ?_
    refine .iload X0 hx (hb hby d45_28) rfl ?_
    refine .st (fun _ => XS.i2b X0.here hx rfl (hb hby d45_30) rfl) ?_
    show OwnGo p e below s _ _ _ s₁ (mkF m 31 _ [(.int (c0.toInt8.toInt32)), (.int (0 : Int32)), (.ref d)])
    obtain ⟨cl60, Ar60, q60, S60, N60, H60, G60⟩ := id V_d
    have hin60 : ¬ ((0 : Int32) < 0 ∨ cl60.slots.size ≤ ((0 : Int32)).toNatClampNeg) := inb_of S60 ⟨by decide, by decide⟩
    obtain ⟨T60, h60, X60, e60, W60, st60⟩ := stB X0 hx hZ e0 Ar60 (j := (0 : Int32)) hin60 (g := (mkF m 31 #[.val (.ref a), .val (.int (0 : Int32)), .val (.ref d), .val (.int (0 : Int32)), .val (.int (2 : Int32)), .val (.int (0 : Int32)), .val (.int c0)] [(.int (c0.toInt8.toInt32)), (.int (0 : Int32)), (.ref d)])) rfl rfl (hb hby d45_31)
    have V_d : Arv Z h60 d kd .byte (2 : Int32) [(.int (nar .byte (c0.toInt8.toInt32))), (.int (0 : Int32))] (.int (0 : Int32)) := Arv.set Ar60 q60 S60 N60 H60 G60 (fits_nar_byte _) W60 0 rfl (Nat.le_of_ble_eq_true rfl)
    rw [show nar .byte (c0.toInt8.toInt32) = (c0.toInt8.toInt32) from (own_nb _)] at V_d
    have V_a := V_a.other W60 ne_a_d
    have Kp := Kp.wr W60 (Or.inl (List.mem_of_getElem? (i := 0) rfl))
    have N60 := Fr.snoc X60 N0 g_d
    have Z_ : n0 ≤ h60.size := by rw [W60.size]; exact Z_
    refine .st st60 ?_
    show OwnGo p e below s _ _ _ T60 (mkF m 32 _ [])
    refine .iinc X60 hx (hb hby d45_32) rfl own_ka0_1 (L' := #[.val (.ref a), .val (.int (1 : Int32)), .val (.ref d), .val (.int (0 : Int32)), .val (.int (2 : Int32)), .val (.int (0 : Int32)), .val (.int c0)]) rfl ?_
    refine .iinc X60 hx (hb hby d45_35) rfl own_ka0_1 (L' := #[.val (.ref a), .val (.int (1 : Int32)), .val (.ref d), .val (.int (1 : Int32)), .val (.int (2 : Int32)), .val (.int (0 : Int32)), .val (.int c0)]) rfl ?_
    refine .iinc X60 hx (hb hby d45_38) rfl own_ka0_1 (L' := #[.val (.ref a), .val (.int (1 : Int32)), .val (.ref d), .val (.int (1 : Int32)), .val (.int (2 : Int32)), .val (.int (1 : Int32)), .val (.int c0)]) rfl ?_
    refine .goto (pc := 41) X60 hx 3 (hb hby d45_41) (by decide) (by decide) ?_
    refine .iload X60 hx (hb hby d45_3) rfl ?_
    refine .iload X60 hx (hb hby d45_5) rfl ?_
    refine .icmpNo X60 hx (hb hby d45_7) (tlt ((by decide) : (1 : Int32) < (2 : Int32))).2.1 ?_
    refine .aloadN X60 hx (hb hby d45_10) rfl rfl ?_
    refine .iloadN X60 hx (hb hby d45_11) rfl ?_
    obtain ⟨cl61, Ar61, -, S61, -, H61, -⟩ := id V_a
    have hin61 : ¬ ((1 : Int32) < 0 ∨ cl61.slots.size ≤ ((1 : Int32)).toNatClampNeg) := inb_of S61 ⟨by decide, by decide⟩
    refine .st (fun _ => X60.caload hx (j := (1 : Int32)) (v := (.int c1)) (by first | exact Ar61.1 | (rw [e60]; exact Ar61.1)) (State.isArrayOf_alike hZ.alike Ar61.2.1) Ar61.2.2 hin61 (H61.at hin61 rfl) (g := (mkF m 12 #[.val (.ref a), .val (.int (1 : Int32)), .val (.ref d), .val (.int (1 : Int32)), .val (.int (2 : Int32)), .val (.int (1 : Int32)), .val (.int c0)] [(.int (1 : Int32)), (.ref a)])) rfl rfl (hb hby d45_12) _) ?_
    show OwnGo p e below s _ _ _ T60 (mkF m 13 _ [(.int c1)])
    refine .istore X60 hx (hb hby d45_13) (L' := #[.val (.ref a), .val (.int (1 : Int32)), .val (.ref d), .val (.int (1 : Int32)), .val (.int (2 : Int32)), .val (.int (1 : Int32)), .val (.int c1)]) rfl ?_
    refine .iload X60 hx (hb hby d45_15) rfl ?_
    refine .sipush X60 hx (hb hby d45_17) own_ks255 ?_
    by_cases q1 : (255 : Int32) < c1
    · refine .icmpNo X60 hx (hb hby d45_20) (tlt (q1 : (255 : Int32) < c1)).2.2.2 ?_
      refine .iload X60 hx (hb hby d45_23) rfl ?_
      exact OwnGo.ret X60 hx hret hlk rfl (Or.inl ⟨rfl, Or.inl rfl, _, rfl⟩) (hb hby d45_25) (by show QcmpU2 Z a ka c0 c1 d kd h0 n0 _ T60.heap _; rw [e60]; exact ⟨_, rfl, N60, Kp, (Or.inr ⟨rfl, q1⟩)⟩) (by decide) (by decide)
    · refine .icmpYes (pc := 20) X60 hx 26 (hb hby d45_20) (flt (q1 : ¬ ((255 : Int32) < c1))).2.2.2 (by decide) (by decide) ?_
      exact absurd hb_ (by simp only [not_or]; exact ⟨q0, q1⟩)
def QcpL2 (Z : State) (a : Addr) (ka : ClassId) (c0 : Int32) (c1 : Int32) (h0 : Heap) (n0 : Nat) (v : Option Value) (h : Heap) (L : List Loc) : Prop := ∃ (t : Addr) (kb : ClassId), v = some (.ref t) ∧ Fr n0 L ∧ Keep h0 h [] ∧ Arv Z h t kb .byte (2 : Int32) [(.int c0.toInt8.toInt32), (.int c1.toInt8.toInt32)] (.int (0 : Int32)) ∧ h0.size ≤ t
theorem rmcpL2 (l : Launch) (Z : State) (a0 : Array Value) (hw : own_tb a0 Z) (ws : List Jvm.Cond) (a : Addr) (ka : ClassId) (c0 : Int32) (c1 : Int32) (h0 : Heap) (n0 : Nat) (Z0 : n0 ≤ h0.size) (V_a : Arv Z h0 a ka .char (2 : Int32) [(.int c0), (.int c1)] (.int (0 : Int32))) (hl : ¬ (255 : Int32) < c0 ∧ ¬ (255 : Int32) < c1) :
    OwnMet l (⟨"java/lang/StringUTF16", "compress", "([CII)[B"⟩ : MethodName) jdk_52_method_16_code 6 (some (.array .byte)) ws ({ frames := 1, cells := 1, slots := 2, locals := 18 } : Room) #[(.ref a), (.int (0 : Int32)), (.int (2 : Int32))] Z h0 (QcpL2 Z a ka c0 c1 h0 n0) := by
  refine own_met (plainFor_of_name pn_50) ?_
  intro p e s m below meth c s₁ X0 hx hby hml hret hlk hown hnm hZ e0
  have N0 := Fr.nil n0
  have Z_ := Z0
  refine OwnGo.cast (ef_cpL2 m a (0 : Int32) (2 : Int32)) ?_
  show OwnGo p e below s _ _ _ s₁ (mkF m 0 _ [])
  have Kp : Keep h0 h0 [] := Keep.refl h0 []
  refine .iloadN X0 hx (hb hby d44_0) rfl ?_
  obtain ⟨T62, h62, k62, X62, e62, E62, A62, Ex62, st62⟩ := newPE X0 hx hZ (W_ hw 19 rfl) e0 (g := (mkF m 1 #[.val (.ref a), .val (.int (0 : Int32)), .val (.int (2 : Int32)), .unset, .unset, .unset] [(.int (2 : Int32))])) rfl (hb hby d44_1) rfl (by decide) (cap := 2) (by decide) (by decide) (by decide) (by decide) (ad := "[B") (by decide)
  obtain ⟨b62, g62⟩ : ∃ z, z = h0.size := ⟨_, rfl⟩
  rw [← g62] at A62 Ex62 st62
  have ne_a_b62 : a ≠ b62 := Nat.ne_of_lt (Nat.lt_of_lt_of_le V_a.lt (Nat.le_of_eq g62.symm))
  have g_b62 : n0 ≤ b62 := Nat.le_trans Z_ (Nat.le_of_eq g62.symm)
  have sz_b62 : h0.size ≤ b62 := Nat.le_trans Kp.1 (Nat.le_of_eq g62.symm)
  have V_a := V_a.ext E62
  have Kp := Kp.ext E62
  have Z_ : n0 ≤ h62.size := Nat.le_trans Z_ E62.1
  have V_b62 : Arv Z h62 b62 k62 .byte (2 : Int32) [(.int (0 : Int32)), (.int (0 : Int32))] (.int (0 : Int32)) := (Arv.new A62 (by decide)).pad (pad_rep [] (.int (0 : Int32)) 2)
  have E_b62 := Ex62
  refine .st st62 ?_
  show OwnGo p e below s _ _ _ T62 (mkF m 3 _ [(.ref b62)])
  refine .astoreN X62 hx (hb hby d44_3) rfl (L' := #[.val (.ref a), .val (.int (0 : Int32)), .val (.int (2 : Int32)), .val (.ref b62), .unset, .unset]) rfl ?_
  refine .aloadN X62 hx (hb hby d44_4) rfl rfl ?_
  refine .iloadN X62 hx (hb hby d44_5) rfl ?_
  refine .aloadN X62 hx (hb hby d44_6) rfl rfl ?_
  refine .iconst X62 hx (hb hby d44_7) own_ki0 ?_
  refine .iloadN X62 hx (hb hby d44_8) rfl ?_
  obtain ⟨_, _, ⟨T63, L63, k63, n63⟩, -, X63, ⟨Lc63, hQ63, l63, y63, z63⟩, st63⟩ := Jvm.LawKit.callS X62 hx (y := (⟨"java/lang/StringUTF16", "compress", "([CI[BII)I"⟩ : MethodName)) hown (mvT hZ (W_ hw 237 rfl)) (mvT hZ (W_ hw 238 rfl)) (mvT hZ (W_ hw 235 rfl)) (mvT hZ (W_ hw 239 rfl)) (by decide) (backOf (W := 0) (rmcmpL2 l Z a0 hw [] a ka c0 c1 b62 k62 h62 n0 Z_ V_a V_b62 g_b62 ne_a_b62 hl) hZ (W_ hw 239 rfl) (W_ hw 235 rfl) (by decide) (by decide)) (g := (mkF m 9 #[.val (.ref a), .val (.int (0 : Int32)), .val (.int (2 : Int32)), .val (.ref b62), .unset, .unset] [(.int (2 : Int32)), (.int (0 : Int32)), (.ref b62), (.int (0 : Int32)), (.ref a)])) rfl (by rw [hml]; rfl) (argsL := [(.ref a), (.int (0 : Int32)), (.ref b62), (.int (0 : Int32)), (.int (2 : Int32))]) (rest := []) (lenOf pd_11 rfl) rfl (Nat.le_of_eq rfl) (hb hby d44_9) (fun _ _ => ⟨rfl, e62, (by decide : 1 + 0 ≤ _), (by decide : 2 + 0 ≤ _)⟩)
  dsimp only [Pt.U, Pt.locs, Pt.cells, Pt.slots] at X63 l63 y63 z63 st63 hQ63
  subst y63 z63
  obtain ⟨rfl, N63q, K63, V63⟩ := hQ63
  have N63 := own_frl l63 N0 N63q
  have Z_ : n0 ≤ T63.heap.size := Nat.le_trans Z_ K63.1
  have V_a := V_a.keep K63 (ninS ne_a_b62 nin0)
  have E_b62 := E_b62.keep K63
  have Kp := Kp.trans K63 (allS (Or.inr sz_b62) all0)
  refine .st st63 ?_
  show OwnGo p e below s _ _ _ T63 (mkF m 12 _ [(.int (2 : Int32))])
  refine .istore X63 hx (hb hby d44_12) (L' := #[.val (.ref a), .val (.int (0 : Int32)), .val (.int (2 : Int32)), .val (.ref b62), .val (.int (2 : Int32)), .unset]) rfl ?_
  refine .iload X63 hx (hb hby d44_14) rfl ?_
  refine .iloadN X63 hx (hb hby d44_16) rfl ?_
  refine .icmpYes (pc := 17) X63 hx 57 (hb hby d44_17) (teq ((by decide) : (2 : Int32) = (2 : Int32))).1 (by decide) (by decide) ?_
  refine .aloadN X63 hx (hb hby d44_57) rfl rfl ?_
  exact OwnGo.ret X63 hx hret hlk rfl (Or.inr (Or.inr (Or.inr (Or.inr ⟨rfl, rfl, rfl⟩)))) (hb hby d44_58) (by show QcpL2 Z a ka c0 c1 h0 n0 _ T63.heap _; exact ⟨b62, k62, rfl, N63, Kp, V63, sz_b62⟩) (by decide) (by decide)
def QcpU2 (Z : State) (a : Addr) (ka : ClassId) (c0 : Int32) (c1 : Int32) (h0 : Heap) (n0 : Nat) (v : Option Value) (h : Heap) (L : List Loc) : Prop := ∃ (t : Addr) (kb : ClassId), v = some (.ref t) ∧ Fr n0 L ∧ Keep h0 h [] ∧ Arv Z h t kb .byte (4 : Int32) [(.int (own_lo c0)), (.int (own_hi c0)), (.int (own_lo c1)), (.int (own_hi c1))] (.int (0 : Int32)) ∧ h0.size ≤ t
theorem rmcpU2 (l : Launch) (Z : State) (a0 : Array Value) (hw : own_tb a0 Z) (ws : List Jvm.Cond) (a : Addr) (ka : ClassId) (c0 : Int32) (c1 : Int32) (h0 : Heap) (n0 : Nat) (Z0 : n0 ≤ h0.size) (O_ : Old Z n0 h0) (S_AD : Sta Z Z.heap "java/lang/StringUTF16" "$assertionsDisabled" "Z" (.int (1 : Int32))) (S_HB : Sta Z Z.heap "java/lang/StringUTF16" "HI_BYTE_SHIFT" "I" (.int (0 : Int32))) (S_LB : Sta Z Z.heap "java/lang/StringUTF16" "LO_BYTE_SHIFT" "I" (.int (8 : Int32))) (V_a : Arv Z h0 a ka .char (2 : Int32) [(.int c0), (.int c1)] (.int (0 : Int32))) (hb_ : (255 : Int32) < c0 ∨ (255 : Int32) < c1) (P_c0 : own_u c0) (P_c1 : own_u c1) :
    OwnMet l (⟨"java/lang/StringUTF16", "compress", "([CII)[B"⟩ : MethodName) jdk_52_method_16_code 6 (some (.array .byte)) ws ({ frames := 3, cells := 2, slots := 6, locals := 40 } : Room) #[(.ref a), (.int (0 : Int32)), (.int (2 : Int32))] Z h0 (QcpU2 Z a ka c0 c1 h0 n0) := by
  refine own_met (plainFor_of_name pn_50) ?_
  intro p e s m below meth c s₁ X0 hx hby hml hret hlk hown hnm hZ e0
  have N0 := Fr.nil n0
  have Z_ := Z0
  refine OwnGo.cast (ef_cpU2 m a (0 : Int32) (2 : Int32)) ?_
  show OwnGo p e below s _ _ _ s₁ (mkF m 0 _ [])
  have Kp : Keep h0 h0 [] := Keep.refl h0 []
  refine .iloadN X0 hx (hb hby d44_0) rfl ?_
  obtain ⟨T64, h64, k64, X64, e64, E64, A64, Ex64, st64⟩ := newPE X0 hx hZ (W_ hw 19 rfl) e0 (g := (mkF m 1 #[.val (.ref a), .val (.int (0 : Int32)), .val (.int (2 : Int32)), .unset, .unset, .unset] [(.int (2 : Int32))])) rfl (hb hby d44_1) rfl (by decide) (cap := 2) (by decide) (by decide) (by decide) (by decide) (ad := "[B") (by decide)
  obtain ⟨b64, g64⟩ : ∃ z, z = h0.size := ⟨_, rfl⟩
  rw [← g64] at A64 Ex64 st64
  have ne_a_b64 : a ≠ b64 := Nat.ne_of_lt (Nat.lt_of_lt_of_le V_a.lt (Nat.le_of_eq g64.symm))
  have g_b64 : n0 ≤ b64 := Nat.le_trans Z_ (Nat.le_of_eq g64.symm)
  have sz_b64 : h0.size ≤ b64 := Nat.le_trans Kp.1 (Nat.le_of_eq g64.symm)
  have V_a := V_a.ext E64
  have O_ := O_.ext E64
  have Kp := Kp.ext E64
  have Z_ : n0 ≤ h64.size := Nat.le_trans Z_ E64.1
  have V_b64 : Arv Z h64 b64 k64 .byte (2 : Int32) [(.int (0 : Int32)), (.int (0 : Int32))] (.int (0 : Int32)) := (Arv.new A64 (by decide)).pad (pad_rep [] (.int (0 : Int32)) 2)
  have E_b64 := Ex64
  refine .st st64 ?_
  show OwnGo p e below s _ _ _ T64 (mkF m 3 _ [(.ref b64)])
  refine .astoreN X64 hx (hb hby d44_3) rfl (L' := #[.val (.ref a), .val (.int (0 : Int32)), .val (.int (2 : Int32)), .val (.ref b64), .unset, .unset]) rfl ?_
  refine .aloadN X64 hx (hb hby d44_4) rfl rfl ?_
  refine .iloadN X64 hx (hb hby d44_5) rfl ?_
  refine .aloadN X64 hx (hb hby d44_6) rfl rfl ?_
  refine .iconst X64 hx (hb hby d44_7) own_ki0 ?_
  refine .iloadN X64 hx (hb hby d44_8) rfl ?_
  obtain ⟨_, _, ⟨T65, L65, k65, n65⟩, -, X65, ⟨Lc65, hQ65, l65, y65, z65⟩, st65⟩ := Jvm.LawKit.callS X64 hx (y := (⟨"java/lang/StringUTF16", "compress", "([CI[BII)I"⟩ : MethodName)) hown (mvT hZ (W_ hw 237 rfl)) (mvT hZ (W_ hw 238 rfl)) (mvT hZ (W_ hw 235 rfl)) (mvT hZ (W_ hw 239 rfl)) (by decide) (backOf (W := 0) (rmcmpU2 l Z a0 hw [] a ka c0 c1 b64 k64 h64 n0 Z_ V_a V_b64 g_b64 ne_a_b64 hb_) hZ (W_ hw 239 rfl) (W_ hw 235 rfl) (by decide) (by decide)) (g := (mkF m 9 #[.val (.ref a), .val (.int (0 : Int32)), .val (.int (2 : Int32)), .val (.ref b64), .unset, .unset] [(.int (2 : Int32)), (.int (0 : Int32)), (.ref b64), (.int (0 : Int32)), (.ref a)])) rfl (by rw [hml]; rfl) (argsL := [(.ref a), (.int (0 : Int32)), (.ref b64), (.int (0 : Int32)), (.int (2 : Int32))]) (rest := []) (lenOf pd_11 rfl) rfl (Nat.le_of_eq rfl) (hb hby d44_9) (fun _ _ => ⟨rfl, e64, (by decide : 1 + 0 ≤ _), (by decide : 2 + 0 ≤ _)⟩)
  dsimp only [Pt.U, Pt.locs, Pt.cells, Pt.slots] at X65 l65 y65 z65 st65 hQ65
  subst y65 z65
  obtain ⟨k65, rfl, N65q, K65, hk65⟩ := hQ65
  have N65 := own_frl l65 N0 N65q
  have Z_ : n0 ≤ T65.heap.size := Nat.le_trans Z_ K65.1
  have V_a := V_a.keep K65 (ninS ne_a_b64 nin0)
  have E_b64 := E_b64.keep K65
  have O_ := O_.keep K65 (allS g_b64 all0)
  have Kp := Kp.trans K65 (allS (Or.inr sz_b64) all0)
  refine .st st65 ?_
  show OwnGo p e below s _ _ _ T65 (mkF m 12 _ [(.int k65)])
  refine .istore X65 hx (hb hby d44_12) (L' := #[.val (.ref a), .val (.int (0 : Int32)), .val (.int (2 : Int32)), .val (.ref b64), .val (.int k65), .unset]) rfl ?_
  refine .iload X65 hx (hb hby d44_14) rfl ?_
  refine .iloadN X65 hx (hb hby d44_16) rfl ?_
  have hkn : ¬ (k65 = (2 : Int32)) := by rcases hk65 with ⟨rfl, -⟩ | ⟨rfl, -⟩ <;> decide
  refine .icmpNo X65 hx (hb hby d44_17) (feq (hkn : ¬ (k65 = (2 : Int32)))).1 ?_
  refine .aloadN X65 hx (hb hby d44_20) rfl rfl ?_
  refine .iloadN X65 hx (hb hby d44_21) rfl ?_
  refine .iloadN X65 hx (hb hby d44_22) rfl ?_
  obtain ⟨_, _, ⟨T66, L66, k66, n66⟩, -, X66, ⟨Lc66, hQ66, l66, y66, z66⟩, st66⟩ := Jvm.LawKit.callS X65 hx (y := (⟨"java/lang/StringUTF16", "toBytes", "([CII)[B"⟩ : MethodName)) hown (mvT hZ (W_ hw 244 rfl)) (mvT hZ (W_ hw 245 rfl)) (mvT hZ (W_ hw 235 rfl)) (mvT hZ (W_ hw 246 rfl)) (by decide) (backOf (W := 0) (rmtoB2 l Z a0 hw [] a ka c0 c1 T65.heap n0 Z_ O_ S_AD S_HB S_LB V_a) hZ (W_ hw 246 rfl) (W_ hw 235 rfl) (by decide) (by decide)) (g := (mkF m 23 #[.val (.ref a), .val (.int (0 : Int32)), .val (.int (2 : Int32)), .val (.ref b64), .val (.int k65), .unset] [(.int (2 : Int32)), (.int (0 : Int32)), (.ref a)])) rfl (by rw [hml]; rfl) (argsL := [(.ref a), (.int (0 : Int32)), (.int (2 : Int32))]) (rest := []) (lenOf pd_12 rfl) rfl (Nat.le_of_eq rfl) (hb hby d44_23) (fun _ _ => ⟨rfl, rfl, (by decide : 1 + 1 ≤ _), (by decide : 2 + 4 ≤ _)⟩)
  dsimp only [Pt.U, Pt.locs, Pt.cells, Pt.slots] at X66 l66 y66 z66 st66 hQ66
  subst y66 z66
  obtain ⟨t66, kb66, rfl, N66q, K66, V66, zt66⟩ := hQ66
  have N66 := own_frl l66 N65 N66q
  have ne_a_t66 : a ≠ t66 := Nat.ne_of_lt (Nat.lt_of_lt_of_le V_a.lt zt66)
  have ne_b64_t66 : b64 ≠ t66 := Nat.ne_of_lt (Nat.lt_of_lt_of_le E_b64.lt zt66)
  have g_t66 : n0 ≤ t66 := Nat.le_trans Z_ zt66
  have sz_t66 : h0.size ≤ t66 := Nat.le_trans Kp.1 zt66
  have Z_ : n0 ≤ T66.heap.size := Nat.le_trans Z_ K66.1
  have V_a := V_a.keep K66 nin0
  have E_b64 := E_b64.keep K66
  have O_ := O_.keep K66 all0
  have Kp := Kp.trans K66 all0
  refine .st st66 ?_
  show OwnGo p e below s _ _ _ T66 (mkF m 26 _ [(.ref t66)])
  refine .astore X66 hx (hb hby d44_26) rfl (L' := #[.val (.ref a), .val (.int (0 : Int32)), .val (.int (2 : Int32)), .val (.ref b64), .val (.int k65), .val (.ref t66)]) rfl ?_
  refine .aload X66 hx (hb hby d44_28) rfl rfl ?_
  refine .iload X66 hx (hb hby d44_30) rfl ?_
  rcases hk65 with ⟨rfl, hk⟩ | ⟨rfl, hk⟩
  · show OwnGo p e below s _ _ _ T66 (mkF m 32 _ [(.int (0 : Int32)), (.ref t66)])
    obtain ⟨_, _, ⟨T67, L67, k67, n67⟩, -, X67, ⟨Lc67, hQ67, l67, y67, z67⟩, st67⟩ := Jvm.LawKit.callS X66 hx (y := (⟨"java/lang/StringUTF16", "getChar", "([BI)C"⟩ : MethodName)) hown (mvT hZ (W_ hw 260 rfl)) (mvT hZ (W_ hw 261 rfl)) (mvT hZ (W_ hw 235 rfl)) (mvT hZ (W_ hw 262 rfl)) (by decide) (backOf (W := 0) (rmgetC0 l Z a0 hw [] t66 kb66 c0 (4 : Int32) [(.int (own_lo c0)), (.int (own_hi c0)), (.int (own_lo c1)), (.int (own_hi c1))] T66.heap n0 Z_ O_ S_AD S_HB S_LB V66 ⟨by decide, by decide⟩ ⟨by decide, by decide⟩ rfl rfl P_c0) hZ (W_ hw 262 rfl) (W_ hw 235 rfl) (by decide) (by decide)) (g := (mkF m 32 #[.val (.ref a), .val (.int (0 : Int32)), .val (.int (2 : Int32)), .val (.ref b64), .val (.int (0 : Int32)), .val (.ref t66)] [(.int (0 : Int32)), (.ref t66)])) rfl (by rw [hml]; rfl) (argsL := [(.ref t66), (.int (0 : Int32))]) (rest := []) (lenOf pd_7 rfl) rfl (Nat.le_of_eq rfl) (hb hby d44_32) (fun _ _ => ⟨rfl, rfl, (by decide : 2 + 0 ≤ _), (by decide : 6 + 0 ≤ _)⟩)
    dsimp only [Pt.U, Pt.locs, Pt.cells, Pt.slots] at X67 l67 y67 z67 st67 hQ67
    subst y67 z67
    obtain ⟨rfl, N67q, e67⟩ := hQ67
    have N67 := own_frl l67 N66 N67q
    refine .st st67 ?_
    show OwnGo p e below s _ _ _ T67 (mkF m 35 _ [(.int c0)])
    refine .sipush X67 hx (hb hby d44_35) own_ks255 ?_
    refine .icmpYes (pc := 38) X67 hx 54 (hb hby d44_38) (tlt (hk : (255 : Int32) < c0)).2.2.1 (by decide) (by decide) ?_
    refine .aload X67 hx (hb hby d44_54) rfl rfl ?_
    exact OwnGo.ret X67 hx hret hlk rfl (Or.inr (Or.inr (Or.inr (Or.inr ⟨rfl, rfl, rfl⟩)))) (hb hby d44_56) (by show QcpU2 Z a ka c0 c1 h0 n0 _ T67.heap _; rw [e67]; exact ⟨t66, kb66, rfl, N67, Kp, V66, sz_t66⟩) (by decide) (by decide)
  · show OwnGo p e below s _ _ _ T66 (mkF m 32 _ [(.int (1 : Int32)), (.ref t66)])
    obtain ⟨_, _, ⟨T68, L68, k68, n68⟩, -, X68, ⟨Lc68, hQ68, l68, y68, z68⟩, st68⟩ := Jvm.LawKit.callS X66 hx (y := (⟨"java/lang/StringUTF16", "getChar", "([BI)C"⟩ : MethodName)) hown (mvT hZ (W_ hw 260 rfl)) (mvT hZ (W_ hw 261 rfl)) (mvT hZ (W_ hw 235 rfl)) (mvT hZ (W_ hw 262 rfl)) (by decide) (backOf (W := 0) (rmgetC1 l Z a0 hw [] t66 kb66 c1 (4 : Int32) [(.int (own_lo c0)), (.int (own_hi c0)), (.int (own_lo c1)), (.int (own_hi c1))] T66.heap n0 Z_ O_ S_AD S_HB S_LB V66 ⟨by decide, by decide⟩ ⟨by decide, by decide⟩ rfl rfl P_c1) hZ (W_ hw 262 rfl) (W_ hw 235 rfl) (by decide) (by decide)) (g := (mkF m 32 #[.val (.ref a), .val (.int (0 : Int32)), .val (.int (2 : Int32)), .val (.ref b64), .val (.int (1 : Int32)), .val (.ref t66)] [(.int (1 : Int32)), (.ref t66)])) rfl (by rw [hml]; rfl) (argsL := [(.ref t66), (.int (1 : Int32))]) (rest := []) (lenOf pd_7 rfl) rfl (Nat.le_of_eq rfl) (hb hby d44_32) (fun _ _ => ⟨rfl, rfl, (by decide : 2 + 0 ≤ _), (by decide : 6 + 0 ≤ _)⟩)
    dsimp only [Pt.U, Pt.locs, Pt.cells, Pt.slots] at X68 l68 y68 z68 st68 hQ68
    subst y68 z68
    obtain ⟨rfl, N68q, e68⟩ := hQ68
    have N68 := own_frl l68 N66 N68q
    refine .st st68 ?_
    show OwnGo p e below s _ _ _ T68 (mkF m 35 _ [(.int c1)])
    refine .sipush X68 hx (hb hby d44_35) own_ks255 ?_
    refine .icmpYes (pc := 38) X68 hx 54 (hb hby d44_38) (tlt (hk : (255 : Int32) < c1)).2.2.1 (by decide) (by decide) ?_
    refine .aload X68 hx (hb hby d44_54) rfl rfl ?_
    exact OwnGo.ret X68 hx hret hlk rfl (Or.inr (Or.inr (Or.inr (Or.inr ⟨rfl, rfl, rfl⟩)))) (hb hby d44_56) (by show QcpU2 Z a ka c0 c1 h0 n0 _ T68.heap _; rw [e68]; exact ⟨t66, kb66, rfl, N68, Kp, V66, sz_t66⟩) (by decide) (by decide)
def Qcfl2_0 (Z : State) (t : Addr) (kb : ClassId) (vs : List Value) (h0 : Heap) (n0 : Nat) (v : Option Value) (h : Heap) (L : List Loc) : Prop := v = some (.int (0 : Int32)) ∧ Fr n0 L ∧ h = h0
theorem rmcfl2_0 (l : Launch) (Z : State) (a0 : Array Value) (hw : own_tb a0 Z) (ws : List Jvm.Cond) (t : Addr) (kb : ClassId) (vs : List Value) (h0 : Heap) (n0 : Nat) (Z0 : n0 ≤ h0.size) (V_t : Arv Z h0 t kb .byte (2 : Int32) vs (.int (0 : Int32))) :
    OwnMet l (⟨"java/lang/StringUTF16", "coderFromArrayLen", "([BI)B"⟩ : MethodName) jdk_52_method_15_code 2 (some .byte) ws ({ frames := 0, cells := 0, slots := 0, locals := 0 } : Room) #[(.ref t), (.int (2 : Int32))] Z h0 (Qcfl2_0 Z t kb vs h0 n0) := by
  refine own_met (plainFor_of_name pn_50) ?_
  intro p e s m below meth c s₁ X0 hx hby hml hret hlk hown hnm hZ e0
  have N0 := Fr.nil n0
  have Z_ := Z0
  refine OwnGo.cast (ef_cfl2_0 m t (2 : Int32)) ?_
  show OwnGo p e below s _ _ _ s₁ (mkF m 0 _ [])
  refine .iloadN X0 hx (hb hby d46_0) rfl ?_
  refine .aloadN X0 hx (hb hby d46_1) rfl rfl ?_
  obtain ⟨cl69, Ar69, -, S69, N69, -, -⟩ := id V_t
  refine .st (fun _ => own_len hZ (len_of S69 N69) Ar69 X0 e0 hx (g := (mkF m 2 #[.val (.ref t), .val (.int (2 : Int32))] [(.ref t), (.int (2 : Int32))])) rfl rfl (hb hby d46_2) _) ?_
  show OwnGo p e below s _ _ _ s₁ (mkF m 3 _ [(.int (2 : Int32)), (.int (2 : Int32))])
  refine .st (fun _ => XS.isub X0.here hx rfl (hb hby d46_3) rfl) ?_
  show OwnGo p e below s _ _ _ s₁ (mkF m 4 _ [(.int (0 : Int32))])
  refine .bipush X0 hx (hb hby d46_4) own_kb31 ?_
  refine .st (fun _ => XS.iushr X0.here hx rfl (hb hby d46_6) rfl) ?_
  show OwnGo p e below s _ _ _ s₁ (mkF m 7 _ [(.int (((0 : Int32).toUInt32 >>> ((31 : Int32) &&& 31).toUInt32).toInt32))])
  refine .st (fun _ => XS.i2b X0.here hx rfl (hb hby d46_7) rfl) ?_
  show OwnGo p e below s _ _ _ s₁ (mkF m 8 _ [(.int ((((0 : Int32).toUInt32 >>> ((31 : Int32) &&& 31).toUInt32).toInt32).toInt8.toInt32))])
  rw [show ((((0 : Int32).toUInt32 >>> ((31 : Int32) &&& 31).toUInt32).toInt32).toInt8.toInt32) = (0 : Int32) from by decide]
  show OwnGo p e below s _ _ _ s₁ (mkF m 8 _ [(.int (0 : Int32))])
  exact OwnGo.retN X0 hx (t := .byte) hret hlk (by simp) (hb hby d46_8) (by show Qcfl2_0 Z t kb vs h0 n0 _ s₁.heap _; rw [e0]; exact ⟨rfl, N0, rfl⟩) (by decide) (by decide)
def Qcfl2_1 (Z : State) (t : Addr) (kb : ClassId) (vs : List Value) (h0 : Heap) (n0 : Nat) (v : Option Value) (h : Heap) (L : List Loc) : Prop := v = some (.int (1 : Int32)) ∧ Fr n0 L ∧ h = h0
theorem rmcfl2_1 (l : Launch) (Z : State) (a0 : Array Value) (hw : own_tb a0 Z) (ws : List Jvm.Cond) (t : Addr) (kb : ClassId) (vs : List Value) (h0 : Heap) (n0 : Nat) (Z0 : n0 ≤ h0.size) (V_t : Arv Z h0 t kb .byte (4 : Int32) vs (.int (0 : Int32))) :
    OwnMet l (⟨"java/lang/StringUTF16", "coderFromArrayLen", "([BI)B"⟩ : MethodName) jdk_52_method_15_code 2 (some .byte) ws ({ frames := 0, cells := 0, slots := 0, locals := 0 } : Room) #[(.ref t), (.int (2 : Int32))] Z h0 (Qcfl2_1 Z t kb vs h0 n0) := by
  refine own_met (plainFor_of_name pn_50) ?_
  intro p e s m below meth c s₁ X0 hx hby hml hret hlk hown hnm hZ e0
  have N0 := Fr.nil n0
  have Z_ := Z0
  refine OwnGo.cast (ef_cfl2_1 m t (2 : Int32)) ?_
  show OwnGo p e below s _ _ _ s₁ (mkF m 0 _ [])
  refine .iloadN X0 hx (hb hby d46_0) rfl ?_
  refine .aloadN X0 hx (hb hby d46_1) rfl rfl ?_
  obtain ⟨cl70, Ar70, -, S70, N70, -, -⟩ := id V_t
  refine .st (fun _ => own_len hZ (len_of S70 N70) Ar70 X0 e0 hx (g := (mkF m 2 #[.val (.ref t), .val (.int (2 : Int32))] [(.ref t), (.int (2 : Int32))])) rfl rfl (hb hby d46_2) _) ?_
  show OwnGo p e below s _ _ _ s₁ (mkF m 3 _ [(.int (4 : Int32)), (.int (2 : Int32))])
  refine .st (fun _ => XS.isub X0.here hx rfl (hb hby d46_3) rfl) ?_
  show OwnGo p e below s _ _ _ s₁ (mkF m 4 _ [(.int (-2 : Int32))])
  refine .bipush X0 hx (hb hby d46_4) own_kb31 ?_
  refine .st (fun _ => XS.iushr X0.here hx rfl (hb hby d46_6) rfl) ?_
  show OwnGo p e below s _ _ _ s₁ (mkF m 7 _ [(.int (((-2 : Int32).toUInt32 >>> ((31 : Int32) &&& 31).toUInt32).toInt32))])
  refine .st (fun _ => XS.i2b X0.here hx rfl (hb hby d46_7) rfl) ?_
  show OwnGo p e below s _ _ _ s₁ (mkF m 8 _ [(.int ((((-2 : Int32).toUInt32 >>> ((31 : Int32) &&& 31).toUInt32).toInt32).toInt8.toInt32))])
  rw [show ((((-2 : Int32).toUInt32 >>> ((31 : Int32) &&& 31).toUInt32).toInt32).toInt8.toInt32) = (1 : Int32) from by decide]
  show OwnGo p e below s _ _ _ s₁ (mkF m 8 _ [(.int (1 : Int32))])
  exact OwnGo.retN X0 hx (t := .byte) hret hlk (by simp) (hb hby d46_8) (by show Qcfl2_1 Z t kb vs h0 n0 _ s₁.heap _; rw [e0]; exact ⟨rfl, N0, rfl⟩) (by decide) (by decide)
def QiV2 (Z : State) (x : Addr) (a : Addr) (ka : ClassId) (c0 : Int32) (c1 : Int32) (zc : Int32) (h0 : Heap) (n0 : Nat) (v : Option Value) (h : Heap) (L : List Loc) : Prop := ∃ (t : Addr) (kb : ClassId), v = none ∧ Fr n0 L ∧ Keep h0 h [x] ∧ own_S2 Z h x t kb c0 c1 ∧ h0.size ≤ t
theorem rmiV2 (l : Launch) (Z : State) (a0 : Array Value) (hw : own_tb a0 Z) (ws : List Jvm.Cond) (x : Addr) (a : Addr) (ka : ClassId) (c0 : Int32) (c1 : Int32) (zc : Int32) (h0 : Heap) (n0 : Nat) (Z0 : n0 ≤ h0.size) (O_ : Old Z n0 h0) (S_CS : Sta Z Z.heap "java/lang/String" "COMPACT_STRINGS" "Z" (.int zc)) (P_CS : ¬ zc = (0 : Int32)) (S_AD : Sta Z Z.heap "java/lang/StringUTF16" "$assertionsDisabled" "Z" (.int (1 : Int32))) (S_HB : Sta Z Z.heap "java/lang/StringUTF16" "HI_BYTE_SHIFT" "I" (.int (0 : Int32))) (S_LB : Sta Z Z.heap "java/lang/StringUTF16" "LO_BYTE_SHIFT" "I" (.int (8 : Int32))) (E_x : Exa Z h0 x "java/lang/String") (Fv : Fld Z h0 x "java/lang/String" "value" "[B" .null) (Fc : Fld Z h0 x "java/lang/String" "coder" "B" (.int (0 : Int32))) (g_x : n0 ≤ x) (V_a : Arv Z h0 a ka .char (2 : Int32) [(.int c0), (.int c1)] (.int (0 : Int32))) (ne_a_x : a ≠ x) (P_c0 : own_u c0) (P_c1 : own_u c1) :
    OwnMet l (⟨"java/lang/String", "<init>", "([CIILjava/lang/Void;)V"⟩ : MethodName) jdk_42_method_149_code 6 none ws ({ frames := 4, cells := 2, slots := 6, locals := 57 } : Room) #[(.ref x), (.ref a), (.int (0 : Int32)), (.int (2 : Int32)), .null] Z h0 (QiV2 Z x a ka c0 c1 zc h0 n0) := by
  refine own_met (plainFor_of_name pn_15) ?_
  intro p e s m below meth c s₁ X0 hx hby hml hret hlk hown hnm hZ e0
  have N0 := Fr.nil n0
  have Z_ := Z0
  refine OwnGo.cast (ef_iV2 m x a (0 : Int32) (2 : Int32)) ?_
  show OwnGo p e below s _ _ _ s₁ (mkF m 0 _ [])
  have Kp : Keep h0 h0 [x] := Keep.refl h0 [x]
  refine .aloadN X0 hx (hb hby d43_0) rfl rfl ?_
  obtain ⟨T71, X71, e71, st71⟩ := initO X0 hx hZ hown (W_ hw 24 rfl) (W_ hw 25 rfl) (W_ hw 26 rfl) e0 (g := (mkF m 1 #[.val (.ref x), .val (.ref a), .val (.int (0 : Int32)), .val (.int (2 : Int32)), .val .null, .unset] [(.ref x)])) rfl (by rw [hml]; rfl) rfl (hb hby d43_1) (by decide) (W := 0) (Nat.le_of_eq rfl) (by decide)
  refine .st st71 ?_
  show OwnGo p e below s _ _ _ T71 (mkF m 4 _ [])
  refine .iloadN X71 hx (hb hby d43_4) rfl ?_
  refine .ifYes (pc := 5) X71 hx 27 (hb hby d43_5) ((if0 _ _).trans (feq ((by decide) : ¬ ((2 : Int32) = (0 : Int32)))).2) (by decide) (by decide) ?_
  obtain ⟨T72, X72, e72, st72⟩ := getS2 X71 hx hZ hown (host := "") (Or.inl (W_ hw 9 rfl)) Via.refl e71 (S_CS.ext O_.2) (g := (mkF m 27 #[.val (.ref x), .val (.ref a), .val (.int (0 : Int32)), .val (.int (2 : Int32)), .val .null, .unset] [])) rfl (hb hby d43_27)
  refine .st st72 ?_
  show OwnGo p e below s _ _ _ T72 (mkF m 30 _ [(.int zc)])
  refine .ifNo X72 hx (hb hby d43_30) ((if0 _ _).trans (feq (P_CS : ¬ (zc = (0 : Int32)))).1) ?_
  refine .aloadN X72 hx (hb hby d43_33) rfl rfl ?_
  refine .iloadN X72 hx (hb hby d43_34) rfl ?_
  refine .iloadN X72 hx (hb hby d43_35) rfl ?_
  by_cases hl : ¬ (255 : Int32) < c0 ∧ ¬ (255 : Int32) < c1
  · obtain ⟨_, _, ⟨T73, L73, k73, n73⟩, -, X73, ⟨Lc73, hQ73, l73, y73, z73⟩, st73⟩ := Jvm.LawKit.callS X72 hx (y := (⟨"java/lang/StringUTF16", "compress", "([CII)[B"⟩ : MethodName)) hown (mvT hZ (W_ hw 233 rfl)) (mvT hZ (W_ hw 234 rfl)) (mvT hZ (W_ hw 235 rfl)) (mvT hZ (W_ hw 236 rfl)) (by decide) (backOf (W := 0) (rmcpL2 l Z a0 hw [] a ka c0 c1 h0 n0 Z_ V_a hl) hZ (W_ hw 236 rfl) (W_ hw 235 rfl) (by decide) (by decide)) (g := (mkF m 36 #[.val (.ref x), .val (.ref a), .val (.int (0 : Int32)), .val (.int (2 : Int32)), .val .null, .unset] [(.int (2 : Int32)), (.int (0 : Int32)), (.ref a)])) rfl (by rw [hml]; rfl) (argsL := [(.ref a), (.int (0 : Int32)), (.int (2 : Int32))]) (rest := []) (lenOf pd_12 rfl) rfl (Nat.le_of_eq rfl) (hb hby d43_36) (fun _ _ => ⟨rfl, e72, (by decide : 0 + 1 ≤ _), (by decide : 0 + 2 ≤ _)⟩)
    dsimp only [Pt.U, Pt.locs, Pt.cells, Pt.slots] at X73 l73 y73 z73 st73 hQ73
    subst y73 z73
    obtain ⟨t73, kb73, rfl, N73q, K73, V73, zt73⟩ := hQ73
    have N73 := own_frl l73 N0 N73q
    have ne_x_t73 : x ≠ t73 := Nat.ne_of_lt (Nat.lt_of_lt_of_le E_x.lt zt73)
    have ne_a_t73 : a ≠ t73 := Nat.ne_of_lt (Nat.lt_of_lt_of_le V_a.lt zt73)
    have g_t73 : n0 ≤ t73 := Nat.le_trans Z_ zt73
    have sz_t73 : h0.size ≤ t73 := Nat.le_trans Kp.1 zt73
    have Z_ : n0 ≤ T73.heap.size := Nat.le_trans Z_ K73.1
    have E_x := E_x.keep K73
    have Fv := Fv.keep K73 nin0
    have Fc := Fc.keep K73 nin0
    have V_a := V_a.keep K73 nin0
    have O_ := O_.keep K73 all0
    have Kp := Kp.trans K73 all0
    refine .st st73 ?_
    show OwnGo p e below s _ _ _ T73 (mkF m 39 _ [(.ref t73)])
    refine .astore X73 hx (hb hby d43_39) rfl (L' := #[.val (.ref x), .val (.ref a), .val (.int (0 : Int32)), .val (.int (2 : Int32)), .val .null, .val (.ref t73)]) rfl ?_
    refine .aloadN X73 hx (hb hby d43_41) rfl rfl ?_
    refine .aload X73 hx (hb hby d43_42) rfl rfl ?_
    refine .iloadN X73 hx (hb hby d43_44) rfl ?_
    obtain ⟨_, _, ⟨T74, L74, k74, n74⟩, -, X74, ⟨Lc74, hQ74, l74, y74, z74⟩, st74⟩ := Jvm.LawKit.callS X73 hx (y := (⟨"java/lang/StringUTF16", "coderFromArrayLen", "([BI)B"⟩ : MethodName)) hown (mvT hZ (W_ hw 240 rfl)) (mvT hZ (W_ hw 241 rfl)) (mvT hZ (W_ hw 235 rfl)) (mvT hZ (W_ hw 242 rfl)) (by decide) (backOf (W := 1) (rmcfl2_0 l Z a0 hw [] t73 kb73 [(.int c0.toInt8.toInt32), (.int c1.toInt8.toInt32)] T73.heap n0 Z_ V73) hZ (W_ hw 242 rfl) (W_ hw 235 rfl) (by decide) (by decide)) (g := (mkF m 45 #[.val (.ref x), .val (.ref a), .val (.int (0 : Int32)), .val (.int (2 : Int32)), .val .null, .val (.ref t73)] [(.int (2 : Int32)), (.ref t73), (.ref x)])) rfl (by rw [hml]; rfl) (argsL := [(.ref t73), (.int (2 : Int32))]) (rest := [(.ref x)]) (lenOf pd_13 rfl) rfl (Nat.le_of_eq rfl) (hb hby d43_45) (fun _ _ => ⟨rfl, rfl, (by decide : 1 + 0 ≤ _), (by decide : 2 + 0 ≤ _)⟩)
    dsimp only [Pt.U, Pt.locs, Pt.cells, Pt.slots] at X74 l74 y74 z74 st74 hQ74
    subst y74 z74
    obtain ⟨rfl, N74q, e74⟩ := hQ74
    have N74 := own_frl l74 N73 N74q
    refine .st st74 ?_
    show OwnGo p e below s _ _ _ T74 (mkF m 48 _ [(.int (0 : Int32)), (.ref x)])
    obtain ⟨T75, h75, X75, e75, W75, st75⟩ := putFN X74 hx hZ hown (W_ hw 29 rfl) Via.refl e74 Fc E_x (Or.inr ⟨(W_ hw 30 rfl), rfl, hnm⟩) (W_ hw 15 rfl) (ty := .byte) (v' := (.int (0 : Int32))) (by decide) rfl (by decide) (g := (mkF m 48 #[.val (.ref x), .val (.ref a), .val (.int (0 : Int32)), .val (.int (2 : Int32)), .val .null, .val (.ref t73)] [(.int (0 : Int32)), (.ref x)])) rfl rfl (hb hby d43_48)
    have E_x := E_x.wr W75
    have Fv := Fv.other W75 (Or.inr (slot_ne (Or.inr (W_ hw 28 rfl)) (Or.inr (W_ hw 30 rfl)) (by decide) (t := (.array .byte)) (t' := .byte) (by decide) (by decide)))
    have Fc := Fc.same W75
    have V_a := V_a.other W75 ne_a_x
    have V73 := V73.other W75 (Ne.symm ne_x_t73)
    have O_ := O_.wr W75 g_x
    have Kp := Kp.wr W75 (Or.inl (List.mem_of_getElem? (i := 0) rfl))
    have N75 := Fr.snoc X75 N74 g_x
    have Z_ : n0 ≤ h75.size := by rw [W75.size]; exact Z_
    refine .st st75 ?_
    show OwnGo p e below s _ _ _ T75 (mkF m 51 _ [])
    refine .aloadN X75 hx (hb hby d43_51) rfl rfl ?_
    refine .aload X75 hx (hb hby d43_52) rfl rfl ?_
    obtain ⟨T76, h76, X76, e76, W76, st76⟩ := putF X75 hx hZ hown (host := "") (Or.inl (W_ hw 27 rfl)) Via.refl e75 Fv E_x (Or.inr ⟨(W_ hw 28 rfl), rfl, hnm⟩) (W_ hw 15 rfl) (ty := (.array .byte)) (by decide) rfl rfl (g := (mkF m 54 #[.val (.ref x), .val (.ref a), .val (.int (0 : Int32)), .val (.int (2 : Int32)), .val .null, .val (.ref t73)] [(.ref t73), (.ref x)])) rfl rfl (hb hby d43_54)
    have E_x := E_x.wr W76
    have Fv := Fv.same W76
    have Fc := Fc.other W76 (Or.inr (slot_ne (Or.inr (W_ hw 30 rfl)) (Or.inr (W_ hw 28 rfl)) (by decide) (t := .byte) (t' := (.array .byte)) (by decide) (by decide)))
    have V_a := V_a.other W76 ne_a_x
    have V73 := V73.other W76 (Ne.symm ne_x_t73)
    have O_ := O_.wr W76 g_x
    have Kp := Kp.wr W76 (Or.inl (List.mem_of_getElem? (i := 0) rfl))
    have N76 := Fr.snoc X76 N75 g_x
    have Z_ : n0 ≤ h76.size := by rw [W76.size]; exact Z_
    refine .st st76 ?_
    show OwnGo p e below s _ _ _ T76 (mkF m 57 _ [])
    exact OwnGo.retV X76 hx hret hlk (hb hby d43_57) (by show QiV2 Z x a ka c0 c1 zc h0 n0 _ T76.heap _; rw [e76]; exact ⟨t73, kb73, rfl, N76, Kp, ⟨E_x, Fv, Or.inl ⟨Fc, V73, hl⟩⟩, sz_t73⟩) (by decide) (by decide)
  · have hb_ : (255 : Int32) < c0 ∨ (255 : Int32) < c1 := (own_nand hl).imp_right (fun hl => Classical.not_not.mp hl)
    obtain ⟨_, _, ⟨T77, L77, k77, n77⟩, -, X77, ⟨Lc77, hQ77, l77, y77, z77⟩, st77⟩ := Jvm.LawKit.callS X72 hx (y := (⟨"java/lang/StringUTF16", "compress", "([CII)[B"⟩ : MethodName)) hown (mvT hZ (W_ hw 233 rfl)) (mvT hZ (W_ hw 234 rfl)) (mvT hZ (W_ hw 235 rfl)) (mvT hZ (W_ hw 236 rfl)) (by decide) (backOf (W := 0) (rmcpU2 l Z a0 hw [] a ka c0 c1 h0 n0 Z_ O_ S_AD S_HB S_LB V_a hb_ P_c0 P_c1) hZ (W_ hw 236 rfl) (W_ hw 235 rfl) (by decide) (by decide)) (g := (mkF m 36 #[.val (.ref x), .val (.ref a), .val (.int (0 : Int32)), .val (.int (2 : Int32)), .val .null, .unset] [(.int (2 : Int32)), (.int (0 : Int32)), (.ref a)])) rfl (by rw [hml]; rfl) (argsL := [(.ref a), (.int (0 : Int32)), (.int (2 : Int32))]) (rest := []) (lenOf pd_12 rfl) rfl (Nat.le_of_eq rfl) (hb hby d43_36) (fun _ _ => ⟨rfl, e72, (by decide : 0 + 2 ≤ _), (by decide : 0 + 6 ≤ _)⟩)
    dsimp only [Pt.U, Pt.locs, Pt.cells, Pt.slots] at X77 l77 y77 z77 st77 hQ77
    subst y77 z77
    obtain ⟨t77, kb77, rfl, N77q, K77, V77, zt77⟩ := hQ77
    have N77 := own_frl l77 N0 N77q
    have ne_x_t77 : x ≠ t77 := Nat.ne_of_lt (Nat.lt_of_lt_of_le E_x.lt zt77)
    have ne_a_t77 : a ≠ t77 := Nat.ne_of_lt (Nat.lt_of_lt_of_le V_a.lt zt77)
    have g_t77 : n0 ≤ t77 := Nat.le_trans Z_ zt77
    have sz_t77 : h0.size ≤ t77 := Nat.le_trans Kp.1 zt77
    have Z_ : n0 ≤ T77.heap.size := Nat.le_trans Z_ K77.1
    have E_x := E_x.keep K77
    have Fv := Fv.keep K77 nin0
    have Fc := Fc.keep K77 nin0
    have V_a := V_a.keep K77 nin0
    have O_ := O_.keep K77 all0
    have Kp := Kp.trans K77 all0
    refine .st st77 ?_
    show OwnGo p e below s _ _ _ T77 (mkF m 39 _ [(.ref t77)])
    refine .astore X77 hx (hb hby d43_39) rfl (L' := #[.val (.ref x), .val (.ref a), .val (.int (0 : Int32)), .val (.int (2 : Int32)), .val .null, .val (.ref t77)]) rfl ?_
    refine .aloadN X77 hx (hb hby d43_41) rfl rfl ?_
    refine .aload X77 hx (hb hby d43_42) rfl rfl ?_
    refine .iloadN X77 hx (hb hby d43_44) rfl ?_
    obtain ⟨_, _, ⟨T78, L78, k78, n78⟩, -, X78, ⟨Lc78, hQ78, l78, y78, z78⟩, st78⟩ := Jvm.LawKit.callS X77 hx (y := (⟨"java/lang/StringUTF16", "coderFromArrayLen", "([BI)B"⟩ : MethodName)) hown (mvT hZ (W_ hw 240 rfl)) (mvT hZ (W_ hw 241 rfl)) (mvT hZ (W_ hw 235 rfl)) (mvT hZ (W_ hw 242 rfl)) (by decide) (backOf (W := 1) (rmcfl2_1 l Z a0 hw [] t77 kb77 [(.int (own_lo c0)), (.int (own_hi c0)), (.int (own_lo c1)), (.int (own_hi c1))] T77.heap n0 Z_ V77) hZ (W_ hw 242 rfl) (W_ hw 235 rfl) (by decide) (by decide)) (g := (mkF m 45 #[.val (.ref x), .val (.ref a), .val (.int (0 : Int32)), .val (.int (2 : Int32)), .val .null, .val (.ref t77)] [(.int (2 : Int32)), (.ref t77), (.ref x)])) rfl (by rw [hml]; rfl) (argsL := [(.ref t77), (.int (2 : Int32))]) (rest := [(.ref x)]) (lenOf pd_13 rfl) rfl (Nat.le_of_eq rfl) (hb hby d43_45) (fun _ _ => ⟨rfl, rfl, (by decide : 2 + 0 ≤ _), (by decide : 6 + 0 ≤ _)⟩)
    dsimp only [Pt.U, Pt.locs, Pt.cells, Pt.slots] at X78 l78 y78 z78 st78 hQ78
    subst y78 z78
    obtain ⟨rfl, N78q, e78⟩ := hQ78
    have N78 := own_frl l78 N77 N78q
    refine .st st78 ?_
    show OwnGo p e below s _ _ _ T78 (mkF m 48 _ [(.int (1 : Int32)), (.ref x)])
    obtain ⟨T79, h79, X79, e79, W79, st79⟩ := putFN X78 hx hZ hown (W_ hw 29 rfl) Via.refl e78 Fc E_x (Or.inr ⟨(W_ hw 30 rfl), rfl, hnm⟩) (W_ hw 15 rfl) (ty := .byte) (v' := (.int (1 : Int32))) (by decide) rfl (by decide) (g := (mkF m 48 #[.val (.ref x), .val (.ref a), .val (.int (0 : Int32)), .val (.int (2 : Int32)), .val .null, .val (.ref t77)] [(.int (1 : Int32)), (.ref x)])) rfl rfl (hb hby d43_48)
    have E_x := E_x.wr W79
    have Fv := Fv.other W79 (Or.inr (slot_ne (Or.inr (W_ hw 28 rfl)) (Or.inr (W_ hw 30 rfl)) (by decide) (t := (.array .byte)) (t' := .byte) (by decide) (by decide)))
    have Fc := Fc.same W79
    have V_a := V_a.other W79 ne_a_x
    have V77 := V77.other W79 (Ne.symm ne_x_t77)
    have O_ := O_.wr W79 g_x
    have Kp := Kp.wr W79 (Or.inl (List.mem_of_getElem? (i := 0) rfl))
    have N79 := Fr.snoc X79 N78 g_x
    have Z_ : n0 ≤ h79.size := by rw [W79.size]; exact Z_
    refine .st st79 ?_
    show OwnGo p e below s _ _ _ T79 (mkF m 51 _ [])
    refine .aloadN X79 hx (hb hby d43_51) rfl rfl ?_
    refine .aload X79 hx (hb hby d43_52) rfl rfl ?_
    obtain ⟨T80, h80, X80, e80, W80, st80⟩ := putF X79 hx hZ hown (host := "") (Or.inl (W_ hw 27 rfl)) Via.refl e79 Fv E_x (Or.inr ⟨(W_ hw 28 rfl), rfl, hnm⟩) (W_ hw 15 rfl) (ty := (.array .byte)) (by decide) rfl rfl (g := (mkF m 54 #[.val (.ref x), .val (.ref a), .val (.int (0 : Int32)), .val (.int (2 : Int32)), .val .null, .val (.ref t77)] [(.ref t77), (.ref x)])) rfl rfl (hb hby d43_54)
    have E_x := E_x.wr W80
    have Fv := Fv.same W80
    have Fc := Fc.other W80 (Or.inr (slot_ne (Or.inr (W_ hw 30 rfl)) (Or.inr (W_ hw 28 rfl)) (by decide) (t := .byte) (t' := (.array .byte)) (by decide) (by decide)))
    have V_a := V_a.other W80 ne_a_x
    have V77 := V77.other W80 (Ne.symm ne_x_t77)
    have O_ := O_.wr W80 g_x
    have Kp := Kp.wr W80 (Or.inl (List.mem_of_getElem? (i := 0) rfl))
    have N80 := Fr.snoc X80 N79 g_x
    have Z_ : n0 ≤ h80.size := by rw [W80.size]; exact Z_
    refine .st st80 ?_
    show OwnGo p e below s _ _ _ T80 (mkF m 57 _ [])
    exact OwnGo.retV X80 hx hret hlk (hb hby d43_57) (by show QiV2 Z x a ka c0 c1 zc h0 n0 _ T80.heap _; rw [e80]; exact ⟨t77, kb77, rfl, N80, Kp, ⟨E_x, Fv, Or.inr ⟨Fc, V77⟩⟩, sz_t77⟩) (by decide) (by decide)
def QiC2 (Z : State) (x : Addr) (a : Addr) (ka : ClassId) (c0 : Int32) (c1 : Int32) (zc : Int32) (h0 : Heap) (n0 : Nat) (v : Option Value) (h : Heap) (L : List Loc) : Prop := ∃ (t : Addr) (kb : ClassId), v = none ∧ Fr n0 L ∧ Keep h0 h [x] ∧ own_S2 Z h x t kb c0 c1 ∧ h0.size ≤ t
theorem rmiC2 (l : Launch) (Z : State) (a0 : Array Value) (hw : own_tb a0 Z) (ws : List Jvm.Cond) (x : Addr) (a : Addr) (ka : ClassId) (c0 : Int32) (c1 : Int32) (zc : Int32) (h0 : Heap) (n0 : Nat) (Z0 : n0 ≤ h0.size) (O_ : Old Z n0 h0) (S_CS : Sta Z Z.heap "java/lang/String" "COMPACT_STRINGS" "Z" (.int zc)) (P_CS : ¬ zc = (0 : Int32)) (S_AD : Sta Z Z.heap "java/lang/StringUTF16" "$assertionsDisabled" "Z" (.int (1 : Int32))) (S_HB : Sta Z Z.heap "java/lang/StringUTF16" "HI_BYTE_SHIFT" "I" (.int (0 : Int32))) (S_LB : Sta Z Z.heap "java/lang/StringUTF16" "LO_BYTE_SHIFT" "I" (.int (8 : Int32))) (E_x : Exa Z h0 x "java/lang/String") (Fv : Fld Z h0 x "java/lang/String" "value" "[B" .null) (Fc : Fld Z h0 x "java/lang/String" "coder" "B" (.int (0 : Int32))) (g_x : n0 ≤ x) (V_a : Arv Z h0 a ka .char (2 : Int32) [(.int c0), (.int c1)] (.int (0 : Int32))) (ne_a_x : a ≠ x) (P_c0 : own_u c0) (P_c1 : own_u c1) :
    OwnMet l (⟨"java/lang/String", "<init>", "([C)V"⟩ : MethodName) jdk_42_method_3_code 2 none ws ({ frames := 5, cells := 2, slots := 6, locals := 74 } : Room) #[(.ref x), (.ref a)] Z h0 (QiC2 Z x a ka c0 c1 zc h0 n0) := by
  refine own_met (plainFor_of_name pn_15) ?_
  intro p e s m below meth c s₁ X0 hx hby hml hret hlk hown hnm hZ e0
  have N0 := Fr.nil n0
  have Z_ := Z0
  refine OwnGo.cast (ef_iC2 m x a) ?_
  show OwnGo p e below s _ _ _ s₁ (mkF m 0 _ [])
  refine .aloadN X0 hx (hb hby d42_0) rfl rfl ?_
  refine .aloadN X0 hx (hb hby d42_1) rfl rfl ?_
  refine .iconst X0 hx (hb hby d42_2) own_ki0 ?_
  refine .aloadN X0 hx (hb hby d42_3) rfl rfl ?_
  obtain ⟨cl81, Ar81, -, S81, N81, -, -⟩ := id V_a
  refine .st (fun _ => own_len hZ (len_of S81 N81) Ar81 X0 e0 hx (g := (mkF m 4 #[.val (.ref x), .val (.ref a)] [(.ref a), (.int (0 : Int32)), (.ref a), (.ref x)])) rfl rfl (hb hby d42_4) _) ?_
  show OwnGo p e below s _ _ _ s₁ (mkF m 5 _ [(.int (2 : Int32)), (.int (0 : Int32)), (.ref a), (.ref x)])
  refine .aconstNull X0 hx (hb hby d42_5)  ?_
  obtain ⟨_, _, ⟨T82, L82, k82, n82⟩, -, X82, ⟨Lc82, hQ82, l82, y82, z82⟩, st82⟩ := X0.specialBack hx (y := (⟨"java/lang/String", "<init>", "([CIILjava/lang/Void;)V"⟩ : MethodName)) rfl hown (mvT hZ (W_ hw 230 rfl)) (mvT hZ (W_ hw 231 rfl)) (mvT hZ (W_ hw 232 rfl)) (by decide) (backOf (W := 0) (rmiV2 l Z a0 hw [] x a ka c0 c1 zc h0 n0 Z_ O_ S_CS P_CS S_AD S_HB S_LB E_x Fv Fc g_x V_a ne_a_x P_c0 P_c1) hZ (W_ hw 232 rfl) (W_ hw 7 rfl) (by decide) (by decide)) (g := (mkF m 6 #[.val (.ref x), .val (.ref a)] [.null, (.int (2 : Int32)), (.int (0 : Int32)), (.ref a), (.ref x)])) rfl (by rw [hml]; rfl) (Steps.refl _) (a := x) (argsL := [(.ref a), (.int (0 : Int32)), (.int (2 : Int32)), .null]) (rest := []) (lenOf pd_14 rfl) rfl (Nat.le_of_eq rfl) (hb hby d42_6) (fun _ _ => ⟨rfl, e0, (by decide : 0 + 2 ≤ _), (by decide : 0 + 6 ≤ _)⟩)
  dsimp only [Pt.U, Pt.locs, Pt.cells, Pt.slots] at X82 l82 y82 z82 st82 hQ82
  subst y82 z82
  obtain ⟨t82, kb82, rfl, N82q, K82, S82, zt82⟩ := hQ82
  have N82 := own_frl l82 N0 N82q
  have ne_x_t82 : x ≠ t82 := Nat.ne_of_lt (Nat.lt_of_lt_of_le E_x.lt zt82)
  have ne_a_t82 : a ≠ t82 := Nat.ne_of_lt (Nat.lt_of_lt_of_le V_a.lt zt82)
  have g_t82 : n0 ≤ t82 := Nat.le_trans Z_ zt82
  have Z_ : n0 ≤ T82.heap.size := Nat.le_trans Z_ K82.1
  have E_x := E_x.keep K82
  have V_a := V_a.keep K82 (ninS ne_a_x nin0)
  have O_ := O_.keep K82 (allS g_x all0)
  refine .st (fun _ => st82.trans) ?_
  show OwnGo p e below s _ _ _ T82 (mkF m 9 _ [])
  exact OwnGo.retV X82 hx hret hlk (hb hby d42_9) (by show QiC2 Z x a ka c0 c1 zc h0 n0 _ T82.heap _; exact ⟨t82, kb82, rfl, N82, K82, S82, zt82⟩) (by decide) (by decide)
def QcanE0 (Z : State) (cc : Int32) (h0 : Heap) (n0 : Nat) (v : Option Value) (h : Heap) (L : List Loc) : Prop := v = some (.int (0 : Int32)) ∧ Fr n0 L ∧ h = h0
theorem rmcanE0 (l : Launch) (Z : State) (a0 : Array Value) (hw : own_tb a0 Z) (ws : List Jvm.Cond) (cc : Int32) (h0 : Heap) (n0 : Nat) (Z0 : n0 ≤ h0.size) (hc : (255 : Int32) < cc) :
    OwnMet l (⟨"java/lang/StringLatin1", "canEncode", "(C)Z"⟩ : MethodName) jdk_43_method_3_code 1 (some .boolean) ws ({ frames := 0, cells := 0, slots := 0, locals := 0 } : Room) #[(.int cc)] Z h0 (QcanE0 Z cc h0 n0) := by
  refine own_met (plainFor_of_name pn_3) ?_
  intro p e s m below meth c s₁ X0 hx hby hml hret hlk hown hnm hZ e0
  have N0 := Fr.nil n0
  have Z_ := Z0
  refine OwnGo.cast (ef_canE0 m cc) ?_
  show OwnGo p e below s _ _ _ s₁ (mkF m 0 _ [])
  refine .iloadN X0 hx (hb hby d3_0) rfl ?_
  refine .sipush X0 hx (hb hby d3_1) own_ks255 ?_
  refine .icmpYes (pc := 4) X0 hx 11 (hb hby d3_4) (tlt (hc : (255 : Int32) < cc)).2.2.1 (by decide) (by decide) ?_
  refine .iconst X0 hx (hb hby d3_11) own_ki0 ?_
  exact OwnGo.retN X0 hx (t := .boolean) hret hlk (by simp) (hb hby d3_12) (by show QcanE0 Z cc h0 n0 _ s₁.heap _; rw [e0]; exact ⟨rfl, N0, rfl⟩) (by decide) (by decide)
def QiniB1 (Z : State) (x : Addr) (t : Addr) (h0 : Heap) (n0 : Nat) (v : Option Value) (h : Heap) (L : List Loc) : Prop := v = none ∧ Fr n0 L ∧ Keep h0 h [x] ∧ Exa Z h x "java/lang/String" ∧ Fld Z h x "java/lang/String" "coder" "B" (.int (1 : Int32)) ∧ Fld Z h x "java/lang/String" "value" "[B" (.ref t)
theorem rminiB1 (l : Launch) (Z : State) (a0 : Array Value) (hw : own_tb a0 Z) (ws : List Jvm.Cond) (x : Addr) (t : Addr) (h0 : Heap) (n0 : Nat) (Z0 : n0 ≤ h0.size) (E_x : Exa Z h0 x "java/lang/String") (Fv : Fld Z h0 x "java/lang/String" "value" "[B" .null) (Fc : Fld Z h0 x "java/lang/String" "coder" "B" (.int (0 : Int32))) (g_x : n0 ≤ x) :
    OwnMet l (⟨"java/lang/String", "<init>", "([BB)V"⟩ : MethodName) jdk_42_method_151_code 3 none ws ({ frames := 1, cells := 0, slots := 0, locals := 12 } : Room) #[(.ref x), (.ref t), (.int (1 : Int32))] Z h0 (QiniB1 Z x t h0 n0) := by
  refine own_met (plainFor_of_name pn_15) ?_
  intro p e s m below meth c s₁ X0 hx hby hml hret hlk hown hnm hZ e0
  have N0 := Fr.nil n0
  have Z_ := Z0
  refine OwnGo.cast (ef_iniB1 m x t (1 : Int32)) ?_
  show OwnGo p e below s _ _ _ s₁ (mkF m 0 _ [])
  have Kp : Keep h0 h0 [x] := Keep.refl h0 [x]
  refine .aloadN X0 hx (hb hby d5_0) rfl rfl ?_
  obtain ⟨T83, X83, e83, st83⟩ := initO X0 hx hZ hown (W_ hw 24 rfl) (W_ hw 25 rfl) (W_ hw 26 rfl) e0 (g := (mkF m 1 #[.val (.ref x), .val (.ref t), .val (.int (1 : Int32))] [(.ref x)])) rfl (by rw [hml]; rfl) rfl (hb hby d5_1) (by decide) (W := 0) (Nat.le_of_eq rfl) (by decide)
  refine .st st83 ?_
  show OwnGo p e below s _ _ _ T83 (mkF m 4 _ [])
  refine .aloadN X83 hx (hb hby d5_4) rfl rfl ?_
  refine .aloadN X83 hx (hb hby d5_5) rfl rfl ?_
  obtain ⟨T84, h84, X84, e84, W84, st84⟩ := putF X83 hx hZ hown (host := "") (Or.inl (W_ hw 27 rfl)) Via.refl e83 Fv E_x (Or.inr ⟨(W_ hw 28 rfl), rfl, hnm⟩) (W_ hw 15 rfl) (ty := (.array .byte)) (by decide) rfl rfl (g := (mkF m 6 #[.val (.ref x), .val (.ref t), .val (.int (1 : Int32))] [(.ref t), (.ref x)])) rfl rfl (hb hby d5_6)
  have E_x := E_x.wr W84
  have Fv := Fv.same W84
  have Fc := Fc.other W84 (Or.inr (slot_ne (Or.inr (W_ hw 30 rfl)) (Or.inr (W_ hw 28 rfl)) (by decide) (t := .byte) (t' := (.array .byte)) (by decide) (by decide)))
  have Kp := Kp.wr W84 (Or.inl (List.mem_of_getElem? (i := 0) rfl))
  have N84 := Fr.snoc X84 N0 g_x
  have Z_ : n0 ≤ h84.size := by rw [W84.size]; exact Z_
  refine .st st84 ?_
  show OwnGo p e below s _ _ _ T84 (mkF m 9 _ [])
  refine .aloadN X84 hx (hb hby d5_9) rfl rfl ?_
  refine .iloadN X84 hx (hb hby d5_10) rfl ?_
  obtain ⟨T85, h85, X85, e85, W85, st85⟩ := putFN X84 hx hZ hown (W_ hw 29 rfl) Via.refl e84 Fc E_x (Or.inr ⟨(W_ hw 30 rfl), rfl, hnm⟩) (W_ hw 15 rfl) (ty := .byte) (v' := (.int (1 : Int32))) (by decide) rfl (by decide) (g := (mkF m 11 #[.val (.ref x), .val (.ref t), .val (.int (1 : Int32))] [(.int (1 : Int32)), (.ref x)])) rfl rfl (hb hby d5_11)
  have E_x := E_x.wr W85
  have Fv := Fv.other W85 (Or.inr (slot_ne (Or.inr (W_ hw 28 rfl)) (Or.inr (W_ hw 30 rfl)) (by decide) (t := (.array .byte)) (t' := .byte) (by decide) (by decide)))
  have Fc := Fc.same W85
  have Kp := Kp.wr W85 (Or.inl (List.mem_of_getElem? (i := 0) rfl))
  have N85 := Fr.snoc X85 N84 g_x
  have Z_ : n0 ≤ h85.size := by rw [W85.size]; exact Z_
  refine .st st85 ?_
  show OwnGo p e below s _ _ _ T85 (mkF m 14 _ [])
  exact OwnGo.retV X85 hx hret hlk (hb hby d5_14) (by show QiniB1 Z x t h0 n0 _ T85.heap _; rw [e85]; exact ⟨rfl, N85, Kp, E_x, Fc, Fv⟩) (by decide) (by decide)
def QvalU (Z : State) (c0 : Int32) (zc : Int32) (h0 : Heap) (n0 : Nat) (v : Option Value) (h : Heap) (L : List Loc) : Prop := ∃ (x t : Addr) (kb : ClassId), v = some (.ref x) ∧ Fr n0 L ∧ Keep h0 h [] ∧ own_S1 Z h x t kb c0 ∧ h0.size ≤ x ∧ h0.size ≤ t
theorem rmvalU (l : Launch) (Z : State) (a0 : Array Value) (hw : own_tb a0 Z) (ws : List Jvm.Cond) (c0 : Int32) (zc : Int32) (h0 : Heap) (n0 : Nat) (Z0 : n0 ≤ h0.size) (O_ : Old Z n0 h0) (S_CS : Sta Z Z.heap "java/lang/String" "COMPACT_STRINGS" "Z" (.int zc)) (P_CS : ¬ zc = (0 : Int32)) (S_AD : Sta Z Z.heap "java/lang/StringUTF16" "$assertionsDisabled" "Z" (.int (1 : Int32))) (S_HB : Sta Z Z.heap "java/lang/StringUTF16" "HI_BYTE_SHIFT" "I" (.int (0 : Int32))) (S_LB : Sta Z Z.heap "java/lang/StringUTF16" "LO_BYTE_SHIFT" "I" (.int (8 : Int32))) (hc : (255 : Int32) < c0) :
    OwnMet l (⟨"java/lang/String", "valueOf", "(C)Ljava/lang/String;"⟩ : MethodName) jdk_42_method_139_code 1 (some (.object "java/lang/String")) ws ({ frames := 2, cells := 2, slots := 6, locals := 29 } : Room) #[(.int c0)] Z h0 (QvalU Z c0 zc h0 n0) := by
  refine own_met (plainFor_of_name pn_15) ?_
  intro p e s m below meth c s₁ X0 hx hby hml hret hlk hown hnm hZ e0
  have N0 := Fr.nil n0
  have Z_ := Z0
  refine OwnGo.cast (ef_valU m c0) ?_
  show OwnGo p e below s _ _ _ s₁ (mkF m 0 _ [])
  have Kp : Keep h0 h0 [] := Keep.refl h0 []
  obtain ⟨T86, X86, e86, st86⟩ := getS2 X0 hx hZ hown (host := "") (Or.inl (W_ hw 9 rfl)) Via.refl e0 (S_CS.ext O_.2) (g := (mkF m 0 #[.val (.int c0)] [])) rfl (hb hby d2_0)
  refine .st st86 ?_
  show OwnGo p e below s _ _ _ T86 (mkF m 3 _ [(.int zc)])
  refine .ifNo X86 hx (hb hby d2_3) ((if0 _ _).trans (feq (P_CS : ¬ (zc = (0 : Int32)))).1) ?_
  refine .iloadN X86 hx (hb hby d2_6) rfl ?_
  obtain ⟨_, _, ⟨T87, L87, k87, n87⟩, -, X87, ⟨Lc87, hQ87, l87, y87, z87⟩, st87⟩ := Jvm.LawKit.callS X86 hx (y := (⟨"java/lang/StringLatin1", "canEncode", "(C)Z"⟩ : MethodName)) hown (mvT hZ (W_ hw 10 rfl)) (mvT hZ (W_ hw 11 rfl)) (mvT hZ (W_ hw 12 rfl)) (mvT hZ (W_ hw 13 rfl)) (by decide) (backOf (W := 0) (rmcanE0 l Z a0 hw [] c0 h0 n0 Z_ hc) hZ (W_ hw 13 rfl) (W_ hw 12 rfl) (by decide) (by decide)) (g := (mkF m 7 #[.val (.int c0)] [(.int c0)])) rfl (by rw [hml]; rfl) (argsL := [(.int c0)]) (rest := []) (lenOf pd_1 rfl) rfl (Nat.le_of_eq rfl) (hb hby d2_7) (fun _ _ => ⟨rfl, e86, (by decide : 0 + 0 ≤ _), (by decide : 0 + 0 ≤ _)⟩)
  dsimp only [Pt.U, Pt.locs, Pt.cells, Pt.slots] at X87 l87 y87 z87 st87 hQ87
  subst y87 z87
  obtain ⟨rfl, N87q, e87⟩ := hQ87
  have N87 := own_frl l87 N0 N87q
  refine .st st87 ?_
  show OwnGo p e below s _ _ _ T87 (mkF m 10 _ [(.int (0 : Int32))])
  refine .ifYes (pc := 10) X87 hx 26 (hb hby d2_10) ((if0 _ _).trans (teq ((by decide) : (0 : Int32) = (0 : Int32))).1) (by decide) (by decide) ?_
  obtain ⟨T88, h88, X88, e88, E88, A88, D88, -, st88⟩ := newO X87 hx hZ hown (W_ hw 14 rfl) (W_ hw 15 rfl) (W_ hw 7 rfl) e87 (g := (mkF m 26 #[.val (.int c0)] [])) rfl (hb hby d2_26) (by decide) (by decide)
  obtain ⟨b88, g88⟩ : ∃ z, z = h0.size := ⟨_, rfl⟩
  rw [← g88] at A88 D88 st88
  have g_b88 : n0 ≤ b88 := Nat.le_trans Z_ (Nat.le_of_eq g88.symm)
  have sz_b88 : h0.size ≤ b88 := Nat.le_trans Kp.1 (Nat.le_of_eq g88.symm)
  have O_ := O_.ext E88
  have Kp := Kp.ext E88
  have Z_ : n0 ≤ h88.size := Nat.le_trans Z_ E88.1
  have E_b88 := A88
  have F_value_b88 : Fld Z h88 b88 "java/lang/String" "value" "[B" .null := D88 (Or.inr (W_ hw 28 rfl)) (ty := (.array .byte)) (by decide)
  have F_coder_b88 : Fld Z h88 b88 "java/lang/String" "coder" "B" (.int (0 : Int32)) := D88 (Or.inr (W_ hw 30 rfl)) (ty := .byte) (by decide)
  refine .st st88 ?_
  show OwnGo p e below s _ _ _ T88 (mkF m 29 _ [(.ref b88)])
  refine .dup X88 hx (hb hby d2_29) rfl ?_
  refine .iloadN X88 hx (hb hby d2_30) rfl ?_
  obtain ⟨_, _, ⟨T89, L89, k89, n89⟩, -, X89, ⟨Lc89, hQ89, l89, y89, z89⟩, st89⟩ := Jvm.LawKit.callS X88 hx (y := (⟨"java/lang/StringUTF16", "toBytes", "(C)[B"⟩ : MethodName)) hown (mvT hZ (W_ hw 274 rfl)) (mvT hZ (W_ hw 275 rfl)) (mvT hZ (W_ hw 235 rfl)) (mvT hZ (W_ hw 276 rfl)) (by decide) (backOf (W := 2) (rmtoBu1 l Z a0 hw [] c0 h88 n0 Z_ O_ S_AD S_HB S_LB) hZ (W_ hw 276 rfl) (W_ hw 235 rfl) (by decide) (by decide)) (g := (mkF m 31 #[.val (.int c0)] [(.int c0), (.ref b88), (.ref b88)])) rfl (by rw [hml]; rfl) (argsL := [(.int c0)]) (rest := [(.ref b88), (.ref b88)]) (lenOf pd_2 rfl) rfl (Nat.le_of_eq rfl) (hb hby d2_31) (fun _ _ => ⟨rfl, e88, (by decide : 1 + 1 ≤ _), (by decide : 4 + 2 ≤ _)⟩)
  dsimp only [Pt.U, Pt.locs, Pt.cells, Pt.slots] at X89 l89 y89 z89 st89 hQ89
  subst y89 z89
  obtain ⟨t89, kb89, rfl, N89q, K89, V89, zt89⟩ := hQ89
  have N89 := own_frl l89 N87 N89q
  have ne_b88_t89 : b88 ≠ t89 := Nat.ne_of_lt (Nat.lt_of_lt_of_le E_b88.lt zt89)
  have g_t89 : n0 ≤ t89 := Nat.le_trans Z_ zt89
  have sz_t89 : h0.size ≤ t89 := Nat.le_trans Kp.1 zt89
  have Z_ : n0 ≤ T89.heap.size := Nat.le_trans Z_ K89.1
  have E_b88 := E_b88.keep K89
  have F_value_b88 := F_value_b88.keep K89 nin0
  have F_coder_b88 := F_coder_b88.keep K89 nin0
  have O_ := O_.keep K89 all0
  have Kp := Kp.trans K89 all0
  refine .st st89 ?_
  show OwnGo p e below s _ _ _ T89 (mkF m 34 _ [(.ref t89), (.ref b88), (.ref b88)])
  refine .iconst X89 hx (hb hby d2_34) own_ki1 ?_
  obtain ⟨_, _, ⟨T90, L90, k90, n90⟩, -, X90, ⟨Lc90, hQ90, l90, y90, z90⟩, st90⟩ := X89.specialBack hx (y := (⟨"java/lang/String", "<init>", "([BB)V"⟩ : MethodName)) rfl hown (mvT hZ (W_ hw 20 rfl)) (mvT hZ (W_ hw 21 rfl)) (mvT hZ (W_ hw 23 rfl)) (by decide) (backOf (W := 1) (rminiB1 l Z a0 hw [] b88 t89 T89.heap n0 Z_ E_b88 F_value_b88 F_coder_b88 g_b88) hZ (W_ hw 23 rfl) (W_ hw 7 rfl) (by decide) (by decide)) (g := (mkF m 35 #[.val (.int c0)] [(.int (1 : Int32)), (.ref t89), (.ref b88), (.ref b88)])) rfl (by rw [hml]; rfl) (Steps.refl _) (a := b88) (argsL := [(.ref t89), (.int (1 : Int32))]) (rest := [(.ref b88)]) (lenOf pd_3 rfl) rfl (Nat.le_of_eq rfl) (hb hby d2_35) (fun _ _ => ⟨rfl, rfl, (by decide : 2 + 0 ≤ _), (by decide : 6 + 0 ≤ _)⟩)
  dsimp only [Pt.U, Pt.locs, Pt.cells, Pt.slots] at X90 l90 y90 z90 st90 hQ90
  subst y90 z90
  obtain ⟨rfl, N90q, K90, Ex90, Fc90, Fv90⟩ := hQ90
  have N90 := own_frl l90 N89 N90q
  have Z_ : n0 ≤ T90.heap.size := Nat.le_trans Z_ K90.1
  have E_b88 := E_b88.keep K90
  have V89 := V89.keep K90 (ninS (Ne.symm ne_b88_t89) nin0)
  have O_ := O_.keep K90 (allS g_b88 all0)
  have Kp := Kp.trans K90 (allS (Or.inr sz_b88) all0)
  refine .st (fun _ => st90.trans) ?_
  show OwnGo p e below s _ _ _ T90 (mkF m 38 _ [(.ref b88)])
  exact OwnGo.ret X90 hx hret hlk rfl (Or.inr (Or.inr (Or.inr (Or.inr ⟨rfl, rfl, rfl⟩)))) (hb hby d2_38) (by show QvalU Z c0 zc h0 n0 _ T90.heap _; exact ⟨b88, t89, kb89, rfl, N90, Kp, ⟨Ex90, Fv90, Or.inr ⟨Fc90, V89⟩⟩, sz_b88, sz_t89⟩) (by decide) (by decide)
def Qcoder1 (Z : State) (x : Addr) (zc : Int32) (h0 : Heap) (n0 : Nat) (v : Option Value) (h : Heap) (L : List Loc) : Prop := v = some (.int (1 : Int32)) ∧ Fr n0 L ∧ h = h0
theorem rmcoder1 (l : Launch) (Z : State) (a0 : Array Value) (hw : own_tb a0 Z) (ws : List Jvm.Cond) (x : Addr) (zc : Int32) (h0 : Heap) (n0 : Nat) (Z0 : n0 ≤ h0.size) (O_ : Old Z n0 h0) (S_CS : Sta Z Z.heap "java/lang/String" "COMPACT_STRINGS" "Z" (.int zc)) (P_CS : ¬ zc = (0 : Int32)) (Fc : Fld Z h0 x "java/lang/String" "coder" "B" (.int (1 : Int32))) :
    OwnMet l (⟨"java/lang/String", "coder", "()B"⟩ : MethodName) jdk_42_method_152_code 1 (some .byte) ws ({ frames := 0, cells := 0, slots := 0, locals := 0 } : Room) #[(.ref x)] Z h0 (Qcoder1 Z x zc h0 n0) := by
  refine own_met (plainFor_of_name pn_15) ?_
  intro p e s m below meth c s₁ X0 hx hby hml hret hlk hown hnm hZ e0
  have N0 := Fr.nil n0
  have Z_ := Z0
  refine OwnGo.cast (ef_coder1 m x) ?_
  show OwnGo p e below s _ _ _ s₁ (mkF m 0 _ [])
  obtain ⟨T91, X91, e91, st91⟩ := getS2 X0 hx hZ hown (host := "") (Or.inl (W_ hw 9 rfl)) Via.refl e0 (S_CS.ext O_.2) (g := (mkF m 0 #[.val (.ref x)] [])) rfl (hb hby d15_0)
  refine .st st91 ?_
  show OwnGo p e below s _ _ _ T91 (mkF m 3 _ [(.int zc)])
  refine .ifNo X91 hx (hb hby d15_3) ((if0 _ _).trans (feq (P_CS : ¬ (zc = (0 : Int32)))).1) ?_
  refine .aloadN X91 hx (hb hby d15_6) rfl rfl ?_
  obtain ⟨T92, X92, e92, st92⟩ := getF X91 hx hZ hown (host := "") (Or.inl (W_ hw 29 rfl)) Via.refl e91 Fc (g := (mkF m 7 #[.val (.ref x)] [(.ref x)])) rfl rfl (hb hby d15_7)
  refine .st st92 ?_
  show OwnGo p e below s _ _ _ T92 (mkF m 10 _ [(.int (1 : Int32))])
  refine .goto (pc := 10) X92 hx 14 (hb hby d15_10) (by decide) (by decide) ?_
  exact OwnGo.retN X92 hx (t := .byte) hret hlk (by simp) (hb hby d15_14) (by show Qcoder1 Z x zc h0 n0 _ T92.heap _; rw [e92]; exact ⟨rfl, N0, rfl⟩) (by decide) (by decide)
def QisL1 (Z : State) (x : Addr) (zc : Int32) (h0 : Heap) (n0 : Nat) (v : Option Value) (h : Heap) (L : List Loc) : Prop := v = some (.int (0 : Int32)) ∧ Fr n0 L ∧ h = h0
theorem rmisL1 (l : Launch) (Z : State) (a0 : Array Value) (hw : own_tb a0 Z) (ws : List Jvm.Cond) (x : Addr) (zc : Int32) (h0 : Heap) (n0 : Nat) (Z0 : n0 ≤ h0.size) (O_ : Old Z n0 h0) (S_CS : Sta Z Z.heap "java/lang/String" "COMPACT_STRINGS" "Z" (.int zc)) (P_CS : ¬ zc = (0 : Int32)) (Fc : Fld Z h0 x "java/lang/String" "coder" "B" (.int (1 : Int32))) :
    OwnMet l (⟨"java/lang/String", "isLatin1", "()Z"⟩ : MethodName) jdk_42_method_154_code 1 (some .boolean) ws ({ frames := 0, cells := 0, slots := 0, locals := 0 } : Room) #[(.ref x)] Z h0 (QisL1 Z x zc h0 n0) := by
  refine own_met (plainFor_of_name pn_15) ?_
  intro p e s m below meth c s₁ X0 hx hby hml hret hlk hown hnm hZ e0
  have N0 := Fr.nil n0
  have Z_ := Z0
  refine OwnGo.cast (ef_isL1 m x) ?_
  show OwnGo p e below s _ _ _ s₁ (mkF m 0 _ [])
  obtain ⟨T93, X93, e93, st93⟩ := getS2 X0 hx hZ hown (host := "") (Or.inl (W_ hw 9 rfl)) Via.refl e0 (S_CS.ext O_.2) (g := (mkF m 0 #[.val (.ref x)] [])) rfl (hb hby d29_0)
  refine .st st93 ?_
  show OwnGo p e below s _ _ _ T93 (mkF m 3 _ [(.int zc)])
  refine .ifNo X93 hx (hb hby d29_3) ((if0 _ _).trans (feq (P_CS : ¬ (zc = (0 : Int32)))).1) ?_
  refine .aloadN X93 hx (hb hby d29_6) rfl rfl ?_
  obtain ⟨T94, X94, e94, st94⟩ := getF X93 hx hZ hown (host := "") (Or.inl (W_ hw 29 rfl)) Via.refl e93 Fc (g := (mkF m 7 #[.val (.ref x)] [(.ref x)])) rfl rfl (hb hby d29_7)
  refine .st st94 ?_
  show OwnGo p e below s _ _ _ T94 (mkF m 10 _ [(.int (1 : Int32))])
  refine .ifYes (pc := 10) X94 hx 17 (hb hby d29_10) ((if0 _ _).trans (feq ((by decide) : ¬ ((1 : Int32) = (0 : Int32)))).2) (by decide) (by decide) ?_
  refine .iconst X94 hx (hb hby d29_17) own_ki0 ?_
  exact OwnGo.retN X94 hx (t := .boolean) hret hlk (by simp) (hb hby d29_18) (by show QisL1 Z x zc h0 n0 _ T94.heap _; rw [e94]; exact ⟨rfl, N0, rfl⟩) (by decide) (by decide)
def Qulen (Z : State) (t : Addr) (kb : ClassId) (vs : List Value) (y : Int32) (z : Int32) (h0 : Heap) (n0 : Nat) (v : Option Value) (h : Heap) (L : List Loc) : Prop := v = some (.int z) ∧ Fr n0 L ∧ h = h0
theorem rmulen (l : Launch) (Z : State) (a0 : Array Value) (hw : own_tb a0 Z) (ws : List Jvm.Cond) (t : Addr) (kb : ClassId) (vs : List Value) (y : Int32) (z : Int32) (h0 : Heap) (n0 : Nat) (Z0 : n0 ≤ h0.size) (V_t : Arv Z h0 t kb .byte y vs (.int (0 : Int32))) (hy : (y >>> ((1 : Int32) &&& 31)) = z) :
    OwnMet l (⟨"java/lang/StringUTF16", "length", "([B)I"⟩ : MethodName) jdk_52_method_6_code 1 (some .int) ws ({ frames := 0, cells := 0, slots := 0, locals := 0 } : Room) #[(.ref t)] Z h0 (Qulen Z t kb vs y z h0 n0) := by
  refine own_met (plainFor_of_name pn_50) ?_
  intro p e s m below meth c s₁ X0 hx hby hml hret hlk hown hnm hZ e0
  have N0 := Fr.nil n0
  have Z_ := Z0
  refine OwnGo.cast (ef_ulen m t) ?_
  show OwnGo p e below s _ _ _ s₁ (mkF m 0 _ [])
  refine .aloadN X0 hx (hb hby d54_0) rfl rfl ?_
  obtain ⟨cl95, Ar95, -, S95, N95, -, -⟩ := id V_t
  refine .st (fun _ => own_len hZ (len_of S95 N95) Ar95 X0 e0 hx (g := (mkF m 1 #[.val (.ref t)] [(.ref t)])) rfl rfl (hb hby d54_1) _) ?_
  show OwnGo p e below s _ _ _ s₁ (mkF m 2 _ [(.int y)])
  refine .iconst X0 hx (hb hby d54_2) own_ki1 ?_
  refine .st (fun _ => XS.ishr X0.here hx rfl (hb hby d54_3) rfl) ?_
  show OwnGo p e below s _ _ _ s₁ (mkF m 4 _ [(.int (y >>> ((1 : Int32) &&& 31)))])
  rw [hy]
  show OwnGo p e below s _ _ _ s₁ (mkF m 4 _ [(.int z)])
  exact OwnGo.ret X0 hx hret hlk rfl (Or.inl ⟨rfl, Or.inl rfl, _, rfl⟩) (hb hby d54_4) (by show Qulen Z t kb vs y z h0 n0 _ s₁.heap _; rw [e0]; exact ⟨rfl, N0, rfl⟩) (by decide) (by decide)
def Quck (Z : State) (t : Addr) (kb : ClassId) (vs : List Value) (y : Int32) (z : Int32) (i : Int32) (fmv : Value) (h0 : Heap) (n0 : Nat) (v : Option Value) (h : Heap) (L : List Loc) : Prop := v = none ∧ Fr n0 L ∧ h = h0
theorem rmuck (l : Launch) (Z : State) (a0 : Array Value) (hw : own_tb a0 Z) (ws : List Jvm.Cond) (t : Addr) (kb : ClassId) (vs : List Value) (y : Int32) (z : Int32) (i : Int32) (fmv : Value) (h0 : Heap) (n0 : Nat) (Z0 : n0 ≤ h0.size) (O_ : Old Z n0 h0) (S_SF : Sta Z Z.heap "jdk/internal/util/Preconditions" "SIOOBE_FORMATTER" "Ljava/util/function/BiFunction;" fmv) (rf_fmv : fmv.isRef = true) (V_t : Arv Z h0 t kb .byte y vs (.int (0 : Int32))) (hy : (y >>> ((1 : Int32) &&& 31)) = z) (hi : ¬ i < (0 : Int32)) (hn : i < z) :
    OwnMet l (⟨"java/lang/StringUTF16", "checkIndex", "(I[B)V"⟩ : MethodName) jdk_52_method_91_code 2 none ws ({ frames := 2, cells := 0, slots := 0, locals := 27 } : Room) #[(.int i), (.ref t)] Z h0 (Quck Z t kb vs y z i fmv h0 n0) := by
  refine own_met (plainFor_of_name pn_50) ?_
  intro p e s m below meth c s₁ X0 hx hby hml hret hlk hown hnm hZ e0
  have N0 := Fr.nil n0
  have Z_ := Z0
  refine OwnGo.cast (ef_uck m i t) ?_
  show OwnGo p e below s _ _ _ s₁ (mkF m 0 _ [])
  refine .iloadN X0 hx (hb hby d53_0) rfl ?_
  refine .aloadN X0 hx (hb hby d53_1) rfl rfl ?_
  obtain ⟨_, _, ⟨T96, L96, k96, n96⟩, -, X96, ⟨Lc96, hQ96, l96, y96, z96⟩, st96⟩ := Jvm.LawKit.callS X0 hx (y := (⟨"java/lang/StringUTF16", "length", "([B)I"⟩ : MethodName)) hown (mvT hZ (W_ hw 269 rfl)) (mvT hZ (W_ hw 270 rfl)) (mvT hZ (W_ hw 235 rfl)) (mvT hZ (W_ hw 271 rfl)) (by decide) (backOf (W := 1) (rmulen l Z a0 hw [] t kb vs y z h0 n0 Z_ V_t hy) hZ (W_ hw 271 rfl) (W_ hw 235 rfl) (by decide) (by decide)) (g := (mkF m 2 #[.val (.int i), .val (.ref t)] [(.ref t), (.int i)])) rfl (by rw [hml]; rfl) (argsL := [(.ref t)]) (rest := [(.int i)]) (lenOf pd_15 rfl) rfl (Nat.le_of_eq rfl) (hb hby d53_2) (fun _ _ => ⟨rfl, e0, (by decide : 0 + 0 ≤ _), (by decide : 0 + 0 ≤ _)⟩)
  dsimp only [Pt.U, Pt.locs, Pt.cells, Pt.slots] at X96 l96 y96 z96 st96 hQ96
  subst y96 z96
  obtain ⟨rfl, N96q, e96⟩ := hQ96
  have N96 := own_frl l96 N0 N96q
  refine .st st96 ?_
  show OwnGo p e below s _ _ _ T96 (mkF m 5 _ [(.int z), (.int i)])
  obtain ⟨_, _, ⟨T97, L97, k97, n97⟩, -, X97, ⟨Lc97, hQ97, l97, y97, z97⟩, st97⟩ := Jvm.LawKit.callS X96 hx (y := (⟨"java/lang/String", "checkIndex", "(II)V"⟩ : MethodName)) hown (mvT hZ (W_ hw 272 rfl)) (mvT hZ (W_ hw 174 rfl)) (mvT hZ (W_ hw 7 rfl)) (mvT hZ (W_ hw 175 rfl)) (by decide) (backOf (W := 0) (rmscheck l Z a0 hw [] i z fmv h0 n0 Z_ O_ S_SF rf_fmv hi hn) hZ (W_ hw 175 rfl) (W_ hw 7 rfl) (by decide) (by decide)) (g := (mkF m 5 #[.val (.int i), .val (.ref t)] [(.int z), (.int i)])) rfl (by rw [hml]; rfl) (argsL := [(.int i), (.int z)]) (rest := []) (lenOf pd_5 rfl) rfl (Nat.le_of_eq rfl) (hb hby d53_5) (fun _ _ => ⟨rfl, e96, (by decide : 0 + 0 ≤ _), (by decide : 0 + 0 ≤ _)⟩)
  dsimp only [Pt.U, Pt.locs, Pt.cells, Pt.slots] at X97 l97 y97 z97 st97 hQ97
  subst y97 z97
  obtain ⟨rfl, N97q, e97⟩ := hQ97
  have N97 := own_frl l97 N96 N97q
  refine .st st97 ?_
  show OwnGo p e below s _ _ _ T97 (mkF m 8 _ [])
  exact OwnGo.retV X97 hx hret hlk (hb hby d53_8) (by show Quck Z t kb vs y z i fmv h0 n0 _ T97.heap _; rw [e97]; exact ⟨rfl, N97, rfl⟩) (by decide) (by decide)
def Qslen (Z : State) (x : Addr) (t : Addr) (kb : ClassId) (cl : List Int32) (zc : Int32) (h0 : Heap) (n0 : Nat) (v : Option Value) (h : Heap) (L : List Loc) : Prop := v = some (.int (Int32.ofNat (List.length cl))) ∧ Fr n0 L ∧ h = h0
theorem rmslen (l : Launch) (Z : State) (a0 : Array Value) (hw : own_tb a0 Z) (ws : List Jvm.Cond) (x : Addr) (t : Addr) (kb : ClassId) (cl : List Int32) (zc : Int32) (h0 : Heap) (n0 : Nat) (Z0 : n0 ≤ h0.size) (O_ : Old Z n0 h0) (S_CS : Sta Z Z.heap "java/lang/String" "COMPACT_STRINGS" "Z" (.int zc)) (P_CS : ¬ zc = (0 : Int32)) (SS : own_T Z h0 x t kb cl) :
    OwnMet l (⟨"java/lang/String", "length", "()I"⟩ : MethodName) jdk_42_method_54_code 1 (some .int) ws ({ frames := 1, cells := 0, slots := 0, locals := 13 } : Room) #[(.ref x)] Z h0 (Qslen Z x t kb cl zc h0 n0) := by
  refine own_met (plainFor_of_name pn_15) ?_
  intro p e s m below meth c s₁ X0 hx hby hml hret hlk hown hnm hZ e0
  have N0 := Fr.nil n0
  have Z_ := Z0
  refine OwnGo.cast (ef_slen m x) ?_
  show OwnGo p e below s _ _ _ s₁ (mkF m 0 _ [])
  rcases cl with _ | ⟨c0, _ | ⟨c1, _ | ⟨c2, cl⟩⟩⟩
  · have SS : own_S0 Z h0 x t kb  := SS
    obtain ⟨E_x, Fv, hk⟩ := SS
    rcases hk with ⟨Fc, V_t, hl⟩ | ⟨Fc, V_t⟩
    · refine .aloadN X0 hx (hb hby d14_0) rfl rfl ?_
      obtain ⟨T98, X98, e98, st98⟩ := getF X0 hx hZ hown (host := "") (Or.inl (W_ hw 27 rfl)) Via.refl e0 Fv (g := (mkF m 1 #[.val (.ref x)] [(.ref x)])) rfl rfl (hb hby d14_1)
      refine .st st98 ?_
      show OwnGo p e below s _ _ _ T98 (mkF m 4 _ [(.ref t)])
      obtain ⟨cl99, Ar99, -, S99, N99, -, -⟩ := id V_t
      refine .st (fun _ => own_len hZ (len_of S99 N99) Ar99 X98 e98 hx (g := (mkF m 4 #[.val (.ref x)] [(.ref t)])) rfl rfl (hb hby d14_4) _) ?_
      show OwnGo p e below s _ _ _ T98 (mkF m 5 _ [(.int (0 : Int32))])
      refine .aloadN X98 hx (hb hby d14_5) rfl rfl ?_
      obtain ⟨cq100, kq100, q100a, q100b, q100c⟩ := isOf hZ e98 E_x
      obtain ⟨_, _, ⟨T100, L100, k100, n100⟩, -, X100, ⟨Lc100, hQ100, l100, y100, z100⟩, st100⟩ := X98.virtualBack hx (y := (⟨"java/lang/String", "coder", "()B"⟩ : MethodName)) (z := (⟨"java/lang/String", "coder", "()B"⟩ : MethodName)) hown (mvT hZ (W_ hw 76 rfl)) (mvT hZ (W_ hw 77 rfl)) (notFace_of_selects (args := #[]) (mvT hZ (W_ hw 79 rfl))) (mvT hZ (W_ hw 79 rfl)) (mvT hZ (W_ hw 78 rfl)) (by decide) (backOf (W := 1) (rmcoder l Z a0 hw [] x zc h0 n0 Z_ O_ S_CS P_CS Fc) hZ (W_ hw 80 rfl) (W_ hw 7 rfl) (by decide) (by decide)) q100a q100c (g := (mkF m 6 #[.val (.ref x)] [(.ref x), (.int (0 : Int32))])) rfl (by rw [hml]; rfl) (Steps.refl _) (argsL := []) (rest := [(.int (0 : Int32))]) (lenOf pd_0 rfl) rfl (Nat.le_of_eq rfl) (hb hby d14_6) (fun _ _ => ⟨rfl, e98, (by decide : 0 + 0 ≤ _), (by decide : 0 + 0 ≤ _)⟩)
      dsimp only [Pt.U, Pt.locs, Pt.cells, Pt.slots] at X100 l100 y100 z100 st100 hQ100
      subst y100 z100
      obtain ⟨rfl, N100q, e100⟩ := hQ100
      have N100 := own_frl l100 N0 N100q
      refine .st (fun _ => st100.trans) ?_
      show OwnGo p e below s _ _ _ T100 (mkF m 9 _ [(.int (0 : Int32)), (.int (0 : Int32))])
      refine .st (fun _ => XS.ishr X100.here hx rfl (hb hby d14_9) rfl) ?_
      show OwnGo p e below s _ _ _ T100 (mkF m 10 _ [(.int ((0 : Int32) >>> ((0 : Int32) &&& 31)))])
      rw [show ((0 : Int32) >>> ((0 : Int32) &&& 31)) = (0 : Int32) from by decide]
      show OwnGo p e below s _ _ _ T100 (mkF m 10 _ [(.int (0 : Int32))])
      exact OwnGo.ret X100 hx hret hlk rfl (Or.inl ⟨rfl, Or.inl rfl, _, rfl⟩) (hb hby d14_10) (by show Qslen Z x t kb [] zc h0 n0 _ T100.heap _; rw [e100]; exact ⟨rfl, N100, rfl⟩) (by decide) (by decide)
    · refine .aloadN X0 hx (hb hby d14_0) rfl rfl ?_
      obtain ⟨T101, X101, e101, st101⟩ := getF X0 hx hZ hown (host := "") (Or.inl (W_ hw 27 rfl)) Via.refl e0 Fv (g := (mkF m 1 #[.val (.ref x)] [(.ref x)])) rfl rfl (hb hby d14_1)
      refine .st st101 ?_
      show OwnGo p e below s _ _ _ T101 (mkF m 4 _ [(.ref t)])
      obtain ⟨cl102, Ar102, -, S102, N102, -, -⟩ := id V_t
      refine .st (fun _ => own_len hZ (len_of S102 N102) Ar102 X101 e101 hx (g := (mkF m 4 #[.val (.ref x)] [(.ref t)])) rfl rfl (hb hby d14_4) _) ?_
      show OwnGo p e below s _ _ _ T101 (mkF m 5 _ [(.int (0 : Int32))])
      refine .aloadN X101 hx (hb hby d14_5) rfl rfl ?_
      obtain ⟨cq103, kq103, q103a, q103b, q103c⟩ := isOf hZ e101 E_x
      obtain ⟨_, _, ⟨T103, L103, k103, n103⟩, -, X103, ⟨Lc103, hQ103, l103, y103, z103⟩, st103⟩ := X101.virtualBack hx (y := (⟨"java/lang/String", "coder", "()B"⟩ : MethodName)) (z := (⟨"java/lang/String", "coder", "()B"⟩ : MethodName)) hown (mvT hZ (W_ hw 76 rfl)) (mvT hZ (W_ hw 77 rfl)) (notFace_of_selects (args := #[]) (mvT hZ (W_ hw 79 rfl))) (mvT hZ (W_ hw 79 rfl)) (mvT hZ (W_ hw 78 rfl)) (by decide) (backOf (W := 1) (rmcoder1 l Z a0 hw [] x zc h0 n0 Z_ O_ S_CS P_CS Fc) hZ (W_ hw 80 rfl) (W_ hw 7 rfl) (by decide) (by decide)) q103a q103c (g := (mkF m 6 #[.val (.ref x)] [(.ref x), (.int (0 : Int32))])) rfl (by rw [hml]; rfl) (Steps.refl _) (argsL := []) (rest := [(.int (0 : Int32))]) (lenOf pd_0 rfl) rfl (Nat.le_of_eq rfl) (hb hby d14_6) (fun _ _ => ⟨rfl, e101, (by decide : 0 + 0 ≤ _), (by decide : 0 + 0 ≤ _)⟩)
      dsimp only [Pt.U, Pt.locs, Pt.cells, Pt.slots] at X103 l103 y103 z103 st103 hQ103
      subst y103 z103
      obtain ⟨rfl, N103q, e103⟩ := hQ103
      have N103 := own_frl l103 N0 N103q
      refine .st (fun _ => st103.trans) ?_
      show OwnGo p e below s _ _ _ T103 (mkF m 9 _ [(.int (1 : Int32)), (.int (0 : Int32))])
      refine .st (fun _ => XS.ishr X103.here hx rfl (hb hby d14_9) rfl) ?_
      show OwnGo p e below s _ _ _ T103 (mkF m 10 _ [(.int ((0 : Int32) >>> ((1 : Int32) &&& 31)))])
      rw [show ((0 : Int32) >>> ((1 : Int32) &&& 31)) = (0 : Int32) from by decide]
      show OwnGo p e below s _ _ _ T103 (mkF m 10 _ [(.int (0 : Int32))])
      exact OwnGo.ret X103 hx hret hlk rfl (Or.inl ⟨rfl, Or.inl rfl, _, rfl⟩) (hb hby d14_10) (by show Qslen Z x t kb [] zc h0 n0 _ T103.heap _; rw [e103]; exact ⟨rfl, N103, rfl⟩) (by decide) (by decide)
  · have SS : own_S1 Z h0 x t kb c0 := SS
    obtain ⟨E_x, Fv, hk⟩ := SS
    rcases hk with ⟨Fc, V_t, hl⟩ | ⟨Fc, V_t⟩
    · refine .aloadN X0 hx (hb hby d14_0) rfl rfl ?_
      obtain ⟨T104, X104, e104, st104⟩ := getF X0 hx hZ hown (host := "") (Or.inl (W_ hw 27 rfl)) Via.refl e0 Fv (g := (mkF m 1 #[.val (.ref x)] [(.ref x)])) rfl rfl (hb hby d14_1)
      refine .st st104 ?_
      show OwnGo p e below s _ _ _ T104 (mkF m 4 _ [(.ref t)])
      obtain ⟨cl105, Ar105, -, S105, N105, -, -⟩ := id V_t
      refine .st (fun _ => own_len hZ (len_of S105 N105) Ar105 X104 e104 hx (g := (mkF m 4 #[.val (.ref x)] [(.ref t)])) rfl rfl (hb hby d14_4) _) ?_
      show OwnGo p e below s _ _ _ T104 (mkF m 5 _ [(.int (1 : Int32))])
      refine .aloadN X104 hx (hb hby d14_5) rfl rfl ?_
      obtain ⟨cq106, kq106, q106a, q106b, q106c⟩ := isOf hZ e104 E_x
      obtain ⟨_, _, ⟨T106, L106, k106, n106⟩, -, X106, ⟨Lc106, hQ106, l106, y106, z106⟩, st106⟩ := X104.virtualBack hx (y := (⟨"java/lang/String", "coder", "()B"⟩ : MethodName)) (z := (⟨"java/lang/String", "coder", "()B"⟩ : MethodName)) hown (mvT hZ (W_ hw 76 rfl)) (mvT hZ (W_ hw 77 rfl)) (notFace_of_selects (args := #[]) (mvT hZ (W_ hw 79 rfl))) (mvT hZ (W_ hw 79 rfl)) (mvT hZ (W_ hw 78 rfl)) (by decide) (backOf (W := 1) (rmcoder l Z a0 hw [] x zc h0 n0 Z_ O_ S_CS P_CS Fc) hZ (W_ hw 80 rfl) (W_ hw 7 rfl) (by decide) (by decide)) q106a q106c (g := (mkF m 6 #[.val (.ref x)] [(.ref x), (.int (1 : Int32))])) rfl (by rw [hml]; rfl) (Steps.refl _) (argsL := []) (rest := [(.int (1 : Int32))]) (lenOf pd_0 rfl) rfl (Nat.le_of_eq rfl) (hb hby d14_6) (fun _ _ => ⟨rfl, e104, (by decide : 0 + 0 ≤ _), (by decide : 0 + 0 ≤ _)⟩)
      dsimp only [Pt.U, Pt.locs, Pt.cells, Pt.slots] at X106 l106 y106 z106 st106 hQ106
      subst y106 z106
      obtain ⟨rfl, N106q, e106⟩ := hQ106
      have N106 := own_frl l106 N0 N106q
      refine .st (fun _ => st106.trans) ?_
      show OwnGo p e below s _ _ _ T106 (mkF m 9 _ [(.int (0 : Int32)), (.int (1 : Int32))])
      refine .st (fun _ => XS.ishr X106.here hx rfl (hb hby d14_9) rfl) ?_
      show OwnGo p e below s _ _ _ T106 (mkF m 10 _ [(.int ((1 : Int32) >>> ((0 : Int32) &&& 31)))])
      rw [show ((1 : Int32) >>> ((0 : Int32) &&& 31)) = (1 : Int32) from by decide]
      show OwnGo p e below s _ _ _ T106 (mkF m 10 _ [(.int (1 : Int32))])
      exact OwnGo.ret X106 hx hret hlk rfl (Or.inl ⟨rfl, Or.inl rfl, _, rfl⟩) (hb hby d14_10) (by show Qslen Z x t kb [c0] zc h0 n0 _ T106.heap _; rw [e106]; exact ⟨rfl, N106, rfl⟩) (by decide) (by decide)
    · refine .aloadN X0 hx (hb hby d14_0) rfl rfl ?_
      obtain ⟨T107, X107, e107, st107⟩ := getF X0 hx hZ hown (host := "") (Or.inl (W_ hw 27 rfl)) Via.refl e0 Fv (g := (mkF m 1 #[.val (.ref x)] [(.ref x)])) rfl rfl (hb hby d14_1)
      refine .st st107 ?_
      show OwnGo p e below s _ _ _ T107 (mkF m 4 _ [(.ref t)])
      obtain ⟨cl108, Ar108, -, S108, N108, -, -⟩ := id V_t
      refine .st (fun _ => own_len hZ (len_of S108 N108) Ar108 X107 e107 hx (g := (mkF m 4 #[.val (.ref x)] [(.ref t)])) rfl rfl (hb hby d14_4) _) ?_
      show OwnGo p e below s _ _ _ T107 (mkF m 5 _ [(.int (2 : Int32))])
      refine .aloadN X107 hx (hb hby d14_5) rfl rfl ?_
      obtain ⟨cq109, kq109, q109a, q109b, q109c⟩ := isOf hZ e107 E_x
      obtain ⟨_, _, ⟨T109, L109, k109, n109⟩, -, X109, ⟨Lc109, hQ109, l109, y109, z109⟩, st109⟩ := X107.virtualBack hx (y := (⟨"java/lang/String", "coder", "()B"⟩ : MethodName)) (z := (⟨"java/lang/String", "coder", "()B"⟩ : MethodName)) hown (mvT hZ (W_ hw 76 rfl)) (mvT hZ (W_ hw 77 rfl)) (notFace_of_selects (args := #[]) (mvT hZ (W_ hw 79 rfl))) (mvT hZ (W_ hw 79 rfl)) (mvT hZ (W_ hw 78 rfl)) (by decide) (backOf (W := 1) (rmcoder1 l Z a0 hw [] x zc h0 n0 Z_ O_ S_CS P_CS Fc) hZ (W_ hw 80 rfl) (W_ hw 7 rfl) (by decide) (by decide)) q109a q109c (g := (mkF m 6 #[.val (.ref x)] [(.ref x), (.int (2 : Int32))])) rfl (by rw [hml]; rfl) (Steps.refl _) (argsL := []) (rest := [(.int (2 : Int32))]) (lenOf pd_0 rfl) rfl (Nat.le_of_eq rfl) (hb hby d14_6) (fun _ _ => ⟨rfl, e107, (by decide : 0 + 0 ≤ _), (by decide : 0 + 0 ≤ _)⟩)
      dsimp only [Pt.U, Pt.locs, Pt.cells, Pt.slots] at X109 l109 y109 z109 st109 hQ109
      subst y109 z109
      obtain ⟨rfl, N109q, e109⟩ := hQ109
      have N109 := own_frl l109 N0 N109q
      refine .st (fun _ => st109.trans) ?_
      show OwnGo p e below s _ _ _ T109 (mkF m 9 _ [(.int (1 : Int32)), (.int (2 : Int32))])
      refine .st (fun _ => XS.ishr X109.here hx rfl (hb hby d14_9) rfl) ?_
      show OwnGo p e below s _ _ _ T109 (mkF m 10 _ [(.int ((2 : Int32) >>> ((1 : Int32) &&& 31)))])
      rw [show ((2 : Int32) >>> ((1 : Int32) &&& 31)) = (1 : Int32) from by decide]
      show OwnGo p e below s _ _ _ T109 (mkF m 10 _ [(.int (1 : Int32))])
      exact OwnGo.ret X109 hx hret hlk rfl (Or.inl ⟨rfl, Or.inl rfl, _, rfl⟩) (hb hby d14_10) (by show Qslen Z x t kb [c0] zc h0 n0 _ T109.heap _; rw [e109]; exact ⟨rfl, N109, rfl⟩) (by decide) (by decide)
  · have SS : own_S2 Z h0 x t kb c0 c1 := SS
    obtain ⟨E_x, Fv, hk⟩ := SS
    rcases hk with ⟨Fc, V_t, hl⟩ | ⟨Fc, V_t⟩
    · refine .aloadN X0 hx (hb hby d14_0) rfl rfl ?_
      obtain ⟨T110, X110, e110, st110⟩ := getF X0 hx hZ hown (host := "") (Or.inl (W_ hw 27 rfl)) Via.refl e0 Fv (g := (mkF m 1 #[.val (.ref x)] [(.ref x)])) rfl rfl (hb hby d14_1)
      refine .st st110 ?_
      show OwnGo p e below s _ _ _ T110 (mkF m 4 _ [(.ref t)])
      obtain ⟨cl111, Ar111, -, S111, N111, -, -⟩ := id V_t
      refine .st (fun _ => own_len hZ (len_of S111 N111) Ar111 X110 e110 hx (g := (mkF m 4 #[.val (.ref x)] [(.ref t)])) rfl rfl (hb hby d14_4) _) ?_
      show OwnGo p e below s _ _ _ T110 (mkF m 5 _ [(.int (2 : Int32))])
      refine .aloadN X110 hx (hb hby d14_5) rfl rfl ?_
      obtain ⟨cq112, kq112, q112a, q112b, q112c⟩ := isOf hZ e110 E_x
      obtain ⟨_, _, ⟨T112, L112, k112, n112⟩, -, X112, ⟨Lc112, hQ112, l112, y112, z112⟩, st112⟩ := X110.virtualBack hx (y := (⟨"java/lang/String", "coder", "()B"⟩ : MethodName)) (z := (⟨"java/lang/String", "coder", "()B"⟩ : MethodName)) hown (mvT hZ (W_ hw 76 rfl)) (mvT hZ (W_ hw 77 rfl)) (notFace_of_selects (args := #[]) (mvT hZ (W_ hw 79 rfl))) (mvT hZ (W_ hw 79 rfl)) (mvT hZ (W_ hw 78 rfl)) (by decide) (backOf (W := 1) (rmcoder l Z a0 hw [] x zc h0 n0 Z_ O_ S_CS P_CS Fc) hZ (W_ hw 80 rfl) (W_ hw 7 rfl) (by decide) (by decide)) q112a q112c (g := (mkF m 6 #[.val (.ref x)] [(.ref x), (.int (2 : Int32))])) rfl (by rw [hml]; rfl) (Steps.refl _) (argsL := []) (rest := [(.int (2 : Int32))]) (lenOf pd_0 rfl) rfl (Nat.le_of_eq rfl) (hb hby d14_6) (fun _ _ => ⟨rfl, e110, (by decide : 0 + 0 ≤ _), (by decide : 0 + 0 ≤ _)⟩)
      dsimp only [Pt.U, Pt.locs, Pt.cells, Pt.slots] at X112 l112 y112 z112 st112 hQ112
      subst y112 z112
      obtain ⟨rfl, N112q, e112⟩ := hQ112
      have N112 := own_frl l112 N0 N112q
      refine .st (fun _ => st112.trans) ?_
      show OwnGo p e below s _ _ _ T112 (mkF m 9 _ [(.int (0 : Int32)), (.int (2 : Int32))])
      refine .st (fun _ => XS.ishr X112.here hx rfl (hb hby d14_9) rfl) ?_
      show OwnGo p e below s _ _ _ T112 (mkF m 10 _ [(.int ((2 : Int32) >>> ((0 : Int32) &&& 31)))])
      rw [show ((2 : Int32) >>> ((0 : Int32) &&& 31)) = (2 : Int32) from by decide]
      show OwnGo p e below s _ _ _ T112 (mkF m 10 _ [(.int (2 : Int32))])
      exact OwnGo.ret X112 hx hret hlk rfl (Or.inl ⟨rfl, Or.inl rfl, _, rfl⟩) (hb hby d14_10) (by show Qslen Z x t kb [c0, c1] zc h0 n0 _ T112.heap _; rw [e112]; exact ⟨rfl, N112, rfl⟩) (by decide) (by decide)
    · refine .aloadN X0 hx (hb hby d14_0) rfl rfl ?_
      obtain ⟨T113, X113, e113, st113⟩ := getF X0 hx hZ hown (host := "") (Or.inl (W_ hw 27 rfl)) Via.refl e0 Fv (g := (mkF m 1 #[.val (.ref x)] [(.ref x)])) rfl rfl (hb hby d14_1)
      refine .st st113 ?_
      show OwnGo p e below s _ _ _ T113 (mkF m 4 _ [(.ref t)])
      obtain ⟨cl114, Ar114, -, S114, N114, -, -⟩ := id V_t
      refine .st (fun _ => own_len hZ (len_of S114 N114) Ar114 X113 e113 hx (g := (mkF m 4 #[.val (.ref x)] [(.ref t)])) rfl rfl (hb hby d14_4) _) ?_
      show OwnGo p e below s _ _ _ T113 (mkF m 5 _ [(.int (4 : Int32))])
      refine .aloadN X113 hx (hb hby d14_5) rfl rfl ?_
      obtain ⟨cq115, kq115, q115a, q115b, q115c⟩ := isOf hZ e113 E_x
      obtain ⟨_, _, ⟨T115, L115, k115, n115⟩, -, X115, ⟨Lc115, hQ115, l115, y115, z115⟩, st115⟩ := X113.virtualBack hx (y := (⟨"java/lang/String", "coder", "()B"⟩ : MethodName)) (z := (⟨"java/lang/String", "coder", "()B"⟩ : MethodName)) hown (mvT hZ (W_ hw 76 rfl)) (mvT hZ (W_ hw 77 rfl)) (notFace_of_selects (args := #[]) (mvT hZ (W_ hw 79 rfl))) (mvT hZ (W_ hw 79 rfl)) (mvT hZ (W_ hw 78 rfl)) (by decide) (backOf (W := 1) (rmcoder1 l Z a0 hw [] x zc h0 n0 Z_ O_ S_CS P_CS Fc) hZ (W_ hw 80 rfl) (W_ hw 7 rfl) (by decide) (by decide)) q115a q115c (g := (mkF m 6 #[.val (.ref x)] [(.ref x), (.int (4 : Int32))])) rfl (by rw [hml]; rfl) (Steps.refl _) (argsL := []) (rest := [(.int (4 : Int32))]) (lenOf pd_0 rfl) rfl (Nat.le_of_eq rfl) (hb hby d14_6) (fun _ _ => ⟨rfl, e113, (by decide : 0 + 0 ≤ _), (by decide : 0 + 0 ≤ _)⟩)
      dsimp only [Pt.U, Pt.locs, Pt.cells, Pt.slots] at X115 l115 y115 z115 st115 hQ115
      subst y115 z115
      obtain ⟨rfl, N115q, e115⟩ := hQ115
      have N115 := own_frl l115 N0 N115q
      refine .st (fun _ => st115.trans) ?_
      show OwnGo p e below s _ _ _ T115 (mkF m 9 _ [(.int (1 : Int32)), (.int (4 : Int32))])
      refine .st (fun _ => XS.ishr X115.here hx rfl (hb hby d14_9) rfl) ?_
      show OwnGo p e below s _ _ _ T115 (mkF m 10 _ [(.int ((4 : Int32) >>> ((1 : Int32) &&& 31)))])
      rw [show ((4 : Int32) >>> ((1 : Int32) &&& 31)) = (2 : Int32) from by decide]
      show OwnGo p e below s _ _ _ T115 (mkF m 10 _ [(.int (2 : Int32))])
      exact OwnGo.ret X115 hx hret hlk rfl (Or.inl ⟨rfl, Or.inl rfl, _, rfl⟩) (hb hby d14_10) (by show Qslen Z x t kb [c0, c1] zc h0 n0 _ T115.heap _; rw [e115]; exact ⟨rfl, N115, rfl⟩) (by decide) (by decide)
  · exact False.elim SS
def Quch1_0 (Z : State) (t : Addr) (kb : ClassId) (c0 : Int32) (fmv : Value) (h0 : Heap) (n0 : Nat) (v : Option Value) (h : Heap) (L : List Loc) : Prop := v = some (.int c0) ∧ Fr n0 L ∧ h = h0
theorem rmuch1_0 (l : Launch) (Z : State) (a0 : Array Value) (hw : own_tb a0 Z) (ws : List Jvm.Cond) (t : Addr) (kb : ClassId) (c0 : Int32) (fmv : Value) (h0 : Heap) (n0 : Nat) (Z0 : n0 ≤ h0.size) (O_ : Old Z n0 h0) (S_AD : Sta Z Z.heap "java/lang/StringUTF16" "$assertionsDisabled" "Z" (.int (1 : Int32))) (S_HB : Sta Z Z.heap "java/lang/StringUTF16" "HI_BYTE_SHIFT" "I" (.int (0 : Int32))) (S_LB : Sta Z Z.heap "java/lang/StringUTF16" "LO_BYTE_SHIFT" "I" (.int (8 : Int32))) (S_SF : Sta Z Z.heap "jdk/internal/util/Preconditions" "SIOOBE_FORMATTER" "Ljava/util/function/BiFunction;" fmv) (rf_fmv : fmv.isRef = true) (V_t : Arv Z h0 t kb .byte (2 : Int32) [(.int (own_lo c0)), (.int (own_hi c0))] (.int (0 : Int32))) (P_c0 : own_u c0) :
    OwnMet l (⟨"java/lang/StringUTF16", "charAt", "([BI)C"⟩ : MethodName) jdk_52_method_83_code 2 (some .char) ws ({ frames := 3, cells := 0, slots := 0, locals := 40 } : Room) #[(.ref t), (.int (0 : Int32))] Z h0 (Quch1_0 Z t kb c0 fmv h0 n0) := by
  refine own_met (plainFor_of_name pn_50) ?_
  intro p e s m below meth c s₁ X0 hx hby hml hret hlk hown hnm hZ e0
  have N0 := Fr.nil n0
  have Z_ := Z0
  refine OwnGo.cast (ef_uch1_0 m t (0 : Int32)) ?_
  show OwnGo p e below s _ _ _ s₁ (mkF m 0 _ [])
  refine .iloadN X0 hx (hb hby d52_0) rfl ?_
  refine .aloadN X0 hx (hb hby d52_1) rfl rfl ?_
  obtain ⟨_, _, ⟨T116, L116, k116, n116⟩, -, X116, ⟨Lc116, hQ116, l116, y116, z116⟩, st116⟩ := Jvm.LawKit.callS X0 hx (y := (⟨"java/lang/StringUTF16", "checkIndex", "(I[B)V"⟩ : MethodName)) hown (mvT hZ (W_ hw 266 rfl)) (mvT hZ (W_ hw 267 rfl)) (mvT hZ (W_ hw 235 rfl)) (mvT hZ (W_ hw 268 rfl)) (by decide) (backOf (W := 0) (rmuck l Z a0 hw [] t kb [(.int (own_lo c0)), (.int (own_hi c0))] (2 : Int32) (1 : Int32) (0 : Int32) fmv h0 n0 Z_ O_ S_SF rf_fmv V_t (by decide) (by decide) (by decide)) hZ (W_ hw 268 rfl) (W_ hw 235 rfl) (by decide) (by decide)) (g := (mkF m 2 #[.val (.ref t), .val (.int (0 : Int32))] [(.ref t), (.int (0 : Int32))])) rfl (by rw [hml]; rfl) (argsL := [(.int (0 : Int32)), (.ref t)]) (rest := []) (lenOf pd_16 rfl) rfl (Nat.le_of_eq rfl) (hb hby d52_2) (fun _ _ => ⟨rfl, e0, (by decide : 0 + 0 ≤ _), (by decide : 0 + 0 ≤ _)⟩)
  dsimp only [Pt.U, Pt.locs, Pt.cells, Pt.slots] at X116 l116 y116 z116 st116 hQ116
  subst y116 z116
  obtain ⟨rfl, N116q, e116⟩ := hQ116
  have N116 := own_frl l116 N0 N116q
  refine .st st116 ?_
  show OwnGo p e below s _ _ _ T116 (mkF m 5 _ [])
  refine .aloadN X116 hx (hb hby d52_5) rfl rfl ?_
  refine .iloadN X116 hx (hb hby d52_6) rfl ?_
  obtain ⟨_, _, ⟨T117, L117, k117, n117⟩, -, X117, ⟨Lc117, hQ117, l117, y117, z117⟩, st117⟩ := Jvm.LawKit.callS X116 hx (y := (⟨"java/lang/StringUTF16", "getChar", "([BI)C"⟩ : MethodName)) hown (mvT hZ (W_ hw 260 rfl)) (mvT hZ (W_ hw 261 rfl)) (mvT hZ (W_ hw 235 rfl)) (mvT hZ (W_ hw 262 rfl)) (by decide) (backOf (W := 0) (rmgetC0 l Z a0 hw [] t kb c0 (2 : Int32) [(.int (own_lo c0)), (.int (own_hi c0))] h0 n0 Z_ O_ S_AD S_HB S_LB V_t ⟨by decide, by decide⟩ ⟨by decide, by decide⟩ rfl rfl P_c0) hZ (W_ hw 262 rfl) (W_ hw 235 rfl) (by decide) (by decide)) (g := (mkF m 7 #[.val (.ref t), .val (.int (0 : Int32))] [(.int (0 : Int32)), (.ref t)])) rfl (by rw [hml]; rfl) (argsL := [(.ref t), (.int (0 : Int32))]) (rest := []) (lenOf pd_7 rfl) rfl (Nat.le_of_eq rfl) (hb hby d52_7) (fun _ _ => ⟨rfl, e116, (by decide : 0 + 0 ≤ _), (by decide : 0 + 0 ≤ _)⟩)
  dsimp only [Pt.U, Pt.locs, Pt.cells, Pt.slots] at X117 l117 y117 z117 st117 hQ117
  subst y117 z117
  obtain ⟨rfl, N117q, e117⟩ := hQ117
  have N117 := own_frl l117 N116 N117q
  refine .st st117 ?_
  show OwnGo p e below s _ _ _ T117 (mkF m 10 _ [(.int c0)])
  exact OwnGo.retN X117 hx (t := .char) hret hlk (by simp) (hb hby d52_10) (by show Quch1_0 Z t kb c0 fmv h0 n0 _ T117.heap _; rw [e117]; exact ⟨by rw [own_unc P_c0], N117, rfl⟩) (by decide) (by decide)
def QchA1_0 (Z : State) (x : Addr) (t : Addr) (kb : ClassId) (c0 : Int32) (zc : Int32) (fmv : Value) (h0 : Heap) (n0 : Nat) (v : Option Value) (h : Heap) (L : List Loc) : Prop := v = some (.int c0) ∧ Fr n0 L ∧ h = h0
theorem rmchA1_0 (l : Launch) (Z : State) (a0 : Array Value) (hw : own_tb a0 Z) (ws : List Jvm.Cond) (x : Addr) (t : Addr) (kb : ClassId) (c0 : Int32) (zc : Int32) (fmv : Value) (h0 : Heap) (n0 : Nat) (Z0 : n0 ≤ h0.size) (O_ : Old Z n0 h0) (S_CS : Sta Z Z.heap "java/lang/String" "COMPACT_STRINGS" "Z" (.int zc)) (P_CS : ¬ zc = (0 : Int32)) (S_AD : Sta Z Z.heap "java/lang/StringUTF16" "$assertionsDisabled" "Z" (.int (1 : Int32))) (S_HB : Sta Z Z.heap "java/lang/StringUTF16" "HI_BYTE_SHIFT" "I" (.int (0 : Int32))) (S_LB : Sta Z Z.heap "java/lang/StringUTF16" "LO_BYTE_SHIFT" "I" (.int (8 : Int32))) (S_SF : Sta Z Z.heap "jdk/internal/util/Preconditions" "SIOOBE_FORMATTER" "Ljava/util/function/BiFunction;" fmv) (rf_fmv : fmv.isRef = true) (SS : own_S1 Z h0 x t kb c0) (P_c0 : own_u c0) :
    OwnMet l (⟨"java/lang/String", "charAt", "(I)C"⟩ : MethodName) jdk_42_method_56_code 2 (some .char) ws ({ frames := 4, cells := 0, slots := 0, locals := 53 } : Room) #[(.ref x), (.int (0 : Int32))] Z h0 (QchA1_0 Z x t kb c0 zc fmv h0 n0) := by
  refine own_met (plainFor_of_name pn_15) ?_
  intro p e s m below meth c s₁ X0 hx hby hml hret hlk hown hnm hZ e0
  have N0 := Fr.nil n0
  have Z_ := Z0
  refine OwnGo.cast (ef_chA1_0 m x (0 : Int32)) ?_
  show OwnGo p e below s _ _ _ s₁ (mkF m 0 _ [])
  obtain ⟨E_x, Fv, hk⟩ := SS
  rcases hk with ⟨Fc, V_t, hl⟩ | ⟨Fc, V_t⟩
  · refine .aloadN X0 hx (hb hby d28_0) rfl rfl ?_
    obtain ⟨cq118, kq118, q118a, q118b, q118c⟩ := isOf hZ e0 E_x
    obtain ⟨_, _, ⟨T118, L118, k118, n118⟩, -, X118, ⟨Lc118, hQ118, l118, y118, z118⟩, st118⟩ := X0.virtualBack hx (y := (⟨"java/lang/String", "isLatin1", "()Z"⟩ : MethodName)) (z := (⟨"java/lang/String", "isLatin1", "()Z"⟩ : MethodName)) hown (mvT hZ (W_ hw 165 rfl)) (mvT hZ (W_ hw 166 rfl)) (notFace_of_selects (args := #[]) (mvT hZ (W_ hw 168 rfl))) (mvT hZ (W_ hw 168 rfl)) (mvT hZ (W_ hw 167 rfl)) (by decide) (backOf (W := 0) (rmisLatin1 l Z a0 hw [] x zc h0 n0 Z_ O_ S_CS P_CS Fc) hZ (W_ hw 169 rfl) (W_ hw 7 rfl) (by decide) (by decide)) q118a q118c (g := (mkF m 1 #[.val (.ref x), .val (.int (0 : Int32))] [(.ref x)])) rfl (by rw [hml]; rfl) (Steps.refl _) (argsL := []) (rest := []) (lenOf pd_6 rfl) rfl (Nat.le_of_eq rfl) (hb hby d28_1) (fun _ _ => ⟨rfl, e0, (by decide : 0 + 0 ≤ _), (by decide : 0 + 0 ≤ _)⟩)
    dsimp only [Pt.U, Pt.locs, Pt.cells, Pt.slots] at X118 l118 y118 z118 st118 hQ118
    subst y118 z118
    obtain ⟨rfl, N118q, e118⟩ := hQ118
    have N118 := own_frl l118 N0 N118q
    refine .st (fun _ => st118.trans) ?_
    show OwnGo p e below s _ _ _ T118 (mkF m 4 _ [(.int (1 : Int32))])
    refine .ifNo X118 hx (hb hby d28_4) ((if0 _ _).trans (feq ((by decide) : ¬ ((1 : Int32) = (0 : Int32)))).1) ?_
    refine .aloadN X118 hx (hb hby d28_7) rfl rfl ?_
    obtain ⟨T119, X119, e119, st119⟩ := getF X118 hx hZ hown (host := "") (Or.inl (W_ hw 27 rfl)) Via.refl e118 Fv (g := (mkF m 8 #[.val (.ref x), .val (.int (0 : Int32))] [(.ref x)])) rfl rfl (hb hby d28_8)
    refine .st st119 ?_
    show OwnGo p e below s _ _ _ T119 (mkF m 11 _ [(.ref t)])
    refine .iloadN X119 hx (hb hby d28_11) rfl ?_
    obtain ⟨_, _, ⟨T120, L120, k120, n120⟩, -, X120, ⟨Lc120, hQ120, l120, y120, z120⟩, st120⟩ := Jvm.LawKit.callS X119 hx (y := (⟨"java/lang/StringLatin1", "charAt", "([BI)C"⟩ : MethodName)) hown (mvT hZ (W_ hw 170 rfl)) (mvT hZ (W_ hw 171 rfl)) (mvT hZ (W_ hw 12 rfl)) (mvT hZ (W_ hw 172 rfl)) (by decide) (backOf (W := 0) (rmlcharAt l Z a0 hw [] t kb (1 : Int32) [(.int c0.toInt8.toInt32)] (0 : Int32) c0.toInt8.toInt32 c0 fmv h0 n0 Z_ O_ S_SF rf_fmv V_t ⟨by decide, by decide⟩ rfl (own_lch ⟨P_c0.1, hl⟩) (own_unc P_c0)) hZ (W_ hw 172 rfl) (W_ hw 12 rfl) (by decide) (by decide)) (g := (mkF m 12 #[.val (.ref x), .val (.int (0 : Int32))] [(.int (0 : Int32)), (.ref t)])) rfl (by rw [hml]; rfl) (argsL := [(.ref t), (.int (0 : Int32))]) (rest := []) (lenOf pd_7 rfl) rfl (Nat.le_of_eq rfl) (hb hby d28_12) (fun _ _ => ⟨rfl, e119, (by decide : 0 + 0 ≤ _), (by decide : 0 + 0 ≤ _)⟩)
    dsimp only [Pt.U, Pt.locs, Pt.cells, Pt.slots] at X120 l120 y120 z120 st120 hQ120
    subst y120 z120
    obtain ⟨rfl, N120q, e120⟩ := hQ120
    have N120 := own_frl l120 N118 N120q
    refine .st st120 ?_
    show OwnGo p e below s _ _ _ T120 (mkF m 15 _ [(.int c0)])
    exact OwnGo.retN X120 hx (t := .char) hret hlk (by simp) (hb hby d28_15) (by show QchA1_0 Z x t kb c0 zc fmv h0 n0 _ T120.heap _; rw [e120]; exact ⟨by rw [own_unc P_c0], N120, rfl⟩) (by decide) (by decide)
  · refine .aloadN X0 hx (hb hby d28_0) rfl rfl ?_
    obtain ⟨cq121, kq121, q121a, q121b, q121c⟩ := isOf hZ e0 E_x
    obtain ⟨_, _, ⟨T121, L121, k121, n121⟩, -, X121, ⟨Lc121, hQ121, l121, y121, z121⟩, st121⟩ := X0.virtualBack hx (y := (⟨"java/lang/String", "isLatin1", "()Z"⟩ : MethodName)) (z := (⟨"java/lang/String", "isLatin1", "()Z"⟩ : MethodName)) hown (mvT hZ (W_ hw 165 rfl)) (mvT hZ (W_ hw 166 rfl)) (notFace_of_selects (args := #[]) (mvT hZ (W_ hw 168 rfl))) (mvT hZ (W_ hw 168 rfl)) (mvT hZ (W_ hw 167 rfl)) (by decide) (backOf (W := 0) (rmisL1 l Z a0 hw [] x zc h0 n0 Z_ O_ S_CS P_CS Fc) hZ (W_ hw 169 rfl) (W_ hw 7 rfl) (by decide) (by decide)) q121a q121c (g := (mkF m 1 #[.val (.ref x), .val (.int (0 : Int32))] [(.ref x)])) rfl (by rw [hml]; rfl) (Steps.refl _) (argsL := []) (rest := []) (lenOf pd_6 rfl) rfl (Nat.le_of_eq rfl) (hb hby d28_1) (fun _ _ => ⟨rfl, e0, (by decide : 0 + 0 ≤ _), (by decide : 0 + 0 ≤ _)⟩)
    dsimp only [Pt.U, Pt.locs, Pt.cells, Pt.slots] at X121 l121 y121 z121 st121 hQ121
    subst y121 z121
    obtain ⟨rfl, N121q, e121⟩ := hQ121
    have N121 := own_frl l121 N0 N121q
    refine .st (fun _ => st121.trans) ?_
    show OwnGo p e below s _ _ _ T121 (mkF m 4 _ [(.int (0 : Int32))])
    refine .ifYes (pc := 4) X121 hx 16 (hb hby d28_4) ((if0 _ _).trans (teq ((by decide) : (0 : Int32) = (0 : Int32))).1) (by decide) (by decide) ?_
    refine .aloadN X121 hx (hb hby d28_16) rfl rfl ?_
    obtain ⟨T122, X122, e122, st122⟩ := getF X121 hx hZ hown (host := "") (Or.inl (W_ hw 27 rfl)) Via.refl e121 Fv (g := (mkF m 17 #[.val (.ref x), .val (.int (0 : Int32))] [(.ref x)])) rfl rfl (hb hby d28_17)
    refine .st st122 ?_
    show OwnGo p e below s _ _ _ T122 (mkF m 20 _ [(.ref t)])
    refine .iloadN X122 hx (hb hby d28_20) rfl ?_
    obtain ⟨_, _, ⟨T123, L123, k123, n123⟩, -, X123, ⟨Lc123, hQ123, l123, y123, z123⟩, st123⟩ := Jvm.LawKit.callS X122 hx (y := (⟨"java/lang/StringUTF16", "charAt", "([BI)C"⟩ : MethodName)) hown (mvT hZ (W_ hw 263 rfl)) (mvT hZ (W_ hw 264 rfl)) (mvT hZ (W_ hw 235 rfl)) (mvT hZ (W_ hw 265 rfl)) (by decide) (backOf (W := 0) (rmuch1_0 l Z a0 hw [] t kb c0 fmv h0 n0 Z_ O_ S_AD S_HB S_LB S_SF rf_fmv V_t P_c0) hZ (W_ hw 265 rfl) (W_ hw 235 rfl) (by decide) (by decide)) (g := (mkF m 21 #[.val (.ref x), .val (.int (0 : Int32))] [(.int (0 : Int32)), (.ref t)])) rfl (by rw [hml]; rfl) (argsL := [(.ref t), (.int (0 : Int32))]) (rest := []) (lenOf pd_7 rfl) rfl (Nat.le_of_eq rfl) (hb hby d28_21) (fun _ _ => ⟨rfl, e122, (by decide : 0 + 0 ≤ _), (by decide : 0 + 0 ≤ _)⟩)
    dsimp only [Pt.U, Pt.locs, Pt.cells, Pt.slots] at X123 l123 y123 z123 st123 hQ123
    subst y123 z123
    obtain ⟨rfl, N123q, e123⟩ := hQ123
    have N123 := own_frl l123 N121 N123q
    refine .st st123 ?_
    show OwnGo p e below s _ _ _ T123 (mkF m 24 _ [(.int c0)])
    exact OwnGo.retN X123 hx (t := .char) hret hlk (by simp) (hb hby d28_24) (by show QchA1_0 Z x t kb c0 zc fmv h0 n0 _ T123.heap _; rw [e123]; exact ⟨by rw [own_unc P_c0], N123, rfl⟩) (by decide) (by decide)
def Quch2_0 (Z : State) (t : Addr) (kb : ClassId) (c0 : Int32) (c1 : Int32) (fmv : Value) (h0 : Heap) (n0 : Nat) (v : Option Value) (h : Heap) (L : List Loc) : Prop := v = some (.int c0) ∧ Fr n0 L ∧ h = h0
theorem rmuch2_0 (l : Launch) (Z : State) (a0 : Array Value) (hw : own_tb a0 Z) (ws : List Jvm.Cond) (t : Addr) (kb : ClassId) (c0 : Int32) (c1 : Int32) (fmv : Value) (h0 : Heap) (n0 : Nat) (Z0 : n0 ≤ h0.size) (O_ : Old Z n0 h0) (S_AD : Sta Z Z.heap "java/lang/StringUTF16" "$assertionsDisabled" "Z" (.int (1 : Int32))) (S_HB : Sta Z Z.heap "java/lang/StringUTF16" "HI_BYTE_SHIFT" "I" (.int (0 : Int32))) (S_LB : Sta Z Z.heap "java/lang/StringUTF16" "LO_BYTE_SHIFT" "I" (.int (8 : Int32))) (S_SF : Sta Z Z.heap "jdk/internal/util/Preconditions" "SIOOBE_FORMATTER" "Ljava/util/function/BiFunction;" fmv) (rf_fmv : fmv.isRef = true) (V_t : Arv Z h0 t kb .byte (4 : Int32) [(.int (own_lo c0)), (.int (own_hi c0)), (.int (own_lo c1)), (.int (own_hi c1))] (.int (0 : Int32))) (P_c0 : own_u c0) (P_c1 : own_u c1) :
    OwnMet l (⟨"java/lang/StringUTF16", "charAt", "([BI)C"⟩ : MethodName) jdk_52_method_83_code 2 (some .char) ws ({ frames := 3, cells := 0, slots := 0, locals := 40 } : Room) #[(.ref t), (.int (0 : Int32))] Z h0 (Quch2_0 Z t kb c0 c1 fmv h0 n0) := by
  refine own_met (plainFor_of_name pn_50) ?_
  intro p e s m below meth c s₁ X0 hx hby hml hret hlk hown hnm hZ e0
  have N0 := Fr.nil n0
  have Z_ := Z0
  refine OwnGo.cast (ef_uch2_0 m t (0 : Int32)) ?_
  show OwnGo p e below s _ _ _ s₁ (mkF m 0 _ [])
  refine .iloadN X0 hx (hb hby d52_0) rfl ?_
  refine .aloadN X0 hx (hb hby d52_1) rfl rfl ?_
  obtain ⟨_, _, ⟨T124, L124, k124, n124⟩, -, X124, ⟨Lc124, hQ124, l124, y124, z124⟩, st124⟩ := Jvm.LawKit.callS X0 hx (y := (⟨"java/lang/StringUTF16", "checkIndex", "(I[B)V"⟩ : MethodName)) hown (mvT hZ (W_ hw 266 rfl)) (mvT hZ (W_ hw 267 rfl)) (mvT hZ (W_ hw 235 rfl)) (mvT hZ (W_ hw 268 rfl)) (by decide) (backOf (W := 0) (rmuck l Z a0 hw [] t kb [(.int (own_lo c0)), (.int (own_hi c0)), (.int (own_lo c1)), (.int (own_hi c1))] (4 : Int32) (2 : Int32) (0 : Int32) fmv h0 n0 Z_ O_ S_SF rf_fmv V_t (by decide) (by decide) (by decide)) hZ (W_ hw 268 rfl) (W_ hw 235 rfl) (by decide) (by decide)) (g := (mkF m 2 #[.val (.ref t), .val (.int (0 : Int32))] [(.ref t), (.int (0 : Int32))])) rfl (by rw [hml]; rfl) (argsL := [(.int (0 : Int32)), (.ref t)]) (rest := []) (lenOf pd_16 rfl) rfl (Nat.le_of_eq rfl) (hb hby d52_2) (fun _ _ => ⟨rfl, e0, (by decide : 0 + 0 ≤ _), (by decide : 0 + 0 ≤ _)⟩)
  dsimp only [Pt.U, Pt.locs, Pt.cells, Pt.slots] at X124 l124 y124 z124 st124 hQ124
  subst y124 z124
  obtain ⟨rfl, N124q, e124⟩ := hQ124
  have N124 := own_frl l124 N0 N124q
  refine .st st124 ?_
  show OwnGo p e below s _ _ _ T124 (mkF m 5 _ [])
  refine .aloadN X124 hx (hb hby d52_5) rfl rfl ?_
  refine .iloadN X124 hx (hb hby d52_6) rfl ?_
  obtain ⟨_, _, ⟨T125, L125, k125, n125⟩, -, X125, ⟨Lc125, hQ125, l125, y125, z125⟩, st125⟩ := Jvm.LawKit.callS X124 hx (y := (⟨"java/lang/StringUTF16", "getChar", "([BI)C"⟩ : MethodName)) hown (mvT hZ (W_ hw 260 rfl)) (mvT hZ (W_ hw 261 rfl)) (mvT hZ (W_ hw 235 rfl)) (mvT hZ (W_ hw 262 rfl)) (by decide) (backOf (W := 0) (rmgetC0 l Z a0 hw [] t kb c0 (4 : Int32) [(.int (own_lo c0)), (.int (own_hi c0)), (.int (own_lo c1)), (.int (own_hi c1))] h0 n0 Z_ O_ S_AD S_HB S_LB V_t ⟨by decide, by decide⟩ ⟨by decide, by decide⟩ rfl rfl P_c0) hZ (W_ hw 262 rfl) (W_ hw 235 rfl) (by decide) (by decide)) (g := (mkF m 7 #[.val (.ref t), .val (.int (0 : Int32))] [(.int (0 : Int32)), (.ref t)])) rfl (by rw [hml]; rfl) (argsL := [(.ref t), (.int (0 : Int32))]) (rest := []) (lenOf pd_7 rfl) rfl (Nat.le_of_eq rfl) (hb hby d52_7) (fun _ _ => ⟨rfl, e124, (by decide : 0 + 0 ≤ _), (by decide : 0 + 0 ≤ _)⟩)
  dsimp only [Pt.U, Pt.locs, Pt.cells, Pt.slots] at X125 l125 y125 z125 st125 hQ125
  subst y125 z125
  obtain ⟨rfl, N125q, e125⟩ := hQ125
  have N125 := own_frl l125 N124 N125q
  refine .st st125 ?_
  show OwnGo p e below s _ _ _ T125 (mkF m 10 _ [(.int c0)])
  exact OwnGo.retN X125 hx (t := .char) hret hlk (by simp) (hb hby d52_10) (by show Quch2_0 Z t kb c0 c1 fmv h0 n0 _ T125.heap _; rw [e125]; exact ⟨by rw [own_unc P_c0], N125, rfl⟩) (by decide) (by decide)
def QchA2_0 (Z : State) (x : Addr) (t : Addr) (kb : ClassId) (c0 : Int32) (c1 : Int32) (zc : Int32) (fmv : Value) (h0 : Heap) (n0 : Nat) (v : Option Value) (h : Heap) (L : List Loc) : Prop := v = some (.int c0) ∧ Fr n0 L ∧ h = h0
theorem rmchA2_0 (l : Launch) (Z : State) (a0 : Array Value) (hw : own_tb a0 Z) (ws : List Jvm.Cond) (x : Addr) (t : Addr) (kb : ClassId) (c0 : Int32) (c1 : Int32) (zc : Int32) (fmv : Value) (h0 : Heap) (n0 : Nat) (Z0 : n0 ≤ h0.size) (O_ : Old Z n0 h0) (S_CS : Sta Z Z.heap "java/lang/String" "COMPACT_STRINGS" "Z" (.int zc)) (P_CS : ¬ zc = (0 : Int32)) (S_AD : Sta Z Z.heap "java/lang/StringUTF16" "$assertionsDisabled" "Z" (.int (1 : Int32))) (S_HB : Sta Z Z.heap "java/lang/StringUTF16" "HI_BYTE_SHIFT" "I" (.int (0 : Int32))) (S_LB : Sta Z Z.heap "java/lang/StringUTF16" "LO_BYTE_SHIFT" "I" (.int (8 : Int32))) (S_SF : Sta Z Z.heap "jdk/internal/util/Preconditions" "SIOOBE_FORMATTER" "Ljava/util/function/BiFunction;" fmv) (rf_fmv : fmv.isRef = true) (SS : own_S2 Z h0 x t kb c0 c1) (P_c0 : own_u c0) (P_c1 : own_u c1) :
    OwnMet l (⟨"java/lang/String", "charAt", "(I)C"⟩ : MethodName) jdk_42_method_56_code 2 (some .char) ws ({ frames := 4, cells := 0, slots := 0, locals := 53 } : Room) #[(.ref x), (.int (0 : Int32))] Z h0 (QchA2_0 Z x t kb c0 c1 zc fmv h0 n0) := by
  refine own_met (plainFor_of_name pn_15) ?_
  intro p e s m below meth c s₁ X0 hx hby hml hret hlk hown hnm hZ e0
  have N0 := Fr.nil n0
  have Z_ := Z0
  refine OwnGo.cast (ef_chA2_0 m x (0 : Int32)) ?_
  show OwnGo p e below s _ _ _ s₁ (mkF m 0 _ [])
  obtain ⟨E_x, Fv, hk⟩ := SS
  rcases hk with ⟨Fc, V_t, hl⟩ | ⟨Fc, V_t⟩
  · refine .aloadN X0 hx (hb hby d28_0) rfl rfl ?_
    obtain ⟨cq126, kq126, q126a, q126b, q126c⟩ := isOf hZ e0 E_x
    obtain ⟨_, _, ⟨T126, L126, k126, n126⟩, -, X126, ⟨Lc126, hQ126, l126, y126, z126⟩, st126⟩ := X0.virtualBack hx (y := (⟨"java/lang/String", "isLatin1", "()Z"⟩ : MethodName)) (z := (⟨"java/lang/String", "isLatin1", "()Z"⟩ : MethodName)) hown (mvT hZ (W_ hw 165 rfl)) (mvT hZ (W_ hw 166 rfl)) (notFace_of_selects (args := #[]) (mvT hZ (W_ hw 168 rfl))) (mvT hZ (W_ hw 168 rfl)) (mvT hZ (W_ hw 167 rfl)) (by decide) (backOf (W := 0) (rmisLatin1 l Z a0 hw [] x zc h0 n0 Z_ O_ S_CS P_CS Fc) hZ (W_ hw 169 rfl) (W_ hw 7 rfl) (by decide) (by decide)) q126a q126c (g := (mkF m 1 #[.val (.ref x), .val (.int (0 : Int32))] [(.ref x)])) rfl (by rw [hml]; rfl) (Steps.refl _) (argsL := []) (rest := []) (lenOf pd_6 rfl) rfl (Nat.le_of_eq rfl) (hb hby d28_1) (fun _ _ => ⟨rfl, e0, (by decide : 0 + 0 ≤ _), (by decide : 0 + 0 ≤ _)⟩)
    dsimp only [Pt.U, Pt.locs, Pt.cells, Pt.slots] at X126 l126 y126 z126 st126 hQ126
    subst y126 z126
    obtain ⟨rfl, N126q, e126⟩ := hQ126
    have N126 := own_frl l126 N0 N126q
    refine .st (fun _ => st126.trans) ?_
    show OwnGo p e below s _ _ _ T126 (mkF m 4 _ [(.int (1 : Int32))])
    refine .ifNo X126 hx (hb hby d28_4) ((if0 _ _).trans (feq ((by decide) : ¬ ((1 : Int32) = (0 : Int32)))).1) ?_
    refine .aloadN X126 hx (hb hby d28_7) rfl rfl ?_
    obtain ⟨T127, X127, e127, st127⟩ := getF X126 hx hZ hown (host := "") (Or.inl (W_ hw 27 rfl)) Via.refl e126 Fv (g := (mkF m 8 #[.val (.ref x), .val (.int (0 : Int32))] [(.ref x)])) rfl rfl (hb hby d28_8)
    refine .st st127 ?_
    show OwnGo p e below s _ _ _ T127 (mkF m 11 _ [(.ref t)])
    refine .iloadN X127 hx (hb hby d28_11) rfl ?_
    obtain ⟨_, _, ⟨T128, L128, k128, n128⟩, -, X128, ⟨Lc128, hQ128, l128, y128, z128⟩, st128⟩ := Jvm.LawKit.callS X127 hx (y := (⟨"java/lang/StringLatin1", "charAt", "([BI)C"⟩ : MethodName)) hown (mvT hZ (W_ hw 170 rfl)) (mvT hZ (W_ hw 171 rfl)) (mvT hZ (W_ hw 12 rfl)) (mvT hZ (W_ hw 172 rfl)) (by decide) (backOf (W := 0) (rmlcharAt l Z a0 hw [] t kb (2 : Int32) [(.int c0.toInt8.toInt32), (.int c1.toInt8.toInt32)] (0 : Int32) c0.toInt8.toInt32 c0 fmv h0 n0 Z_ O_ S_SF rf_fmv V_t ⟨by decide, by decide⟩ rfl (own_lch ⟨P_c0.1, hl.1⟩) (own_unc P_c0)) hZ (W_ hw 172 rfl) (W_ hw 12 rfl) (by decide) (by decide)) (g := (mkF m 12 #[.val (.ref x), .val (.int (0 : Int32))] [(.int (0 : Int32)), (.ref t)])) rfl (by rw [hml]; rfl) (argsL := [(.ref t), (.int (0 : Int32))]) (rest := []) (lenOf pd_7 rfl) rfl (Nat.le_of_eq rfl) (hb hby d28_12) (fun _ _ => ⟨rfl, e127, (by decide : 0 + 0 ≤ _), (by decide : 0 + 0 ≤ _)⟩)
    dsimp only [Pt.U, Pt.locs, Pt.cells, Pt.slots] at X128 l128 y128 z128 st128 hQ128
    subst y128 z128
    obtain ⟨rfl, N128q, e128⟩ := hQ128
    have N128 := own_frl l128 N126 N128q
    refine .st st128 ?_
    show OwnGo p e below s _ _ _ T128 (mkF m 15 _ [(.int c0)])
    exact OwnGo.retN X128 hx (t := .char) hret hlk (by simp) (hb hby d28_15) (by show QchA2_0 Z x t kb c0 c1 zc fmv h0 n0 _ T128.heap _; rw [e128]; exact ⟨by rw [own_unc P_c0], N128, rfl⟩) (by decide) (by decide)
  · refine .aloadN X0 hx (hb hby d28_0) rfl rfl ?_
    obtain ⟨cq129, kq129, q129a, q129b, q129c⟩ := isOf hZ e0 E_x
    obtain ⟨_, _, ⟨T129, L129, k129, n129⟩, -, X129, ⟨Lc129, hQ129, l129, y129, z129⟩, st129⟩ := X0.virtualBack hx (y := (⟨"java/lang/String", "isLatin1", "()Z"⟩ : MethodName)) (z := (⟨"java/lang/String", "isLatin1", "()Z"⟩ : MethodName)) hown (mvT hZ (W_ hw 165 rfl)) (mvT hZ (W_ hw 166 rfl)) (notFace_of_selects (args := #[]) (mvT hZ (W_ hw 168 rfl))) (mvT hZ (W_ hw 168 rfl)) (mvT hZ (W_ hw 167 rfl)) (by decide) (backOf (W := 0) (rmisL1 l Z a0 hw [] x zc h0 n0 Z_ O_ S_CS P_CS Fc) hZ (W_ hw 169 rfl) (W_ hw 7 rfl) (by decide) (by decide)) q129a q129c (g := (mkF m 1 #[.val (.ref x), .val (.int (0 : Int32))] [(.ref x)])) rfl (by rw [hml]; rfl) (Steps.refl _) (argsL := []) (rest := []) (lenOf pd_6 rfl) rfl (Nat.le_of_eq rfl) (hb hby d28_1) (fun _ _ => ⟨rfl, e0, (by decide : 0 + 0 ≤ _), (by decide : 0 + 0 ≤ _)⟩)
    dsimp only [Pt.U, Pt.locs, Pt.cells, Pt.slots] at X129 l129 y129 z129 st129 hQ129
    subst y129 z129
    obtain ⟨rfl, N129q, e129⟩ := hQ129
    have N129 := own_frl l129 N0 N129q
    refine .st (fun _ => st129.trans) ?_
    show OwnGo p e below s _ _ _ T129 (mkF m 4 _ [(.int (0 : Int32))])
    refine .ifYes (pc := 4) X129 hx 16 (hb hby d28_4) ((if0 _ _).trans (teq ((by decide) : (0 : Int32) = (0 : Int32))).1) (by decide) (by decide) ?_
    refine .aloadN X129 hx (hb hby d28_16) rfl rfl ?_
    obtain ⟨T130, X130, e130, st130⟩ := getF X129 hx hZ hown (host := "") (Or.inl (W_ hw 27 rfl)) Via.refl e129 Fv (g := (mkF m 17 #[.val (.ref x), .val (.int (0 : Int32))] [(.ref x)])) rfl rfl (hb hby d28_17)
    refine .st st130 ?_
    show OwnGo p e below s _ _ _ T130 (mkF m 20 _ [(.ref t)])
    refine .iloadN X130 hx (hb hby d28_20) rfl ?_
    obtain ⟨_, _, ⟨T131, L131, k131, n131⟩, -, X131, ⟨Lc131, hQ131, l131, y131, z131⟩, st131⟩ := Jvm.LawKit.callS X130 hx (y := (⟨"java/lang/StringUTF16", "charAt", "([BI)C"⟩ : MethodName)) hown (mvT hZ (W_ hw 263 rfl)) (mvT hZ (W_ hw 264 rfl)) (mvT hZ (W_ hw 235 rfl)) (mvT hZ (W_ hw 265 rfl)) (by decide) (backOf (W := 0) (rmuch2_0 l Z a0 hw [] t kb c0 c1 fmv h0 n0 Z_ O_ S_AD S_HB S_LB S_SF rf_fmv V_t P_c0 P_c1) hZ (W_ hw 265 rfl) (W_ hw 235 rfl) (by decide) (by decide)) (g := (mkF m 21 #[.val (.ref x), .val (.int (0 : Int32))] [(.int (0 : Int32)), (.ref t)])) rfl (by rw [hml]; rfl) (argsL := [(.ref t), (.int (0 : Int32))]) (rest := []) (lenOf pd_7 rfl) rfl (Nat.le_of_eq rfl) (hb hby d28_21) (fun _ _ => ⟨rfl, e130, (by decide : 0 + 0 ≤ _), (by decide : 0 + 0 ≤ _)⟩)
    dsimp only [Pt.U, Pt.locs, Pt.cells, Pt.slots] at X131 l131 y131 z131 st131 hQ131
    subst y131 z131
    obtain ⟨rfl, N131q, e131⟩ := hQ131
    have N131 := own_frl l131 N129 N131q
    refine .st st131 ?_
    show OwnGo p e below s _ _ _ T131 (mkF m 24 _ [(.int c0)])
    exact OwnGo.retN X131 hx (t := .char) hret hlk (by simp) (hb hby d28_24) (by show QchA2_0 Z x t kb c0 c1 zc fmv h0 n0 _ T131.heap _; rw [e131]; exact ⟨by rw [own_unc P_c0], N131, rfl⟩) (by decide) (by decide)
def Quch2_1 (Z : State) (t : Addr) (kb : ClassId) (c0 : Int32) (c1 : Int32) (fmv : Value) (h0 : Heap) (n0 : Nat) (v : Option Value) (h : Heap) (L : List Loc) : Prop := v = some (.int c1) ∧ Fr n0 L ∧ h = h0
theorem rmuch2_1 (l : Launch) (Z : State) (a0 : Array Value) (hw : own_tb a0 Z) (ws : List Jvm.Cond) (t : Addr) (kb : ClassId) (c0 : Int32) (c1 : Int32) (fmv : Value) (h0 : Heap) (n0 : Nat) (Z0 : n0 ≤ h0.size) (O_ : Old Z n0 h0) (S_AD : Sta Z Z.heap "java/lang/StringUTF16" "$assertionsDisabled" "Z" (.int (1 : Int32))) (S_HB : Sta Z Z.heap "java/lang/StringUTF16" "HI_BYTE_SHIFT" "I" (.int (0 : Int32))) (S_LB : Sta Z Z.heap "java/lang/StringUTF16" "LO_BYTE_SHIFT" "I" (.int (8 : Int32))) (S_SF : Sta Z Z.heap "jdk/internal/util/Preconditions" "SIOOBE_FORMATTER" "Ljava/util/function/BiFunction;" fmv) (rf_fmv : fmv.isRef = true) (V_t : Arv Z h0 t kb .byte (4 : Int32) [(.int (own_lo c0)), (.int (own_hi c0)), (.int (own_lo c1)), (.int (own_hi c1))] (.int (0 : Int32))) (P_c0 : own_u c0) (P_c1 : own_u c1) :
    OwnMet l (⟨"java/lang/StringUTF16", "charAt", "([BI)C"⟩ : MethodName) jdk_52_method_83_code 2 (some .char) ws ({ frames := 3, cells := 0, slots := 0, locals := 40 } : Room) #[(.ref t), (.int (1 : Int32))] Z h0 (Quch2_1 Z t kb c0 c1 fmv h0 n0) := by
  refine own_met (plainFor_of_name pn_50) ?_
  intro p e s m below meth c s₁ X0 hx hby hml hret hlk hown hnm hZ e0
  have N0 := Fr.nil n0
  have Z_ := Z0
  refine OwnGo.cast (ef_uch2_1 m t (1 : Int32)) ?_
  show OwnGo p e below s _ _ _ s₁ (mkF m 0 _ [])
  refine .iloadN X0 hx (hb hby d52_0) rfl ?_
  refine .aloadN X0 hx (hb hby d52_1) rfl rfl ?_
  obtain ⟨_, _, ⟨T132, L132, k132, n132⟩, -, X132, ⟨Lc132, hQ132, l132, y132, z132⟩, st132⟩ := Jvm.LawKit.callS X0 hx (y := (⟨"java/lang/StringUTF16", "checkIndex", "(I[B)V"⟩ : MethodName)) hown (mvT hZ (W_ hw 266 rfl)) (mvT hZ (W_ hw 267 rfl)) (mvT hZ (W_ hw 235 rfl)) (mvT hZ (W_ hw 268 rfl)) (by decide) (backOf (W := 0) (rmuck l Z a0 hw [] t kb [(.int (own_lo c0)), (.int (own_hi c0)), (.int (own_lo c1)), (.int (own_hi c1))] (4 : Int32) (2 : Int32) (1 : Int32) fmv h0 n0 Z_ O_ S_SF rf_fmv V_t (by decide) (by decide) (by decide)) hZ (W_ hw 268 rfl) (W_ hw 235 rfl) (by decide) (by decide)) (g := (mkF m 2 #[.val (.ref t), .val (.int (1 : Int32))] [(.ref t), (.int (1 : Int32))])) rfl (by rw [hml]; rfl) (argsL := [(.int (1 : Int32)), (.ref t)]) (rest := []) (lenOf pd_16 rfl) rfl (Nat.le_of_eq rfl) (hb hby d52_2) (fun _ _ => ⟨rfl, e0, (by decide : 0 + 0 ≤ _), (by decide : 0 + 0 ≤ _)⟩)
  dsimp only [Pt.U, Pt.locs, Pt.cells, Pt.slots] at X132 l132 y132 z132 st132 hQ132
  subst y132 z132
  obtain ⟨rfl, N132q, e132⟩ := hQ132
  have N132 := own_frl l132 N0 N132q
  refine .st st132 ?_
  show OwnGo p e below s _ _ _ T132 (mkF m 5 _ [])
  refine .aloadN X132 hx (hb hby d52_5) rfl rfl ?_
  refine .iloadN X132 hx (hb hby d52_6) rfl ?_
  obtain ⟨_, _, ⟨T133, L133, k133, n133⟩, -, X133, ⟨Lc133, hQ133, l133, y133, z133⟩, st133⟩ := Jvm.LawKit.callS X132 hx (y := (⟨"java/lang/StringUTF16", "getChar", "([BI)C"⟩ : MethodName)) hown (mvT hZ (W_ hw 260 rfl)) (mvT hZ (W_ hw 261 rfl)) (mvT hZ (W_ hw 235 rfl)) (mvT hZ (W_ hw 262 rfl)) (by decide) (backOf (W := 0) (rmgetC1 l Z a0 hw [] t kb c1 (4 : Int32) [(.int (own_lo c0)), (.int (own_hi c0)), (.int (own_lo c1)), (.int (own_hi c1))] h0 n0 Z_ O_ S_AD S_HB S_LB V_t ⟨by decide, by decide⟩ ⟨by decide, by decide⟩ rfl rfl P_c1) hZ (W_ hw 262 rfl) (W_ hw 235 rfl) (by decide) (by decide)) (g := (mkF m 7 #[.val (.ref t), .val (.int (1 : Int32))] [(.int (1 : Int32)), (.ref t)])) rfl (by rw [hml]; rfl) (argsL := [(.ref t), (.int (1 : Int32))]) (rest := []) (lenOf pd_7 rfl) rfl (Nat.le_of_eq rfl) (hb hby d52_7) (fun _ _ => ⟨rfl, e132, (by decide : 0 + 0 ≤ _), (by decide : 0 + 0 ≤ _)⟩)
  dsimp only [Pt.U, Pt.locs, Pt.cells, Pt.slots] at X133 l133 y133 z133 st133 hQ133
  subst y133 z133
  obtain ⟨rfl, N133q, e133⟩ := hQ133
  have N133 := own_frl l133 N132 N133q
  refine .st st133 ?_
  show OwnGo p e below s _ _ _ T133 (mkF m 10 _ [(.int c1)])
  exact OwnGo.retN X133 hx (t := .char) hret hlk (by simp) (hb hby d52_10) (by show Quch2_1 Z t kb c0 c1 fmv h0 n0 _ T133.heap _; rw [e133]; exact ⟨by rw [own_unc P_c1], N133, rfl⟩) (by decide) (by decide)
def QchA2_1 (Z : State) (x : Addr) (t : Addr) (kb : ClassId) (c0 : Int32) (c1 : Int32) (zc : Int32) (fmv : Value) (h0 : Heap) (n0 : Nat) (v : Option Value) (h : Heap) (L : List Loc) : Prop := v = some (.int c1) ∧ Fr n0 L ∧ h = h0
theorem rmchA2_1 (l : Launch) (Z : State) (a0 : Array Value) (hw : own_tb a0 Z) (ws : List Jvm.Cond) (x : Addr) (t : Addr) (kb : ClassId) (c0 : Int32) (c1 : Int32) (zc : Int32) (fmv : Value) (h0 : Heap) (n0 : Nat) (Z0 : n0 ≤ h0.size) (O_ : Old Z n0 h0) (S_CS : Sta Z Z.heap "java/lang/String" "COMPACT_STRINGS" "Z" (.int zc)) (P_CS : ¬ zc = (0 : Int32)) (S_AD : Sta Z Z.heap "java/lang/StringUTF16" "$assertionsDisabled" "Z" (.int (1 : Int32))) (S_HB : Sta Z Z.heap "java/lang/StringUTF16" "HI_BYTE_SHIFT" "I" (.int (0 : Int32))) (S_LB : Sta Z Z.heap "java/lang/StringUTF16" "LO_BYTE_SHIFT" "I" (.int (8 : Int32))) (S_SF : Sta Z Z.heap "jdk/internal/util/Preconditions" "SIOOBE_FORMATTER" "Ljava/util/function/BiFunction;" fmv) (rf_fmv : fmv.isRef = true) (SS : own_S2 Z h0 x t kb c0 c1) (P_c0 : own_u c0) (P_c1 : own_u c1) :
    OwnMet l (⟨"java/lang/String", "charAt", "(I)C"⟩ : MethodName) jdk_42_method_56_code 2 (some .char) ws ({ frames := 4, cells := 0, slots := 0, locals := 53 } : Room) #[(.ref x), (.int (1 : Int32))] Z h0 (QchA2_1 Z x t kb c0 c1 zc fmv h0 n0) := by
  refine own_met (plainFor_of_name pn_15) ?_
  intro p e s m below meth c s₁ X0 hx hby hml hret hlk hown hnm hZ e0
  have N0 := Fr.nil n0
  have Z_ := Z0
  refine OwnGo.cast (ef_chA2_1 m x (1 : Int32)) ?_
  show OwnGo p e below s _ _ _ s₁ (mkF m 0 _ [])
  obtain ⟨E_x, Fv, hk⟩ := SS
  rcases hk with ⟨Fc, V_t, hl⟩ | ⟨Fc, V_t⟩
  · refine .aloadN X0 hx (hb hby d28_0) rfl rfl ?_
    obtain ⟨cq134, kq134, q134a, q134b, q134c⟩ := isOf hZ e0 E_x
    obtain ⟨_, _, ⟨T134, L134, k134, n134⟩, -, X134, ⟨Lc134, hQ134, l134, y134, z134⟩, st134⟩ := X0.virtualBack hx (y := (⟨"java/lang/String", "isLatin1", "()Z"⟩ : MethodName)) (z := (⟨"java/lang/String", "isLatin1", "()Z"⟩ : MethodName)) hown (mvT hZ (W_ hw 165 rfl)) (mvT hZ (W_ hw 166 rfl)) (notFace_of_selects (args := #[]) (mvT hZ (W_ hw 168 rfl))) (mvT hZ (W_ hw 168 rfl)) (mvT hZ (W_ hw 167 rfl)) (by decide) (backOf (W := 0) (rmisLatin1 l Z a0 hw [] x zc h0 n0 Z_ O_ S_CS P_CS Fc) hZ (W_ hw 169 rfl) (W_ hw 7 rfl) (by decide) (by decide)) q134a q134c (g := (mkF m 1 #[.val (.ref x), .val (.int (1 : Int32))] [(.ref x)])) rfl (by rw [hml]; rfl) (Steps.refl _) (argsL := []) (rest := []) (lenOf pd_6 rfl) rfl (Nat.le_of_eq rfl) (hb hby d28_1) (fun _ _ => ⟨rfl, e0, (by decide : 0 + 0 ≤ _), (by decide : 0 + 0 ≤ _)⟩)
    dsimp only [Pt.U, Pt.locs, Pt.cells, Pt.slots] at X134 l134 y134 z134 st134 hQ134
    subst y134 z134
    obtain ⟨rfl, N134q, e134⟩ := hQ134
    have N134 := own_frl l134 N0 N134q
    refine .st (fun _ => st134.trans) ?_
    show OwnGo p e below s _ _ _ T134 (mkF m 4 _ [(.int (1 : Int32))])
    refine .ifNo X134 hx (hb hby d28_4) ((if0 _ _).trans (feq ((by decide) : ¬ ((1 : Int32) = (0 : Int32)))).1) ?_
    refine .aloadN X134 hx (hb hby d28_7) rfl rfl ?_
    obtain ⟨T135, X135, e135, st135⟩ := getF X134 hx hZ hown (host := "") (Or.inl (W_ hw 27 rfl)) Via.refl e134 Fv (g := (mkF m 8 #[.val (.ref x), .val (.int (1 : Int32))] [(.ref x)])) rfl rfl (hb hby d28_8)
    refine .st st135 ?_
    show OwnGo p e below s _ _ _ T135 (mkF m 11 _ [(.ref t)])
    refine .iloadN X135 hx (hb hby d28_11) rfl ?_
    obtain ⟨_, _, ⟨T136, L136, k136, n136⟩, -, X136, ⟨Lc136, hQ136, l136, y136, z136⟩, st136⟩ := Jvm.LawKit.callS X135 hx (y := (⟨"java/lang/StringLatin1", "charAt", "([BI)C"⟩ : MethodName)) hown (mvT hZ (W_ hw 170 rfl)) (mvT hZ (W_ hw 171 rfl)) (mvT hZ (W_ hw 12 rfl)) (mvT hZ (W_ hw 172 rfl)) (by decide) (backOf (W := 0) (rmlcharAt l Z a0 hw [] t kb (2 : Int32) [(.int c0.toInt8.toInt32), (.int c1.toInt8.toInt32)] (1 : Int32) c1.toInt8.toInt32 c1 fmv h0 n0 Z_ O_ S_SF rf_fmv V_t ⟨by decide, by decide⟩ rfl (own_lch ⟨P_c1.1, hl.2⟩) (own_unc P_c1)) hZ (W_ hw 172 rfl) (W_ hw 12 rfl) (by decide) (by decide)) (g := (mkF m 12 #[.val (.ref x), .val (.int (1 : Int32))] [(.int (1 : Int32)), (.ref t)])) rfl (by rw [hml]; rfl) (argsL := [(.ref t), (.int (1 : Int32))]) (rest := []) (lenOf pd_7 rfl) rfl (Nat.le_of_eq rfl) (hb hby d28_12) (fun _ _ => ⟨rfl, e135, (by decide : 0 + 0 ≤ _), (by decide : 0 + 0 ≤ _)⟩)
    dsimp only [Pt.U, Pt.locs, Pt.cells, Pt.slots] at X136 l136 y136 z136 st136 hQ136
    subst y136 z136
    obtain ⟨rfl, N136q, e136⟩ := hQ136
    have N136 := own_frl l136 N134 N136q
    refine .st st136 ?_
    show OwnGo p e below s _ _ _ T136 (mkF m 15 _ [(.int c1)])
    exact OwnGo.retN X136 hx (t := .char) hret hlk (by simp) (hb hby d28_15) (by show QchA2_1 Z x t kb c0 c1 zc fmv h0 n0 _ T136.heap _; rw [e136]; exact ⟨by rw [own_unc P_c1], N136, rfl⟩) (by decide) (by decide)
  · refine .aloadN X0 hx (hb hby d28_0) rfl rfl ?_
    obtain ⟨cq137, kq137, q137a, q137b, q137c⟩ := isOf hZ e0 E_x
    obtain ⟨_, _, ⟨T137, L137, k137, n137⟩, -, X137, ⟨Lc137, hQ137, l137, y137, z137⟩, st137⟩ := X0.virtualBack hx (y := (⟨"java/lang/String", "isLatin1", "()Z"⟩ : MethodName)) (z := (⟨"java/lang/String", "isLatin1", "()Z"⟩ : MethodName)) hown (mvT hZ (W_ hw 165 rfl)) (mvT hZ (W_ hw 166 rfl)) (notFace_of_selects (args := #[]) (mvT hZ (W_ hw 168 rfl))) (mvT hZ (W_ hw 168 rfl)) (mvT hZ (W_ hw 167 rfl)) (by decide) (backOf (W := 0) (rmisL1 l Z a0 hw [] x zc h0 n0 Z_ O_ S_CS P_CS Fc) hZ (W_ hw 169 rfl) (W_ hw 7 rfl) (by decide) (by decide)) q137a q137c (g := (mkF m 1 #[.val (.ref x), .val (.int (1 : Int32))] [(.ref x)])) rfl (by rw [hml]; rfl) (Steps.refl _) (argsL := []) (rest := []) (lenOf pd_6 rfl) rfl (Nat.le_of_eq rfl) (hb hby d28_1) (fun _ _ => ⟨rfl, e0, (by decide : 0 + 0 ≤ _), (by decide : 0 + 0 ≤ _)⟩)
    dsimp only [Pt.U, Pt.locs, Pt.cells, Pt.slots] at X137 l137 y137 z137 st137 hQ137
    subst y137 z137
    obtain ⟨rfl, N137q, e137⟩ := hQ137
    have N137 := own_frl l137 N0 N137q
    refine .st (fun _ => st137.trans) ?_
    show OwnGo p e below s _ _ _ T137 (mkF m 4 _ [(.int (0 : Int32))])
    refine .ifYes (pc := 4) X137 hx 16 (hb hby d28_4) ((if0 _ _).trans (teq ((by decide) : (0 : Int32) = (0 : Int32))).1) (by decide) (by decide) ?_
    refine .aloadN X137 hx (hb hby d28_16) rfl rfl ?_
    obtain ⟨T138, X138, e138, st138⟩ := getF X137 hx hZ hown (host := "") (Or.inl (W_ hw 27 rfl)) Via.refl e137 Fv (g := (mkF m 17 #[.val (.ref x), .val (.int (1 : Int32))] [(.ref x)])) rfl rfl (hb hby d28_17)
    refine .st st138 ?_
    show OwnGo p e below s _ _ _ T138 (mkF m 20 _ [(.ref t)])
    refine .iloadN X138 hx (hb hby d28_20) rfl ?_
    obtain ⟨_, _, ⟨T139, L139, k139, n139⟩, -, X139, ⟨Lc139, hQ139, l139, y139, z139⟩, st139⟩ := Jvm.LawKit.callS X138 hx (y := (⟨"java/lang/StringUTF16", "charAt", "([BI)C"⟩ : MethodName)) hown (mvT hZ (W_ hw 263 rfl)) (mvT hZ (W_ hw 264 rfl)) (mvT hZ (W_ hw 235 rfl)) (mvT hZ (W_ hw 265 rfl)) (by decide) (backOf (W := 0) (rmuch2_1 l Z a0 hw [] t kb c0 c1 fmv h0 n0 Z_ O_ S_AD S_HB S_LB S_SF rf_fmv V_t P_c0 P_c1) hZ (W_ hw 265 rfl) (W_ hw 235 rfl) (by decide) (by decide)) (g := (mkF m 21 #[.val (.ref x), .val (.int (1 : Int32))] [(.int (1 : Int32)), (.ref t)])) rfl (by rw [hml]; rfl) (argsL := [(.ref t), (.int (1 : Int32))]) (rest := []) (lenOf pd_7 rfl) rfl (Nat.le_of_eq rfl) (hb hby d28_21) (fun _ _ => ⟨rfl, e138, (by decide : 0 + 0 ≤ _), (by decide : 0 + 0 ≤ _)⟩)
    dsimp only [Pt.U, Pt.locs, Pt.cells, Pt.slots] at X139 l139 y139 z139 st139 hQ139
    subst y139 z139
    obtain ⟨rfl, N139q, e139⟩ := hQ139
    have N139 := own_frl l139 N137 N139q
    refine .st st139 ?_
    show OwnGo p e below s _ _ _ T139 (mkF m 24 _ [(.int c1)])
    exact OwnGo.retN X139 hx (t := .char) hret hlk (by simp) (hb hby d28_24) (by show QchA2_1 Z x t kb c0 c1 zc fmv h0 n0 _ T139.heap _; rw [e139]; exact ⟨by rw [own_unc P_c1], N139, rfl⟩) (by decide) (by decide)
def Qfits (Z : State) (x : Addr) (t : Addr) (kb : ClassId) (cl : List Int32) (zc : Int32) (h0 : Heap) (n0 : Nat) (v : Option Value) (h : Heap) (L : List Loc) : Prop := v = some (.int (1 : Int32)) ∧ Fr n0 L ∧ h = h0
theorem rmfits (l : Launch) (Z : State) (a0 : Array Value) (hw : own_tb a0 Z) (ws : List Jvm.Cond) (x : Addr) (t : Addr) (kb : ClassId) (cl : List Int32) (zc : Int32) (h0 : Heap) (n0 : Nat) (Z0 : n0 ≤ h0.size) (O_ : Old Z n0 h0) (S_CS : Sta Z Z.heap "java/lang/String" "COMPACT_STRINGS" "Z" (.int zc)) (P_CS : ¬ zc = (0 : Int32)) (SS : own_T Z h0 x t kb cl) (hcl : List.length cl ≤ 2) :
    OwnMet l (⟨"com/example/cofferhand/cofferhand/nbt/ModifiedUtf8", "fits", "(Ljava/lang/String;)Z"⟩ : MethodName) prog_32_method_3_code 1 (some .boolean) ws ({ frames := 2, cells := 0, slots := 0, locals := 25 } : Room) #[(.ref x)] Z h0 (Qfits Z x t kb cl zc h0 n0) := by
  refine own_met (plainFor_of_name pn_13) ?_
  intro p e s m below meth c s₁ X0 hx hby hml hret hlk hown hnm hZ e0
  have N0 := Fr.nil n0
  have Z_ := Z0
  refine OwnGo.cast (ef_fits m x) ?_
  show OwnGo p e below s _ _ _ s₁ (mkF m 0 _ [])
  refine .aloadN X0 hx (hb hby d13_0) rfl rfl ?_
  obtain ⟨cq140, kq140, q140a, q140b, q140c⟩ := isOf hZ e0 SS.exa
  obtain ⟨_, _, ⟨T140, L140, k140, n140⟩, -, X140, ⟨Lc140, hQ140, l140, y140, z140⟩, st140⟩ := X0.virtualBack hx (y := (⟨"java/lang/String", "length", "()I"⟩ : MethodName)) (z := (⟨"java/lang/String", "length", "()I"⟩ : MethodName)) hown (mvT hZ (W_ hw 71 rfl)) (mvT hZ (W_ hw 72 rfl)) (notFace_of_selects (args := #[]) (mvT hZ (W_ hw 74 rfl))) (mvT hZ (W_ hw 74 rfl)) (mvT hZ (W_ hw 73 rfl)) (by decide) (backOf (W := 0) (rmslen l Z a0 hw [] x t kb cl zc h0 n0 Z_ O_ S_CS P_CS SS) hZ (W_ hw 75 rfl) (W_ hw 7 rfl) (by decide) (by decide)) q140a q140c (g := (mkF m 1 #[.val (.ref x)] [(.ref x)])) rfl (by rw [hml]; rfl) (Steps.refl _) (argsL := []) (rest := []) (lenOf pd_17 rfl) rfl (Nat.le_of_eq rfl) (hb hby d13_1) (fun _ _ => ⟨rfl, e0, (by decide : 0 + 0 ≤ _), (by decide : 0 + 0 ≤ _)⟩)
  dsimp only [Pt.U, Pt.locs, Pt.cells, Pt.slots] at X140 l140 y140 z140 st140 hQ140
  subst y140 z140
  obtain ⟨rfl, N140q, e140⟩ := hQ140
  have N140 := own_frl l140 N0 N140q
  refine .st (fun _ => st140.trans) ?_
  show OwnGo p e below s _ _ _ T140 (mkF m 4 _ [(.int (Int32.ofNat (List.length cl)))])
  refine .sipush X140 hx (hb hby d13_4) own_ks21845 ?_
  refine .icmpYes (pc := 7) X140 hx 21 (hb hby d13_7) (flt ((own_nbig hcl) : ¬ ((21845 : Int32) < (Int32.ofNat (List.length cl))))).2.2.2 (by decide) (by decide) ?_
  refine .iconst X140 hx (hb hby d13_21) own_ki1 ?_
  refine .goto (pc := 22) X140 hx 26 (hb hby d13_22) (by decide) (by decide) ?_
  exact OwnGo.retN X140 hx (t := .boolean) hret hlk (by simp) (hb hby d13_26) (by show Qfits Z x t kb cl zc h0 n0 _ T140.heap _; rw [e140]; exact ⟨rfl, N140, rfl⟩) (by decide) (by decide)
def Qreq (Z : State) (x : Addr) (t : Addr) (kb : ClassId) (cl : List Int32) (zc : Int32) (h0 : Heap) (n0 : Nat) (v : Option Value) (h : Heap) (L : List Loc) : Prop := v = none ∧ Fr n0 L ∧ h = h0
theorem rmreq (l : Launch) (Z : State) (a0 : Array Value) (hw : own_tb a0 Z) (ws : List Jvm.Cond) (x : Addr) (t : Addr) (kb : ClassId) (cl : List Int32) (zc : Int32) (h0 : Heap) (n0 : Nat) (Z0 : n0 ≤ h0.size) (O_ : Old Z n0 h0) (S_CS : Sta Z Z.heap "java/lang/String" "COMPACT_STRINGS" "Z" (.int zc)) (P_CS : ¬ zc = (0 : Int32)) (SS : own_T Z h0 x t kb cl) (hcl : List.length cl ≤ 2) :
    OwnMet l (⟨"com/example/cofferhand/cofferhand/nbt/ModifiedUtf8", "requireEncodable", "(Ljava/lang/String;)V"⟩ : MethodName) prog_32_method_4_code 1 none ws ({ frames := 3, cells := 0, slots := 0, locals := 37 } : Room) #[(.ref x)] Z h0 (Qreq Z x t kb cl zc h0 n0) := by
  refine own_met (plainFor_of_name pn_13) ?_
  intro p e s m below meth c s₁ X0 hx hby hml hret hlk hown hnm hZ e0
  have N0 := Fr.nil n0
  have Z_ := Z0
  refine OwnGo.cast (ef_req m x) ?_
  show OwnGo p e below s _ _ _ s₁ (mkF m 0 _ [])
  refine .aloadN X0 hx (hb hby d12_0) rfl rfl ?_
  obtain ⟨_, _, ⟨T141, L141, k141, n141⟩, -, X141, ⟨Lc141, hQ141, l141, y141, z141⟩, st141⟩ := Jvm.LawKit.callS X0 hx (y := (⟨"com/example/cofferhand/cofferhand/nbt/ModifiedUtf8", "fits", "(Ljava/lang/String;)Z"⟩ : MethodName)) hown (mvT hZ (W_ hw 68 rfl)) (mvT hZ (W_ hw 69 rfl)) (mvT hZ (W_ hw 66 rfl)) (mvT hZ (W_ hw 70 rfl)) (by decide) (backOf (W := 0) (rmfits l Z a0 hw [] x t kb cl zc h0 n0 Z_ O_ S_CS P_CS SS hcl) hZ (W_ hw 70 rfl) (W_ hw 66 rfl) (by decide) (by decide)) (g := (mkF m 1 #[.val (.ref x)] [(.ref x)])) rfl (by rw [hml]; rfl) (argsL := [(.ref x)]) (rest := []) (lenOf pd_18 rfl) rfl (Nat.le_of_eq rfl) (hb hby d12_1) (fun _ _ => ⟨rfl, e0, (by decide : 0 + 0 ≤ _), (by decide : 0 + 0 ≤ _)⟩)
  dsimp only [Pt.U, Pt.locs, Pt.cells, Pt.slots] at X141 l141 y141 z141 st141 hQ141
  subst y141 z141
  obtain ⟨rfl, N141q, e141⟩ := hQ141
  have N141 := own_frl l141 N0 N141q
  refine .st st141 ?_
  show OwnGo p e below s _ _ _ T141 (mkF m 4 _ [(.int (1 : Int32))])
  refine .ifYes (pc := 4) X141 hx 24 (hb hby d12_4) ((if0 _ _).trans (feq ((by decide) : ¬ ((1 : Int32) = (0 : Int32)))).2) (by decide) (by decide) ?_
  exact OwnGo.retV X141 hx hret hlk (hb hby d12_24) (by show Qreq Z x t kb cl zc h0 n0 _ T141.heap _; rw [e141]; exact ⟨rfl, N141, rfl⟩) (by decide) (by decide)
def Qelen (Z : State) (x : Addr) (t : Addr) (kb : ClassId) (cl : List Int32) (zc : Int32) (fmv : Value) (h0 : Heap) (n0 : Nat) (v : Option Value) (h : Heap) (L : List Loc) : Prop := v = some (.long (own_xs cl)) ∧ Fr n0 L ∧ h = h0
theorem rmelen (l : Launch) (Z : State) (a0 : Array Value) (hw : own_tb a0 Z) (ws : List Jvm.Cond) (x : Addr) (t : Addr) (kb : ClassId) (cl : List Int32) (zc : Int32) (fmv : Value) (h0 : Heap) (n0 : Nat) (Z0 : n0 ≤ h0.size) (O_ : Old Z n0 h0) (S_CS : Sta Z Z.heap "java/lang/String" "COMPACT_STRINGS" "Z" (.int zc)) (P_CS : ¬ zc = (0 : Int32)) (S_AD : Sta Z Z.heap "java/lang/StringUTF16" "$assertionsDisabled" "Z" (.int (1 : Int32))) (S_HB : Sta Z Z.heap "java/lang/StringUTF16" "HI_BYTE_SHIFT" "I" (.int (0 : Int32))) (S_LB : Sta Z Z.heap "java/lang/StringUTF16" "LO_BYTE_SHIFT" "I" (.int (8 : Int32))) (S_SF : Sta Z Z.heap "jdk/internal/util/Preconditions" "SIOOBE_FORMATTER" "Ljava/util/function/BiFunction;" fmv) (rf_fmv : fmv.isRef = true) (SS : own_T Z h0 x t kb cl) (hu : ∀ c ∈ cl, own_u c) :
    OwnMet l (⟨"com/example/cofferhand/cofferhand/nbt/ModifiedUtf8", "encodedLength", "(Ljava/lang/String;)J"⟩ : MethodName) prog_32_method_2_code 5 (some .long) ws ({ frames := 5, cells := 0, slots := 0, locals := 66 } : Room) #[(.ref x)] Z h0 (Qelen Z x t kb cl zc fmv h0 n0) := by
  refine own_met (plainFor_of_name pn_13) ?_
  intro p e s m below meth c s₁ X0 hx hby hml hret hlk hown hnm hZ e0
  have N0 := Fr.nil n0
  have Z_ := Z0
  refine OwnGo.cast (ef_elen m x) ?_
  show OwnGo p e below s _ _ _ s₁ (mkF m 0 _ [])
  rcases cl with _ | ⟨c0, _ | ⟨c1, _ | ⟨c2, cl⟩⟩⟩
  · have SS : own_S0 Z h0 x t kb  := SS
    refine .aloadN X0 hx (hb hby d27_0) rfl rfl ?_
    obtain ⟨cq142, kq142, q142a, q142b, q142c⟩ := isOf hZ e0 SS.1
    obtain ⟨_, _, ⟨T142, L142, k142, n142⟩, -, X142, ⟨Lc142, hQ142, l142, y142, z142⟩, st142⟩ := X0.virtualBack hx (y := (⟨"java/lang/String", "length", "()I"⟩ : MethodName)) (z := (⟨"java/lang/String", "length", "()I"⟩ : MethodName)) hown (mvT hZ (W_ hw 71 rfl)) (mvT hZ (W_ hw 72 rfl)) (notFace_of_selects (args := #[]) (mvT hZ (W_ hw 74 rfl))) (mvT hZ (W_ hw 74 rfl)) (mvT hZ (W_ hw 73 rfl)) (by decide) (backOf (W := 0) (rmslen l Z a0 hw [] x t kb [] zc h0 n0 Z_ O_ S_CS P_CS SS) hZ (W_ hw 75 rfl) (W_ hw 7 rfl) (by decide) (by decide)) q142a q142c (g := (mkF m 1 #[.val (.ref x), .unset, .unset, .unset, .unset] [(.ref x)])) rfl (by rw [hml]; rfl) (Steps.refl _) (argsL := []) (rest := []) (lenOf pd_17 rfl) rfl (Nat.le_of_eq rfl) (hb hby d27_1) (fun _ _ => ⟨rfl, e0, (by decide : 0 + 0 ≤ _), (by decide : 0 + 0 ≤ _)⟩)
    dsimp only [Pt.U, Pt.locs, Pt.cells, Pt.slots] at X142 l142 y142 z142 st142 hQ142
    subst y142 z142
    obtain ⟨rfl, N142q, e142⟩ := hQ142
    have N142 := own_frl l142 N0 N142q
    refine .st (fun _ => st142.trans) ?_
    show OwnGo p e below s _ _ _ T142 (mkF m 4 _ [(.int (0 : Int32))])
    refine .st (fun _ => XS.i2l X142.here hx rfl (hb hby d27_4) rfl) ?_
    show OwnGo p e below s _ _ _ T142 (mkF m 5 _ [(.long ((0 : Int32).toInt64))])
    rw [show ((0 : Int32).toInt64) = (0 : Int64) from by decide]
    show OwnGo p e below s _ _ _ T142 (mkF m 5 _ [(.long (0 : Int64))])
    refine .st (fun _ => XS.lstoreN X142.here hx rfl (hb hby d27_5) rfl (l' := #[.val (.ref x), .val (.long (0 : Int64)), .second, .unset, .unset]) rfl) ?_
    show OwnGo p e below s _ _ _ T142 (mkF m 6 _ [])
    refine .iconst X142 hx (hb hby d27_6) own_ki0 ?_
    refine .istoreN X142 hx (hb hby d27_7) (L' := #[.val (.ref x), .val (.long (0 : Int64)), .second, .val (.int (0 : Int32)), .unset]) rfl ?_
    refine .iloadN X142 hx (hb hby d27_8) rfl ?_
    refine .aloadN X142 hx (hb hby d27_9) rfl rfl ?_
    obtain ⟨cq143, kq143, q143a, q143b, q143c⟩ := isOf hZ e142 SS.1
    obtain ⟨_, _, ⟨T143, L143, k143, n143⟩, -, X143, ⟨Lc143, hQ143, l143, y143, z143⟩, st143⟩ := X142.virtualBack hx (y := (⟨"java/lang/String", "length", "()I"⟩ : MethodName)) (z := (⟨"java/lang/String", "length", "()I"⟩ : MethodName)) hown (mvT hZ (W_ hw 71 rfl)) (mvT hZ (W_ hw 72 rfl)) (notFace_of_selects (args := #[]) (mvT hZ (W_ hw 74 rfl))) (mvT hZ (W_ hw 74 rfl)) (mvT hZ (W_ hw 73 rfl)) (by decide) (backOf (W := 1) (rmslen l Z a0 hw [] x t kb [] zc h0 n0 Z_ O_ S_CS P_CS SS) hZ (W_ hw 75 rfl) (W_ hw 7 rfl) (by decide) (by decide)) q143a q143c (g := (mkF m 10 #[.val (.ref x), .val (.long (0 : Int64)), .second, .val (.int (0 : Int32)), .unset] [(.ref x), (.int (0 : Int32))])) rfl (by rw [hml]; rfl) (Steps.refl _) (argsL := []) (rest := [(.int (0 : Int32))]) (lenOf pd_17 rfl) rfl (Nat.le_of_eq rfl) (hb hby d27_10) (fun _ _ => ⟨rfl, e142, (by decide : 0 + 0 ≤ _), (by decide : 0 + 0 ≤ _)⟩)
    dsimp only [Pt.U, Pt.locs, Pt.cells, Pt.slots] at X143 l143 y143 z143 st143 hQ143
    subst y143 z143
    obtain ⟨rfl, N143q, e143⟩ := hQ143
    have N143 := own_frl l143 N142 N143q
    refine .st (fun _ => st143.trans) ?_
    show OwnGo p e below s _ _ _ T143 (mkF m 13 _ [(.int (0 : Int32)), (.int (0 : Int32))])
    refine .icmpYes (pc := 13) X143 hx 60 (hb hby d27_13) (flt ((by decide) : ¬ ((0 : Int32) < (0 : Int32)))).2.1 (by decide) (by decide) ?_
    refine .st (fun _ => XS.lloadN X143.here hx rfl (hb hby d27_60) rfl) ?_
    show OwnGo p e below s _ _ _ T143 (mkF m 61 _ [(.long (0 : Int64))])
    exact OwnGo.ret X143 hx hret hlk rfl (Or.inr (Or.inl ⟨rfl, rfl, _, rfl⟩)) (hb hby d27_61) (by show Qelen Z x t kb [] zc fmv h0 n0 _ T143.heap _; rw [e143]; exact ⟨rfl, N143, rfl⟩) (by decide) (by decide)
  · have SS : own_S1 Z h0 x t kb c0 := SS
    have P_c0 : own_u c0 := hu c0 (List.mem_cons_self)
    refine .aloadN X0 hx (hb hby d27_0) rfl rfl ?_
    obtain ⟨cq144, kq144, q144a, q144b, q144c⟩ := isOf hZ e0 SS.1
    obtain ⟨_, _, ⟨T144, L144, k144, n144⟩, -, X144, ⟨Lc144, hQ144, l144, y144, z144⟩, st144⟩ := X0.virtualBack hx (y := (⟨"java/lang/String", "length", "()I"⟩ : MethodName)) (z := (⟨"java/lang/String", "length", "()I"⟩ : MethodName)) hown (mvT hZ (W_ hw 71 rfl)) (mvT hZ (W_ hw 72 rfl)) (notFace_of_selects (args := #[]) (mvT hZ (W_ hw 74 rfl))) (mvT hZ (W_ hw 74 rfl)) (mvT hZ (W_ hw 73 rfl)) (by decide) (backOf (W := 0) (rmslen l Z a0 hw [] x t kb [c0] zc h0 n0 Z_ O_ S_CS P_CS SS) hZ (W_ hw 75 rfl) (W_ hw 7 rfl) (by decide) (by decide)) q144a q144c (g := (mkF m 1 #[.val (.ref x), .unset, .unset, .unset, .unset] [(.ref x)])) rfl (by rw [hml]; rfl) (Steps.refl _) (argsL := []) (rest := []) (lenOf pd_17 rfl) rfl (Nat.le_of_eq rfl) (hb hby d27_1) (fun _ _ => ⟨rfl, e0, (by decide : 0 + 0 ≤ _), (by decide : 0 + 0 ≤ _)⟩)
    dsimp only [Pt.U, Pt.locs, Pt.cells, Pt.slots] at X144 l144 y144 z144 st144 hQ144
    subst y144 z144
    obtain ⟨rfl, N144q, e144⟩ := hQ144
    have N144 := own_frl l144 N0 N144q
    refine .st (fun _ => st144.trans) ?_
    show OwnGo p e below s _ _ _ T144 (mkF m 4 _ [(.int (1 : Int32))])
    refine .st (fun _ => XS.i2l X144.here hx rfl (hb hby d27_4) rfl) ?_
    show OwnGo p e below s _ _ _ T144 (mkF m 5 _ [(.long ((1 : Int32).toInt64))])
    rw [show ((1 : Int32).toInt64) = (1 : Int64) from by decide]
    show OwnGo p e below s _ _ _ T144 (mkF m 5 _ [(.long (1 : Int64))])
    refine .st (fun _ => XS.lstoreN X144.here hx rfl (hb hby d27_5) rfl (l' := #[.val (.ref x), .val (.long (1 : Int64)), .second, .unset, .unset]) rfl) ?_
    show OwnGo p e below s _ _ _ T144 (mkF m 6 _ [])
    refine .iconst X144 hx (hb hby d27_6) own_ki0 ?_
    refine .istoreN X144 hx (hb hby d27_7) (L' := #[.val (.ref x), .val (.long (1 : Int64)), .second, .val (.int (0 : Int32)), .unset]) rfl ?_
    refine .iloadN X144 hx (hb hby d27_8) rfl ?_
    refine .aloadN X144 hx (hb hby d27_9) rfl rfl ?_
    obtain ⟨cq145, kq145, q145a, q145b, q145c⟩ := isOf hZ e144 SS.1
    obtain ⟨_, _, ⟨T145, L145, k145, n145⟩, -, X145, ⟨Lc145, hQ145, l145, y145, z145⟩, st145⟩ := X144.virtualBack hx (y := (⟨"java/lang/String", "length", "()I"⟩ : MethodName)) (z := (⟨"java/lang/String", "length", "()I"⟩ : MethodName)) hown (mvT hZ (W_ hw 71 rfl)) (mvT hZ (W_ hw 72 rfl)) (notFace_of_selects (args := #[]) (mvT hZ (W_ hw 74 rfl))) (mvT hZ (W_ hw 74 rfl)) (mvT hZ (W_ hw 73 rfl)) (by decide) (backOf (W := 1) (rmslen l Z a0 hw [] x t kb [c0] zc h0 n0 Z_ O_ S_CS P_CS SS) hZ (W_ hw 75 rfl) (W_ hw 7 rfl) (by decide) (by decide)) q145a q145c (g := (mkF m 10 #[.val (.ref x), .val (.long (1 : Int64)), .second, .val (.int (0 : Int32)), .unset] [(.ref x), (.int (0 : Int32))])) rfl (by rw [hml]; rfl) (Steps.refl _) (argsL := []) (rest := [(.int (0 : Int32))]) (lenOf pd_17 rfl) rfl (Nat.le_of_eq rfl) (hb hby d27_10) (fun _ _ => ⟨rfl, e144, (by decide : 0 + 0 ≤ _), (by decide : 0 + 0 ≤ _)⟩)
    dsimp only [Pt.U, Pt.locs, Pt.cells, Pt.slots] at X145 l145 y145 z145 st145 hQ145
    subst y145 z145
    obtain ⟨rfl, N145q, e145⟩ := hQ145
    have N145 := own_frl l145 N144 N145q
    refine .st (fun _ => st145.trans) ?_
    show OwnGo p e below s _ _ _ T145 (mkF m 13 _ [(.int (1 : Int32)), (.int (0 : Int32))])
    refine .icmpNo X145 hx (hb hby d27_13) (tlt ((by decide) : (0 : Int32) < (1 : Int32))).2.1 ?_
    refine .aloadN X145 hx (hb hby d27_16) rfl rfl ?_
    refine .iloadN X145 hx (hb hby d27_17) rfl ?_
    obtain ⟨cq146, kq146, q146a, q146b, q146c⟩ := isOf hZ e145 SS.1
    obtain ⟨_, _, ⟨T146, L146, k146, n146⟩, -, X146, ⟨Lc146, hQ146, l146, y146, z146⟩, st146⟩ := X145.virtualBack hx (y := (⟨"java/lang/String", "charAt", "(I)C"⟩ : MethodName)) (z := (⟨"java/lang/String", "charAt", "(I)C"⟩ : MethodName)) hown (mvT hZ (W_ hw 160 rfl)) (mvT hZ (W_ hw 161 rfl)) (notFace_of_selects (args := #[]) (mvT hZ (W_ hw 163 rfl))) (mvT hZ (W_ hw 163 rfl)) (mvT hZ (W_ hw 162 rfl)) (by decide) (backOf (W := 0) (rmchA1_0 l Z a0 hw [] x t kb c0 zc fmv h0 n0 Z_ O_ S_CS P_CS S_AD S_HB S_LB S_SF rf_fmv SS P_c0) hZ (W_ hw 164 rfl) (W_ hw 7 rfl) (by decide) (by decide)) q146a q146c (g := (mkF m 18 #[.val (.ref x), .val (.long (1 : Int64)), .second, .val (.int (0 : Int32)), .unset] [(.int (0 : Int32)), (.ref x)])) rfl (by rw [hml]; rfl) (Steps.refl _) (argsL := [(.int (0 : Int32))]) (rest := []) (lenOf pd_19 rfl) rfl (Nat.le_of_eq rfl) (hb hby d27_18) (fun _ _ => ⟨rfl, e145, (by decide : 0 + 0 ≤ _), (by decide : 0 + 0 ≤ _)⟩)
    dsimp only [Pt.U, Pt.locs, Pt.cells, Pt.slots] at X146 l146 y146 z146 st146 hQ146
    subst y146 z146
    obtain ⟨rfl, N146q, e146⟩ := hQ146
    have N146 := own_frl l146 N145 N146q
    refine .st (fun _ => st146.trans) ?_
    show OwnGo p e below s _ _ _ T146 (mkF m 21 _ [(.int c0)])
    refine .istore X146 hx (hb hby d27_21) (L' := #[.val (.ref x), .val (.long (1 : Int64)), .second, .val (.int (0 : Int32)), .val (.int c0)]) rfl ?_
    refine OwnGo.join (T1 := T146) (P := fun z_ : Int64 => z_ = ((1 : Int64) + own_x c0)) (f := fun z_ : Int64 => mkF m 54 #[.val (.ref x), .val (.long z_), .second, .val (.int (0 : Int32)), .val (.int c0)] []) ?_ ?_
    · intro z_ hll
      obtain ⟨ll, hz_⟩ : ∃ u : Int64, u = z_ := ⟨_, rfl⟩
      subst hz_
      replace hll : ll = ((1 : Int64) + own_x c0) := hll
      show OwnGo p e below s _ _ _ T146 (mkF m 54 #[.val (.ref x), .val (.long ll), .second, .val (.int (0 : Int32)), .val (.int c0)] [])
      subst hll
      show OwnGo p e below s _ _ _ T146 (mkF m 54 #[.val (.ref x), .val (.long ((1 : Int64) + own_x c0)), .second, .val (.int (0 : Int32)), .val (.int c0)] [])
      refine .iinc X146 hx (hb hby d27_54) rfl own_ka0_1 (L' := #[.val (.ref x), .val (.long ((1 : Int64) + own_x c0)), .second, .val (.int (1 : Int32)), .val (.int c0)]) rfl ?_
      refine .goto (pc := 57) X146 hx 8 (hb hby d27_57) (by decide) (by decide) ?_
      refine .iloadN X146 hx (hb hby d27_8) rfl ?_
      refine .aloadN X146 hx (hb hby d27_9) rfl rfl ?_
      obtain ⟨cq149, kq149, q149a, q149b, q149c⟩ := isOf hZ e146 SS.1
      obtain ⟨_, _, ⟨T149, L149, k149, n149⟩, -, X149, ⟨Lc149, hQ149, l149, y149, z149⟩, st149⟩ := X146.virtualBack hx (y := (⟨"java/lang/String", "length", "()I"⟩ : MethodName)) (z := (⟨"java/lang/String", "length", "()I"⟩ : MethodName)) hown (mvT hZ (W_ hw 71 rfl)) (mvT hZ (W_ hw 72 rfl)) (notFace_of_selects (args := #[]) (mvT hZ (W_ hw 74 rfl))) (mvT hZ (W_ hw 74 rfl)) (mvT hZ (W_ hw 73 rfl)) (by decide) (backOf (W := 1) (rmslen l Z a0 hw [] x t kb [c0] zc h0 n0 Z_ O_ S_CS P_CS SS) hZ (W_ hw 75 rfl) (W_ hw 7 rfl) (by decide) (by decide)) q149a q149c (g := (mkF m 10 #[.val (.ref x), .val (.long ((1 : Int64) + own_x c0)), .second, .val (.int (1 : Int32)), .val (.int c0)] [(.ref x), (.int (1 : Int32))])) rfl (by rw [hml]; rfl) (Steps.refl _) (argsL := []) (rest := [(.int (1 : Int32))]) (lenOf pd_17 rfl) rfl (Nat.le_of_eq rfl) (hb hby d27_10) (fun _ _ => ⟨rfl, e146, (by decide : 0 + 0 ≤ _), (by decide : 0 + 0 ≤ _)⟩)
      dsimp only [Pt.U, Pt.locs, Pt.cells, Pt.slots] at X149 l149 y149 z149 st149 hQ149
      subst y149 z149
      obtain ⟨rfl, N149q, e149⟩ := hQ149
      have N149 := own_frl l149 N146 N149q
      refine .st (fun _ => st149.trans) ?_
      show OwnGo p e below s _ _ _ T149 (mkF m 13 _ [(.int (1 : Int32)), (.int (1 : Int32))])
      refine .icmpYes (pc := 13) X149 hx 60 (hb hby d27_13) (flt ((by decide) : ¬ ((1 : Int32) < (1 : Int32)))).2.1 (by decide) (by decide) ?_
      refine .st (fun _ => XS.lloadN X149.here hx rfl (hb hby d27_60) rfl) ?_
      show OwnGo p e below s _ _ _ T149 (mkF m 61 _ [(.long ((1 : Int64) + own_x c0))])
      exact OwnGo.ret X149 hx hret hlk rfl (Or.inr (Or.inl ⟨rfl, rfl, _, rfl⟩)) (hb hby d27_61) (by show Qelen Z x t kb [c0] zc fmv h0 n0 _ T149.heap _; rw [e149]; exact ⟨rfl, N149, rfl⟩) (by decide) (by decide)
    · intro key147
      refine OwnGo.join (T1 := T146) (P := fun z_ : Int32 => c0 = (0 : Int32) ∨ ¬ c0 < (128 : Int32)) (f := fun z_ : Int32 => mkF m 36 #[.val (.ref x), .val (.long (1 : Int64)), .second, .val (.int (0 : Int32)), .val (.int c0)] []) ?_ ?_
      · intro z_ hz
        obtain ⟨un_, hz_⟩ : ∃ u : Int32, u = z_ := ⟨_, rfl⟩
        subst hz_
        replace hz : c0 = (0 : Int32) ∨ ¬ c0 < (128 : Int32) := hz
        show OwnGo p e below s _ _ _ T146 (mkF m 36 #[.val (.ref x), .val (.long (1 : Int64)), .second, .val (.int (0 : Int32)), .val (.int c0)] [])
        refine .st (fun _ => XS.lloadN X146.here hx rfl (hb hby d27_36) rfl) ?_
        show OwnGo p e below s _ _ _ T146 (mkF m 37 _ [(.long (1 : Int64))])
        refine .iload X146 hx (hb hby d27_37) rfl ?_
        refine .sipush X146 hx (hb hby d27_39) own_ks2048 ?_
        by_cases q2 : c0 < (2048 : Int32)
        · refine .icmpNo X146 hx (hb hby d27_42) (tlt (q2 : c0 < (2048 : Int32))).2.1 ?_
          refine .st (fun _ => XS.lconst X146.here hx rfl (hb hby d27_45)) ?_
          show OwnGo p e below s _ _ _ T146 (mkF m 46 _ [(.long (1 : Int64)), (.long (1 : Int64))])
          refine .goto (pc := 46) X146 hx 52 (hb hby d27_46) (by decide) (by decide) ?_
          refine .st (fun _ => XS.ladd X146.here hx rfl (hb hby d27_52) rfl) ?_
          show OwnGo p e below s _ _ _ T146 (mkF m 53 _ [(.long (2 : Int64))])
          refine .st (fun _ => XS.lstoreN X146.here hx rfl (hb hby d27_53) rfl (l' := #[.val (.ref x), .val (.long (2 : Int64)), .second, .val (.int (0 : Int32)), .val (.int c0)]) rfl) ?_
          show OwnGo p e below s _ _ _ T146 (mkF m 54 _ [])
          exact key147 _ (own_x2 (l := (1 : Int64)) hz q2)
        · refine .icmpYes (pc := 42) X146 hx 49 (hb hby d27_42) (flt (q2 : ¬ (c0 < (2048 : Int32)))).2.1 (by decide) (by decide) ?_
          refine .st (fun _ => X146.ldc2Long hx hown (mvT hZ (W_ hw 273 rfl)) (g := (mkF m 49 #[.val (.ref x), .val (.long (1 : Int64)), .second, .val (.int (0 : Int32)), .val (.int c0)] [(.long (1 : Int64))])) rfl (hb hby d27_49) _) ?_
          show OwnGo p e below s _ _ _ T146 (mkF m 52 _ [(.long (2 : Int64)), (.long (1 : Int64))])
          refine .st (fun _ => XS.ladd X146.here hx rfl (hb hby d27_52) rfl) ?_
          show OwnGo p e below s _ _ _ T146 (mkF m 53 _ [(.long (3 : Int64))])
          refine .st (fun _ => XS.lstoreN X146.here hx rfl (hb hby d27_53) rfl (l' := #[.val (.ref x), .val (.long (3 : Int64)), .second, .val (.int (0 : Int32)), .val (.int c0)]) rfl) ?_
          show OwnGo p e below s _ _ _ T146 (mkF m 54 _ [])
          exact key147 _ (own_x3 (l := (1 : Int64)) hz q2)
      · intro key148
        refine .iload X146 hx (hb hby d27_23) rfl ?_
        by_cases q0 : c0 = (0 : Int32)
        · refine .ifYes (pc := 25) X146 hx 36 (hb hby d27_25) ((if0 _ _).trans (teq (q0 : c0 = (0 : Int32))).1) (by decide) (by decide) ?_
          exact key148 0 (Or.inl q0)
        · refine .ifNo X146 hx (hb hby d27_25) ((if0 _ _).trans (feq (q0 : ¬ (c0 = (0 : Int32)))).1) ?_
          refine .iload X146 hx (hb hby d27_28) rfl ?_
          refine .sipush X146 hx (hb hby d27_30) own_ks128 ?_
          by_cases q1 : c0 < (128 : Int32)
          · refine .icmpYes (pc := 33) X146 hx 54 (hb hby d27_33) (tlt (q1 : c0 < (128 : Int32))).1 (by decide) (by decide) ?_
            exact key147 _ (own_x1 q0 q1)
          · refine .icmpNo X146 hx (hb hby d27_33) (flt (q1 : ¬ (c0 < (128 : Int32)))).1 ?_
            exact key148 0 (Or.inr q1)
  · have SS : own_S2 Z h0 x t kb c0 c1 := SS
    have P_c0 : own_u c0 := hu c0 (List.mem_cons_self)
    have P_c1 : own_u c1 := hu c1 (List.mem_cons_of_mem _ List.mem_cons_self)
    refine .aloadN X0 hx (hb hby d27_0) rfl rfl ?_
    obtain ⟨cq150, kq150, q150a, q150b, q150c⟩ := isOf hZ e0 SS.1
    obtain ⟨_, _, ⟨T150, L150, k150, n150⟩, -, X150, ⟨Lc150, hQ150, l150, y150, z150⟩, st150⟩ := X0.virtualBack hx (y := (⟨"java/lang/String", "length", "()I"⟩ : MethodName)) (z := (⟨"java/lang/String", "length", "()I"⟩ : MethodName)) hown (mvT hZ (W_ hw 71 rfl)) (mvT hZ (W_ hw 72 rfl)) (notFace_of_selects (args := #[]) (mvT hZ (W_ hw 74 rfl))) (mvT hZ (W_ hw 74 rfl)) (mvT hZ (W_ hw 73 rfl)) (by decide) (backOf (W := 0) (rmslen l Z a0 hw [] x t kb [c0, c1] zc h0 n0 Z_ O_ S_CS P_CS SS) hZ (W_ hw 75 rfl) (W_ hw 7 rfl) (by decide) (by decide)) q150a q150c (g := (mkF m 1 #[.val (.ref x), .unset, .unset, .unset, .unset] [(.ref x)])) rfl (by rw [hml]; rfl) (Steps.refl _) (argsL := []) (rest := []) (lenOf pd_17 rfl) rfl (Nat.le_of_eq rfl) (hb hby d27_1) (fun _ _ => ⟨rfl, e0, (by decide : 0 + 0 ≤ _), (by decide : 0 + 0 ≤ _)⟩)
    dsimp only [Pt.U, Pt.locs, Pt.cells, Pt.slots] at X150 l150 y150 z150 st150 hQ150
    subst y150 z150
    obtain ⟨rfl, N150q, e150⟩ := hQ150
    have N150 := own_frl l150 N0 N150q
    refine .st (fun _ => st150.trans) ?_
    show OwnGo p e below s _ _ _ T150 (mkF m 4 _ [(.int (2 : Int32))])
    refine .st (fun _ => XS.i2l X150.here hx rfl (hb hby d27_4) rfl) ?_
    show OwnGo p e below s _ _ _ T150 (mkF m 5 _ [(.long ((2 : Int32).toInt64))])
    rw [show ((2 : Int32).toInt64) = (2 : Int64) from by decide]
    show OwnGo p e below s _ _ _ T150 (mkF m 5 _ [(.long (2 : Int64))])
    refine .st (fun _ => XS.lstoreN X150.here hx rfl (hb hby d27_5) rfl (l' := #[.val (.ref x), .val (.long (2 : Int64)), .second, .unset, .unset]) rfl) ?_
    show OwnGo p e below s _ _ _ T150 (mkF m 6 _ [])
    refine .iconst X150 hx (hb hby d27_6) own_ki0 ?_
    refine .istoreN X150 hx (hb hby d27_7) (L' := #[.val (.ref x), .val (.long (2 : Int64)), .second, .val (.int (0 : Int32)), .unset]) rfl ?_
    refine .iloadN X150 hx (hb hby d27_8) rfl ?_
    refine .aloadN X150 hx (hb hby d27_9) rfl rfl ?_
    obtain ⟨cq151, kq151, q151a, q151b, q151c⟩ := isOf hZ e150 SS.1
    obtain ⟨_, _, ⟨T151, L151, k151, n151⟩, -, X151, ⟨Lc151, hQ151, l151, y151, z151⟩, st151⟩ := X150.virtualBack hx (y := (⟨"java/lang/String", "length", "()I"⟩ : MethodName)) (z := (⟨"java/lang/String", "length", "()I"⟩ : MethodName)) hown (mvT hZ (W_ hw 71 rfl)) (mvT hZ (W_ hw 72 rfl)) (notFace_of_selects (args := #[]) (mvT hZ (W_ hw 74 rfl))) (mvT hZ (W_ hw 74 rfl)) (mvT hZ (W_ hw 73 rfl)) (by decide) (backOf (W := 1) (rmslen l Z a0 hw [] x t kb [c0, c1] zc h0 n0 Z_ O_ S_CS P_CS SS) hZ (W_ hw 75 rfl) (W_ hw 7 rfl) (by decide) (by decide)) q151a q151c (g := (mkF m 10 #[.val (.ref x), .val (.long (2 : Int64)), .second, .val (.int (0 : Int32)), .unset] [(.ref x), (.int (0 : Int32))])) rfl (by rw [hml]; rfl) (Steps.refl _) (argsL := []) (rest := [(.int (0 : Int32))]) (lenOf pd_17 rfl) rfl (Nat.le_of_eq rfl) (hb hby d27_10) (fun _ _ => ⟨rfl, e150, (by decide : 0 + 0 ≤ _), (by decide : 0 + 0 ≤ _)⟩)
    dsimp only [Pt.U, Pt.locs, Pt.cells, Pt.slots] at X151 l151 y151 z151 st151 hQ151
    subst y151 z151
    obtain ⟨rfl, N151q, e151⟩ := hQ151
    have N151 := own_frl l151 N150 N151q
    refine .st (fun _ => st151.trans) ?_
    show OwnGo p e below s _ _ _ T151 (mkF m 13 _ [(.int (2 : Int32)), (.int (0 : Int32))])
    refine .icmpNo X151 hx (hb hby d27_13) (tlt ((by decide) : (0 : Int32) < (2 : Int32))).2.1 ?_
    refine .aloadN X151 hx (hb hby d27_16) rfl rfl ?_
    refine .iloadN X151 hx (hb hby d27_17) rfl ?_
    obtain ⟨cq152, kq152, q152a, q152b, q152c⟩ := isOf hZ e151 SS.1
    obtain ⟨_, _, ⟨T152, L152, k152, n152⟩, -, X152, ⟨Lc152, hQ152, l152, y152, z152⟩, st152⟩ := X151.virtualBack hx (y := (⟨"java/lang/String", "charAt", "(I)C"⟩ : MethodName)) (z := (⟨"java/lang/String", "charAt", "(I)C"⟩ : MethodName)) hown (mvT hZ (W_ hw 160 rfl)) (mvT hZ (W_ hw 161 rfl)) (notFace_of_selects (args := #[]) (mvT hZ (W_ hw 163 rfl))) (mvT hZ (W_ hw 163 rfl)) (mvT hZ (W_ hw 162 rfl)) (by decide) (backOf (W := 0) (rmchA2_0 l Z a0 hw [] x t kb c0 c1 zc fmv h0 n0 Z_ O_ S_CS P_CS S_AD S_HB S_LB S_SF rf_fmv SS P_c0 P_c1) hZ (W_ hw 164 rfl) (W_ hw 7 rfl) (by decide) (by decide)) q152a q152c (g := (mkF m 18 #[.val (.ref x), .val (.long (2 : Int64)), .second, .val (.int (0 : Int32)), .unset] [(.int (0 : Int32)), (.ref x)])) rfl (by rw [hml]; rfl) (Steps.refl _) (argsL := [(.int (0 : Int32))]) (rest := []) (lenOf pd_19 rfl) rfl (Nat.le_of_eq rfl) (hb hby d27_18) (fun _ _ => ⟨rfl, e151, (by decide : 0 + 0 ≤ _), (by decide : 0 + 0 ≤ _)⟩)
    dsimp only [Pt.U, Pt.locs, Pt.cells, Pt.slots] at X152 l152 y152 z152 st152 hQ152
    subst y152 z152
    obtain ⟨rfl, N152q, e152⟩ := hQ152
    have N152 := own_frl l152 N151 N152q
    refine .st (fun _ => st152.trans) ?_
    show OwnGo p e below s _ _ _ T152 (mkF m 21 _ [(.int c0)])
    refine .istore X152 hx (hb hby d27_21) (L' := #[.val (.ref x), .val (.long (2 : Int64)), .second, .val (.int (0 : Int32)), .val (.int c0)]) rfl ?_
    refine OwnGo.join (T1 := T152) (P := fun z_ : Int64 => z_ = ((2 : Int64) + own_x c0)) (f := fun z_ : Int64 => mkF m 54 #[.val (.ref x), .val (.long z_), .second, .val (.int (0 : Int32)), .val (.int c0)] []) ?_ ?_
    · intro z_ hll
      obtain ⟨ll, hz_⟩ : ∃ u : Int64, u = z_ := ⟨_, rfl⟩
      subst hz_
      replace hll : ll = ((2 : Int64) + own_x c0) := hll
      show OwnGo p e below s _ _ _ T152 (mkF m 54 #[.val (.ref x), .val (.long ll), .second, .val (.int (0 : Int32)), .val (.int c0)] [])
      subst hll
      show OwnGo p e below s _ _ _ T152 (mkF m 54 #[.val (.ref x), .val (.long ((2 : Int64) + own_x c0)), .second, .val (.int (0 : Int32)), .val (.int c0)] [])
      refine .iinc X152 hx (hb hby d27_54) rfl own_ka0_1 (L' := #[.val (.ref x), .val (.long ((2 : Int64) + own_x c0)), .second, .val (.int (1 : Int32)), .val (.int c0)]) rfl ?_
      refine .goto (pc := 57) X152 hx 8 (hb hby d27_57) (by decide) (by decide) ?_
      refine .iloadN X152 hx (hb hby d27_8) rfl ?_
      refine .aloadN X152 hx (hb hby d27_9) rfl rfl ?_
      obtain ⟨cq155, kq155, q155a, q155b, q155c⟩ := isOf hZ e152 SS.1
      obtain ⟨_, _, ⟨T155, L155, k155, n155⟩, -, X155, ⟨Lc155, hQ155, l155, y155, z155⟩, st155⟩ := X152.virtualBack hx (y := (⟨"java/lang/String", "length", "()I"⟩ : MethodName)) (z := (⟨"java/lang/String", "length", "()I"⟩ : MethodName)) hown (mvT hZ (W_ hw 71 rfl)) (mvT hZ (W_ hw 72 rfl)) (notFace_of_selects (args := #[]) (mvT hZ (W_ hw 74 rfl))) (mvT hZ (W_ hw 74 rfl)) (mvT hZ (W_ hw 73 rfl)) (by decide) (backOf (W := 1) (rmslen l Z a0 hw [] x t kb [c0, c1] zc h0 n0 Z_ O_ S_CS P_CS SS) hZ (W_ hw 75 rfl) (W_ hw 7 rfl) (by decide) (by decide)) q155a q155c (g := (mkF m 10 #[.val (.ref x), .val (.long ((2 : Int64) + own_x c0)), .second, .val (.int (1 : Int32)), .val (.int c0)] [(.ref x), (.int (1 : Int32))])) rfl (by rw [hml]; rfl) (Steps.refl _) (argsL := []) (rest := [(.int (1 : Int32))]) (lenOf pd_17 rfl) rfl (Nat.le_of_eq rfl) (hb hby d27_10) (fun _ _ => ⟨rfl, e152, (by decide : 0 + 0 ≤ _), (by decide : 0 + 0 ≤ _)⟩)
      dsimp only [Pt.U, Pt.locs, Pt.cells, Pt.slots] at X155 l155 y155 z155 st155 hQ155
      subst y155 z155
      obtain ⟨rfl, N155q, e155⟩ := hQ155
      have N155 := own_frl l155 N152 N155q
      refine .st (fun _ => st155.trans) ?_
      show OwnGo p e below s _ _ _ T155 (mkF m 13 _ [(.int (2 : Int32)), (.int (1 : Int32))])
      refine .icmpNo X155 hx (hb hby d27_13) (tlt ((by decide) : (1 : Int32) < (2 : Int32))).2.1 ?_
      refine .aloadN X155 hx (hb hby d27_16) rfl rfl ?_
      refine .iloadN X155 hx (hb hby d27_17) rfl ?_
      obtain ⟨cq156, kq156, q156a, q156b, q156c⟩ := isOf hZ e155 SS.1
      obtain ⟨_, _, ⟨T156, L156, k156, n156⟩, -, X156, ⟨Lc156, hQ156, l156, y156, z156⟩, st156⟩ := X155.virtualBack hx (y := (⟨"java/lang/String", "charAt", "(I)C"⟩ : MethodName)) (z := (⟨"java/lang/String", "charAt", "(I)C"⟩ : MethodName)) hown (mvT hZ (W_ hw 160 rfl)) (mvT hZ (W_ hw 161 rfl)) (notFace_of_selects (args := #[]) (mvT hZ (W_ hw 163 rfl))) (mvT hZ (W_ hw 163 rfl)) (mvT hZ (W_ hw 162 rfl)) (by decide) (backOf (W := 0) (rmchA2_1 l Z a0 hw [] x t kb c0 c1 zc fmv h0 n0 Z_ O_ S_CS P_CS S_AD S_HB S_LB S_SF rf_fmv SS P_c0 P_c1) hZ (W_ hw 164 rfl) (W_ hw 7 rfl) (by decide) (by decide)) q156a q156c (g := (mkF m 18 #[.val (.ref x), .val (.long ((2 : Int64) + own_x c0)), .second, .val (.int (1 : Int32)), .val (.int c0)] [(.int (1 : Int32)), (.ref x)])) rfl (by rw [hml]; rfl) (Steps.refl _) (argsL := [(.int (1 : Int32))]) (rest := []) (lenOf pd_19 rfl) rfl (Nat.le_of_eq rfl) (hb hby d27_18) (fun _ _ => ⟨rfl, e155, (by decide : 0 + 0 ≤ _), (by decide : 0 + 0 ≤ _)⟩)
      dsimp only [Pt.U, Pt.locs, Pt.cells, Pt.slots] at X156 l156 y156 z156 st156 hQ156
      subst y156 z156
      obtain ⟨rfl, N156q, e156⟩ := hQ156
      have N156 := own_frl l156 N155 N156q
      refine .st (fun _ => st156.trans) ?_
      show OwnGo p e below s _ _ _ T156 (mkF m 21 _ [(.int c1)])
      refine .istore X156 hx (hb hby d27_21) (L' := #[.val (.ref x), .val (.long ((2 : Int64) + own_x c0)), .second, .val (.int (1 : Int32)), .val (.int c1)]) rfl ?_
      refine OwnGo.join (T1 := T156) (P := fun z_ : Int64 => z_ = (((2 : Int64) + own_x c0) + own_x c1)) (f := fun z_ : Int64 => mkF m 54 #[.val (.ref x), .val (.long z_), .second, .val (.int (1 : Int32)), .val (.int c1)] []) ?_ ?_
      · intro z_ hll
        obtain ⟨ll, hz_⟩ : ∃ u : Int64, u = z_ := ⟨_, rfl⟩
        subst hz_
        replace hll : ll = (((2 : Int64) + own_x c0) + own_x c1) := hll
        show OwnGo p e below s _ _ _ T156 (mkF m 54 #[.val (.ref x), .val (.long ll), .second, .val (.int (1 : Int32)), .val (.int c1)] [])
        subst hll
        show OwnGo p e below s _ _ _ T156 (mkF m 54 #[.val (.ref x), .val (.long (((2 : Int64) + own_x c0) + own_x c1)), .second, .val (.int (1 : Int32)), .val (.int c1)] [])
        refine .iinc X156 hx (hb hby d27_54) rfl own_ka1_1 (L' := #[.val (.ref x), .val (.long (((2 : Int64) + own_x c0) + own_x c1)), .second, .val (.int (2 : Int32)), .val (.int c1)]) rfl ?_
        refine .goto (pc := 57) X156 hx 8 (hb hby d27_57) (by decide) (by decide) ?_
        refine .iloadN X156 hx (hb hby d27_8) rfl ?_
        refine .aloadN X156 hx (hb hby d27_9) rfl rfl ?_
        obtain ⟨cq159, kq159, q159a, q159b, q159c⟩ := isOf hZ e156 SS.1
        obtain ⟨_, _, ⟨T159, L159, k159, n159⟩, -, X159, ⟨Lc159, hQ159, l159, y159, z159⟩, st159⟩ := X156.virtualBack hx (y := (⟨"java/lang/String", "length", "()I"⟩ : MethodName)) (z := (⟨"java/lang/String", "length", "()I"⟩ : MethodName)) hown (mvT hZ (W_ hw 71 rfl)) (mvT hZ (W_ hw 72 rfl)) (notFace_of_selects (args := #[]) (mvT hZ (W_ hw 74 rfl))) (mvT hZ (W_ hw 74 rfl)) (mvT hZ (W_ hw 73 rfl)) (by decide) (backOf (W := 1) (rmslen l Z a0 hw [] x t kb [c0, c1] zc h0 n0 Z_ O_ S_CS P_CS SS) hZ (W_ hw 75 rfl) (W_ hw 7 rfl) (by decide) (by decide)) q159a q159c (g := (mkF m 10 #[.val (.ref x), .val (.long (((2 : Int64) + own_x c0) + own_x c1)), .second, .val (.int (2 : Int32)), .val (.int c1)] [(.ref x), (.int (2 : Int32))])) rfl (by rw [hml]; rfl) (Steps.refl _) (argsL := []) (rest := [(.int (2 : Int32))]) (lenOf pd_17 rfl) rfl (Nat.le_of_eq rfl) (hb hby d27_10) (fun _ _ => ⟨rfl, e156, (by decide : 0 + 0 ≤ _), (by decide : 0 + 0 ≤ _)⟩)
        dsimp only [Pt.U, Pt.locs, Pt.cells, Pt.slots] at X159 l159 y159 z159 st159 hQ159
        subst y159 z159
        obtain ⟨rfl, N159q, e159⟩ := hQ159
        have N159 := own_frl l159 N156 N159q
        refine .st (fun _ => st159.trans) ?_
        show OwnGo p e below s _ _ _ T159 (mkF m 13 _ [(.int (2 : Int32)), (.int (2 : Int32))])
        refine .icmpYes (pc := 13) X159 hx 60 (hb hby d27_13) (flt ((by decide) : ¬ ((2 : Int32) < (2 : Int32)))).2.1 (by decide) (by decide) ?_
        refine .st (fun _ => XS.lloadN X159.here hx rfl (hb hby d27_60) rfl) ?_
        show OwnGo p e below s _ _ _ T159 (mkF m 61 _ [(.long (((2 : Int64) + own_x c0) + own_x c1))])
        exact OwnGo.ret X159 hx hret hlk rfl (Or.inr (Or.inl ⟨rfl, rfl, _, rfl⟩)) (hb hby d27_61) (by show Qelen Z x t kb [c0, c1] zc fmv h0 n0 _ T159.heap _; rw [e159]; exact ⟨rfl, N159, rfl⟩) (by decide) (by decide)
      · intro key157
        refine OwnGo.join (T1 := T156) (P := fun z_ : Int32 => c1 = (0 : Int32) ∨ ¬ c1 < (128 : Int32)) (f := fun z_ : Int32 => mkF m 36 #[.val (.ref x), .val (.long ((2 : Int64) + own_x c0)), .second, .val (.int (1 : Int32)), .val (.int c1)] []) ?_ ?_
        · intro z_ hz
          obtain ⟨un_, hz_⟩ : ∃ u : Int32, u = z_ := ⟨_, rfl⟩
          subst hz_
          replace hz : c1 = (0 : Int32) ∨ ¬ c1 < (128 : Int32) := hz
          show OwnGo p e below s _ _ _ T156 (mkF m 36 #[.val (.ref x), .val (.long ((2 : Int64) + own_x c0)), .second, .val (.int (1 : Int32)), .val (.int c1)] [])
          refine .st (fun _ => XS.lloadN X156.here hx rfl (hb hby d27_36) rfl) ?_
          show OwnGo p e below s _ _ _ T156 (mkF m 37 _ [(.long ((2 : Int64) + own_x c0))])
          refine .iload X156 hx (hb hby d27_37) rfl ?_
          refine .sipush X156 hx (hb hby d27_39) own_ks2048 ?_
          by_cases q2 : c1 < (2048 : Int32)
          · refine .icmpNo X156 hx (hb hby d27_42) (tlt (q2 : c1 < (2048 : Int32))).2.1 ?_
            refine .st (fun _ => XS.lconst X156.here hx rfl (hb hby d27_45)) ?_
            show OwnGo p e below s _ _ _ T156 (mkF m 46 _ [(.long (1 : Int64)), (.long ((2 : Int64) + own_x c0))])
            refine .goto (pc := 46) X156 hx 52 (hb hby d27_46) (by decide) (by decide) ?_
            refine .st (fun _ => XS.ladd X156.here hx rfl (hb hby d27_52) rfl) ?_
            show OwnGo p e below s _ _ _ T156 (mkF m 53 _ [(.long (((2 : Int64) + own_x c0) + (1 : Int64)))])
            refine .st (fun _ => XS.lstoreN X156.here hx rfl (hb hby d27_53) rfl (l' := #[.val (.ref x), .val (.long (((2 : Int64) + own_x c0) + (1 : Int64))), .second, .val (.int (1 : Int32)), .val (.int c1)]) rfl) ?_
            show OwnGo p e below s _ _ _ T156 (mkF m 54 _ [])
            exact key157 _ (own_x2 (l := ((2 : Int64) + own_x c0)) hz q2)
          · refine .icmpYes (pc := 42) X156 hx 49 (hb hby d27_42) (flt (q2 : ¬ (c1 < (2048 : Int32)))).2.1 (by decide) (by decide) ?_
            refine .st (fun _ => X156.ldc2Long hx hown (mvT hZ (W_ hw 273 rfl)) (g := (mkF m 49 #[.val (.ref x), .val (.long ((2 : Int64) + own_x c0)), .second, .val (.int (1 : Int32)), .val (.int c1)] [(.long ((2 : Int64) + own_x c0))])) rfl (hb hby d27_49) _) ?_
            show OwnGo p e below s _ _ _ T156 (mkF m 52 _ [(.long (2 : Int64)), (.long ((2 : Int64) + own_x c0))])
            refine .st (fun _ => XS.ladd X156.here hx rfl (hb hby d27_52) rfl) ?_
            show OwnGo p e below s _ _ _ T156 (mkF m 53 _ [(.long (((2 : Int64) + own_x c0) + (2 : Int64)))])
            refine .st (fun _ => XS.lstoreN X156.here hx rfl (hb hby d27_53) rfl (l' := #[.val (.ref x), .val (.long (((2 : Int64) + own_x c0) + (2 : Int64))), .second, .val (.int (1 : Int32)), .val (.int c1)]) rfl) ?_
            show OwnGo p e below s _ _ _ T156 (mkF m 54 _ [])
            exact key157 _ (own_x3 (l := ((2 : Int64) + own_x c0)) hz q2)
        · intro key158
          refine .iload X156 hx (hb hby d27_23) rfl ?_
          by_cases q0 : c1 = (0 : Int32)
          · refine .ifYes (pc := 25) X156 hx 36 (hb hby d27_25) ((if0 _ _).trans (teq (q0 : c1 = (0 : Int32))).1) (by decide) (by decide) ?_
            exact key158 0 (Or.inl q0)
          · refine .ifNo X156 hx (hb hby d27_25) ((if0 _ _).trans (feq (q0 : ¬ (c1 = (0 : Int32)))).1) ?_
            refine .iload X156 hx (hb hby d27_28) rfl ?_
            refine .sipush X156 hx (hb hby d27_30) own_ks128 ?_
            by_cases q1 : c1 < (128 : Int32)
            · refine .icmpYes (pc := 33) X156 hx 54 (hb hby d27_33) (tlt (q1 : c1 < (128 : Int32))).1 (by decide) (by decide) ?_
              exact key157 _ (own_x1 q0 q1)
            · refine .icmpNo X156 hx (hb hby d27_33) (flt (q1 : ¬ (c1 < (128 : Int32)))).1 ?_
              exact key158 0 (Or.inr q1)
    · intro key153
      refine OwnGo.join (T1 := T152) (P := fun z_ : Int32 => c0 = (0 : Int32) ∨ ¬ c0 < (128 : Int32)) (f := fun z_ : Int32 => mkF m 36 #[.val (.ref x), .val (.long (2 : Int64)), .second, .val (.int (0 : Int32)), .val (.int c0)] []) ?_ ?_
      · intro z_ hz
        obtain ⟨un_, hz_⟩ : ∃ u : Int32, u = z_ := ⟨_, rfl⟩
        subst hz_
        replace hz : c0 = (0 : Int32) ∨ ¬ c0 < (128 : Int32) := hz
        show OwnGo p e below s _ _ _ T152 (mkF m 36 #[.val (.ref x), .val (.long (2 : Int64)), .second, .val (.int (0 : Int32)), .val (.int c0)] [])
        refine .st (fun _ => XS.lloadN X152.here hx rfl (hb hby d27_36) rfl) ?_
        show OwnGo p e below s _ _ _ T152 (mkF m 37 _ [(.long (2 : Int64))])
        refine .iload X152 hx (hb hby d27_37) rfl ?_
        refine .sipush X152 hx (hb hby d27_39) own_ks2048 ?_
        by_cases q2 : c0 < (2048 : Int32)
        · refine .icmpNo X152 hx (hb hby d27_42) (tlt (q2 : c0 < (2048 : Int32))).2.1 ?_
          refine .st (fun _ => XS.lconst X152.here hx rfl (hb hby d27_45)) ?_
          show OwnGo p e below s _ _ _ T152 (mkF m 46 _ [(.long (1 : Int64)), (.long (2 : Int64))])
          refine .goto (pc := 46) X152 hx 52 (hb hby d27_46) (by decide) (by decide) ?_
          refine .st (fun _ => XS.ladd X152.here hx rfl (hb hby d27_52) rfl) ?_
          show OwnGo p e below s _ _ _ T152 (mkF m 53 _ [(.long (3 : Int64))])
          refine .st (fun _ => XS.lstoreN X152.here hx rfl (hb hby d27_53) rfl (l' := #[.val (.ref x), .val (.long (3 : Int64)), .second, .val (.int (0 : Int32)), .val (.int c0)]) rfl) ?_
          show OwnGo p e below s _ _ _ T152 (mkF m 54 _ [])
          exact key153 _ (own_x2 (l := (2 : Int64)) hz q2)
        · refine .icmpYes (pc := 42) X152 hx 49 (hb hby d27_42) (flt (q2 : ¬ (c0 < (2048 : Int32)))).2.1 (by decide) (by decide) ?_
          refine .st (fun _ => X152.ldc2Long hx hown (mvT hZ (W_ hw 273 rfl)) (g := (mkF m 49 #[.val (.ref x), .val (.long (2 : Int64)), .second, .val (.int (0 : Int32)), .val (.int c0)] [(.long (2 : Int64))])) rfl (hb hby d27_49) _) ?_
          show OwnGo p e below s _ _ _ T152 (mkF m 52 _ [(.long (2 : Int64)), (.long (2 : Int64))])
          refine .st (fun _ => XS.ladd X152.here hx rfl (hb hby d27_52) rfl) ?_
          show OwnGo p e below s _ _ _ T152 (mkF m 53 _ [(.long (4 : Int64))])
          refine .st (fun _ => XS.lstoreN X152.here hx rfl (hb hby d27_53) rfl (l' := #[.val (.ref x), .val (.long (4 : Int64)), .second, .val (.int (0 : Int32)), .val (.int c0)]) rfl) ?_
          show OwnGo p e below s _ _ _ T152 (mkF m 54 _ [])
          exact key153 _ (own_x3 (l := (2 : Int64)) hz q2)
      · intro key154
        refine .iload X152 hx (hb hby d27_23) rfl ?_
        by_cases q0 : c0 = (0 : Int32)
        · refine .ifYes (pc := 25) X152 hx 36 (hb hby d27_25) ((if0 _ _).trans (teq (q0 : c0 = (0 : Int32))).1) (by decide) (by decide) ?_
          exact key154 0 (Or.inl q0)
        · refine .ifNo X152 hx (hb hby d27_25) ((if0 _ _).trans (feq (q0 : ¬ (c0 = (0 : Int32)))).1) ?_
          refine .iload X152 hx (hb hby d27_28) rfl ?_
          refine .sipush X152 hx (hb hby d27_30) own_ks128 ?_
          by_cases q1 : c0 < (128 : Int32)
          · refine .icmpYes (pc := 33) X152 hx 54 (hb hby d27_33) (tlt (q1 : c0 < (128 : Int32))).1 (by decide) (by decide) ?_
            exact key153 _ (own_x1 q0 q1)
          · refine .icmpNo X152 hx (hb hby d27_33) (flt (q1 : ¬ (c0 < (128 : Int32)))).1 ?_
            exact key154 0 (Or.inr q1)
  · exact False.elim SS
def Qens (Z : State) (o : Addr) (d : Addr) (kd : ClassId) (bl : List Int32) (mm : Int32) (h0 : Heap) (n0 : Nat) (v : Option Value) (h : Heap) (L : List Loc) : Prop := v = none ∧ Fr n0 L ∧ h = h0
theorem rmens (l : Launch) (Z : State) (a0 : Array Value) (hw : own_tb a0 Z) (ws : List Jvm.Cond) (o : Addr) (d : Addr) (kd : ClassId) (bl : List Int32) (mm : Int32) (h0 : Heap) (n0 : Nat) (Z0 : n0 ≤ h0.size) (Fb : Fld Z h0 o "com/example/cofferhand/cofferhand/nbt/NbtWriter" "buffer" "[B" (.ref d)) (Fs : Fld Z h0 o "com/example/cofferhand/cofferhand/nbt/NbtWriter" "size" "I" (.int (Int32.ofNat (List.length bl)))) (V_d : Arv Z h0 d kd .byte (256 : Int32) (List.map Value.int bl) (.int (0 : Int32))) (hm : ¬ ((256 : Int32) - (Int32.ofNat (List.length bl))) < mm) :
    OwnMet l (⟨"com/example/cofferhand/cofferhand/nbt/NbtWriter", "ensure", "(I)V"⟩ : MethodName) prog_41_method_10_code 4 none ws ({ frames := 0, cells := 0, slots := 0, locals := 0 } : Room) #[(.ref o), (.int mm)] Z h0 (Qens Z o d kd bl mm h0 n0) := by
  refine own_met (plainFor_of_name pn_24) ?_
  intro p e s m below meth c s₁ X0 hx hby hml hret hlk hown hnm hZ e0
  have N0 := Fr.nil n0
  have Z_ := Z0
  refine OwnGo.cast (ef_ens m o mm) ?_
  show OwnGo p e below s _ _ _ s₁ (mkF m 0 _ [])
  refine .iloadN X0 hx (hb hby d24_0) rfl ?_
  refine .aloadN X0 hx (hb hby d24_1) rfl rfl ?_
  obtain ⟨T160, X160, e160, st160⟩ := getF X0 hx hZ hown (host := "") (Or.inl (W_ hw 93 rfl)) Via.refl e0 Fb (g := (mkF m 2 #[.val (.ref o), .val (.int mm), .unset, .unset] [(.ref o), (.int mm)])) rfl rfl (hb hby d24_2)
  refine .st st160 ?_
  show OwnGo p e below s _ _ _ T160 (mkF m 5 _ [(.ref d), (.int mm)])
  obtain ⟨cl161, Ar161, -, S161, N161, -, -⟩ := id V_d
  refine .st (fun _ => own_len hZ (len_of S161 N161) Ar161 X160 e160 hx (g := (mkF m 5 #[.val (.ref o), .val (.int mm), .unset, .unset] [(.ref d), (.int mm)])) rfl rfl (hb hby d24_5) _) ?_
  show OwnGo p e below s _ _ _ T160 (mkF m 6 _ [(.int (256 : Int32)), (.int mm)])
  refine .aloadN X160 hx (hb hby d24_6) rfl rfl ?_
  obtain ⟨T162, X162, e162, st162⟩ := getF X160 hx hZ hown (host := "") (Or.inl (W_ hw 100 rfl)) Via.refl e160 Fs (g := (mkF m 7 #[.val (.ref o), .val (.int mm), .unset, .unset] [(.ref o), (.int (256 : Int32)), (.int mm)])) rfl rfl (hb hby d24_7)
  refine .st st162 ?_
  show OwnGo p e below s _ _ _ T162 (mkF m 10 _ [(.int (Int32.ofNat (List.length bl))), (.int (256 : Int32)), (.int mm)])
  refine .st (fun _ => XS.isub X162.here hx rfl (hb hby d24_10) rfl) ?_
  show OwnGo p e below s _ _ _ T162 (mkF m 11 _ [(.int ((256 : Int32) - (Int32.ofNat (List.length bl)))), (.int mm)])
  refine .icmpYes (pc := 11) X162 hx 80 (hb hby d24_11) (flt (hm : ¬ (((256 : Int32) - (Int32.ofNat (List.length bl))) < mm))).2.2.2 (by decide) (by decide) ?_
  exact OwnGo.retV X162 hx hret hlk (hb hby d24_80) (by show Qens Z o d kd bl mm h0 n0 _ T162.heap _; rw [e162]; exact ⟨rfl, N0, rfl⟩) (by decide) (by decide)
def QwriteByte (Z : State) (o : Addr) (d : Addr) (kd : ClassId) (bl : List Int32) (xx : Int32) (h0 : Heap) (n0 : Nat) (v : Option Value) (h : Heap) (L : List Loc) : Prop := v = none ∧ Fr n0 L ∧ Keep h0 h [o, d] ∧ Fld Z h o "com/example/cofferhand/cofferhand/nbt/NbtWriter" "buffer" "[B" (.ref d) ∧ Fld Z h o "com/example/cofferhand/cofferhand/nbt/NbtWriter" "size" "I" (.int (Int32.ofNat (List.length (bl ++ [xx.toInt8.toInt32])))) ∧ Arv Z h d kd .byte (256 : Int32) (List.map Value.int (bl ++ [xx.toInt8.toInt32])) (.int (0 : Int32))
theorem rmwriteByte (l : Launch) (Z : State) (a0 : Array Value) (hw : own_tb a0 Z) (ws : List Jvm.Cond) (o : Addr) (d : Addr) (kd : ClassId) (bl : List Int32) (xx : Int32) (h0 : Heap) (n0 : Nat) (Z0 : n0 ≤ h0.size) (E_o : Exa Z h0 o "com/example/cofferhand/cofferhand/nbt/NbtWriter") (Fb : Fld Z h0 o "com/example/cofferhand/cofferhand/nbt/NbtWriter" "buffer" "[B" (.ref d)) (Fs : Fld Z h0 o "com/example/cofferhand/cofferhand/nbt/NbtWriter" "size" "I" (.int (Int32.ofNat (List.length bl)))) (V_d : Arv Z h0 d kd .byte (256 : Int32) (List.map Value.int bl) (.int (0 : Int32))) (g_o : n0 ≤ o) (g_d : n0 ≤ d) (ne_o_d : o ≠ d) (hl : List.length bl + 1 ≤ 256) :
    OwnMet l (⟨"com/example/cofferhand/cofferhand/nbt/NbtWriter", "writeByte", "(I)V"⟩ : MethodName) prog_41_method_6_code 2 none ws ({ frames := 1, cells := 0, slots := 0, locals := 15 } : Room) #[(.ref o), (.int xx)] Z h0 (QwriteByte Z o d kd bl xx h0 n0) := by
  refine own_met (plainFor_of_name pn_24) ?_
  intro p e s m below meth c s₁ X0 hx hby hml hret hlk hown hnm hZ e0
  have N0 := Fr.nil n0
  have Z_ := Z0
  refine OwnGo.cast (ef_writeByte m o xx) ?_
  show OwnGo p e below s _ _ _ s₁ (mkF m 0 _ [])
  have Kp : Keep h0 h0 [o, d] := Keep.refl h0 [o, d]
  refine .aloadN X0 hx (hb hby d23_0) rfl rfl ?_
  refine .iconst X0 hx (hb hby d23_1) own_ki1 ?_
  obtain ⟨cq163, q163, q163'⟩ := E_o.cell
  obtain ⟨_, _, ⟨T163, L163, k163, n163⟩, -, X163, ⟨Lc163, hQ163, l163, y163, z163⟩, st163⟩ := X0.privateBack hx (y := (⟨"com/example/cofferhand/cofferhand/nbt/NbtWriter", "ensure", "(I)V"⟩ : MethodName)) hown (mvT hZ (W_ hw 144 rfl)) (mvT hZ (W_ hw 145 rfl)) (own_selp (z := (⟨"com/example/cofferhand/cofferhand/nbt/NbtWriter", "toByteArray", "()[B"⟩ : MethodName)) (mvT hZ (W_ hw 98 rfl)) rfl (Cond.privateMethod_at (mvP hZ (W_ hw 146 rfl) (args := #[]))) (mvT hZ (W_ hw 145 rfl)) (by decide)) (Cond.privateMethod_at (mvP hZ (W_ hw 146 rfl) (args := #[]))) (mvT hZ (W_ hw 147 rfl)) (by decide) (backOf (W := 0) (rmens l Z a0 hw [] o d kd bl (1 : Int32) h0 n0 Z_ Fb Fs V_d (own_ens (m := 1) hl)) hZ (W_ hw 147 rfl) (W_ hw 88 rfl) (by decide) (by decide)) (g := (mkF m 2 #[.val (.ref o), .val (.int xx)] [(.int (1 : Int32)), (.ref o)])) rfl (by rw [hml]; rfl) (Steps.refl _) (a := o) (by rw [e0]; exact q163) q163' (argsL := [(.int (1 : Int32))]) (rest := []) (lenOf pd_20 rfl) rfl (Nat.le_of_eq rfl) (hb hby d23_2) (fun _ _ => ⟨rfl, e0, (by decide : 0 + 0 ≤ _), (by decide : 0 + 0 ≤ _)⟩)
  dsimp only [Pt.U, Pt.locs, Pt.cells, Pt.slots] at X163 l163 y163 z163 st163 hQ163
  subst y163 z163
  obtain ⟨rfl, N163q, e163⟩ := hQ163
  have N163 := own_frl l163 N0 N163q
  refine .st (fun _ => st163.trans) ?_
  show OwnGo p e below s _ _ _ T163 (mkF m 5 _ [])
  refine .aloadN X163 hx (hb hby d23_5) rfl rfl ?_
  obtain ⟨T164, X164, e164, st164⟩ := getF X163 hx hZ hown (host := "") (Or.inl (W_ hw 93 rfl)) Via.refl e163 Fb (g := (mkF m 6 #[.val (.ref o), .val (.int xx)] [(.ref o)])) rfl rfl (hb hby d23_6)
  refine .st st164 ?_
  show OwnGo p e below s _ _ _ T164 (mkF m 9 _ [(.ref d)])
  refine .aloadN X164 hx (hb hby d23_9) rfl rfl ?_
  refine .dup X164 hx (hb hby d23_10) rfl ?_
  obtain ⟨T165, X165, e165, st165⟩ := getF X164 hx hZ hown (host := "") (Or.inl (W_ hw 100 rfl)) Via.refl e164 Fs (g := (mkF m 11 #[.val (.ref o), .val (.int xx)] [(.ref o), (.ref o), (.ref d)])) rfl rfl (hb hby d23_11)
  refine .st st165 ?_
  show OwnGo p e below s _ _ _ T165 (mkF m 14 _ [(.int (Int32.ofNat (List.length bl))), (.ref o), (.ref d)])
  refine .st (fun _ => XS.dupX1 X165.here hx rfl (hb hby d23_14) rfl rfl rfl) ?_
  show OwnGo p e below s _ _ _ T165 (mkF m 15 _ [(.int (Int32.ofNat (List.length bl))), (.ref o), (.int (Int32.ofNat (List.length bl))), (.ref d)])
  refine .iconst X165 hx (hb hby d23_15) own_ki1 ?_
  refine .st (fun _ => XS.iadd X165.here hx rfl (hb hby d23_16) rfl) ?_
  show OwnGo p e below s _ _ _ T165 (mkF m 17 _ [(.int ((Int32.ofNat (List.length bl)) + (1 : Int32))), (.ref o), (.int (Int32.ofNat (List.length bl))), (.ref d)])
  obtain ⟨T166, h166, X166, e166, W166, st166⟩ := putF X165 hx hZ hown (host := "") (Or.inl (W_ hw 100 rfl)) Via.refl e165 Fs E_o (Or.inl (W_ hw 101 rfl)) (W_ hw 87 rfl) (ty := .int) (by decide) rfl rfl (g := (mkF m 17 #[.val (.ref o), .val (.int xx)] [(.int ((Int32.ofNat (List.length bl)) + (1 : Int32))), (.ref o), (.int (Int32.ofNat (List.length bl))), (.ref d)])) rfl rfl (hb hby d23_17)
  have E_o := E_o.wr W166
  have Fb := Fb.other W166 (Or.inr (slot_ne (Or.inl (W_ hw 94 rfl)) (Or.inl (W_ hw 101 rfl)) (by decide) (t := (.array .byte)) (t' := .int) (by decide) (by decide)))
  have Fs := Fs.same W166
  have V_d := V_d.other W166 (Ne.symm ne_o_d)
  have Kp := Kp.wr W166 (Or.inl (List.mem_of_getElem? (i := 0) rfl))
  have N166 := Fr.snoc X166 N163 g_o
  have Z_ : n0 ≤ h166.size := by rw [W166.size]; exact Z_
  refine .st st166 ?_
  show OwnGo p e below s _ _ _ T166 (mkF m 20 _ [(.int (Int32.ofNat (List.length bl))), (.ref d)])
  refine .iloadN X166 hx (hb hby d23_20) rfl ?_
  refine .st (fun _ => XS.i2b X166.here hx rfl (hb hby d23_21) rfl) ?_
  show OwnGo p e below s _ _ _ T166 (mkF m 22 _ [(.int (xx.toInt8.toInt32)), (.int (Int32.ofNat (List.length bl))), (.ref d)])
  rw [← own_sz1 (x := (xx.toInt8.toInt32))] at Fs
  obtain ⟨cl167, Ar167, -, S167, -, -, -⟩ := id V_d
  have lt167 : List.length bl < 256 := (by omega)
  have ix167 : (Int32.ofNat (List.length bl)) = (Int32.ofNat (List.length bl)) := rfl
  obtain ⟨T167, h167, X167, e167, W167, st167⟩ := stB X166 hx hZ e166 Ar167 (j := (Int32.ofNat (List.length bl))) (inb_of S167 (own_inb ix167 lt167 (by decide))) (g := (mkF m 22 #[.val (.ref o), .val (.int xx)] [(.int (xx.toInt8.toInt32)), (.int (Int32.ofNat (List.length bl))), (.ref d)])) rfl rfl (hb hby d23_22)
  have V'167 : Arv Z h167 d kd .byte (256 : Int32) (List.map Value.int (bl ++ [(xx.toInt8.toInt32)])) (.int (0 : Int32)) := own_push V_d W167 ix167 (Nat.lt_trans lt167 (by decide)) (own_nb _)
  have E_o := E_o.wr W167
  have Fb := Fb.other W167 (Or.inl ne_o_d)
  have Fs := Fs.other W167 (Or.inl ne_o_d)
  have Kp := Kp.wr W167 (Or.inl (List.mem_of_getElem? (i := 1) rfl))
  have N167 := Fr.snoc X167 N166 g_d
  have Z_ : n0 ≤ h167.size := by rw [W167.size]; exact Z_
  have V_d := V'167
  refine .st st167 ?_
  show OwnGo p e below s _ _ _ T167 (mkF m 23 _ [])
  exact OwnGo.retV X167 hx hret hlk (hb hby d23_23) (by show QwriteByte Z o d kd bl xx h0 n0 _ T167.heap _; rw [e167]; exact ⟨rfl, N167, Kp, Fb, Fs, V_d⟩) (by decide) (by decide)
def QwriteShort (Z : State) (o : Addr) (d : Addr) (kd : ClassId) (bl : List Int32) (xx : Int32) (h0 : Heap) (n0 : Nat) (v : Option Value) (h : Heap) (L : List Loc) : Prop := v = none ∧ Fr n0 L ∧ Keep h0 h [o, d] ∧ Fld Z h o "com/example/cofferhand/cofferhand/nbt/NbtWriter" "buffer" "[B" (.ref d) ∧ Fld Z h o "com/example/cofferhand/cofferhand/nbt/NbtWriter" "size" "I" (.int (Int32.ofNat (List.length (bl ++ [(xx >>> ((8 : Int32) &&& 31)).toInt8.toInt32, xx.toInt8.toInt32])))) ∧ Arv Z h d kd .byte (256 : Int32) (List.map Value.int (bl ++ [(xx >>> ((8 : Int32) &&& 31)).toInt8.toInt32, xx.toInt8.toInt32])) (.int (0 : Int32))
theorem rmwriteShort (l : Launch) (Z : State) (a0 : Array Value) (hw : own_tb a0 Z) (ws : List Jvm.Cond) (o : Addr) (d : Addr) (kd : ClassId) (bl : List Int32) (xx : Int32) (h0 : Heap) (n0 : Nat) (Z0 : n0 ≤ h0.size) (E_o : Exa Z h0 o "com/example/cofferhand/cofferhand/nbt/NbtWriter") (Fb : Fld Z h0 o "com/example/cofferhand/cofferhand/nbt/NbtWriter" "buffer" "[B" (.ref d)) (Fs : Fld Z h0 o "com/example/cofferhand/cofferhand/nbt/NbtWriter" "size" "I" (.int (Int32.ofNat (List.length bl)))) (V_d : Arv Z h0 d kd .byte (256 : Int32) (List.map Value.int bl) (.int (0 : Int32))) (g_o : n0 ≤ o) (g_d : n0 ≤ d) (ne_o_d : o ≠ d) (hl : List.length bl + 2 ≤ 256) :
    OwnMet l (⟨"com/example/cofferhand/cofferhand/nbt/NbtWriter", "writeShort", "(I)V"⟩ : MethodName) prog_41_method_7_code 2 none ws ({ frames := 1, cells := 0, slots := 0, locals := 15 } : Room) #[(.ref o), (.int xx)] Z h0 (QwriteShort Z o d kd bl xx h0 n0) := by
  refine own_met (plainFor_of_name pn_24) ?_
  intro p e s m below meth c s₁ X0 hx hby hml hret hlk hown hnm hZ e0
  have N0 := Fr.nil n0
  have Z_ := Z0
  refine OwnGo.cast (ef_writeShort m o xx) ?_
  show OwnGo p e below s _ _ _ s₁ (mkF m 0 _ [])
  have Kp : Keep h0 h0 [o, d] := Keep.refl h0 [o, d]
  refine .aloadN X0 hx (hb hby d33_0) rfl rfl ?_
  refine .iconst X0 hx (hb hby d33_1) own_ki2 ?_
  obtain ⟨cq168, q168, q168'⟩ := E_o.cell
  obtain ⟨_, _, ⟨T168, L168, k168, n168⟩, -, X168, ⟨Lc168, hQ168, l168, y168, z168⟩, st168⟩ := X0.privateBack hx (y := (⟨"com/example/cofferhand/cofferhand/nbt/NbtWriter", "ensure", "(I)V"⟩ : MethodName)) hown (mvT hZ (W_ hw 144 rfl)) (mvT hZ (W_ hw 145 rfl)) (own_selp (z := (⟨"com/example/cofferhand/cofferhand/nbt/NbtWriter", "toByteArray", "()[B"⟩ : MethodName)) (mvT hZ (W_ hw 98 rfl)) rfl (Cond.privateMethod_at (mvP hZ (W_ hw 146 rfl) (args := #[]))) (mvT hZ (W_ hw 145 rfl)) (by decide)) (Cond.privateMethod_at (mvP hZ (W_ hw 146 rfl) (args := #[]))) (mvT hZ (W_ hw 147 rfl)) (by decide) (backOf (W := 0) (rmens l Z a0 hw [] o d kd bl (2 : Int32) h0 n0 Z_ Fb Fs V_d (own_ens (m := 2) hl)) hZ (W_ hw 147 rfl) (W_ hw 88 rfl) (by decide) (by decide)) (g := (mkF m 2 #[.val (.ref o), .val (.int xx)] [(.int (2 : Int32)), (.ref o)])) rfl (by rw [hml]; rfl) (Steps.refl _) (a := o) (by rw [e0]; exact q168) q168' (argsL := [(.int (2 : Int32))]) (rest := []) (lenOf pd_20 rfl) rfl (Nat.le_of_eq rfl) (hb hby d33_2) (fun _ _ => ⟨rfl, e0, (by decide : 0 + 0 ≤ _), (by decide : 0 + 0 ≤ _)⟩)
  dsimp only [Pt.U, Pt.locs, Pt.cells, Pt.slots] at X168 l168 y168 z168 st168 hQ168
  subst y168 z168
  obtain ⟨rfl, N168q, e168⟩ := hQ168
  have N168 := own_frl l168 N0 N168q
  refine .st (fun _ => st168.trans) ?_
  show OwnGo p e below s _ _ _ T168 (mkF m 5 _ [])
  refine .aloadN X168 hx (hb hby d33_5) rfl rfl ?_
  obtain ⟨T169, X169, e169, st169⟩ := getF X168 hx hZ hown (host := "") (Or.inl (W_ hw 93 rfl)) Via.refl e168 Fb (g := (mkF m 6 #[.val (.ref o), .val (.int xx)] [(.ref o)])) rfl rfl (hb hby d33_6)
  refine .st st169 ?_
  show OwnGo p e below s _ _ _ T169 (mkF m 9 _ [(.ref d)])
  refine .aloadN X169 hx (hb hby d33_9) rfl rfl ?_
  refine .dup X169 hx (hb hby d33_10) rfl ?_
  obtain ⟨T170, X170, e170, st170⟩ := getF X169 hx hZ hown (host := "") (Or.inl (W_ hw 100 rfl)) Via.refl e169 Fs (g := (mkF m 11 #[.val (.ref o), .val (.int xx)] [(.ref o), (.ref o), (.ref d)])) rfl rfl (hb hby d33_11)
  refine .st st170 ?_
  show OwnGo p e below s _ _ _ T170 (mkF m 14 _ [(.int (Int32.ofNat (List.length bl))), (.ref o), (.ref d)])
  refine .st (fun _ => XS.dupX1 X170.here hx rfl (hb hby d33_14) rfl rfl rfl) ?_
  show OwnGo p e below s _ _ _ T170 (mkF m 15 _ [(.int (Int32.ofNat (List.length bl))), (.ref o), (.int (Int32.ofNat (List.length bl))), (.ref d)])
  refine .iconst X170 hx (hb hby d33_15) own_ki1 ?_
  refine .st (fun _ => XS.iadd X170.here hx rfl (hb hby d33_16) rfl) ?_
  show OwnGo p e below s _ _ _ T170 (mkF m 17 _ [(.int ((Int32.ofNat (List.length bl)) + (1 : Int32))), (.ref o), (.int (Int32.ofNat (List.length bl))), (.ref d)])
  obtain ⟨T171, h171, X171, e171, W171, st171⟩ := putF X170 hx hZ hown (host := "") (Or.inl (W_ hw 100 rfl)) Via.refl e170 Fs E_o (Or.inl (W_ hw 101 rfl)) (W_ hw 87 rfl) (ty := .int) (by decide) rfl rfl (g := (mkF m 17 #[.val (.ref o), .val (.int xx)] [(.int ((Int32.ofNat (List.length bl)) + (1 : Int32))), (.ref o), (.int (Int32.ofNat (List.length bl))), (.ref d)])) rfl rfl (hb hby d33_17)
  have E_o := E_o.wr W171
  have Fb := Fb.other W171 (Or.inr (slot_ne (Or.inl (W_ hw 94 rfl)) (Or.inl (W_ hw 101 rfl)) (by decide) (t := (.array .byte)) (t' := .int) (by decide) (by decide)))
  have Fs := Fs.same W171
  have V_d := V_d.other W171 (Ne.symm ne_o_d)
  have Kp := Kp.wr W171 (Or.inl (List.mem_of_getElem? (i := 0) rfl))
  have N171 := Fr.snoc X171 N168 g_o
  have Z_ : n0 ≤ h171.size := by rw [W171.size]; exact Z_
  refine .st st171 ?_
  show OwnGo p e below s _ _ _ T171 (mkF m 20 _ [(.int (Int32.ofNat (List.length bl))), (.ref d)])
  refine .iloadN X171 hx (hb hby d33_20) rfl ?_
  refine .bipush X171 hx (hb hby d33_21) own_kb8 ?_
  refine .st (fun _ => XS.ishr X171.here hx rfl (hb hby d33_23) rfl) ?_
  show OwnGo p e below s _ _ _ T171 (mkF m 24 _ [(.int (xx >>> ((8 : Int32) &&& 31))), (.int (Int32.ofNat (List.length bl))), (.ref d)])
  refine .st (fun _ => XS.i2b X171.here hx rfl (hb hby d33_24) rfl) ?_
  show OwnGo p e below s _ _ _ T171 (mkF m 25 _ [(.int ((xx >>> ((8 : Int32) &&& 31)).toInt8.toInt32)), (.int (Int32.ofNat (List.length bl))), (.ref d)])
  rw [← own_sz1 (x := ((xx >>> ((8 : Int32) &&& 31)).toInt8.toInt32))] at Fs
  obtain ⟨cl172, Ar172, -, S172, -, -, -⟩ := id V_d
  have lt172 : List.length bl < 256 := (by omega)
  have ix172 : (Int32.ofNat (List.length bl)) = (Int32.ofNat (List.length bl)) := rfl
  obtain ⟨T172, h172, X172, e172, W172, st172⟩ := stB X171 hx hZ e171 Ar172 (j := (Int32.ofNat (List.length bl))) (inb_of S172 (own_inb ix172 lt172 (by decide))) (g := (mkF m 25 #[.val (.ref o), .val (.int xx)] [(.int ((xx >>> ((8 : Int32) &&& 31)).toInt8.toInt32)), (.int (Int32.ofNat (List.length bl))), (.ref d)])) rfl rfl (hb hby d33_25)
  have V'172 : Arv Z h172 d kd .byte (256 : Int32) (List.map Value.int (bl ++ [((xx >>> ((8 : Int32) &&& 31)).toInt8.toInt32)])) (.int (0 : Int32)) := own_push V_d W172 ix172 (Nat.lt_trans lt172 (by decide)) (own_nb _)
  have E_o := E_o.wr W172
  have Fb := Fb.other W172 (Or.inl ne_o_d)
  have Fs := Fs.other W172 (Or.inl ne_o_d)
  have Kp := Kp.wr W172 (Or.inl (List.mem_of_getElem? (i := 1) rfl))
  have N172 := Fr.snoc X172 N171 g_d
  have Z_ : n0 ≤ h172.size := by rw [W172.size]; exact Z_
  have V_d := V'172
  refine .st st172 ?_
  show OwnGo p e below s _ _ _ T172 (mkF m 26 _ [])
  refine .aloadN X172 hx (hb hby d33_26) rfl rfl ?_
  obtain ⟨T173, X173, e173, st173⟩ := getF X172 hx hZ hown (host := "") (Or.inl (W_ hw 93 rfl)) Via.refl e172 Fb (g := (mkF m 27 #[.val (.ref o), .val (.int xx)] [(.ref o)])) rfl rfl (hb hby d33_27)
  refine .st st173 ?_
  show OwnGo p e below s _ _ _ T173 (mkF m 30 _ [(.ref d)])
  refine .aloadN X173 hx (hb hby d33_30) rfl rfl ?_
  refine .dup X173 hx (hb hby d33_31) rfl ?_
  obtain ⟨T174, X174, e174, st174⟩ := getF X173 hx hZ hown (host := "") (Or.inl (W_ hw 100 rfl)) Via.refl e173 Fs (g := (mkF m 32 #[.val (.ref o), .val (.int xx)] [(.ref o), (.ref o), (.ref d)])) rfl rfl (hb hby d33_32)
  refine .st st174 ?_
  show OwnGo p e below s _ _ _ T174 (mkF m 35 _ [(.int (Int32.ofNat (List.length (bl ++ [((xx >>> ((8 : Int32) &&& 31)).toInt8.toInt32)])))), (.ref o), (.ref d)])
  refine .st (fun _ => XS.dupX1 X174.here hx rfl (hb hby d33_35) rfl rfl rfl) ?_
  show OwnGo p e below s _ _ _ T174 (mkF m 36 _ [(.int (Int32.ofNat (List.length (bl ++ [((xx >>> ((8 : Int32) &&& 31)).toInt8.toInt32)])))), (.ref o), (.int (Int32.ofNat (List.length (bl ++ [((xx >>> ((8 : Int32) &&& 31)).toInt8.toInt32)])))), (.ref d)])
  refine .iconst X174 hx (hb hby d33_36) own_ki1 ?_
  refine .st (fun _ => XS.iadd X174.here hx rfl (hb hby d33_37) rfl) ?_
  show OwnGo p e below s _ _ _ T174 (mkF m 38 _ [(.int ((Int32.ofNat (List.length (bl ++ [((xx >>> ((8 : Int32) &&& 31)).toInt8.toInt32)]))) + (1 : Int32))), (.ref o), (.int (Int32.ofNat (List.length (bl ++ [((xx >>> ((8 : Int32) &&& 31)).toInt8.toInt32)])))), (.ref d)])
  obtain ⟨T175, h175, X175, e175, W175, st175⟩ := putF X174 hx hZ hown (host := "") (Or.inl (W_ hw 100 rfl)) Via.refl e174 Fs E_o (Or.inl (W_ hw 101 rfl)) (W_ hw 87 rfl) (ty := .int) (by decide) rfl rfl (g := (mkF m 38 #[.val (.ref o), .val (.int xx)] [(.int ((Int32.ofNat (List.length (bl ++ [((xx >>> ((8 : Int32) &&& 31)).toInt8.toInt32)]))) + (1 : Int32))), (.ref o), (.int (Int32.ofNat (List.length (bl ++ [((xx >>> ((8 : Int32) &&& 31)).toInt8.toInt32)])))), (.ref d)])) rfl rfl (hb hby d33_38)
  have E_o := E_o.wr W175
  have Fb := Fb.other W175 (Or.inr (slot_ne (Or.inl (W_ hw 94 rfl)) (Or.inl (W_ hw 101 rfl)) (by decide) (t := (.array .byte)) (t' := .int) (by decide) (by decide)))
  have Fs := Fs.same W175
  have V_d := V_d.other W175 (Ne.symm ne_o_d)
  have Kp := Kp.wr W175 (Or.inl (List.mem_of_getElem? (i := 0) rfl))
  have N175 := Fr.snoc X175 N172 g_o
  have Z_ : n0 ≤ h175.size := by rw [W175.size]; exact Z_
  refine .st st175 ?_
  show OwnGo p e below s _ _ _ T175 (mkF m 41 _ [(.int (Int32.ofNat (List.length (bl ++ [((xx >>> ((8 : Int32) &&& 31)).toInt8.toInt32)])))), (.ref d)])
  refine .iloadN X175 hx (hb hby d33_41) rfl ?_
  refine .st (fun _ => XS.i2b X175.here hx rfl (hb hby d33_42) rfl) ?_
  show OwnGo p e below s _ _ _ T175 (mkF m 43 _ [(.int (xx.toInt8.toInt32)), (.int (Int32.ofNat (List.length (bl ++ [((xx >>> ((8 : Int32) &&& 31)).toInt8.toInt32)])))), (.ref d)])
  rw [← own_sz1 (x := (xx.toInt8.toInt32))] at Fs
  obtain ⟨cl176, Ar176, -, S176, -, -, -⟩ := id V_d
  have lt176 : List.length (bl ++ [((xx >>> ((8 : Int32) &&& 31)).toInt8.toInt32)]) < 256 := (by simp only [List.length_append, List.length_cons, List.length_nil] <;> omega)
  have ix176 : (Int32.ofNat (List.length (bl ++ [((xx >>> ((8 : Int32) &&& 31)).toInt8.toInt32)]))) = (Int32.ofNat (List.length (bl ++ [((xx >>> ((8 : Int32) &&& 31)).toInt8.toInt32)]))) := rfl
  obtain ⟨T176, h176, X176, e176, W176, st176⟩ := stB X175 hx hZ e175 Ar176 (j := (Int32.ofNat (List.length (bl ++ [((xx >>> ((8 : Int32) &&& 31)).toInt8.toInt32)])))) (inb_of S176 (own_inb ix176 lt176 (by decide))) (g := (mkF m 43 #[.val (.ref o), .val (.int xx)] [(.int (xx.toInt8.toInt32)), (.int (Int32.ofNat (List.length (bl ++ [((xx >>> ((8 : Int32) &&& 31)).toInt8.toInt32)])))), (.ref d)])) rfl rfl (hb hby d33_43)
  have V'176 : Arv Z h176 d kd .byte (256 : Int32) (List.map Value.int ((bl ++ [((xx >>> ((8 : Int32) &&& 31)).toInt8.toInt32)]) ++ [(xx.toInt8.toInt32)])) (.int (0 : Int32)) := own_push V_d W176 ix176 (Nat.lt_trans lt176 (by decide)) (own_nb _)
  have E_o := E_o.wr W176
  have Fb := Fb.other W176 (Or.inl ne_o_d)
  have Fs := Fs.other W176 (Or.inl ne_o_d)
  have Kp := Kp.wr W176 (Or.inl (List.mem_of_getElem? (i := 1) rfl))
  have N176 := Fr.snoc X176 N175 g_d
  have Z_ : n0 ≤ h176.size := by rw [W176.size]; exact Z_
  have V_d := V'176
  refine .st st176 ?_
  show OwnGo p e below s _ _ _ T176 (mkF m 44 _ [])
  simp only [List.append_assoc, List.cons_append, List.nil_append] at Fs V_d
  exact OwnGo.retV X176 hx hret hlk (hb hby d33_44) (by show QwriteShort Z o d kd bl xx h0 n0 _ T176.heap _; rw [e176]; exact ⟨rfl, N176, Kp, Fb, Fs, V_d⟩) (by decide) (by decide)
def QwriteInt (Z : State) (o : Addr) (d : Addr) (kd : ClassId) (bl : List Int32) (xx : Int32) (h0 : Heap) (n0 : Nat) (v : Option Value) (h : Heap) (L : List Loc) : Prop := v = none ∧ Fr n0 L ∧ Keep h0 h [o, d] ∧ Fld Z h o "com/example/cofferhand/cofferhand/nbt/NbtWriter" "buffer" "[B" (.ref d) ∧ Fld Z h o "com/example/cofferhand/cofferhand/nbt/NbtWriter" "size" "I" (.int (Int32.ofNat (List.length (bl ++ [(xx >>> ((24 : Int32) &&& 31)).toInt8.toInt32, (xx >>> ((16 : Int32) &&& 31)).toInt8.toInt32, (xx >>> ((8 : Int32) &&& 31)).toInt8.toInt32, xx.toInt8.toInt32])))) ∧ Arv Z h d kd .byte (256 : Int32) (List.map Value.int (bl ++ [(xx >>> ((24 : Int32) &&& 31)).toInt8.toInt32, (xx >>> ((16 : Int32) &&& 31)).toInt8.toInt32, (xx >>> ((8 : Int32) &&& 31)).toInt8.toInt32, xx.toInt8.toInt32])) (.int (0 : Int32))
theorem rmwriteInt (l : Launch) (Z : State) (a0 : Array Value) (hw : own_tb a0 Z) (ws : List Jvm.Cond) (o : Addr) (d : Addr) (kd : ClassId) (bl : List Int32) (xx : Int32) (h0 : Heap) (n0 : Nat) (Z0 : n0 ≤ h0.size) (E_o : Exa Z h0 o "com/example/cofferhand/cofferhand/nbt/NbtWriter") (Fb : Fld Z h0 o "com/example/cofferhand/cofferhand/nbt/NbtWriter" "buffer" "[B" (.ref d)) (Fs : Fld Z h0 o "com/example/cofferhand/cofferhand/nbt/NbtWriter" "size" "I" (.int (Int32.ofNat (List.length bl)))) (V_d : Arv Z h0 d kd .byte (256 : Int32) (List.map Value.int bl) (.int (0 : Int32))) (g_o : n0 ≤ o) (g_d : n0 ≤ d) (ne_o_d : o ≠ d) (hl : List.length bl + 4 ≤ 256) :
    OwnMet l (⟨"com/example/cofferhand/cofferhand/nbt/NbtWriter", "writeInt", "(I)V"⟩ : MethodName) prog_41_method_8_code 2 none ws ({ frames := 1, cells := 0, slots := 0, locals := 15 } : Room) #[(.ref o), (.int xx)] Z h0 (QwriteInt Z o d kd bl xx h0 n0) := by
  refine own_met (plainFor_of_name pn_24) ?_
  intro p e s m below meth c s₁ X0 hx hby hml hret hlk hown hnm hZ e0
  have N0 := Fr.nil n0
  have Z_ := Z0
  refine OwnGo.cast (ef_writeInt m o xx) ?_
  show OwnGo p e below s _ _ _ s₁ (mkF m 0 _ [])
  have Kp : Keep h0 h0 [o, d] := Keep.refl h0 [o, d]
  refine .aloadN X0 hx (hb hby d39_0) rfl rfl ?_
  refine .iconst X0 hx (hb hby d39_1) own_ki4 ?_
  obtain ⟨cq177, q177, q177'⟩ := E_o.cell
  obtain ⟨_, _, ⟨T177, L177, k177, n177⟩, -, X177, ⟨Lc177, hQ177, l177, y177, z177⟩, st177⟩ := X0.privateBack hx (y := (⟨"com/example/cofferhand/cofferhand/nbt/NbtWriter", "ensure", "(I)V"⟩ : MethodName)) hown (mvT hZ (W_ hw 144 rfl)) (mvT hZ (W_ hw 145 rfl)) (own_selp (z := (⟨"com/example/cofferhand/cofferhand/nbt/NbtWriter", "toByteArray", "()[B"⟩ : MethodName)) (mvT hZ (W_ hw 98 rfl)) rfl (Cond.privateMethod_at (mvP hZ (W_ hw 146 rfl) (args := #[]))) (mvT hZ (W_ hw 145 rfl)) (by decide)) (Cond.privateMethod_at (mvP hZ (W_ hw 146 rfl) (args := #[]))) (mvT hZ (W_ hw 147 rfl)) (by decide) (backOf (W := 0) (rmens l Z a0 hw [] o d kd bl (4 : Int32) h0 n0 Z_ Fb Fs V_d (own_ens (m := 4) hl)) hZ (W_ hw 147 rfl) (W_ hw 88 rfl) (by decide) (by decide)) (g := (mkF m 2 #[.val (.ref o), .val (.int xx)] [(.int (4 : Int32)), (.ref o)])) rfl (by rw [hml]; rfl) (Steps.refl _) (a := o) (by rw [e0]; exact q177) q177' (argsL := [(.int (4 : Int32))]) (rest := []) (lenOf pd_20 rfl) rfl (Nat.le_of_eq rfl) (hb hby d39_2) (fun _ _ => ⟨rfl, e0, (by decide : 0 + 0 ≤ _), (by decide : 0 + 0 ≤ _)⟩)
  dsimp only [Pt.U, Pt.locs, Pt.cells, Pt.slots] at X177 l177 y177 z177 st177 hQ177
  subst y177 z177
  obtain ⟨rfl, N177q, e177⟩ := hQ177
  have N177 := own_frl l177 N0 N177q
  refine .st (fun _ => st177.trans) ?_
  show OwnGo p e below s _ _ _ T177 (mkF m 5 _ [])
  refine .aloadN X177 hx (hb hby d39_5) rfl rfl ?_
  obtain ⟨T178, X178, e178, st178⟩ := getF X177 hx hZ hown (host := "") (Or.inl (W_ hw 93 rfl)) Via.refl e177 Fb (g := (mkF m 6 #[.val (.ref o), .val (.int xx)] [(.ref o)])) rfl rfl (hb hby d39_6)
  refine .st st178 ?_
  show OwnGo p e below s _ _ _ T178 (mkF m 9 _ [(.ref d)])
  refine .aloadN X178 hx (hb hby d39_9) rfl rfl ?_
  refine .dup X178 hx (hb hby d39_10) rfl ?_
  obtain ⟨T179, X179, e179, st179⟩ := getF X178 hx hZ hown (host := "") (Or.inl (W_ hw 100 rfl)) Via.refl e178 Fs (g := (mkF m 11 #[.val (.ref o), .val (.int xx)] [(.ref o), (.ref o), (.ref d)])) rfl rfl (hb hby d39_11)
  refine .st st179 ?_
  show OwnGo p e below s _ _ _ T179 (mkF m 14 _ [(.int (Int32.ofNat (List.length bl))), (.ref o), (.ref d)])
  refine .st (fun _ => XS.dupX1 X179.here hx rfl (hb hby d39_14) rfl rfl rfl) ?_
  show OwnGo p e below s _ _ _ T179 (mkF m 15 _ [(.int (Int32.ofNat (List.length bl))), (.ref o), (.int (Int32.ofNat (List.length bl))), (.ref d)])
  refine .iconst X179 hx (hb hby d39_15) own_ki1 ?_
  refine .st (fun _ => XS.iadd X179.here hx rfl (hb hby d39_16) rfl) ?_
  show OwnGo p e below s _ _ _ T179 (mkF m 17 _ [(.int ((Int32.ofNat (List.length bl)) + (1 : Int32))), (.ref o), (.int (Int32.ofNat (List.length bl))), (.ref d)])
  obtain ⟨T180, h180, X180, e180, W180, st180⟩ := putF X179 hx hZ hown (host := "") (Or.inl (W_ hw 100 rfl)) Via.refl e179 Fs E_o (Or.inl (W_ hw 101 rfl)) (W_ hw 87 rfl) (ty := .int) (by decide) rfl rfl (g := (mkF m 17 #[.val (.ref o), .val (.int xx)] [(.int ((Int32.ofNat (List.length bl)) + (1 : Int32))), (.ref o), (.int (Int32.ofNat (List.length bl))), (.ref d)])) rfl rfl (hb hby d39_17)
  have E_o := E_o.wr W180
  have Fb := Fb.other W180 (Or.inr (slot_ne (Or.inl (W_ hw 94 rfl)) (Or.inl (W_ hw 101 rfl)) (by decide) (t := (.array .byte)) (t' := .int) (by decide) (by decide)))
  have Fs := Fs.same W180
  have V_d := V_d.other W180 (Ne.symm ne_o_d)
  have Kp := Kp.wr W180 (Or.inl (List.mem_of_getElem? (i := 0) rfl))
  have N180 := Fr.snoc X180 N177 g_o
  have Z_ : n0 ≤ h180.size := by rw [W180.size]; exact Z_
  refine .st st180 ?_
  show OwnGo p e below s _ _ _ T180 (mkF m 20 _ [(.int (Int32.ofNat (List.length bl))), (.ref d)])
  refine .iloadN X180 hx (hb hby d39_20) rfl ?_
  refine .bipush X180 hx (hb hby d39_21) own_kb24 ?_
  refine .st (fun _ => XS.ishr X180.here hx rfl (hb hby d39_23) rfl) ?_
  show OwnGo p e below s _ _ _ T180 (mkF m 24 _ [(.int (xx >>> ((24 : Int32) &&& 31))), (.int (Int32.ofNat (List.length bl))), (.ref d)])
  refine .st (fun _ => XS.i2b X180.here hx rfl (hb hby d39_24) rfl) ?_
  show OwnGo p e below s _ _ _ T180 (mkF m 25 _ [(.int ((xx >>> ((24 : Int32) &&& 31)).toInt8.toInt32)), (.int (Int32.ofNat (List.length bl))), (.ref d)])
  rw [← own_sz1 (x := ((xx >>> ((24 : Int32) &&& 31)).toInt8.toInt32))] at Fs
  obtain ⟨cl181, Ar181, -, S181, -, -, -⟩ := id V_d
  have lt181 : List.length bl < 256 := (by omega)
  have ix181 : (Int32.ofNat (List.length bl)) = (Int32.ofNat (List.length bl)) := rfl
  obtain ⟨T181, h181, X181, e181, W181, st181⟩ := stB X180 hx hZ e180 Ar181 (j := (Int32.ofNat (List.length bl))) (inb_of S181 (own_inb ix181 lt181 (by decide))) (g := (mkF m 25 #[.val (.ref o), .val (.int xx)] [(.int ((xx >>> ((24 : Int32) &&& 31)).toInt8.toInt32)), (.int (Int32.ofNat (List.length bl))), (.ref d)])) rfl rfl (hb hby d39_25)
  have V'181 : Arv Z h181 d kd .byte (256 : Int32) (List.map Value.int (bl ++ [((xx >>> ((24 : Int32) &&& 31)).toInt8.toInt32)])) (.int (0 : Int32)) := own_push V_d W181 ix181 (Nat.lt_trans lt181 (by decide)) (own_nb _)
  have E_o := E_o.wr W181
  have Fb := Fb.other W181 (Or.inl ne_o_d)
  have Fs := Fs.other W181 (Or.inl ne_o_d)
  have Kp := Kp.wr W181 (Or.inl (List.mem_of_getElem? (i := 1) rfl))
  have N181 := Fr.snoc X181 N180 g_d
  have Z_ : n0 ≤ h181.size := by rw [W181.size]; exact Z_
  have V_d := V'181
  refine .st st181 ?_
  show OwnGo p e below s _ _ _ T181 (mkF m 26 _ [])
  refine .aloadN X181 hx (hb hby d39_26) rfl rfl ?_
  obtain ⟨T182, X182, e182, st182⟩ := getF X181 hx hZ hown (host := "") (Or.inl (W_ hw 93 rfl)) Via.refl e181 Fb (g := (mkF m 27 #[.val (.ref o), .val (.int xx)] [(.ref o)])) rfl rfl (hb hby d39_27)
  refine .st st182 ?_
  show OwnGo p e below s _ _ _ T182 (mkF m 30 _ [(.ref d)])
  refine .aloadN X182 hx (hb hby d39_30) rfl rfl ?_
  refine .dup X182 hx (hb hby d39_31) rfl ?_
  obtain ⟨T183, X183, e183, st183⟩ := getF X182 hx hZ hown (host := "") (Or.inl (W_ hw 100 rfl)) Via.refl e182 Fs (g := (mkF m 32 #[.val (.ref o), .val (.int xx)] [(.ref o), (.ref o), (.ref d)])) rfl rfl (hb hby d39_32)
  refine .st st183 ?_
  show OwnGo p e below s _ _ _ T183 (mkF m 35 _ [(.int (Int32.ofNat (List.length (bl ++ [((xx >>> ((24 : Int32) &&& 31)).toInt8.toInt32)])))), (.ref o), (.ref d)])
  refine .st (fun _ => XS.dupX1 X183.here hx rfl (hb hby d39_35) rfl rfl rfl) ?_
  show OwnGo p e below s _ _ _ T183 (mkF m 36 _ [(.int (Int32.ofNat (List.length (bl ++ [((xx >>> ((24 : Int32) &&& 31)).toInt8.toInt32)])))), (.ref o), (.int (Int32.ofNat (List.length (bl ++ [((xx >>> ((24 : Int32) &&& 31)).toInt8.toInt32)])))), (.ref d)])
  refine .iconst X183 hx (hb hby d39_36) own_ki1 ?_
  refine .st (fun _ => XS.iadd X183.here hx rfl (hb hby d39_37) rfl) ?_
  show OwnGo p e below s _ _ _ T183 (mkF m 38 _ [(.int ((Int32.ofNat (List.length (bl ++ [((xx >>> ((24 : Int32) &&& 31)).toInt8.toInt32)]))) + (1 : Int32))), (.ref o), (.int (Int32.ofNat (List.length (bl ++ [((xx >>> ((24 : Int32) &&& 31)).toInt8.toInt32)])))), (.ref d)])
  obtain ⟨T184, h184, X184, e184, W184, st184⟩ := putF X183 hx hZ hown (host := "") (Or.inl (W_ hw 100 rfl)) Via.refl e183 Fs E_o (Or.inl (W_ hw 101 rfl)) (W_ hw 87 rfl) (ty := .int) (by decide) rfl rfl (g := (mkF m 38 #[.val (.ref o), .val (.int xx)] [(.int ((Int32.ofNat (List.length (bl ++ [((xx >>> ((24 : Int32) &&& 31)).toInt8.toInt32)]))) + (1 : Int32))), (.ref o), (.int (Int32.ofNat (List.length (bl ++ [((xx >>> ((24 : Int32) &&& 31)).toInt8.toInt32)])))), (.ref d)])) rfl rfl (hb hby d39_38)
  have E_o := E_o.wr W184
  have Fb := Fb.other W184 (Or.inr (slot_ne (Or.inl (W_ hw 94 rfl)) (Or.inl (W_ hw 101 rfl)) (by decide) (t := (.array .byte)) (t' := .int) (by decide) (by decide)))
  have Fs := Fs.same W184
  have V_d := V_d.other W184 (Ne.symm ne_o_d)
  have Kp := Kp.wr W184 (Or.inl (List.mem_of_getElem? (i := 0) rfl))
  have N184 := Fr.snoc X184 N181 g_o
  have Z_ : n0 ≤ h184.size := by rw [W184.size]; exact Z_
  refine .st st184 ?_
  show OwnGo p e below s _ _ _ T184 (mkF m 41 _ [(.int (Int32.ofNat (List.length (bl ++ [((xx >>> ((24 : Int32) &&& 31)).toInt8.toInt32)])))), (.ref d)])
  refine .iloadN X184 hx (hb hby d39_41) rfl ?_
  refine .bipush X184 hx (hb hby d39_42) own_kb16 ?_
  refine .st (fun _ => XS.ishr X184.here hx rfl (hb hby d39_44) rfl) ?_
  show OwnGo p e below s _ _ _ T184 (mkF m 45 _ [(.int (xx >>> ((16 : Int32) &&& 31))), (.int (Int32.ofNat (List.length (bl ++ [((xx >>> ((24 : Int32) &&& 31)).toInt8.toInt32)])))), (.ref d)])
  refine .st (fun _ => XS.i2b X184.here hx rfl (hb hby d39_45) rfl) ?_
  show OwnGo p e below s _ _ _ T184 (mkF m 46 _ [(.int ((xx >>> ((16 : Int32) &&& 31)).toInt8.toInt32)), (.int (Int32.ofNat (List.length (bl ++ [((xx >>> ((24 : Int32) &&& 31)).toInt8.toInt32)])))), (.ref d)])
  rw [← own_sz1 (x := ((xx >>> ((16 : Int32) &&& 31)).toInt8.toInt32))] at Fs
  obtain ⟨cl185, Ar185, -, S185, -, -, -⟩ := id V_d
  have lt185 : List.length (bl ++ [((xx >>> ((24 : Int32) &&& 31)).toInt8.toInt32)]) < 256 := (by simp only [List.length_append, List.length_cons, List.length_nil] <;> omega)
  have ix185 : (Int32.ofNat (List.length (bl ++ [((xx >>> ((24 : Int32) &&& 31)).toInt8.toInt32)]))) = (Int32.ofNat (List.length (bl ++ [((xx >>> ((24 : Int32) &&& 31)).toInt8.toInt32)]))) := rfl
  obtain ⟨T185, h185, X185, e185, W185, st185⟩ := stB X184 hx hZ e184 Ar185 (j := (Int32.ofNat (List.length (bl ++ [((xx >>> ((24 : Int32) &&& 31)).toInt8.toInt32)])))) (inb_of S185 (own_inb ix185 lt185 (by decide))) (g := (mkF m 46 #[.val (.ref o), .val (.int xx)] [(.int ((xx >>> ((16 : Int32) &&& 31)).toInt8.toInt32)), (.int (Int32.ofNat (List.length (bl ++ [((xx >>> ((24 : Int32) &&& 31)).toInt8.toInt32)])))), (.ref d)])) rfl rfl (hb hby d39_46)
  have V'185 : Arv Z h185 d kd .byte (256 : Int32) (List.map Value.int ((bl ++ [((xx >>> ((24 : Int32) &&& 31)).toInt8.toInt32)]) ++ [((xx >>> ((16 : Int32) &&& 31)).toInt8.toInt32)])) (.int (0 : Int32)) := own_push V_d W185 ix185 (Nat.lt_trans lt185 (by decide)) (own_nb _)
  have E_o := E_o.wr W185
  have Fb := Fb.other W185 (Or.inl ne_o_d)
  have Fs := Fs.other W185 (Or.inl ne_o_d)
  have Kp := Kp.wr W185 (Or.inl (List.mem_of_getElem? (i := 1) rfl))
  have N185 := Fr.snoc X185 N184 g_d
  have Z_ : n0 ≤ h185.size := by rw [W185.size]; exact Z_
  have V_d := V'185
  refine .st st185 ?_
  show OwnGo p e below s _ _ _ T185 (mkF m 47 _ [])
  refine .aloadN X185 hx (hb hby d39_47) rfl rfl ?_
  obtain ⟨T186, X186, e186, st186⟩ := getF X185 hx hZ hown (host := "") (Or.inl (W_ hw 93 rfl)) Via.refl e185 Fb (g := (mkF m 48 #[.val (.ref o), .val (.int xx)] [(.ref o)])) rfl rfl (hb hby d39_48)
  refine .st st186 ?_
  show OwnGo p e below s _ _ _ T186 (mkF m 51 _ [(.ref d)])
  refine .aloadN X186 hx (hb hby d39_51) rfl rfl ?_
  refine .dup X186 hx (hb hby d39_52) rfl ?_
  obtain ⟨T187, X187, e187, st187⟩ := getF X186 hx hZ hown (host := "") (Or.inl (W_ hw 100 rfl)) Via.refl e186 Fs (g := (mkF m 53 #[.val (.ref o), .val (.int xx)] [(.ref o), (.ref o), (.ref d)])) rfl rfl (hb hby d39_53)
  refine .st st187 ?_
  show OwnGo p e below s _ _ _ T187 (mkF m 56 _ [(.int (Int32.ofNat (List.length ((bl ++ [((xx >>> ((24 : Int32) &&& 31)).toInt8.toInt32)]) ++ [((xx >>> ((16 : Int32) &&& 31)).toInt8.toInt32)])))), (.ref o), (.ref d)])
  refine .st (fun _ => XS.dupX1 X187.here hx rfl (hb hby d39_56) rfl rfl rfl) ?_
  show OwnGo p e below s _ _ _ T187 (mkF m 57 _ [(.int (Int32.ofNat (List.length ((bl ++ [((xx >>> ((24 : Int32) &&& 31)).toInt8.toInt32)]) ++ [((xx >>> ((16 : Int32) &&& 31)).toInt8.toInt32)])))), (.ref o), (.int (Int32.ofNat (List.length ((bl ++ [((xx >>> ((24 : Int32) &&& 31)).toInt8.toInt32)]) ++ [((xx >>> ((16 : Int32) &&& 31)).toInt8.toInt32)])))), (.ref d)])
  refine .iconst X187 hx (hb hby d39_57) own_ki1 ?_
  refine .st (fun _ => XS.iadd X187.here hx rfl (hb hby d39_58) rfl) ?_
  show OwnGo p e below s _ _ _ T187 (mkF m 59 _ [(.int ((Int32.ofNat (List.length ((bl ++ [((xx >>> ((24 : Int32) &&& 31)).toInt8.toInt32)]) ++ [((xx >>> ((16 : Int32) &&& 31)).toInt8.toInt32)]))) + (1 : Int32))), (.ref o), (.int (Int32.ofNat (List.length ((bl ++ [((xx >>> ((24 : Int32) &&& 31)).toInt8.toInt32)]) ++ [((xx >>> ((16 : Int32) &&& 31)).toInt8.toInt32)])))), (.ref d)])
  obtain ⟨T188, h188, X188, e188, W188, st188⟩ := putF X187 hx hZ hown (host := "") (Or.inl (W_ hw 100 rfl)) Via.refl e187 Fs E_o (Or.inl (W_ hw 101 rfl)) (W_ hw 87 rfl) (ty := .int) (by decide) rfl rfl (g := (mkF m 59 #[.val (.ref o), .val (.int xx)] [(.int ((Int32.ofNat (List.length ((bl ++ [((xx >>> ((24 : Int32) &&& 31)).toInt8.toInt32)]) ++ [((xx >>> ((16 : Int32) &&& 31)).toInt8.toInt32)]))) + (1 : Int32))), (.ref o), (.int (Int32.ofNat (List.length ((bl ++ [((xx >>> ((24 : Int32) &&& 31)).toInt8.toInt32)]) ++ [((xx >>> ((16 : Int32) &&& 31)).toInt8.toInt32)])))), (.ref d)])) rfl rfl (hb hby d39_59)
  have E_o := E_o.wr W188
  have Fb := Fb.other W188 (Or.inr (slot_ne (Or.inl (W_ hw 94 rfl)) (Or.inl (W_ hw 101 rfl)) (by decide) (t := (.array .byte)) (t' := .int) (by decide) (by decide)))
  have Fs := Fs.same W188
  have V_d := V_d.other W188 (Ne.symm ne_o_d)
  have Kp := Kp.wr W188 (Or.inl (List.mem_of_getElem? (i := 0) rfl))
  have N188 := Fr.snoc X188 N185 g_o
  have Z_ : n0 ≤ h188.size := by rw [W188.size]; exact Z_
  refine .st st188 ?_
  show OwnGo p e below s _ _ _ T188 (mkF m 62 _ [(.int (Int32.ofNat (List.length ((bl ++ [((xx >>> ((24 : Int32) &&& 31)).toInt8.toInt32)]) ++ [((xx >>> ((16 : Int32) &&& 31)).toInt8.toInt32)])))), (.ref d)])
  refine .iloadN X188 hx (hb hby d39_62) rfl ?_
  refine .bipush X188 hx (hb hby d39_63) own_kb8 ?_
  refine .st (fun _ => XS.ishr X188.here hx rfl (hb hby d39_65) rfl) ?_
  show OwnGo p e below s _ _ _ T188 (mkF m 66 _ [(.int (xx >>> ((8 : Int32) &&& 31))), (.int (Int32.ofNat (List.length ((bl ++ [((xx >>> ((24 : Int32) &&& 31)).toInt8.toInt32)]) ++ [((xx >>> ((16 : Int32) &&& 31)).toInt8.toInt32)])))), (.ref d)])
  refine .st (fun _ => XS.i2b X188.here hx rfl (hb hby d39_66) rfl) ?_
  show OwnGo p e below s _ _ _ T188 (mkF m 67 _ [(.int ((xx >>> ((8 : Int32) &&& 31)).toInt8.toInt32)), (.int (Int32.ofNat (List.length ((bl ++ [((xx >>> ((24 : Int32) &&& 31)).toInt8.toInt32)]) ++ [((xx >>> ((16 : Int32) &&& 31)).toInt8.toInt32)])))), (.ref d)])
  rw [← own_sz1 (x := ((xx >>> ((8 : Int32) &&& 31)).toInt8.toInt32))] at Fs
  obtain ⟨cl189, Ar189, -, S189, -, -, -⟩ := id V_d
  have lt189 : List.length ((bl ++ [((xx >>> ((24 : Int32) &&& 31)).toInt8.toInt32)]) ++ [((xx >>> ((16 : Int32) &&& 31)).toInt8.toInt32)]) < 256 := (by simp only [List.length_append, List.length_cons, List.length_nil] <;> omega)
  have ix189 : (Int32.ofNat (List.length ((bl ++ [((xx >>> ((24 : Int32) &&& 31)).toInt8.toInt32)]) ++ [((xx >>> ((16 : Int32) &&& 31)).toInt8.toInt32)]))) = (Int32.ofNat (List.length ((bl ++ [((xx >>> ((24 : Int32) &&& 31)).toInt8.toInt32)]) ++ [((xx >>> ((16 : Int32) &&& 31)).toInt8.toInt32)]))) := rfl
  obtain ⟨T189, h189, X189, e189, W189, st189⟩ := stB X188 hx hZ e188 Ar189 (j := (Int32.ofNat (List.length ((bl ++ [((xx >>> ((24 : Int32) &&& 31)).toInt8.toInt32)]) ++ [((xx >>> ((16 : Int32) &&& 31)).toInt8.toInt32)])))) (inb_of S189 (own_inb ix189 lt189 (by decide))) (g := (mkF m 67 #[.val (.ref o), .val (.int xx)] [(.int ((xx >>> ((8 : Int32) &&& 31)).toInt8.toInt32)), (.int (Int32.ofNat (List.length ((bl ++ [((xx >>> ((24 : Int32) &&& 31)).toInt8.toInt32)]) ++ [((xx >>> ((16 : Int32) &&& 31)).toInt8.toInt32)])))), (.ref d)])) rfl rfl (hb hby d39_67)
  have V'189 : Arv Z h189 d kd .byte (256 : Int32) (List.map Value.int (((bl ++ [((xx >>> ((24 : Int32) &&& 31)).toInt8.toInt32)]) ++ [((xx >>> ((16 : Int32) &&& 31)).toInt8.toInt32)]) ++ [((xx >>> ((8 : Int32) &&& 31)).toInt8.toInt32)])) (.int (0 : Int32)) := own_push V_d W189 ix189 (Nat.lt_trans lt189 (by decide)) (own_nb _)
  have E_o := E_o.wr W189
  have Fb := Fb.other W189 (Or.inl ne_o_d)
  have Fs := Fs.other W189 (Or.inl ne_o_d)
  have Kp := Kp.wr W189 (Or.inl (List.mem_of_getElem? (i := 1) rfl))
  have N189 := Fr.snoc X189 N188 g_d
  have Z_ : n0 ≤ h189.size := by rw [W189.size]; exact Z_
  have V_d := V'189
  refine .st st189 ?_
  show OwnGo p e below s _ _ _ T189 (mkF m 68 _ [])
  refine .aloadN X189 hx (hb hby d39_68) rfl rfl ?_
  obtain ⟨T190, X190, e190, st190⟩ := getF X189 hx hZ hown (host := "") (Or.inl (W_ hw 93 rfl)) Via.refl e189 Fb (g := (mkF m 69 #[.val (.ref o), .val (.int xx)] [(.ref o)])) rfl rfl (hb hby d39_69)
  refine .st st190 ?_
  show OwnGo p e below s _ _ _ T190 (mkF m 72 _ [(.ref d)])
  refine .aloadN X190 hx (hb hby d39_72) rfl rfl ?_
  refine .dup X190 hx (hb hby d39_73) rfl ?_
  obtain ⟨T191, X191, e191, st191⟩ := getF X190 hx hZ hown (host := "") (Or.inl (W_ hw 100 rfl)) Via.refl e190 Fs (g := (mkF m 74 #[.val (.ref o), .val (.int xx)] [(.ref o), (.ref o), (.ref d)])) rfl rfl (hb hby d39_74)
  refine .st st191 ?_
  show OwnGo p e below s _ _ _ T191 (mkF m 77 _ [(.int (Int32.ofNat (List.length (((bl ++ [((xx >>> ((24 : Int32) &&& 31)).toInt8.toInt32)]) ++ [((xx >>> ((16 : Int32) &&& 31)).toInt8.toInt32)]) ++ [((xx >>> ((8 : Int32) &&& 31)).toInt8.toInt32)])))), (.ref o), (.ref d)])
  refine .st (fun _ => XS.dupX1 X191.here hx rfl (hb hby d39_77) rfl rfl rfl) ?_
  show OwnGo p e below s _ _ _ T191 (mkF m 78 _ [(.int (Int32.ofNat (List.length (((bl ++ [((xx >>> ((24 : Int32) &&& 31)).toInt8.toInt32)]) ++ [((xx >>> ((16 : Int32) &&& 31)).toInt8.toInt32)]) ++ [((xx >>> ((8 : Int32) &&& 31)).toInt8.toInt32)])))), (.ref o), (.int (Int32.ofNat (List.length (((bl ++ [((xx >>> ((24 : Int32) &&& 31)).toInt8.toInt32)]) ++ [((xx >>> ((16 : Int32) &&& 31)).toInt8.toInt32)]) ++ [((xx >>> ((8 : Int32) &&& 31)).toInt8.toInt32)])))), (.ref d)])
  refine .iconst X191 hx (hb hby d39_78) own_ki1 ?_
  refine .st (fun _ => XS.iadd X191.here hx rfl (hb hby d39_79) rfl) ?_
  show OwnGo p e below s _ _ _ T191 (mkF m 80 _ [(.int ((Int32.ofNat (List.length (((bl ++ [((xx >>> ((24 : Int32) &&& 31)).toInt8.toInt32)]) ++ [((xx >>> ((16 : Int32) &&& 31)).toInt8.toInt32)]) ++ [((xx >>> ((8 : Int32) &&& 31)).toInt8.toInt32)]))) + (1 : Int32))), (.ref o), (.int (Int32.ofNat (List.length (((bl ++ [((xx >>> ((24 : Int32) &&& 31)).toInt8.toInt32)]) ++ [((xx >>> ((16 : Int32) &&& 31)).toInt8.toInt32)]) ++ [((xx >>> ((8 : Int32) &&& 31)).toInt8.toInt32)])))), (.ref d)])
  obtain ⟨T192, h192, X192, e192, W192, st192⟩ := putF X191 hx hZ hown (host := "") (Or.inl (W_ hw 100 rfl)) Via.refl e191 Fs E_o (Or.inl (W_ hw 101 rfl)) (W_ hw 87 rfl) (ty := .int) (by decide) rfl rfl (g := (mkF m 80 #[.val (.ref o), .val (.int xx)] [(.int ((Int32.ofNat (List.length (((bl ++ [((xx >>> ((24 : Int32) &&& 31)).toInt8.toInt32)]) ++ [((xx >>> ((16 : Int32) &&& 31)).toInt8.toInt32)]) ++ [((xx >>> ((8 : Int32) &&& 31)).toInt8.toInt32)]))) + (1 : Int32))), (.ref o), (.int (Int32.ofNat (List.length (((bl ++ [((xx >>> ((24 : Int32) &&& 31)).toInt8.toInt32)]) ++ [((xx >>> ((16 : Int32) &&& 31)).toInt8.toInt32)]) ++ [((xx >>> ((8 : Int32) &&& 31)).toInt8.toInt32)])))), (.ref d)])) rfl rfl (hb hby d39_80)
  have E_o := E_o.wr W192
  have Fb := Fb.other W192 (Or.inr (slot_ne (Or.inl (W_ hw 94 rfl)) (Or.inl (W_ hw 101 rfl)) (by decide) (t := (.array .byte)) (t' := .int) (by decide) (by decide)))
  have Fs := Fs.same W192
  have V_d := V_d.other W192 (Ne.symm ne_o_d)
  have Kp := Kp.wr W192 (Or.inl (List.mem_of_getElem? (i := 0) rfl))
  have N192 := Fr.snoc X192 N189 g_o
  have Z_ : n0 ≤ h192.size := by rw [W192.size]; exact Z_
  refine .st st192 ?_
  show OwnGo p e below s _ _ _ T192 (mkF m 83 _ [(.int (Int32.ofNat (List.length (((bl ++ [((xx >>> ((24 : Int32) &&& 31)).toInt8.toInt32)]) ++ [((xx >>> ((16 : Int32) &&& 31)).toInt8.toInt32)]) ++ [((xx >>> ((8 : Int32) &&& 31)).toInt8.toInt32)])))), (.ref d)])
  refine .iloadN X192 hx (hb hby d39_83) rfl ?_
  refine .st (fun _ => XS.i2b X192.here hx rfl (hb hby d39_84) rfl) ?_
  show OwnGo p e below s _ _ _ T192 (mkF m 85 _ [(.int (xx.toInt8.toInt32)), (.int (Int32.ofNat (List.length (((bl ++ [((xx >>> ((24 : Int32) &&& 31)).toInt8.toInt32)]) ++ [((xx >>> ((16 : Int32) &&& 31)).toInt8.toInt32)]) ++ [((xx >>> ((8 : Int32) &&& 31)).toInt8.toInt32)])))), (.ref d)])
  rw [← own_sz1 (x := (xx.toInt8.toInt32))] at Fs
  obtain ⟨cl193, Ar193, -, S193, -, -, -⟩ := id V_d
  have lt193 : List.length (((bl ++ [((xx >>> ((24 : Int32) &&& 31)).toInt8.toInt32)]) ++ [((xx >>> ((16 : Int32) &&& 31)).toInt8.toInt32)]) ++ [((xx >>> ((8 : Int32) &&& 31)).toInt8.toInt32)]) < 256 := (by simp only [List.length_append, List.length_cons, List.length_nil] <;> omega)
  have ix193 : (Int32.ofNat (List.length (((bl ++ [((xx >>> ((24 : Int32) &&& 31)).toInt8.toInt32)]) ++ [((xx >>> ((16 : Int32) &&& 31)).toInt8.toInt32)]) ++ [((xx >>> ((8 : Int32) &&& 31)).toInt8.toInt32)]))) = (Int32.ofNat (List.length (((bl ++ [((xx >>> ((24 : Int32) &&& 31)).toInt8.toInt32)]) ++ [((xx >>> ((16 : Int32) &&& 31)).toInt8.toInt32)]) ++ [((xx >>> ((8 : Int32) &&& 31)).toInt8.toInt32)]))) := rfl
  obtain ⟨T193, h193, X193, e193, W193, st193⟩ := stB X192 hx hZ e192 Ar193 (j := (Int32.ofNat (List.length (((bl ++ [((xx >>> ((24 : Int32) &&& 31)).toInt8.toInt32)]) ++ [((xx >>> ((16 : Int32) &&& 31)).toInt8.toInt32)]) ++ [((xx >>> ((8 : Int32) &&& 31)).toInt8.toInt32)])))) (inb_of S193 (own_inb ix193 lt193 (by decide))) (g := (mkF m 85 #[.val (.ref o), .val (.int xx)] [(.int (xx.toInt8.toInt32)), (.int (Int32.ofNat (List.length (((bl ++ [((xx >>> ((24 : Int32) &&& 31)).toInt8.toInt32)]) ++ [((xx >>> ((16 : Int32) &&& 31)).toInt8.toInt32)]) ++ [((xx >>> ((8 : Int32) &&& 31)).toInt8.toInt32)])))), (.ref d)])) rfl rfl (hb hby d39_85)
  have V'193 : Arv Z h193 d kd .byte (256 : Int32) (List.map Value.int ((((bl ++ [((xx >>> ((24 : Int32) &&& 31)).toInt8.toInt32)]) ++ [((xx >>> ((16 : Int32) &&& 31)).toInt8.toInt32)]) ++ [((xx >>> ((8 : Int32) &&& 31)).toInt8.toInt32)]) ++ [(xx.toInt8.toInt32)])) (.int (0 : Int32)) := own_push V_d W193 ix193 (Nat.lt_trans lt193 (by decide)) (own_nb _)
  have E_o := E_o.wr W193
  have Fb := Fb.other W193 (Or.inl ne_o_d)
  have Fs := Fs.other W193 (Or.inl ne_o_d)
  have Kp := Kp.wr W193 (Or.inl (List.mem_of_getElem? (i := 1) rfl))
  have N193 := Fr.snoc X193 N192 g_d
  have Z_ : n0 ≤ h193.size := by rw [W193.size]; exact Z_
  have V_d := V'193
  refine .st st193 ?_
  show OwnGo p e below s _ _ _ T193 (mkF m 86 _ [])
  simp only [List.append_assoc, List.cons_append, List.nil_append] at Fs V_d
  exact OwnGo.retV X193 hx hret hlk (hb hby d39_86) (by show QwriteInt Z o d kd bl xx h0 n0 _ T193.heap _; rw [e193]; exact ⟨rfl, N193, Kp, Fb, Fs, V_d⟩) (by decide) (by decide)
def Qwl (Z : State) (o : Addr) (d : Addr) (kd : ClassId) (bl : List Int32) (vv : Int64) (h0 : Heap) (n0 : Nat) (v : Option Value) (h : Heap) (L : List Loc) : Prop := v = none ∧ Fr n0 L ∧ Keep h0 h [o, d] ∧ Fld Z h o "com/example/cofferhand/cofferhand/nbt/NbtWriter" "buffer" "[B" (.ref d) ∧ Fld Z h o "com/example/cofferhand/cofferhand/nbt/NbtWriter" "size" "I" (.int (Int32.ofNat (List.length (bl ++ [(((vv >>> ((32 : Int32) &&& 0x3f).toInt64).toInt32) >>> ((24 : Int32) &&& 31)).toInt8.toInt32, (((vv >>> ((32 : Int32) &&& 0x3f).toInt64).toInt32) >>> ((16 : Int32) &&& 31)).toInt8.toInt32, (((vv >>> ((32 : Int32) &&& 0x3f).toInt64).toInt32) >>> ((8 : Int32) &&& 31)).toInt8.toInt32, ((vv >>> ((32 : Int32) &&& 0x3f).toInt64).toInt32).toInt8.toInt32, ((vv.toInt32) >>> ((24 : Int32) &&& 31)).toInt8.toInt32, ((vv.toInt32) >>> ((16 : Int32) &&& 31)).toInt8.toInt32, ((vv.toInt32) >>> ((8 : Int32) &&& 31)).toInt8.toInt32, (vv.toInt32).toInt8.toInt32])))) ∧ Arv Z h d kd .byte (256 : Int32) (List.map Value.int (bl ++ [(((vv >>> ((32 : Int32) &&& 0x3f).toInt64).toInt32) >>> ((24 : Int32) &&& 31)).toInt8.toInt32, (((vv >>> ((32 : Int32) &&& 0x3f).toInt64).toInt32) >>> ((16 : Int32) &&& 31)).toInt8.toInt32, (((vv >>> ((32 : Int32) &&& 0x3f).toInt64).toInt32) >>> ((8 : Int32) &&& 31)).toInt8.toInt32, ((vv >>> ((32 : Int32) &&& 0x3f).toInt64).toInt32).toInt8.toInt32, ((vv.toInt32) >>> ((24 : Int32) &&& 31)).toInt8.toInt32, ((vv.toInt32) >>> ((16 : Int32) &&& 31)).toInt8.toInt32, ((vv.toInt32) >>> ((8 : Int32) &&& 31)).toInt8.toInt32, (vv.toInt32).toInt8.toInt32])) (.int (0 : Int32))
theorem rmwl (l : Launch) (Z : State) (a0 : Array Value) (hw : own_tb a0 Z) (ws : List Jvm.Cond) (o : Addr) (d : Addr) (kd : ClassId) (bl : List Int32) (vv : Int64) (h0 : Heap) (n0 : Nat) (Z0 : n0 ≤ h0.size) (E_o : Exa Z h0 o "com/example/cofferhand/cofferhand/nbt/NbtWriter") (Fb : Fld Z h0 o "com/example/cofferhand/cofferhand/nbt/NbtWriter" "buffer" "[B" (.ref d)) (Fs : Fld Z h0 o "com/example/cofferhand/cofferhand/nbt/NbtWriter" "size" "I" (.int (Int32.ofNat (List.length bl)))) (V_d : Arv Z h0 d kd .byte (256 : Int32) (List.map Value.int bl) (.int (0 : Int32))) (g_o : n0 ≤ o) (g_d : n0 ≤ d) (ne_o_d : o ≠ d) (hl : List.length bl + 8 ≤ 256) :
    OwnMet l (⟨"com/example/cofferhand/cofferhand/nbt/NbtWriter", "writeLong", "(J)V"⟩ : MethodName) prog_41_method_9_code 3 none ws ({ frames := 2, cells := 0, slots := 0, locals := 28 } : Room) #[(.ref o), (.long vv)] Z h0 (Qwl Z o d kd bl vv h0 n0) := by
  refine own_met (plainFor_of_name pn_24) ?_
  intro p e s m below meth c s₁ X0 hx hby hml hret hlk hown hnm hZ e0
  have N0 := Fr.nil n0
  have Z_ := Z0
  refine OwnGo.cast (ef_wl m o vv) ?_
  show OwnGo p e below s _ _ _ s₁ (mkF m 0 _ [])
  have Kp : Keep h0 h0 [o, d] := Keep.refl h0 [o, d]
  refine .aloadN X0 hx (hb hby d38_0) rfl rfl ?_
  refine .st (fun _ => XS.lloadN X0.here hx rfl (hb hby d38_1) rfl) ?_
  show OwnGo p e below s _ _ _ s₁ (mkF m 2 _ [(.long vv), (.ref o)])
  refine .bipush X0 hx (hb hby d38_2) own_kb32 ?_
  refine .st (fun _ => XS.lshr X0.here hx rfl (hb hby d38_4) rfl) ?_
  show OwnGo p e below s _ _ _ s₁ (mkF m 5 _ [(.long (vv >>> ((32 : Int32) &&& 0x3f).toInt64)), (.ref o)])
  refine .st (fun _ => XS.l2i X0.here hx rfl (hb hby d38_5) rfl) ?_
  show OwnGo p e below s _ _ _ s₁ (mkF m 6 _ [(.int ((vv >>> ((32 : Int32) &&& 0x3f).toInt64).toInt32)), (.ref o)])
  obtain ⟨cq194, q194, q194'⟩ := E_o.cell
  obtain ⟨_, _, ⟨T194, L194, k194, n194⟩, -, X194, ⟨Lc194, hQ194, l194, y194, z194⟩, st194⟩ := X0.privateBack hx (y := (⟨"com/example/cofferhand/cofferhand/nbt/NbtWriter", "writeInt", "(I)V"⟩ : MethodName)) hown (mvT hZ (W_ hw 215 rfl)) (mvT hZ (W_ hw 216 rfl)) (own_selp (z := (⟨"com/example/cofferhand/cofferhand/nbt/NbtWriter", "toByteArray", "()[B"⟩ : MethodName)) (mvT hZ (W_ hw 98 rfl)) rfl (Cond.privateMethod_at (mvP hZ (W_ hw 217 rfl) (args := #[]))) (mvT hZ (W_ hw 216 rfl)) (by decide)) (Cond.privateMethod_at (mvP hZ (W_ hw 217 rfl) (args := #[]))) (mvT hZ (W_ hw 218 rfl)) (by decide) (backOf (W := 0) (rmwriteInt l Z a0 hw [] o d kd bl ((vv >>> ((32 : Int32) &&& 0x3f).toInt64).toInt32) h0 n0 Z_ E_o Fb Fs V_d g_o g_d ne_o_d (by omega)) hZ (W_ hw 218 rfl) (W_ hw 88 rfl) (by decide) (by decide)) (g := (mkF m 6 #[.val (.ref o), .val (.long vv), .second] [(.int ((vv >>> ((32 : Int32) &&& 0x3f).toInt64).toInt32)), (.ref o)])) rfl (by rw [hml]; rfl) (Steps.refl _) (a := o) (by rw [e0]; exact q194) q194' (argsL := [(.int ((vv >>> ((32 : Int32) &&& 0x3f).toInt64).toInt32))]) (rest := []) (lenOf pd_20 rfl) rfl (Nat.le_of_eq rfl) (hb hby d38_6) (fun _ _ => ⟨rfl, e0, (by decide : 0 + 0 ≤ _), (by decide : 0 + 0 ≤ _)⟩)
  dsimp only [Pt.U, Pt.locs, Pt.cells, Pt.slots] at X194 l194 y194 z194 st194 hQ194
  subst y194 z194
  obtain ⟨rfl, N194q, K194, Fb194, Fs194, V194⟩ := hQ194
  have N194 := own_frl l194 N0 N194q
  have Z_ : n0 ≤ T194.heap.size := Nat.le_trans Z_ K194.1
  have E_o := E_o.keep K194
  have Kp := Kp.trans K194 (allS (Or.inl (List.mem_of_getElem? (i := 0) rfl)) (allS (Or.inl (List.mem_of_getElem? (i := 1) rfl)) all0))
  have Fb := Fb194
  have Fs := Fs194
  have V_d := V194
  refine .st (fun _ => st194.trans) ?_
  show OwnGo p e below s _ _ _ T194 (mkF m 9 _ [])
  refine .aloadN X194 hx (hb hby d38_9) rfl rfl ?_
  refine .st (fun _ => XS.lloadN X194.here hx rfl (hb hby d38_10) rfl) ?_
  show OwnGo p e below s _ _ _ T194 (mkF m 11 _ [(.long vv), (.ref o)])
  refine .st (fun _ => XS.l2i X194.here hx rfl (hb hby d38_11) rfl) ?_
  show OwnGo p e below s _ _ _ T194 (mkF m 12 _ [(.int (vv.toInt32)), (.ref o)])
  obtain ⟨cq195, q195, q195'⟩ := E_o.cell
  obtain ⟨_, _, ⟨T195, L195, k195, n195⟩, -, X195, ⟨Lc195, hQ195, l195, y195, z195⟩, st195⟩ := X194.privateBack hx (y := (⟨"com/example/cofferhand/cofferhand/nbt/NbtWriter", "writeInt", "(I)V"⟩ : MethodName)) hown (mvT hZ (W_ hw 215 rfl)) (mvT hZ (W_ hw 216 rfl)) (own_selp (z := (⟨"com/example/cofferhand/cofferhand/nbt/NbtWriter", "toByteArray", "()[B"⟩ : MethodName)) (mvT hZ (W_ hw 98 rfl)) rfl (Cond.privateMethod_at (mvP hZ (W_ hw 217 rfl) (args := #[]))) (mvT hZ (W_ hw 216 rfl)) (by decide)) (Cond.privateMethod_at (mvP hZ (W_ hw 217 rfl) (args := #[]))) (mvT hZ (W_ hw 218 rfl)) (by decide) (backOf (W := 0) (rmwriteInt l Z a0 hw [] o d kd (bl ++ [(((vv >>> ((32 : Int32) &&& 0x3f).toInt64).toInt32) >>> ((24 : Int32) &&& 31)).toInt8.toInt32, (((vv >>> ((32 : Int32) &&& 0x3f).toInt64).toInt32) >>> ((16 : Int32) &&& 31)).toInt8.toInt32, (((vv >>> ((32 : Int32) &&& 0x3f).toInt64).toInt32) >>> ((8 : Int32) &&& 31)).toInt8.toInt32, ((vv >>> ((32 : Int32) &&& 0x3f).toInt64).toInt32).toInt8.toInt32]) (vv.toInt32) T194.heap n0 Z_ E_o Fb Fs V_d g_o g_d ne_o_d (by simp only [List.length_append, List.length_cons, List.length_nil] <;> omega)) hZ (W_ hw 218 rfl) (W_ hw 88 rfl) (by decide) (by decide)) (g := (mkF m 12 #[.val (.ref o), .val (.long vv), .second] [(.int (vv.toInt32)), (.ref o)])) rfl (by rw [hml]; rfl) (Steps.refl _) (a := o) q195 q195' (argsL := [(.int (vv.toInt32))]) (rest := []) (lenOf pd_20 rfl) rfl (Nat.le_of_eq rfl) (hb hby d38_12) (fun _ _ => ⟨rfl, rfl, (by decide : 0 + 0 ≤ _), (by decide : 0 + 0 ≤ _)⟩)
  dsimp only [Pt.U, Pt.locs, Pt.cells, Pt.slots] at X195 l195 y195 z195 st195 hQ195
  subst y195 z195
  obtain ⟨rfl, N195q, K195, Fb195, Fs195, V195⟩ := hQ195
  have N195 := own_frl l195 N194 N195q
  have Z_ : n0 ≤ T195.heap.size := Nat.le_trans Z_ K195.1
  have E_o := E_o.keep K195
  have Kp := Kp.trans K195 (allS (Or.inl (List.mem_of_getElem? (i := 0) rfl)) (allS (Or.inl (List.mem_of_getElem? (i := 1) rfl)) all0))
  have Fb := Fb195
  have Fs := Fs195
  have V_d := V195
  refine .st (fun _ => st195.trans) ?_
  show OwnGo p e below s _ _ _ T195 (mkF m 15 _ [])
  simp only [List.append_assoc, List.cons_append, List.nil_append] at Fs V_d
  exact OwnGo.retV X195 hx hret hlk (hb hby d38_15) (by show Qwl Z o d kd bl vv h0 n0 _ T195.heap _; exact ⟨rfl, N195, Kp, Fb, Fs, V_d⟩) (by decide) (by decide)
def Qenc (Z : State) (x : Addr) (t : Addr) (kb : ClassId) (cl : List Int32) (d : Addr) (kd : ClassId) (bl : List Int32) (zc : Int32) (fmv : Value) (h0 : Heap) (n0 : Nat) (v : Option Value) (h : Heap) (L : List Loc) : Prop := v = some (.int (Int32.ofNat (List.length (bl ++ own_encs cl)))) ∧ Fr n0 L ∧ Keep h0 h [d] ∧ Arv Z h d kd .byte (256 : Int32) (List.map Value.int (bl ++ own_encs cl)) (.int (0 : Int32))
theorem sg_encC {p : Program} {l : Launch} {e : Env} {R : Room} {s : State} {m : MethodId} {args : Array Value} {below : List Frame} {meth : Method} {c : Code} {Z T0 : State} {a0 : Array Value} {locs : List Loc} {cells slots rc rs n0 : Nat} {Q : Option Value → Heap → List Loc → Prop} {h1 : Heap} {x d : Addr} {kd : ClassId} {bl : List Int32} {a2 i4 cc : Int32} (hw : own_tb a0 Z) (X0 : Stand p l e R s m args below meth c T0 locs cells slots) (hx : p.tables.exec = Jvm.exec) (hby : c.code = prog_32_method_5_code) (hZ : Z.Warmed39 s.vm) (e0 : T0.heap = h1) (N0 : Fr n0 locs) (Z_ : n0 ≤ h1.size) (V_d : Arv Z h1 d kd .byte (256 : Int32) (List.map Value.int bl) (.int (0 : Int32))) (g_d : n0 ≤ d) (hl : List.length bl < 240)
    (hk : ∀ (T1 : State) (h2 : Heap) (L1 : List Loc), Stand p l e R s m args below meth c T1 L1 cells slots → T1.heap = h2 → Fr n0 L1 → n0 ≤ h2.size → Keep h1 h2 [d] → Arv Z h2 d kd .byte (256 : Int32) (List.map Value.int (bl ++ own_enc cc)) (.int (0 : Int32)) → OwnGo p e below s rc rs Q T1 (mkF m 141 #[.val (.ref x), .val (.ref d), .val (.int a2), .val (.int (Int32.ofNat (List.length (bl ++ own_enc cc)))), .val (.int i4), .val (.int cc)] [])) :
    OwnGo p e below s rc rs Q T0 (mkF m 22 #[.val (.ref x), .val (.ref d), .val (.int a2), .val (.int (Int32.ofNat (List.length bl))), .val (.int i4), .val (.int cc)] []) := by
  have Kp : Keep h1 h1 [d] := Keep.refl h1 [d]
  refine OwnGo.join (T1 := T0) (P := fun z_ : Int32 => cc = (0 : Int32) ∨ ¬ cc < (128 : Int32)) (f := fun z_ : Int32 => mkF m 47 #[.val (.ref x), .val (.ref d), .val (.int a2), .val (.int (Int32.ofNat (List.length bl))), .val (.int i4), .val (.int cc)] []) ?_ ?_
  · intro z_ hz
    obtain ⟨un_, hz_⟩ : ∃ u : Int32, u = z_ := ⟨_, rfl⟩
    subst hz_
    replace hz : cc = (0 : Int32) ∨ ¬ cc < (128 : Int32) := hz
    show OwnGo p e below s _ _ _ T0 (mkF m 47 #[.val (.ref x), .val (.ref d), .val (.int a2), .val (.int (Int32.ofNat (List.length bl))), .val (.int i4), .val (.int cc)] [])
    refine .iload X0 hx (hb hby d34_47) rfl ?_
    refine .sipush X0 hx (hb hby d34_49) own_ks2048 ?_
    by_cases q2 : cc < (2048 : Int32)
    · refine .icmpNo X0 hx (hb hby d34_52) (tlt (q2 : cc < (2048 : Int32))).2.1 ?_
      refine .aloadN X0 hx (hb hby d34_55) rfl rfl ?_
      refine .iloadN X0 hx (hb hby d34_56) rfl ?_
      refine .iinc X0 hx (hb hby d34_57) rfl rfl (L' := #[.val (.ref x), .val (.ref d), .val (.int a2), .val (.int ((Int32.ofNat (List.length bl)) + (1 : Int32))), .val (.int i4), .val (.int cc)]) rfl ?_
      refine .sipush X0 hx (hb hby d34_60) own_ks192 ?_
      refine .iload X0 hx (hb hby d34_63) rfl ?_
      refine .bipush X0 hx (hb hby d34_65) own_kb6 ?_
      refine .st (fun _ => XS.ishr X0.here hx rfl (hb hby d34_67) rfl) ?_
      show OwnGo p e below s _ _ _ T0 (mkF m 68 _ [(.int (cc >>> ((6 : Int32) &&& 31))), (.int (192 : Int32)), (.int (Int32.ofNat (List.length bl))), (.ref d)])
      refine .st (fun _ => XS.ior X0.here hx rfl (hb hby d34_68) rfl) ?_
      show OwnGo p e below s _ _ _ T0 (mkF m 69 _ [(.int ((192 : Int32) ||| (cc >>> ((6 : Int32) &&& 31)))), (.int (Int32.ofNat (List.length bl))), (.ref d)])
      refine .st (fun _ => XS.i2b X0.here hx rfl (hb hby d34_69) rfl) ?_
      show OwnGo p e below s _ _ _ T0 (mkF m 70 _ [(.int (((192 : Int32) ||| (cc >>> ((6 : Int32) &&& 31))).toInt8.toInt32)), (.int (Int32.ofNat (List.length bl))), (.ref d)])
      obtain ⟨cl197, Ar197, -, S197, -, -, -⟩ := id V_d
      have lt197 : List.length bl < 256 := (by omega)
      have ix197 : (Int32.ofNat (List.length bl)) = (Int32.ofNat (List.length bl)) := rfl
      obtain ⟨T197, h197, X197, e197, W197, st197⟩ := stB X0 hx hZ e0 Ar197 (j := (Int32.ofNat (List.length bl))) (inb_of S197 (own_inb ix197 lt197 (by decide))) (g := (mkF m 70 #[.val (.ref x), .val (.ref d), .val (.int a2), .val (.int ((Int32.ofNat (List.length bl)) + (1 : Int32))), .val (.int i4), .val (.int cc)] [(.int (((192 : Int32) ||| (cc >>> ((6 : Int32) &&& 31))).toInt8.toInt32)), (.int (Int32.ofNat (List.length bl))), (.ref d)])) rfl rfl (hb hby d34_70)
      have V'197 : Arv Z h197 d kd .byte (256 : Int32) (List.map Value.int (bl ++ [(((192 : Int32) ||| (cc >>> ((6 : Int32) &&& 31))).toInt8.toInt32)])) (.int (0 : Int32)) := own_push V_d W197 ix197 (Nat.lt_trans lt197 (by decide)) (own_nb _)
      have Kp := Kp.wr W197 (Or.inl (List.mem_of_getElem? (i := 0) rfl))
      have N197 := Fr.snoc X197 N0 g_d
      have Z_ : n0 ≤ h197.size := by rw [W197.size]; exact Z_
      have V_d := V'197
      refine .st st197 ?_
      show OwnGo p e below s _ _ _ T197 (mkF m 71 _ [])
      refine .aloadN X197 hx (hb hby d34_71) rfl rfl ?_
      refine .iloadN X197 hx (hb hby d34_72) rfl ?_
      refine .iinc X197 hx (hb hby d34_73) rfl rfl (L' := #[.val (.ref x), .val (.ref d), .val (.int a2), .val (.int (((Int32.ofNat (List.length bl)) + (1 : Int32)) + (1 : Int32))), .val (.int i4), .val (.int cc)]) rfl ?_
      refine .sipush X197 hx (hb hby d34_76) own_ks128 ?_
      refine .iload X197 hx (hb hby d34_79) rfl ?_
      refine .bipush X197 hx (hb hby d34_81) own_kb63 ?_
      refine .st (fun _ => XS.iand X197.here hx rfl (hb hby d34_83) rfl) ?_
      show OwnGo p e below s _ _ _ T197 (mkF m 84 _ [(.int (cc &&& (63 : Int32))), (.int (128 : Int32)), (.int ((Int32.ofNat (List.length bl)) + (1 : Int32))), (.ref d)])
      refine .st (fun _ => XS.ior X197.here hx rfl (hb hby d34_84) rfl) ?_
      show OwnGo p e below s _ _ _ T197 (mkF m 85 _ [(.int ((128 : Int32) ||| (cc &&& (63 : Int32)))), (.int ((Int32.ofNat (List.length bl)) + (1 : Int32))), (.ref d)])
      refine .st (fun _ => XS.i2b X197.here hx rfl (hb hby d34_85) rfl) ?_
      show OwnGo p e below s _ _ _ T197 (mkF m 86 _ [(.int (((128 : Int32) ||| (cc &&& (63 : Int32))).toInt8.toInt32)), (.int ((Int32.ofNat (List.length bl)) + (1 : Int32))), (.ref d)])
      obtain ⟨cl198, Ar198, -, S198, -, -, -⟩ := id V_d
      have lt198 : List.length (bl ++ [(((192 : Int32) ||| (cc >>> ((6 : Int32) &&& 31))).toInt8.toInt32)]) < 256 := (by simp only [List.length_append, List.length_cons, List.length_nil] <;> omega)
      have ix198 : ((Int32.ofNat (List.length bl)) + (1 : Int32)) = (Int32.ofNat (List.length (bl ++ [(((192 : Int32) ||| (cc >>> ((6 : Int32) &&& 31))).toInt8.toInt32)]))) := (by rw [own_sz1])
      obtain ⟨T198, h198, X198, e198, W198, st198⟩ := stB X197 hx hZ e197 Ar198 (j := ((Int32.ofNat (List.length bl)) + (1 : Int32))) (inb_of S198 (own_inb ix198 lt198 (by decide))) (g := (mkF m 86 #[.val (.ref x), .val (.ref d), .val (.int a2), .val (.int (((Int32.ofNat (List.length bl)) + (1 : Int32)) + (1 : Int32))), .val (.int i4), .val (.int cc)] [(.int (((128 : Int32) ||| (cc &&& (63 : Int32))).toInt8.toInt32)), (.int ((Int32.ofNat (List.length bl)) + (1 : Int32))), (.ref d)])) rfl rfl (hb hby d34_86)
      have V'198 : Arv Z h198 d kd .byte (256 : Int32) (List.map Value.int ((bl ++ [(((192 : Int32) ||| (cc >>> ((6 : Int32) &&& 31))).toInt8.toInt32)]) ++ [(((128 : Int32) ||| (cc &&& (63 : Int32))).toInt8.toInt32)])) (.int (0 : Int32)) := own_push V_d W198 ix198 (Nat.lt_trans lt198 (by decide)) (own_nb _)
      have Kp := Kp.wr W198 (Or.inl (List.mem_of_getElem? (i := 0) rfl))
      have N198 := Fr.snoc X198 N197 g_d
      have Z_ : n0 ≤ h198.size := by rw [W198.size]; exact Z_
      have V_d := V'198
      refine .st st198 ?_
      show OwnGo p e below s _ _ _ T198 (mkF m 87 _ [])
      refine .goto (pc := 87) X198 hx 141 (hb hby d34_87) (by decide) (by decide) ?_
      have eL : (((Int32.ofNat (List.length bl)) + (1 : Int32)) + (1 : Int32)) = (Int32.ofNat (List.length (bl ++ own_enc cc))) := by rw [List.length_append, (own_enc2 hz q2)]; exact own_e2 _
      rw [eL]
      exact hk _ _ _ X198 e198 N198 Z_ Kp (by rw [(own_enc2 hz q2)]; simp only [List.append_assoc, List.cons_append, List.nil_append] at V_d; exact V_d)
    · refine .icmpYes (pc := 52) X0 hx 90 (hb hby d34_52) (flt (q2 : ¬ (cc < (2048 : Int32)))).2.1 (by decide) (by decide) ?_
      refine .aloadN X0 hx (hb hby d34_90) rfl rfl ?_
      refine .iloadN X0 hx (hb hby d34_91) rfl ?_
      refine .iinc X0 hx (hb hby d34_92) rfl rfl (L' := #[.val (.ref x), .val (.ref d), .val (.int a2), .val (.int ((Int32.ofNat (List.length bl)) + (1 : Int32))), .val (.int i4), .val (.int cc)]) rfl ?_
      refine .sipush X0 hx (hb hby d34_95) own_ks224 ?_
      refine .iload X0 hx (hb hby d34_98) rfl ?_
      refine .bipush X0 hx (hb hby d34_100) own_kb12 ?_
      refine .st (fun _ => XS.ishr X0.here hx rfl (hb hby d34_102) rfl) ?_
      show OwnGo p e below s _ _ _ T0 (mkF m 103 _ [(.int (cc >>> ((12 : Int32) &&& 31))), (.int (224 : Int32)), (.int (Int32.ofNat (List.length bl))), (.ref d)])
      refine .st (fun _ => XS.ior X0.here hx rfl (hb hby d34_103) rfl) ?_
      show OwnGo p e below s _ _ _ T0 (mkF m 104 _ [(.int ((224 : Int32) ||| (cc >>> ((12 : Int32) &&& 31)))), (.int (Int32.ofNat (List.length bl))), (.ref d)])
      refine .st (fun _ => XS.i2b X0.here hx rfl (hb hby d34_104) rfl) ?_
      show OwnGo p e below s _ _ _ T0 (mkF m 105 _ [(.int (((224 : Int32) ||| (cc >>> ((12 : Int32) &&& 31))).toInt8.toInt32)), (.int (Int32.ofNat (List.length bl))), (.ref d)])
      obtain ⟨cl199, Ar199, -, S199, -, -, -⟩ := id V_d
      have lt199 : List.length bl < 256 := (by omega)
      have ix199 : (Int32.ofNat (List.length bl)) = (Int32.ofNat (List.length bl)) := rfl
      obtain ⟨T199, h199, X199, e199, W199, st199⟩ := stB X0 hx hZ e0 Ar199 (j := (Int32.ofNat (List.length bl))) (inb_of S199 (own_inb ix199 lt199 (by decide))) (g := (mkF m 105 #[.val (.ref x), .val (.ref d), .val (.int a2), .val (.int ((Int32.ofNat (List.length bl)) + (1 : Int32))), .val (.int i4), .val (.int cc)] [(.int (((224 : Int32) ||| (cc >>> ((12 : Int32) &&& 31))).toInt8.toInt32)), (.int (Int32.ofNat (List.length bl))), (.ref d)])) rfl rfl (hb hby d34_105)
      have V'199 : Arv Z h199 d kd .byte (256 : Int32) (List.map Value.int (bl ++ [(((224 : Int32) ||| (cc >>> ((12 : Int32) &&& 31))).toInt8.toInt32)])) (.int (0 : Int32)) := own_push V_d W199 ix199 (Nat.lt_trans lt199 (by decide)) (own_nb _)
      have Kp := Kp.wr W199 (Or.inl (List.mem_of_getElem? (i := 0) rfl))
      have N199 := Fr.snoc X199 N0 g_d
      have Z_ : n0 ≤ h199.size := by rw [W199.size]; exact Z_
      have V_d := V'199
      refine .st st199 ?_
      show OwnGo p e below s _ _ _ T199 (mkF m 106 _ [])
      refine .aloadN X199 hx (hb hby d34_106) rfl rfl ?_
      refine .iloadN X199 hx (hb hby d34_107) rfl ?_
      refine .iinc X199 hx (hb hby d34_108) rfl rfl (L' := #[.val (.ref x), .val (.ref d), .val (.int a2), .val (.int (((Int32.ofNat (List.length bl)) + (1 : Int32)) + (1 : Int32))), .val (.int i4), .val (.int cc)]) rfl ?_
      refine .sipush X199 hx (hb hby d34_111) own_ks128 ?_
      refine .iload X199 hx (hb hby d34_114) rfl ?_
      refine .bipush X199 hx (hb hby d34_116) own_kb6 ?_
      refine .st (fun _ => XS.ishr X199.here hx rfl (hb hby d34_118) rfl) ?_
      show OwnGo p e below s _ _ _ T199 (mkF m 119 _ [(.int (cc >>> ((6 : Int32) &&& 31))), (.int (128 : Int32)), (.int ((Int32.ofNat (List.length bl)) + (1 : Int32))), (.ref d)])
      refine .bipush X199 hx (hb hby d34_119) own_kb63 ?_
      refine .st (fun _ => XS.iand X199.here hx rfl (hb hby d34_121) rfl) ?_
      show OwnGo p e below s _ _ _ T199 (mkF m 122 _ [(.int ((cc >>> ((6 : Int32) &&& 31)) &&& (63 : Int32))), (.int (128 : Int32)), (.int ((Int32.ofNat (List.length bl)) + (1 : Int32))), (.ref d)])
      refine .st (fun _ => XS.ior X199.here hx rfl (hb hby d34_122) rfl) ?_
      show OwnGo p e below s _ _ _ T199 (mkF m 123 _ [(.int ((128 : Int32) ||| ((cc >>> ((6 : Int32) &&& 31)) &&& (63 : Int32)))), (.int ((Int32.ofNat (List.length bl)) + (1 : Int32))), (.ref d)])
      refine .st (fun _ => XS.i2b X199.here hx rfl (hb hby d34_123) rfl) ?_
      show OwnGo p e below s _ _ _ T199 (mkF m 124 _ [(.int (((128 : Int32) ||| ((cc >>> ((6 : Int32) &&& 31)) &&& (63 : Int32))).toInt8.toInt32)), (.int ((Int32.ofNat (List.length bl)) + (1 : Int32))), (.ref d)])
      obtain ⟨cl200, Ar200, -, S200, -, -, -⟩ := id V_d
      have lt200 : List.length (bl ++ [(((224 : Int32) ||| (cc >>> ((12 : Int32) &&& 31))).toInt8.toInt32)]) < 256 := (by simp only [List.length_append, List.length_cons, List.length_nil] <;> omega)
      have ix200 : ((Int32.ofNat (List.length bl)) + (1 : Int32)) = (Int32.ofNat (List.length (bl ++ [(((224 : Int32) ||| (cc >>> ((12 : Int32) &&& 31))).toInt8.toInt32)]))) := (by rw [own_sz1])
      obtain ⟨T200, h200, X200, e200, W200, st200⟩ := stB X199 hx hZ e199 Ar200 (j := ((Int32.ofNat (List.length bl)) + (1 : Int32))) (inb_of S200 (own_inb ix200 lt200 (by decide))) (g := (mkF m 124 #[.val (.ref x), .val (.ref d), .val (.int a2), .val (.int (((Int32.ofNat (List.length bl)) + (1 : Int32)) + (1 : Int32))), .val (.int i4), .val (.int cc)] [(.int (((128 : Int32) ||| ((cc >>> ((6 : Int32) &&& 31)) &&& (63 : Int32))).toInt8.toInt32)), (.int ((Int32.ofNat (List.length bl)) + (1 : Int32))), (.ref d)])) rfl rfl (hb hby d34_124)
      have V'200 : Arv Z h200 d kd .byte (256 : Int32) (List.map Value.int ((bl ++ [(((224 : Int32) ||| (cc >>> ((12 : Int32) &&& 31))).toInt8.toInt32)]) ++ [(((128 : Int32) ||| ((cc >>> ((6 : Int32) &&& 31)) &&& (63 : Int32))).toInt8.toInt32)])) (.int (0 : Int32)) := own_push V_d W200 ix200 (Nat.lt_trans lt200 (by decide)) (own_nb _)
      have Kp := Kp.wr W200 (Or.inl (List.mem_of_getElem? (i := 0) rfl))
      have N200 := Fr.snoc X200 N199 g_d
      have Z_ : n0 ≤ h200.size := by rw [W200.size]; exact Z_
      have V_d := V'200
      refine .st st200 ?_
      show OwnGo p e below s _ _ _ T200 (mkF m 125 _ [])
      refine .aloadN X200 hx (hb hby d34_125) rfl rfl ?_
      refine .iloadN X200 hx (hb hby d34_126) rfl ?_
      refine .iinc X200 hx (hb hby d34_127) rfl rfl (L' := #[.val (.ref x), .val (.ref d), .val (.int a2), .val (.int ((((Int32.ofNat (List.length bl)) + (1 : Int32)) + (1 : Int32)) + (1 : Int32))), .val (.int i4), .val (.int cc)]) rfl ?_
      refine .sipush X200 hx (hb hby d34_130) own_ks128 ?_
      refine .iload X200 hx (hb hby d34_133) rfl ?_
      refine .bipush X200 hx (hb hby d34_135) own_kb63 ?_
      refine .st (fun _ => XS.iand X200.here hx rfl (hb hby d34_137) rfl) ?_
      show OwnGo p e below s _ _ _ T200 (mkF m 138 _ [(.int (cc &&& (63 : Int32))), (.int (128 : Int32)), (.int (((Int32.ofNat (List.length bl)) + (1 : Int32)) + (1 : Int32))), (.ref d)])
      refine .st (fun _ => XS.ior X200.here hx rfl (hb hby d34_138) rfl) ?_
      show OwnGo p e below s _ _ _ T200 (mkF m 139 _ [(.int ((128 : Int32) ||| (cc &&& (63 : Int32)))), (.int (((Int32.ofNat (List.length bl)) + (1 : Int32)) + (1 : Int32))), (.ref d)])
      refine .st (fun _ => XS.i2b X200.here hx rfl (hb hby d34_139) rfl) ?_
      show OwnGo p e below s _ _ _ T200 (mkF m 140 _ [(.int (((128 : Int32) ||| (cc &&& (63 : Int32))).toInt8.toInt32)), (.int (((Int32.ofNat (List.length bl)) + (1 : Int32)) + (1 : Int32))), (.ref d)])
      obtain ⟨cl201, Ar201, -, S201, -, -, -⟩ := id V_d
      have lt201 : List.length ((bl ++ [(((224 : Int32) ||| (cc >>> ((12 : Int32) &&& 31))).toInt8.toInt32)]) ++ [(((128 : Int32) ||| ((cc >>> ((6 : Int32) &&& 31)) &&& (63 : Int32))).toInt8.toInt32)]) < 256 := (by simp only [List.length_append, List.length_cons, List.length_nil] <;> omega)
      have ix201 : (((Int32.ofNat (List.length bl)) + (1 : Int32)) + (1 : Int32)) = (Int32.ofNat (List.length ((bl ++ [(((224 : Int32) ||| (cc >>> ((12 : Int32) &&& 31))).toInt8.toInt32)]) ++ [(((128 : Int32) ||| ((cc >>> ((6 : Int32) &&& 31)) &&& (63 : Int32))).toInt8.toInt32)]))) := (by rw [own_sz1, own_sz1])
      obtain ⟨T201, h201, X201, e201, W201, st201⟩ := stB X200 hx hZ e200 Ar201 (j := (((Int32.ofNat (List.length bl)) + (1 : Int32)) + (1 : Int32))) (inb_of S201 (own_inb ix201 lt201 (by decide))) (g := (mkF m 140 #[.val (.ref x), .val (.ref d), .val (.int a2), .val (.int ((((Int32.ofNat (List.length bl)) + (1 : Int32)) + (1 : Int32)) + (1 : Int32))), .val (.int i4), .val (.int cc)] [(.int (((128 : Int32) ||| (cc &&& (63 : Int32))).toInt8.toInt32)), (.int (((Int32.ofNat (List.length bl)) + (1 : Int32)) + (1 : Int32))), (.ref d)])) rfl rfl (hb hby d34_140)
      have V'201 : Arv Z h201 d kd .byte (256 : Int32) (List.map Value.int (((bl ++ [(((224 : Int32) ||| (cc >>> ((12 : Int32) &&& 31))).toInt8.toInt32)]) ++ [(((128 : Int32) ||| ((cc >>> ((6 : Int32) &&& 31)) &&& (63 : Int32))).toInt8.toInt32)]) ++ [(((128 : Int32) ||| (cc &&& (63 : Int32))).toInt8.toInt32)])) (.int (0 : Int32)) := own_push V_d W201 ix201 (Nat.lt_trans lt201 (by decide)) (own_nb _)
      have Kp := Kp.wr W201 (Or.inl (List.mem_of_getElem? (i := 0) rfl))
      have N201 := Fr.snoc X201 N200 g_d
      have Z_ : n0 ≤ h201.size := by rw [W201.size]; exact Z_
      have V_d := V'201
      refine .st st201 ?_
      show OwnGo p e below s _ _ _ T201 (mkF m 141 _ [])
      have eL : ((((Int32.ofNat (List.length bl)) + (1 : Int32)) + (1 : Int32)) + (1 : Int32)) = (Int32.ofNat (List.length (bl ++ own_enc cc))) := by rw [List.length_append, (own_enc3 hz q2)]; exact own_e3 _
      rw [eL]
      exact hk _ _ _ X201 e201 N201 Z_ Kp (by rw [(own_enc3 hz q2)]; simp only [List.append_assoc, List.cons_append, List.nil_append] at V_d; exact V_d)
  · intro key196
    refine .iload X0 hx (hb hby d34_22) rfl ?_
    by_cases q0 : cc = (0 : Int32)
    · refine .ifYes (pc := 24) X0 hx 47 (hb hby d34_24) ((if0 _ _).trans (teq (q0 : cc = (0 : Int32))).1) (by decide) (by decide) ?_
      exact key196 0 (Or.inl q0)
    · refine .ifNo X0 hx (hb hby d34_24) ((if0 _ _).trans (feq (q0 : ¬ (cc = (0 : Int32)))).1) ?_
      refine .iload X0 hx (hb hby d34_27) rfl ?_
      refine .sipush X0 hx (hb hby d34_29) own_ks128 ?_
      by_cases q1 : cc < (128 : Int32)
      · refine .icmpNo X0 hx (hb hby d34_32) (tlt (q1 : cc < (128 : Int32))).2.1 ?_
        refine .aloadN X0 hx (hb hby d34_35) rfl rfl ?_
        refine .iloadN X0 hx (hb hby d34_36) rfl ?_
        refine .iinc X0 hx (hb hby d34_37) rfl rfl (L' := #[.val (.ref x), .val (.ref d), .val (.int a2), .val (.int ((Int32.ofNat (List.length bl)) + (1 : Int32))), .val (.int i4), .val (.int cc)]) rfl ?_
        refine .iload X0 hx (hb hby d34_40) rfl ?_
        refine .st (fun _ => XS.i2b X0.here hx rfl (hb hby d34_42) rfl) ?_
        show OwnGo p e below s _ _ _ T0 (mkF m 43 _ [(.int (cc.toInt8.toInt32)), (.int (Int32.ofNat (List.length bl))), (.ref d)])
        obtain ⟨cl202, Ar202, -, S202, -, -, -⟩ := id V_d
        have lt202 : List.length bl < 256 := (by omega)
        have ix202 : (Int32.ofNat (List.length bl)) = (Int32.ofNat (List.length bl)) := rfl
        obtain ⟨T202, h202, X202, e202, W202, st202⟩ := stB X0 hx hZ e0 Ar202 (j := (Int32.ofNat (List.length bl))) (inb_of S202 (own_inb ix202 lt202 (by decide))) (g := (mkF m 43 #[.val (.ref x), .val (.ref d), .val (.int a2), .val (.int ((Int32.ofNat (List.length bl)) + (1 : Int32))), .val (.int i4), .val (.int cc)] [(.int (cc.toInt8.toInt32)), (.int (Int32.ofNat (List.length bl))), (.ref d)])) rfl rfl (hb hby d34_43)
        have V'202 : Arv Z h202 d kd .byte (256 : Int32) (List.map Value.int (bl ++ [(cc.toInt8.toInt32)])) (.int (0 : Int32)) := own_push V_d W202 ix202 (Nat.lt_trans lt202 (by decide)) (own_nb _)
        have Kp := Kp.wr W202 (Or.inl (List.mem_of_getElem? (i := 0) rfl))
        have N202 := Fr.snoc X202 N0 g_d
        have Z_ : n0 ≤ h202.size := by rw [W202.size]; exact Z_
        have V_d := V'202
        refine .st st202 ?_
        show OwnGo p e below s _ _ _ T202 (mkF m 44 _ [])
        refine .goto (pc := 44) X202 hx 141 (hb hby d34_44) (by decide) (by decide) ?_
        have eL : ((Int32.ofNat (List.length bl)) + (1 : Int32)) = (Int32.ofNat (List.length (bl ++ own_enc cc))) := by rw [List.length_append, (own_enc1 q0 q1)]; exact own_e1 _
        rw [eL]
        exact hk _ _ _ X202 e202 N202 Z_ Kp (by rw [(own_enc1 q0 q1)]; exact V_d)
      · refine .icmpYes (pc := 32) X0 hx 47 (hb hby d34_32) (flt (q1 : ¬ (cc < (128 : Int32)))).2.1 (by decide) (by decide) ?_
        exact key196 0 (Or.inr q1)
theorem rmenc (l : Launch) (Z : State) (a0 : Array Value) (hw : own_tb a0 Z) (ws : List Jvm.Cond) (x : Addr) (t : Addr) (kb : ClassId) (cl : List Int32) (d : Addr) (kd : ClassId) (bl : List Int32) (zc : Int32) (fmv : Value) (h0 : Heap) (n0 : Nat) (Z0 : n0 ≤ h0.size) (O_ : Old Z n0 h0) (S_CS : Sta Z Z.heap "java/lang/String" "COMPACT_STRINGS" "Z" (.int zc)) (P_CS : ¬ zc = (0 : Int32)) (S_AD : Sta Z Z.heap "java/lang/StringUTF16" "$assertionsDisabled" "Z" (.int (1 : Int32))) (S_HB : Sta Z Z.heap "java/lang/StringUTF16" "HI_BYTE_SHIFT" "I" (.int (0 : Int32))) (S_LB : Sta Z Z.heap "java/lang/StringUTF16" "LO_BYTE_SHIFT" "I" (.int (8 : Int32))) (S_SF : Sta Z Z.heap "jdk/internal/util/Preconditions" "SIOOBE_FORMATTER" "Ljava/util/function/BiFunction;" fmv) (rf_fmv : fmv.isRef = true) (SS : own_T Z h0 x t kb cl) (hu : ∀ c ∈ cl, own_u c) (V_d : Arv Z h0 d kd .byte (256 : Int32) (List.map Value.int bl) (.int (0 : Int32))) (g_d : n0 ≤ d) (ne_x_d : x ≠ d) (ne_t_d : t ≠ d) (hl : List.length bl < 232) :
    OwnMet l (⟨"com/example/cofferhand/cofferhand/nbt/ModifiedUtf8", "encode", "(Ljava/lang/String;[BI)I"⟩ : MethodName) prog_32_method_5_code 6 (some .int) ws ({ frames := 5, cells := 0, slots := 0, locals := 66 } : Room) #[(.ref x), (.ref d), (.int (Int32.ofNat (List.length bl)))] Z h0 (Qenc Z x t kb cl d kd bl zc fmv h0 n0) := by
  refine own_met (plainFor_of_name pn_13) ?_
  intro p e s m below meth c s₁ X0 hx hby hml hret hlk hown hnm hZ e0
  have N0 := Fr.nil n0
  have Z_ := Z0
  refine OwnGo.cast (ef_enc m x d (Int32.ofNat (List.length bl))) ?_
  show OwnGo p e below s _ _ _ s₁ (mkF m 0 _ [])
  rcases cl with _ | ⟨c0, _ | ⟨c1, _ | ⟨c2, cl⟩⟩⟩
  · have SS : own_S0 Z h0 x t kb  := SS
    have Kp : Keep h0 h0 [d] := Keep.refl h0 [d]
    refine .iloadN X0 hx (hb hby d34_0) rfl ?_
    refine .istoreN X0 hx (hb hby d34_1) (L' := #[.val (.ref x), .val (.ref d), .val (.int (Int32.ofNat (List.length bl))), .val (.int (Int32.ofNat (List.length bl))), .unset, .unset]) rfl ?_
    refine .iconst X0 hx (hb hby d34_2) own_ki0 ?_
    refine .istore X0 hx (hb hby d34_3) (L' := #[.val (.ref x), .val (.ref d), .val (.int (Int32.ofNat (List.length bl))), .val (.int (Int32.ofNat (List.length bl))), .val (.int (0 : Int32)), .unset]) rfl ?_
    refine .iload X0 hx (hb hby d34_5) rfl ?_
    refine .aloadN X0 hx (hb hby d34_7) rfl rfl ?_
    obtain ⟨cq203, kq203, q203a, q203b, q203c⟩ := isOf hZ e0 SS.1
    obtain ⟨_, _, ⟨T203, L203, k203, n203⟩, -, X203, ⟨Lc203, hQ203, l203, y203, z203⟩, st203⟩ := X0.virtualBack hx (y := (⟨"java/lang/String", "length", "()I"⟩ : MethodName)) (z := (⟨"java/lang/String", "length", "()I"⟩ : MethodName)) hown (mvT hZ (W_ hw 71 rfl)) (mvT hZ (W_ hw 72 rfl)) (notFace_of_selects (args := #[]) (mvT hZ (W_ hw 74 rfl))) (mvT hZ (W_ hw 74 rfl)) (mvT hZ (W_ hw 73 rfl)) (by decide) (backOf (W := 1) (rmslen l Z a0 hw [] x t kb [] zc h0 n0 Z_ O_ S_CS P_CS SS) hZ (W_ hw 75 rfl) (W_ hw 7 rfl) (by decide) (by decide)) q203a q203c (g := (mkF m 8 #[.val (.ref x), .val (.ref d), .val (.int (Int32.ofNat (List.length bl))), .val (.int (Int32.ofNat (List.length bl))), .val (.int (0 : Int32)), .unset] [(.ref x), (.int (0 : Int32))])) rfl (by rw [hml]; rfl) (Steps.refl _) (argsL := []) (rest := [(.int (0 : Int32))]) (lenOf pd_17 rfl) rfl (Nat.le_of_eq rfl) (hb hby d34_8) (fun _ _ => ⟨rfl, e0, (by decide : 0 + 0 ≤ _), (by decide : 0 + 0 ≤ _)⟩)
    dsimp only [Pt.U, Pt.locs, Pt.cells, Pt.slots] at X203 l203 y203 z203 st203 hQ203
    subst y203 z203
    obtain ⟨rfl, N203q, e203⟩ := hQ203
    have N203 := own_frl l203 N0 N203q
    refine .st (fun _ => st203.trans) ?_
    show OwnGo p e below s _ _ _ T203 (mkF m 11 _ [(.int (0 : Int32)), (.int (0 : Int32))])
    refine .icmpYes (pc := 11) X203 hx 147 (hb hby d34_11) (flt ((by decide) : ¬ ((0 : Int32) < (0 : Int32)))).2.1 (by decide) (by decide) ?_
    refine .iloadN X203 hx (hb hby d34_147) rfl ?_
    have eB : bl ++ own_encs [] = bl := by simp only [own_encs, List.append_nil]
    exact OwnGo.ret X203 hx hret hlk rfl (Or.inl ⟨rfl, Or.inl rfl, _, rfl⟩) (hb hby d34_148) (by show Qenc Z x t kb [] d kd bl zc fmv h0 n0 _ T203.heap _; rw [e203]; exact ⟨by rw [eB], N203, Kp, by rw [eB]; exact V_d⟩) (by decide) (by decide)
  · have SS : own_S1 Z h0 x t kb c0 := SS
    have P_c0 : own_u c0 := hu c0 (List.mem_cons_self)
    have Kp : Keep h0 h0 [d] := Keep.refl h0 [d]
    refine .iloadN X0 hx (hb hby d34_0) rfl ?_
    refine .istoreN X0 hx (hb hby d34_1) (L' := #[.val (.ref x), .val (.ref d), .val (.int (Int32.ofNat (List.length bl))), .val (.int (Int32.ofNat (List.length bl))), .unset, .unset]) rfl ?_
    refine .iconst X0 hx (hb hby d34_2) own_ki0 ?_
    refine .istore X0 hx (hb hby d34_3) (L' := #[.val (.ref x), .val (.ref d), .val (.int (Int32.ofNat (List.length bl))), .val (.int (Int32.ofNat (List.length bl))), .val (.int (0 : Int32)), .unset]) rfl ?_
    refine .iload X0 hx (hb hby d34_5) rfl ?_
    refine .aloadN X0 hx (hb hby d34_7) rfl rfl ?_
    obtain ⟨cq204, kq204, q204a, q204b, q204c⟩ := isOf hZ e0 SS.1
    obtain ⟨_, _, ⟨T204, L204, k204, n204⟩, -, X204, ⟨Lc204, hQ204, l204, y204, z204⟩, st204⟩ := X0.virtualBack hx (y := (⟨"java/lang/String", "length", "()I"⟩ : MethodName)) (z := (⟨"java/lang/String", "length", "()I"⟩ : MethodName)) hown (mvT hZ (W_ hw 71 rfl)) (mvT hZ (W_ hw 72 rfl)) (notFace_of_selects (args := #[]) (mvT hZ (W_ hw 74 rfl))) (mvT hZ (W_ hw 74 rfl)) (mvT hZ (W_ hw 73 rfl)) (by decide) (backOf (W := 1) (rmslen l Z a0 hw [] x t kb [c0] zc h0 n0 Z_ O_ S_CS P_CS SS) hZ (W_ hw 75 rfl) (W_ hw 7 rfl) (by decide) (by decide)) q204a q204c (g := (mkF m 8 #[.val (.ref x), .val (.ref d), .val (.int (Int32.ofNat (List.length bl))), .val (.int (Int32.ofNat (List.length bl))), .val (.int (0 : Int32)), .unset] [(.ref x), (.int (0 : Int32))])) rfl (by rw [hml]; rfl) (Steps.refl _) (argsL := []) (rest := [(.int (0 : Int32))]) (lenOf pd_17 rfl) rfl (Nat.le_of_eq rfl) (hb hby d34_8) (fun _ _ => ⟨rfl, e0, (by decide : 0 + 0 ≤ _), (by decide : 0 + 0 ≤ _)⟩)
    dsimp only [Pt.U, Pt.locs, Pt.cells, Pt.slots] at X204 l204 y204 z204 st204 hQ204
    subst y204 z204
    obtain ⟨rfl, N204q, e204⟩ := hQ204
    have N204 := own_frl l204 N0 N204q
    refine .st (fun _ => st204.trans) ?_
    show OwnGo p e below s _ _ _ T204 (mkF m 11 _ [(.int (1 : Int32)), (.int (0 : Int32))])
    refine .icmpNo X204 hx (hb hby d34_11) (tlt ((by decide) : (0 : Int32) < (1 : Int32))).2.1 ?_
    refine .aloadN X204 hx (hb hby d34_14) rfl rfl ?_
    refine .iload X204 hx (hb hby d34_15) rfl ?_
    obtain ⟨cq205, kq205, q205a, q205b, q205c⟩ := isOf hZ e204 SS.1
    obtain ⟨_, _, ⟨T205, L205, k205, n205⟩, -, X205, ⟨Lc205, hQ205, l205, y205, z205⟩, st205⟩ := X204.virtualBack hx (y := (⟨"java/lang/String", "charAt", "(I)C"⟩ : MethodName)) (z := (⟨"java/lang/String", "charAt", "(I)C"⟩ : MethodName)) hown (mvT hZ (W_ hw 160 rfl)) (mvT hZ (W_ hw 161 rfl)) (notFace_of_selects (args := #[]) (mvT hZ (W_ hw 163 rfl))) (mvT hZ (W_ hw 163 rfl)) (mvT hZ (W_ hw 162 rfl)) (by decide) (backOf (W := 0) (rmchA1_0 l Z a0 hw [] x t kb c0 zc fmv h0 n0 Z_ O_ S_CS P_CS S_AD S_HB S_LB S_SF rf_fmv SS P_c0) hZ (W_ hw 164 rfl) (W_ hw 7 rfl) (by decide) (by decide)) q205a q205c (g := (mkF m 17 #[.val (.ref x), .val (.ref d), .val (.int (Int32.ofNat (List.length bl))), .val (.int (Int32.ofNat (List.length bl))), .val (.int (0 : Int32)), .unset] [(.int (0 : Int32)), (.ref x)])) rfl (by rw [hml]; rfl) (Steps.refl _) (argsL := [(.int (0 : Int32))]) (rest := []) (lenOf pd_19 rfl) rfl (Nat.le_of_eq rfl) (hb hby d34_17) (fun _ _ => ⟨rfl, e204, (by decide : 0 + 0 ≤ _), (by decide : 0 + 0 ≤ _)⟩)
    dsimp only [Pt.U, Pt.locs, Pt.cells, Pt.slots] at X205 l205 y205 z205 st205 hQ205
    subst y205 z205
    obtain ⟨rfl, N205q, e205⟩ := hQ205
    have N205 := own_frl l205 N204 N205q
    refine .st (fun _ => st205.trans) ?_
    show OwnGo p e below s _ _ _ T205 (mkF m 20 _ [(.int c0)])
    refine .istore X205 hx (hb hby d34_20) (L' := #[.val (.ref x), .val (.ref d), .val (.int (Int32.ofNat (List.length bl))), .val (.int (Int32.ofNat (List.length bl))), .val (.int (0 : Int32)), .val (.int c0)]) rfl ?_
    refine sg_encC hw X205 hx hby hZ e205 N205 Z_ V_d g_d (by omega) ?_
    intro T206 h206 L206 X206 e206 N206 Z_ K206 V_d
    have SS := SS.keep K206 (ninS ne_x_d nin0) (ninS ne_t_d nin0)
    have O_ := O_.keep K206 (allS g_d all0)
    have Kp := Kp.trans K206 (allS (Or.inl (List.mem_of_getElem? (i := 0) rfl)) all0)
    refine .iinc X206 hx (hb hby d34_141) rfl own_ka0_1 (L' := #[.val (.ref x), .val (.ref d), .val (.int (Int32.ofNat (List.length bl))), .val (.int (Int32.ofNat (List.length (bl ++ own_enc c0)))), .val (.int (1 : Int32)), .val (.int c0)]) rfl ?_
    refine .goto (pc := 144) X206 hx 5 (hb hby d34_144) (by decide) (by decide) ?_
    refine .iload X206 hx (hb hby d34_5) rfl ?_
    refine .aloadN X206 hx (hb hby d34_7) rfl rfl ?_
    obtain ⟨cq207, kq207, q207a, q207b, q207c⟩ := isOf hZ e206 SS.1
    obtain ⟨_, _, ⟨T207, L207, k207, n207⟩, -, X207, ⟨Lc207, hQ207, l207, y207, z207⟩, st207⟩ := X206.virtualBack hx (y := (⟨"java/lang/String", "length", "()I"⟩ : MethodName)) (z := (⟨"java/lang/String", "length", "()I"⟩ : MethodName)) hown (mvT hZ (W_ hw 71 rfl)) (mvT hZ (W_ hw 72 rfl)) (notFace_of_selects (args := #[]) (mvT hZ (W_ hw 74 rfl))) (mvT hZ (W_ hw 74 rfl)) (mvT hZ (W_ hw 73 rfl)) (by decide) (backOf (W := 1) (rmslen l Z a0 hw [] x t kb [c0] zc h206 n0 Z_ O_ S_CS P_CS SS) hZ (W_ hw 75 rfl) (W_ hw 7 rfl) (by decide) (by decide)) q207a q207c (g := (mkF m 8 #[.val (.ref x), .val (.ref d), .val (.int (Int32.ofNat (List.length bl))), .val (.int (Int32.ofNat (List.length (bl ++ own_enc c0)))), .val (.int (1 : Int32)), .val (.int c0)] [(.ref x), (.int (1 : Int32))])) rfl (by rw [hml]; rfl) (Steps.refl _) (argsL := []) (rest := [(.int (1 : Int32))]) (lenOf pd_17 rfl) rfl (Nat.le_of_eq rfl) (hb hby d34_8) (fun _ _ => ⟨rfl, e206, (by decide : 0 + 0 ≤ _), (by decide : 0 + 0 ≤ _)⟩)
    dsimp only [Pt.U, Pt.locs, Pt.cells, Pt.slots] at X207 l207 y207 z207 st207 hQ207
    subst y207 z207
    obtain ⟨rfl, N207q, e207⟩ := hQ207
    have N207 := own_frl l207 N206 N207q
    refine .st (fun _ => st207.trans) ?_
    show OwnGo p e below s _ _ _ T207 (mkF m 11 _ [(.int (1 : Int32)), (.int (1 : Int32))])
    refine .icmpYes (pc := 11) X207 hx 147 (hb hby d34_11) (flt ((by decide) : ¬ ((1 : Int32) < (1 : Int32)))).2.1 (by decide) (by decide) ?_
    refine .iloadN X207 hx (hb hby d34_147) rfl ?_
    have eB : bl ++ own_encs [c0] = (bl ++ own_enc c0) := by simp only [own_encs, List.append_nil]
    exact OwnGo.ret X207 hx hret hlk rfl (Or.inl ⟨rfl, Or.inl rfl, _, rfl⟩) (hb hby d34_148) (by show Qenc Z x t kb [c0] d kd bl zc fmv h0 n0 _ T207.heap _; rw [e207]; exact ⟨by rw [eB], N207, Kp, by rw [eB]; exact V_d⟩) (by decide) (by decide)
  · have SS : own_S2 Z h0 x t kb c0 c1 := SS
    have P_c0 : own_u c0 := hu c0 (List.mem_cons_self)
    have P_c1 : own_u c1 := hu c1 (List.mem_cons_of_mem _ List.mem_cons_self)
    have Kp : Keep h0 h0 [d] := Keep.refl h0 [d]
    refine .iloadN X0 hx (hb hby d34_0) rfl ?_
    refine .istoreN X0 hx (hb hby d34_1) (L' := #[.val (.ref x), .val (.ref d), .val (.int (Int32.ofNat (List.length bl))), .val (.int (Int32.ofNat (List.length bl))), .unset, .unset]) rfl ?_
    refine .iconst X0 hx (hb hby d34_2) own_ki0 ?_
    refine .istore X0 hx (hb hby d34_3) (L' := #[.val (.ref x), .val (.ref d), .val (.int (Int32.ofNat (List.length bl))), .val (.int (Int32.ofNat (List.length bl))), .val (.int (0 : Int32)), .unset]) rfl ?_
    refine .iload X0 hx (hb hby d34_5) rfl ?_
    refine .aloadN X0 hx (hb hby d34_7) rfl rfl ?_
    obtain ⟨cq208, kq208, q208a, q208b, q208c⟩ := isOf hZ e0 SS.1
    obtain ⟨_, _, ⟨T208, L208, k208, n208⟩, -, X208, ⟨Lc208, hQ208, l208, y208, z208⟩, st208⟩ := X0.virtualBack hx (y := (⟨"java/lang/String", "length", "()I"⟩ : MethodName)) (z := (⟨"java/lang/String", "length", "()I"⟩ : MethodName)) hown (mvT hZ (W_ hw 71 rfl)) (mvT hZ (W_ hw 72 rfl)) (notFace_of_selects (args := #[]) (mvT hZ (W_ hw 74 rfl))) (mvT hZ (W_ hw 74 rfl)) (mvT hZ (W_ hw 73 rfl)) (by decide) (backOf (W := 1) (rmslen l Z a0 hw [] x t kb [c0, c1] zc h0 n0 Z_ O_ S_CS P_CS SS) hZ (W_ hw 75 rfl) (W_ hw 7 rfl) (by decide) (by decide)) q208a q208c (g := (mkF m 8 #[.val (.ref x), .val (.ref d), .val (.int (Int32.ofNat (List.length bl))), .val (.int (Int32.ofNat (List.length bl))), .val (.int (0 : Int32)), .unset] [(.ref x), (.int (0 : Int32))])) rfl (by rw [hml]; rfl) (Steps.refl _) (argsL := []) (rest := [(.int (0 : Int32))]) (lenOf pd_17 rfl) rfl (Nat.le_of_eq rfl) (hb hby d34_8) (fun _ _ => ⟨rfl, e0, (by decide : 0 + 0 ≤ _), (by decide : 0 + 0 ≤ _)⟩)
    dsimp only [Pt.U, Pt.locs, Pt.cells, Pt.slots] at X208 l208 y208 z208 st208 hQ208
    subst y208 z208
    obtain ⟨rfl, N208q, e208⟩ := hQ208
    have N208 := own_frl l208 N0 N208q
    refine .st (fun _ => st208.trans) ?_
    show OwnGo p e below s _ _ _ T208 (mkF m 11 _ [(.int (2 : Int32)), (.int (0 : Int32))])
    refine .icmpNo X208 hx (hb hby d34_11) (tlt ((by decide) : (0 : Int32) < (2 : Int32))).2.1 ?_
    refine .aloadN X208 hx (hb hby d34_14) rfl rfl ?_
    refine .iload X208 hx (hb hby d34_15) rfl ?_
    obtain ⟨cq209, kq209, q209a, q209b, q209c⟩ := isOf hZ e208 SS.1
    obtain ⟨_, _, ⟨T209, L209, k209, n209⟩, -, X209, ⟨Lc209, hQ209, l209, y209, z209⟩, st209⟩ := X208.virtualBack hx (y := (⟨"java/lang/String", "charAt", "(I)C"⟩ : MethodName)) (z := (⟨"java/lang/String", "charAt", "(I)C"⟩ : MethodName)) hown (mvT hZ (W_ hw 160 rfl)) (mvT hZ (W_ hw 161 rfl)) (notFace_of_selects (args := #[]) (mvT hZ (W_ hw 163 rfl))) (mvT hZ (W_ hw 163 rfl)) (mvT hZ (W_ hw 162 rfl)) (by decide) (backOf (W := 0) (rmchA2_0 l Z a0 hw [] x t kb c0 c1 zc fmv h0 n0 Z_ O_ S_CS P_CS S_AD S_HB S_LB S_SF rf_fmv SS P_c0 P_c1) hZ (W_ hw 164 rfl) (W_ hw 7 rfl) (by decide) (by decide)) q209a q209c (g := (mkF m 17 #[.val (.ref x), .val (.ref d), .val (.int (Int32.ofNat (List.length bl))), .val (.int (Int32.ofNat (List.length bl))), .val (.int (0 : Int32)), .unset] [(.int (0 : Int32)), (.ref x)])) rfl (by rw [hml]; rfl) (Steps.refl _) (argsL := [(.int (0 : Int32))]) (rest := []) (lenOf pd_19 rfl) rfl (Nat.le_of_eq rfl) (hb hby d34_17) (fun _ _ => ⟨rfl, e208, (by decide : 0 + 0 ≤ _), (by decide : 0 + 0 ≤ _)⟩)
    dsimp only [Pt.U, Pt.locs, Pt.cells, Pt.slots] at X209 l209 y209 z209 st209 hQ209
    subst y209 z209
    obtain ⟨rfl, N209q, e209⟩ := hQ209
    have N209 := own_frl l209 N208 N209q
    refine .st (fun _ => st209.trans) ?_
    show OwnGo p e below s _ _ _ T209 (mkF m 20 _ [(.int c0)])
    refine .istore X209 hx (hb hby d34_20) (L' := #[.val (.ref x), .val (.ref d), .val (.int (Int32.ofNat (List.length bl))), .val (.int (Int32.ofNat (List.length bl))), .val (.int (0 : Int32)), .val (.int c0)]) rfl ?_
    refine sg_encC hw X209 hx hby hZ e209 N209 Z_ V_d g_d (by omega) ?_
    intro T210 h210 L210 X210 e210 N210 Z_ K210 V_d
    have SS := SS.keep K210 (ninS ne_x_d nin0) (ninS ne_t_d nin0)
    have O_ := O_.keep K210 (allS g_d all0)
    have Kp := Kp.trans K210 (allS (Or.inl (List.mem_of_getElem? (i := 0) rfl)) all0)
    refine .iinc X210 hx (hb hby d34_141) rfl own_ka0_1 (L' := #[.val (.ref x), .val (.ref d), .val (.int (Int32.ofNat (List.length bl))), .val (.int (Int32.ofNat (List.length (bl ++ own_enc c0)))), .val (.int (1 : Int32)), .val (.int c0)]) rfl ?_
    refine .goto (pc := 144) X210 hx 5 (hb hby d34_144) (by decide) (by decide) ?_
    refine .iload X210 hx (hb hby d34_5) rfl ?_
    refine .aloadN X210 hx (hb hby d34_7) rfl rfl ?_
    obtain ⟨cq211, kq211, q211a, q211b, q211c⟩ := isOf hZ e210 SS.1
    obtain ⟨_, _, ⟨T211, L211, k211, n211⟩, -, X211, ⟨Lc211, hQ211, l211, y211, z211⟩, st211⟩ := X210.virtualBack hx (y := (⟨"java/lang/String", "length", "()I"⟩ : MethodName)) (z := (⟨"java/lang/String", "length", "()I"⟩ : MethodName)) hown (mvT hZ (W_ hw 71 rfl)) (mvT hZ (W_ hw 72 rfl)) (notFace_of_selects (args := #[]) (mvT hZ (W_ hw 74 rfl))) (mvT hZ (W_ hw 74 rfl)) (mvT hZ (W_ hw 73 rfl)) (by decide) (backOf (W := 1) (rmslen l Z a0 hw [] x t kb [c0, c1] zc h210 n0 Z_ O_ S_CS P_CS SS) hZ (W_ hw 75 rfl) (W_ hw 7 rfl) (by decide) (by decide)) q211a q211c (g := (mkF m 8 #[.val (.ref x), .val (.ref d), .val (.int (Int32.ofNat (List.length bl))), .val (.int (Int32.ofNat (List.length (bl ++ own_enc c0)))), .val (.int (1 : Int32)), .val (.int c0)] [(.ref x), (.int (1 : Int32))])) rfl (by rw [hml]; rfl) (Steps.refl _) (argsL := []) (rest := [(.int (1 : Int32))]) (lenOf pd_17 rfl) rfl (Nat.le_of_eq rfl) (hb hby d34_8) (fun _ _ => ⟨rfl, e210, (by decide : 0 + 0 ≤ _), (by decide : 0 + 0 ≤ _)⟩)
    dsimp only [Pt.U, Pt.locs, Pt.cells, Pt.slots] at X211 l211 y211 z211 st211 hQ211
    subst y211 z211
    obtain ⟨rfl, N211q, e211⟩ := hQ211
    have N211 := own_frl l211 N210 N211q
    refine .st (fun _ => st211.trans) ?_
    show OwnGo p e below s _ _ _ T211 (mkF m 11 _ [(.int (2 : Int32)), (.int (1 : Int32))])
    refine .icmpNo X211 hx (hb hby d34_11) (tlt ((by decide) : (1 : Int32) < (2 : Int32))).2.1 ?_
    refine .aloadN X211 hx (hb hby d34_14) rfl rfl ?_
    refine .iload X211 hx (hb hby d34_15) rfl ?_
    obtain ⟨cq212, kq212, q212a, q212b, q212c⟩ := isOf hZ e211 SS.1
    obtain ⟨_, _, ⟨T212, L212, k212, n212⟩, -, X212, ⟨Lc212, hQ212, l212, y212, z212⟩, st212⟩ := X211.virtualBack hx (y := (⟨"java/lang/String", "charAt", "(I)C"⟩ : MethodName)) (z := (⟨"java/lang/String", "charAt", "(I)C"⟩ : MethodName)) hown (mvT hZ (W_ hw 160 rfl)) (mvT hZ (W_ hw 161 rfl)) (notFace_of_selects (args := #[]) (mvT hZ (W_ hw 163 rfl))) (mvT hZ (W_ hw 163 rfl)) (mvT hZ (W_ hw 162 rfl)) (by decide) (backOf (W := 0) (rmchA2_1 l Z a0 hw [] x t kb c0 c1 zc fmv h210 n0 Z_ O_ S_CS P_CS S_AD S_HB S_LB S_SF rf_fmv SS P_c0 P_c1) hZ (W_ hw 164 rfl) (W_ hw 7 rfl) (by decide) (by decide)) q212a q212c (g := (mkF m 17 #[.val (.ref x), .val (.ref d), .val (.int (Int32.ofNat (List.length bl))), .val (.int (Int32.ofNat (List.length (bl ++ own_enc c0)))), .val (.int (1 : Int32)), .val (.int c0)] [(.int (1 : Int32)), (.ref x)])) rfl (by rw [hml]; rfl) (Steps.refl _) (argsL := [(.int (1 : Int32))]) (rest := []) (lenOf pd_19 rfl) rfl (Nat.le_of_eq rfl) (hb hby d34_17) (fun _ _ => ⟨rfl, e211, (by decide : 0 + 0 ≤ _), (by decide : 0 + 0 ≤ _)⟩)
    dsimp only [Pt.U, Pt.locs, Pt.cells, Pt.slots] at X212 l212 y212 z212 st212 hQ212
    subst y212 z212
    obtain ⟨rfl, N212q, e212⟩ := hQ212
    have N212 := own_frl l212 N211 N212q
    refine .st (fun _ => st212.trans) ?_
    show OwnGo p e below s _ _ _ T212 (mkF m 20 _ [(.int c1)])
    refine .istore X212 hx (hb hby d34_20) (L' := #[.val (.ref x), .val (.ref d), .val (.int (Int32.ofNat (List.length bl))), .val (.int (Int32.ofNat (List.length (bl ++ own_enc c0)))), .val (.int (1 : Int32)), .val (.int c1)]) rfl ?_
    refine sg_encC hw X212 hx hby hZ e212 N212 Z_ V_d g_d (by have z_ := own_encl c0; rw [List.length_append]; omega) ?_
    intro T213 h213 L213 X213 e213 N213 Z_ K213 V_d
    have SS := SS.keep K213 (ninS ne_x_d nin0) (ninS ne_t_d nin0)
    have O_ := O_.keep K213 (allS g_d all0)
    have Kp := Kp.trans K213 (allS (Or.inl (List.mem_of_getElem? (i := 0) rfl)) all0)
    refine .iinc X213 hx (hb hby d34_141) rfl own_ka1_1 (L' := #[.val (.ref x), .val (.ref d), .val (.int (Int32.ofNat (List.length bl))), .val (.int (Int32.ofNat (List.length ((bl ++ own_enc c0) ++ own_enc c1)))), .val (.int (2 : Int32)), .val (.int c1)]) rfl ?_
    refine .goto (pc := 144) X213 hx 5 (hb hby d34_144) (by decide) (by decide) ?_
    refine .iload X213 hx (hb hby d34_5) rfl ?_
    refine .aloadN X213 hx (hb hby d34_7) rfl rfl ?_
    obtain ⟨cq214, kq214, q214a, q214b, q214c⟩ := isOf hZ e213 SS.1
    obtain ⟨_, _, ⟨T214, L214, k214, n214⟩, -, X214, ⟨Lc214, hQ214, l214, y214, z214⟩, st214⟩ := X213.virtualBack hx (y := (⟨"java/lang/String", "length", "()I"⟩ : MethodName)) (z := (⟨"java/lang/String", "length", "()I"⟩ : MethodName)) hown (mvT hZ (W_ hw 71 rfl)) (mvT hZ (W_ hw 72 rfl)) (notFace_of_selects (args := #[]) (mvT hZ (W_ hw 74 rfl))) (mvT hZ (W_ hw 74 rfl)) (mvT hZ (W_ hw 73 rfl)) (by decide) (backOf (W := 1) (rmslen l Z a0 hw [] x t kb [c0, c1] zc h213 n0 Z_ O_ S_CS P_CS SS) hZ (W_ hw 75 rfl) (W_ hw 7 rfl) (by decide) (by decide)) q214a q214c (g := (mkF m 8 #[.val (.ref x), .val (.ref d), .val (.int (Int32.ofNat (List.length bl))), .val (.int (Int32.ofNat (List.length ((bl ++ own_enc c0) ++ own_enc c1)))), .val (.int (2 : Int32)), .val (.int c1)] [(.ref x), (.int (2 : Int32))])) rfl (by rw [hml]; rfl) (Steps.refl _) (argsL := []) (rest := [(.int (2 : Int32))]) (lenOf pd_17 rfl) rfl (Nat.le_of_eq rfl) (hb hby d34_8) (fun _ _ => ⟨rfl, e213, (by decide : 0 + 0 ≤ _), (by decide : 0 + 0 ≤ _)⟩)
    dsimp only [Pt.U, Pt.locs, Pt.cells, Pt.slots] at X214 l214 y214 z214 st214 hQ214
    subst y214 z214
    obtain ⟨rfl, N214q, e214⟩ := hQ214
    have N214 := own_frl l214 N213 N214q
    refine .st (fun _ => st214.trans) ?_
    show OwnGo p e below s _ _ _ T214 (mkF m 11 _ [(.int (2 : Int32)), (.int (2 : Int32))])
    refine .icmpYes (pc := 11) X214 hx 147 (hb hby d34_11) (flt ((by decide) : ¬ ((2 : Int32) < (2 : Int32)))).2.1 (by decide) (by decide) ?_
    refine .iloadN X214 hx (hb hby d34_147) rfl ?_
    have eB : bl ++ own_encs [c0, c1] = ((bl ++ own_enc c0) ++ own_enc c1) := by simp only [own_encs, List.append_nil, List.append_assoc]
    exact OwnGo.ret X214 hx hret hlk rfl (Or.inl ⟨rfl, Or.inl rfl, _, rfl⟩) (hb hby d34_148) (by show Qenc Z x t kb [c0, c1] d kd bl zc fmv h0 n0 _ T214.heap _; rw [e214]; exact ⟨by rw [eB], N214, Kp, by rw [eB]; exact V_d⟩) (by decide) (by decide)
  · exact False.elim SS
def Qws (Z : State) (x : Addr) (t : Addr) (kb : ClassId) (cl : List Int32) (o : Addr) (d : Addr) (kd : ClassId) (bl : List Int32) (zc : Int32) (fmv : Value) (h0 : Heap) (n0 : Nat) (v : Option Value) (h : Heap) (L : List Loc) : Prop := v = none ∧ Fr n0 L ∧ Keep h0 h [o, d] ∧ Fld Z h o "com/example/cofferhand/cofferhand/nbt/NbtWriter" "buffer" "[B" (.ref d) ∧ Fld Z h o "com/example/cofferhand/cofferhand/nbt/NbtWriter" "size" "I" (.int (Int32.ofNat (List.length ((bl ++ [((Int32.ofNat (List.length (own_encs cl))) >>> ((8 : Int32) &&& 31)).toInt8.toInt32, (Int32.ofNat (List.length (own_encs cl))).toInt8.toInt32]) ++ own_encs cl)))) ∧ Arv Z h d kd .byte (256 : Int32) (List.map Value.int ((bl ++ [((Int32.ofNat (List.length (own_encs cl))) >>> ((8 : Int32) &&& 31)).toInt8.toInt32, (Int32.ofNat (List.length (own_encs cl))).toInt8.toInt32]) ++ own_encs cl)) (.int (0 : Int32))
theorem rmws (l : Launch) (Z : State) (a0 : Array Value) (hw : own_tb a0 Z) (ws : List Jvm.Cond) (x : Addr) (t : Addr) (kb : ClassId) (cl : List Int32) (o : Addr) (d : Addr) (kd : ClassId) (bl : List Int32) (zc : Int32) (fmv : Value) (h0 : Heap) (n0 : Nat) (Z0 : n0 ≤ h0.size) (O_ : Old Z n0 h0) (S_CS : Sta Z Z.heap "java/lang/String" "COMPACT_STRINGS" "Z" (.int zc)) (P_CS : ¬ zc = (0 : Int32)) (S_AD : Sta Z Z.heap "java/lang/StringUTF16" "$assertionsDisabled" "Z" (.int (1 : Int32))) (S_HB : Sta Z Z.heap "java/lang/StringUTF16" "HI_BYTE_SHIFT" "I" (.int (0 : Int32))) (S_LB : Sta Z Z.heap "java/lang/StringUTF16" "LO_BYTE_SHIFT" "I" (.int (8 : Int32))) (S_SF : Sta Z Z.heap "jdk/internal/util/Preconditions" "SIOOBE_FORMATTER" "Ljava/util/function/BiFunction;" fmv) (rf_fmv : fmv.isRef = true) (SS : own_T Z h0 x t kb cl) (hcl : List.length cl ≤ 2) (hu : ∀ c ∈ cl, own_u c) (E_o : Exa Z h0 o "com/example/cofferhand/cofferhand/nbt/NbtWriter") (Fb : Fld Z h0 o "com/example/cofferhand/cofferhand/nbt/NbtWriter" "buffer" "[B" (.ref d)) (Fs : Fld Z h0 o "com/example/cofferhand/cofferhand/nbt/NbtWriter" "size" "I" (.int (Int32.ofNat (List.length bl)))) (V_d : Arv Z h0 d kd .byte (256 : Int32) (List.map Value.int bl) (.int (0 : Int32))) (g_o : n0 ≤ o) (g_d : n0 ≤ d) (ne_o_d : o ≠ d) (hl : List.length bl + 30 ≤ 256) (ne_x_o : x ≠ o) (ne_x_d : x ≠ d) (ne_t_o : t ≠ o) (ne_t_d : t ≠ d) :
    OwnMet l (⟨"com/example/cofferhand/cofferhand/nbt/NbtWriter", "writeString", "(Ljava/lang/String;)V"⟩ : MethodName) prog_41_method_5_code 3 none ws ({ frames := 6, cells := 0, slots := 0, locals := 84 } : Room) #[(.ref o), (.ref x)] Z h0 (Qws Z x t kb cl o d kd bl zc fmv h0 n0) := by
  refine own_met (plainFor_of_name pn_24) ?_
  intro p e s m below meth c s₁ X0 hx hby hml hret hlk hown hnm hZ e0
  have N0 := Fr.nil n0
  have Z_ := Z0
  refine OwnGo.cast (ef_ws m o x) ?_
  show OwnGo p e below s _ _ _ s₁ (mkF m 0 _ [])
  have Kp : Keep h0 h0 [o, d] := Keep.refl h0 [o, d]
  refine .aloadN X0 hx (hb hby d26_0) rfl rfl ?_
  obtain ⟨_, _, ⟨T215, L215, k215, n215⟩, -, X215, ⟨Lc215, hQ215, l215, y215, z215⟩, st215⟩ := Jvm.LawKit.callS X0 hx (y := (⟨"com/example/cofferhand/cofferhand/nbt/ModifiedUtf8", "encodedLength", "(Ljava/lang/String;)J"⟩ : MethodName)) hown (mvT hZ (W_ hw 157 rfl)) (mvT hZ (W_ hw 158 rfl)) (mvT hZ (W_ hw 66 rfl)) (mvT hZ (W_ hw 159 rfl)) (by decide) (backOf (W := 0) (rmelen l Z a0 hw [] x t kb cl zc fmv h0 n0 Z_ O_ S_CS P_CS S_AD S_HB S_LB S_SF rf_fmv SS hu) hZ (W_ hw 159 rfl) (W_ hw 66 rfl) (by decide) (by decide)) (g := (mkF m 1 #[.val (.ref o), .val (.ref x), .unset] [(.ref x)])) rfl (by rw [hml]; rfl) (argsL := [(.ref x)]) (rest := []) (lenOf pd_21 rfl) rfl (Nat.le_of_eq rfl) (hb hby d26_1) (fun _ _ => ⟨rfl, e0, (by decide : 0 + 0 ≤ _), (by decide : 0 + 0 ≤ _)⟩)
  dsimp only [Pt.U, Pt.locs, Pt.cells, Pt.slots] at X215 l215 y215 z215 st215 hQ215
  subst y215 z215
  obtain ⟨rfl, N215q, e215⟩ := hQ215
  have N215 := own_frl l215 N0 N215q
  refine .st st215 ?_
  show OwnGo p e below s _ _ _ T215 (mkF m 4 _ [(.long (own_xs cl))])
  refine .st (fun _ => XS.l2i X215.here hx rfl (hb hby d26_4) rfl) ?_
  show OwnGo p e below s _ _ _ T215 (mkF m 5 _ [(.int ((own_xs cl).toInt32))])
  rw [own_elT cl hcl]
  show OwnGo p e below s _ _ _ T215 (mkF m 5 _ [(.int (Int32.ofNat (List.length (own_encs cl))))])
  refine .istoreN X215 hx (hb hby d26_5) (L' := #[.val (.ref o), .val (.ref x), .val (.int (Int32.ofNat (List.length (own_encs cl))))]) rfl ?_
  refine .aloadN X215 hx (hb hby d26_6) rfl rfl ?_
  refine .iloadN X215 hx (hb hby d26_7) rfl ?_
  obtain ⟨cq216, q216, q216'⟩ := E_o.cell
  obtain ⟨_, _, ⟨T216, L216, k216, n216⟩, -, X216, ⟨Lc216, hQ216, l216, y216, z216⟩, st216⟩ := X215.privateBack hx (y := (⟨"com/example/cofferhand/cofferhand/nbt/NbtWriter", "writeShort", "(I)V"⟩ : MethodName)) hown (mvT hZ (W_ hw 181 rfl)) (mvT hZ (W_ hw 182 rfl)) (own_selp (z := (⟨"com/example/cofferhand/cofferhand/nbt/NbtWriter", "toByteArray", "()[B"⟩ : MethodName)) (mvT hZ (W_ hw 98 rfl)) rfl (Cond.privateMethod_at (mvP hZ (W_ hw 183 rfl) (args := #[]))) (mvT hZ (W_ hw 182 rfl)) (by decide)) (Cond.privateMethod_at (mvP hZ (W_ hw 183 rfl) (args := #[]))) (mvT hZ (W_ hw 184 rfl)) (by decide) (backOf (W := 0) (rmwriteShort l Z a0 hw [] o d kd bl (Int32.ofNat (List.length (own_encs cl))) h0 n0 Z_ E_o Fb Fs V_d g_o g_d ne_o_d (by omega)) hZ (W_ hw 184 rfl) (W_ hw 88 rfl) (by decide) (by decide)) (g := (mkF m 8 #[.val (.ref o), .val (.ref x), .val (.int (Int32.ofNat (List.length (own_encs cl))))] [(.int (Int32.ofNat (List.length (own_encs cl)))), (.ref o)])) rfl (by rw [hml]; rfl) (Steps.refl _) (a := o) (by rw [e215]; exact q216) q216' (argsL := [(.int (Int32.ofNat (List.length (own_encs cl))))]) (rest := []) (lenOf pd_20 rfl) rfl (Nat.le_of_eq rfl) (hb hby d26_8) (fun _ _ => ⟨rfl, e215, (by decide : 0 + 0 ≤ _), (by decide : 0 + 0 ≤ _)⟩)
  dsimp only [Pt.U, Pt.locs, Pt.cells, Pt.slots] at X216 l216 y216 z216 st216 hQ216
  subst y216 z216
  obtain ⟨rfl, N216q, K216, Fb216, Fs216, V216⟩ := hQ216
  have N216 := own_frl l216 N215 N216q
  have Z_ : n0 ≤ T216.heap.size := Nat.le_trans Z_ K216.1
  have E_o := E_o.keep K216
  have O_ := O_.keep K216 (allS g_o (allS g_d all0))
  have Kp := Kp.trans K216 (allS (Or.inl (List.mem_of_getElem? (i := 0) rfl)) (allS (Or.inl (List.mem_of_getElem? (i := 1) rfl)) all0))
  have Fb := Fb216
  have Fs := Fs216
  have V_d := V216
  refine .st (fun _ => st216.trans) ?_
  show OwnGo p e below s _ _ _ T216 (mkF m 11 _ [])
  have SS := SS.keep K216 (ninS ne_x_o (ninS ne_x_d nin0)) (ninS ne_t_o (ninS ne_t_d nin0))
  refine .aloadN X216 hx (hb hby d26_11) rfl rfl ?_
  refine .iloadN X216 hx (hb hby d26_12) rfl ?_
  obtain ⟨cq217, q217, q217'⟩ := E_o.cell
  obtain ⟨_, _, ⟨T217, L217, k217, n217⟩, -, X217, ⟨Lc217, hQ217, l217, y217, z217⟩, st217⟩ := X216.privateBack hx (y := (⟨"com/example/cofferhand/cofferhand/nbt/NbtWriter", "ensure", "(I)V"⟩ : MethodName)) hown (mvT hZ (W_ hw 144 rfl)) (mvT hZ (W_ hw 145 rfl)) (own_selp (z := (⟨"com/example/cofferhand/cofferhand/nbt/NbtWriter", "toByteArray", "()[B"⟩ : MethodName)) (mvT hZ (W_ hw 98 rfl)) rfl (Cond.privateMethod_at (mvP hZ (W_ hw 146 rfl) (args := #[]))) (mvT hZ (W_ hw 145 rfl)) (by decide)) (Cond.privateMethod_at (mvP hZ (W_ hw 146 rfl) (args := #[]))) (mvT hZ (W_ hw 147 rfl)) (by decide) (backOf (W := 0) (rmens l Z a0 hw [] o d kd (bl ++ [((Int32.ofNat (List.length (own_encs cl))) >>> ((8 : Int32) &&& 31)).toInt8.toInt32, (Int32.ofNat (List.length (own_encs cl))).toInt8.toInt32]) (Int32.ofNat (List.length (own_encs cl))) T216.heap n0 Z_ Fb Fs V_d (own_ens (by have z6 := own_encsl cl hcl; simp only [List.length_append, List.length_cons, List.length_nil] <;> omega))) hZ (W_ hw 147 rfl) (W_ hw 88 rfl) (by decide) (by decide)) (g := (mkF m 13 #[.val (.ref o), .val (.ref x), .val (.int (Int32.ofNat (List.length (own_encs cl))))] [(.int (Int32.ofNat (List.length (own_encs cl)))), (.ref o)])) rfl (by rw [hml]; rfl) (Steps.refl _) (a := o) q217 q217' (argsL := [(.int (Int32.ofNat (List.length (own_encs cl))))]) (rest := []) (lenOf pd_20 rfl) rfl (Nat.le_of_eq rfl) (hb hby d26_13) (fun _ _ => ⟨rfl, rfl, (by decide : 0 + 0 ≤ _), (by decide : 0 + 0 ≤ _)⟩)
  dsimp only [Pt.U, Pt.locs, Pt.cells, Pt.slots] at X217 l217 y217 z217 st217 hQ217
  subst y217 z217
  obtain ⟨rfl, N217q, e217⟩ := hQ217
  have N217 := own_frl l217 N216 N217q
  refine .st (fun _ => st217.trans) ?_
  show OwnGo p e below s _ _ _ T217 (mkF m 16 _ [])
  refine .aloadN X217 hx (hb hby d26_16) rfl rfl ?_
  refine .aloadN X217 hx (hb hby d26_17) rfl rfl ?_
  refine .aloadN X217 hx (hb hby d26_18) rfl rfl ?_
  obtain ⟨T218, X218, e218, st218⟩ := getF X217 hx hZ hown (host := "") (Or.inl (W_ hw 93 rfl)) Via.refl e217 Fb (g := (mkF m 19 #[.val (.ref o), .val (.ref x), .val (.int (Int32.ofNat (List.length (own_encs cl))))] [(.ref o), (.ref x), (.ref o)])) rfl rfl (hb hby d26_19)
  refine .st st218 ?_
  show OwnGo p e below s _ _ _ T218 (mkF m 22 _ [(.ref d), (.ref x), (.ref o)])
  refine .aloadN X218 hx (hb hby d26_22) rfl rfl ?_
  obtain ⟨T219, X219, e219, st219⟩ := getF X218 hx hZ hown (host := "") (Or.inl (W_ hw 100 rfl)) Via.refl e218 Fs (g := (mkF m 23 #[.val (.ref o), .val (.ref x), .val (.int (Int32.ofNat (List.length (own_encs cl))))] [(.ref o), (.ref d), (.ref x), (.ref o)])) rfl rfl (hb hby d26_23)
  refine .st st219 ?_
  show OwnGo p e below s _ _ _ T219 (mkF m 26 _ [(.int (Int32.ofNat (List.length (bl ++ [((Int32.ofNat (List.length (own_encs cl))) >>> ((8 : Int32) &&& 31)).toInt8.toInt32, (Int32.ofNat (List.length (own_encs cl))).toInt8.toInt32])))), (.ref d), (.ref x), (.ref o)])
  obtain ⟨_, _, ⟨T220, L220, k220, n220⟩, -, X220, ⟨Lc220, hQ220, l220, y220, z220⟩, st220⟩ := Jvm.LawKit.callS X219 hx (y := (⟨"com/example/cofferhand/cofferhand/nbt/ModifiedUtf8", "encode", "(Ljava/lang/String;[BI)I"⟩ : MethodName)) hown (mvT hZ (W_ hw 185 rfl)) (mvT hZ (W_ hw 186 rfl)) (mvT hZ (W_ hw 66 rfl)) (mvT hZ (W_ hw 187 rfl)) (by decide) (backOf (W := 1) (rmenc l Z a0 hw [] x t kb cl d kd (bl ++ [((Int32.ofNat (List.length (own_encs cl))) >>> ((8 : Int32) &&& 31)).toInt8.toInt32, (Int32.ofNat (List.length (own_encs cl))).toInt8.toInt32]) zc fmv T216.heap n0 Z_ O_ S_CS P_CS S_AD S_HB S_LB S_SF rf_fmv SS hu V_d g_d ne_x_d ne_t_d (by have z6 := own_encsl cl hcl; simp only [List.length_append, List.length_cons, List.length_nil] <;> omega)) hZ (W_ hw 187 rfl) (W_ hw 66 rfl) (by decide) (by decide)) (g := (mkF m 26 #[.val (.ref o), .val (.ref x), .val (.int (Int32.ofNat (List.length (own_encs cl))))] [(.int (Int32.ofNat (List.length (bl ++ [((Int32.ofNat (List.length (own_encs cl))) >>> ((8 : Int32) &&& 31)).toInt8.toInt32, (Int32.ofNat (List.length (own_encs cl))).toInt8.toInt32])))), (.ref d), (.ref x), (.ref o)])) rfl (by rw [hml]; rfl) (argsL := [(.ref x), (.ref d), (.int (Int32.ofNat (List.length (bl ++ [((Int32.ofNat (List.length (own_encs cl))) >>> ((8 : Int32) &&& 31)).toInt8.toInt32, (Int32.ofNat (List.length (own_encs cl))).toInt8.toInt32]))))]) (rest := [(.ref o)]) (lenOf pd_22 rfl) rfl (Nat.le_of_eq rfl) (hb hby d26_26) (fun _ _ => ⟨rfl, e219, (by decide : 0 + 0 ≤ _), (by decide : 0 + 0 ≤ _)⟩)
  dsimp only [Pt.U, Pt.locs, Pt.cells, Pt.slots] at X220 l220 y220 z220 st220 hQ220
  subst y220 z220
  obtain ⟨rfl, N220q, K220, V220⟩ := hQ220
  have N220 := own_frl l220 N217 N220q
  have Z_ : n0 ≤ T220.heap.size := Nat.le_trans Z_ K220.1
  have E_o := E_o.keep K220
  have Fb := Fb.keep K220 (ninS ne_o_d nin0)
  have Fs := Fs.keep K220 (ninS ne_o_d nin0)
  have O_ := O_.keep K220 (allS g_d all0)
  have Kp := Kp.trans K220 (allS (Or.inl (List.mem_of_getElem? (i := 1) rfl)) all0)
  have V_d := V220
  refine .st st220 ?_
  show OwnGo p e below s _ _ _ T220 (mkF m 29 _ [(.int (Int32.ofNat (List.length ((bl ++ [((Int32.ofNat (List.length (own_encs cl))) >>> ((8 : Int32) &&& 31)).toInt8.toInt32, (Int32.ofNat (List.length (own_encs cl))).toInt8.toInt32]) ++ own_encs cl)))), (.ref o)])
  obtain ⟨T221, h221, X221, e221, W221, st221⟩ := putF X220 hx hZ hown (host := "") (Or.inl (W_ hw 100 rfl)) Via.refl rfl Fs E_o (Or.inl (W_ hw 101 rfl)) (W_ hw 87 rfl) (ty := .int) (by decide) rfl rfl (g := (mkF m 29 #[.val (.ref o), .val (.ref x), .val (.int (Int32.ofNat (List.length (own_encs cl))))] [(.int (Int32.ofNat (List.length ((bl ++ [((Int32.ofNat (List.length (own_encs cl))) >>> ((8 : Int32) &&& 31)).toInt8.toInt32, (Int32.ofNat (List.length (own_encs cl))).toInt8.toInt32]) ++ own_encs cl)))), (.ref o)])) rfl rfl (hb hby d26_29)
  have E_o := E_o.wr W221
  have Fb := Fb.other W221 (Or.inr (slot_ne (Or.inl (W_ hw 94 rfl)) (Or.inl (W_ hw 101 rfl)) (by decide) (t := (.array .byte)) (t' := .int) (by decide) (by decide)))
  have Fs := Fs.same W221
  have V_d := V_d.other W221 (Ne.symm ne_o_d)
  have O_ := O_.wr W221 g_o
  have Kp := Kp.wr W221 (Or.inl (List.mem_of_getElem? (i := 0) rfl))
  have N221 := Fr.snoc X221 N220 g_o
  have Z_ : n0 ≤ h221.size := by rw [W221.size]; exact Z_
  refine .st st221 ?_
  show OwnGo p e below s _ _ _ T221 (mkF m 32 _ [])
  exact OwnGo.retV X221 hx hret hlk (hb hby d26_32) (by show Qws Z x t kb cl o d kd bl zc fmv h0 n0 _ T221.heap _; rw [e221]; exact ⟨rfl, N221, Kp, Fb, Fs, V_d⟩) (by decide) (by decide)
def Qgtag (Z : State) (g : Addr) (q : Addr) (h0 : Heap) (n0 : Nat) (v : Option Value) (h : Heap) (L : List Loc) : Prop := v = some (.ref q) ∧ Fr n0 L ∧ h = h0
theorem rmgtag (l : Launch) (Z : State) (a0 : Array Value) (hw : own_tb a0 Z) (ws : List Jvm.Cond) (g : Addr) (q : Addr) (h0 : Heap) (n0 : Nat) (Z0 : n0 ≤ h0.size) (F : Fld Z h0 g "com/example/cofferhand/cofferhand/nbt/NamedTag" "tag" "Lcom/example/cofferhand/cofferhand/nbt/Tag;" (.ref q)) :
    OwnMet l (⟨"com/example/cofferhand/cofferhand/nbt/NamedTag", "tag", "()Lcom/example/cofferhand/cofferhand/nbt/Tag;"⟩ : MethodName) prog_33_method_6_code 1 (some (.object "com/example/cofferhand/cofferhand/nbt/Tag")) ws ({ frames := 0, cells := 0, slots := 0, locals := 0 } : Room) #[(.ref g)] Z h0 (Qgtag Z g q h0 n0) := by
  refine own_met (plainFor_of_name pn_20) ?_
  intro p e s m below meth c s₁ X0 hx hby hml hret hlk hown hnm hZ e0
  have N0 := Fr.nil n0
  have Z_ := Z0
  refine OwnGo.cast (ef_gtag m g) ?_
  show OwnGo p e below s _ _ _ s₁ (mkF m 0 _ [])
  refine .aloadN X0 hx (hb hby d20_0) rfl rfl ?_
  obtain ⟨T222, X222, e222, st222⟩ := getF X0 hx hZ hown (host := "") (Or.inl (W_ hw 84 rfl)) Via.refl e0 F (g := (mkF m 1 #[.val (.ref g)] [(.ref g)])) rfl rfl (hb hby d20_1)
  refine .st st222 ?_
  show OwnGo p e below s _ _ _ T222 (mkF m 4 _ [(.ref q)])
  exact OwnGo.ret X222 hx hret hlk rfl (Or.inr (Or.inr (Or.inr (Or.inr ⟨rfl, rfl, rfl⟩)))) (hb hby d20_4) (by show Qgtag Z g q h0 n0 _ T222.heap _; rw [e222]; exact ⟨rfl, N0, rfl⟩) (by decide) (by decide)
def Qgname (Z : State) (g : Addr) (q : Addr) (h0 : Heap) (n0 : Nat) (v : Option Value) (h : Heap) (L : List Loc) : Prop := v = some (.ref q) ∧ Fr n0 L ∧ h = h0
theorem rmgname (l : Launch) (Z : State) (a0 : Array Value) (hw : own_tb a0 Z) (ws : List Jvm.Cond) (g : Addr) (q : Addr) (h0 : Heap) (n0 : Nat) (Z0 : n0 ≤ h0.size) (F : Fld Z h0 g "com/example/cofferhand/cofferhand/nbt/NamedTag" "name" "Ljava/lang/String;" (.ref q)) :
    OwnMet l (⟨"com/example/cofferhand/cofferhand/nbt/NamedTag", "name", "()Ljava/lang/String;"⟩ : MethodName) prog_33_method_5_code 1 (some (.object "java/lang/String")) ws ({ frames := 0, cells := 0, slots := 0, locals := 0 } : Room) #[(.ref g)] Z h0 (Qgname Z g q h0 n0) := by
  refine own_met (plainFor_of_name pn_20) ?_
  intro p e s m below meth c s₁ X0 hx hby hml hret hlk hown hnm hZ e0
  have N0 := Fr.nil n0
  have Z_ := Z0
  refine OwnGo.cast (ef_gname m g) ?_
  show OwnGo p e below s _ _ _ s₁ (mkF m 0 _ [])
  refine .aloadN X0 hx (hb hby d25_0) rfl rfl ?_
  obtain ⟨T223, X223, e223, st223⟩ := getF X0 hx hZ hown (host := "") (Or.inl (W_ hw 82 rfl)) Via.refl e0 F (g := (mkF m 1 #[.val (.ref g)] [(.ref g)])) rfl rfl (hb hby d25_1)
  refine .st st223 ?_
  show OwnGo p e below s _ _ _ T223 (mkF m 4 _ [(.ref q)])
  exact OwnGo.ret X223 hx hret hlk rfl (Or.inr (Or.inr (Or.inr (Or.inr ⟨rfl, rfl, rfl⟩)))) (hb hby d25_4) (by show Qgname Z g q h0 n0 _ T223.heap _; rw [e223]; exact ⟨rfl, N0, rfl⟩) (by decide) (by decide)
def Qgval (Z : State) (g : Addr) (q : Int64) (h0 : Heap) (n0 : Nat) (v : Option Value) (h : Heap) (L : List Loc) : Prop := v = some (.long q) ∧ Fr n0 L ∧ h = h0
theorem rmgval (l : Launch) (Z : State) (a0 : Array Value) (hw : own_tb a0 Z) (ws : List Jvm.Cond) (g : Addr) (q : Int64) (h0 : Heap) (n0 : Nat) (Z0 : n0 ≤ h0.size) (F : Fld Z h0 g "com/example/cofferhand/cofferhand/nbt/LongTag" "value" "J" (.long q)) :
    OwnMet l (⟨"com/example/cofferhand/cofferhand/nbt/LongTag", "value", "()J"⟩ : MethodName) prog_31_method_6_code 1 (some .long) ws ({ frames := 0, cells := 0, slots := 0, locals := 0 } : Room) #[(.ref g)] Z h0 (Qgval Z g q h0 n0) := by
  refine own_met (plainFor_of_name pn_37) ?_
  intro p e s m below meth c s₁ X0 hx hby hml hret hlk hown hnm hZ e0
  have N0 := Fr.nil n0
  have Z_ := Z0
  refine OwnGo.cast (ef_gval m g) ?_
  show OwnGo p e below s _ _ _ s₁ (mkF m 0 _ [])
  refine .aloadN X0 hx (hb hby d37_0) rfl rfl ?_
  obtain ⟨T224, X224, e224, st224⟩ := getF X0 hx hZ hown (host := "") (Or.inl (W_ hw 50 rfl)) Via.refl e0 F (g := (mkF m 1 #[.val (.ref g)] [(.ref g)])) rfl rfl (hb hby d37_1)
  refine .st st224 ?_
  show OwnGo p e below s _ _ _ T224 (mkF m 4 _ [(.long q)])
  exact OwnGo.ret X224 hx hret hlk rfl (Or.inr (Or.inl ⟨rfl, rfl, _, rfl⟩)) (hb hby d37_4) (by show Qgval Z g q h0 n0 _ T224.heap _; rw [e224]; exact ⟨rfl, N0, rfl⟩) (by decide) (by decide)
def Qgid (Z : State) (g : Addr) (q : Int32) (h0 : Heap) (n0 : Nat) (v : Option Value) (h : Heap) (L : List Loc) : Prop := v = some (.int q) ∧ Fr n0 L ∧ h = h0
theorem rmgid (l : Launch) (Z : State) (a0 : Array Value) (hw : own_tb a0 Z) (ws : List Jvm.Cond) (g : Addr) (q : Int32) (h0 : Heap) (n0 : Nat) (Z0 : n0 ≤ h0.size) (F : Fld Z h0 g "com/example/cofferhand/cofferhand/nbt/TagType" "id" "I" (.int q)) :
    OwnMet l (⟨"com/example/cofferhand/cofferhand/nbt/TagType", "id", "()I"⟩ : MethodName) prog_47_method_4_code 1 (some .int) ws ({ frames := 0, cells := 0, slots := 0, locals := 0 } : Room) #[(.ref g)] Z h0 (Qgid Z g q h0 n0) := by
  refine own_met (plainFor_of_name pn_22) ?_
  intro p e s m below meth c s₁ X0 hx hby hml hret hlk hown hnm hZ e0
  have N0 := Fr.nil n0
  have Z_ := Z0
  refine OwnGo.cast (ef_gid m g) ?_
  show OwnGo p e below s _ _ _ s₁ (mkF m 0 _ [])
  refine .aloadN X0 hx (hb hby d22_0) rfl rfl ?_
  obtain ⟨T225, X225, e225, st225⟩ := getF X0 hx hZ hown (host := "") (Or.inl (W_ hw 138 rfl)) Via.refl e0 F (g := (mkF m 1 #[.val (.ref g)] [(.ref g)])) rfl rfl (hb hby d22_1)
  refine .st st225 ?_
  show OwnGo p e below s _ _ _ T225 (mkF m 4 _ [(.int q)])
  exact OwnGo.ret X225 hx hret hlk rfl (Or.inl ⟨rfl, Or.inl rfl, _, rfl⟩) (hb hby d22_4) (by show Qgid Z g q h0 n0 _ T225.heap _; rw [e225]; exact ⟨rfl, N0, rfl⟩) (by decide) (by decide)
def Qgord (Z : State) (g : Addr) (q : Int32) (h0 : Heap) (n0 : Nat) (v : Option Value) (h : Heap) (L : List Loc) : Prop := v = some (.int q) ∧ Fr n0 L ∧ h = h0
theorem rmgord (l : Launch) (Z : State) (a0 : Array Value) (hw : own_tb a0 Z) (ws : List Jvm.Cond) (g : Addr) (q : Int32) (h0 : Heap) (n0 : Nat) (Z0 : n0 ≤ h0.size) (F : Fld Z h0 g "java/lang/Enum" "ordinal" "I" (.int q)) :
    OwnMet l (⟨"java/lang/Enum", "ordinal", "()I"⟩ : MethodName) jdk_37_method_2_code 1 (some .int) ws ({ frames := 0, cells := 0, slots := 0, locals := 0 } : Room) #[(.ref g)] Z h0 (Qgord Z g q h0 n0) := by
  refine own_met (plainFor_of_name pn_36) ?_
  intro p e s m below meth c s₁ X0 hx hby hml hret hlk hown hnm hZ e0
  have N0 := Fr.nil n0
  have Z_ := Z0
  refine OwnGo.cast (ef_gord m g) ?_
  show OwnGo p e below s _ _ _ s₁ (mkF m 0 _ [])
  refine .aloadN X0 hx (hb hby d36_0) rfl rfl ?_
  obtain ⟨T226, X226, e226, st226⟩ := getF X0 hx hZ hown (host := "") (Or.inl (W_ hw 202 rfl)) Via.refl e0 F (g := (mkF m 1 #[.val (.ref g)] [(.ref g)])) rfl rfl (hb hby d36_1)
  refine .st st226 ?_
  show OwnGo p e below s _ _ _ T226 (mkF m 4 _ [(.int q)])
  exact OwnGo.ret X226 hx hret hlk rfl (Or.inl ⟨rfl, Or.inl rfl, _, rfl⟩) (hb hby d36_4) (by show Qgord Z g q h0 n0 _ T226.heap _; rw [e226]; exact ⟨rfl, N0, rfl⟩) (by decide) (by decide)
def Qgty (Z : State) (g : Addr) (u_TagType_LONG : Addr) (u_1__SwitchMap_com_example_cofferhand_cofferhand_nbt_TagType : Addr) (kc_u_1__SwitchMap_com_example_cofferhand_cofferhand_nbt_TagType : ClassId) (zc : Int32) (fmv : Value) (h0 : Heap) (n0 : Nat) (v : Option Value) (h : Heap) (L : List Loc) : Prop := v = some (.ref u_TagType_LONG) ∧ Fr n0 L ∧ h = h0
theorem rmgty (l : Launch) (Z : State) (a0 : Array Value) (hw : own_tb a0 Z) (ws : List Jvm.Cond) (g : Addr) (u_TagType_LONG : Addr) (u_1__SwitchMap_com_example_cofferhand_cofferhand_nbt_TagType : Addr) (kc_u_1__SwitchMap_com_example_cofferhand_cofferhand_nbt_TagType : ClassId) (zc : Int32) (fmv : Value) (h0 : Heap) (n0 : Nat) (Z0 : n0 ≤ h0.size) (O_ : Old Z n0 h0) (S_u_TagType_LONG : Sta Z Z.heap "com/example/cofferhand/cofferhand/nbt/TagType" "LONG" "Lcom/example/cofferhand/cofferhand/nbt/TagType;" (.ref u_TagType_LONG)) (E_u_TagType_LONG : Exa Z Z.heap u_TagType_LONG "com/example/cofferhand/cofferhand/nbt/TagType") (F_u_TagType_LONG_id : Fld Z Z.heap u_TagType_LONG "com/example/cofferhand/cofferhand/nbt/TagType" "id" "I" (.int (4 : Int32))) (S_u_1__SwitchMap_com_example_cofferhand_cofferhand_nbt_TagType : Sta Z Z.heap "com/example/cofferhand/cofferhand/nbt/NbtWriter$1" "$SwitchMap$com$example$cofferhand$cofferhand$nbt$TagType" "[I" (.ref u_1__SwitchMap_com_example_cofferhand_cofferhand_nbt_TagType)) (F_u_TagType_LONG_ordinal : Fld Z Z.heap u_TagType_LONG "java/lang/Enum" "ordinal" "I" (.int (4 : Int32))) (V_u_1__SwitchMap_com_example_cofferhand_cofferhand_nbt_TagType : Arv Z Z.heap u_1__SwitchMap_com_example_cofferhand_cofferhand_nbt_TagType kc_u_1__SwitchMap_com_example_cofferhand_cofferhand_nbt_TagType .int (13 : Int32) [(.int (0 : Int32)), (.int (1 : Int32)), (.int (2 : Int32)), (.int (3 : Int32)), (.int (4 : Int32)), (.int (5 : Int32)), (.int (6 : Int32)), (.int (7 : Int32)), (.int (8 : Int32)), (.int (9 : Int32)), (.int (10 : Int32)), (.int (11 : Int32)), (.int (12 : Int32))] (.int (0 : Int32))) (S_CS : Sta Z Z.heap "java/lang/String" "COMPACT_STRINGS" "Z" (.int zc)) (P_CS : ¬ zc = (0 : Int32)) (S_SF : Sta Z Z.heap "jdk/internal/util/Preconditions" "SIOOBE_FORMATTER" "Ljava/util/function/BiFunction;" fmv) (rf_fmv : fmv.isRef = true) (S_AD : Sta Z Z.heap "java/lang/StringUTF16" "$assertionsDisabled" "Z" (.int (1 : Int32))) (S_HB : Sta Z Z.heap "java/lang/StringUTF16" "HI_BYTE_SHIFT" "I" (.int (0 : Int32))) (S_LB : Sta Z Z.heap "java/lang/StringUTF16" "LO_BYTE_SHIFT" "I" (.int (8 : Int32))) :
    OwnMet l (⟨"com/example/cofferhand/cofferhand/nbt/LongTag", "type", "()Lcom/example/cofferhand/cofferhand/nbt/TagType;"⟩ : MethodName) prog_31_method_2_code 1 (some (.object "com/example/cofferhand/cofferhand/nbt/TagType")) ws ({ frames := 0, cells := 0, slots := 0, locals := 0 } : Room) #[(.ref g)] Z h0 (Qgty Z g u_TagType_LONG u_1__SwitchMap_com_example_cofferhand_cofferhand_nbt_TagType kc_u_1__SwitchMap_com_example_cofferhand_cofferhand_nbt_TagType zc fmv h0 n0) := by
  refine own_met (plainFor_of_name pn_37) ?_
  intro p e s m below meth c s₁ X0 hx hby hml hret hlk hown hnm hZ e0
  have N0 := Fr.nil n0
  have Z_ := Z0
  refine OwnGo.cast (ef_gty m g) ?_
  show OwnGo p e below s _ _ _ s₁ (mkF m 0 _ [])
  obtain ⟨T227, X227, e227, st227⟩ := getS2 X0 hx hZ hown (host := "") (Or.inl (W_ hw 130 rfl)) Via.refl e0 (S_u_TagType_LONG.ext O_.2) (g := (mkF m 0 #[.val (.ref g)] [])) rfl (hb hby d21_0)
  refine .st st227 ?_
  show OwnGo p e below s _ _ _ T227 (mkF m 3 _ [(.ref u_TagType_LONG)])
  exact OwnGo.ret X227 hx hret hlk rfl (Or.inr (Or.inr (Or.inr (Or.inr ⟨rfl, rfl, rfl⟩)))) (hb hby d21_3) (by show Qgty Z g u_TagType_LONG u_1__SwitchMap_com_example_cofferhand_cofferhand_nbt_TagType kc_u_1__SwitchMap_com_example_cofferhand_cofferhand_nbt_TagType zc fmv h0 n0 _ T227.heap _; rw [e227]; exact ⟨rfl, N0, rfl⟩) (by decide) (by decide)
def Qwp (Z : State) (o : Addr) (d : Addr) (kd : ClassId) (bl : List Int32) (g : Addr) (vv : Int64) (u_TagType_LONG : Addr) (u_1__SwitchMap_com_example_cofferhand_cofferhand_nbt_TagType : Addr) (kc_u_1__SwitchMap_com_example_cofferhand_cofferhand_nbt_TagType : ClassId) (zc : Int32) (fmv : Value) (h0 : Heap) (n0 : Nat) (v : Option Value) (h : Heap) (L : List Loc) : Prop := v = none ∧ Fr n0 L ∧ Keep h0 h [o, d] ∧ Fld Z h o "com/example/cofferhand/cofferhand/nbt/NbtWriter" "buffer" "[B" (.ref d) ∧ Fld Z h o "com/example/cofferhand/cofferhand/nbt/NbtWriter" "size" "I" (.int (Int32.ofNat (List.length (bl ++ [(((vv >>> ((32 : Int32) &&& 0x3f).toInt64).toInt32) >>> ((24 : Int32) &&& 31)).toInt8.toInt32, (((vv >>> ((32 : Int32) &&& 0x3f).toInt64).toInt32) >>> ((16 : Int32) &&& 31)).toInt8.toInt32, (((vv >>> ((32 : Int32) &&& 0x3f).toInt64).toInt32) >>> ((8 : Int32) &&& 31)).toInt8.toInt32, ((vv >>> ((32 : Int32) &&& 0x3f).toInt64).toInt32).toInt8.toInt32, ((vv.toInt32) >>> ((24 : Int32) &&& 31)).toInt8.toInt32, ((vv.toInt32) >>> ((16 : Int32) &&& 31)).toInt8.toInt32, ((vv.toInt32) >>> ((8 : Int32) &&& 31)).toInt8.toInt32, (vv.toInt32).toInt8.toInt32])))) ∧ Arv Z h d kd .byte (256 : Int32) (List.map Value.int (bl ++ [(((vv >>> ((32 : Int32) &&& 0x3f).toInt64).toInt32) >>> ((24 : Int32) &&& 31)).toInt8.toInt32, (((vv >>> ((32 : Int32) &&& 0x3f).toInt64).toInt32) >>> ((16 : Int32) &&& 31)).toInt8.toInt32, (((vv >>> ((32 : Int32) &&& 0x3f).toInt64).toInt32) >>> ((8 : Int32) &&& 31)).toInt8.toInt32, ((vv >>> ((32 : Int32) &&& 0x3f).toInt64).toInt32).toInt8.toInt32, ((vv.toInt32) >>> ((24 : Int32) &&& 31)).toInt8.toInt32, ((vv.toInt32) >>> ((16 : Int32) &&& 31)).toInt8.toInt32, ((vv.toInt32) >>> ((8 : Int32) &&& 31)).toInt8.toInt32, (vv.toInt32).toInt8.toInt32])) (.int (0 : Int32))
theorem rmwp (l : Launch) (Z : State) (a0 : Array Value) (hw : own_tb a0 Z) (ws : List Jvm.Cond) (o : Addr) (d : Addr) (kd : ClassId) (bl : List Int32) (g : Addr) (vv : Int64) (u_TagType_LONG : Addr) (u_1__SwitchMap_com_example_cofferhand_cofferhand_nbt_TagType : Addr) (kc_u_1__SwitchMap_com_example_cofferhand_cofferhand_nbt_TagType : ClassId) (zc : Int32) (fmv : Value) (h0 : Heap) (n0 : Nat) (Z0 : n0 ≤ h0.size) (O_ : Old Z n0 h0) (S_u_TagType_LONG : Sta Z Z.heap "com/example/cofferhand/cofferhand/nbt/TagType" "LONG" "Lcom/example/cofferhand/cofferhand/nbt/TagType;" (.ref u_TagType_LONG)) (E_u_TagType_LONG : Exa Z Z.heap u_TagType_LONG "com/example/cofferhand/cofferhand/nbt/TagType") (F_u_TagType_LONG_id : Fld Z Z.heap u_TagType_LONG "com/example/cofferhand/cofferhand/nbt/TagType" "id" "I" (.int (4 : Int32))) (S_u_1__SwitchMap_com_example_cofferhand_cofferhand_nbt_TagType : Sta Z Z.heap "com/example/cofferhand/cofferhand/nbt/NbtWriter$1" "$SwitchMap$com$example$cofferhand$cofferhand$nbt$TagType" "[I" (.ref u_1__SwitchMap_com_example_cofferhand_cofferhand_nbt_TagType)) (F_u_TagType_LONG_ordinal : Fld Z Z.heap u_TagType_LONG "java/lang/Enum" "ordinal" "I" (.int (4 : Int32))) (V_u_1__SwitchMap_com_example_cofferhand_cofferhand_nbt_TagType : Arv Z Z.heap u_1__SwitchMap_com_example_cofferhand_cofferhand_nbt_TagType kc_u_1__SwitchMap_com_example_cofferhand_cofferhand_nbt_TagType .int (13 : Int32) [(.int (0 : Int32)), (.int (1 : Int32)), (.int (2 : Int32)), (.int (3 : Int32)), (.int (4 : Int32)), (.int (5 : Int32)), (.int (6 : Int32)), (.int (7 : Int32)), (.int (8 : Int32)), (.int (9 : Int32)), (.int (10 : Int32)), (.int (11 : Int32)), (.int (12 : Int32))] (.int (0 : Int32))) (S_CS : Sta Z Z.heap "java/lang/String" "COMPACT_STRINGS" "Z" (.int zc)) (P_CS : ¬ zc = (0 : Int32)) (S_SF : Sta Z Z.heap "jdk/internal/util/Preconditions" "SIOOBE_FORMATTER" "Ljava/util/function/BiFunction;" fmv) (rf_fmv : fmv.isRef = true) (S_AD : Sta Z Z.heap "java/lang/StringUTF16" "$assertionsDisabled" "Z" (.int (1 : Int32))) (S_HB : Sta Z Z.heap "java/lang/StringUTF16" "HI_BYTE_SHIFT" "I" (.int (0 : Int32))) (S_LB : Sta Z Z.heap "java/lang/StringUTF16" "LO_BYTE_SHIFT" "I" (.int (8 : Int32))) (E_o : Exa Z h0 o "com/example/cofferhand/cofferhand/nbt/NbtWriter") (Fb : Fld Z h0 o "com/example/cofferhand/cofferhand/nbt/NbtWriter" "buffer" "[B" (.ref d)) (Fs : Fld Z h0 o "com/example/cofferhand/cofferhand/nbt/NbtWriter" "size" "I" (.int (Int32.ofNat (List.length bl)))) (V_d : Arv Z h0 d kd .byte (256 : Int32) (List.map Value.int bl) (.int (0 : Int32))) (g_o : n0 ≤ o) (g_d : n0 ≤ d) (ne_o_d : o ≠ d) (hl : List.length bl + 8 ≤ 256) (E_g : Exa Z h0 g "com/example/cofferhand/cofferhand/nbt/LongTag") (F_g : Fld Z h0 g "com/example/cofferhand/cofferhand/nbt/LongTag" "value" "J" (.long vv)) (ne_g_o : g ≠ o) (ne_g_d : g ≠ d) :
    OwnMet l (⟨"com/example/cofferhand/cofferhand/nbt/NbtWriter", "writePayload", "(Lcom/example/cofferhand/cofferhand/nbt/Tag;)V"⟩ : MethodName) prog_41_method_4_code 8 none ws ({ frames := 3, cells := 0, slots := 0, locals := 42 } : Room) #[(.ref o), (.ref g)] Z h0 (Qwp Z o d kd bl g vv u_TagType_LONG u_1__SwitchMap_com_example_cofferhand_cofferhand_nbt_TagType kc_u_1__SwitchMap_com_example_cofferhand_cofferhand_nbt_TagType zc fmv h0 n0) := by
  refine own_met (plainFor_of_name pn_24) ?_
  intro p e s m below meth c s₁ X0 hx hby hml hret hlk hown hnm hZ e0
  have N0 := Fr.nil n0
  have Z_ := Z0
  refine OwnGo.cast (ef_wp m o g) ?_
  show OwnGo p e below s _ _ _ s₁ (mkF m 0 _ [])
  have Kp : Keep h0 h0 [o, d] := Keep.refl h0 [o, d]
  obtain ⟨T228, X228, e228, st228⟩ := getS2 X0 hx hZ hown (host := "") (Or.inl (W_ hw 192 rfl)) Via.refl e0 (S_u_1__SwitchMap_com_example_cofferhand_cofferhand_nbt_TagType.ext O_.2) (g := (mkF m 0 #[.val (.ref o), .val (.ref g), .unset, .unset, .unset, .unset, .unset, .unset] [])) rfl (hb hby d35_0)
  refine .st st228 ?_
  show OwnGo p e below s _ _ _ T228 (mkF m 3 _ [(.ref u_1__SwitchMap_com_example_cofferhand_cofferhand_nbt_TagType)])
  refine .aloadN X228 hx (hb hby d35_3) rfl rfl ?_
  obtain ⟨cq229, kq229, q229a, q229b, q229c⟩ := isOf hZ e228 E_g
  obtain ⟨_, _, ⟨T229, L229, k229, n229⟩, -, X229, ⟨Lc229, hQ229, l229, y229, z229⟩, st229⟩ := X228.interfaceBack hx (xi := (⟨"com/example/cofferhand/cofferhand/nbt/Tag", "type", "()Lcom/example/cofferhand/cofferhand/nbt/TagType;"⟩ : MethodName)) (y := (⟨"com/example/cofferhand/cofferhand/nbt/LongTag", "type", "()Lcom/example/cofferhand/cofferhand/nbt/TagType;"⟩ : MethodName)) hown (mvT hZ (W_ hw 121 rfl)) (mvT hZ (W_ hw 122 rfl)) (mvT hZ (W_ hw 123 rfl)) (mvT hZ (W_ hw 124 rfl)) (mvT hZ (W_ hw 125 rfl)) (mvT hZ (W_ hw 126 rfl)) (mvT hZ (W_ hw 127 rfl)) (mvT hZ (W_ hw 128 rfl)) (by decide) (backOf (W := 1) (rmgty l Z a0 hw [] g u_TagType_LONG u_1__SwitchMap_com_example_cofferhand_cofferhand_nbt_TagType kc_u_1__SwitchMap_com_example_cofferhand_cofferhand_nbt_TagType zc fmv h0 n0 Z_ O_ S_u_TagType_LONG E_u_TagType_LONG F_u_TagType_LONG_id S_u_1__SwitchMap_com_example_cofferhand_cofferhand_nbt_TagType F_u_TagType_LONG_ordinal V_u_1__SwitchMap_com_example_cofferhand_cofferhand_nbt_TagType S_CS P_CS S_SF rf_fmv S_AD S_HB S_LB) hZ (W_ hw 129 rfl) (W_ hw 40 rfl) (by decide) (by decide)) q229a q229b q229c (g := (mkF m 4 #[.val (.ref o), .val (.ref g), .unset, .unset, .unset, .unset, .unset, .unset] [(.ref g), (.ref u_1__SwitchMap_com_example_cofferhand_cofferhand_nbt_TagType)])) rfl (by rw [hml]; rfl) (Steps.refl _) (argsL := []) (rest := [(.ref u_1__SwitchMap_com_example_cofferhand_cofferhand_nbt_TagType)]) (lenOf pd_23 rfl) rfl (Nat.le_of_eq rfl) (hb hby d35_4) (fun _ _ => ⟨rfl, e228, (by decide : 0 + 0 ≤ _), (by decide : 0 + 0 ≤ _)⟩)
  dsimp only [Pt.U, Pt.locs, Pt.cells, Pt.slots] at X229 l229 y229 z229 st229 hQ229
  subst y229 z229
  obtain ⟨rfl, N229q, e229⟩ := hQ229
  have N229 := own_frl l229 N0 N229q
  refine .st (fun _ => st229.trans) ?_
  show OwnGo p e below s _ _ _ T229 (mkF m 9 _ [(.ref u_TagType_LONG), (.ref u_1__SwitchMap_com_example_cofferhand_cofferhand_nbt_TagType)])
  obtain ⟨cq230, kq230, q230a, q230b, q230c⟩ := isOf hZ e229 (E_u_TagType_LONG.ext O_.2)
  obtain ⟨_, _, ⟨T230, L230, k230, n230⟩, -, X230, ⟨Lc230, hQ230, l230, y230, z230⟩, st230⟩ := X229.virtualBackUp hx (owner := "java/lang/Enum") (x := (⟨"com/example/cofferhand/cofferhand/nbt/TagType", "ordinal", "()I"⟩ : MethodName)) (y := (⟨"java/lang/Enum", "ordinal", "()I"⟩ : MethodName)) hown (mvT hZ (W_ hw 195 rfl)) (mvT hZ (W_ hw 196 rfl)) (mvT hZ (W_ hw 197 rfl)) (by decide) (mvT hZ (W_ hw 199 rfl)) (mvT hZ (W_ hw 198 rfl)) (backOf (W := 1) (rmgord l Z a0 hw [] u_TagType_LONG (4 : Int32) h0 n0 Z_ (F_u_TagType_LONG_ordinal.ext O_.2)) hZ (W_ hw 201 rfl) (W_ hw 200 rfl) (by decide) (by decide)) q230a q230c (g := (mkF m 9 #[.val (.ref o), .val (.ref g), .unset, .unset, .unset, .unset, .unset, .unset] [(.ref u_TagType_LONG), (.ref u_1__SwitchMap_com_example_cofferhand_cofferhand_nbt_TagType)])) rfl (by rw [hml]; rfl) (Steps.refl _) (argsL := []) (rest := [(.ref u_1__SwitchMap_com_example_cofferhand_cofferhand_nbt_TagType)]) (lenOf pd_17 rfl) rfl (Nat.le_of_eq rfl) (hb hby d35_9) (fun _ _ => ⟨rfl, e229, (by decide : 0 + 0 ≤ _), (by decide : 0 + 0 ≤ _)⟩)
  dsimp only [Pt.U, Pt.locs, Pt.cells, Pt.slots] at X230 l230 y230 z230 st230 hQ230
  subst y230 z230
  obtain ⟨rfl, N230q, e230⟩ := hQ230
  have N230 := own_frl l230 N229 N230q
  refine .st (fun _ => st230.trans) ?_
  show OwnGo p e below s _ _ _ T230 (mkF m 12 _ [(.int (4 : Int32)), (.ref u_1__SwitchMap_com_example_cofferhand_cofferhand_nbt_TagType)])
  obtain ⟨cl231, Ar231, -, S231, -, H231, -⟩ := id (V_u_1__SwitchMap_com_example_cofferhand_cofferhand_nbt_TagType.ext O_.2)
  have hin231 : ¬ ((4 : Int32) < 0 ∨ cl231.slots.size ≤ ((4 : Int32)).toNatClampNeg) := inb_of S231 ⟨by decide, by decide⟩
  refine .st (fun _ => X230.iaload hx (j := (4 : Int32)) (v := (.int (4 : Int32))) (by first | exact Ar231.1 | (rw [e230]; exact Ar231.1)) (State.isArrayOf_alike hZ.alike Ar231.2.1) Ar231.2.2 hin231 (H231.at hin231 rfl) (g := (mkF m 12 #[.val (.ref o), .val (.ref g), .unset, .unset, .unset, .unset, .unset, .unset] [(.int (4 : Int32)), (.ref u_1__SwitchMap_com_example_cofferhand_cofferhand_nbt_TagType)])) rfl rfl (hb hby d35_12) _) ?_
  show OwnGo p e below s _ _ _ T230 (mkF m 13 _ [(.int (4 : Int32))])
  refine .tswIn (pc := 13) X230 hx 118 (hb hby d35_13) own_ts35_13_4.1 own_ts35_13_4.2 (by decide) (by decide) ?_
  refine .aloadN X230 hx (hb hby d35_118) rfl rfl ?_
  refine .aloadN X230 hx (hb hby d35_119) rfl rfl ?_
  obtain ⟨T232, X232, e232, st232⟩ := castY X230 hx hZ hown (W_ hw 204 rfl) e230 (Ins.self E_g) (g := (mkF m 120 #[.val (.ref o), .val (.ref g), .unset, .unset, .unset, .unset, .unset, .unset] [(.ref g), (.ref o)])) rfl rfl (hb hby d35_120)
  refine .st st232 ?_
  show OwnGo p e below s _ _ _ T232 (mkF m 123 _ [(.ref g), (.ref o)])
  obtain ⟨cq233, kq233, q233a, q233b, q233c⟩ := isOf hZ e232 E_g
  obtain ⟨_, _, ⟨T233, L233, k233, n233⟩, -, X233, ⟨Lc233, hQ233, l233, y233, z233⟩, st233⟩ := X232.virtualBack hx (y := (⟨"com/example/cofferhand/cofferhand/nbt/LongTag", "value", "()J"⟩ : MethodName)) (z := (⟨"com/example/cofferhand/cofferhand/nbt/LongTag", "value", "()J"⟩ : MethodName)) hown (mvT hZ (W_ hw 206 rfl)) (mvT hZ (W_ hw 207 rfl)) (notFace_of_selects (args := #[]) (mvT hZ (W_ hw 209 rfl))) (mvT hZ (W_ hw 209 rfl)) (mvT hZ (W_ hw 208 rfl)) (by decide) (backOf (W := 1) (rmgval l Z a0 hw [] g vv h0 n0 Z_ F_g) hZ (W_ hw 210 rfl) (W_ hw 40 rfl) (by decide) (by decide)) q233a q233c (g := (mkF m 123 #[.val (.ref o), .val (.ref g), .unset, .unset, .unset, .unset, .unset, .unset] [(.ref g), (.ref o)])) rfl (by rw [hml]; rfl) (Steps.refl _) (argsL := []) (rest := [(.ref o)]) (lenOf pd_24 rfl) rfl (Nat.le_of_eq rfl) (hb hby d35_123) (fun _ _ => ⟨rfl, e232, (by decide : 0 + 0 ≤ _), (by decide : 0 + 0 ≤ _)⟩)
  dsimp only [Pt.U, Pt.locs, Pt.cells, Pt.slots] at X233 l233 y233 z233 st233 hQ233
  subst y233 z233
  obtain ⟨rfl, N233q, e233⟩ := hQ233
  have N233 := own_frl l233 N230 N233q
  refine .st (fun _ => st233.trans) ?_
  show OwnGo p e below s _ _ _ T233 (mkF m 126 _ [(.long vv), (.ref o)])
  obtain ⟨cq234, q234, q234'⟩ := E_o.cell
  obtain ⟨_, _, ⟨T234, L234, k234, n234⟩, -, X234, ⟨Lc234, hQ234, l234, y234, z234⟩, st234⟩ := X233.privateBack hx (y := (⟨"com/example/cofferhand/cofferhand/nbt/NbtWriter", "writeLong", "(J)V"⟩ : MethodName)) hown (mvT hZ (W_ hw 211 rfl)) (mvT hZ (W_ hw 212 rfl)) (own_selp (z := (⟨"com/example/cofferhand/cofferhand/nbt/NbtWriter", "toByteArray", "()[B"⟩ : MethodName)) (mvT hZ (W_ hw 98 rfl)) rfl (Cond.privateMethod_at (mvP hZ (W_ hw 213 rfl) (args := #[]))) (mvT hZ (W_ hw 212 rfl)) (by decide)) (Cond.privateMethod_at (mvP hZ (W_ hw 213 rfl) (args := #[]))) (mvT hZ (W_ hw 214 rfl)) (by decide) (backOf (W := 0) (rmwl l Z a0 hw [] o d kd bl vv h0 n0 Z_ E_o Fb Fs V_d g_o g_d ne_o_d hl) hZ (W_ hw 214 rfl) (W_ hw 88 rfl) (by decide) (by decide)) (g := (mkF m 126 #[.val (.ref o), .val (.ref g), .unset, .unset, .unset, .unset, .unset, .unset] [(.long vv), (.ref o)])) rfl (by rw [hml]; rfl) (Steps.refl _) (a := o) (by rw [e233]; exact q234) q234' (argsL := [(.long vv)]) (rest := []) (lenOf pd_25 rfl) rfl (Nat.le_of_eq rfl) (hb hby d35_126) (fun _ _ => ⟨rfl, e233, (by decide : 0 + 0 ≤ _), (by decide : 0 + 0 ≤ _)⟩)
  dsimp only [Pt.U, Pt.locs, Pt.cells, Pt.slots] at X234 l234 y234 z234 st234 hQ234
  subst y234 z234
  obtain ⟨rfl, N234q, K234, Fb234, Fs234, V234⟩ := hQ234
  have N234 := own_frl l234 N233 N234q
  have Z_ : n0 ≤ T234.heap.size := Nat.le_trans Z_ K234.1
  have E_o := E_o.keep K234
  have E_g := E_g.keep K234
  have F_g := F_g.keep K234 (ninS ne_g_o (ninS ne_g_d nin0))
  have O_ := O_.keep K234 (allS g_o (allS g_d all0))
  have Kp := Kp.trans K234 (allS (Or.inl (List.mem_of_getElem? (i := 0) rfl)) (allS (Or.inl (List.mem_of_getElem? (i := 1) rfl)) all0))
  have Fb := Fb234
  have Fs := Fs234
  have V_d := V234
  refine .st (fun _ => st234.trans) ?_
  show OwnGo p e below s _ _ _ T234 (mkF m 129 _ [])
  refine .goto (pc := 129) X234 hx 475 (hb hby d35_129) (by decide) (by decide) ?_
  exact OwnGo.retV X234 hx hret hlk (hb hby d35_475) (by show Qwp Z o d kd bl g vv u_TagType_LONG u_1__SwitchMap_com_example_cofferhand_cofferhand_nbt_TagType kc_u_1__SwitchMap_com_example_cofferhand_cofferhand_nbt_TagType zc fmv h0 n0 _ T234.heap _; exact ⟨rfl, N234, Kp, Fb, Fs, V_d⟩) (by decide) (by decide)
def Qwroot (Z : State) (x : Addr) (t : Addr) (kb : ClassId) (cl : List Int32) (o : Addr) (d : Addr) (kd : ClassId) (bl : List Int32) (r : Addr) (g : Addr) (vv : Int64) (u_TagType_LONG : Addr) (u_1__SwitchMap_com_example_cofferhand_cofferhand_nbt_TagType : Addr) (kc_u_1__SwitchMap_com_example_cofferhand_cofferhand_nbt_TagType : ClassId) (zc : Int32) (fmv : Value) (h0 : Heap) (n0 : Nat) (v : Option Value) (h : Heap) (L : List Loc) : Prop := v = none ∧ Fr n0 L ∧ Keep h0 h [o, d] ∧ Fld Z h o "com/example/cofferhand/cofferhand/nbt/NbtWriter" "buffer" "[B" (.ref d) ∧ Fld Z h o "com/example/cofferhand/cofferhand/nbt/NbtWriter" "size" "I" (.int (Int32.ofNat (List.length ((((bl ++ [(4 : Int32)]) ++ [((Int32.ofNat (List.length (own_encs cl))) >>> ((8 : Int32) &&& 31)).toInt8.toInt32, (Int32.ofNat (List.length (own_encs cl))).toInt8.toInt32]) ++ own_encs cl) ++ [(((vv >>> ((32 : Int32) &&& 0x3f).toInt64).toInt32) >>> ((24 : Int32) &&& 31)).toInt8.toInt32, (((vv >>> ((32 : Int32) &&& 0x3f).toInt64).toInt32) >>> ((16 : Int32) &&& 31)).toInt8.toInt32, (((vv >>> ((32 : Int32) &&& 0x3f).toInt64).toInt32) >>> ((8 : Int32) &&& 31)).toInt8.toInt32, ((vv >>> ((32 : Int32) &&& 0x3f).toInt64).toInt32).toInt8.toInt32, ((vv.toInt32) >>> ((24 : Int32) &&& 31)).toInt8.toInt32, ((vv.toInt32) >>> ((16 : Int32) &&& 31)).toInt8.toInt32, ((vv.toInt32) >>> ((8 : Int32) &&& 31)).toInt8.toInt32, (vv.toInt32).toInt8.toInt32])))) ∧ Arv Z h d kd .byte (256 : Int32) (List.map Value.int ((((bl ++ [(4 : Int32)]) ++ [((Int32.ofNat (List.length (own_encs cl))) >>> ((8 : Int32) &&& 31)).toInt8.toInt32, (Int32.ofNat (List.length (own_encs cl))).toInt8.toInt32]) ++ own_encs cl) ++ [(((vv >>> ((32 : Int32) &&& 0x3f).toInt64).toInt32) >>> ((24 : Int32) &&& 31)).toInt8.toInt32, (((vv >>> ((32 : Int32) &&& 0x3f).toInt64).toInt32) >>> ((16 : Int32) &&& 31)).toInt8.toInt32, (((vv >>> ((32 : Int32) &&& 0x3f).toInt64).toInt32) >>> ((8 : Int32) &&& 31)).toInt8.toInt32, ((vv >>> ((32 : Int32) &&& 0x3f).toInt64).toInt32).toInt8.toInt32, ((vv.toInt32) >>> ((24 : Int32) &&& 31)).toInt8.toInt32, ((vv.toInt32) >>> ((16 : Int32) &&& 31)).toInt8.toInt32, ((vv.toInt32) >>> ((8 : Int32) &&& 31)).toInt8.toInt32, (vv.toInt32).toInt8.toInt32])) (.int (0 : Int32))
theorem rmwroot (l : Launch) (Z : State) (a0 : Array Value) (hw : own_tb a0 Z) (ws : List Jvm.Cond) (x : Addr) (t : Addr) (kb : ClassId) (cl : List Int32) (o : Addr) (d : Addr) (kd : ClassId) (bl : List Int32) (r : Addr) (g : Addr) (vv : Int64) (u_TagType_LONG : Addr) (u_1__SwitchMap_com_example_cofferhand_cofferhand_nbt_TagType : Addr) (kc_u_1__SwitchMap_com_example_cofferhand_cofferhand_nbt_TagType : ClassId) (zc : Int32) (fmv : Value) (h0 : Heap) (n0 : Nat) (Z0 : n0 ≤ h0.size) (O_ : Old Z n0 h0) (S_u_TagType_LONG : Sta Z Z.heap "com/example/cofferhand/cofferhand/nbt/TagType" "LONG" "Lcom/example/cofferhand/cofferhand/nbt/TagType;" (.ref u_TagType_LONG)) (E_u_TagType_LONG : Exa Z Z.heap u_TagType_LONG "com/example/cofferhand/cofferhand/nbt/TagType") (F_u_TagType_LONG_id : Fld Z Z.heap u_TagType_LONG "com/example/cofferhand/cofferhand/nbt/TagType" "id" "I" (.int (4 : Int32))) (S_u_1__SwitchMap_com_example_cofferhand_cofferhand_nbt_TagType : Sta Z Z.heap "com/example/cofferhand/cofferhand/nbt/NbtWriter$1" "$SwitchMap$com$example$cofferhand$cofferhand$nbt$TagType" "[I" (.ref u_1__SwitchMap_com_example_cofferhand_cofferhand_nbt_TagType)) (F_u_TagType_LONG_ordinal : Fld Z Z.heap u_TagType_LONG "java/lang/Enum" "ordinal" "I" (.int (4 : Int32))) (V_u_1__SwitchMap_com_example_cofferhand_cofferhand_nbt_TagType : Arv Z Z.heap u_1__SwitchMap_com_example_cofferhand_cofferhand_nbt_TagType kc_u_1__SwitchMap_com_example_cofferhand_cofferhand_nbt_TagType .int (13 : Int32) [(.int (0 : Int32)), (.int (1 : Int32)), (.int (2 : Int32)), (.int (3 : Int32)), (.int (4 : Int32)), (.int (5 : Int32)), (.int (6 : Int32)), (.int (7 : Int32)), (.int (8 : Int32)), (.int (9 : Int32)), (.int (10 : Int32)), (.int (11 : Int32)), (.int (12 : Int32))] (.int (0 : Int32))) (S_CS : Sta Z Z.heap "java/lang/String" "COMPACT_STRINGS" "Z" (.int zc)) (P_CS : ¬ zc = (0 : Int32)) (S_SF : Sta Z Z.heap "jdk/internal/util/Preconditions" "SIOOBE_FORMATTER" "Ljava/util/function/BiFunction;" fmv) (rf_fmv : fmv.isRef = true) (S_AD : Sta Z Z.heap "java/lang/StringUTF16" "$assertionsDisabled" "Z" (.int (1 : Int32))) (S_HB : Sta Z Z.heap "java/lang/StringUTF16" "HI_BYTE_SHIFT" "I" (.int (0 : Int32))) (S_LB : Sta Z Z.heap "java/lang/StringUTF16" "LO_BYTE_SHIFT" "I" (.int (8 : Int32))) (SS : own_T Z h0 x t kb cl) (hcl : List.length cl ≤ 2) (hu : ∀ c ∈ cl, own_u c) (E_o : Exa Z h0 o "com/example/cofferhand/cofferhand/nbt/NbtWriter") (Fb : Fld Z h0 o "com/example/cofferhand/cofferhand/nbt/NbtWriter" "buffer" "[B" (.ref d)) (Fs : Fld Z h0 o "com/example/cofferhand/cofferhand/nbt/NbtWriter" "size" "I" (.int (Int32.ofNat (List.length bl)))) (V_d : Arv Z h0 d kd .byte (256 : Int32) (List.map Value.int bl) (.int (0 : Int32))) (g_o : n0 ≤ o) (g_d : n0 ≤ d) (ne_o_d : o ≠ d) (hl : List.length bl + 40 ≤ 256) (ne_x_o : x ≠ o) (ne_x_d : x ≠ d) (ne_t_o : t ≠ o) (ne_t_d : t ≠ d) (E_r : Exa Z h0 r "com/example/cofferhand/cofferhand/nbt/NamedTag") (F_n : Fld Z h0 r "com/example/cofferhand/cofferhand/nbt/NamedTag" "name" "Ljava/lang/String;" (.ref x)) (F_t : Fld Z h0 r "com/example/cofferhand/cofferhand/nbt/NamedTag" "tag" "Lcom/example/cofferhand/cofferhand/nbt/Tag;" (.ref g)) (ne_r_o : r ≠ o) (ne_r_d : r ≠ d) (E_g : Exa Z h0 g "com/example/cofferhand/cofferhand/nbt/LongTag") (F_g : Fld Z h0 g "com/example/cofferhand/cofferhand/nbt/LongTag" "value" "J" (.long vv)) (ne_g_o : g ≠ o) (ne_g_d : g ≠ d) :
    OwnMet l (⟨"com/example/cofferhand/cofferhand/nbt/NbtWriter", "writeRoot", "(Lcom/example/cofferhand/cofferhand/nbt/NamedTag;)V"⟩ : MethodName) prog_41_method_2_code 2 none ws ({ frames := 7, cells := 0, slots := 0, locals := 98 } : Room) #[(.ref o), (.ref r)] Z h0 (Qwroot Z x t kb cl o d kd bl r g vv u_TagType_LONG u_1__SwitchMap_com_example_cofferhand_cofferhand_nbt_TagType kc_u_1__SwitchMap_com_example_cofferhand_cofferhand_nbt_TagType zc fmv h0 n0) := by
  refine own_met (plainFor_of_name pn_24) ?_
  intro p e s m below meth c s₁ X0 hx hby hml hret hlk hown hnm hZ e0
  have N0 := Fr.nil n0
  have Z_ := Z0
  refine OwnGo.cast (ef_wroot m o r) ?_
  show OwnGo p e below s _ _ _ s₁ (mkF m 0 _ [])
  have Kp : Keep h0 h0 [o, d] := Keep.refl h0 [o, d]
  refine .aloadN X0 hx (hb hby d19_0) rfl rfl ?_
  refine .aloadN X0 hx (hb hby d19_1) rfl rfl ?_
  obtain ⟨cq235, kq235, q235a, q235b, q235c⟩ := isOf hZ e0 E_r
  obtain ⟨_, _, ⟨T235, L235, k235, n235⟩, -, X235, ⟨Lc235, hQ235, l235, y235, z235⟩, st235⟩ := X0.virtualBack hx (y := (⟨"com/example/cofferhand/cofferhand/nbt/NamedTag", "tag", "()Lcom/example/cofferhand/cofferhand/nbt/Tag;"⟩ : MethodName)) (z := (⟨"com/example/cofferhand/cofferhand/nbt/NamedTag", "tag", "()Lcom/example/cofferhand/cofferhand/nbt/Tag;"⟩ : MethodName)) hown (mvT hZ (W_ hw 116 rfl)) (mvT hZ (W_ hw 117 rfl)) (notFace_of_selects (args := #[]) (mvT hZ (W_ hw 119 rfl))) (mvT hZ (W_ hw 119 rfl)) (mvT hZ (W_ hw 118 rfl)) (by decide) (backOf (W := 1) (rmgtag l Z a0 hw [] r g h0 n0 Z_ F_t) hZ (W_ hw 120 rfl) (W_ hw 37 rfl) (by decide) (by decide)) q235a q235c (g := (mkF m 2 #[.val (.ref o), .val (.ref r)] [(.ref r), (.ref o)])) rfl (by rw [hml]; rfl) (Steps.refl _) (argsL := []) (rest := [(.ref o)]) (lenOf pd_26 rfl) rfl (Nat.le_of_eq rfl) (hb hby d19_2) (fun _ _ => ⟨rfl, e0, (by decide : 0 + 0 ≤ _), (by decide : 0 + 0 ≤ _)⟩)
  dsimp only [Pt.U, Pt.locs, Pt.cells, Pt.slots] at X235 l235 y235 z235 st235 hQ235
  subst y235 z235
  obtain ⟨rfl, N235q, e235⟩ := hQ235
  have N235 := own_frl l235 N0 N235q
  refine .st (fun _ => st235.trans) ?_
  show OwnGo p e below s _ _ _ T235 (mkF m 5 _ [(.ref g), (.ref o)])
  obtain ⟨cq236, kq236, q236a, q236b, q236c⟩ := isOf hZ e235 E_g
  obtain ⟨_, _, ⟨T236, L236, k236, n236⟩, -, X236, ⟨Lc236, hQ236, l236, y236, z236⟩, st236⟩ := X235.interfaceBack hx (xi := (⟨"com/example/cofferhand/cofferhand/nbt/Tag", "type", "()Lcom/example/cofferhand/cofferhand/nbt/TagType;"⟩ : MethodName)) (y := (⟨"com/example/cofferhand/cofferhand/nbt/LongTag", "type", "()Lcom/example/cofferhand/cofferhand/nbt/TagType;"⟩ : MethodName)) hown (mvT hZ (W_ hw 121 rfl)) (mvT hZ (W_ hw 122 rfl)) (mvT hZ (W_ hw 123 rfl)) (mvT hZ (W_ hw 124 rfl)) (mvT hZ (W_ hw 125 rfl)) (mvT hZ (W_ hw 126 rfl)) (mvT hZ (W_ hw 127 rfl)) (mvT hZ (W_ hw 128 rfl)) (by decide) (backOf (W := 1) (rmgty l Z a0 hw [] g u_TagType_LONG u_1__SwitchMap_com_example_cofferhand_cofferhand_nbt_TagType kc_u_1__SwitchMap_com_example_cofferhand_cofferhand_nbt_TagType zc fmv h0 n0 Z_ O_ S_u_TagType_LONG E_u_TagType_LONG F_u_TagType_LONG_id S_u_1__SwitchMap_com_example_cofferhand_cofferhand_nbt_TagType F_u_TagType_LONG_ordinal V_u_1__SwitchMap_com_example_cofferhand_cofferhand_nbt_TagType S_CS P_CS S_SF rf_fmv S_AD S_HB S_LB) hZ (W_ hw 129 rfl) (W_ hw 40 rfl) (by decide) (by decide)) q236a q236b q236c (g := (mkF m 5 #[.val (.ref o), .val (.ref r)] [(.ref g), (.ref o)])) rfl (by rw [hml]; rfl) (Steps.refl _) (argsL := []) (rest := [(.ref o)]) (lenOf pd_23 rfl) rfl (Nat.le_of_eq rfl) (hb hby d19_5) (fun _ _ => ⟨rfl, e235, (by decide : 0 + 0 ≤ _), (by decide : 0 + 0 ≤ _)⟩)
  dsimp only [Pt.U, Pt.locs, Pt.cells, Pt.slots] at X236 l236 y236 z236 st236 hQ236
  subst y236 z236
  obtain ⟨rfl, N236q, e236⟩ := hQ236
  have N236 := own_frl l236 N235 N236q
  refine .st (fun _ => st236.trans) ?_
  show OwnGo p e below s _ _ _ T236 (mkF m 10 _ [(.ref u_TagType_LONG), (.ref o)])
  obtain ⟨cq237, kq237, q237a, q237b, q237c⟩ := isOf hZ e236 (E_u_TagType_LONG.ext O_.2)
  obtain ⟨_, _, ⟨T237, L237, k237, n237⟩, -, X237, ⟨Lc237, hQ237, l237, y237, z237⟩, st237⟩ := X236.virtualBack hx (y := (⟨"com/example/cofferhand/cofferhand/nbt/TagType", "id", "()I"⟩ : MethodName)) (z := (⟨"com/example/cofferhand/cofferhand/nbt/TagType", "id", "()I"⟩ : MethodName)) hown (mvT hZ (W_ hw 133 rfl)) (mvT hZ (W_ hw 134 rfl)) (notFace_of_selects (args := #[]) (mvT hZ (W_ hw 136 rfl))) (mvT hZ (W_ hw 136 rfl)) (mvT hZ (W_ hw 135 rfl)) (by decide) (backOf (W := 1) (rmgid l Z a0 hw [] u_TagType_LONG (4 : Int32) h0 n0 Z_ (F_u_TagType_LONG_id.ext O_.2)) hZ (W_ hw 137 rfl) (W_ hw 131 rfl) (by decide) (by decide)) q237a q237c (g := (mkF m 10 #[.val (.ref o), .val (.ref r)] [(.ref u_TagType_LONG), (.ref o)])) rfl (by rw [hml]; rfl) (Steps.refl _) (argsL := []) (rest := [(.ref o)]) (lenOf pd_17 rfl) rfl (Nat.le_of_eq rfl) (hb hby d19_10) (fun _ _ => ⟨rfl, e236, (by decide : 0 + 0 ≤ _), (by decide : 0 + 0 ≤ _)⟩)
  dsimp only [Pt.U, Pt.locs, Pt.cells, Pt.slots] at X237 l237 y237 z237 st237 hQ237
  subst y237 z237
  obtain ⟨rfl, N237q, e237⟩ := hQ237
  have N237 := own_frl l237 N236 N237q
  refine .st (fun _ => st237.trans) ?_
  show OwnGo p e below s _ _ _ T237 (mkF m 13 _ [(.int (4 : Int32)), (.ref o)])
  obtain ⟨cq238, q238, q238'⟩ := E_o.cell
  obtain ⟨_, _, ⟨T238, L238, k238, n238⟩, -, X238, ⟨Lc238, hQ238, l238, y238, z238⟩, st238⟩ := X237.privateBack hx (y := (⟨"com/example/cofferhand/cofferhand/nbt/NbtWriter", "writeByte", "(I)V"⟩ : MethodName)) hown (mvT hZ (W_ hw 140 rfl)) (mvT hZ (W_ hw 141 rfl)) (own_selp (z := (⟨"com/example/cofferhand/cofferhand/nbt/NbtWriter", "toByteArray", "()[B"⟩ : MethodName)) (mvT hZ (W_ hw 98 rfl)) rfl (Cond.privateMethod_at (mvP hZ (W_ hw 142 rfl) (args := #[]))) (mvT hZ (W_ hw 141 rfl)) (by decide)) (Cond.privateMethod_at (mvP hZ (W_ hw 142 rfl) (args := #[]))) (mvT hZ (W_ hw 143 rfl)) (by decide) (backOf (W := 0) (rmwriteByte l Z a0 hw [] o d kd bl (4 : Int32) h0 n0 Z_ E_o Fb Fs V_d g_o g_d ne_o_d (by omega)) hZ (W_ hw 143 rfl) (W_ hw 88 rfl) (by decide) (by decide)) (g := (mkF m 13 #[.val (.ref o), .val (.ref r)] [(.int (4 : Int32)), (.ref o)])) rfl (by rw [hml]; rfl) (Steps.refl _) (a := o) (by rw [e237]; exact q238) q238' (argsL := [(.int (4 : Int32))]) (rest := []) (lenOf pd_20 rfl) rfl (Nat.le_of_eq rfl) (hb hby d19_13) (fun _ _ => ⟨rfl, e237, (by decide : 0 + 0 ≤ _), (by decide : 0 + 0 ≤ _)⟩)
  dsimp only [Pt.U, Pt.locs, Pt.cells, Pt.slots] at X238 l238 y238 z238 st238 hQ238
  subst y238 z238
  obtain ⟨rfl, N238q, K238, Fb238, Fs238, V238⟩ := hQ238
  have N238 := own_frl l238 N237 N238q
  have Z_ : n0 ≤ T238.heap.size := Nat.le_trans Z_ K238.1
  have E_o := E_o.keep K238
  have E_g := E_g.keep K238
  have F_g := F_g.keep K238 (ninS ne_g_o (ninS ne_g_d nin0))
  have E_r := E_r.keep K238
  have F_n := F_n.keep K238 (ninS ne_r_o (ninS ne_r_d nin0))
  have F_t := F_t.keep K238 (ninS ne_r_o (ninS ne_r_d nin0))
  have O_ := O_.keep K238 (allS g_o (allS g_d all0))
  have Kp := Kp.trans K238 (allS (Or.inl (List.mem_of_getElem? (i := 0) rfl)) (allS (Or.inl (List.mem_of_getElem? (i := 1) rfl)) all0))
  rw [show (4 : Int32).toInt8.toInt32 = (4 : Int32) from by decide] at Fs238 V238
  have Fb := Fb238
  have Fs := Fs238
  have V_d := V238
  refine .st (fun _ => st238.trans) ?_
  show OwnGo p e below s _ _ _ T238 (mkF m 16 _ [])
  have SS := SS.keep K238 (ninS ne_x_o (ninS ne_x_d nin0)) (ninS ne_t_o (ninS ne_t_d nin0))
  refine .aloadN X238 hx (hb hby d19_16) rfl rfl ?_
  refine .aloadN X238 hx (hb hby d19_17) rfl rfl ?_
  obtain ⟨cq239, kq239, q239a, q239b, q239c⟩ := isOf hZ rfl E_r
  obtain ⟨_, _, ⟨T239, L239, k239, n239⟩, -, X239, ⟨Lc239, hQ239, l239, y239, z239⟩, st239⟩ := X238.virtualBack hx (y := (⟨"com/example/cofferhand/cofferhand/nbt/NamedTag", "name", "()Ljava/lang/String;"⟩ : MethodName)) (z := (⟨"com/example/cofferhand/cofferhand/nbt/NamedTag", "name", "()Ljava/lang/String;"⟩ : MethodName)) hown (mvT hZ (W_ hw 148 rfl)) (mvT hZ (W_ hw 149 rfl)) (notFace_of_selects (args := #[]) (mvT hZ (W_ hw 151 rfl))) (mvT hZ (W_ hw 151 rfl)) (mvT hZ (W_ hw 150 rfl)) (by decide) (backOf (W := 1) (rmgname l Z a0 hw [] r x T238.heap n0 Z_ F_n) hZ (W_ hw 152 rfl) (W_ hw 37 rfl) (by decide) (by decide)) q239a q239c (g := (mkF m 18 #[.val (.ref o), .val (.ref r)] [(.ref r), (.ref o)])) rfl (by rw [hml]; rfl) (Steps.refl _) (argsL := []) (rest := [(.ref o)]) (lenOf pd_27 rfl) rfl (Nat.le_of_eq rfl) (hb hby d19_18) (fun _ _ => ⟨rfl, rfl, (by decide : 0 + 0 ≤ _), (by decide : 0 + 0 ≤ _)⟩)
  dsimp only [Pt.U, Pt.locs, Pt.cells, Pt.slots] at X239 l239 y239 z239 st239 hQ239
  subst y239 z239
  obtain ⟨rfl, N239q, e239⟩ := hQ239
  have N239 := own_frl l239 N238 N239q
  refine .st (fun _ => st239.trans) ?_
  show OwnGo p e below s _ _ _ T239 (mkF m 21 _ [(.ref x), (.ref o)])
  obtain ⟨cq240, q240, q240'⟩ := E_o.cell
  obtain ⟨_, _, ⟨T240, L240, k240, n240⟩, -, X240, ⟨Lc240, hQ240, l240, y240, z240⟩, st240⟩ := X239.privateBack hx (y := (⟨"com/example/cofferhand/cofferhand/nbt/NbtWriter", "writeString", "(Ljava/lang/String;)V"⟩ : MethodName)) hown (mvT hZ (W_ hw 153 rfl)) (mvT hZ (W_ hw 154 rfl)) (own_selp (z := (⟨"com/example/cofferhand/cofferhand/nbt/NbtWriter", "toByteArray", "()[B"⟩ : MethodName)) (mvT hZ (W_ hw 98 rfl)) rfl (Cond.privateMethod_at (mvP hZ (W_ hw 155 rfl) (args := #[]))) (mvT hZ (W_ hw 154 rfl)) (by decide)) (Cond.privateMethod_at (mvP hZ (W_ hw 155 rfl) (args := #[]))) (mvT hZ (W_ hw 156 rfl)) (by decide) (backOf (W := 0) (rmws l Z a0 hw [] x t kb cl o d kd (bl ++ [(4 : Int32)]) zc fmv T238.heap n0 Z_ O_ S_CS P_CS S_AD S_HB S_LB S_SF rf_fmv SS hcl hu E_o Fb Fs V_d g_o g_d ne_o_d (by have z6 := own_encsl cl hcl; simp only [List.length_append, List.length_cons, List.length_nil] <;> omega) ne_x_o ne_x_d ne_t_o ne_t_d) hZ (W_ hw 156 rfl) (W_ hw 88 rfl) (by decide) (by decide)) (g := (mkF m 21 #[.val (.ref o), .val (.ref r)] [(.ref x), (.ref o)])) rfl (by rw [hml]; rfl) (Steps.refl _) (a := o) (by rw [e239]; exact q240) q240' (argsL := [(.ref x)]) (rest := []) (lenOf pd_28 rfl) rfl (Nat.le_of_eq rfl) (hb hby d19_21) (fun _ _ => ⟨rfl, e239, (by decide : 0 + 0 ≤ _), (by decide : 0 + 0 ≤ _)⟩)
  dsimp only [Pt.U, Pt.locs, Pt.cells, Pt.slots] at X240 l240 y240 z240 st240 hQ240
  subst y240 z240
  obtain ⟨rfl, N240q, K240, Fb240, Fs240, V240⟩ := hQ240
  have N240 := own_frl l240 N239 N240q
  have Z_ : n0 ≤ T240.heap.size := Nat.le_trans Z_ K240.1
  have E_o := E_o.keep K240
  have E_g := E_g.keep K240
  have F_g := F_g.keep K240 (ninS ne_g_o (ninS ne_g_d nin0))
  have E_r := E_r.keep K240
  have F_n := F_n.keep K240 (ninS ne_r_o (ninS ne_r_d nin0))
  have F_t := F_t.keep K240 (ninS ne_r_o (ninS ne_r_d nin0))
  have O_ := O_.keep K240 (allS g_o (allS g_d all0))
  have Kp := Kp.trans K240 (allS (Or.inl (List.mem_of_getElem? (i := 0) rfl)) (allS (Or.inl (List.mem_of_getElem? (i := 1) rfl)) all0))
  have Fb := Fb240
  have Fs := Fs240
  have V_d := V240
  refine .st (fun _ => st240.trans) ?_
  show OwnGo p e below s _ _ _ T240 (mkF m 24 _ [])
  refine .aloadN X240 hx (hb hby d19_24) rfl rfl ?_
  refine .aloadN X240 hx (hb hby d19_25) rfl rfl ?_
  obtain ⟨cq241, kq241, q241a, q241b, q241c⟩ := isOf hZ rfl E_r
  obtain ⟨_, _, ⟨T241, L241, k241, n241⟩, -, X241, ⟨Lc241, hQ241, l241, y241, z241⟩, st241⟩ := X240.virtualBack hx (y := (⟨"com/example/cofferhand/cofferhand/nbt/NamedTag", "tag", "()Lcom/example/cofferhand/cofferhand/nbt/Tag;"⟩ : MethodName)) (z := (⟨"com/example/cofferhand/cofferhand/nbt/NamedTag", "tag", "()Lcom/example/cofferhand/cofferhand/nbt/Tag;"⟩ : MethodName)) hown (mvT hZ (W_ hw 116 rfl)) (mvT hZ (W_ hw 117 rfl)) (notFace_of_selects (args := #[]) (mvT hZ (W_ hw 119 rfl))) (mvT hZ (W_ hw 119 rfl)) (mvT hZ (W_ hw 118 rfl)) (by decide) (backOf (W := 1) (rmgtag l Z a0 hw [] r g T240.heap n0 Z_ F_t) hZ (W_ hw 120 rfl) (W_ hw 37 rfl) (by decide) (by decide)) q241a q241c (g := (mkF m 26 #[.val (.ref o), .val (.ref r)] [(.ref r), (.ref o)])) rfl (by rw [hml]; rfl) (Steps.refl _) (argsL := []) (rest := [(.ref o)]) (lenOf pd_26 rfl) rfl (Nat.le_of_eq rfl) (hb hby d19_26) (fun _ _ => ⟨rfl, rfl, (by decide : 0 + 0 ≤ _), (by decide : 0 + 0 ≤ _)⟩)
  dsimp only [Pt.U, Pt.locs, Pt.cells, Pt.slots] at X241 l241 y241 z241 st241 hQ241
  subst y241 z241
  obtain ⟨rfl, N241q, e241⟩ := hQ241
  have N241 := own_frl l241 N240 N241q
  refine .st (fun _ => st241.trans) ?_
  show OwnGo p e below s _ _ _ T241 (mkF m 29 _ [(.ref g), (.ref o)])
  obtain ⟨cq242, q242, q242'⟩ := E_o.cell
  obtain ⟨_, _, ⟨T242, L242, k242, n242⟩, -, X242, ⟨Lc242, hQ242, l242, y242, z242⟩, st242⟩ := X241.privateBack hx (y := (⟨"com/example/cofferhand/cofferhand/nbt/NbtWriter", "writePayload", "(Lcom/example/cofferhand/cofferhand/nbt/Tag;)V"⟩ : MethodName)) hown (mvT hZ (W_ hw 188 rfl)) (mvT hZ (W_ hw 189 rfl)) (own_selp (z := (⟨"com/example/cofferhand/cofferhand/nbt/NbtWriter", "toByteArray", "()[B"⟩ : MethodName)) (mvT hZ (W_ hw 98 rfl)) rfl (Cond.privateMethod_at (mvP hZ (W_ hw 190 rfl) (args := #[]))) (mvT hZ (W_ hw 189 rfl)) (by decide)) (Cond.privateMethod_at (mvP hZ (W_ hw 190 rfl) (args := #[]))) (mvT hZ (W_ hw 191 rfl)) (by decide) (backOf (W := 0) (rmwp l Z a0 hw [] o d kd (((bl ++ [(4 : Int32)]) ++ [((Int32.ofNat (List.length (own_encs cl))) >>> ((8 : Int32) &&& 31)).toInt8.toInt32, (Int32.ofNat (List.length (own_encs cl))).toInt8.toInt32]) ++ own_encs cl) g vv u_TagType_LONG u_1__SwitchMap_com_example_cofferhand_cofferhand_nbt_TagType kc_u_1__SwitchMap_com_example_cofferhand_cofferhand_nbt_TagType zc fmv T240.heap n0 Z_ O_ S_u_TagType_LONG E_u_TagType_LONG F_u_TagType_LONG_id S_u_1__SwitchMap_com_example_cofferhand_cofferhand_nbt_TagType F_u_TagType_LONG_ordinal V_u_1__SwitchMap_com_example_cofferhand_cofferhand_nbt_TagType S_CS P_CS S_SF rf_fmv S_AD S_HB S_LB E_o Fb Fs V_d g_o g_d ne_o_d (by have z6 := own_encsl cl hcl; simp only [List.length_append, List.length_cons, List.length_nil] <;> omega) E_g F_g ne_g_o ne_g_d) hZ (W_ hw 191 rfl) (W_ hw 88 rfl) (by decide) (by decide)) (g := (mkF m 29 #[.val (.ref o), .val (.ref r)] [(.ref g), (.ref o)])) rfl (by rw [hml]; rfl) (Steps.refl _) (a := o) (by rw [e241]; exact q242) q242' (argsL := [(.ref g)]) (rest := []) (lenOf pd_29 rfl) rfl (Nat.le_of_eq rfl) (hb hby d19_29) (fun _ _ => ⟨rfl, e241, (by decide : 0 + 0 ≤ _), (by decide : 0 + 0 ≤ _)⟩)
  dsimp only [Pt.U, Pt.locs, Pt.cells, Pt.slots] at X242 l242 y242 z242 st242 hQ242
  subst y242 z242
  obtain ⟨rfl, N242q, K242, Fb242, Fs242, V242⟩ := hQ242
  have N242 := own_frl l242 N241 N242q
  have Z_ : n0 ≤ T242.heap.size := Nat.le_trans Z_ K242.1
  have E_o := E_o.keep K242
  have E_g := E_g.keep K242
  have F_g := F_g.keep K242 (ninS ne_g_o (ninS ne_g_d nin0))
  have E_r := E_r.keep K242
  have F_n := F_n.keep K242 (ninS ne_r_o (ninS ne_r_d nin0))
  have F_t := F_t.keep K242 (ninS ne_r_o (ninS ne_r_d nin0))
  have O_ := O_.keep K242 (allS g_o (allS g_d all0))
  have Kp := Kp.trans K242 (allS (Or.inl (List.mem_of_getElem? (i := 0) rfl)) (allS (Or.inl (List.mem_of_getElem? (i := 1) rfl)) all0))
  have Fb := Fb242
  have Fs := Fs242
  have V_d := V242
  refine .st (fun _ => st242.trans) ?_
  show OwnGo p e below s _ _ _ T242 (mkF m 32 _ [])
  exact OwnGo.retV X242 hx hret hlk (hb hby d19_32) (by show Qwroot Z x t kb cl o d kd bl r g vv u_TagType_LONG u_1__SwitchMap_com_example_cofferhand_cofferhand_nbt_TagType kc_u_1__SwitchMap_com_example_cofferhand_cofferhand_nbt_TagType zc fmv h0 n0 _ T242.heap _; exact ⟨rfl, N242, Kp, Fb, Fs, V_d⟩) (by decide) (by decide)
def QminA (Z : State) (z : Int32) (h0 : Heap) (n0 : Nat) (v : Option Value) (h : Heap) (L : List Loc) : Prop := v = some (.int z) ∧ Fr n0 L ∧ h = h0
theorem rmminA (l : Launch) (Z : State) (a0 : Array Value) (hw : own_tb a0 Z) (ws : List Jvm.Cond) (z : Int32) (h0 : Heap) (n0 : Nat) (Z0 : n0 ≤ h0.size) (hz : z < (256 : Int32)) :
    OwnMet l (⟨"java/lang/Math", "min", "(II)I"⟩ : MethodName) jdk_29_method_69_code 2 (some .int) ws ({ frames := 0, cells := 0, slots := 0, locals := 0 } : Room) #[(.int (256 : Int32)), (.int z)] Z h0 (QminA Z z h0 n0) := by
  refine own_met pf_1 ?_
  intro p e s m below meth c s₁ X0 hx hby hml hret hlk hown hnm hZ e0
  have N0 := Fr.nil n0
  have Z_ := Z0
  refine OwnGo.cast (ef_minA m (256 : Int32) z) ?_
  show OwnGo p e below s _ _ _ s₁ (mkF m 0 _ [])
  refine .iloadN X0 hx (hb hby d1_0) rfl ?_
  refine .iloadN X0 hx (hb hby d1_1) rfl ?_
  refine .icmpYes (pc := 2) X0 hx 9 (hb hby d1_2) (tlt (hz : z < (256 : Int32))).2.2.1 (by decide) (by decide) ?_
  refine .iloadN X0 hx (hb hby d1_9) rfl ?_
  exact OwnGo.ret X0 hx hret hlk rfl (Or.inl ⟨rfl, Or.inl rfl, _, rfl⟩) (hb hby d1_10) (by show QminA Z z h0 n0 _ s₁.heap _; rw [e0]; exact ⟨rfl, N0, rfl⟩) (by decide) (by decide)
def Qcpy (Z : State) (d : Addr) (kd : ClassId) (bl : List Int32) (h0 : Heap) (n0 : Nat) (v : Option Value) (h : Heap) (L : List Loc) : Prop := ∃ (a : Addr) (ka : ClassId), v = some (.ref a) ∧ Fr n0 L ∧ Keep h0 h [] ∧ Arv Z h a ka .byte (Int32.ofNat (List.length bl)) (List.map Value.int bl) (.int (0 : Int32)) ∧ h0.size ≤ a
theorem rmcpy (l : Launch) (Z : State) (a0 : Array Value) (hw : own_tb a0 Z) (ws : List Jvm.Cond) (d : Addr) (kd : ClassId) (bl : List Int32) (h0 : Heap) (n0 : Nat) (Z0 : n0 ≤ h0.size) (V_d : Arv Z h0 d kd .byte (256 : Int32) (List.map Value.int bl) (.int (0 : Int32))) (hl : List.length bl < 64) :
    OwnMet l (⟨"java/util/Arrays", "copyOf", "([BI)[B"⟩ : MethodName) jdk_65_method_121_code 3 (some (.array .byte)) ws ({ frames := 1, cells := 1, slots := 64, locals := 18 } : Room) #[(.ref d), (.int (Int32.ofNat (List.length bl)))] Z h0 (Qcpy Z d kd bl h0 n0) := by
  refine own_met (plainFor_of_name pn_18) ?_
  intro p e s m below meth c s₁ X0 hx hby hml hret hlk hown hnm hZ e0
  have N0 := Fr.nil n0
  have Z_ := Z0
  refine OwnGo.cast (ef_cpy m d (Int32.ofNat (List.length bl))) ?_
  show OwnGo p e below s _ _ _ s₁ (mkF m 0 _ [])
  have Kp : Keep h0 h0 [] := Keep.refl h0 []
  refine .iloadN X0 hx (hb hby d18_0) rfl ?_
  refine .aloadN X0 hx (hb hby d18_1) rfl rfl ?_
  obtain ⟨cl243, Ar243, -, S243, N243, -, -⟩ := id V_d
  refine .st (fun _ => own_len hZ (len_of S243 N243) Ar243 X0 e0 hx (g := (mkF m 2 #[.val (.ref d), .val (.int (Int32.ofNat (List.length bl))), .unset] [(.ref d), (.int (Int32.ofNat (List.length bl)))])) rfl rfl (hb hby d18_2) _) ?_
  show OwnGo p e below s _ _ _ s₁ (mkF m 3 _ [(.int (256 : Int32)), (.int (Int32.ofNat (List.length bl)))])
  refine .icmpYes (pc := 3) X0 hx 14 (hb hby d18_3) (feq ((own_neA hl) : ¬ ((Int32.ofNat (List.length bl)) = (256 : Int32)))).2 (by decide) (by decide) ?_
  refine .iloadN X0 hx (hb hby d18_14) rfl ?_
  obtain ⟨T244, h244, k244, X244, e244, E244, A244, Ex244, st244⟩ := newPE X0 hx hZ (W_ hw 19 rfl) e0 (g := (mkF m 15 #[.val (.ref d), .val (.int (Int32.ofNat (List.length bl))), .unset] [(.int (Int32.ofNat (List.length bl)))])) rfl (hb hby d18_15) rfl (own_nn (by omega)) (cap := 64) (own_cl (by omega)) (by decide) (by decide) (by decide) (ad := "[B") (by decide)
  obtain ⟨b244, g244⟩ : ∃ z, z = h0.size := ⟨_, rfl⟩
  rw [← g244] at A244 Ex244 st244
  have ne_d_b244 : d ≠ b244 := Nat.ne_of_lt (Nat.lt_of_lt_of_le V_d.lt (Nat.le_of_eq g244.symm))
  have g_b244 : n0 ≤ b244 := Nat.le_trans Z_ (Nat.le_of_eq g244.symm)
  have sz_b244 : h0.size ≤ b244 := Nat.le_trans Kp.1 (Nat.le_of_eq g244.symm)
  have V_d := V_d.ext E244
  have Kp := Kp.ext E244
  have Z_ : n0 ≤ h244.size := Nat.le_trans Z_ E244.1
  have V_b244 : Arv Z h244 b244 k244 .byte (Int32.ofNat (List.length bl)) [] (.int (0 : Int32)) := Arv.new A244 (own_nn (by omega))
  have E_b244 := Ex244
  refine .st st244 ?_
  show OwnGo p e below s _ _ _ T244 (mkF m 17 _ [(.ref b244)])
  refine .astoreN X244 hx (hb hby d18_17) rfl (L' := #[.val (.ref d), .val (.int (Int32.ofNat (List.length bl))), .val (.ref b244)]) rfl ?_
  refine .aloadN X244 hx (hb hby d18_18) rfl rfl ?_
  refine .iconst X244 hx (hb hby d18_19) own_ki0 ?_
  refine .aloadN X244 hx (hb hby d18_20) rfl rfl ?_
  refine .iconst X244 hx (hb hby d18_21) own_ki0 ?_
  refine .aloadN X244 hx (hb hby d18_22) rfl rfl ?_
  obtain ⟨cl245, Ar245, -, S245, N245, -, -⟩ := id V_d
  refine .st (fun _ => own_len hZ (len_of S245 N245) Ar245 X244 e244 hx (g := (mkF m 23 #[.val (.ref d), .val (.int (Int32.ofNat (List.length bl))), .val (.ref b244)] [(.ref d), (.int (0 : Int32)), (.ref b244), (.int (0 : Int32)), (.ref d)])) rfl rfl (hb hby d18_23) _) ?_
  show OwnGo p e below s _ _ _ T244 (mkF m 24 _ [(.int (256 : Int32)), (.int (0 : Int32)), (.ref b244), (.int (0 : Int32)), (.ref d)])
  refine .iloadN X244 hx (hb hby d18_24) rfl ?_
  obtain ⟨_, _, ⟨T246, L246, k246, n246⟩, -, X246, ⟨Lc246, hQ246, l246, y246, z246⟩, st246⟩ := Jvm.LawKit.callS X244 hx (y := (⟨"java/lang/Math", "min", "(II)I"⟩ : MethodName)) hown (mvT hZ (W_ hw 106 rfl)) (mvT hZ (W_ hw 2 rfl)) (mvT hZ (W_ hw 3 rfl)) (mvT hZ (W_ hw 4 rfl)) (by decide) (backOf (W := 4) (rmminA l Z a0 hw [] (Int32.ofNat (List.length bl)) h244 n0 Z_ (own_lt256 (by omega))) hZ (W_ hw 4 rfl) (W_ hw 3 rfl) (by decide) (by decide)) (g := (mkF m 25 #[.val (.ref d), .val (.int (Int32.ofNat (List.length bl))), .val (.ref b244)] [(.int (Int32.ofNat (List.length bl))), (.int (256 : Int32)), (.int (0 : Int32)), (.ref b244), (.int (0 : Int32)), (.ref d)])) rfl (by rw [hml]; rfl) (argsL := [(.int (256 : Int32)), (.int (Int32.ofNat (List.length bl)))]) (rest := [(.int (0 : Int32)), (.ref b244), (.int (0 : Int32)), (.ref d)]) (lenOf pd_30 rfl) rfl (Nat.le_of_eq rfl) (hb hby d18_25) (fun _ _ => ⟨rfl, e244, (by decide : 1 + 0 ≤ _), (by decide : 64 + 0 ≤ _)⟩)
  dsimp only [Pt.U, Pt.locs, Pt.cells, Pt.slots] at X246 l246 y246 z246 st246 hQ246
  subst y246 z246
  obtain ⟨rfl, N246q, e246⟩ := hQ246
  have N246 := own_frl l246 N0 N246q
  refine .st st246 ?_
  show OwnGo p e below s _ _ _ T246 (mkF m 28 _ [(.int (Int32.ofNat (List.length bl))), (.int (0 : Int32)), (.ref b244), (.int (0 : Int32)), (.ref d)])
  obtain ⟨T247, h247, Lc247, X247, e247, K247, V247', Fq247, st247⟩ := own_copy X246 hx hZ hown (W_ hw 107 rfl) (W_ hw 110 rfl) (W_ hw 108 rfl) (W_ hw 109 rfl) e246 V_d V_b244 (us := (List.map Value.int bl)) (by decide) (by decide) (own_nn (by omega)) (by rw [own_cl2 (n := List.length bl) (by omega)]; show 0 + _ ≤ 256; omega) (by show 0 + _ ≤ _; omega) (fun j hj => by rw [if_pos ⟨Nat.zero_le _, by show j < 0 + _; rw [Nat.zero_add]; exact hj⟩]; show _ = List.getD _ (0 + (j - 0)) _; rw [Nat.zero_add, Nat.sub_zero]) (g := (mkF m 28 #[.val (.ref d), .val (.int (Int32.ofNat (List.length bl))), .val (.ref b244)] [(.int (Int32.ofNat (List.length bl))), (.int (0 : Int32)), (.ref b244), (.int (0 : Int32)), (.ref d)])) rfl (by rw [hml]; rfl) rfl (hb hby d18_28) (by decide) (W := 0) (Nat.le_of_eq rfl) (by decide)
  have N247 := Fr.app N246 (Fq247 n0 g_b244)
  have Z_ : n0 ≤ h247.size := Nat.le_trans Z_ K247.1
  have V_d := V_d.keep K247 (ninS ne_d_b244 nin0)
  have E_b244 := E_b244.keep K247
  have Kp := Kp.trans K247 (allS (Or.inr sz_b244) all0)
  have V_b244 := V247'
  refine .st st247 ?_
  show OwnGo p e below s _ _ _ T247 (mkF m 31 _ [])
  refine .aloadN X247 hx (hb hby d18_31) rfl rfl ?_
  exact OwnGo.ret X247 hx hret hlk rfl (Or.inr (Or.inr (Or.inr (Or.inr ⟨rfl, rfl, rfl⟩)))) (hb hby d18_32) (by show Qcpy Z d kd bl h0 n0 _ T247.heap _; rw [e247]; exact ⟨b244, k244, rfl, N247, Kp, V_b244, sz_b244⟩) (by decide) (by decide)
def Qtba (Z : State) (o : Addr) (d : Addr) (kd : ClassId) (bl : List Int32) (h0 : Heap) (n0 : Nat) (v : Option Value) (h : Heap) (L : List Loc) : Prop := ∃ (a : Addr) (ka : ClassId), v = some (.ref a) ∧ Fr n0 L ∧ Keep h0 h [] ∧ Arv Z h a ka .byte (Int32.ofNat (List.length bl)) (List.map Value.int bl) (.int (0 : Int32)) ∧ h0.size ≤ a
theorem rmtba (l : Launch) (Z : State) (a0 : Array Value) (hw : own_tb a0 Z) (ws : List Jvm.Cond) (o : Addr) (d : Addr) (kd : ClassId) (bl : List Int32) (h0 : Heap) (n0 : Nat) (Z0 : n0 ≤ h0.size) (Fb : Fld Z h0 o "com/example/cofferhand/cofferhand/nbt/NbtWriter" "buffer" "[B" (.ref d)) (Fs : Fld Z h0 o "com/example/cofferhand/cofferhand/nbt/NbtWriter" "size" "I" (.int (Int32.ofNat (List.length bl)))) (V_d : Arv Z h0 d kd .byte (256 : Int32) (List.map Value.int bl) (.int (0 : Int32))) (hl : List.length bl < 64) :
    OwnMet l (⟨"com/example/cofferhand/cofferhand/nbt/NbtWriter", "toByteArray", "()[B"⟩ : MethodName) prog_41_method_3_code 1 (some (.array .byte)) ws ({ frames := 2, cells := 1, slots := 64, locals := 32 } : Room) #[(.ref o)] Z h0 (Qtba Z o d kd bl h0 n0) := by
  refine own_met (plainFor_of_name pn_24) ?_
  intro p e s m below meth c s₁ X0 hx hby hml hret hlk hown hnm hZ e0
  have N0 := Fr.nil n0
  have Z_ := Z0
  refine OwnGo.cast (ef_tba m o) ?_
  show OwnGo p e below s _ _ _ s₁ (mkF m 0 _ [])
  refine .aloadN X0 hx (hb hby d17_0) rfl rfl ?_
  obtain ⟨T248, X248, e248, st248⟩ := getF X0 hx hZ hown (host := "") (Or.inl (W_ hw 93 rfl)) Via.refl e0 Fb (g := (mkF m 1 #[.val (.ref o)] [(.ref o)])) rfl rfl (hb hby d17_1)
  refine .st st248 ?_
  show OwnGo p e below s _ _ _ T248 (mkF m 4 _ [(.ref d)])
  refine .aloadN X248 hx (hb hby d17_4) rfl rfl ?_
  obtain ⟨T249, X249, e249, st249⟩ := getF X248 hx hZ hown (host := "") (Or.inl (W_ hw 100 rfl)) Via.refl e248 Fs (g := (mkF m 5 #[.val (.ref o)] [(.ref o), (.ref d)])) rfl rfl (hb hby d17_5)
  refine .st st249 ?_
  show OwnGo p e below s _ _ _ T249 (mkF m 8 _ [(.int (Int32.ofNat (List.length bl))), (.ref d)])
  obtain ⟨_, _, ⟨T250, L250, k250, n250⟩, -, X250, ⟨Lc250, hQ250, l250, y250, z250⟩, st250⟩ := Jvm.LawKit.callS X249 hx (y := (⟨"java/util/Arrays", "copyOf", "([BI)[B"⟩ : MethodName)) hown (mvT hZ (W_ hw 102 rfl)) (mvT hZ (W_ hw 103 rfl)) (mvT hZ (W_ hw 104 rfl)) (mvT hZ (W_ hw 105 rfl)) (by decide) (backOf (W := 0) (rmcpy l Z a0 hw [] d kd bl h0 n0 Z_ V_d hl) hZ (W_ hw 105 rfl) (W_ hw 104 rfl) (by decide) (by decide)) (g := (mkF m 8 #[.val (.ref o)] [(.int (Int32.ofNat (List.length bl))), (.ref d)])) rfl (by rw [hml]; rfl) (argsL := [(.ref d), (.int (Int32.ofNat (List.length bl)))]) (rest := []) (lenOf pd_31 rfl) rfl (Nat.le_of_eq rfl) (hb hby d17_8) (fun _ _ => ⟨rfl, e249, (by decide : 0 + 1 ≤ _), (by decide : 0 + 64 ≤ _)⟩)
  dsimp only [Pt.U, Pt.locs, Pt.cells, Pt.slots] at X250 l250 y250 z250 st250 hQ250
  subst y250 z250
  obtain ⟨a250, ka250, rfl, N250q, K250, V250, za250⟩ := hQ250
  have N250 := own_frl l250 N0 N250q
  have ne_o_a250 : o ≠ a250 := Nat.ne_of_lt (Nat.lt_of_lt_of_le Fb.lt za250)
  have ne_d_a250 : d ≠ a250 := Nat.ne_of_lt (Nat.lt_of_lt_of_le V_d.lt za250)
  have g_a250 : n0 ≤ a250 := Nat.le_trans Z_ za250
  have Z_ : n0 ≤ T250.heap.size := Nat.le_trans Z_ K250.1
  have Fb := Fb.keep K250 nin0
  have Fs := Fs.keep K250 nin0
  have V_d := V_d.keep K250 nin0
  refine .st st250 ?_
  show OwnGo p e below s _ _ _ T250 (mkF m 11 _ [(.ref a250)])
  exact OwnGo.ret X250 hx hret hlk rfl (Or.inr (Or.inr (Or.inr (Or.inr ⟨rfl, rfl, rfl⟩)))) (hb hby d17_11) (by show Qtba Z o d kd bl h0 n0 _ T250.heap _; exact ⟨a250, ka250, rfl, N250, K250, V250, za250⟩) (by decide) (by decide)
def Qput (Z : State) (q : Addr) (kq : ClassId) (bl : List Int32) (c0 : Int32) (h0 : Heap) (n0 : Nat) (v : Option Value) (h : Heap) (L : List Loc) : Prop := v = some (.int (Int32.ofNat (List.length (bl ++ own_enc c0)))) ∧ Fr n0 L ∧ Keep h0 h [q] ∧ Arv Z h q kq .byte (17 : Int32) (List.map Value.int (bl ++ own_enc c0)) (.int (0 : Int32))
theorem rmput (l : Launch) (Z : State) (a0 : Array Value) (hw : own_tb a0 Z) (ws : List Jvm.Cond) (q : Addr) (kq : ClassId) (bl : List Int32) (c0 : Int32) (h0 : Heap) (n0 : Nat) (Z0 : n0 ≤ h0.size) (V_q : Arv Z h0 q kq .byte (17 : Int32) (List.map Value.int bl) (.int (0 : Int32))) (g_q : n0 ≤ q) (hl : List.length bl + 3 ≤ 17) :
    OwnMet l (⟨"com/example/cofferhand/cofferhand/nbt/NbtWriterToByteArrayPinLaw", "put", "([BIC)I"⟩ : MethodName) method_3_code 3 (some .int) ws ({ frames := 0, cells := 0, slots := 0, locals := 0 } : Room) #[(.ref q), (.int (Int32.ofNat (List.length bl))), (.int c0)] Z h0 (Qput Z q kq bl c0 h0 n0) := by
  refine own_met (plainFor_of_name pn_7) ?_
  intro p e s m below meth c s₁ X0 hx hby hml hret hlk hown hnm hZ e0
  have N0 := Fr.nil n0
  have Z_ := Z0
  refine OwnGo.cast (ef_put m q (Int32.ofNat (List.length bl)) c0) ?_
  show OwnGo p e below s _ _ _ s₁ (mkF m 0 _ [])
  have Kp : Keep h0 h0 [q] := Keep.refl h0 [q]
  refine OwnGo.join (T1 := s₁) (P := fun z_ : Int32 => c0 = (0 : Int32) ∨ ¬ c0 < (128 : Int32)) (f := fun z_ : Int32 => mkF m 20 #[.val (.ref q), .val (.int (Int32.ofNat (List.length bl))), .val (.int c0)] []) ?_ ?_
  · intro z_ hz
    obtain ⟨un_, hz_⟩ : ∃ u : Int32, u = z_ := ⟨_, rfl⟩
    subst hz_
    replace hz : c0 = (0 : Int32) ∨ ¬ c0 < (128 : Int32) := hz
    show OwnGo p e below s _ _ _ s₁ (mkF m 20 #[.val (.ref q), .val (.int (Int32.ofNat (List.length bl))), .val (.int c0)] [])
    refine .iloadN X0 hx (hb hby d7_20) rfl ?_
    refine .sipush X0 hx (hb hby d7_21) own_ks2048 ?_
    by_cases q2 : c0 < (2048 : Int32)
    · refine .icmpNo X0 hx (hb hby d7_24) (tlt (q2 : c0 < (2048 : Int32))).2.1 ?_
      refine .aloadN X0 hx (hb hby d7_27) rfl rfl ?_
      refine .iloadN X0 hx (hb hby d7_28) rfl ?_
      refine .sipush X0 hx (hb hby d7_29) own_ks192 ?_
      refine .iloadN X0 hx (hb hby d7_32) rfl ?_
      refine .bipush X0 hx (hb hby d7_33) own_kb6 ?_
      refine .st (fun _ => XS.ishr X0.here hx rfl (hb hby d7_35) rfl) ?_
      show OwnGo p e below s _ _ _ s₁ (mkF m 36 _ [(.int (c0 >>> ((6 : Int32) &&& 31))), (.int (192 : Int32)), (.int (Int32.ofNat (List.length bl))), (.ref q)])
      refine .st (fun _ => XS.ior X0.here hx rfl (hb hby d7_36) rfl) ?_
      show OwnGo p e below s _ _ _ s₁ (mkF m 37 _ [(.int ((192 : Int32) ||| (c0 >>> ((6 : Int32) &&& 31)))), (.int (Int32.ofNat (List.length bl))), (.ref q)])
      refine .st (fun _ => XS.i2b X0.here hx rfl (hb hby d7_37) rfl) ?_
      show OwnGo p e below s _ _ _ s₁ (mkF m 38 _ [(.int (((192 : Int32) ||| (c0 >>> ((6 : Int32) &&& 31))).toInt8.toInt32)), (.int (Int32.ofNat (List.length bl))), (.ref q)])
      obtain ⟨cl252, Ar252, -, S252, -, -, -⟩ := id V_q
      have lt252 : List.length bl < 17 := (by omega)
      have ix252 : (Int32.ofNat (List.length bl)) = (Int32.ofNat (List.length bl)) := rfl
      obtain ⟨T252, h252, X252, e252, W252, st252⟩ := stB X0 hx hZ e0 Ar252 (j := (Int32.ofNat (List.length bl))) (inb_of S252 (own_inb ix252 lt252 (by decide))) (g := (mkF m 38 #[.val (.ref q), .val (.int (Int32.ofNat (List.length bl))), .val (.int c0)] [(.int (((192 : Int32) ||| (c0 >>> ((6 : Int32) &&& 31))).toInt8.toInt32)), (.int (Int32.ofNat (List.length bl))), (.ref q)])) rfl rfl (hb hby d7_38)
      have V'252 : Arv Z h252 q kq .byte (17 : Int32) (List.map Value.int (bl ++ [(((192 : Int32) ||| (c0 >>> ((6 : Int32) &&& 31))).toInt8.toInt32)])) (.int (0 : Int32)) := own_push V_q W252 ix252 (Nat.lt_trans lt252 (by decide)) (own_nb _)
      have Kp := Kp.wr W252 (Or.inl (List.mem_of_getElem? (i := 0) rfl))
      have N252 := Fr.snoc X252 N0 g_q
      have Z_ : n0 ≤ h252.size := by rw [W252.size]; exact Z_
      have V_q := V'252
      refine .st st252 ?_
      show OwnGo p e below s _ _ _ T252 (mkF m 39 _ [])
      refine .aloadN X252 hx (hb hby d7_39) rfl rfl ?_
      refine .iloadN X252 hx (hb hby d7_40) rfl ?_
      refine .iconst X252 hx (hb hby d7_41) own_ki1 ?_
      refine .st (fun _ => XS.iadd X252.here hx rfl (hb hby d7_42) rfl) ?_
      show OwnGo p e below s _ _ _ T252 (mkF m 43 _ [(.int ((Int32.ofNat (List.length bl)) + (1 : Int32))), (.ref q)])
      refine .sipush X252 hx (hb hby d7_43) own_ks128 ?_
      refine .iloadN X252 hx (hb hby d7_46) rfl ?_
      refine .bipush X252 hx (hb hby d7_47) own_kb63 ?_
      refine .st (fun _ => XS.iand X252.here hx rfl (hb hby d7_49) rfl) ?_
      show OwnGo p e below s _ _ _ T252 (mkF m 50 _ [(.int (c0 &&& (63 : Int32))), (.int (128 : Int32)), (.int ((Int32.ofNat (List.length bl)) + (1 : Int32))), (.ref q)])
      refine .st (fun _ => XS.ior X252.here hx rfl (hb hby d7_50) rfl) ?_
      show OwnGo p e below s _ _ _ T252 (mkF m 51 _ [(.int ((128 : Int32) ||| (c0 &&& (63 : Int32)))), (.int ((Int32.ofNat (List.length bl)) + (1 : Int32))), (.ref q)])
      refine .st (fun _ => XS.i2b X252.here hx rfl (hb hby d7_51) rfl) ?_
      show OwnGo p e below s _ _ _ T252 (mkF m 52 _ [(.int (((128 : Int32) ||| (c0 &&& (63 : Int32))).toInt8.toInt32)), (.int ((Int32.ofNat (List.length bl)) + (1 : Int32))), (.ref q)])
      obtain ⟨cl253, Ar253, -, S253, -, -, -⟩ := id V_q
      have lt253 : List.length (bl ++ [(((192 : Int32) ||| (c0 >>> ((6 : Int32) &&& 31))).toInt8.toInt32)]) < 17 := (by simp only [List.length_append, List.length_cons, List.length_nil] <;> omega)
      have ix253 : ((Int32.ofNat (List.length bl)) + (1 : Int32)) = (Int32.ofNat (List.length (bl ++ [(((192 : Int32) ||| (c0 >>> ((6 : Int32) &&& 31))).toInt8.toInt32)]))) := (by rw [own_sz1])
      obtain ⟨T253, h253, X253, e253, W253, st253⟩ := stB X252 hx hZ e252 Ar253 (j := ((Int32.ofNat (List.length bl)) + (1 : Int32))) (inb_of S253 (own_inb ix253 lt253 (by decide))) (g := (mkF m 52 #[.val (.ref q), .val (.int (Int32.ofNat (List.length bl))), .val (.int c0)] [(.int (((128 : Int32) ||| (c0 &&& (63 : Int32))).toInt8.toInt32)), (.int ((Int32.ofNat (List.length bl)) + (1 : Int32))), (.ref q)])) rfl rfl (hb hby d7_52)
      have V'253 : Arv Z h253 q kq .byte (17 : Int32) (List.map Value.int ((bl ++ [(((192 : Int32) ||| (c0 >>> ((6 : Int32) &&& 31))).toInt8.toInt32)]) ++ [(((128 : Int32) ||| (c0 &&& (63 : Int32))).toInt8.toInt32)])) (.int (0 : Int32)) := own_push V_q W253 ix253 (Nat.lt_trans lt253 (by decide)) (own_nb _)
      have Kp := Kp.wr W253 (Or.inl (List.mem_of_getElem? (i := 0) rfl))
      have N253 := Fr.snoc X253 N252 g_q
      have Z_ : n0 ≤ h253.size := by rw [W253.size]; exact Z_
      have V_q := V'253
      refine .st st253 ?_
      show OwnGo p e below s _ _ _ T253 (mkF m 53 _ [])
      refine .iloadN X253 hx (hb hby d7_53) rfl ?_
      refine .iconst X253 hx (hb hby d7_54) own_ki2 ?_
      refine .st (fun _ => XS.iadd X253.here hx rfl (hb hby d7_55) rfl) ?_
      show OwnGo p e below s _ _ _ T253 (mkF m 56 _ [(.int ((Int32.ofNat (List.length bl)) + (2 : Int32)))])
      have eL : ((Int32.ofNat (List.length bl)) + (2 : Int32)) = (Int32.ofNat (List.length (bl ++ own_enc c0))) := by rw [List.length_append, (own_enc2 hz q2)]; exact own_f2 _
      rw [eL]
      show OwnGo p e below s _ _ _ T253 (mkF m 56 _ [(.int (Int32.ofNat (List.length (bl ++ own_enc c0))))])
      have V_q : Arv Z h253 q kq .byte (17 : Int32) (List.map Value.int (bl ++ own_enc c0)) (.int (0 : Int32)) := by rw [(own_enc2 hz q2)]; simp only [List.append_assoc, List.cons_append, List.nil_append] at V_q; exact V_q
      exact OwnGo.ret X253 hx hret hlk rfl (Or.inl ⟨rfl, Or.inl rfl, _, rfl⟩) (hb hby d7_56) (by show Qput Z q kq bl c0 h0 n0 _ T253.heap _; rw [e253]; exact ⟨rfl, N253, Kp, V_q⟩) (by decide) (by decide)
    · refine .icmpYes (pc := 24) X0 hx 57 (hb hby d7_24) (flt (q2 : ¬ (c0 < (2048 : Int32)))).2.1 (by decide) (by decide) ?_
      refine .aloadN X0 hx (hb hby d7_57) rfl rfl ?_
      refine .iloadN X0 hx (hb hby d7_58) rfl ?_
      refine .sipush X0 hx (hb hby d7_59) own_ks224 ?_
      refine .iloadN X0 hx (hb hby d7_62) rfl ?_
      refine .bipush X0 hx (hb hby d7_63) own_kb12 ?_
      refine .st (fun _ => XS.ishr X0.here hx rfl (hb hby d7_65) rfl) ?_
      show OwnGo p e below s _ _ _ s₁ (mkF m 66 _ [(.int (c0 >>> ((12 : Int32) &&& 31))), (.int (224 : Int32)), (.int (Int32.ofNat (List.length bl))), (.ref q)])
      refine .st (fun _ => XS.ior X0.here hx rfl (hb hby d7_66) rfl) ?_
      show OwnGo p e below s _ _ _ s₁ (mkF m 67 _ [(.int ((224 : Int32) ||| (c0 >>> ((12 : Int32) &&& 31)))), (.int (Int32.ofNat (List.length bl))), (.ref q)])
      refine .st (fun _ => XS.i2b X0.here hx rfl (hb hby d7_67) rfl) ?_
      show OwnGo p e below s _ _ _ s₁ (mkF m 68 _ [(.int (((224 : Int32) ||| (c0 >>> ((12 : Int32) &&& 31))).toInt8.toInt32)), (.int (Int32.ofNat (List.length bl))), (.ref q)])
      obtain ⟨cl254, Ar254, -, S254, -, -, -⟩ := id V_q
      have lt254 : List.length bl < 17 := (by omega)
      have ix254 : (Int32.ofNat (List.length bl)) = (Int32.ofNat (List.length bl)) := rfl
      obtain ⟨T254, h254, X254, e254, W254, st254⟩ := stB X0 hx hZ e0 Ar254 (j := (Int32.ofNat (List.length bl))) (inb_of S254 (own_inb ix254 lt254 (by decide))) (g := (mkF m 68 #[.val (.ref q), .val (.int (Int32.ofNat (List.length bl))), .val (.int c0)] [(.int (((224 : Int32) ||| (c0 >>> ((12 : Int32) &&& 31))).toInt8.toInt32)), (.int (Int32.ofNat (List.length bl))), (.ref q)])) rfl rfl (hb hby d7_68)
      have V'254 : Arv Z h254 q kq .byte (17 : Int32) (List.map Value.int (bl ++ [(((224 : Int32) ||| (c0 >>> ((12 : Int32) &&& 31))).toInt8.toInt32)])) (.int (0 : Int32)) := own_push V_q W254 ix254 (Nat.lt_trans lt254 (by decide)) (own_nb _)
      have Kp := Kp.wr W254 (Or.inl (List.mem_of_getElem? (i := 0) rfl))
      have N254 := Fr.snoc X254 N0 g_q
      have Z_ : n0 ≤ h254.size := by rw [W254.size]; exact Z_
      have V_q := V'254
      refine .st st254 ?_
      show OwnGo p e below s _ _ _ T254 (mkF m 69 _ [])
      refine .aloadN X254 hx (hb hby d7_69) rfl rfl ?_
      refine .iloadN X254 hx (hb hby d7_70) rfl ?_
      refine .iconst X254 hx (hb hby d7_71) own_ki1 ?_
      refine .st (fun _ => XS.iadd X254.here hx rfl (hb hby d7_72) rfl) ?_
      show OwnGo p e below s _ _ _ T254 (mkF m 73 _ [(.int ((Int32.ofNat (List.length bl)) + (1 : Int32))), (.ref q)])
      refine .sipush X254 hx (hb hby d7_73) own_ks128 ?_
      refine .iloadN X254 hx (hb hby d7_76) rfl ?_
      refine .bipush X254 hx (hb hby d7_77) own_kb6 ?_
      refine .st (fun _ => XS.ishr X254.here hx rfl (hb hby d7_79) rfl) ?_
      show OwnGo p e below s _ _ _ T254 (mkF m 80 _ [(.int (c0 >>> ((6 : Int32) &&& 31))), (.int (128 : Int32)), (.int ((Int32.ofNat (List.length bl)) + (1 : Int32))), (.ref q)])
      refine .bipush X254 hx (hb hby d7_80) own_kb63 ?_
      refine .st (fun _ => XS.iand X254.here hx rfl (hb hby d7_82) rfl) ?_
      show OwnGo p e below s _ _ _ T254 (mkF m 83 _ [(.int ((c0 >>> ((6 : Int32) &&& 31)) &&& (63 : Int32))), (.int (128 : Int32)), (.int ((Int32.ofNat (List.length bl)) + (1 : Int32))), (.ref q)])
      refine .st (fun _ => XS.ior X254.here hx rfl (hb hby d7_83) rfl) ?_
      show OwnGo p e below s _ _ _ T254 (mkF m 84 _ [(.int ((128 : Int32) ||| ((c0 >>> ((6 : Int32) &&& 31)) &&& (63 : Int32)))), (.int ((Int32.ofNat (List.length bl)) + (1 : Int32))), (.ref q)])
      refine .st (fun _ => XS.i2b X254.here hx rfl (hb hby d7_84) rfl) ?_
      show OwnGo p e below s _ _ _ T254 (mkF m 85 _ [(.int (((128 : Int32) ||| ((c0 >>> ((6 : Int32) &&& 31)) &&& (63 : Int32))).toInt8.toInt32)), (.int ((Int32.ofNat (List.length bl)) + (1 : Int32))), (.ref q)])
      obtain ⟨cl255, Ar255, -, S255, -, -, -⟩ := id V_q
      have lt255 : List.length (bl ++ [(((224 : Int32) ||| (c0 >>> ((12 : Int32) &&& 31))).toInt8.toInt32)]) < 17 := (by simp only [List.length_append, List.length_cons, List.length_nil] <;> omega)
      have ix255 : ((Int32.ofNat (List.length bl)) + (1 : Int32)) = (Int32.ofNat (List.length (bl ++ [(((224 : Int32) ||| (c0 >>> ((12 : Int32) &&& 31))).toInt8.toInt32)]))) := (by rw [own_sz1])
      obtain ⟨T255, h255, X255, e255, W255, st255⟩ := stB X254 hx hZ e254 Ar255 (j := ((Int32.ofNat (List.length bl)) + (1 : Int32))) (inb_of S255 (own_inb ix255 lt255 (by decide))) (g := (mkF m 85 #[.val (.ref q), .val (.int (Int32.ofNat (List.length bl))), .val (.int c0)] [(.int (((128 : Int32) ||| ((c0 >>> ((6 : Int32) &&& 31)) &&& (63 : Int32))).toInt8.toInt32)), (.int ((Int32.ofNat (List.length bl)) + (1 : Int32))), (.ref q)])) rfl rfl (hb hby d7_85)
      have V'255 : Arv Z h255 q kq .byte (17 : Int32) (List.map Value.int ((bl ++ [(((224 : Int32) ||| (c0 >>> ((12 : Int32) &&& 31))).toInt8.toInt32)]) ++ [(((128 : Int32) ||| ((c0 >>> ((6 : Int32) &&& 31)) &&& (63 : Int32))).toInt8.toInt32)])) (.int (0 : Int32)) := own_push V_q W255 ix255 (Nat.lt_trans lt255 (by decide)) (own_nb _)
      have Kp := Kp.wr W255 (Or.inl (List.mem_of_getElem? (i := 0) rfl))
      have N255 := Fr.snoc X255 N254 g_q
      have Z_ : n0 ≤ h255.size := by rw [W255.size]; exact Z_
      have V_q := V'255
      refine .st st255 ?_
      show OwnGo p e below s _ _ _ T255 (mkF m 86 _ [])
      refine .aloadN X255 hx (hb hby d7_86) rfl rfl ?_
      refine .iloadN X255 hx (hb hby d7_87) rfl ?_
      refine .iconst X255 hx (hb hby d7_88) own_ki2 ?_
      refine .st (fun _ => XS.iadd X255.here hx rfl (hb hby d7_89) rfl) ?_
      show OwnGo p e below s _ _ _ T255 (mkF m 90 _ [(.int ((Int32.ofNat (List.length bl)) + (2 : Int32))), (.ref q)])
      refine .sipush X255 hx (hb hby d7_90) own_ks128 ?_
      refine .iloadN X255 hx (hb hby d7_93) rfl ?_
      refine .bipush X255 hx (hb hby d7_94) own_kb63 ?_
      refine .st (fun _ => XS.iand X255.here hx rfl (hb hby d7_96) rfl) ?_
      show OwnGo p e below s _ _ _ T255 (mkF m 97 _ [(.int (c0 &&& (63 : Int32))), (.int (128 : Int32)), (.int ((Int32.ofNat (List.length bl)) + (2 : Int32))), (.ref q)])
      refine .st (fun _ => XS.ior X255.here hx rfl (hb hby d7_97) rfl) ?_
      show OwnGo p e below s _ _ _ T255 (mkF m 98 _ [(.int ((128 : Int32) ||| (c0 &&& (63 : Int32)))), (.int ((Int32.ofNat (List.length bl)) + (2 : Int32))), (.ref q)])
      refine .st (fun _ => XS.i2b X255.here hx rfl (hb hby d7_98) rfl) ?_
      show OwnGo p e below s _ _ _ T255 (mkF m 99 _ [(.int (((128 : Int32) ||| (c0 &&& (63 : Int32))).toInt8.toInt32)), (.int ((Int32.ofNat (List.length bl)) + (2 : Int32))), (.ref q)])
      obtain ⟨cl256, Ar256, -, S256, -, -, -⟩ := id V_q
      have lt256 : List.length ((bl ++ [(((224 : Int32) ||| (c0 >>> ((12 : Int32) &&& 31))).toInt8.toInt32)]) ++ [(((128 : Int32) ||| ((c0 >>> ((6 : Int32) &&& 31)) &&& (63 : Int32))).toInt8.toInt32)]) < 17 := (by simp only [List.length_append, List.length_cons, List.length_nil] <;> omega)
      have ix256 : ((Int32.ofNat (List.length bl)) + (2 : Int32)) = (Int32.ofNat (List.length ((bl ++ [(((224 : Int32) ||| (c0 >>> ((12 : Int32) &&& 31))).toInt8.toInt32)]) ++ [(((128 : Int32) ||| ((c0 >>> ((6 : Int32) &&& 31)) &&& (63 : Int32))).toInt8.toInt32)]))) := own_j2
      obtain ⟨T256, h256, X256, e256, W256, st256⟩ := stB X255 hx hZ e255 Ar256 (j := ((Int32.ofNat (List.length bl)) + (2 : Int32))) (inb_of S256 (own_inb ix256 lt256 (by decide))) (g := (mkF m 99 #[.val (.ref q), .val (.int (Int32.ofNat (List.length bl))), .val (.int c0)] [(.int (((128 : Int32) ||| (c0 &&& (63 : Int32))).toInt8.toInt32)), (.int ((Int32.ofNat (List.length bl)) + (2 : Int32))), (.ref q)])) rfl rfl (hb hby d7_99)
      have V'256 : Arv Z h256 q kq .byte (17 : Int32) (List.map Value.int (((bl ++ [(((224 : Int32) ||| (c0 >>> ((12 : Int32) &&& 31))).toInt8.toInt32)]) ++ [(((128 : Int32) ||| ((c0 >>> ((6 : Int32) &&& 31)) &&& (63 : Int32))).toInt8.toInt32)]) ++ [(((128 : Int32) ||| (c0 &&& (63 : Int32))).toInt8.toInt32)])) (.int (0 : Int32)) := own_push V_q W256 ix256 (Nat.lt_trans lt256 (by decide)) (own_nb _)
      have Kp := Kp.wr W256 (Or.inl (List.mem_of_getElem? (i := 0) rfl))
      have N256 := Fr.snoc X256 N255 g_q
      have Z_ : n0 ≤ h256.size := by rw [W256.size]; exact Z_
      have V_q := V'256
      refine .st st256 ?_
      show OwnGo p e below s _ _ _ T256 (mkF m 100 _ [])
      refine .iloadN X256 hx (hb hby d7_100) rfl ?_
      refine .iconst X256 hx (hb hby d7_101) own_ki3 ?_
      refine .st (fun _ => XS.iadd X256.here hx rfl (hb hby d7_102) rfl) ?_
      show OwnGo p e below s _ _ _ T256 (mkF m 103 _ [(.int ((Int32.ofNat (List.length bl)) + (3 : Int32)))])
      have eL : ((Int32.ofNat (List.length bl)) + (3 : Int32)) = (Int32.ofNat (List.length (bl ++ own_enc c0))) := by rw [List.length_append, (own_enc3 hz q2)]; exact own_f3 _
      rw [eL]
      show OwnGo p e below s _ _ _ T256 (mkF m 103 _ [(.int (Int32.ofNat (List.length (bl ++ own_enc c0))))])
      have V_q : Arv Z h256 q kq .byte (17 : Int32) (List.map Value.int (bl ++ own_enc c0)) (.int (0 : Int32)) := by rw [(own_enc3 hz q2)]; simp only [List.append_assoc, List.cons_append, List.nil_append] at V_q; exact V_q
      exact OwnGo.ret X256 hx hret hlk rfl (Or.inl ⟨rfl, Or.inl rfl, _, rfl⟩) (hb hby d7_103) (by show Qput Z q kq bl c0 h0 n0 _ T256.heap _; rw [e256]; exact ⟨rfl, N256, Kp, V_q⟩) (by decide) (by decide)
  · intro key251
    refine .iloadN X0 hx (hb hby d7_0) rfl ?_
    by_cases q0 : c0 = (0 : Int32)
    · refine .ifYes (pc := 1) X0 hx 20 (hb hby d7_1) ((if0 _ _).trans (teq (q0 : c0 = (0 : Int32))).1) (by decide) (by decide) ?_
      exact key251 0 (Or.inl q0)
    · refine .ifNo X0 hx (hb hby d7_1) ((if0 _ _).trans (feq (q0 : ¬ (c0 = (0 : Int32)))).1) ?_
      refine .iloadN X0 hx (hb hby d7_4) rfl ?_
      refine .sipush X0 hx (hb hby d7_5) own_ks128 ?_
      by_cases q1 : c0 < (128 : Int32)
      · refine .icmpNo X0 hx (hb hby d7_8) (tlt (q1 : c0 < (128 : Int32))).2.1 ?_
        refine .aloadN X0 hx (hb hby d7_11) rfl rfl ?_
        refine .iloadN X0 hx (hb hby d7_12) rfl ?_
        refine .iloadN X0 hx (hb hby d7_13) rfl ?_
        refine .st (fun _ => XS.i2b X0.here hx rfl (hb hby d7_14) rfl) ?_
        show OwnGo p e below s _ _ _ s₁ (mkF m 15 _ [(.int (c0.toInt8.toInt32)), (.int (Int32.ofNat (List.length bl))), (.ref q)])
        obtain ⟨cl257, Ar257, -, S257, -, -, -⟩ := id V_q
        have lt257 : List.length bl < 17 := (by omega)
        have ix257 : (Int32.ofNat (List.length bl)) = (Int32.ofNat (List.length bl)) := rfl
        obtain ⟨T257, h257, X257, e257, W257, st257⟩ := stB X0 hx hZ e0 Ar257 (j := (Int32.ofNat (List.length bl))) (inb_of S257 (own_inb ix257 lt257 (by decide))) (g := (mkF m 15 #[.val (.ref q), .val (.int (Int32.ofNat (List.length bl))), .val (.int c0)] [(.int (c0.toInt8.toInt32)), (.int (Int32.ofNat (List.length bl))), (.ref q)])) rfl rfl (hb hby d7_15)
        have V'257 : Arv Z h257 q kq .byte (17 : Int32) (List.map Value.int (bl ++ [(c0.toInt8.toInt32)])) (.int (0 : Int32)) := own_push V_q W257 ix257 (Nat.lt_trans lt257 (by decide)) (own_nb _)
        have Kp := Kp.wr W257 (Or.inl (List.mem_of_getElem? (i := 0) rfl))
        have N257 := Fr.snoc X257 N0 g_q
        have Z_ : n0 ≤ h257.size := by rw [W257.size]; exact Z_
        have V_q := V'257
        refine .st st257 ?_
        show OwnGo p e below s _ _ _ T257 (mkF m 16 _ [])
        refine .iloadN X257 hx (hb hby d7_16) rfl ?_
        refine .iconst X257 hx (hb hby d7_17) own_ki1 ?_
        refine .st (fun _ => XS.iadd X257.here hx rfl (hb hby d7_18) rfl) ?_
        show OwnGo p e below s _ _ _ T257 (mkF m 19 _ [(.int ((Int32.ofNat (List.length bl)) + (1 : Int32)))])
        have eL : ((Int32.ofNat (List.length bl)) + (1 : Int32)) = (Int32.ofNat (List.length (bl ++ own_enc c0))) := by rw [List.length_append, (own_enc1 q0 q1)]; exact own_f1 _
        rw [eL]
        show OwnGo p e below s _ _ _ T257 (mkF m 19 _ [(.int (Int32.ofNat (List.length (bl ++ own_enc c0))))])
        have V_q : Arv Z h257 q kq .byte (17 : Int32) (List.map Value.int (bl ++ own_enc c0)) (.int (0 : Int32)) := by rw [(own_enc1 q0 q1)]; exact V_q
        exact OwnGo.ret X257 hx hret hlk rfl (Or.inl ⟨rfl, Or.inl rfl, _, rfl⟩) (hb hby d7_19) (by show Qput Z q kq bl c0 h0 n0 _ T257.heap _; rw [e257]; exact ⟨rfl, N257, Kp, V_q⟩) (by decide) (by decide)
      · refine .icmpYes (pc := 8) X0 hx 20 (hb hby d7_8) (flt (q1 : ¬ (c0 < (128 : Int32)))).2.1 (by decide) (by decide) ?_
        exact key251 0 (Or.inr q1)
def Qsame (Z : State) (a : Addr) (ka : ClassId) (vl : List Int32) (q : Addr) (kq : ClassId) (rl : List Int32) (oi : Int32) (ok : Nat) (i : Int32) (k : Nat) (h0 : Heap) (n0 : Nat) (v : Option Value) (h : Heap) (L : List Loc) : Prop := v = some (.int (1 : Int32)) ∧ Fr n0 L ∧ h = h0
theorem rmsame (l : Launch) (Z : State) (a0 : Array Value) (hw : own_tb a0 Z) (ws : List Jvm.Cond) (a : Addr) (ka : ClassId) (vl : List Int32) (q : Addr) (kq : ClassId) (rl : List Int32) (oi : Int32) (ok : Nat) (i : Int32) (k : Nat) (h0 : Heap) (n0 : Nat) (Z0 : n0 ≤ h0.size) (V_a : Arv Z h0 a ka .byte (Int32.ofNat (List.length vl)) (List.map Value.int vl) (.int (0 : Int32))) (V_q : Arv Z h0 q kq .byte (17 : Int32) (List.map Value.int rl) (.int (0 : Int32))) (ho : oi = Int32.ofNat ok) (hs : ok + List.length rl ≤ List.length vl) (hv : List.length vl < 2 ^ 31) (hr : List.length rl ≤ 17) (he : ∀ j, j < List.length rl → vl.getD (ok + j) 0 = rl.getD j 0) (hi : i = Int32.ofNat k) (hk : k < 17) :
    OwnMet l (⟨"com/example/cofferhand/cofferhand/nbt/NbtWriterToByteArrayPinLaw", "same", "([BI[BII)Z"⟩ : MethodName) method_4_code 5 (some .boolean) ws ({ frames := 0, cells := 0, slots := 0, locals := 0 } : Room) #[(.ref a), (.int oi), (.ref q), (.int (Int32.ofNat (List.length rl))), (.int i)] Z h0 (Qsame Z a ka vl q kq rl oi ok i k h0 n0) := by
  refine own_met (plainFor_of_name pn_7) ?_
  intro p e s m below meth c s₁ X0 hx hby hml hret hlk hown hnm hZ e0
  have N0 := Fr.nil n0
  have Z_ := Z0
  refine OwnGo.cast (ef_same m a oi q (Int32.ofNat (List.length rl)) i) ?_
  show OwnGo p e below s _ _ _ s₁ (mkF m 0 _ [])
  refine .iload X0 hx (hb hby d41_0) rfl ?_
  refine .iloadN X0 hx (hb hby d41_2) rfl ?_
  by_cases hq : i < (Int32.ofNat (List.length rl))
  · refine .icmpNo X0 hx (hb hby d41_3) (tlt (hq : i < (Int32.ofNat (List.length rl)))).2.1 ?_
    have hkr : k < List.length rl := own_ltinv hi (by omega) (by omega) hq
    have hsum : oi + i = Int32.ofNat (ok + k) := by rw [ho, hi]; exact own_ixn rfl
    refine .aloadN X0 hx (hb hby d41_6) rfl rfl ?_
    refine .iloadN X0 hx (hb hby d41_7) rfl ?_
    refine .iload X0 hx (hb hby d41_8) rfl ?_
    refine .st (fun _ => XS.iadd X0.here hx rfl (hb hby d41_10) rfl) ?_
    show OwnGo p e below s _ _ _ s₁ (mkF m 11 _ [(.int (oi + i)), (.ref a)])
    obtain ⟨cl258, Ar258, -, S258, -, H258, -⟩ := id V_a
    have hin258 : ¬ ((oi + i) < 0 ∨ cl258.slots.size ≤ ((oi + i)).toNatClampNeg) := inb_of S258 (own_inb hsum (by omega) hv)
    refine .st (fun _ => X0.baloadBytes hx (j := (oi + i)) (v := (.int (vl.getD (ok + k) 0))) (by first | exact Ar258.1 | (rw [e0]; exact Ar258.1)) (State.isArrayOf_alike hZ.alike Ar258.2.1) Ar258.2.2 hin258 (H258.at hin258 (own_gdj hsum (by omega))) (g := (mkF m 11 #[.val (.ref a), .val (.int oi), .val (.ref q), .val (.int (Int32.ofNat (List.length rl))), .val (.int i)] [(.int (oi + i)), (.ref a)])) rfl rfl (hb hby d41_11) _) ?_
    show OwnGo p e below s _ _ _ s₁ (mkF m 12 _ [(.int (vl.getD (ok + k) 0))])
    refine .aloadN X0 hx (hb hby d41_12) rfl rfl ?_
    refine .iload X0 hx (hb hby d41_13) rfl ?_
    obtain ⟨cl259, Ar259, -, S259, -, H259, -⟩ := id V_q
    have hin259 : ¬ (i < 0 ∨ cl259.slots.size ≤ (i).toNatClampNeg) := inb_of S259 (own_inb hi hk (by decide))
    refine .st (fun _ => X0.baloadBytes hx (j := i) (v := (.int (rl.getD k 0))) (by first | exact Ar259.1 | (rw [e0]; exact Ar259.1)) (State.isArrayOf_alike hZ.alike Ar259.2.1) Ar259.2.2 hin259 (H259.at hin259 (own_gdj hi (by omega))) (g := (mkF m 15 #[.val (.ref a), .val (.int oi), .val (.ref q), .val (.int (Int32.ofNat (List.length rl))), .val (.int i)] [(.int i), (.ref q), (.int (vl.getD (ok + k) 0))])) rfl rfl (hb hby d41_15) _) ?_
    show OwnGo p e below s _ _ _ s₁ (mkF m 16 _ [(.int (rl.getD k 0)), (.int (vl.getD (ok + k) 0))])
    refine .icmpNo X0 hx (hb hby d41_16) (teq ((he k hkr) : (vl.getD (ok + k) 0) = (rl.getD k 0))).2 ?_
    refine .iconst X0 hx (hb hby d41_19) own_ki1 ?_
    refine .goto (pc := 20) X0 hx 24 (hb hby d41_20) (by decide) (by decide) ?_
    exact OwnGo.retN X0 hx (t := .boolean) hret hlk (by simp) (hb hby d41_24) (by show Qsame Z a ka vl q kq rl oi ok i k h0 n0 _ s₁.heap _; rw [e0]; exact ⟨rfl, N0, rfl⟩) (by decide) (by decide)
  · refine .icmpYes (pc := 3) X0 hx 19 (hb hby d41_3) (flt (hq : ¬ (i < (Int32.ofNat (List.length rl))))).2.1 (by decide) (by decide) ?_
    refine .iconst X0 hx (hb hby d41_19) own_ki1 ?_
    refine .goto (pc := 20) X0 hx 24 (hb hby d41_20) (by decide) (by decide) ?_
    exact OwnGo.retN X0 hx (t := .boolean) hret hlk (by simp) (hb hby d41_24) (by show Qsame Z a ka vl q kq rl oi ok i k h0 n0 _ s₁.heap _; rw [e0]; exact ⟨rfl, N0, rfl⟩) (by decide) (by decide)
def Qals (Z : State) (a : Addr) (ka : ClassId) (vl : List Int32) (q : Addr) (kq : ClassId) (rl : List Int32) (oi : Int32) (ok : Nat) (h0 : Heap) (n0 : Nat) (v : Option Value) (h : Heap) (L : List Loc) : Prop := v = some (.int (1 : Int32)) ∧ Fr n0 L ∧ h = h0
theorem rmals (l : Launch) (Z : State) (a0 : Array Value) (hw : own_tb a0 Z) (ws : List Jvm.Cond) (a : Addr) (ka : ClassId) (vl : List Int32) (q : Addr) (kq : ClassId) (rl : List Int32) (oi : Int32) (ok : Nat) (h0 : Heap) (n0 : Nat) (Z0 : n0 ≤ h0.size) (V_a : Arv Z h0 a ka .byte (Int32.ofNat (List.length vl)) (List.map Value.int vl) (.int (0 : Int32))) (V_q : Arv Z h0 q kq .byte (17 : Int32) (List.map Value.int rl) (.int (0 : Int32))) (ho : oi = Int32.ofNat ok) (hs : ok + List.length rl ≤ List.length vl) (hv : List.length vl < 2 ^ 31) (hr : List.length rl ≤ 17) (he : ∀ j, j < List.length rl → vl.getD (ok + j) 0 = rl.getD j 0) :
    OwnMet l (⟨"com/example/cofferhand/cofferhand/nbt/NbtWriterToByteArrayPinLaw", "allSame", "([BI[BI)Z"⟩ : MethodName) method_5_code 4 (some .boolean) ws ({ frames := 1, cells := 0, slots := 0, locals := 16 } : Room) #[(.ref a), (.int oi), (.ref q), (.int (Int32.ofNat (List.length rl)))] Z h0 (Qals Z a ka vl q kq rl oi ok h0 n0) := by
  refine own_met (plainFor_of_name pn_7) ?_
  intro p e s m below meth c s₁ X0 hx hby hml hret hlk hown hnm hZ e0
  have N0 := Fr.nil n0
  have Z_ := Z0
  refine OwnGo.cast (ef_als m a oi q (Int32.ofNat (List.length rl))) ?_
  show OwnGo p e below s _ _ _ s₁ (mkF m 0 _ [])
  refine .aloadN X0 hx (hb hby d40_0) rfl rfl ?_
  refine .iloadN X0 hx (hb hby d40_1) rfl ?_
  refine .aloadN X0 hx (hb hby d40_2) rfl rfl ?_
  refine .iloadN X0 hx (hb hby d40_3) rfl ?_
  refine .iconst X0 hx (hb hby d40_4) own_ki0 ?_
  obtain ⟨_, _, ⟨T260, L260, k260, n260⟩, -, X260, ⟨Lc260, hQ260, l260, y260, z260⟩, st260⟩ := Jvm.LawKit.callS X0 hx (y := (⟨"com/example/cofferhand/cofferhand/nbt/NbtWriterToByteArrayPinLaw", "same", "([BI[BII)Z"⟩ : MethodName)) hown (mvT hZ (W_ hw 222 rfl)) (mvT hZ (W_ hw 223 rfl)) (mvT hZ (W_ hw 33 rfl)) (mvT hZ (W_ hw 224 rfl)) (by decide) (backOf (W := 0) (rmsame l Z a0 hw [] a ka vl q kq rl oi ok (0 : Int32) 0 h0 n0 Z_ V_a V_q ho hs hv hr he rfl (by decide)) hZ (W_ hw 224 rfl) (W_ hw 33 rfl) (by decide) (by decide)) (g := (mkF m 5 #[.val (.ref a), .val (.int oi), .val (.ref q), .val (.int (Int32.ofNat (List.length rl)))] [(.int (0 : Int32)), (.int (Int32.ofNat (List.length rl))), (.ref q), (.int oi), (.ref a)])) rfl (by rw [hml]; rfl) (argsL := [(.ref a), (.int oi), (.ref q), (.int (Int32.ofNat (List.length rl))), (.int (0 : Int32))]) (rest := []) (lenOf pd_32 rfl) rfl (Nat.le_of_eq rfl) (hb hby d40_5) (fun _ _ => ⟨rfl, e0, (by decide : 0 + 0 ≤ _), (by decide : 0 + 0 ≤ _)⟩)
  dsimp only [Pt.U, Pt.locs, Pt.cells, Pt.slots] at X260 l260 y260 z260 st260 hQ260
  subst y260 z260
  obtain ⟨rfl, N260q, e260⟩ := hQ260
  have N260 := own_frl l260 N0 N260q
  refine .st st260 ?_
  show OwnGo p e below s _ _ _ T260 (mkF m 8 _ [(.int (1 : Int32))])
  refine .ifNo X260 hx (hb hby d40_8) ((if0 _ _).trans (feq ((by decide) : ¬ ((1 : Int32) = (0 : Int32)))).1) ?_
  refine .aloadN X260 hx (hb hby d40_11) rfl rfl ?_
  refine .iloadN X260 hx (hb hby d40_12) rfl ?_
  refine .aloadN X260 hx (hb hby d40_13) rfl rfl ?_
  refine .iloadN X260 hx (hb hby d40_14) rfl ?_
  refine .iconst X260 hx (hb hby d40_15) own_ki1 ?_
  obtain ⟨_, _, ⟨T261, L261, k261, n261⟩, -, X261, ⟨Lc261, hQ261, l261, y261, z261⟩, st261⟩ := Jvm.LawKit.callS X260 hx (y := (⟨"com/example/cofferhand/cofferhand/nbt/NbtWriterToByteArrayPinLaw", "same", "([BI[BII)Z"⟩ : MethodName)) hown (mvT hZ (W_ hw 222 rfl)) (mvT hZ (W_ hw 223 rfl)) (mvT hZ (W_ hw 33 rfl)) (mvT hZ (W_ hw 224 rfl)) (by decide) (backOf (W := 0) (rmsame l Z a0 hw [] a ka vl q kq rl oi ok (1 : Int32) 1 h0 n0 Z_ V_a V_q ho hs hv hr he rfl (by decide)) hZ (W_ hw 224 rfl) (W_ hw 33 rfl) (by decide) (by decide)) (g := (mkF m 16 #[.val (.ref a), .val (.int oi), .val (.ref q), .val (.int (Int32.ofNat (List.length rl)))] [(.int (1 : Int32)), (.int (Int32.ofNat (List.length rl))), (.ref q), (.int oi), (.ref a)])) rfl (by rw [hml]; rfl) (argsL := [(.ref a), (.int oi), (.ref q), (.int (Int32.ofNat (List.length rl))), (.int (1 : Int32))]) (rest := []) (lenOf pd_32 rfl) rfl (Nat.le_of_eq rfl) (hb hby d40_16) (fun _ _ => ⟨rfl, e260, (by decide : 0 + 0 ≤ _), (by decide : 0 + 0 ≤ _)⟩)
  dsimp only [Pt.U, Pt.locs, Pt.cells, Pt.slots] at X261 l261 y261 z261 st261 hQ261
  subst y261 z261
  obtain ⟨rfl, N261q, e261⟩ := hQ261
  have N261 := own_frl l261 N260 N261q
  refine .st st261 ?_
  show OwnGo p e below s _ _ _ T261 (mkF m 19 _ [(.int (1 : Int32))])
  refine .ifNo X261 hx (hb hby d40_19) ((if0 _ _).trans (feq ((by decide) : ¬ ((1 : Int32) = (0 : Int32)))).1) ?_
  refine .aloadN X261 hx (hb hby d40_22) rfl rfl ?_
  refine .iloadN X261 hx (hb hby d40_23) rfl ?_
  refine .aloadN X261 hx (hb hby d40_24) rfl rfl ?_
  refine .iloadN X261 hx (hb hby d40_25) rfl ?_
  refine .iconst X261 hx (hb hby d40_26) own_ki2 ?_
  obtain ⟨_, _, ⟨T262, L262, k262, n262⟩, -, X262, ⟨Lc262, hQ262, l262, y262, z262⟩, st262⟩ := Jvm.LawKit.callS X261 hx (y := (⟨"com/example/cofferhand/cofferhand/nbt/NbtWriterToByteArrayPinLaw", "same", "([BI[BII)Z"⟩ : MethodName)) hown (mvT hZ (W_ hw 222 rfl)) (mvT hZ (W_ hw 223 rfl)) (mvT hZ (W_ hw 33 rfl)) (mvT hZ (W_ hw 224 rfl)) (by decide) (backOf (W := 0) (rmsame l Z a0 hw [] a ka vl q kq rl oi ok (2 : Int32) 2 h0 n0 Z_ V_a V_q ho hs hv hr he rfl (by decide)) hZ (W_ hw 224 rfl) (W_ hw 33 rfl) (by decide) (by decide)) (g := (mkF m 27 #[.val (.ref a), .val (.int oi), .val (.ref q), .val (.int (Int32.ofNat (List.length rl)))] [(.int (2 : Int32)), (.int (Int32.ofNat (List.length rl))), (.ref q), (.int oi), (.ref a)])) rfl (by rw [hml]; rfl) (argsL := [(.ref a), (.int oi), (.ref q), (.int (Int32.ofNat (List.length rl))), (.int (2 : Int32))]) (rest := []) (lenOf pd_32 rfl) rfl (Nat.le_of_eq rfl) (hb hby d40_27) (fun _ _ => ⟨rfl, e261, (by decide : 0 + 0 ≤ _), (by decide : 0 + 0 ≤ _)⟩)
  dsimp only [Pt.U, Pt.locs, Pt.cells, Pt.slots] at X262 l262 y262 z262 st262 hQ262
  subst y262 z262
  obtain ⟨rfl, N262q, e262⟩ := hQ262
  have N262 := own_frl l262 N261 N262q
  refine .st st262 ?_
  show OwnGo p e below s _ _ _ T262 (mkF m 30 _ [(.int (1 : Int32))])
  refine .ifNo X262 hx (hb hby d40_30) ((if0 _ _).trans (feq ((by decide) : ¬ ((1 : Int32) = (0 : Int32)))).1) ?_
  refine .aloadN X262 hx (hb hby d40_33) rfl rfl ?_
  refine .iloadN X262 hx (hb hby d40_34) rfl ?_
  refine .aloadN X262 hx (hb hby d40_35) rfl rfl ?_
  refine .iloadN X262 hx (hb hby d40_36) rfl ?_
  refine .iconst X262 hx (hb hby d40_37) own_ki3 ?_
  obtain ⟨_, _, ⟨T263, L263, k263, n263⟩, -, X263, ⟨Lc263, hQ263, l263, y263, z263⟩, st263⟩ := Jvm.LawKit.callS X262 hx (y := (⟨"com/example/cofferhand/cofferhand/nbt/NbtWriterToByteArrayPinLaw", "same", "([BI[BII)Z"⟩ : MethodName)) hown (mvT hZ (W_ hw 222 rfl)) (mvT hZ (W_ hw 223 rfl)) (mvT hZ (W_ hw 33 rfl)) (mvT hZ (W_ hw 224 rfl)) (by decide) (backOf (W := 0) (rmsame l Z a0 hw [] a ka vl q kq rl oi ok (3 : Int32) 3 h0 n0 Z_ V_a V_q ho hs hv hr he rfl (by decide)) hZ (W_ hw 224 rfl) (W_ hw 33 rfl) (by decide) (by decide)) (g := (mkF m 38 #[.val (.ref a), .val (.int oi), .val (.ref q), .val (.int (Int32.ofNat (List.length rl)))] [(.int (3 : Int32)), (.int (Int32.ofNat (List.length rl))), (.ref q), (.int oi), (.ref a)])) rfl (by rw [hml]; rfl) (argsL := [(.ref a), (.int oi), (.ref q), (.int (Int32.ofNat (List.length rl))), (.int (3 : Int32))]) (rest := []) (lenOf pd_32 rfl) rfl (Nat.le_of_eq rfl) (hb hby d40_38) (fun _ _ => ⟨rfl, e262, (by decide : 0 + 0 ≤ _), (by decide : 0 + 0 ≤ _)⟩)
  dsimp only [Pt.U, Pt.locs, Pt.cells, Pt.slots] at X263 l263 y263 z263 st263 hQ263
  subst y263 z263
  obtain ⟨rfl, N263q, e263⟩ := hQ263
  have N263 := own_frl l263 N262 N263q
  refine .st st263 ?_
  show OwnGo p e below s _ _ _ T263 (mkF m 41 _ [(.int (1 : Int32))])
  refine .ifNo X263 hx (hb hby d40_41) ((if0 _ _).trans (feq ((by decide) : ¬ ((1 : Int32) = (0 : Int32)))).1) ?_
  refine .aloadN X263 hx (hb hby d40_44) rfl rfl ?_
  refine .iloadN X263 hx (hb hby d40_45) rfl ?_
  refine .aloadN X263 hx (hb hby d40_46) rfl rfl ?_
  refine .iloadN X263 hx (hb hby d40_47) rfl ?_
  refine .iconst X263 hx (hb hby d40_48) own_ki4 ?_
  obtain ⟨_, _, ⟨T264, L264, k264, n264⟩, -, X264, ⟨Lc264, hQ264, l264, y264, z264⟩, st264⟩ := Jvm.LawKit.callS X263 hx (y := (⟨"com/example/cofferhand/cofferhand/nbt/NbtWriterToByteArrayPinLaw", "same", "([BI[BII)Z"⟩ : MethodName)) hown (mvT hZ (W_ hw 222 rfl)) (mvT hZ (W_ hw 223 rfl)) (mvT hZ (W_ hw 33 rfl)) (mvT hZ (W_ hw 224 rfl)) (by decide) (backOf (W := 0) (rmsame l Z a0 hw [] a ka vl q kq rl oi ok (4 : Int32) 4 h0 n0 Z_ V_a V_q ho hs hv hr he rfl (by decide)) hZ (W_ hw 224 rfl) (W_ hw 33 rfl) (by decide) (by decide)) (g := (mkF m 49 #[.val (.ref a), .val (.int oi), .val (.ref q), .val (.int (Int32.ofNat (List.length rl)))] [(.int (4 : Int32)), (.int (Int32.ofNat (List.length rl))), (.ref q), (.int oi), (.ref a)])) rfl (by rw [hml]; rfl) (argsL := [(.ref a), (.int oi), (.ref q), (.int (Int32.ofNat (List.length rl))), (.int (4 : Int32))]) (rest := []) (lenOf pd_32 rfl) rfl (Nat.le_of_eq rfl) (hb hby d40_49) (fun _ _ => ⟨rfl, e263, (by decide : 0 + 0 ≤ _), (by decide : 0 + 0 ≤ _)⟩)
  dsimp only [Pt.U, Pt.locs, Pt.cells, Pt.slots] at X264 l264 y264 z264 st264 hQ264
  subst y264 z264
  obtain ⟨rfl, N264q, e264⟩ := hQ264
  have N264 := own_frl l264 N263 N264q
  refine .st st264 ?_
  show OwnGo p e below s _ _ _ T264 (mkF m 52 _ [(.int (1 : Int32))])
  refine .ifNo X264 hx (hb hby d40_52) ((if0 _ _).trans (feq ((by decide) : ¬ ((1 : Int32) = (0 : Int32)))).1) ?_
  refine .aloadN X264 hx (hb hby d40_55) rfl rfl ?_
  refine .iloadN X264 hx (hb hby d40_56) rfl ?_
  refine .aloadN X264 hx (hb hby d40_57) rfl rfl ?_
  refine .iloadN X264 hx (hb hby d40_58) rfl ?_
  refine .iconst X264 hx (hb hby d40_59) own_ki5 ?_
  obtain ⟨_, _, ⟨T265, L265, k265, n265⟩, -, X265, ⟨Lc265, hQ265, l265, y265, z265⟩, st265⟩ := Jvm.LawKit.callS X264 hx (y := (⟨"com/example/cofferhand/cofferhand/nbt/NbtWriterToByteArrayPinLaw", "same", "([BI[BII)Z"⟩ : MethodName)) hown (mvT hZ (W_ hw 222 rfl)) (mvT hZ (W_ hw 223 rfl)) (mvT hZ (W_ hw 33 rfl)) (mvT hZ (W_ hw 224 rfl)) (by decide) (backOf (W := 0) (rmsame l Z a0 hw [] a ka vl q kq rl oi ok (5 : Int32) 5 h0 n0 Z_ V_a V_q ho hs hv hr he rfl (by decide)) hZ (W_ hw 224 rfl) (W_ hw 33 rfl) (by decide) (by decide)) (g := (mkF m 60 #[.val (.ref a), .val (.int oi), .val (.ref q), .val (.int (Int32.ofNat (List.length rl)))] [(.int (5 : Int32)), (.int (Int32.ofNat (List.length rl))), (.ref q), (.int oi), (.ref a)])) rfl (by rw [hml]; rfl) (argsL := [(.ref a), (.int oi), (.ref q), (.int (Int32.ofNat (List.length rl))), (.int (5 : Int32))]) (rest := []) (lenOf pd_32 rfl) rfl (Nat.le_of_eq rfl) (hb hby d40_60) (fun _ _ => ⟨rfl, e264, (by decide : 0 + 0 ≤ _), (by decide : 0 + 0 ≤ _)⟩)
  dsimp only [Pt.U, Pt.locs, Pt.cells, Pt.slots] at X265 l265 y265 z265 st265 hQ265
  subst y265 z265
  obtain ⟨rfl, N265q, e265⟩ := hQ265
  have N265 := own_frl l265 N264 N265q
  refine .st st265 ?_
  show OwnGo p e below s _ _ _ T265 (mkF m 63 _ [(.int (1 : Int32))])
  refine .ifNo X265 hx (hb hby d40_63) ((if0 _ _).trans (feq ((by decide) : ¬ ((1 : Int32) = (0 : Int32)))).1) ?_
  refine .aloadN X265 hx (hb hby d40_66) rfl rfl ?_
  refine .iloadN X265 hx (hb hby d40_67) rfl ?_
  refine .aloadN X265 hx (hb hby d40_68) rfl rfl ?_
  refine .iloadN X265 hx (hb hby d40_69) rfl ?_
  refine .bipush X265 hx (hb hby d40_70) own_kb6 ?_
  obtain ⟨_, _, ⟨T266, L266, k266, n266⟩, -, X266, ⟨Lc266, hQ266, l266, y266, z266⟩, st266⟩ := Jvm.LawKit.callS X265 hx (y := (⟨"com/example/cofferhand/cofferhand/nbt/NbtWriterToByteArrayPinLaw", "same", "([BI[BII)Z"⟩ : MethodName)) hown (mvT hZ (W_ hw 222 rfl)) (mvT hZ (W_ hw 223 rfl)) (mvT hZ (W_ hw 33 rfl)) (mvT hZ (W_ hw 224 rfl)) (by decide) (backOf (W := 0) (rmsame l Z a0 hw [] a ka vl q kq rl oi ok (6 : Int32) 6 h0 n0 Z_ V_a V_q ho hs hv hr he rfl (by decide)) hZ (W_ hw 224 rfl) (W_ hw 33 rfl) (by decide) (by decide)) (g := (mkF m 72 #[.val (.ref a), .val (.int oi), .val (.ref q), .val (.int (Int32.ofNat (List.length rl)))] [(.int (6 : Int32)), (.int (Int32.ofNat (List.length rl))), (.ref q), (.int oi), (.ref a)])) rfl (by rw [hml]; rfl) (argsL := [(.ref a), (.int oi), (.ref q), (.int (Int32.ofNat (List.length rl))), (.int (6 : Int32))]) (rest := []) (lenOf pd_32 rfl) rfl (Nat.le_of_eq rfl) (hb hby d40_72) (fun _ _ => ⟨rfl, e265, (by decide : 0 + 0 ≤ _), (by decide : 0 + 0 ≤ _)⟩)
  dsimp only [Pt.U, Pt.locs, Pt.cells, Pt.slots] at X266 l266 y266 z266 st266 hQ266
  subst y266 z266
  obtain ⟨rfl, N266q, e266⟩ := hQ266
  have N266 := own_frl l266 N265 N266q
  refine .st st266 ?_
  show OwnGo p e below s _ _ _ T266 (mkF m 75 _ [(.int (1 : Int32))])
  refine .ifNo X266 hx (hb hby d40_75) ((if0 _ _).trans (feq ((by decide) : ¬ ((1 : Int32) = (0 : Int32)))).1) ?_
  refine .aloadN X266 hx (hb hby d40_78) rfl rfl ?_
  refine .iloadN X266 hx (hb hby d40_79) rfl ?_
  refine .aloadN X266 hx (hb hby d40_80) rfl rfl ?_
  refine .iloadN X266 hx (hb hby d40_81) rfl ?_
  refine .bipush X266 hx (hb hby d40_82) own_kb7 ?_
  obtain ⟨_, _, ⟨T267, L267, k267, n267⟩, -, X267, ⟨Lc267, hQ267, l267, y267, z267⟩, st267⟩ := Jvm.LawKit.callS X266 hx (y := (⟨"com/example/cofferhand/cofferhand/nbt/NbtWriterToByteArrayPinLaw", "same", "([BI[BII)Z"⟩ : MethodName)) hown (mvT hZ (W_ hw 222 rfl)) (mvT hZ (W_ hw 223 rfl)) (mvT hZ (W_ hw 33 rfl)) (mvT hZ (W_ hw 224 rfl)) (by decide) (backOf (W := 0) (rmsame l Z a0 hw [] a ka vl q kq rl oi ok (7 : Int32) 7 h0 n0 Z_ V_a V_q ho hs hv hr he rfl (by decide)) hZ (W_ hw 224 rfl) (W_ hw 33 rfl) (by decide) (by decide)) (g := (mkF m 84 #[.val (.ref a), .val (.int oi), .val (.ref q), .val (.int (Int32.ofNat (List.length rl)))] [(.int (7 : Int32)), (.int (Int32.ofNat (List.length rl))), (.ref q), (.int oi), (.ref a)])) rfl (by rw [hml]; rfl) (argsL := [(.ref a), (.int oi), (.ref q), (.int (Int32.ofNat (List.length rl))), (.int (7 : Int32))]) (rest := []) (lenOf pd_32 rfl) rfl (Nat.le_of_eq rfl) (hb hby d40_84) (fun _ _ => ⟨rfl, e266, (by decide : 0 + 0 ≤ _), (by decide : 0 + 0 ≤ _)⟩)
  dsimp only [Pt.U, Pt.locs, Pt.cells, Pt.slots] at X267 l267 y267 z267 st267 hQ267
  subst y267 z267
  obtain ⟨rfl, N267q, e267⟩ := hQ267
  have N267 := own_frl l267 N266 N267q
  refine .st st267 ?_
  show OwnGo p e below s _ _ _ T267 (mkF m 87 _ [(.int (1 : Int32))])
  refine .ifNo X267 hx (hb hby d40_87) ((if0 _ _).trans (feq ((by decide) : ¬ ((1 : Int32) = (0 : Int32)))).1) ?_
  refine .aloadN X267 hx (hb hby d40_90) rfl rfl ?_
  refine .iloadN X267 hx (hb hby d40_91) rfl ?_
  refine .aloadN X267 hx (hb hby d40_92) rfl rfl ?_
  refine .iloadN X267 hx (hb hby d40_93) rfl ?_
  refine .bipush X267 hx (hb hby d40_94) own_kb8 ?_
  obtain ⟨_, _, ⟨T268, L268, k268, n268⟩, -, X268, ⟨Lc268, hQ268, l268, y268, z268⟩, st268⟩ := Jvm.LawKit.callS X267 hx (y := (⟨"com/example/cofferhand/cofferhand/nbt/NbtWriterToByteArrayPinLaw", "same", "([BI[BII)Z"⟩ : MethodName)) hown (mvT hZ (W_ hw 222 rfl)) (mvT hZ (W_ hw 223 rfl)) (mvT hZ (W_ hw 33 rfl)) (mvT hZ (W_ hw 224 rfl)) (by decide) (backOf (W := 0) (rmsame l Z a0 hw [] a ka vl q kq rl oi ok (8 : Int32) 8 h0 n0 Z_ V_a V_q ho hs hv hr he rfl (by decide)) hZ (W_ hw 224 rfl) (W_ hw 33 rfl) (by decide) (by decide)) (g := (mkF m 96 #[.val (.ref a), .val (.int oi), .val (.ref q), .val (.int (Int32.ofNat (List.length rl)))] [(.int (8 : Int32)), (.int (Int32.ofNat (List.length rl))), (.ref q), (.int oi), (.ref a)])) rfl (by rw [hml]; rfl) (argsL := [(.ref a), (.int oi), (.ref q), (.int (Int32.ofNat (List.length rl))), (.int (8 : Int32))]) (rest := []) (lenOf pd_32 rfl) rfl (Nat.le_of_eq rfl) (hb hby d40_96) (fun _ _ => ⟨rfl, e267, (by decide : 0 + 0 ≤ _), (by decide : 0 + 0 ≤ _)⟩)
  dsimp only [Pt.U, Pt.locs, Pt.cells, Pt.slots] at X268 l268 y268 z268 st268 hQ268
  subst y268 z268
  obtain ⟨rfl, N268q, e268⟩ := hQ268
  have N268 := own_frl l268 N267 N268q
  refine .st st268 ?_
  show OwnGo p e below s _ _ _ T268 (mkF m 99 _ [(.int (1 : Int32))])
  refine .ifNo X268 hx (hb hby d40_99) ((if0 _ _).trans (feq ((by decide) : ¬ ((1 : Int32) = (0 : Int32)))).1) ?_
  refine .aloadN X268 hx (hb hby d40_102) rfl rfl ?_
  refine .iloadN X268 hx (hb hby d40_103) rfl ?_
  refine .aloadN X268 hx (hb hby d40_104) rfl rfl ?_
  refine .iloadN X268 hx (hb hby d40_105) rfl ?_
  refine .bipush X268 hx (hb hby d40_106) own_kb9 ?_
  obtain ⟨_, _, ⟨T269, L269, k269, n269⟩, -, X269, ⟨Lc269, hQ269, l269, y269, z269⟩, st269⟩ := Jvm.LawKit.callS X268 hx (y := (⟨"com/example/cofferhand/cofferhand/nbt/NbtWriterToByteArrayPinLaw", "same", "([BI[BII)Z"⟩ : MethodName)) hown (mvT hZ (W_ hw 222 rfl)) (mvT hZ (W_ hw 223 rfl)) (mvT hZ (W_ hw 33 rfl)) (mvT hZ (W_ hw 224 rfl)) (by decide) (backOf (W := 0) (rmsame l Z a0 hw [] a ka vl q kq rl oi ok (9 : Int32) 9 h0 n0 Z_ V_a V_q ho hs hv hr he rfl (by decide)) hZ (W_ hw 224 rfl) (W_ hw 33 rfl) (by decide) (by decide)) (g := (mkF m 108 #[.val (.ref a), .val (.int oi), .val (.ref q), .val (.int (Int32.ofNat (List.length rl)))] [(.int (9 : Int32)), (.int (Int32.ofNat (List.length rl))), (.ref q), (.int oi), (.ref a)])) rfl (by rw [hml]; rfl) (argsL := [(.ref a), (.int oi), (.ref q), (.int (Int32.ofNat (List.length rl))), (.int (9 : Int32))]) (rest := []) (lenOf pd_32 rfl) rfl (Nat.le_of_eq rfl) (hb hby d40_108) (fun _ _ => ⟨rfl, e268, (by decide : 0 + 0 ≤ _), (by decide : 0 + 0 ≤ _)⟩)
  dsimp only [Pt.U, Pt.locs, Pt.cells, Pt.slots] at X269 l269 y269 z269 st269 hQ269
  subst y269 z269
  obtain ⟨rfl, N269q, e269⟩ := hQ269
  have N269 := own_frl l269 N268 N269q
  refine .st st269 ?_
  show OwnGo p e below s _ _ _ T269 (mkF m 111 _ [(.int (1 : Int32))])
  refine .ifNo X269 hx (hb hby d40_111) ((if0 _ _).trans (feq ((by decide) : ¬ ((1 : Int32) = (0 : Int32)))).1) ?_
  refine .aloadN X269 hx (hb hby d40_114) rfl rfl ?_
  refine .iloadN X269 hx (hb hby d40_115) rfl ?_
  refine .aloadN X269 hx (hb hby d40_116) rfl rfl ?_
  refine .iloadN X269 hx (hb hby d40_117) rfl ?_
  refine .bipush X269 hx (hb hby d40_118) own_kb10 ?_
  obtain ⟨_, _, ⟨T270, L270, k270, n270⟩, -, X270, ⟨Lc270, hQ270, l270, y270, z270⟩, st270⟩ := Jvm.LawKit.callS X269 hx (y := (⟨"com/example/cofferhand/cofferhand/nbt/NbtWriterToByteArrayPinLaw", "same", "([BI[BII)Z"⟩ : MethodName)) hown (mvT hZ (W_ hw 222 rfl)) (mvT hZ (W_ hw 223 rfl)) (mvT hZ (W_ hw 33 rfl)) (mvT hZ (W_ hw 224 rfl)) (by decide) (backOf (W := 0) (rmsame l Z a0 hw [] a ka vl q kq rl oi ok (10 : Int32) 10 h0 n0 Z_ V_a V_q ho hs hv hr he rfl (by decide)) hZ (W_ hw 224 rfl) (W_ hw 33 rfl) (by decide) (by decide)) (g := (mkF m 120 #[.val (.ref a), .val (.int oi), .val (.ref q), .val (.int (Int32.ofNat (List.length rl)))] [(.int (10 : Int32)), (.int (Int32.ofNat (List.length rl))), (.ref q), (.int oi), (.ref a)])) rfl (by rw [hml]; rfl) (argsL := [(.ref a), (.int oi), (.ref q), (.int (Int32.ofNat (List.length rl))), (.int (10 : Int32))]) (rest := []) (lenOf pd_32 rfl) rfl (Nat.le_of_eq rfl) (hb hby d40_120) (fun _ _ => ⟨rfl, e269, (by decide : 0 + 0 ≤ _), (by decide : 0 + 0 ≤ _)⟩)
  dsimp only [Pt.U, Pt.locs, Pt.cells, Pt.slots] at X270 l270 y270 z270 st270 hQ270
  subst y270 z270
  obtain ⟨rfl, N270q, e270⟩ := hQ270
  have N270 := own_frl l270 N269 N270q
  refine .st st270 ?_
  show OwnGo p e below s _ _ _ T270 (mkF m 123 _ [(.int (1 : Int32))])
  refine .ifNo X270 hx (hb hby d40_123) ((if0 _ _).trans (feq ((by decide) : ¬ ((1 : Int32) = (0 : Int32)))).1) ?_
  refine .aloadN X270 hx (hb hby d40_126) rfl rfl ?_
  refine .iloadN X270 hx (hb hby d40_127) rfl ?_
  refine .aloadN X270 hx (hb hby d40_128) rfl rfl ?_
  refine .iloadN X270 hx (hb hby d40_129) rfl ?_
  refine .bipush X270 hx (hb hby d40_130) own_kb11 ?_
  obtain ⟨_, _, ⟨T271, L271, k271, n271⟩, -, X271, ⟨Lc271, hQ271, l271, y271, z271⟩, st271⟩ := Jvm.LawKit.callS X270 hx (y := (⟨"com/example/cofferhand/cofferhand/nbt/NbtWriterToByteArrayPinLaw", "same", "([BI[BII)Z"⟩ : MethodName)) hown (mvT hZ (W_ hw 222 rfl)) (mvT hZ (W_ hw 223 rfl)) (mvT hZ (W_ hw 33 rfl)) (mvT hZ (W_ hw 224 rfl)) (by decide) (backOf (W := 0) (rmsame l Z a0 hw [] a ka vl q kq rl oi ok (11 : Int32) 11 h0 n0 Z_ V_a V_q ho hs hv hr he rfl (by decide)) hZ (W_ hw 224 rfl) (W_ hw 33 rfl) (by decide) (by decide)) (g := (mkF m 132 #[.val (.ref a), .val (.int oi), .val (.ref q), .val (.int (Int32.ofNat (List.length rl)))] [(.int (11 : Int32)), (.int (Int32.ofNat (List.length rl))), (.ref q), (.int oi), (.ref a)])) rfl (by rw [hml]; rfl) (argsL := [(.ref a), (.int oi), (.ref q), (.int (Int32.ofNat (List.length rl))), (.int (11 : Int32))]) (rest := []) (lenOf pd_32 rfl) rfl (Nat.le_of_eq rfl) (hb hby d40_132) (fun _ _ => ⟨rfl, e270, (by decide : 0 + 0 ≤ _), (by decide : 0 + 0 ≤ _)⟩)
  dsimp only [Pt.U, Pt.locs, Pt.cells, Pt.slots] at X271 l271 y271 z271 st271 hQ271
  subst y271 z271
  obtain ⟨rfl, N271q, e271⟩ := hQ271
  have N271 := own_frl l271 N270 N271q
  refine .st st271 ?_
  show OwnGo p e below s _ _ _ T271 (mkF m 135 _ [(.int (1 : Int32))])
  refine .ifNo X271 hx (hb hby d40_135) ((if0 _ _).trans (feq ((by decide) : ¬ ((1 : Int32) = (0 : Int32)))).1) ?_
  refine .aloadN X271 hx (hb hby d40_138) rfl rfl ?_
  refine .iloadN X271 hx (hb hby d40_139) rfl ?_
  refine .aloadN X271 hx (hb hby d40_140) rfl rfl ?_
  refine .iloadN X271 hx (hb hby d40_141) rfl ?_
  refine .bipush X271 hx (hb hby d40_142) own_kb12 ?_
  obtain ⟨_, _, ⟨T272, L272, k272, n272⟩, -, X272, ⟨Lc272, hQ272, l272, y272, z272⟩, st272⟩ := Jvm.LawKit.callS X271 hx (y := (⟨"com/example/cofferhand/cofferhand/nbt/NbtWriterToByteArrayPinLaw", "same", "([BI[BII)Z"⟩ : MethodName)) hown (mvT hZ (W_ hw 222 rfl)) (mvT hZ (W_ hw 223 rfl)) (mvT hZ (W_ hw 33 rfl)) (mvT hZ (W_ hw 224 rfl)) (by decide) (backOf (W := 0) (rmsame l Z a0 hw [] a ka vl q kq rl oi ok (12 : Int32) 12 h0 n0 Z_ V_a V_q ho hs hv hr he rfl (by decide)) hZ (W_ hw 224 rfl) (W_ hw 33 rfl) (by decide) (by decide)) (g := (mkF m 144 #[.val (.ref a), .val (.int oi), .val (.ref q), .val (.int (Int32.ofNat (List.length rl)))] [(.int (12 : Int32)), (.int (Int32.ofNat (List.length rl))), (.ref q), (.int oi), (.ref a)])) rfl (by rw [hml]; rfl) (argsL := [(.ref a), (.int oi), (.ref q), (.int (Int32.ofNat (List.length rl))), (.int (12 : Int32))]) (rest := []) (lenOf pd_32 rfl) rfl (Nat.le_of_eq rfl) (hb hby d40_144) (fun _ _ => ⟨rfl, e271, (by decide : 0 + 0 ≤ _), (by decide : 0 + 0 ≤ _)⟩)
  dsimp only [Pt.U, Pt.locs, Pt.cells, Pt.slots] at X272 l272 y272 z272 st272 hQ272
  subst y272 z272
  obtain ⟨rfl, N272q, e272⟩ := hQ272
  have N272 := own_frl l272 N271 N272q
  refine .st st272 ?_
  show OwnGo p e below s _ _ _ T272 (mkF m 147 _ [(.int (1 : Int32))])
  refine .ifNo X272 hx (hb hby d40_147) ((if0 _ _).trans (feq ((by decide) : ¬ ((1 : Int32) = (0 : Int32)))).1) ?_
  refine .aloadN X272 hx (hb hby d40_150) rfl rfl ?_
  refine .iloadN X272 hx (hb hby d40_151) rfl ?_
  refine .aloadN X272 hx (hb hby d40_152) rfl rfl ?_
  refine .iloadN X272 hx (hb hby d40_153) rfl ?_
  refine .bipush X272 hx (hb hby d40_154) own_kb13 ?_
  obtain ⟨_, _, ⟨T273, L273, k273, n273⟩, -, X273, ⟨Lc273, hQ273, l273, y273, z273⟩, st273⟩ := Jvm.LawKit.callS X272 hx (y := (⟨"com/example/cofferhand/cofferhand/nbt/NbtWriterToByteArrayPinLaw", "same", "([BI[BII)Z"⟩ : MethodName)) hown (mvT hZ (W_ hw 222 rfl)) (mvT hZ (W_ hw 223 rfl)) (mvT hZ (W_ hw 33 rfl)) (mvT hZ (W_ hw 224 rfl)) (by decide) (backOf (W := 0) (rmsame l Z a0 hw [] a ka vl q kq rl oi ok (13 : Int32) 13 h0 n0 Z_ V_a V_q ho hs hv hr he rfl (by decide)) hZ (W_ hw 224 rfl) (W_ hw 33 rfl) (by decide) (by decide)) (g := (mkF m 156 #[.val (.ref a), .val (.int oi), .val (.ref q), .val (.int (Int32.ofNat (List.length rl)))] [(.int (13 : Int32)), (.int (Int32.ofNat (List.length rl))), (.ref q), (.int oi), (.ref a)])) rfl (by rw [hml]; rfl) (argsL := [(.ref a), (.int oi), (.ref q), (.int (Int32.ofNat (List.length rl))), (.int (13 : Int32))]) (rest := []) (lenOf pd_32 rfl) rfl (Nat.le_of_eq rfl) (hb hby d40_156) (fun _ _ => ⟨rfl, e272, (by decide : 0 + 0 ≤ _), (by decide : 0 + 0 ≤ _)⟩)
  dsimp only [Pt.U, Pt.locs, Pt.cells, Pt.slots] at X273 l273 y273 z273 st273 hQ273
  subst y273 z273
  obtain ⟨rfl, N273q, e273⟩ := hQ273
  have N273 := own_frl l273 N272 N273q
  refine .st st273 ?_
  show OwnGo p e below s _ _ _ T273 (mkF m 159 _ [(.int (1 : Int32))])
  refine .ifNo X273 hx (hb hby d40_159) ((if0 _ _).trans (feq ((by decide) : ¬ ((1 : Int32) = (0 : Int32)))).1) ?_
  refine .aloadN X273 hx (hb hby d40_162) rfl rfl ?_
  refine .iloadN X273 hx (hb hby d40_163) rfl ?_
  refine .aloadN X273 hx (hb hby d40_164) rfl rfl ?_
  refine .iloadN X273 hx (hb hby d40_165) rfl ?_
  refine .bipush X273 hx (hb hby d40_166) own_kb14 ?_
  obtain ⟨_, _, ⟨T274, L274, k274, n274⟩, -, X274, ⟨Lc274, hQ274, l274, y274, z274⟩, st274⟩ := Jvm.LawKit.callS X273 hx (y := (⟨"com/example/cofferhand/cofferhand/nbt/NbtWriterToByteArrayPinLaw", "same", "([BI[BII)Z"⟩ : MethodName)) hown (mvT hZ (W_ hw 222 rfl)) (mvT hZ (W_ hw 223 rfl)) (mvT hZ (W_ hw 33 rfl)) (mvT hZ (W_ hw 224 rfl)) (by decide) (backOf (W := 0) (rmsame l Z a0 hw [] a ka vl q kq rl oi ok (14 : Int32) 14 h0 n0 Z_ V_a V_q ho hs hv hr he rfl (by decide)) hZ (W_ hw 224 rfl) (W_ hw 33 rfl) (by decide) (by decide)) (g := (mkF m 168 #[.val (.ref a), .val (.int oi), .val (.ref q), .val (.int (Int32.ofNat (List.length rl)))] [(.int (14 : Int32)), (.int (Int32.ofNat (List.length rl))), (.ref q), (.int oi), (.ref a)])) rfl (by rw [hml]; rfl) (argsL := [(.ref a), (.int oi), (.ref q), (.int (Int32.ofNat (List.length rl))), (.int (14 : Int32))]) (rest := []) (lenOf pd_32 rfl) rfl (Nat.le_of_eq rfl) (hb hby d40_168) (fun _ _ => ⟨rfl, e273, (by decide : 0 + 0 ≤ _), (by decide : 0 + 0 ≤ _)⟩)
  dsimp only [Pt.U, Pt.locs, Pt.cells, Pt.slots] at X274 l274 y274 z274 st274 hQ274
  subst y274 z274
  obtain ⟨rfl, N274q, e274⟩ := hQ274
  have N274 := own_frl l274 N273 N274q
  refine .st st274 ?_
  show OwnGo p e below s _ _ _ T274 (mkF m 171 _ [(.int (1 : Int32))])
  refine .ifNo X274 hx (hb hby d40_171) ((if0 _ _).trans (feq ((by decide) : ¬ ((1 : Int32) = (0 : Int32)))).1) ?_
  refine .aloadN X274 hx (hb hby d40_174) rfl rfl ?_
  refine .iloadN X274 hx (hb hby d40_175) rfl ?_
  refine .aloadN X274 hx (hb hby d40_176) rfl rfl ?_
  refine .iloadN X274 hx (hb hby d40_177) rfl ?_
  refine .bipush X274 hx (hb hby d40_178) own_kb15 ?_
  obtain ⟨_, _, ⟨T275, L275, k275, n275⟩, -, X275, ⟨Lc275, hQ275, l275, y275, z275⟩, st275⟩ := Jvm.LawKit.callS X274 hx (y := (⟨"com/example/cofferhand/cofferhand/nbt/NbtWriterToByteArrayPinLaw", "same", "([BI[BII)Z"⟩ : MethodName)) hown (mvT hZ (W_ hw 222 rfl)) (mvT hZ (W_ hw 223 rfl)) (mvT hZ (W_ hw 33 rfl)) (mvT hZ (W_ hw 224 rfl)) (by decide) (backOf (W := 0) (rmsame l Z a0 hw [] a ka vl q kq rl oi ok (15 : Int32) 15 h0 n0 Z_ V_a V_q ho hs hv hr he rfl (by decide)) hZ (W_ hw 224 rfl) (W_ hw 33 rfl) (by decide) (by decide)) (g := (mkF m 180 #[.val (.ref a), .val (.int oi), .val (.ref q), .val (.int (Int32.ofNat (List.length rl)))] [(.int (15 : Int32)), (.int (Int32.ofNat (List.length rl))), (.ref q), (.int oi), (.ref a)])) rfl (by rw [hml]; rfl) (argsL := [(.ref a), (.int oi), (.ref q), (.int (Int32.ofNat (List.length rl))), (.int (15 : Int32))]) (rest := []) (lenOf pd_32 rfl) rfl (Nat.le_of_eq rfl) (hb hby d40_180) (fun _ _ => ⟨rfl, e274, (by decide : 0 + 0 ≤ _), (by decide : 0 + 0 ≤ _)⟩)
  dsimp only [Pt.U, Pt.locs, Pt.cells, Pt.slots] at X275 l275 y275 z275 st275 hQ275
  subst y275 z275
  obtain ⟨rfl, N275q, e275⟩ := hQ275
  have N275 := own_frl l275 N274 N275q
  refine .st st275 ?_
  show OwnGo p e below s _ _ _ T275 (mkF m 183 _ [(.int (1 : Int32))])
  refine .ifNo X275 hx (hb hby d40_183) ((if0 _ _).trans (feq ((by decide) : ¬ ((1 : Int32) = (0 : Int32)))).1) ?_
  refine .aloadN X275 hx (hb hby d40_186) rfl rfl ?_
  refine .iloadN X275 hx (hb hby d40_187) rfl ?_
  refine .aloadN X275 hx (hb hby d40_188) rfl rfl ?_
  refine .iloadN X275 hx (hb hby d40_189) rfl ?_
  refine .bipush X275 hx (hb hby d40_190) own_kb16 ?_
  obtain ⟨_, _, ⟨T276, L276, k276, n276⟩, -, X276, ⟨Lc276, hQ276, l276, y276, z276⟩, st276⟩ := Jvm.LawKit.callS X275 hx (y := (⟨"com/example/cofferhand/cofferhand/nbt/NbtWriterToByteArrayPinLaw", "same", "([BI[BII)Z"⟩ : MethodName)) hown (mvT hZ (W_ hw 222 rfl)) (mvT hZ (W_ hw 223 rfl)) (mvT hZ (W_ hw 33 rfl)) (mvT hZ (W_ hw 224 rfl)) (by decide) (backOf (W := 0) (rmsame l Z a0 hw [] a ka vl q kq rl oi ok (16 : Int32) 16 h0 n0 Z_ V_a V_q ho hs hv hr he rfl (by decide)) hZ (W_ hw 224 rfl) (W_ hw 33 rfl) (by decide) (by decide)) (g := (mkF m 192 #[.val (.ref a), .val (.int oi), .val (.ref q), .val (.int (Int32.ofNat (List.length rl)))] [(.int (16 : Int32)), (.int (Int32.ofNat (List.length rl))), (.ref q), (.int oi), (.ref a)])) rfl (by rw [hml]; rfl) (argsL := [(.ref a), (.int oi), (.ref q), (.int (Int32.ofNat (List.length rl))), (.int (16 : Int32))]) (rest := []) (lenOf pd_32 rfl) rfl (Nat.le_of_eq rfl) (hb hby d40_192) (fun _ _ => ⟨rfl, e275, (by decide : 0 + 0 ≤ _), (by decide : 0 + 0 ≤ _)⟩)
  dsimp only [Pt.U, Pt.locs, Pt.cells, Pt.slots] at X276 l276 y276 z276 st276 hQ276
  subst y276 z276
  obtain ⟨rfl, N276q, e276⟩ := hQ276
  have N276 := own_frl l276 N275 N276q
  refine .st st276 ?_
  show OwnGo p e below s _ _ _ T276 (mkF m 195 _ [(.int (1 : Int32))])
  refine .ifNo X276 hx (hb hby d40_195) ((if0 _ _).trans (feq ((by decide) : ¬ ((1 : Int32) = (0 : Int32)))).1) ?_
  refine .iconst X276 hx (hb hby d40_198) own_ki1 ?_
  refine .goto (pc := 199) X276 hx 203 (hb hby d40_199) (by decide) (by decide) ?_
  exact OwnGo.retN X276 hx (t := .boolean) hret hlk (by simp) (hb hby d40_203) (by show Qals Z a ka vl q kq rl oi ok h0 n0 _ T276.heap _; rw [e276]; exact ⟨rfl, N276, rfl⟩) (by decide) (by decide)
def QrecI (Z : State) (g : Addr) (h0 : Heap) (n0 : Nat) (v : Option Value) (h : Heap) (L : List Loc) : Prop := v = none ∧ Fr n0 L ∧ h = h0
theorem rmrecI (l : Launch) (Z : State) (a0 : Array Value) (hw : own_tb a0 Z) (ws : List Jvm.Cond) (g : Addr) (h0 : Heap) (n0 : Nat) (Z0 : n0 ≤ h0.size) :
    OwnMet l (⟨"java/lang/Record", "<init>", "()V"⟩ : MethodName) jdk_30_method_1_code 1 none ws ({ frames := 1, cells := 0, slots := 0, locals := 12 } : Room) #[(.ref g)] Z h0 (QrecI Z g h0 n0) := by
  refine own_met (plainFor_of_name pn_9) ?_
  intro p e s m below meth c s₁ X0 hx hby hml hret hlk hown hnm hZ e0
  have N0 := Fr.nil n0
  have Z_ := Z0
  refine OwnGo.cast (ef_recI m g) ?_
  show OwnGo p e below s _ _ _ s₁ (mkF m 0 _ [])
  refine .aloadN X0 hx (hb hby d9_0) rfl rfl ?_
  obtain ⟨T277, X277, e277, st277⟩ := initO X0 hx hZ hown (W_ hw 49 rfl) (W_ hw 25 rfl) (W_ hw 26 rfl) e0 (g := (mkF m 1 #[.val (.ref g)] [(.ref g)])) rfl (by rw [hml]; rfl) rfl (hb hby d9_1) (by decide) (W := 0) (Nat.le_of_eq rfl) (by decide)
  refine .st st277 ?_
  show OwnGo p e below s _ _ _ T277 (mkF m 4 _ [])
  exact OwnGo.retV X277 hx hret hlk (hb hby d9_4) (by show QrecI Z g h0 n0 _ T277.heap _; rw [e277]; exact ⟨rfl, N0, rfl⟩) (by decide) (by decide)
def QltI (Z : State) (g : Addr) (vv : Int64) (h0 : Heap) (n0 : Nat) (v : Option Value) (h : Heap) (L : List Loc) : Prop := v = none ∧ Fr n0 L ∧ Keep h0 h [g] ∧ Fld Z h g "com/example/cofferhand/cofferhand/nbt/LongTag" "value" "J" (.long vv)
theorem rmltI (l : Launch) (Z : State) (a0 : Array Value) (hw : own_tb a0 Z) (ws : List Jvm.Cond) (g : Addr) (vv : Int64) (h0 : Heap) (n0 : Nat) (Z0 : n0 ≤ h0.size) (E_g : Exa Z h0 g "com/example/cofferhand/cofferhand/nbt/LongTag") (F_g : Fld Z h0 g "com/example/cofferhand/cofferhand/nbt/LongTag" "value" "J" (.long (0 : Int64))) (g_g : n0 ≤ g) :
    OwnMet l (⟨"com/example/cofferhand/cofferhand/nbt/LongTag", "<init>", "(J)V"⟩ : MethodName) prog_31_method_1_code 3 none ws ({ frames := 2, cells := 0, slots := 0, locals := 24 } : Room) #[(.ref g), (.long vv)] Z h0 (QltI Z g vv h0 n0) := by
  refine own_met (plainFor_of_name pn_37) ?_
  intro p e s m below meth c s₁ X0 hx hby hml hret hlk hown hnm hZ e0
  have N0 := Fr.nil n0
  have Z_ := Z0
  refine OwnGo.cast (ef_ltI m g vv) ?_
  show OwnGo p e below s _ _ _ s₁ (mkF m 0 _ [])
  have Kp : Keep h0 h0 [g] := Keep.refl h0 [g]
  refine .aloadN X0 hx (hb hby d8_0) rfl rfl ?_
  obtain ⟨_, _, ⟨T278, L278, k278, n278⟩, -, X278, ⟨Lc278, hQ278, l278, y278, z278⟩, st278⟩ := X0.specialBack hx (y := (⟨"java/lang/Record", "<init>", "()V"⟩ : MethodName)) rfl hown (mvT hZ (W_ hw 44 rfl)) (mvT hZ (W_ hw 45 rfl)) (mvT hZ (W_ hw 48 rfl)) (by decide) (backOf (W := 0) (rmrecI l Z a0 hw [] g h0 n0 Z_ ) hZ (W_ hw 48 rfl) (W_ hw 47 rfl) (by decide) (by decide)) (g := (mkF m 1 #[.val (.ref g), .val (.long vv), .second] [(.ref g)])) rfl (by rw [hml]; rfl) (Steps.refl _) (a := g) (argsL := []) (rest := []) (lenOf pd_33 rfl) rfl (Nat.le_of_eq rfl) (hb hby d8_1) (fun _ _ => ⟨rfl, e0, (by decide : 0 + 0 ≤ _), (by decide : 0 + 0 ≤ _)⟩)
  dsimp only [Pt.U, Pt.locs, Pt.cells, Pt.slots] at X278 l278 y278 z278 st278 hQ278
  subst y278 z278
  obtain ⟨rfl, N278q, e278⟩ := hQ278
  have N278 := own_frl l278 N0 N278q
  refine .st (fun _ => st278.trans) ?_
  show OwnGo p e below s _ _ _ T278 (mkF m 4 _ [])
  refine .aloadN X278 hx (hb hby d8_4) rfl rfl ?_
  refine .st (fun _ => XS.lloadN X278.here hx rfl (hb hby d8_5) rfl) ?_
  show OwnGo p e below s _ _ _ T278 (mkF m 6 _ [(.long vv), (.ref g)])
  obtain ⟨T279, h279, X279, e279, W279, st279⟩ := putF X278 hx hZ hown (host := "") (Or.inl (W_ hw 50 rfl)) Via.refl e278 F_g E_g (Or.inr ⟨(W_ hw 51 rfl), rfl, hnm⟩) (W_ hw 39 rfl) (ty := .long) (by decide) rfl rfl (g := (mkF m 6 #[.val (.ref g), .val (.long vv), .second] [(.long vv), (.ref g)])) rfl rfl (hb hby d8_6)
  have E_g := E_g.wr W279
  have F_g := F_g.same W279
  have Kp := Kp.wr W279 (Or.inl (List.mem_of_getElem? (i := 0) rfl))
  have N279 := Fr.snoc X279 N278 g_g
  have Z_ : n0 ≤ h279.size := by rw [W279.size]; exact Z_
  refine .st st279 ?_
  show OwnGo p e below s _ _ _ T279 (mkF m 9 _ [])
  exact OwnGo.retV X279 hx hret hlk (hb hby d8_9) (by show QltI Z g vv h0 n0 _ T279.heap _; rw [e279]; exact ⟨rfl, N279, Kp, F_g⟩) (by decide) (by decide)
def Qrnn (Z : State) (x : Addr) (y : Addr) (h0 : Heap) (n0 : Nat) (v : Option Value) (h : Heap) (L : List Loc) : Prop := v = some (.ref x) ∧ Fr n0 L ∧ h = h0
theorem rmrnn (l : Launch) (Z : State) (a0 : Array Value) (hw : own_tb a0 Z) (ws : List Jvm.Cond) (x : Addr) (y : Addr) (h0 : Heap) (n0 : Nat) (Z0 : n0 ≤ h0.size) :
    OwnMet l (⟨"java/util/Objects", "requireNonNull", "(Ljava/lang/Object;Ljava/lang/String;)Ljava/lang/Object;"⟩ : MethodName) jdk_31_method_11_code 2 (some (.object "java/lang/Object")) ws ({ frames := 0, cells := 0, slots := 0, locals := 0 } : Room) #[(.ref x), (.ref y)] Z h0 (Qrnn Z x y h0 n0) := by
  refine own_met (plainFor_of_name pn_11) ?_
  intro p e s m below meth c s₁ X0 hx hby hml hret hlk hown hnm hZ e0
  have N0 := Fr.nil n0
  have Z_ := Z0
  refine OwnGo.cast (ef_rnn m x y) ?_
  show OwnGo p e below s _ _ _ s₁ (mkF m 0 _ [])
  refine .aloadN X0 hx (hb hby d11_0) rfl rfl ?_
  refine .st (fun _ => XS.ifnonnullYes X0.here hx rfl (pc0 := 1) (pc' := 13) rfl (hb hby d11_1) rfl (by decide) (by decide)) ?_
  show OwnGo p e below s _ _ _ s₁ (mkF m 13 _ [])
  refine .aloadN X0 hx (hb hby d11_13) rfl rfl ?_
  exact OwnGo.ret X0 hx hret hlk rfl (Or.inr (Or.inr (Or.inr (Or.inr ⟨rfl, rfl, rfl⟩)))) (hb hby d11_14) (by show Qrnn Z x y h0 n0 _ s₁.heap _; rw [e0]; exact ⟨rfl, N0, rfl⟩) (by decide) (by decide)
def QntI (Z : State) (r : Addr) (g : Addr) (x : Addr) (t : Addr) (kb : ClassId) (cl : List Int32) (zc : Int32) (h0 : Heap) (n0 : Nat) (v : Option Value) (h : Heap) (L : List Loc) : Prop := v = none ∧ Fr n0 L ∧ Keep h0 h [r] ∧ Fld Z h r "com/example/cofferhand/cofferhand/nbt/NamedTag" "name" "Ljava/lang/String;" (.ref x) ∧ Fld Z h r "com/example/cofferhand/cofferhand/nbt/NamedTag" "tag" "Lcom/example/cofferhand/cofferhand/nbt/Tag;" (.ref g)
theorem rmntI (l : Launch) (Z : State) (a0 : Array Value) (hw : own_tb a0 Z) (ws : List Jvm.Cond) (r : Addr) (g : Addr) (x : Addr) (t : Addr) (kb : ClassId) (cl : List Int32) (zc : Int32) (h0 : Heap) (n0 : Nat) (Z0 : n0 ≤ h0.size) (O_ : Old Z n0 h0) (S_CS : Sta Z Z.heap "java/lang/String" "COMPACT_STRINGS" "Z" (.int zc)) (P_CS : ¬ zc = (0 : Int32)) (E_r : Exa Z h0 r "com/example/cofferhand/cofferhand/nbt/NamedTag") (F_n : Fld Z h0 r "com/example/cofferhand/cofferhand/nbt/NamedTag" "name" "Ljava/lang/String;" .null) (F_t : Fld Z h0 r "com/example/cofferhand/cofferhand/nbt/NamedTag" "tag" "Lcom/example/cofferhand/cofferhand/nbt/Tag;" .null) (g_r : n0 ≤ r) (SS : own_T Z h0 x t kb cl) (hcl : List.length cl ≤ 2) (ne_x_r : x ≠ r) (ne_t_r : t ≠ r) :
    OwnMetW l (⟨"com/example/cofferhand/cofferhand/nbt/NamedTag", "<init>", "(Ljava/lang/String;Lcom/example/cofferhand/cofferhand/nbt/Tag;)V"⟩ : MethodName) prog_33_method_1_code 3 none ws ({ frames := 4, cells := 4, slots := 40, locals := 49 } : Room) #[(.ref r), (.ref x), (.ref g)] Z h0 (QntI Z r g x t kb cl zc h0 n0) := by
  refine own_metW (EL := own_EL) (plainFor_of_name pn_20) ?_
  intro p e s m below meth c s₁ X0 hx hby hml hret hlk hown hnm hZ e0 hS_ CR
  have hk_ := Nat.le_refl h0.size
  have N0 := Fr.nil n0
  have Z_ := Z0
  refine OwnGoW.cast (ef_ntI m r x g) ?_
  show OwnGoW p e below s Z own_EL _ _ _ s₁ (mkF m 0 _ [])
  have E_x := SS.exa
  have sf_r : Safe Z own_EL s.vm h0 r := Safe.exa hZ.alike E_r (by decide) (by decide)
  have Kp : Keep h0 h0 [r] := Keep.refl h0 [r]
  refine .aloadN X0 hx (hb hby d10_0) rfl rfl ?_
  obtain ⟨_, _, ⟨T280, L280, k280, n280⟩, -, X280, ⟨Lc280, hQ280, l280, y280, z280⟩, st280⟩ := X0.specialBack hx (y := (⟨"java/lang/Record", "<init>", "()V"⟩ : MethodName)) rfl hown (mvT hZ (W_ hw 55 rfl)) (mvT hZ (W_ hw 45 rfl)) (mvT hZ (W_ hw 48 rfl)) (by decide) (backOf (W := 0) (rmrecI l Z a0 hw [] r h0 n0 Z_ ) hZ (W_ hw 48 rfl) (W_ hw 47 rfl) (by decide) (by decide)) (g := (mkF m 1 #[.val (.ref r), .val (.ref x), .val (.ref g)] [(.ref r)])) rfl (by rw [hml]; rfl) (Steps.refl _) (a := r) (argsL := []) (rest := []) (lenOf pd_33 rfl) rfl (Nat.le_of_eq rfl) (hb hby d10_1) (fun _ _ => ⟨rfl, e0, (by decide : 0 + 0 ≤ _), (by decide : 0 + 0 ≤ _)⟩)
  dsimp only [Pt.U, Pt.locs, Pt.cells, Pt.slots] at X280 l280 y280 z280 st280 hQ280
  subst y280 z280
  obtain ⟨rfl, N280q, e280⟩ := hQ280
  have N280 := own_frl l280 N0 N280q
  refine .st (fun _ => st280.trans) ?_
  show OwnGoW p e below s Z own_EL _ _ _ T280 (mkF m 4 _ [])
  refine .aloadN X280 hx (hb hby d10_4) rfl rfl ?_
  obtain ⟨a281, T281, h281, k1_281, X281, e281, E281, hS_, hkN, hZ, hown, CN, -, st281⟩ := ldcOH (s := s) (vm0 := s.vm) X280 hx hZ hown (W_ hw 56 rfl) (own_wS hw) e280 hS_ hk_ (own_hEL hw) CR.1 (g := (mkF m 5 #[.val (.ref r), .val (.ref x), .val (.ref g)] [(.ref x)])) rfl (hb hby d10_5) (n := 16) (by decide) (by decide) (by decide) (by decide)
  have lt_r : r < h0.size := E_r.lt
  have E_r := E_r.ext E281
  have F_n := F_n.ext E281
  have F_t := F_t.ext E281
  have SS := SS.ext E281
  have E_x := E_x.ext E281
  have O_ := O_.ext E281
  have Kp := Kp.ext E281
  have sf_r := CN.safe lt_r sf_r
  have CR := CR.trans CN
  have hk_ := hkN
  have Z_ : n0 ≤ h281.size := Nat.le_trans Z_ E281.1
  refine .st st281 ?_
  show OwnGoW p e below s Z own_EL _ _ _ T281 (mkF m 7 _ [(.ref a281), (.ref x)])
  obtain ⟨_, _, ⟨T282, L282, k282, n282⟩, -, X282, ⟨Lc282, hQ282, l282, y282, z282⟩, st282⟩ := Jvm.LawKit.callS X281 hx (y := (⟨"java/util/Objects", "requireNonNull", "(Ljava/lang/Object;Ljava/lang/String;)Ljava/lang/Object;"⟩ : MethodName)) hown (mvT hZ (W_ hw 59 rfl)) (mvT hZ (W_ hw 60 rfl)) (mvT hZ (W_ hw 61 rfl)) (mvT hZ (W_ hw 62 rfl)) (by decide) (backOf (W := 0) (rmrnn l Z a0 hw [] x a281 h281 n0 Z_ ) hZ (W_ hw 62 rfl) (W_ hw 61 rfl) (by decide) (by decide)) (g := (mkF m 7 #[.val (.ref r), .val (.ref x), .val (.ref g)] [(.ref a281), (.ref x)])) rfl (by rw [hml]; rfl) (argsL := [(.ref x), (.ref a281)]) (rest := []) (lenOf pd_34 rfl) rfl (Nat.le_of_eq rfl) (hb hby d10_7) (fun _ _ => ⟨rfl, e281, (by decide : 2 + 0 ≤ _), (by decide : 20 + 0 ≤ _)⟩)
  dsimp only [Pt.U, Pt.locs, Pt.cells, Pt.slots] at X282 l282 y282 z282 st282 hQ282
  subst y282 z282
  obtain ⟨rfl, N282q, e282⟩ := hQ282
  have N282 := own_frl l282 N280 N282q
  refine .st st282 ?_
  show OwnGoW p e below s Z own_EL _ _ _ T282 (mkF m 10 _ [(.ref x)])
  obtain ⟨T283, X283, e283, st283⟩ := castY X282 hx hZ hown (W_ hw 63 rfl) e282 (Ins.self E_x) (g := (mkF m 10 #[.val (.ref r), .val (.ref x), .val (.ref g)] [(.ref x)])) rfl rfl (hb hby d10_10)
  refine .st st283 ?_
  show OwnGoW p e below s Z own_EL _ _ _ T283 (mkF m 13 _ [(.ref x)])
  obtain ⟨_, _, ⟨T284, L284, k284, n284⟩, -, X284, ⟨Lc284, hQ284, l284, y284, z284⟩, st284⟩ := Jvm.LawKit.callS X283 hx (y := (⟨"com/example/cofferhand/cofferhand/nbt/ModifiedUtf8", "requireEncodable", "(Ljava/lang/String;)V"⟩ : MethodName)) hown (mvT hZ (W_ hw 64 rfl)) (mvT hZ (W_ hw 65 rfl)) (mvT hZ (W_ hw 66 rfl)) (mvT hZ (W_ hw 67 rfl)) (by decide) (backOf (W := 0) (rmreq l Z a0 hw [] x t kb cl zc h281 n0 Z_ O_ S_CS P_CS SS hcl) hZ (W_ hw 67 rfl) (W_ hw 66 rfl) (by decide) (by decide)) (g := (mkF m 13 #[.val (.ref r), .val (.ref x), .val (.ref g)] [(.ref x)])) rfl (by rw [hml]; rfl) (argsL := [(.ref x)]) (rest := []) (lenOf pd_28 rfl) rfl (Nat.le_of_eq rfl) (hb hby d10_13) (fun _ _ => ⟨rfl, e283, (by decide : 2 + 0 ≤ _), (by decide : 20 + 0 ≤ _)⟩)
  dsimp only [Pt.U, Pt.locs, Pt.cells, Pt.slots] at X284 l284 y284 z284 st284 hQ284
  subst y284 z284
  obtain ⟨rfl, N284q, e284⟩ := hQ284
  have N284 := own_frl l284 N282 N284q
  refine .st st284 ?_
  show OwnGoW p e below s Z own_EL _ _ _ T284 (mkF m 16 _ [])
  refine .aloadN X284 hx (hb hby d10_16) rfl rfl ?_
  obtain ⟨a285, T285, h285, k1_285, X285, e285, E285, hS_, hkN, hZ, hown, CN, -, st285⟩ := ldcOH (s := s) (vm0 := T281.vm) X284 hx hZ hown (W_ hw 81 rfl) (own_wS hw) e284 hS_ hk_ (own_hEL hw) CR.1 (g := (mkF m 17 #[.val (.ref r), .val (.ref x), .val (.ref g)] [(.ref g)])) rfl (hb hby d10_17) (n := 12) (by decide) (by decide) (by decide) (by decide)
  have lt_r : r < h281.size := E_r.lt
  have E_r := E_r.ext E285
  have F_n := F_n.ext E285
  have F_t := F_t.ext E285
  have SS := SS.ext E285
  have E_x := E_x.ext E285
  have O_ := O_.ext E285
  have Kp := Kp.ext E285
  have sf_r := CN.safe lt_r sf_r
  have CR := CR.trans CN
  have hk_ := hkN
  have Z_ : n0 ≤ h285.size := Nat.le_trans Z_ E285.1
  refine .st st285 ?_
  show OwnGoW p e below s Z own_EL _ _ _ T285 (mkF m 19 _ [(.ref a285), (.ref g)])
  obtain ⟨_, _, ⟨T286, L286, k286, n286⟩, -, X286, ⟨Lc286, hQ286, l286, y286, z286⟩, st286⟩ := Jvm.LawKit.callS X285 hx (y := (⟨"java/util/Objects", "requireNonNull", "(Ljava/lang/Object;Ljava/lang/String;)Ljava/lang/Object;"⟩ : MethodName)) hown (mvT hZ (W_ hw 59 rfl)) (mvT hZ (W_ hw 60 rfl)) (mvT hZ (W_ hw 61 rfl)) (mvT hZ (W_ hw 62 rfl)) (by decide) (backOf (W := 0) (rmrnn l Z a0 hw [] g a285 h285 n0 Z_ ) hZ (W_ hw 62 rfl) (W_ hw 61 rfl) (by decide) (by decide)) (g := (mkF m 19 #[.val (.ref r), .val (.ref x), .val (.ref g)] [(.ref a285), (.ref g)])) rfl (by rw [hml]; rfl) (argsL := [(.ref g), (.ref a285)]) (rest := []) (lenOf pd_34 rfl) rfl (Nat.le_of_eq rfl) (hb hby d10_19) (fun _ _ => ⟨rfl, e285, (by decide : 4 + 0 ≤ _), (by decide : 36 + 0 ≤ _)⟩)
  dsimp only [Pt.U, Pt.locs, Pt.cells, Pt.slots] at X286 l286 y286 z286 st286 hQ286
  subst y286 z286
  obtain ⟨rfl, N286q, e286⟩ := hQ286
  have N286 := own_frl l286 N284 N286q
  refine .st st286 ?_
  show OwnGoW p e below s Z own_EL _ _ _ T286 (mkF m 22 _ [(.ref g)])
  refine .st (fun _ => XS.pop X286.here hx rfl (hb hby d10_22) rfl rfl) ?_
  show OwnGoW p e below s Z own_EL _ _ _ T286 (mkF m 23 _ [])
  refine .aloadN X286 hx (hb hby d10_23) rfl rfl ?_
  refine .aloadN X286 hx (hb hby d10_24) rfl rfl ?_
  obtain ⟨T287, h287, X287, e287, W287, st287⟩ := putF X286 hx hZ hown (host := "") (Or.inl (W_ hw 82 rfl)) Via.refl e286 F_n E_r (Or.inr ⟨(W_ hw 83 rfl), rfl, hnm⟩) (W_ hw 36 rfl) (ty := (.object "java/lang/String")) (by decide) rfl rfl (g := (mkF m 25 #[.val (.ref r), .val (.ref x), .val (.ref g)] [(.ref x), (.ref r)])) rfl rfl (hb hby d10_25)
  have E_r := E_r.wr W287
  have F_n := F_n.same W287
  have F_t := F_t.other W287 (Or.inr (slot_ne (Or.inr (W_ hw 85 rfl)) (Or.inr (W_ hw 83 rfl)) (by decide) (t := (.object "com/example/cofferhand/cofferhand/nbt/Tag")) (t' := (.object "java/lang/String")) (by decide) (by decide)))
  have SS := SS.wr W287 ne_x_r ne_t_r
  have E_x := E_x.wr W287
  have O_ := O_.wr W287 g_r
  have Kp := Kp.wr W287 (Or.inl (List.mem_of_getElem? (i := 0) rfl))
  have sf_ := sf_r
  have CR0 := CR.1
  have CR := CR.trans (CHr.wr W287 sf_ CR.1)
  have sf_r := Safe.wr W287 sf_ CR0 sf_r
  have hk_ := Nat.le_trans hk_ (Nat.le_of_eq W287.size.symm)
  have N287 := Fr.snoc X287 N286 g_r
  have Z_ : n0 ≤ h287.size := by rw [W287.size]; exact Z_
  refine .st st287 ?_
  show OwnGoW p e below s Z own_EL _ _ _ T287 (mkF m 28 _ [])
  refine .aloadN X287 hx (hb hby d10_28) rfl rfl ?_
  refine .aloadN X287 hx (hb hby d10_29) rfl rfl ?_
  obtain ⟨T288, h288, X288, e288, W288, st288⟩ := putF X287 hx hZ hown (host := "") (Or.inl (W_ hw 84 rfl)) Via.refl e287 F_t E_r (Or.inr ⟨(W_ hw 85 rfl), rfl, hnm⟩) (W_ hw 36 rfl) (ty := (.object "com/example/cofferhand/cofferhand/nbt/Tag")) (by decide) rfl rfl (g := (mkF m 30 #[.val (.ref r), .val (.ref x), .val (.ref g)] [(.ref g), (.ref r)])) rfl rfl (hb hby d10_30)
  have E_r := E_r.wr W288
  have F_n := F_n.other W288 (Or.inr (slot_ne (Or.inr (W_ hw 83 rfl)) (Or.inr (W_ hw 85 rfl)) (by decide) (t := (.object "java/lang/String")) (t' := (.object "com/example/cofferhand/cofferhand/nbt/Tag")) (by decide) (by decide)))
  have F_t := F_t.same W288
  have SS := SS.wr W288 ne_x_r ne_t_r
  have E_x := E_x.wr W288
  have O_ := O_.wr W288 g_r
  have Kp := Kp.wr W288 (Or.inl (List.mem_of_getElem? (i := 0) rfl))
  have sf_ := sf_r
  have CR0 := CR.1
  have CR := CR.trans (CHr.wr W288 sf_ CR.1)
  have sf_r := Safe.wr W288 sf_ CR0 sf_r
  have hk_ := Nat.le_trans hk_ (Nat.le_of_eq W288.size.symm)
  have N288 := Fr.snoc X288 N287 g_r
  have Z_ : n0 ≤ h288.size := by rw [W288.size]; exact Z_
  refine .st st288 ?_
  show OwnGoW p e below s Z own_EL _ _ _ T288 (mkF m 33 _ [])
  exact OwnGoW.retV (s := s) (vm0 := T285.vm) X288 hS_ hk_ e288 hZ (own_hEL hw) CR hx hret hlk (hb hby d10_33) (by show QntI Z r g x t kb cl zc h0 n0 _ T288.heap _; rw [e288]; exact ⟨rfl, N288, Kp, F_n, F_t⟩) (by decide) (by decide)
def QnwI (Z : State) (o : Addr) (h0 : Heap) (n0 : Nat) (v : Option Value) (h : Heap) (L : List Loc) : Prop := ∃ (d : Addr) (kd : ClassId), v = none ∧ Fr n0 L ∧ Keep h0 h [o] ∧ Fld Z h o "com/example/cofferhand/cofferhand/nbt/NbtWriter" "buffer" "[B" (.ref d) ∧ Fld Z h o "com/example/cofferhand/cofferhand/nbt/NbtWriter" "size" "I" (.int (0 : Int32)) ∧ Arv Z h d kd .byte (256 : Int32) [] (.int (0 : Int32)) ∧ h0.size ≤ d
theorem rmnwI (l : Launch) (Z : State) (a0 : Array Value) (hw : own_tb a0 Z) (ws : List Jvm.Cond) (o : Addr) (h0 : Heap) (n0 : Nat) (Z0 : n0 ≤ h0.size) (E_o : Exa Z h0 o "com/example/cofferhand/cofferhand/nbt/NbtWriter") (Fb : Fld Z h0 o "com/example/cofferhand/cofferhand/nbt/NbtWriter" "buffer" "[B" .null) (Fs : Fld Z h0 o "com/example/cofferhand/cofferhand/nbt/NbtWriter" "size" "I" (.int (0 : Int32))) (g_o : n0 ≤ o) :
    OwnMet l (⟨"com/example/cofferhand/cofferhand/nbt/NbtWriter", "<init>", "()V"⟩ : MethodName) prog_41_method_1_code 1 none ws ({ frames := 1, cells := 1, slots := 256, locals := 12 } : Room) #[(.ref o)] Z h0 (QnwI Z o h0 n0) := by
  refine own_met (plainFor_of_name pn_24) ?_
  intro p e s m below meth c s₁ X0 hx hby hml hret hlk hown hnm hZ e0
  have N0 := Fr.nil n0
  have Z_ := Z0
  refine OwnGo.cast (ef_nwI m o) ?_
  show OwnGo p e below s _ _ _ s₁ (mkF m 0 _ [])
  have Kp : Keep h0 h0 [o] := Keep.refl h0 [o]
  refine .aloadN X0 hx (hb hby d16_0) rfl rfl ?_
  obtain ⟨T289, X289, e289, st289⟩ := initO X0 hx hZ hown (W_ hw 92 rfl) (W_ hw 25 rfl) (W_ hw 26 rfl) e0 (g := (mkF m 1 #[.val (.ref o)] [(.ref o)])) rfl (by rw [hml]; rfl) rfl (hb hby d16_1) (by decide) (W := 0) (Nat.le_of_eq rfl) (by decide)
  refine .st st289 ?_
  show OwnGo p e below s _ _ _ T289 (mkF m 4 _ [])
  refine .aloadN X289 hx (hb hby d16_4) rfl rfl ?_
  refine .sipush X289 hx (hb hby d16_5) own_ks256 ?_
  obtain ⟨T290, h290, k290, X290, e290, E290, A290, Ex290, st290⟩ := newPE X289 hx hZ (W_ hw 19 rfl) e289 (g := (mkF m 8 #[.val (.ref o)] [(.int (256 : Int32)), (.ref o)])) rfl (hb hby d16_8) rfl (by decide) (cap := 256) (by decide) (by decide) (by decide) (by decide) (ad := "[B") (by decide)
  obtain ⟨b290, g290⟩ : ∃ z, z = h0.size := ⟨_, rfl⟩
  rw [← g290] at A290 Ex290 st290
  have ne_o_b290 : o ≠ b290 := Nat.ne_of_lt (Nat.lt_of_lt_of_le E_o.lt (Nat.le_of_eq g290.symm))
  have g_b290 : n0 ≤ b290 := Nat.le_trans Z_ (Nat.le_of_eq g290.symm)
  have sz_b290 : h0.size ≤ b290 := Nat.le_trans Kp.1 (Nat.le_of_eq g290.symm)
  have E_o := E_o.ext E290
  have Fb := Fb.ext E290
  have Fs := Fs.ext E290
  have Kp := Kp.ext E290
  have Z_ : n0 ≤ h290.size := Nat.le_trans Z_ E290.1
  have V_b290 : Arv Z h290 b290 k290 .byte (256 : Int32) [] (.int (0 : Int32)) := Arv.new A290 (by decide)
  have E_b290 := Ex290
  refine .st st290 ?_
  show OwnGo p e below s _ _ _ T290 (mkF m 10 _ [(.ref b290), (.ref o)])
  obtain ⟨T291, h291, X291, e291, W291, st291⟩ := putF X290 hx hZ hown (host := "") (Or.inl (W_ hw 93 rfl)) Via.refl e290 Fb E_o (Or.inl (W_ hw 94 rfl)) (W_ hw 87 rfl) (ty := (.array .byte)) (by decide) rfl rfl (g := (mkF m 10 #[.val (.ref o)] [(.ref b290), (.ref o)])) rfl rfl (hb hby d16_10)
  have E_o := E_o.wr W291
  have Fb := Fb.same W291
  have Fs := Fs.other W291 (Or.inr (slot_ne (Or.inl (W_ hw 101 rfl)) (Or.inl (W_ hw 94 rfl)) (by decide) (t := .int) (t' := (.array .byte)) (by decide) (by decide)))
  have V_b290 := V_b290.other W291 (Ne.symm ne_o_b290)
  have E_b290 := E_b290.wr W291
  have Kp := Kp.wr W291 (Or.inl (List.mem_of_getElem? (i := 0) rfl))
  have N291 := Fr.snoc X291 N0 g_o
  have Z_ : n0 ≤ h291.size := by rw [W291.size]; exact Z_
  refine .st st291 ?_
  show OwnGo p e below s _ _ _ T291 (mkF m 13 _ [])
  exact OwnGo.retV X291 hx hret hlk (hb hby d16_13) (by show QnwI Z o h0 n0 _ T291.heap _; rw [e291]; exact ⟨b290, k290, rfl, N291, Kp, Fb, Fs, V_b290, sz_b290⟩) (by decide) (by decide)
def Qmin2 (Z : State) (z : Int32) (h0 : Heap) (n0 : Nat) (v : Option Value) (h : Heap) (L : List Loc) : Prop := ∃ r : Int32, v = some (.int r) ∧ Fr n0 L ∧ h = h0 ∧ (r = (0 : Int32) ∨ r = (1 : Int32) ∨ r = (2 : Int32))
theorem rmmin2 (l : Launch) (Z : State) (a0 : Array Value) (hw : own_tb a0 Z) (ws : List Jvm.Cond) (z : Int32) (h0 : Heap) (n0 : Nat) (Z0 : n0 ≤ h0.size) (hz : ¬ z < (0 : Int32)) :
    OwnMet l (⟨"java/lang/Math", "min", "(II)I"⟩ : MethodName) jdk_29_method_69_code 2 (some .int) ws ({ frames := 0, cells := 0, slots := 0, locals := 0 } : Room) #[(.int z), (.int (2 : Int32))] Z h0 (Qmin2 Z z h0 n0) := by
  refine own_met pf_1 ?_
  intro p e s m below meth c s₁ X0 hx hby hml hret hlk hown hnm hZ e0
  have N0 := Fr.nil n0
  have Z_ := Z0
  refine OwnGo.cast (ef_min2 m z (2 : Int32)) ?_
  show OwnGo p e below s _ _ _ s₁ (mkF m 0 _ [])
  refine .iloadN X0 hx (hb hby d1_0) rfl ?_
  refine .iloadN X0 hx (hb hby d1_1) rfl ?_
  by_cases hq : (2 : Int32) < z
  · refine .icmpYes (pc := 2) X0 hx 9 (hb hby d1_2) (tlt (hq : (2 : Int32) < z)).2.2.1 (by decide) (by decide) ?_
    refine .iloadN X0 hx (hb hby d1_9) rfl ?_
    exact OwnGo.ret X0 hx hret hlk rfl (Or.inl ⟨rfl, Or.inl rfl, _, rfl⟩) (hb hby d1_10) (by show Qmin2 Z z h0 n0 _ s₁.heap _; rw [e0]; exact ⟨_, rfl, N0, rfl, Or.inr (Or.inr rfl)⟩) (by decide) (by decide)
  · refine .icmpNo X0 hx (hb hby d1_2) (flt (hq : ¬ ((2 : Int32) < z))).2.2.1 ?_
    refine .iloadN X0 hx (hb hby d1_5) rfl ?_
    refine .goto (pc := 6) X0 hx 10 (hb hby d1_6) (by decide) (by decide) ?_
    exact OwnGo.ret X0 hx hret hlk rfl (Or.inl ⟨rfl, Or.inl rfl, _, rfl⟩) (hb hby d1_10) (by show Qmin2 Z z h0 n0 _ s₁.heap _; rw [e0]; exact ⟨_, rfl, N0, rfl, own_le2 hz hq⟩) (by decide) (by decide)
def Q0 (Z : State) (p1 : Int32) (p2 : Int64) (p3 : Int32) (u_TagType_LONG : Addr) (u_1__SwitchMap_com_example_cofferhand_cofferhand_nbt_TagType : Addr) (kc_u_1__SwitchMap_com_example_cofferhand_cofferhand_nbt_TagType : ClassId) (zc : Int32) (fmv : Value) (h0 : Heap) (n0 : Nat) (v : Option Value) (h : Heap) (L : List Loc) : Prop := v = some (.int (1 : Int32)) ∧ Fr n0 L
theorem sgT {p : Program} {l : Launch} {e : Env} {s : State} {m : MethodId} {below : List Frame} {meth : Method} {c : Code} {Z : State} {a0 : Array Value} {T0 : State} {locs : List Loc} {vm1 : Vm} {k1 : Nat} {h1 : Heap} (p1 : Int32) (p2 : Int64) (p3 : Int32) (u_TagType_LONG : Addr) (u_1__SwitchMap_com_example_cofferhand_cofferhand_nbt_TagType : Addr) (kc_u_1__SwitchMap_com_example_cofferhand_cofferhand_nbt_TagType : ClassId) (zc : Int32) (fmv : Value) (c0 : Int32) (c1 : Int32) (ln : Int32) (q : Addr) (kq : ClassId) (x : Addr) (t : Addr) (kb : ClassId) (cl : List Int32) (h0 : Heap) (n0 : Nat) (hw : ∀ d ∈ tables_1, d.before a0 Z = true)
    (X0 : Stand p l e room_1 (s.setVm vm1) m #[(.int p1), (.long p2), (.int p3)] below meth c T0 locs 8 64) (hx : p.tables.exec = Jvm.exec) (hby : c.code = code) (hml : c.maxLocals = 16) (hret : meth.sig.returnType = ret) (hlk : meth.locks = false) (hown : (s.setVm vm1).vm.findClass "com/example/cofferhand/cofferhand/nbt/NbtWriterToByteArrayPinLaw" = some m.cls) (hnm : meth.name = "law") (hZ : Z.Warmed39 (s.setVm vm1).vm) (e0 : T0.heap = h1) (N0 : Fr n0 locs) (Z_ : n0 ≤ h1.size) (hS_ : s.Since vm1 k1) (hk_ : k1 ≤ h1.size) (CR : CHr Z own_EL s.vm s.heap vm1 h1) (S_u_TagType_LONG : Sta Z Z.heap "com/example/cofferhand/cofferhand/nbt/TagType" "LONG" "Lcom/example/cofferhand/cofferhand/nbt/TagType;" (.ref u_TagType_LONG)) (E_u_TagType_LONG : Exa Z Z.heap u_TagType_LONG "com/example/cofferhand/cofferhand/nbt/TagType") (F_u_TagType_LONG_id : Fld Z Z.heap u_TagType_LONG "com/example/cofferhand/cofferhand/nbt/TagType" "id" "I" (.int (4 : Int32))) (S_u_1__SwitchMap_com_example_cofferhand_cofferhand_nbt_TagType : Sta Z Z.heap "com/example/cofferhand/cofferhand/nbt/NbtWriter$1" "$SwitchMap$com$example$cofferhand$cofferhand$nbt$TagType" "[I" (.ref u_1__SwitchMap_com_example_cofferhand_cofferhand_nbt_TagType)) (F_u_TagType_LONG_ordinal : Fld Z Z.heap u_TagType_LONG "java/lang/Enum" "ordinal" "I" (.int (4 : Int32))) (V_u_1__SwitchMap_com_example_cofferhand_cofferhand_nbt_TagType : Arv Z Z.heap u_1__SwitchMap_com_example_cofferhand_cofferhand_nbt_TagType kc_u_1__SwitchMap_com_example_cofferhand_cofferhand_nbt_TagType .int (13 : Int32) [(.int (0 : Int32)), (.int (1 : Int32)), (.int (2 : Int32)), (.int (3 : Int32)), (.int (4 : Int32)), (.int (5 : Int32)), (.int (6 : Int32)), (.int (7 : Int32)), (.int (8 : Int32)), (.int (9 : Int32)), (.int (10 : Int32)), (.int (11 : Int32)), (.int (12 : Int32))] (.int (0 : Int32))) (S_CS : Sta Z Z.heap "java/lang/String" "COMPACT_STRINGS" "Z" (.int zc)) (P_CS : ¬ zc = (0 : Int32)) (S_SF : Sta Z Z.heap "jdk/internal/util/Preconditions" "SIOOBE_FORMATTER" "Ljava/util/function/BiFunction;" fmv) (rf_fmv : fmv.isRef = true) (S_AD : Sta Z Z.heap "java/lang/StringUTF16" "$assertionsDisabled" "Z" (.int (1 : Int32))) (S_HB : Sta Z Z.heap "java/lang/StringUTF16" "HI_BYTE_SHIFT" "I" (.int (0 : Int32))) (S_LB : Sta Z Z.heap "java/lang/StringUTF16" "LO_BYTE_SHIFT" "I" (.int (8 : Int32))) (V_q : Arv Z h1 q kq .byte (17 : Int32) (List.map Value.int (([(4 : Int32), (0 : Int32), (0 : Int32)] : List Int32) ++ own_encs cl)) (.int (0 : Int32))) (SS : own_T Z h1 x t kb cl) (sf_q : Safe Z own_EL vm1 h1 q) (ne_x_q : x ≠ q) (ne_t_q : t ≠ q) (O_ : Old Z n0 h1) (hcl : List.length cl ≤ 2) (hu : ∀ c ∈ cl, own_u c) (g_q : n0 ≤ q) :
    OwnGoW p e below s Z own_EL room_1.cells room_1.slots (Q0 Z p1 p2 p3 u_TagType_LONG u_1__SwitchMap_com_example_cofferhand_cofferhand_nbt_TagType kc_u_1__SwitchMap_com_example_cofferhand_cofferhand_nbt_TagType zc fmv h0 n0) T0 (mkF m 121 #[.val (.int p1), .val (.long p2), .second, .val (.int p3), .val (.int c0), .val (.int c1), .val (.int ln), .val (.ref x), .val (.ref q), .val (.int (Int32.ofNat (List.length (([(4 : Int32), (0 : Int32), (0 : Int32)] : List Int32) ++ own_encs cl)))), .unset, .unset, .unset, .unset, .unset, .unset] []) := by
  show OwnGoW p e below s Z own_EL _ _ _ T0 (mkF m 121 _ [])
  have z6 := own_encsl cl hcl
  refine .aload X0 hx (hb hby at_121) rfl rfl ?_
  refine .iconst X0 hx (hb hby at_123) own_ki1 ?_
  refine .iload X0 hx (hb hby at_124) rfl ?_
  refine .iconst X0 hx (hb hby at_126) own_ki3 ?_
  refine .st (fun _ => XS.isub X0.here hx rfl (hb hby at_127) rfl) ?_
  show OwnGoW p e below s Z own_EL _ _ _ T0 (mkF m 128 _ [(.int ((Int32.ofNat (List.length (([(4 : Int32), (0 : Int32), (0 : Int32)] : List Int32) ++ own_encs cl))) - (3 : Int32))), (.int (1 : Int32)), (.ref q)])
  rw [own_at3]
  show OwnGoW p e below s Z own_EL _ _ _ T0 (mkF m 128 _ [(.int (Int32.ofNat (List.length (own_encs cl)))), (.int (1 : Int32)), (.ref q)])
  refine .bipush X0 hx (hb hby at_128) own_kb8 ?_
  refine .st (fun _ => XS.ishr X0.here hx rfl (hb hby at_130) rfl) ?_
  show OwnGoW p e below s Z own_EL _ _ _ T0 (mkF m 131 _ [(.int ((Int32.ofNat (List.length (own_encs cl))) >>> ((8 : Int32) &&& 31))), (.int (1 : Int32)), (.ref q)])
  refine .st (fun _ => XS.i2b X0.here hx rfl (hb hby at_131) rfl) ?_
  show OwnGoW p e below s Z own_EL _ _ _ T0 (mkF m 132 _ [(.int (((Int32.ofNat (List.length (own_encs cl))) >>> ((8 : Int32) &&& 31)).toInt8.toInt32)), (.int (1 : Int32)), (.ref q)])
  show OwnGoW p e below s Z own_EL _ _ _ T0 (mkF m 132 _ [(.int ((Int32.ofNat (List.length (own_encs cl))) >>> ((8 : Int32) &&& 31)).toInt8.toInt32), (.int (1 : Int32)), (.ref q)])
  obtain ⟨cl313, Ar313, q313, S313, N313, H313, G313⟩ := id V_q
  obtain ⟨T313, h313, X313, e313, W313, st313⟩ := stB X0 hx hZ e0 Ar313 (j := (1 : Int32)) (inb_of S313 ⟨by decide, by decide⟩) (g := (mkF m 132 #[.val (.int p1), .val (.long p2), .second, .val (.int p3), .val (.int c0), .val (.int c1), .val (.int ln), .val (.ref x), .val (.ref q), .val (.int (Int32.ofNat (List.length (([(4 : Int32), (0 : Int32), (0 : Int32)] : List Int32) ++ own_encs cl)))), .unset, .unset, .unset, .unset, .unset, .unset] [(.int ((Int32.ofNat (List.length (own_encs cl))) >>> ((8 : Int32) &&& 31)).toInt8.toInt32), (.int (1 : Int32)), (.ref q)])) rfl rfl (hb hby at_132)
  have V'313 := Arv.set Ar313 q313 S313 N313 H313 G313 (fits_nar_byte _) W313 1 rfl (by rw [List.length_map]; exact Nat.lt_of_succ_lt (own_len3 _))
  rw [show (((Int32.ofNat (List.length (own_encs cl))) >>> ((8 : Int32) &&& 31)).toInt8.toInt32).toInt8.toInt32 = ((Int32.ofNat (List.length (own_encs cl))) >>> ((8 : Int32) &&& 31)).toInt8.toInt32 from own_nb _] at V'313
  have V'313 : Arv Z h313 q kq .byte (17 : Int32) (List.map Value.int ([(4 : Int32), ((Int32.ofNat (List.length (own_encs cl))) >>> ((8 : Int32) &&& 31)).toInt8.toInt32, (0 : Int32)] ++ own_encs cl)) (.int (0 : Int32)) := V'313
  have SS := SS.wr W313 ne_x_q ne_t_q
  have O_ := O_.wr W313 g_q
  have sf_ := sf_q
  have CR0 := CR.1
  have CR := CR.trans (CHr.wr W313 sf_ CR.1)
  have sf_q := Safe.wr W313 sf_ CR0 sf_q
  have hk_ := Nat.le_trans hk_ (Nat.le_of_eq W313.size.symm)
  have N313 := Fr.snoc X313 N0 g_q
  have Z_ : n0 ≤ h313.size := by rw [W313.size]; exact Z_
  have V_q := V'313
  refine .st st313 ?_
  show OwnGoW p e below s Z own_EL _ _ _ T313 (mkF m 133 _ [])
  refine .aload X313 hx (hb hby at_133) rfl rfl ?_
  refine .iconst X313 hx (hb hby at_135) own_ki2 ?_
  refine .iload X313 hx (hb hby at_136) rfl ?_
  refine .iconst X313 hx (hb hby at_138) own_ki3 ?_
  refine .st (fun _ => XS.isub X313.here hx rfl (hb hby at_139) rfl) ?_
  show OwnGoW p e below s Z own_EL _ _ _ T313 (mkF m 140 _ [(.int ((Int32.ofNat (List.length (([(4 : Int32), (0 : Int32), (0 : Int32)] : List Int32) ++ own_encs cl))) - (3 : Int32))), (.int (2 : Int32)), (.ref q)])
  rw [own_at3]
  show OwnGoW p e below s Z own_EL _ _ _ T313 (mkF m 140 _ [(.int (Int32.ofNat (List.length (own_encs cl)))), (.int (2 : Int32)), (.ref q)])
  refine .st (fun _ => XS.i2b X313.here hx rfl (hb hby at_140) rfl) ?_
  show OwnGoW p e below s Z own_EL _ _ _ T313 (mkF m 141 _ [(.int ((Int32.ofNat (List.length (own_encs cl))).toInt8.toInt32)), (.int (2 : Int32)), (.ref q)])
  show OwnGoW p e below s Z own_EL _ _ _ T313 (mkF m 141 _ [(.int (Int32.ofNat (List.length (own_encs cl))).toInt8.toInt32), (.int (2 : Int32)), (.ref q)])
  obtain ⟨cl314, Ar314, q314, S314, N314, H314, G314⟩ := id V_q
  obtain ⟨T314, h314, X314, e314, W314, st314⟩ := stB X313 hx hZ e313 Ar314 (j := (2 : Int32)) (inb_of S314 ⟨by decide, by decide⟩) (g := (mkF m 141 #[.val (.int p1), .val (.long p2), .second, .val (.int p3), .val (.int c0), .val (.int c1), .val (.int ln), .val (.ref x), .val (.ref q), .val (.int (Int32.ofNat (List.length (([(4 : Int32), (0 : Int32), (0 : Int32)] : List Int32) ++ own_encs cl)))), .unset, .unset, .unset, .unset, .unset, .unset] [(.int (Int32.ofNat (List.length (own_encs cl))).toInt8.toInt32), (.int (2 : Int32)), (.ref q)])) rfl rfl (hb hby at_141)
  have V'314 := Arv.set Ar314 q314 S314 N314 H314 G314 (fits_nar_byte _) W314 2 rfl (by rw [List.length_map]; exact own_len3 _)
  rw [show ((Int32.ofNat (List.length (own_encs cl))).toInt8.toInt32).toInt8.toInt32 = (Int32.ofNat (List.length (own_encs cl))).toInt8.toInt32 from own_nb _] at V'314
  have V'314 : Arv Z h314 q kq .byte (17 : Int32) (List.map Value.int ([(4 : Int32), ((Int32.ofNat (List.length (own_encs cl))) >>> ((8 : Int32) &&& 31)).toInt8.toInt32, (Int32.ofNat (List.length (own_encs cl))).toInt8.toInt32] ++ own_encs cl)) (.int (0 : Int32)) := V'314
  have SS := SS.wr W314 ne_x_q ne_t_q
  have O_ := O_.wr W314 g_q
  have sf_ := sf_q
  have CR0 := CR.1
  have CR := CR.trans (CHr.wr W314 sf_ CR.1)
  have sf_q := Safe.wr W314 sf_ CR0 sf_q
  have hk_ := Nat.le_trans hk_ (Nat.le_of_eq W314.size.symm)
  have N314 := Fr.snoc X314 N313 g_q
  have Z_ : n0 ≤ h314.size := by rw [W314.size]; exact Z_
  have V_q := V'314
  refine .st st314 ?_
  show OwnGoW p e below s Z own_EL _ _ _ T314 (mkF m 142 _ [])
  refine .aload X314 hx (hb hby at_142) rfl rfl ?_
  refine .iload X314 hx (hb hby at_144) rfl ?_
  refine .st (fun _ => XS.lloadN X314.here hx rfl (hb hby at_146) rfl) ?_
  show OwnGoW p e below s Z own_EL _ _ _ T314 (mkF m 147 _ [(.long p2), (.int (Int32.ofNat (List.length (([(4 : Int32), (0 : Int32), (0 : Int32)] : List Int32) ++ own_encs cl)))), (.ref q)])
  refine .bipush X314 hx (hb hby at_147) own_kb56 ?_
  refine .st (fun _ => XS.lshr X314.here hx rfl (hb hby at_149) rfl) ?_
  show OwnGoW p e below s Z own_EL _ _ _ T314 (mkF m 150 _ [(.long (p2 >>> ((56 : Int32) &&& 0x3f).toInt64)), (.int (Int32.ofNat (List.length (([(4 : Int32), (0 : Int32), (0 : Int32)] : List Int32) ++ own_encs cl)))), (.ref q)])
  refine .st (fun _ => XS.l2i X314.here hx rfl (hb hby at_150) rfl) ?_
  show OwnGoW p e below s Z own_EL _ _ _ T314 (mkF m 151 _ [(.int ((p2 >>> ((56 : Int32) &&& 0x3f).toInt64).toInt32)), (.int (Int32.ofNat (List.length (([(4 : Int32), (0 : Int32), (0 : Int32)] : List Int32) ++ own_encs cl)))), (.ref q)])
  refine .st (fun _ => XS.i2b X314.here hx rfl (hb hby at_151) rfl) ?_
  show OwnGoW p e below s Z own_EL _ _ _ T314 (mkF m 152 _ [(.int (((p2 >>> ((56 : Int32) &&& 0x3f).toInt64).toInt32).toInt8.toInt32)), (.int (Int32.ofNat (List.length (([(4 : Int32), (0 : Int32), (0 : Int32)] : List Int32) ++ own_encs cl)))), (.ref q)])
  rw [own_w56 p2]
  show OwnGoW p e below s Z own_EL _ _ _ T314 (mkF m 152 _ [(.int (((p2 >>> ((32 : Int32) &&& 0x3f).toInt64).toInt32) >>> ((24 : Int32) &&& 31)).toInt8.toInt32), (.int (Int32.ofNat (List.length (([(4 : Int32), (0 : Int32), (0 : Int32)] : List Int32) ++ own_encs cl)))), (.ref q)])
  obtain ⟨cl315, Ar315, -, S315, -, -, -⟩ := id V_q
  have lt315 : List.length ([(4 : Int32), ((Int32.ofNat (List.length (own_encs cl))) >>> ((8 : Int32) &&& 31)).toInt8.toInt32, (Int32.ofNat (List.length (own_encs cl))).toInt8.toInt32] ++ own_encs cl) < 17 := (by simp only [List.length_append, List.length_cons, List.length_nil] <;> omega)
  have ix315 : (Int32.ofNat (List.length (([(4 : Int32), (0 : Int32), (0 : Int32)] : List Int32) ++ own_encs cl))) = (Int32.ofNat (List.length ([(4 : Int32), ((Int32.ofNat (List.length (own_encs cl))) >>> ((8 : Int32) &&& 31)).toInt8.toInt32, (Int32.ofNat (List.length (own_encs cl))).toInt8.toInt32] ++ own_encs cl))) := (own_ix0 (by simp only [List.length_append, List.length_cons, List.length_nil]))
  obtain ⟨T315, h315, X315, e315, W315, st315⟩ := stB X314 hx hZ e314 Ar315 (j := (Int32.ofNat (List.length (([(4 : Int32), (0 : Int32), (0 : Int32)] : List Int32) ++ own_encs cl)))) (inb_of S315 (own_inb ix315 lt315 (by decide))) (g := (mkF m 152 #[.val (.int p1), .val (.long p2), .second, .val (.int p3), .val (.int c0), .val (.int c1), .val (.int ln), .val (.ref x), .val (.ref q), .val (.int (Int32.ofNat (List.length (([(4 : Int32), (0 : Int32), (0 : Int32)] : List Int32) ++ own_encs cl)))), .unset, .unset, .unset, .unset, .unset, .unset] [(.int (((p2 >>> ((32 : Int32) &&& 0x3f).toInt64).toInt32) >>> ((24 : Int32) &&& 31)).toInt8.toInt32), (.int (Int32.ofNat (List.length (([(4 : Int32), (0 : Int32), (0 : Int32)] : List Int32) ++ own_encs cl)))), (.ref q)])) rfl rfl (hb hby at_152)
  have V'315 : Arv Z h315 q kq .byte (17 : Int32) (List.map Value.int (([(4 : Int32), ((Int32.ofNat (List.length (own_encs cl))) >>> ((8 : Int32) &&& 31)).toInt8.toInt32, (Int32.ofNat (List.length (own_encs cl))).toInt8.toInt32] ++ own_encs cl) ++ [(((p2 >>> ((32 : Int32) &&& 0x3f).toInt64).toInt32) >>> ((24 : Int32) &&& 31)).toInt8.toInt32])) (.int (0 : Int32)) := own_push V_q W315 ix315 (Nat.lt_trans lt315 (by decide)) (own_nb _)
  have SS := SS.wr W315 ne_x_q ne_t_q
  have O_ := O_.wr W315 g_q
  have sf_ := sf_q
  have CR0 := CR.1
  have CR := CR.trans (CHr.wr W315 sf_ CR.1)
  have sf_q := Safe.wr W315 sf_ CR0 sf_q
  have hk_ := Nat.le_trans hk_ (Nat.le_of_eq W315.size.symm)
  have N315 := Fr.snoc X315 N314 g_q
  have Z_ : n0 ≤ h315.size := by rw [W315.size]; exact Z_
  have V_q := V'315
  refine .st st315 ?_
  show OwnGoW p e below s Z own_EL _ _ _ T315 (mkF m 153 _ [])
  refine .aload X315 hx (hb hby at_153) rfl rfl ?_
  refine .iload X315 hx (hb hby at_155) rfl ?_
  refine .iconst X315 hx (hb hby at_157) own_ki1 ?_
  refine .st (fun _ => XS.iadd X315.here hx rfl (hb hby at_158) rfl) ?_
  show OwnGoW p e below s Z own_EL _ _ _ T315 (mkF m 159 _ [(.int ((Int32.ofNat (List.length (([(4 : Int32), (0 : Int32), (0 : Int32)] : List Int32) ++ own_encs cl))) + (1 : Int32))), (.ref q)])
  refine .st (fun _ => XS.lloadN X315.here hx rfl (hb hby at_159) rfl) ?_
  show OwnGoW p e below s Z own_EL _ _ _ T315 (mkF m 160 _ [(.long p2), (.int ((Int32.ofNat (List.length (([(4 : Int32), (0 : Int32), (0 : Int32)] : List Int32) ++ own_encs cl))) + (1 : Int32))), (.ref q)])
  refine .bipush X315 hx (hb hby at_160) own_kb48 ?_
  refine .st (fun _ => XS.lshr X315.here hx rfl (hb hby at_162) rfl) ?_
  show OwnGoW p e below s Z own_EL _ _ _ T315 (mkF m 163 _ [(.long (p2 >>> ((48 : Int32) &&& 0x3f).toInt64)), (.int ((Int32.ofNat (List.length (([(4 : Int32), (0 : Int32), (0 : Int32)] : List Int32) ++ own_encs cl))) + (1 : Int32))), (.ref q)])
  refine .st (fun _ => XS.l2i X315.here hx rfl (hb hby at_163) rfl) ?_
  show OwnGoW p e below s Z own_EL _ _ _ T315 (mkF m 164 _ [(.int ((p2 >>> ((48 : Int32) &&& 0x3f).toInt64).toInt32)), (.int ((Int32.ofNat (List.length (([(4 : Int32), (0 : Int32), (0 : Int32)] : List Int32) ++ own_encs cl))) + (1 : Int32))), (.ref q)])
  refine .st (fun _ => XS.i2b X315.here hx rfl (hb hby at_164) rfl) ?_
  show OwnGoW p e below s Z own_EL _ _ _ T315 (mkF m 165 _ [(.int (((p2 >>> ((48 : Int32) &&& 0x3f).toInt64).toInt32).toInt8.toInt32)), (.int ((Int32.ofNat (List.length (([(4 : Int32), (0 : Int32), (0 : Int32)] : List Int32) ++ own_encs cl))) + (1 : Int32))), (.ref q)])
  rw [own_w48 p2]
  show OwnGoW p e below s Z own_EL _ _ _ T315 (mkF m 165 _ [(.int (((p2 >>> ((32 : Int32) &&& 0x3f).toInt64).toInt32) >>> ((16 : Int32) &&& 31)).toInt8.toInt32), (.int ((Int32.ofNat (List.length (([(4 : Int32), (0 : Int32), (0 : Int32)] : List Int32) ++ own_encs cl))) + (1 : Int32))), (.ref q)])
  obtain ⟨cl316, Ar316, -, S316, -, -, -⟩ := id V_q
  have lt316 : List.length (([(4 : Int32), ((Int32.ofNat (List.length (own_encs cl))) >>> ((8 : Int32) &&& 31)).toInt8.toInt32, (Int32.ofNat (List.length (own_encs cl))).toInt8.toInt32] ++ own_encs cl) ++ [(((p2 >>> ((32 : Int32) &&& 0x3f).toInt64).toInt32) >>> ((24 : Int32) &&& 31)).toInt8.toInt32]) < 17 := (by simp only [List.length_append, List.length_cons, List.length_nil] <;> omega)
  have ix316 : ((Int32.ofNat (List.length (([(4 : Int32), (0 : Int32), (0 : Int32)] : List Int32) ++ own_encs cl))) + (1 : Int32)) = (Int32.ofNat (List.length (([(4 : Int32), ((Int32.ofNat (List.length (own_encs cl))) >>> ((8 : Int32) &&& 31)).toInt8.toInt32, (Int32.ofNat (List.length (own_encs cl))).toInt8.toInt32] ++ own_encs cl) ++ [(((p2 >>> ((32 : Int32) &&& 0x3f).toInt64).toInt32) >>> ((24 : Int32) &&& 31)).toInt8.toInt32]))) := (own_ixn (i := 1) (by simp only [List.length_append, List.length_cons, List.length_nil] <;> omega))
  obtain ⟨T316, h316, X316, e316, W316, st316⟩ := stB X315 hx hZ e315 Ar316 (j := ((Int32.ofNat (List.length (([(4 : Int32), (0 : Int32), (0 : Int32)] : List Int32) ++ own_encs cl))) + (1 : Int32))) (inb_of S316 (own_inb ix316 lt316 (by decide))) (g := (mkF m 165 #[.val (.int p1), .val (.long p2), .second, .val (.int p3), .val (.int c0), .val (.int c1), .val (.int ln), .val (.ref x), .val (.ref q), .val (.int (Int32.ofNat (List.length (([(4 : Int32), (0 : Int32), (0 : Int32)] : List Int32) ++ own_encs cl)))), .unset, .unset, .unset, .unset, .unset, .unset] [(.int (((p2 >>> ((32 : Int32) &&& 0x3f).toInt64).toInt32) >>> ((16 : Int32) &&& 31)).toInt8.toInt32), (.int ((Int32.ofNat (List.length (([(4 : Int32), (0 : Int32), (0 : Int32)] : List Int32) ++ own_encs cl))) + (1 : Int32))), (.ref q)])) rfl rfl (hb hby at_165)
  have V'316 : Arv Z h316 q kq .byte (17 : Int32) (List.map Value.int ((([(4 : Int32), ((Int32.ofNat (List.length (own_encs cl))) >>> ((8 : Int32) &&& 31)).toInt8.toInt32, (Int32.ofNat (List.length (own_encs cl))).toInt8.toInt32] ++ own_encs cl) ++ [(((p2 >>> ((32 : Int32) &&& 0x3f).toInt64).toInt32) >>> ((24 : Int32) &&& 31)).toInt8.toInt32]) ++ [(((p2 >>> ((32 : Int32) &&& 0x3f).toInt64).toInt32) >>> ((16 : Int32) &&& 31)).toInt8.toInt32])) (.int (0 : Int32)) := own_push V_q W316 ix316 (Nat.lt_trans lt316 (by decide)) (own_nb _)
  have SS := SS.wr W316 ne_x_q ne_t_q
  have O_ := O_.wr W316 g_q
  have sf_ := sf_q
  have CR0 := CR.1
  have CR := CR.trans (CHr.wr W316 sf_ CR.1)
  have sf_q := Safe.wr W316 sf_ CR0 sf_q
  have hk_ := Nat.le_trans hk_ (Nat.le_of_eq W316.size.symm)
  have N316 := Fr.snoc X316 N315 g_q
  have Z_ : n0 ≤ h316.size := by rw [W316.size]; exact Z_
  have V_q := V'316
  refine .st st316 ?_
  show OwnGoW p e below s Z own_EL _ _ _ T316 (mkF m 166 _ [])
  refine .aload X316 hx (hb hby at_166) rfl rfl ?_
  refine .iload X316 hx (hb hby at_168) rfl ?_
  refine .iconst X316 hx (hb hby at_170) own_ki2 ?_
  refine .st (fun _ => XS.iadd X316.here hx rfl (hb hby at_171) rfl) ?_
  show OwnGoW p e below s Z own_EL _ _ _ T316 (mkF m 172 _ [(.int ((Int32.ofNat (List.length (([(4 : Int32), (0 : Int32), (0 : Int32)] : List Int32) ++ own_encs cl))) + (2 : Int32))), (.ref q)])
  refine .st (fun _ => XS.lloadN X316.here hx rfl (hb hby at_172) rfl) ?_
  show OwnGoW p e below s Z own_EL _ _ _ T316 (mkF m 173 _ [(.long p2), (.int ((Int32.ofNat (List.length (([(4 : Int32), (0 : Int32), (0 : Int32)] : List Int32) ++ own_encs cl))) + (2 : Int32))), (.ref q)])
  refine .bipush X316 hx (hb hby at_173) own_kb40 ?_
  refine .st (fun _ => XS.lshr X316.here hx rfl (hb hby at_175) rfl) ?_
  show OwnGoW p e below s Z own_EL _ _ _ T316 (mkF m 176 _ [(.long (p2 >>> ((40 : Int32) &&& 0x3f).toInt64)), (.int ((Int32.ofNat (List.length (([(4 : Int32), (0 : Int32), (0 : Int32)] : List Int32) ++ own_encs cl))) + (2 : Int32))), (.ref q)])
  refine .st (fun _ => XS.l2i X316.here hx rfl (hb hby at_176) rfl) ?_
  show OwnGoW p e below s Z own_EL _ _ _ T316 (mkF m 177 _ [(.int ((p2 >>> ((40 : Int32) &&& 0x3f).toInt64).toInt32)), (.int ((Int32.ofNat (List.length (([(4 : Int32), (0 : Int32), (0 : Int32)] : List Int32) ++ own_encs cl))) + (2 : Int32))), (.ref q)])
  refine .st (fun _ => XS.i2b X316.here hx rfl (hb hby at_177) rfl) ?_
  show OwnGoW p e below s Z own_EL _ _ _ T316 (mkF m 178 _ [(.int (((p2 >>> ((40 : Int32) &&& 0x3f).toInt64).toInt32).toInt8.toInt32)), (.int ((Int32.ofNat (List.length (([(4 : Int32), (0 : Int32), (0 : Int32)] : List Int32) ++ own_encs cl))) + (2 : Int32))), (.ref q)])
  rw [own_w40 p2]
  show OwnGoW p e below s Z own_EL _ _ _ T316 (mkF m 178 _ [(.int (((p2 >>> ((32 : Int32) &&& 0x3f).toInt64).toInt32) >>> ((8 : Int32) &&& 31)).toInt8.toInt32), (.int ((Int32.ofNat (List.length (([(4 : Int32), (0 : Int32), (0 : Int32)] : List Int32) ++ own_encs cl))) + (2 : Int32))), (.ref q)])
  obtain ⟨cl317, Ar317, -, S317, -, -, -⟩ := id V_q
  have lt317 : List.length ((([(4 : Int32), ((Int32.ofNat (List.length (own_encs cl))) >>> ((8 : Int32) &&& 31)).toInt8.toInt32, (Int32.ofNat (List.length (own_encs cl))).toInt8.toInt32] ++ own_encs cl) ++ [(((p2 >>> ((32 : Int32) &&& 0x3f).toInt64).toInt32) >>> ((24 : Int32) &&& 31)).toInt8.toInt32]) ++ [(((p2 >>> ((32 : Int32) &&& 0x3f).toInt64).toInt32) >>> ((16 : Int32) &&& 31)).toInt8.toInt32]) < 17 := (by simp only [List.length_append, List.length_cons, List.length_nil] <;> omega)
  have ix317 : ((Int32.ofNat (List.length (([(4 : Int32), (0 : Int32), (0 : Int32)] : List Int32) ++ own_encs cl))) + (2 : Int32)) = (Int32.ofNat (List.length ((([(4 : Int32), ((Int32.ofNat (List.length (own_encs cl))) >>> ((8 : Int32) &&& 31)).toInt8.toInt32, (Int32.ofNat (List.length (own_encs cl))).toInt8.toInt32] ++ own_encs cl) ++ [(((p2 >>> ((32 : Int32) &&& 0x3f).toInt64).toInt32) >>> ((24 : Int32) &&& 31)).toInt8.toInt32]) ++ [(((p2 >>> ((32 : Int32) &&& 0x3f).toInt64).toInt32) >>> ((16 : Int32) &&& 31)).toInt8.toInt32]))) := (own_ixn (i := 2) (by simp only [List.length_append, List.length_cons, List.length_nil] <;> omega))
  obtain ⟨T317, h317, X317, e317, W317, st317⟩ := stB X316 hx hZ e316 Ar317 (j := ((Int32.ofNat (List.length (([(4 : Int32), (0 : Int32), (0 : Int32)] : List Int32) ++ own_encs cl))) + (2 : Int32))) (inb_of S317 (own_inb ix317 lt317 (by decide))) (g := (mkF m 178 #[.val (.int p1), .val (.long p2), .second, .val (.int p3), .val (.int c0), .val (.int c1), .val (.int ln), .val (.ref x), .val (.ref q), .val (.int (Int32.ofNat (List.length (([(4 : Int32), (0 : Int32), (0 : Int32)] : List Int32) ++ own_encs cl)))), .unset, .unset, .unset, .unset, .unset, .unset] [(.int (((p2 >>> ((32 : Int32) &&& 0x3f).toInt64).toInt32) >>> ((8 : Int32) &&& 31)).toInt8.toInt32), (.int ((Int32.ofNat (List.length (([(4 : Int32), (0 : Int32), (0 : Int32)] : List Int32) ++ own_encs cl))) + (2 : Int32))), (.ref q)])) rfl rfl (hb hby at_178)
  have V'317 : Arv Z h317 q kq .byte (17 : Int32) (List.map Value.int (((([(4 : Int32), ((Int32.ofNat (List.length (own_encs cl))) >>> ((8 : Int32) &&& 31)).toInt8.toInt32, (Int32.ofNat (List.length (own_encs cl))).toInt8.toInt32] ++ own_encs cl) ++ [(((p2 >>> ((32 : Int32) &&& 0x3f).toInt64).toInt32) >>> ((24 : Int32) &&& 31)).toInt8.toInt32]) ++ [(((p2 >>> ((32 : Int32) &&& 0x3f).toInt64).toInt32) >>> ((16 : Int32) &&& 31)).toInt8.toInt32]) ++ [(((p2 >>> ((32 : Int32) &&& 0x3f).toInt64).toInt32) >>> ((8 : Int32) &&& 31)).toInt8.toInt32])) (.int (0 : Int32)) := own_push V_q W317 ix317 (Nat.lt_trans lt317 (by decide)) (own_nb _)
  have SS := SS.wr W317 ne_x_q ne_t_q
  have O_ := O_.wr W317 g_q
  have sf_ := sf_q
  have CR0 := CR.1
  have CR := CR.trans (CHr.wr W317 sf_ CR.1)
  have sf_q := Safe.wr W317 sf_ CR0 sf_q
  have hk_ := Nat.le_trans hk_ (Nat.le_of_eq W317.size.symm)
  have N317 := Fr.snoc X317 N316 g_q
  have Z_ : n0 ≤ h317.size := by rw [W317.size]; exact Z_
  have V_q := V'317
  refine .st st317 ?_
  show OwnGoW p e below s Z own_EL _ _ _ T317 (mkF m 179 _ [])
  refine .aload X317 hx (hb hby at_179) rfl rfl ?_
  refine .iload X317 hx (hb hby at_181) rfl ?_
  refine .iconst X317 hx (hb hby at_183) own_ki3 ?_
  refine .st (fun _ => XS.iadd X317.here hx rfl (hb hby at_184) rfl) ?_
  show OwnGoW p e below s Z own_EL _ _ _ T317 (mkF m 185 _ [(.int ((Int32.ofNat (List.length (([(4 : Int32), (0 : Int32), (0 : Int32)] : List Int32) ++ own_encs cl))) + (3 : Int32))), (.ref q)])
  refine .st (fun _ => XS.lloadN X317.here hx rfl (hb hby at_185) rfl) ?_
  show OwnGoW p e below s Z own_EL _ _ _ T317 (mkF m 186 _ [(.long p2), (.int ((Int32.ofNat (List.length (([(4 : Int32), (0 : Int32), (0 : Int32)] : List Int32) ++ own_encs cl))) + (3 : Int32))), (.ref q)])
  refine .bipush X317 hx (hb hby at_186) own_kb32 ?_
  refine .st (fun _ => XS.lshr X317.here hx rfl (hb hby at_188) rfl) ?_
  show OwnGoW p e below s Z own_EL _ _ _ T317 (mkF m 189 _ [(.long (p2 >>> ((32 : Int32) &&& 0x3f).toInt64)), (.int ((Int32.ofNat (List.length (([(4 : Int32), (0 : Int32), (0 : Int32)] : List Int32) ++ own_encs cl))) + (3 : Int32))), (.ref q)])
  refine .st (fun _ => XS.l2i X317.here hx rfl (hb hby at_189) rfl) ?_
  show OwnGoW p e below s Z own_EL _ _ _ T317 (mkF m 190 _ [(.int ((p2 >>> ((32 : Int32) &&& 0x3f).toInt64).toInt32)), (.int ((Int32.ofNat (List.length (([(4 : Int32), (0 : Int32), (0 : Int32)] : List Int32) ++ own_encs cl))) + (3 : Int32))), (.ref q)])
  refine .st (fun _ => XS.i2b X317.here hx rfl (hb hby at_190) rfl) ?_
  show OwnGoW p e below s Z own_EL _ _ _ T317 (mkF m 191 _ [(.int (((p2 >>> ((32 : Int32) &&& 0x3f).toInt64).toInt32).toInt8.toInt32)), (.int ((Int32.ofNat (List.length (([(4 : Int32), (0 : Int32), (0 : Int32)] : List Int32) ++ own_encs cl))) + (3 : Int32))), (.ref q)])
  show OwnGoW p e below s Z own_EL _ _ _ T317 (mkF m 191 _ [(.int ((p2 >>> ((32 : Int32) &&& 0x3f).toInt64).toInt32).toInt8.toInt32), (.int ((Int32.ofNat (List.length (([(4 : Int32), (0 : Int32), (0 : Int32)] : List Int32) ++ own_encs cl))) + (3 : Int32))), (.ref q)])
  obtain ⟨cl318, Ar318, -, S318, -, -, -⟩ := id V_q
  have lt318 : List.length (((([(4 : Int32), ((Int32.ofNat (List.length (own_encs cl))) >>> ((8 : Int32) &&& 31)).toInt8.toInt32, (Int32.ofNat (List.length (own_encs cl))).toInt8.toInt32] ++ own_encs cl) ++ [(((p2 >>> ((32 : Int32) &&& 0x3f).toInt64).toInt32) >>> ((24 : Int32) &&& 31)).toInt8.toInt32]) ++ [(((p2 >>> ((32 : Int32) &&& 0x3f).toInt64).toInt32) >>> ((16 : Int32) &&& 31)).toInt8.toInt32]) ++ [(((p2 >>> ((32 : Int32) &&& 0x3f).toInt64).toInt32) >>> ((8 : Int32) &&& 31)).toInt8.toInt32]) < 17 := (by simp only [List.length_append, List.length_cons, List.length_nil] <;> omega)
  have ix318 : ((Int32.ofNat (List.length (([(4 : Int32), (0 : Int32), (0 : Int32)] : List Int32) ++ own_encs cl))) + (3 : Int32)) = (Int32.ofNat (List.length (((([(4 : Int32), ((Int32.ofNat (List.length (own_encs cl))) >>> ((8 : Int32) &&& 31)).toInt8.toInt32, (Int32.ofNat (List.length (own_encs cl))).toInt8.toInt32] ++ own_encs cl) ++ [(((p2 >>> ((32 : Int32) &&& 0x3f).toInt64).toInt32) >>> ((24 : Int32) &&& 31)).toInt8.toInt32]) ++ [(((p2 >>> ((32 : Int32) &&& 0x3f).toInt64).toInt32) >>> ((16 : Int32) &&& 31)).toInt8.toInt32]) ++ [(((p2 >>> ((32 : Int32) &&& 0x3f).toInt64).toInt32) >>> ((8 : Int32) &&& 31)).toInt8.toInt32]))) := (own_ixn (i := 3) (by simp only [List.length_append, List.length_cons, List.length_nil] <;> omega))
  obtain ⟨T318, h318, X318, e318, W318, st318⟩ := stB X317 hx hZ e317 Ar318 (j := ((Int32.ofNat (List.length (([(4 : Int32), (0 : Int32), (0 : Int32)] : List Int32) ++ own_encs cl))) + (3 : Int32))) (inb_of S318 (own_inb ix318 lt318 (by decide))) (g := (mkF m 191 #[.val (.int p1), .val (.long p2), .second, .val (.int p3), .val (.int c0), .val (.int c1), .val (.int ln), .val (.ref x), .val (.ref q), .val (.int (Int32.ofNat (List.length (([(4 : Int32), (0 : Int32), (0 : Int32)] : List Int32) ++ own_encs cl)))), .unset, .unset, .unset, .unset, .unset, .unset] [(.int ((p2 >>> ((32 : Int32) &&& 0x3f).toInt64).toInt32).toInt8.toInt32), (.int ((Int32.ofNat (List.length (([(4 : Int32), (0 : Int32), (0 : Int32)] : List Int32) ++ own_encs cl))) + (3 : Int32))), (.ref q)])) rfl rfl (hb hby at_191)
  have V'318 : Arv Z h318 q kq .byte (17 : Int32) (List.map Value.int ((((([(4 : Int32), ((Int32.ofNat (List.length (own_encs cl))) >>> ((8 : Int32) &&& 31)).toInt8.toInt32, (Int32.ofNat (List.length (own_encs cl))).toInt8.toInt32] ++ own_encs cl) ++ [(((p2 >>> ((32 : Int32) &&& 0x3f).toInt64).toInt32) >>> ((24 : Int32) &&& 31)).toInt8.toInt32]) ++ [(((p2 >>> ((32 : Int32) &&& 0x3f).toInt64).toInt32) >>> ((16 : Int32) &&& 31)).toInt8.toInt32]) ++ [(((p2 >>> ((32 : Int32) &&& 0x3f).toInt64).toInt32) >>> ((8 : Int32) &&& 31)).toInt8.toInt32]) ++ [((p2 >>> ((32 : Int32) &&& 0x3f).toInt64).toInt32).toInt8.toInt32])) (.int (0 : Int32)) := own_push V_q W318 ix318 (Nat.lt_trans lt318 (by decide)) (own_nb _)
  have SS := SS.wr W318 ne_x_q ne_t_q
  have O_ := O_.wr W318 g_q
  have sf_ := sf_q
  have CR0 := CR.1
  have CR := CR.trans (CHr.wr W318 sf_ CR.1)
  have sf_q := Safe.wr W318 sf_ CR0 sf_q
  have hk_ := Nat.le_trans hk_ (Nat.le_of_eq W318.size.symm)
  have N318 := Fr.snoc X318 N317 g_q
  have Z_ : n0 ≤ h318.size := by rw [W318.size]; exact Z_
  have V_q := V'318
  refine .st st318 ?_
  show OwnGoW p e below s Z own_EL _ _ _ T318 (mkF m 192 _ [])
  refine .aload X318 hx (hb hby at_192) rfl rfl ?_
  refine .iload X318 hx (hb hby at_194) rfl ?_
  refine .iconst X318 hx (hb hby at_196) own_ki4 ?_
  refine .st (fun _ => XS.iadd X318.here hx rfl (hb hby at_197) rfl) ?_
  show OwnGoW p e below s Z own_EL _ _ _ T318 (mkF m 198 _ [(.int ((Int32.ofNat (List.length (([(4 : Int32), (0 : Int32), (0 : Int32)] : List Int32) ++ own_encs cl))) + (4 : Int32))), (.ref q)])
  refine .st (fun _ => XS.lloadN X318.here hx rfl (hb hby at_198) rfl) ?_
  show OwnGoW p e below s Z own_EL _ _ _ T318 (mkF m 199 _ [(.long p2), (.int ((Int32.ofNat (List.length (([(4 : Int32), (0 : Int32), (0 : Int32)] : List Int32) ++ own_encs cl))) + (4 : Int32))), (.ref q)])
  refine .bipush X318 hx (hb hby at_199) own_kb24 ?_
  refine .st (fun _ => XS.lshr X318.here hx rfl (hb hby at_201) rfl) ?_
  show OwnGoW p e below s Z own_EL _ _ _ T318 (mkF m 202 _ [(.long (p2 >>> ((24 : Int32) &&& 0x3f).toInt64)), (.int ((Int32.ofNat (List.length (([(4 : Int32), (0 : Int32), (0 : Int32)] : List Int32) ++ own_encs cl))) + (4 : Int32))), (.ref q)])
  refine .st (fun _ => XS.l2i X318.here hx rfl (hb hby at_202) rfl) ?_
  show OwnGoW p e below s Z own_EL _ _ _ T318 (mkF m 203 _ [(.int ((p2 >>> ((24 : Int32) &&& 0x3f).toInt64).toInt32)), (.int ((Int32.ofNat (List.length (([(4 : Int32), (0 : Int32), (0 : Int32)] : List Int32) ++ own_encs cl))) + (4 : Int32))), (.ref q)])
  refine .st (fun _ => XS.i2b X318.here hx rfl (hb hby at_203) rfl) ?_
  show OwnGoW p e below s Z own_EL _ _ _ T318 (mkF m 204 _ [(.int (((p2 >>> ((24 : Int32) &&& 0x3f).toInt64).toInt32).toInt8.toInt32)), (.int ((Int32.ofNat (List.length (([(4 : Int32), (0 : Int32), (0 : Int32)] : List Int32) ++ own_encs cl))) + (4 : Int32))), (.ref q)])
  rw [own_w24 p2]
  show OwnGoW p e below s Z own_EL _ _ _ T318 (mkF m 204 _ [(.int ((p2.toInt32) >>> ((24 : Int32) &&& 31)).toInt8.toInt32), (.int ((Int32.ofNat (List.length (([(4 : Int32), (0 : Int32), (0 : Int32)] : List Int32) ++ own_encs cl))) + (4 : Int32))), (.ref q)])
  obtain ⟨cl319, Ar319, -, S319, -, -, -⟩ := id V_q
  have lt319 : List.length ((((([(4 : Int32), ((Int32.ofNat (List.length (own_encs cl))) >>> ((8 : Int32) &&& 31)).toInt8.toInt32, (Int32.ofNat (List.length (own_encs cl))).toInt8.toInt32] ++ own_encs cl) ++ [(((p2 >>> ((32 : Int32) &&& 0x3f).toInt64).toInt32) >>> ((24 : Int32) &&& 31)).toInt8.toInt32]) ++ [(((p2 >>> ((32 : Int32) &&& 0x3f).toInt64).toInt32) >>> ((16 : Int32) &&& 31)).toInt8.toInt32]) ++ [(((p2 >>> ((32 : Int32) &&& 0x3f).toInt64).toInt32) >>> ((8 : Int32) &&& 31)).toInt8.toInt32]) ++ [((p2 >>> ((32 : Int32) &&& 0x3f).toInt64).toInt32).toInt8.toInt32]) < 17 := (by simp only [List.length_append, List.length_cons, List.length_nil] <;> omega)
  have ix319 : ((Int32.ofNat (List.length (([(4 : Int32), (0 : Int32), (0 : Int32)] : List Int32) ++ own_encs cl))) + (4 : Int32)) = (Int32.ofNat (List.length ((((([(4 : Int32), ((Int32.ofNat (List.length (own_encs cl))) >>> ((8 : Int32) &&& 31)).toInt8.toInt32, (Int32.ofNat (List.length (own_encs cl))).toInt8.toInt32] ++ own_encs cl) ++ [(((p2 >>> ((32 : Int32) &&& 0x3f).toInt64).toInt32) >>> ((24 : Int32) &&& 31)).toInt8.toInt32]) ++ [(((p2 >>> ((32 : Int32) &&& 0x3f).toInt64).toInt32) >>> ((16 : Int32) &&& 31)).toInt8.toInt32]) ++ [(((p2 >>> ((32 : Int32) &&& 0x3f).toInt64).toInt32) >>> ((8 : Int32) &&& 31)).toInt8.toInt32]) ++ [((p2 >>> ((32 : Int32) &&& 0x3f).toInt64).toInt32).toInt8.toInt32]))) := (own_ixn (i := 4) (by simp only [List.length_append, List.length_cons, List.length_nil] <;> omega))
  obtain ⟨T319, h319, X319, e319, W319, st319⟩ := stB X318 hx hZ e318 Ar319 (j := ((Int32.ofNat (List.length (([(4 : Int32), (0 : Int32), (0 : Int32)] : List Int32) ++ own_encs cl))) + (4 : Int32))) (inb_of S319 (own_inb ix319 lt319 (by decide))) (g := (mkF m 204 #[.val (.int p1), .val (.long p2), .second, .val (.int p3), .val (.int c0), .val (.int c1), .val (.int ln), .val (.ref x), .val (.ref q), .val (.int (Int32.ofNat (List.length (([(4 : Int32), (0 : Int32), (0 : Int32)] : List Int32) ++ own_encs cl)))), .unset, .unset, .unset, .unset, .unset, .unset] [(.int ((p2.toInt32) >>> ((24 : Int32) &&& 31)).toInt8.toInt32), (.int ((Int32.ofNat (List.length (([(4 : Int32), (0 : Int32), (0 : Int32)] : List Int32) ++ own_encs cl))) + (4 : Int32))), (.ref q)])) rfl rfl (hb hby at_204)
  have V'319 : Arv Z h319 q kq .byte (17 : Int32) (List.map Value.int (((((([(4 : Int32), ((Int32.ofNat (List.length (own_encs cl))) >>> ((8 : Int32) &&& 31)).toInt8.toInt32, (Int32.ofNat (List.length (own_encs cl))).toInt8.toInt32] ++ own_encs cl) ++ [(((p2 >>> ((32 : Int32) &&& 0x3f).toInt64).toInt32) >>> ((24 : Int32) &&& 31)).toInt8.toInt32]) ++ [(((p2 >>> ((32 : Int32) &&& 0x3f).toInt64).toInt32) >>> ((16 : Int32) &&& 31)).toInt8.toInt32]) ++ [(((p2 >>> ((32 : Int32) &&& 0x3f).toInt64).toInt32) >>> ((8 : Int32) &&& 31)).toInt8.toInt32]) ++ [((p2 >>> ((32 : Int32) &&& 0x3f).toInt64).toInt32).toInt8.toInt32]) ++ [((p2.toInt32) >>> ((24 : Int32) &&& 31)).toInt8.toInt32])) (.int (0 : Int32)) := own_push V_q W319 ix319 (Nat.lt_trans lt319 (by decide)) (own_nb _)
  have SS := SS.wr W319 ne_x_q ne_t_q
  have O_ := O_.wr W319 g_q
  have sf_ := sf_q
  have CR0 := CR.1
  have CR := CR.trans (CHr.wr W319 sf_ CR.1)
  have sf_q := Safe.wr W319 sf_ CR0 sf_q
  have hk_ := Nat.le_trans hk_ (Nat.le_of_eq W319.size.symm)
  have N319 := Fr.snoc X319 N318 g_q
  have Z_ : n0 ≤ h319.size := by rw [W319.size]; exact Z_
  have V_q := V'319
  refine .st st319 ?_
  show OwnGoW p e below s Z own_EL _ _ _ T319 (mkF m 205 _ [])
  refine .aload X319 hx (hb hby at_205) rfl rfl ?_
  refine .iload X319 hx (hb hby at_207) rfl ?_
  refine .iconst X319 hx (hb hby at_209) own_ki5 ?_
  refine .st (fun _ => XS.iadd X319.here hx rfl (hb hby at_210) rfl) ?_
  show OwnGoW p e below s Z own_EL _ _ _ T319 (mkF m 211 _ [(.int ((Int32.ofNat (List.length (([(4 : Int32), (0 : Int32), (0 : Int32)] : List Int32) ++ own_encs cl))) + (5 : Int32))), (.ref q)])
  refine .st (fun _ => XS.lloadN X319.here hx rfl (hb hby at_211) rfl) ?_
  show OwnGoW p e below s Z own_EL _ _ _ T319 (mkF m 212 _ [(.long p2), (.int ((Int32.ofNat (List.length (([(4 : Int32), (0 : Int32), (0 : Int32)] : List Int32) ++ own_encs cl))) + (5 : Int32))), (.ref q)])
  refine .bipush X319 hx (hb hby at_212) own_kb16 ?_
  refine .st (fun _ => XS.lshr X319.here hx rfl (hb hby at_214) rfl) ?_
  show OwnGoW p e below s Z own_EL _ _ _ T319 (mkF m 215 _ [(.long (p2 >>> ((16 : Int32) &&& 0x3f).toInt64)), (.int ((Int32.ofNat (List.length (([(4 : Int32), (0 : Int32), (0 : Int32)] : List Int32) ++ own_encs cl))) + (5 : Int32))), (.ref q)])
  refine .st (fun _ => XS.l2i X319.here hx rfl (hb hby at_215) rfl) ?_
  show OwnGoW p e below s Z own_EL _ _ _ T319 (mkF m 216 _ [(.int ((p2 >>> ((16 : Int32) &&& 0x3f).toInt64).toInt32)), (.int ((Int32.ofNat (List.length (([(4 : Int32), (0 : Int32), (0 : Int32)] : List Int32) ++ own_encs cl))) + (5 : Int32))), (.ref q)])
  refine .st (fun _ => XS.i2b X319.here hx rfl (hb hby at_216) rfl) ?_
  show OwnGoW p e below s Z own_EL _ _ _ T319 (mkF m 217 _ [(.int (((p2 >>> ((16 : Int32) &&& 0x3f).toInt64).toInt32).toInt8.toInt32)), (.int ((Int32.ofNat (List.length (([(4 : Int32), (0 : Int32), (0 : Int32)] : List Int32) ++ own_encs cl))) + (5 : Int32))), (.ref q)])
  rw [own_w16 p2]
  show OwnGoW p e below s Z own_EL _ _ _ T319 (mkF m 217 _ [(.int ((p2.toInt32) >>> ((16 : Int32) &&& 31)).toInt8.toInt32), (.int ((Int32.ofNat (List.length (([(4 : Int32), (0 : Int32), (0 : Int32)] : List Int32) ++ own_encs cl))) + (5 : Int32))), (.ref q)])
  obtain ⟨cl320, Ar320, -, S320, -, -, -⟩ := id V_q
  have lt320 : List.length (((((([(4 : Int32), ((Int32.ofNat (List.length (own_encs cl))) >>> ((8 : Int32) &&& 31)).toInt8.toInt32, (Int32.ofNat (List.length (own_encs cl))).toInt8.toInt32] ++ own_encs cl) ++ [(((p2 >>> ((32 : Int32) &&& 0x3f).toInt64).toInt32) >>> ((24 : Int32) &&& 31)).toInt8.toInt32]) ++ [(((p2 >>> ((32 : Int32) &&& 0x3f).toInt64).toInt32) >>> ((16 : Int32) &&& 31)).toInt8.toInt32]) ++ [(((p2 >>> ((32 : Int32) &&& 0x3f).toInt64).toInt32) >>> ((8 : Int32) &&& 31)).toInt8.toInt32]) ++ [((p2 >>> ((32 : Int32) &&& 0x3f).toInt64).toInt32).toInt8.toInt32]) ++ [((p2.toInt32) >>> ((24 : Int32) &&& 31)).toInt8.toInt32]) < 17 := (by simp only [List.length_append, List.length_cons, List.length_nil] <;> omega)
  have ix320 : ((Int32.ofNat (List.length (([(4 : Int32), (0 : Int32), (0 : Int32)] : List Int32) ++ own_encs cl))) + (5 : Int32)) = (Int32.ofNat (List.length (((((([(4 : Int32), ((Int32.ofNat (List.length (own_encs cl))) >>> ((8 : Int32) &&& 31)).toInt8.toInt32, (Int32.ofNat (List.length (own_encs cl))).toInt8.toInt32] ++ own_encs cl) ++ [(((p2 >>> ((32 : Int32) &&& 0x3f).toInt64).toInt32) >>> ((24 : Int32) &&& 31)).toInt8.toInt32]) ++ [(((p2 >>> ((32 : Int32) &&& 0x3f).toInt64).toInt32) >>> ((16 : Int32) &&& 31)).toInt8.toInt32]) ++ [(((p2 >>> ((32 : Int32) &&& 0x3f).toInt64).toInt32) >>> ((8 : Int32) &&& 31)).toInt8.toInt32]) ++ [((p2 >>> ((32 : Int32) &&& 0x3f).toInt64).toInt32).toInt8.toInt32]) ++ [((p2.toInt32) >>> ((24 : Int32) &&& 31)).toInt8.toInt32]))) := (own_ixn (i := 5) (by simp only [List.length_append, List.length_cons, List.length_nil] <;> omega))
  obtain ⟨T320, h320, X320, e320, W320, st320⟩ := stB X319 hx hZ e319 Ar320 (j := ((Int32.ofNat (List.length (([(4 : Int32), (0 : Int32), (0 : Int32)] : List Int32) ++ own_encs cl))) + (5 : Int32))) (inb_of S320 (own_inb ix320 lt320 (by decide))) (g := (mkF m 217 #[.val (.int p1), .val (.long p2), .second, .val (.int p3), .val (.int c0), .val (.int c1), .val (.int ln), .val (.ref x), .val (.ref q), .val (.int (Int32.ofNat (List.length (([(4 : Int32), (0 : Int32), (0 : Int32)] : List Int32) ++ own_encs cl)))), .unset, .unset, .unset, .unset, .unset, .unset] [(.int ((p2.toInt32) >>> ((16 : Int32) &&& 31)).toInt8.toInt32), (.int ((Int32.ofNat (List.length (([(4 : Int32), (0 : Int32), (0 : Int32)] : List Int32) ++ own_encs cl))) + (5 : Int32))), (.ref q)])) rfl rfl (hb hby at_217)
  have V'320 : Arv Z h320 q kq .byte (17 : Int32) (List.map Value.int ((((((([(4 : Int32), ((Int32.ofNat (List.length (own_encs cl))) >>> ((8 : Int32) &&& 31)).toInt8.toInt32, (Int32.ofNat (List.length (own_encs cl))).toInt8.toInt32] ++ own_encs cl) ++ [(((p2 >>> ((32 : Int32) &&& 0x3f).toInt64).toInt32) >>> ((24 : Int32) &&& 31)).toInt8.toInt32]) ++ [(((p2 >>> ((32 : Int32) &&& 0x3f).toInt64).toInt32) >>> ((16 : Int32) &&& 31)).toInt8.toInt32]) ++ [(((p2 >>> ((32 : Int32) &&& 0x3f).toInt64).toInt32) >>> ((8 : Int32) &&& 31)).toInt8.toInt32]) ++ [((p2 >>> ((32 : Int32) &&& 0x3f).toInt64).toInt32).toInt8.toInt32]) ++ [((p2.toInt32) >>> ((24 : Int32) &&& 31)).toInt8.toInt32]) ++ [((p2.toInt32) >>> ((16 : Int32) &&& 31)).toInt8.toInt32])) (.int (0 : Int32)) := own_push V_q W320 ix320 (Nat.lt_trans lt320 (by decide)) (own_nb _)
  have SS := SS.wr W320 ne_x_q ne_t_q
  have O_ := O_.wr W320 g_q
  have sf_ := sf_q
  have CR0 := CR.1
  have CR := CR.trans (CHr.wr W320 sf_ CR.1)
  have sf_q := Safe.wr W320 sf_ CR0 sf_q
  have hk_ := Nat.le_trans hk_ (Nat.le_of_eq W320.size.symm)
  have N320 := Fr.snoc X320 N319 g_q
  have Z_ : n0 ≤ h320.size := by rw [W320.size]; exact Z_
  have V_q := V'320
  refine .st st320 ?_
  show OwnGoW p e below s Z own_EL _ _ _ T320 (mkF m 218 _ [])
  refine .aload X320 hx (hb hby at_218) rfl rfl ?_
  refine .iload X320 hx (hb hby at_220) rfl ?_
  refine .bipush X320 hx (hb hby at_222) own_kb6 ?_
  refine .st (fun _ => XS.iadd X320.here hx rfl (hb hby at_224) rfl) ?_
  show OwnGoW p e below s Z own_EL _ _ _ T320 (mkF m 225 _ [(.int ((Int32.ofNat (List.length (([(4 : Int32), (0 : Int32), (0 : Int32)] : List Int32) ++ own_encs cl))) + (6 : Int32))), (.ref q)])
  refine .st (fun _ => XS.lloadN X320.here hx rfl (hb hby at_225) rfl) ?_
  show OwnGoW p e below s Z own_EL _ _ _ T320 (mkF m 226 _ [(.long p2), (.int ((Int32.ofNat (List.length (([(4 : Int32), (0 : Int32), (0 : Int32)] : List Int32) ++ own_encs cl))) + (6 : Int32))), (.ref q)])
  refine .bipush X320 hx (hb hby at_226) own_kb8 ?_
  refine .st (fun _ => XS.lshr X320.here hx rfl (hb hby at_228) rfl) ?_
  show OwnGoW p e below s Z own_EL _ _ _ T320 (mkF m 229 _ [(.long (p2 >>> ((8 : Int32) &&& 0x3f).toInt64)), (.int ((Int32.ofNat (List.length (([(4 : Int32), (0 : Int32), (0 : Int32)] : List Int32) ++ own_encs cl))) + (6 : Int32))), (.ref q)])
  refine .st (fun _ => XS.l2i X320.here hx rfl (hb hby at_229) rfl) ?_
  show OwnGoW p e below s Z own_EL _ _ _ T320 (mkF m 230 _ [(.int ((p2 >>> ((8 : Int32) &&& 0x3f).toInt64).toInt32)), (.int ((Int32.ofNat (List.length (([(4 : Int32), (0 : Int32), (0 : Int32)] : List Int32) ++ own_encs cl))) + (6 : Int32))), (.ref q)])
  refine .st (fun _ => XS.i2b X320.here hx rfl (hb hby at_230) rfl) ?_
  show OwnGoW p e below s Z own_EL _ _ _ T320 (mkF m 231 _ [(.int (((p2 >>> ((8 : Int32) &&& 0x3f).toInt64).toInt32).toInt8.toInt32)), (.int ((Int32.ofNat (List.length (([(4 : Int32), (0 : Int32), (0 : Int32)] : List Int32) ++ own_encs cl))) + (6 : Int32))), (.ref q)])
  rw [own_w8 p2]
  show OwnGoW p e below s Z own_EL _ _ _ T320 (mkF m 231 _ [(.int ((p2.toInt32) >>> ((8 : Int32) &&& 31)).toInt8.toInt32), (.int ((Int32.ofNat (List.length (([(4 : Int32), (0 : Int32), (0 : Int32)] : List Int32) ++ own_encs cl))) + (6 : Int32))), (.ref q)])
  obtain ⟨cl321, Ar321, -, S321, -, -, -⟩ := id V_q
  have lt321 : List.length ((((((([(4 : Int32), ((Int32.ofNat (List.length (own_encs cl))) >>> ((8 : Int32) &&& 31)).toInt8.toInt32, (Int32.ofNat (List.length (own_encs cl))).toInt8.toInt32] ++ own_encs cl) ++ [(((p2 >>> ((32 : Int32) &&& 0x3f).toInt64).toInt32) >>> ((24 : Int32) &&& 31)).toInt8.toInt32]) ++ [(((p2 >>> ((32 : Int32) &&& 0x3f).toInt64).toInt32) >>> ((16 : Int32) &&& 31)).toInt8.toInt32]) ++ [(((p2 >>> ((32 : Int32) &&& 0x3f).toInt64).toInt32) >>> ((8 : Int32) &&& 31)).toInt8.toInt32]) ++ [((p2 >>> ((32 : Int32) &&& 0x3f).toInt64).toInt32).toInt8.toInt32]) ++ [((p2.toInt32) >>> ((24 : Int32) &&& 31)).toInt8.toInt32]) ++ [((p2.toInt32) >>> ((16 : Int32) &&& 31)).toInt8.toInt32]) < 17 := (by simp only [List.length_append, List.length_cons, List.length_nil] <;> omega)
  have ix321 : ((Int32.ofNat (List.length (([(4 : Int32), (0 : Int32), (0 : Int32)] : List Int32) ++ own_encs cl))) + (6 : Int32)) = (Int32.ofNat (List.length ((((((([(4 : Int32), ((Int32.ofNat (List.length (own_encs cl))) >>> ((8 : Int32) &&& 31)).toInt8.toInt32, (Int32.ofNat (List.length (own_encs cl))).toInt8.toInt32] ++ own_encs cl) ++ [(((p2 >>> ((32 : Int32) &&& 0x3f).toInt64).toInt32) >>> ((24 : Int32) &&& 31)).toInt8.toInt32]) ++ [(((p2 >>> ((32 : Int32) &&& 0x3f).toInt64).toInt32) >>> ((16 : Int32) &&& 31)).toInt8.toInt32]) ++ [(((p2 >>> ((32 : Int32) &&& 0x3f).toInt64).toInt32) >>> ((8 : Int32) &&& 31)).toInt8.toInt32]) ++ [((p2 >>> ((32 : Int32) &&& 0x3f).toInt64).toInt32).toInt8.toInt32]) ++ [((p2.toInt32) >>> ((24 : Int32) &&& 31)).toInt8.toInt32]) ++ [((p2.toInt32) >>> ((16 : Int32) &&& 31)).toInt8.toInt32]))) := (own_ixn (i := 6) (by simp only [List.length_append, List.length_cons, List.length_nil] <;> omega))
  obtain ⟨T321, h321, X321, e321, W321, st321⟩ := stB X320 hx hZ e320 Ar321 (j := ((Int32.ofNat (List.length (([(4 : Int32), (0 : Int32), (0 : Int32)] : List Int32) ++ own_encs cl))) + (6 : Int32))) (inb_of S321 (own_inb ix321 lt321 (by decide))) (g := (mkF m 231 #[.val (.int p1), .val (.long p2), .second, .val (.int p3), .val (.int c0), .val (.int c1), .val (.int ln), .val (.ref x), .val (.ref q), .val (.int (Int32.ofNat (List.length (([(4 : Int32), (0 : Int32), (0 : Int32)] : List Int32) ++ own_encs cl)))), .unset, .unset, .unset, .unset, .unset, .unset] [(.int ((p2.toInt32) >>> ((8 : Int32) &&& 31)).toInt8.toInt32), (.int ((Int32.ofNat (List.length (([(4 : Int32), (0 : Int32), (0 : Int32)] : List Int32) ++ own_encs cl))) + (6 : Int32))), (.ref q)])) rfl rfl (hb hby at_231)
  have V'321 : Arv Z h321 q kq .byte (17 : Int32) (List.map Value.int (((((((([(4 : Int32), ((Int32.ofNat (List.length (own_encs cl))) >>> ((8 : Int32) &&& 31)).toInt8.toInt32, (Int32.ofNat (List.length (own_encs cl))).toInt8.toInt32] ++ own_encs cl) ++ [(((p2 >>> ((32 : Int32) &&& 0x3f).toInt64).toInt32) >>> ((24 : Int32) &&& 31)).toInt8.toInt32]) ++ [(((p2 >>> ((32 : Int32) &&& 0x3f).toInt64).toInt32) >>> ((16 : Int32) &&& 31)).toInt8.toInt32]) ++ [(((p2 >>> ((32 : Int32) &&& 0x3f).toInt64).toInt32) >>> ((8 : Int32) &&& 31)).toInt8.toInt32]) ++ [((p2 >>> ((32 : Int32) &&& 0x3f).toInt64).toInt32).toInt8.toInt32]) ++ [((p2.toInt32) >>> ((24 : Int32) &&& 31)).toInt8.toInt32]) ++ [((p2.toInt32) >>> ((16 : Int32) &&& 31)).toInt8.toInt32]) ++ [((p2.toInt32) >>> ((8 : Int32) &&& 31)).toInt8.toInt32])) (.int (0 : Int32)) := own_push V_q W321 ix321 (Nat.lt_trans lt321 (by decide)) (own_nb _)
  have SS := SS.wr W321 ne_x_q ne_t_q
  have O_ := O_.wr W321 g_q
  have sf_ := sf_q
  have CR0 := CR.1
  have CR := CR.trans (CHr.wr W321 sf_ CR.1)
  have sf_q := Safe.wr W321 sf_ CR0 sf_q
  have hk_ := Nat.le_trans hk_ (Nat.le_of_eq W321.size.symm)
  have N321 := Fr.snoc X321 N320 g_q
  have Z_ : n0 ≤ h321.size := by rw [W321.size]; exact Z_
  have V_q := V'321
  refine .st st321 ?_
  show OwnGoW p e below s Z own_EL _ _ _ T321 (mkF m 232 _ [])
  refine .aload X321 hx (hb hby at_232) rfl rfl ?_
  refine .iload X321 hx (hb hby at_234) rfl ?_
  refine .bipush X321 hx (hb hby at_236) own_kb7 ?_
  refine .st (fun _ => XS.iadd X321.here hx rfl (hb hby at_238) rfl) ?_
  show OwnGoW p e below s Z own_EL _ _ _ T321 (mkF m 239 _ [(.int ((Int32.ofNat (List.length (([(4 : Int32), (0 : Int32), (0 : Int32)] : List Int32) ++ own_encs cl))) + (7 : Int32))), (.ref q)])
  refine .st (fun _ => XS.lloadN X321.here hx rfl (hb hby at_239) rfl) ?_
  show OwnGoW p e below s Z own_EL _ _ _ T321 (mkF m 240 _ [(.long p2), (.int ((Int32.ofNat (List.length (([(4 : Int32), (0 : Int32), (0 : Int32)] : List Int32) ++ own_encs cl))) + (7 : Int32))), (.ref q)])
  refine .st (fun _ => XS.l2i X321.here hx rfl (hb hby at_240) rfl) ?_
  show OwnGoW p e below s Z own_EL _ _ _ T321 (mkF m 241 _ [(.int (p2.toInt32)), (.int ((Int32.ofNat (List.length (([(4 : Int32), (0 : Int32), (0 : Int32)] : List Int32) ++ own_encs cl))) + (7 : Int32))), (.ref q)])
  refine .st (fun _ => XS.i2b X321.here hx rfl (hb hby at_241) rfl) ?_
  show OwnGoW p e below s Z own_EL _ _ _ T321 (mkF m 242 _ [(.int ((p2.toInt32).toInt8.toInt32)), (.int ((Int32.ofNat (List.length (([(4 : Int32), (0 : Int32), (0 : Int32)] : List Int32) ++ own_encs cl))) + (7 : Int32))), (.ref q)])
  show OwnGoW p e below s Z own_EL _ _ _ T321 (mkF m 242 _ [(.int (p2.toInt32).toInt8.toInt32), (.int ((Int32.ofNat (List.length (([(4 : Int32), (0 : Int32), (0 : Int32)] : List Int32) ++ own_encs cl))) + (7 : Int32))), (.ref q)])
  obtain ⟨cl322, Ar322, -, S322, -, -, -⟩ := id V_q
  have lt322 : List.length (((((((([(4 : Int32), ((Int32.ofNat (List.length (own_encs cl))) >>> ((8 : Int32) &&& 31)).toInt8.toInt32, (Int32.ofNat (List.length (own_encs cl))).toInt8.toInt32] ++ own_encs cl) ++ [(((p2 >>> ((32 : Int32) &&& 0x3f).toInt64).toInt32) >>> ((24 : Int32) &&& 31)).toInt8.toInt32]) ++ [(((p2 >>> ((32 : Int32) &&& 0x3f).toInt64).toInt32) >>> ((16 : Int32) &&& 31)).toInt8.toInt32]) ++ [(((p2 >>> ((32 : Int32) &&& 0x3f).toInt64).toInt32) >>> ((8 : Int32) &&& 31)).toInt8.toInt32]) ++ [((p2 >>> ((32 : Int32) &&& 0x3f).toInt64).toInt32).toInt8.toInt32]) ++ [((p2.toInt32) >>> ((24 : Int32) &&& 31)).toInt8.toInt32]) ++ [((p2.toInt32) >>> ((16 : Int32) &&& 31)).toInt8.toInt32]) ++ [((p2.toInt32) >>> ((8 : Int32) &&& 31)).toInt8.toInt32]) < 17 := (by simp only [List.length_append, List.length_cons, List.length_nil] <;> omega)
  have ix322 : ((Int32.ofNat (List.length (([(4 : Int32), (0 : Int32), (0 : Int32)] : List Int32) ++ own_encs cl))) + (7 : Int32)) = (Int32.ofNat (List.length (((((((([(4 : Int32), ((Int32.ofNat (List.length (own_encs cl))) >>> ((8 : Int32) &&& 31)).toInt8.toInt32, (Int32.ofNat (List.length (own_encs cl))).toInt8.toInt32] ++ own_encs cl) ++ [(((p2 >>> ((32 : Int32) &&& 0x3f).toInt64).toInt32) >>> ((24 : Int32) &&& 31)).toInt8.toInt32]) ++ [(((p2 >>> ((32 : Int32) &&& 0x3f).toInt64).toInt32) >>> ((16 : Int32) &&& 31)).toInt8.toInt32]) ++ [(((p2 >>> ((32 : Int32) &&& 0x3f).toInt64).toInt32) >>> ((8 : Int32) &&& 31)).toInt8.toInt32]) ++ [((p2 >>> ((32 : Int32) &&& 0x3f).toInt64).toInt32).toInt8.toInt32]) ++ [((p2.toInt32) >>> ((24 : Int32) &&& 31)).toInt8.toInt32]) ++ [((p2.toInt32) >>> ((16 : Int32) &&& 31)).toInt8.toInt32]) ++ [((p2.toInt32) >>> ((8 : Int32) &&& 31)).toInt8.toInt32]))) := (own_ixn (i := 7) (by simp only [List.length_append, List.length_cons, List.length_nil] <;> omega))
  obtain ⟨T322, h322, X322, e322, W322, st322⟩ := stB X321 hx hZ e321 Ar322 (j := ((Int32.ofNat (List.length (([(4 : Int32), (0 : Int32), (0 : Int32)] : List Int32) ++ own_encs cl))) + (7 : Int32))) (inb_of S322 (own_inb ix322 lt322 (by decide))) (g := (mkF m 242 #[.val (.int p1), .val (.long p2), .second, .val (.int p3), .val (.int c0), .val (.int c1), .val (.int ln), .val (.ref x), .val (.ref q), .val (.int (Int32.ofNat (List.length (([(4 : Int32), (0 : Int32), (0 : Int32)] : List Int32) ++ own_encs cl)))), .unset, .unset, .unset, .unset, .unset, .unset] [(.int (p2.toInt32).toInt8.toInt32), (.int ((Int32.ofNat (List.length (([(4 : Int32), (0 : Int32), (0 : Int32)] : List Int32) ++ own_encs cl))) + (7 : Int32))), (.ref q)])) rfl rfl (hb hby at_242)
  have V'322 : Arv Z h322 q kq .byte (17 : Int32) (List.map Value.int ((((((((([(4 : Int32), ((Int32.ofNat (List.length (own_encs cl))) >>> ((8 : Int32) &&& 31)).toInt8.toInt32, (Int32.ofNat (List.length (own_encs cl))).toInt8.toInt32] ++ own_encs cl) ++ [(((p2 >>> ((32 : Int32) &&& 0x3f).toInt64).toInt32) >>> ((24 : Int32) &&& 31)).toInt8.toInt32]) ++ [(((p2 >>> ((32 : Int32) &&& 0x3f).toInt64).toInt32) >>> ((16 : Int32) &&& 31)).toInt8.toInt32]) ++ [(((p2 >>> ((32 : Int32) &&& 0x3f).toInt64).toInt32) >>> ((8 : Int32) &&& 31)).toInt8.toInt32]) ++ [((p2 >>> ((32 : Int32) &&& 0x3f).toInt64).toInt32).toInt8.toInt32]) ++ [((p2.toInt32) >>> ((24 : Int32) &&& 31)).toInt8.toInt32]) ++ [((p2.toInt32) >>> ((16 : Int32) &&& 31)).toInt8.toInt32]) ++ [((p2.toInt32) >>> ((8 : Int32) &&& 31)).toInt8.toInt32]) ++ [(p2.toInt32).toInt8.toInt32])) (.int (0 : Int32)) := own_push V_q W322 ix322 (Nat.lt_trans lt322 (by decide)) (own_nb _)
  have SS := SS.wr W322 ne_x_q ne_t_q
  have O_ := O_.wr W322 g_q
  have sf_ := sf_q
  have CR0 := CR.1
  have CR := CR.trans (CHr.wr W322 sf_ CR.1)
  have sf_q := Safe.wr W322 sf_ CR0 sf_q
  have hk_ := Nat.le_trans hk_ (Nat.le_of_eq W322.size.symm)
  have N322 := Fr.snoc X322 N321 g_q
  have Z_ : n0 ≤ h322.size := by rw [W322.size]; exact Z_
  have V_q := V'322
  refine .st st322 ?_
  show OwnGoW p e below s Z own_EL _ _ _ T322 (mkF m 243 _ [])
  refine .iload X322 hx (hb hby at_243) rfl ?_
  refine .bipush X322 hx (hb hby at_245) own_kb8 ?_
  refine .st (fun _ => XS.iadd X322.here hx rfl (hb hby at_247) rfl) ?_
  show OwnGoW p e below s Z own_EL _ _ _ T322 (mkF m 248 _ [(.int ((Int32.ofNat (List.length (([(4 : Int32), (0 : Int32), (0 : Int32)] : List Int32) ++ own_encs cl))) + (8 : Int32)))])
  have eR : ((Int32.ofNat (List.length (([(4 : Int32), (0 : Int32), (0 : Int32)] : List Int32) ++ own_encs cl))) + (8 : Int32)) = (Int32.ofNat (List.length ([(4 : Int32), ((Int32.ofNat (List.length (own_encs cl))) >>> ((8 : Int32) &&& 31)).toInt8.toInt32, (Int32.ofNat (List.length (own_encs cl))).toInt8.toInt32] ++ (own_encs cl ++ [(((p2 >>> ((32 : Int32) &&& 0x3f).toInt64).toInt32) >>> ((24 : Int32) &&& 31)).toInt8.toInt32, (((p2 >>> ((32 : Int32) &&& 0x3f).toInt64).toInt32) >>> ((16 : Int32) &&& 31)).toInt8.toInt32, (((p2 >>> ((32 : Int32) &&& 0x3f).toInt64).toInt32) >>> ((8 : Int32) &&& 31)).toInt8.toInt32, ((p2 >>> ((32 : Int32) &&& 0x3f).toInt64).toInt32).toInt8.toInt32, ((p2.toInt32) >>> ((24 : Int32) &&& 31)).toInt8.toInt32, ((p2.toInt32) >>> ((16 : Int32) &&& 31)).toInt8.toInt32, ((p2.toInt32) >>> ((8 : Int32) &&& 31)).toInt8.toInt32, (p2.toInt32).toInt8.toInt32])))) := own_ixn (i := 8) (by simp only [List.length_append, List.length_cons, List.length_nil] <;> omega)
  rw [eR]
  show OwnGoW p e below s Z own_EL _ _ _ T322 (mkF m 248 _ [(.int (Int32.ofNat (List.length ([(4 : Int32), ((Int32.ofNat (List.length (own_encs cl))) >>> ((8 : Int32) &&& 31)).toInt8.toInt32, (Int32.ofNat (List.length (own_encs cl))).toInt8.toInt32] ++ (own_encs cl ++ [(((p2 >>> ((32 : Int32) &&& 0x3f).toInt64).toInt32) >>> ((24 : Int32) &&& 31)).toInt8.toInt32, (((p2 >>> ((32 : Int32) &&& 0x3f).toInt64).toInt32) >>> ((16 : Int32) &&& 31)).toInt8.toInt32, (((p2 >>> ((32 : Int32) &&& 0x3f).toInt64).toInt32) >>> ((8 : Int32) &&& 31)).toInt8.toInt32, ((p2 >>> ((32 : Int32) &&& 0x3f).toInt64).toInt32).toInt8.toInt32, ((p2.toInt32) >>> ((24 : Int32) &&& 31)).toInt8.toInt32, ((p2.toInt32) >>> ((16 : Int32) &&& 31)).toInt8.toInt32, ((p2.toInt32) >>> ((8 : Int32) &&& 31)).toInt8.toInt32, (p2.toInt32).toInt8.toInt32])))))])
  have V_q : Arv Z h322 q kq .byte (17 : Int32) (List.map Value.int ([(4 : Int32), ((Int32.ofNat (List.length (own_encs cl))) >>> ((8 : Int32) &&& 31)).toInt8.toInt32, (Int32.ofNat (List.length (own_encs cl))).toInt8.toInt32] ++ (own_encs cl ++ [(((p2 >>> ((32 : Int32) &&& 0x3f).toInt64).toInt32) >>> ((24 : Int32) &&& 31)).toInt8.toInt32, (((p2 >>> ((32 : Int32) &&& 0x3f).toInt64).toInt32) >>> ((16 : Int32) &&& 31)).toInt8.toInt32, (((p2 >>> ((32 : Int32) &&& 0x3f).toInt64).toInt32) >>> ((8 : Int32) &&& 31)).toInt8.toInt32, ((p2 >>> ((32 : Int32) &&& 0x3f).toInt64).toInt32).toInt8.toInt32, ((p2.toInt32) >>> ((24 : Int32) &&& 31)).toInt8.toInt32, ((p2.toInt32) >>> ((16 : Int32) &&& 31)).toInt8.toInt32, ((p2.toInt32) >>> ((8 : Int32) &&& 31)).toInt8.toInt32, (p2.toInt32).toInt8.toInt32]))) (.int (0 : Int32)) := by simp only [List.append_assoc, List.cons_append, List.nil_append] at V_q ⊢; exact V_q
  have lR : List.length ([(4 : Int32), ((Int32.ofNat (List.length (own_encs cl))) >>> ((8 : Int32) &&& 31)).toInt8.toInt32, (Int32.ofNat (List.length (own_encs cl))).toInt8.toInt32] ++ (own_encs cl ++ [(((p2 >>> ((32 : Int32) &&& 0x3f).toInt64).toInt32) >>> ((24 : Int32) &&& 31)).toInt8.toInt32, (((p2 >>> ((32 : Int32) &&& 0x3f).toInt64).toInt32) >>> ((16 : Int32) &&& 31)).toInt8.toInt32, (((p2 >>> ((32 : Int32) &&& 0x3f).toInt64).toInt32) >>> ((8 : Int32) &&& 31)).toInt8.toInt32, ((p2 >>> ((32 : Int32) &&& 0x3f).toInt64).toInt32).toInt8.toInt32, ((p2.toInt32) >>> ((24 : Int32) &&& 31)).toInt8.toInt32, ((p2.toInt32) >>> ((16 : Int32) &&& 31)).toInt8.toInt32, ((p2.toInt32) >>> ((8 : Int32) &&& 31)).toInt8.toInt32, (p2.toInt32).toInt8.toInt32])) ≤ 17 := by simp only [List.length_append, List.length_cons, List.length_nil] <;> omega
  obtain ⟨rl, hrl⟩ : ∃ z : List Int32, z = ([(4 : Int32), ((Int32.ofNat (List.length (own_encs cl))) >>> ((8 : Int32) &&& 31)).toInt8.toInt32, (Int32.ofNat (List.length (own_encs cl))).toInt8.toInt32] ++ (own_encs cl ++ [(((p2 >>> ((32 : Int32) &&& 0x3f).toInt64).toInt32) >>> ((24 : Int32) &&& 31)).toInt8.toInt32, (((p2 >>> ((32 : Int32) &&& 0x3f).toInt64).toInt32) >>> ((16 : Int32) &&& 31)).toInt8.toInt32, (((p2 >>> ((32 : Int32) &&& 0x3f).toInt64).toInt32) >>> ((8 : Int32) &&& 31)).toInt8.toInt32, ((p2 >>> ((32 : Int32) &&& 0x3f).toInt64).toInt32).toInt8.toInt32, ((p2.toInt32) >>> ((24 : Int32) &&& 31)).toInt8.toInt32, ((p2.toInt32) >>> ((16 : Int32) &&& 31)).toInt8.toInt32, ((p2.toInt32) >>> ((8 : Int32) &&& 31)).toInt8.toInt32, (p2.toInt32).toInt8.toInt32])) := ⟨_, rfl⟩
  rw [← hrl] at V_q lR
  rw [← hrl]
  show OwnGoW p e below s Z own_EL _ _ _ T322 (mkF m 248 _ [(.int (Int32.ofNat (List.length rl)))])
  refine .istore X322 hx (hb hby at_248) (L' := #[.val (.int p1), .val (.long p2), .second, .val (.int p3), .val (.int c0), .val (.int c1), .val (.int ln), .val (.ref x), .val (.ref q), .val (.int (Int32.ofNat (List.length (([(4 : Int32), (0 : Int32), (0 : Int32)] : List Int32) ++ own_encs cl)))), .val (.int (Int32.ofNat (List.length rl))), .unset, .unset, .unset, .unset, .unset]) rfl ?_
  obtain ⟨T323, h323, X323, e323, E323, A323, D323, -, st323⟩ := newO X322 hx hZ hown (W_ hw 35 rfl) (W_ hw 36 rfl) (W_ hw 37 rfl) e322 (g := (mkF m 250 #[.val (.int p1), .val (.long p2), .second, .val (.int p3), .val (.int c0), .val (.int c1), .val (.int ln), .val (.ref x), .val (.ref q), .val (.int (Int32.ofNat (List.length (([(4 : Int32), (0 : Int32), (0 : Int32)] : List Int32) ++ own_encs cl)))), .val (.int (Int32.ofNat (List.length rl))), .unset, .unset, .unset, .unset, .unset] [])) rfl (hb hby at_250) (by decide) (by decide)
  obtain ⟨b323, g323⟩ : ∃ z, z = h322.size := ⟨_, rfl⟩
  rw [← g323] at A323 D323 st323
  have ne_q_b323 : q ≠ b323 := Nat.ne_of_lt (Nat.lt_of_lt_of_le V_q.lt (Nat.le_of_eq g323.symm))
  have ne_x_b323 : x ≠ b323 := Nat.ne_of_lt (Nat.lt_of_lt_of_le SS.ltx (Nat.le_of_eq g323.symm))
  have ne_t_b323 : t ≠ b323 := Nat.ne_of_lt (Nat.lt_of_lt_of_le SS.ltt (Nat.le_of_eq g323.symm))
  have g_b323 : n0 ≤ b323 := Nat.le_trans Z_ (Nat.le_of_eq g323.symm)
  have sf_b323 : Safe Z own_EL vm1 h322 b323 := Safe.new (Nat.le_of_eq g323.symm)
  have SS := SS.ext E323
  have V_q := V_q.ext E323
  have O_ := O_.ext E323
  have sf_q := Safe.ext E323 CR.1 sf_q
  have sf_b323 := Safe.ext E323 CR.1 sf_b323
  have CR := CR.trans (CHr.ext E323 CR.1)
  have hk_ := Nat.le_trans hk_ E323.1
  have Z_ : n0 ≤ h323.size := Nat.le_trans Z_ E323.1
  have E_b323 := A323
  have F_name_b323 : Fld Z h323 b323 "com/example/cofferhand/cofferhand/nbt/NamedTag" "name" "Ljava/lang/String;" .null := D323 (Or.inr (W_ hw 83 rfl)) (ty := (.object "java/lang/String")) (by decide)
  have F_tag_b323 : Fld Z h323 b323 "com/example/cofferhand/cofferhand/nbt/NamedTag" "tag" "Lcom/example/cofferhand/cofferhand/nbt/Tag;" .null := D323 (Or.inr (W_ hw 85 rfl)) (ty := (.object "com/example/cofferhand/cofferhand/nbt/Tag")) (by decide)
  refine .st st323 ?_
  show OwnGoW p e below s Z own_EL _ _ _ T323 (mkF m 253 _ [(.ref b323)])
  refine .dup X323 hx (hb hby at_253) rfl ?_
  refine .aload X323 hx (hb hby at_254) rfl rfl ?_
  obtain ⟨T324, h324, X324, e324, E324, A324, D324, -, st324⟩ := newO X323 hx hZ hown (W_ hw 38 rfl) (W_ hw 39 rfl) (W_ hw 40 rfl) e323 (g := (mkF m 256 #[.val (.int p1), .val (.long p2), .second, .val (.int p3), .val (.int c0), .val (.int c1), .val (.int ln), .val (.ref x), .val (.ref q), .val (.int (Int32.ofNat (List.length (([(4 : Int32), (0 : Int32), (0 : Int32)] : List Int32) ++ own_encs cl)))), .val (.int (Int32.ofNat (List.length rl))), .unset, .unset, .unset, .unset, .unset] [(.ref x), (.ref b323), (.ref b323)])) rfl (hb hby at_256) (by decide) (by decide)
  obtain ⟨b324, g324⟩ : ∃ z, z = h323.size := ⟨_, rfl⟩
  rw [← g324] at A324 D324 st324
  have ne_q_b324 : q ≠ b324 := Nat.ne_of_lt (Nat.lt_of_lt_of_le V_q.lt (Nat.le_of_eq g324.symm))
  have ne_b323_b324 : b323 ≠ b324 := Nat.ne_of_lt (Nat.lt_of_lt_of_le E_b323.lt (Nat.le_of_eq g324.symm))
  have ne_x_b324 : x ≠ b324 := Nat.ne_of_lt (Nat.lt_of_lt_of_le SS.ltx (Nat.le_of_eq g324.symm))
  have ne_t_b324 : t ≠ b324 := Nat.ne_of_lt (Nat.lt_of_lt_of_le SS.ltt (Nat.le_of_eq g324.symm))
  have g_b324 : n0 ≤ b324 := Nat.le_trans Z_ (Nat.le_of_eq g324.symm)
  have sf_b324 : Safe Z own_EL vm1 h323 b324 := Safe.new (Nat.le_of_eq g324.symm)
  have SS := SS.ext E324
  have V_q := V_q.ext E324
  have E_b323 := E_b323.ext E324
  have F_name_b323 := F_name_b323.ext E324
  have F_tag_b323 := F_tag_b323.ext E324
  have O_ := O_.ext E324
  have sf_q := Safe.ext E324 CR.1 sf_q
  have sf_b323 := Safe.ext E324 CR.1 sf_b323
  have sf_b324 := Safe.ext E324 CR.1 sf_b324
  have CR := CR.trans (CHr.ext E324 CR.1)
  have hk_ := Nat.le_trans hk_ E324.1
  have Z_ : n0 ≤ h324.size := Nat.le_trans Z_ E324.1
  have E_b324 := A324
  have F_value_b324 : Fld Z h324 b324 "com/example/cofferhand/cofferhand/nbt/LongTag" "value" "J" (.long (0 : Int64)) := D324 (Or.inr (W_ hw 51 rfl)) (ty := .long) (by decide)
  refine .st st324 ?_
  show OwnGoW p e below s Z own_EL _ _ _ T324 (mkF m 259 _ [(.ref b324), (.ref x), (.ref b323), (.ref b323)])
  refine .dup X324 hx (hb hby at_259) rfl ?_
  refine .st (fun _ => XS.lloadN X324.here hx rfl (hb hby at_260) rfl) ?_
  show OwnGoW p e below s Z own_EL _ _ _ T324 (mkF m 261 _ [(.long p2), (.ref b324), (.ref b324), (.ref x), (.ref b323), (.ref b323)])
  obtain ⟨_, _, ⟨T325, L325, k325, n325⟩, -, X325, ⟨Lc325, hQ325, l325, y325, z325⟩, st325⟩ := X324.specialBack hx (y := (⟨"com/example/cofferhand/cofferhand/nbt/LongTag", "<init>", "(J)V"⟩ : MethodName)) rfl hown (mvT hZ (W_ hw 41 rfl)) (mvT hZ (W_ hw 42 rfl)) (mvT hZ (W_ hw 43 rfl)) (by decide) (backOf (W := 4) (rmltI l Z a0 hw [] b324 p2 h324 n0 Z_ E_b324 F_value_b324 g_b324) hZ (W_ hw 43 rfl) (W_ hw 40 rfl) (by decide) (by decide)) (g := (mkF m 261 #[.val (.int p1), .val (.long p2), .second, .val (.int p3), .val (.int c0), .val (.int c1), .val (.int ln), .val (.ref x), .val (.ref q), .val (.int (Int32.ofNat (List.length (([(4 : Int32), (0 : Int32), (0 : Int32)] : List Int32) ++ own_encs cl)))), .val (.int (Int32.ofNat (List.length rl))), .unset, .unset, .unset, .unset, .unset] [(.long p2), (.ref b324), (.ref b324), (.ref x), (.ref b323), (.ref b323)])) rfl (by rw [hml]; rfl) (Steps.refl _) (a := b324) (argsL := [(.long p2)]) (rest := [(.ref b324), (.ref x), (.ref b323), (.ref b323)]) (lenOf pd_25 rfl) rfl (Nat.le_of_eq rfl) (hb hby at_261) (fun _ _ => ⟨rfl, e324, (by decide : 10 + 0 ≤ _), (by decide : 67 + 0 ≤ _)⟩)
  dsimp only [Pt.U, Pt.locs, Pt.cells, Pt.slots] at X325 l325 y325 z325 st325 hQ325
  subst y325 z325
  obtain ⟨rfl, N325q, K325, F325⟩ := hQ325
  have N325 := own_frl l325 N322 N325q
  have Z_ : n0 ≤ T325.heap.size := Nat.le_trans Z_ K325.1
  have SS := SS.keep K325 (ninS ne_x_b324 nin0) (ninS ne_t_b324 nin0)
  have V_q := V_q.keep K325 (ninS ne_q_b324 nin0)
  have E_b323 := E_b323.keep K325
  have F_name_b323 := F_name_b323.keep K325 (ninS ne_b323_b324 nin0)
  have F_tag_b323 := F_tag_b323.keep K325 (ninS ne_b323_b324 nin0)
  have E_b324 := E_b324.keep K325
  have O_ := O_.keep K325 (allS g_b324 all0)
  have sf_q' := Safe.keep K325 (sfS sf_b324 sf0) CR.1 sf_q
  have sf_b323' := Safe.keep K325 (sfS sf_b324 sf0) CR.1 sf_b323
  have sf_b324' := Safe.keep K325 (sfS sf_b324 sf0) CR.1 sf_b324
  have CR := CR.trans (CHr.keep K325 (sfS sf_b324 sf0) CR.1)
  have hk_ := Nat.le_trans hk_ K325.1
  have sf_q := sf_q'
  have sf_b323 := sf_b323'
  have sf_b324 := sf_b324'
  refine .st (fun _ => st325.trans) ?_
  show OwnGoW p e below s Z own_EL _ _ _ T325 (mkF m 264 _ [(.ref b324), (.ref x), (.ref b323), (.ref b323)])
  obtain ⟨_, _, ⟨T326, L326, k326, n326⟩, -, X326, hS326, hg326, ⟨Lc326, hQ326, l326, y326, z326, CN326⟩, st326⟩ := Stand.specialBackS (s := s.setVm vm1) X325 hx (y := (⟨"com/example/cofferhand/cofferhand/nbt/NamedTag", "<init>", "(Ljava/lang/String;Lcom/example/cofferhand/cofferhand/nbt/Tag;)V"⟩ : MethodName)) rfl hown (mvT hZ (W_ hw 52 rfl)) (mvT hZ (W_ hw 53 rfl)) (mvT hZ (W_ hw 54 rfl)) (by decide) (backOfSH (s := s) (vm0 := vm1) (W := 1) (rmntI l Z a0 hw [] b323 b324 x t kb cl zc T325.heap n0 Z_ O_ S_CS P_CS E_b323 F_name_b323 F_tag_b323 g_b323 SS hcl ne_x_b323 ne_t_b323) hZ (W_ hw 54 rfl) (W_ hw 37 rfl) (by decide) (by decide) (own_hEL hw) CR.1) (g := (mkF m 264 #[.val (.int p1), .val (.long p2), .second, .val (.int p3), .val (.int c0), .val (.int c1), .val (.int ln), .val (.ref x), .val (.ref q), .val (.int (Int32.ofNat (List.length (([(4 : Int32), (0 : Int32), (0 : Int32)] : List Int32) ++ own_encs cl)))), .val (.int (Int32.ofNat (List.length rl))), .unset, .unset, .unset, .unset, .unset] [(.ref b324), (.ref x), (.ref b323), (.ref b323)])) rfl (by rw [hml]; rfl) (Steps.refl _) (a := b323) (argsL := [(.ref x), (.ref b324)]) (rest := [(.ref b323)]) (lenOf pd_38 rfl) rfl (Nat.le_of_eq rfl) (hb hby at_264) (fun _ _ => ⟨rfl, rfl, (by decide : 10 + 4 ≤ _), (by decide : 67 + 40 ≤ _)⟩)
  dsimp only [Pt.U, Pt.locs, Pt.cells, Pt.slots] at X326 hS326 hg326 l326 y326 z326 CN326 st326 hQ326
  subst y326 z326
  obtain ⟨X326, hS_, hZ, hown⟩ := rebS hS_ (show _ ≤ T325.heap.size by rw [(rfl : T325.heap = T325.heap)]; exact hk_) X326 hS326 hg326 hZ hown
  obtain ⟨rfl, N326q, K326, Fn326, Ft326⟩ := hQ326
  have N326 := own_frl l326 N325 N326q
  have lt_q : q < T325.heap.size := V_q.lt
  have lt_b323 : b323 < T325.heap.size := E_b323.lt
  have lt_b324 : b324 < T325.heap.size := E_b324.lt
  have Z_ : n0 ≤ T326.heap.size := Nat.le_trans Z_ K326.1
  have SS := SS.keep K326 (ninS ne_x_b323 nin0) (ninS ne_t_b323 nin0)
  have V_q := V_q.keep K326 (ninS ne_q_b323 nin0)
  have E_b323 := E_b323.keep K326
  have E_b324 := E_b324.keep K326
  have F325 := F325.keep K326 (ninS (Ne.symm ne_b323_b324) nin0)
  have O_ := O_.keep K326 (allS g_b323 all0)
  have sf_q := CN326.safe lt_q sf_q
  have sf_b323 := CN326.safe lt_b323 sf_b323
  have sf_b324 := CN326.safe lt_b324 sf_b324
  have CR := CR.trans CN326
  have hk_ := Nat.le_refl T326.heap.size
  refine .st (fun _ => st326.trans) ?_
  show OwnGoW p e below s Z own_EL _ _ _ T326 (mkF m 267 _ [(.ref b323)])
  refine .astore X326 hx (hb hby at_267) rfl (L' := #[.val (.int p1), .val (.long p2), .second, .val (.int p3), .val (.int c0), .val (.int c1), .val (.int ln), .val (.ref x), .val (.ref q), .val (.int (Int32.ofNat (List.length (([(4 : Int32), (0 : Int32), (0 : Int32)] : List Int32) ++ own_encs cl)))), .val (.int (Int32.ofNat (List.length rl))), .val (.ref b323), .unset, .unset, .unset, .unset]) rfl ?_
  obtain ⟨T327, h327, X327, e327, E327, A327, D327, -, st327⟩ := newO X326 hx hZ hown (W_ hw 86 rfl) (W_ hw 87 rfl) (W_ hw 88 rfl) rfl (g := (mkF m 269 #[.val (.int p1), .val (.long p2), .second, .val (.int p3), .val (.int c0), .val (.int c1), .val (.int ln), .val (.ref x), .val (.ref q), .val (.int (Int32.ofNat (List.length (([(4 : Int32), (0 : Int32), (0 : Int32)] : List Int32) ++ own_encs cl)))), .val (.int (Int32.ofNat (List.length rl))), .val (.ref b323), .unset, .unset, .unset, .unset] [])) rfl (hb hby at_269) (by decide) (by decide)
  obtain ⟨b327, g327⟩ : ∃ z, z = T326.heap.size := ⟨_, rfl⟩
  rw [← g327] at A327 D327 st327
  have ne_q_b327 : q ≠ b327 := Nat.ne_of_lt (Nat.lt_of_lt_of_le V_q.lt (Nat.le_of_eq g327.symm))
  have ne_b323_b327 : b323 ≠ b327 := Nat.ne_of_lt (Nat.lt_of_lt_of_le E_b323.lt (Nat.le_of_eq g327.symm))
  have ne_b324_b327 : b324 ≠ b327 := Nat.ne_of_lt (Nat.lt_of_lt_of_le E_b324.lt (Nat.le_of_eq g327.symm))
  have ne_x_b327 : x ≠ b327 := Nat.ne_of_lt (Nat.lt_of_lt_of_le SS.ltx (Nat.le_of_eq g327.symm))
  have ne_t_b327 : t ≠ b327 := Nat.ne_of_lt (Nat.lt_of_lt_of_le SS.ltt (Nat.le_of_eq g327.symm))
  have g_b327 : n0 ≤ b327 := Nat.le_trans Z_ (Nat.le_of_eq g327.symm)
  have sf_b327 : Safe Z own_EL T326.vm T326.heap b327 := Safe.new (Nat.le_of_eq g327.symm)
  have SS := SS.ext E327
  have V_q := V_q.ext E327
  have E_b323 := E_b323.ext E327
  have E_b324 := E_b324.ext E327
  have F325 := F325.ext E327
  have Fn326 := Fn326.ext E327
  have Ft326 := Ft326.ext E327
  have O_ := O_.ext E327
  have sf_q := Safe.ext E327 CR.1 sf_q
  have sf_b323 := Safe.ext E327 CR.1 sf_b323
  have sf_b324 := Safe.ext E327 CR.1 sf_b324
  have sf_b327 := Safe.ext E327 CR.1 sf_b327
  have CR := CR.trans (CHr.ext E327 CR.1)
  have hk_ := Nat.le_trans hk_ E327.1
  have Z_ : n0 ≤ h327.size := Nat.le_trans Z_ E327.1
  have E_b327 := A327
  have F_buffer_b327 : Fld Z h327 b327 "com/example/cofferhand/cofferhand/nbt/NbtWriter" "buffer" "[B" .null := D327 (Or.inl (W_ hw 94 rfl)) (ty := (.array .byte)) (by decide)
  have F_size_b327 : Fld Z h327 b327 "com/example/cofferhand/cofferhand/nbt/NbtWriter" "size" "I" (.int (0 : Int32)) := D327 (Or.inl (W_ hw 101 rfl)) (ty := .int) (by decide)
  refine .st st327 ?_
  show OwnGoW p e below s Z own_EL _ _ _ T327 (mkF m 272 _ [(.ref b327)])
  refine .dup X327 hx (hb hby at_272) rfl ?_
  obtain ⟨_, _, ⟨T328, L328, k328, n328⟩, -, X328, ⟨Lc328, hQ328, l328, y328, z328⟩, st328⟩ := X327.specialBack hx (y := (⟨"com/example/cofferhand/cofferhand/nbt/NbtWriter", "<init>", "()V"⟩ : MethodName)) rfl hown (mvT hZ (W_ hw 89 rfl)) (mvT hZ (W_ hw 90 rfl)) (mvT hZ (W_ hw 91 rfl)) (by decide) (backOf (W := 1) (rmnwI l Z a0 hw [] b327 h327 n0 Z_ E_b327 F_buffer_b327 F_size_b327 g_b327) hZ (W_ hw 91 rfl) (W_ hw 88 rfl) (by decide) (by decide)) (g := (mkF m 273 #[.val (.int p1), .val (.long p2), .second, .val (.int p3), .val (.int c0), .val (.int c1), .val (.int ln), .val (.ref x), .val (.ref q), .val (.int (Int32.ofNat (List.length (([(4 : Int32), (0 : Int32), (0 : Int32)] : List Int32) ++ own_encs cl)))), .val (.int (Int32.ofNat (List.length rl))), .val (.ref b323), .unset, .unset, .unset, .unset] [(.ref b327), (.ref b327)])) rfl (by rw [hml]; rfl) (Steps.refl _) (a := b327) (argsL := []) (rest := [(.ref b327)]) (lenOf pd_33 rfl) rfl (Nat.le_of_eq rfl) (hb hby at_273) (fun _ _ => ⟨rfl, e327, (by decide : 15 + 1 ≤ _), (by decide : 109 + 256 ≤ _)⟩)
  dsimp only [Pt.U, Pt.locs, Pt.cells, Pt.slots] at X328 l328 y328 z328 st328 hQ328
  subst y328 z328
  obtain ⟨d328, kd328, rfl, N328q, K328, Fb328, Fs328, V328, zd328⟩ := hQ328
  have N328 := own_frl l328 N326 N328q
  have ne_q_d328 : q ≠ d328 := Nat.ne_of_lt (Nat.lt_of_lt_of_le V_q.lt zd328)
  have ne_b323_d328 : b323 ≠ d328 := Nat.ne_of_lt (Nat.lt_of_lt_of_le E_b323.lt zd328)
  have ne_b324_d328 : b324 ≠ d328 := Nat.ne_of_lt (Nat.lt_of_lt_of_le E_b324.lt zd328)
  have ne_b327_d328 : b327 ≠ d328 := Nat.ne_of_lt (Nat.lt_of_lt_of_le E_b327.lt zd328)
  have ne_x_d328 : x ≠ d328 := Nat.ne_of_lt (Nat.lt_of_lt_of_le SS.ltx zd328)
  have ne_t_d328 : t ≠ d328 := Nat.ne_of_lt (Nat.lt_of_lt_of_le SS.ltt zd328)
  have g_d328 : n0 ≤ d328 := Nat.le_trans Z_ zd328
  have sf_d328 : Safe Z own_EL T326.vm h327 d328 := Safe.new zd328
  have Z_ : n0 ≤ T328.heap.size := Nat.le_trans Z_ K328.1
  have SS := SS.keep K328 (ninS ne_x_b327 nin0) (ninS ne_t_b327 nin0)
  have V_q := V_q.keep K328 (ninS ne_q_b327 nin0)
  have E_b323 := E_b323.keep K328
  have E_b324 := E_b324.keep K328
  have F325 := F325.keep K328 (ninS ne_b324_b327 nin0)
  have Fn326 := Fn326.keep K328 (ninS ne_b323_b327 nin0)
  have Ft326 := Ft326.keep K328 (ninS ne_b323_b327 nin0)
  have E_b327 := E_b327.keep K328
  have O_ := O_.keep K328 (allS g_b327 all0)
  have sf_q' := Safe.keep K328 (sfS sf_b327 sf0) CR.1 sf_q
  have sf_b323' := Safe.keep K328 (sfS sf_b327 sf0) CR.1 sf_b323
  have sf_b324' := Safe.keep K328 (sfS sf_b327 sf0) CR.1 sf_b324
  have sf_d328' := Safe.keep K328 (sfS sf_b327 sf0) CR.1 sf_d328
  have sf_b327' := Safe.keep K328 (sfS sf_b327 sf0) CR.1 sf_b327
  have CR := CR.trans (CHr.keep K328 (sfS sf_b327 sf0) CR.1)
  have hk_ := Nat.le_trans hk_ K328.1
  have sf_q := sf_q'
  have sf_b323 := sf_b323'
  have sf_b324 := sf_b324'
  have sf_b327 := sf_b327'
  have sf_d328 := sf_d328'
  refine .st (fun _ => st328.trans) ?_
  show OwnGoW p e below s Z own_EL _ _ _ T328 (mkF m 276 _ [(.ref b327)])
  refine .astore X328 hx (hb hby at_276) rfl (L' := #[.val (.int p1), .val (.long p2), .second, .val (.int p3), .val (.int c0), .val (.int c1), .val (.int ln), .val (.ref x), .val (.ref q), .val (.int (Int32.ofNat (List.length (([(4 : Int32), (0 : Int32), (0 : Int32)] : List Int32) ++ own_encs cl)))), .val (.int (Int32.ofNat (List.length rl))), .val (.ref b323), .val (.ref b327), .unset, .unset, .unset]) rfl ?_
  refine .aload X328 hx (hb hby at_278) rfl rfl ?_
  obtain ⟨cq329, kq329, q329a, q329b, q329c⟩ := isOf hZ rfl E_b327
  obtain ⟨_, _, ⟨T329, L329, k329, n329⟩, -, X329, ⟨Lc329, hQ329, l329, y329, z329⟩, st329⟩ := X328.virtualBack hx (y := (⟨"com/example/cofferhand/cofferhand/nbt/NbtWriter", "toByteArray", "()[B"⟩ : MethodName)) (z := (⟨"com/example/cofferhand/cofferhand/nbt/NbtWriter", "toByteArray", "()[B"⟩ : MethodName)) hown (mvT hZ (W_ hw 95 rfl)) (mvT hZ (W_ hw 96 rfl)) (notFace_of_selects (args := #[]) (mvT hZ (W_ hw 98 rfl))) (mvT hZ (W_ hw 98 rfl)) (mvT hZ (W_ hw 97 rfl)) (by decide) (backOf (W := 0) (rmtba l Z a0 hw [] b327 d328 kd328 ([] : List Int32) T328.heap n0 Z_ Fb328 Fs328 V328 (by decide)) hZ (W_ hw 99 rfl) (W_ hw 88 rfl) (by decide) (by decide)) q329a q329c (g := (mkF m 280 #[.val (.int p1), .val (.long p2), .second, .val (.int p3), .val (.int c0), .val (.int c1), .val (.int ln), .val (.ref x), .val (.ref q), .val (.int (Int32.ofNat (List.length (([(4 : Int32), (0 : Int32), (0 : Int32)] : List Int32) ++ own_encs cl)))), .val (.int (Int32.ofNat (List.length rl))), .val (.ref b323), .val (.ref b327), .unset, .unset, .unset] [(.ref b327)])) rfl (by rw [hml]; rfl) (Steps.refl _) (argsL := []) (rest := []) (lenOf pd_39 rfl) rfl (Nat.le_of_eq rfl) (hb hby at_280) (fun _ _ => ⟨rfl, rfl, (by decide : 16 + 1 ≤ _), (by decide : 365 + 64 ≤ _)⟩)
  dsimp only [Pt.U, Pt.locs, Pt.cells, Pt.slots] at X329 l329 y329 z329 st329 hQ329
  subst y329 z329
  obtain ⟨a329, ka329, rfl, N329q, K329, V329, za329⟩ := hQ329
  have N329 := own_frl l329 N328 N329q
  have ne_q_a329 : q ≠ a329 := Nat.ne_of_lt (Nat.lt_of_lt_of_le V_q.lt za329)
  have ne_b323_a329 : b323 ≠ a329 := Nat.ne_of_lt (Nat.lt_of_lt_of_le E_b323.lt za329)
  have ne_b324_a329 : b324 ≠ a329 := Nat.ne_of_lt (Nat.lt_of_lt_of_le E_b324.lt za329)
  have ne_b327_a329 : b327 ≠ a329 := Nat.ne_of_lt (Nat.lt_of_lt_of_le E_b327.lt za329)
  have ne_d328_a329 : d328 ≠ a329 := Nat.ne_of_lt (Nat.lt_of_lt_of_le V328.lt za329)
  have ne_x_a329 : x ≠ a329 := Nat.ne_of_lt (Nat.lt_of_lt_of_le SS.ltx za329)
  have ne_t_a329 : t ≠ a329 := Nat.ne_of_lt (Nat.lt_of_lt_of_le SS.ltt za329)
  have g_a329 : n0 ≤ a329 := Nat.le_trans Z_ za329
  have sf_a329 : Safe Z own_EL T326.vm T328.heap a329 := Safe.new za329
  have Z_ : n0 ≤ T329.heap.size := Nat.le_trans Z_ K329.1
  have SS := SS.keep K329 nin0 nin0
  have V_q := V_q.keep K329 nin0
  have E_b323 := E_b323.keep K329
  have E_b324 := E_b324.keep K329
  have F325 := F325.keep K329 nin0
  have Fn326 := Fn326.keep K329 nin0
  have Ft326 := Ft326.keep K329 nin0
  have E_b327 := E_b327.keep K329
  have Fb328 := Fb328.keep K329 nin0
  have Fs328 := Fs328.keep K329 nin0
  have V328 := V328.keep K329 nin0
  have O_ := O_.keep K329 all0
  have sf_q' := Safe.keep K329 sf0 CR.1 sf_q
  have sf_b323' := Safe.keep K329 sf0 CR.1 sf_b323
  have sf_b324' := Safe.keep K329 sf0 CR.1 sf_b324
  have sf_b327' := Safe.keep K329 sf0 CR.1 sf_b327
  have sf_d328' := Safe.keep K329 sf0 CR.1 sf_d328
  have sf_a329' := Safe.keep K329 sf0 CR.1 sf_a329
  have CR := CR.trans (CHr.keep K329 sf0 CR.1)
  have hk_ := Nat.le_trans hk_ K329.1
  have sf_q := sf_q'
  have sf_b323 := sf_b323'
  have sf_b324 := sf_b324'
  have sf_b327 := sf_b327'
  have sf_d328 := sf_d328'
  have sf_a329 := sf_a329'
  refine .st (fun _ => st329.trans) ?_
  show OwnGoW p e below s Z own_EL _ _ _ T329 (mkF m 283 _ [(.ref a329)])
  refine .astore X329 hx (hb hby at_283) rfl (L' := #[.val (.int p1), .val (.long p2), .second, .val (.int p3), .val (.int c0), .val (.int c1), .val (.int ln), .val (.ref x), .val (.ref q), .val (.int (Int32.ofNat (List.length (([(4 : Int32), (0 : Int32), (0 : Int32)] : List Int32) ++ own_encs cl)))), .val (.int (Int32.ofNat (List.length rl))), .val (.ref b323), .val (.ref b327), .val (.ref a329), .unset, .unset]) rfl ?_
  refine .aload X329 hx (hb hby at_285) rfl rfl ?_
  obtain ⟨cl330, Ar330, -, S330, N330, -, -⟩ := id V329
  refine .st (fun _ => own_len hZ (len_of S330 N330) Ar330 X329 rfl hx (g := (mkF m 287 #[.val (.int p1), .val (.long p2), .second, .val (.int p3), .val (.int c0), .val (.int c1), .val (.int ln), .val (.ref x), .val (.ref q), .val (.int (Int32.ofNat (List.length (([(4 : Int32), (0 : Int32), (0 : Int32)] : List Int32) ++ own_encs cl)))), .val (.int (Int32.ofNat (List.length rl))), .val (.ref b323), .val (.ref b327), .val (.ref a329), .unset, .unset] [(.ref a329)])) rfl rfl (hb hby at_287) _) ?_
  show OwnGoW p e below s Z own_EL _ _ _ T329 (mkF m 288 _ [(.int (Int32.ofNat (List.length ([] : List Int32))))])
  refine .ifYes (pc := 288) X329 hx 293 (hb hby at_288) ((if0 _ _).trans (teq (rfl : (Int32.ofNat (List.length ([] : List Int32))) = (0 : Int32))).1) (by decide) (by decide) ?_
  refine .aload X329 hx (hb hby at_293) rfl rfl ?_
  refine .aload X329 hx (hb hby at_295) rfl rfl ?_
  have eR1 : ((((([] : List Int32) ++ [(4 : Int32)]) ++ [((Int32.ofNat (List.length (own_encs cl))) >>> ((8 : Int32) &&& 31)).toInt8.toInt32, (Int32.ofNat (List.length (own_encs cl))).toInt8.toInt32]) ++ own_encs cl) ++ [(((p2 >>> ((32 : Int32) &&& 0x3f).toInt64).toInt32) >>> ((24 : Int32) &&& 31)).toInt8.toInt32, (((p2 >>> ((32 : Int32) &&& 0x3f).toInt64).toInt32) >>> ((16 : Int32) &&& 31)).toInt8.toInt32, (((p2 >>> ((32 : Int32) &&& 0x3f).toInt64).toInt32) >>> ((8 : Int32) &&& 31)).toInt8.toInt32, ((p2 >>> ((32 : Int32) &&& 0x3f).toInt64).toInt32).toInt8.toInt32, ((p2.toInt32) >>> ((24 : Int32) &&& 31)).toInt8.toInt32, ((p2.toInt32) >>> ((16 : Int32) &&& 31)).toInt8.toInt32, ((p2.toInt32) >>> ((8 : Int32) &&& 31)).toInt8.toInt32, (p2.toInt32).toInt8.toInt32]) = rl := by rw [hrl]; simp only [List.append_assoc, List.cons_append, List.nil_append]
  have eR2 : ((((rl ++ [(4 : Int32)]) ++ [((Int32.ofNat (List.length (own_encs cl))) >>> ((8 : Int32) &&& 31)).toInt8.toInt32, (Int32.ofNat (List.length (own_encs cl))).toInt8.toInt32]) ++ own_encs cl) ++ [(((p2 >>> ((32 : Int32) &&& 0x3f).toInt64).toInt32) >>> ((24 : Int32) &&& 31)).toInt8.toInt32, (((p2 >>> ((32 : Int32) &&& 0x3f).toInt64).toInt32) >>> ((16 : Int32) &&& 31)).toInt8.toInt32, (((p2 >>> ((32 : Int32) &&& 0x3f).toInt64).toInt32) >>> ((8 : Int32) &&& 31)).toInt8.toInt32, ((p2 >>> ((32 : Int32) &&& 0x3f).toInt64).toInt32).toInt8.toInt32, ((p2.toInt32) >>> ((24 : Int32) &&& 31)).toInt8.toInt32, ((p2.toInt32) >>> ((16 : Int32) &&& 31)).toInt8.toInt32, ((p2.toInt32) >>> ((8 : Int32) &&& 31)).toInt8.toInt32, (p2.toInt32).toInt8.toInt32]) = rl ++ rl := by rw [hrl]; simp only [List.append_assoc, List.cons_append, List.nil_append]
  obtain ⟨cq331, kq331, q331a, q331b, q331c⟩ := isOf hZ rfl E_b327
  obtain ⟨_, _, ⟨T331, L331, k331, n331⟩, -, X331, ⟨Lc331, hQ331, l331, y331, z331⟩, st331⟩ := X329.virtualBack hx (y := (⟨"com/example/cofferhand/cofferhand/nbt/NbtWriter", "writeRoot", "(Lcom/example/cofferhand/cofferhand/nbt/NamedTag;)V"⟩ : MethodName)) (z := (⟨"com/example/cofferhand/cofferhand/nbt/NbtWriter", "writeRoot", "(Lcom/example/cofferhand/cofferhand/nbt/NamedTag;)V"⟩ : MethodName)) hown (mvT hZ (W_ hw 111 rfl)) (mvT hZ (W_ hw 112 rfl)) (notFace_of_selects (args := #[]) (mvT hZ (W_ hw 114 rfl))) (mvT hZ (W_ hw 114 rfl)) (mvT hZ (W_ hw 113 rfl)) (by decide) (backOf (W := 0) (rmwroot l Z a0 hw [] x t kb cl b327 d328 kd328 ([] : List Int32) b323 b324 p2 u_TagType_LONG u_1__SwitchMap_com_example_cofferhand_cofferhand_nbt_TagType kc_u_1__SwitchMap_com_example_cofferhand_cofferhand_nbt_TagType zc fmv T329.heap n0 Z_ O_ S_u_TagType_LONG E_u_TagType_LONG F_u_TagType_LONG_id S_u_1__SwitchMap_com_example_cofferhand_cofferhand_nbt_TagType F_u_TagType_LONG_ordinal V_u_1__SwitchMap_com_example_cofferhand_cofferhand_nbt_TagType S_CS P_CS S_SF rf_fmv S_AD S_HB S_LB SS hcl hu E_b327 Fb328 Fs328 V328 g_b327 g_d328 ne_b327_d328 (by decide) ne_x_b327 ne_x_d328 ne_t_b327 ne_t_d328 E_b323 Fn326 Ft326 ne_b323_b327 ne_b323_d328 E_b324 F325 ne_b324_b327 ne_b324_d328) hZ (W_ hw 115 rfl) (W_ hw 88 rfl) (by decide) (by decide)) q331a q331c (g := (mkF m 297 #[.val (.int p1), .val (.long p2), .second, .val (.int p3), .val (.int c0), .val (.int c1), .val (.int ln), .val (.ref x), .val (.ref q), .val (.int (Int32.ofNat (List.length (([(4 : Int32), (0 : Int32), (0 : Int32)] : List Int32) ++ own_encs cl)))), .val (.int (Int32.ofNat (List.length rl))), .val (.ref b323), .val (.ref b327), .val (.ref a329), .unset, .unset] [(.ref b323), (.ref b327)])) rfl (by rw [hml]; rfl) (Steps.refl _) (argsL := [(.ref b323)]) (rest := []) (lenOf pd_40 rfl) rfl (Nat.le_of_eq rfl) (hb hby at_297) (fun _ _ => ⟨rfl, rfl, (by decide : 17 + 0 ≤ _), (by decide : 429 + 0 ≤ _)⟩)
  dsimp only [Pt.U, Pt.locs, Pt.cells, Pt.slots] at X331 l331 y331 z331 st331 hQ331
  subst y331 z331
  obtain ⟨rfl, N331q, K331, Fb331, Fs331, V331⟩ := hQ331
  have N331 := own_frl l331 N329 N331q
  have Z_ : n0 ≤ T331.heap.size := Nat.le_trans Z_ K331.1
  have SS := SS.keep K331 (ninS ne_x_b327 (ninS ne_x_d328 nin0)) (ninS ne_t_b327 (ninS ne_t_d328 nin0))
  have V_q := V_q.keep K331 (ninS ne_q_b327 (ninS ne_q_d328 nin0))
  have E_b323 := E_b323.keep K331
  have E_b324 := E_b324.keep K331
  have F325 := F325.keep K331 (ninS ne_b324_b327 (ninS ne_b324_d328 nin0))
  have Fn326 := Fn326.keep K331 (ninS ne_b323_b327 (ninS ne_b323_d328 nin0))
  have Ft326 := Ft326.keep K331 (ninS ne_b323_b327 (ninS ne_b323_d328 nin0))
  have E_b327 := E_b327.keep K331
  have V329 := V329.keep K331 (ninS (Ne.symm ne_b327_a329) (ninS (Ne.symm ne_d328_a329) nin0))
  have O_ := O_.keep K331 (allS g_b327 (allS g_d328 all0))
  have sf_q' := Safe.keep K331 (sfS sf_b327 (sfS sf_d328 sf0)) CR.1 sf_q
  have sf_b323' := Safe.keep K331 (sfS sf_b327 (sfS sf_d328 sf0)) CR.1 sf_b323
  have sf_b324' := Safe.keep K331 (sfS sf_b327 (sfS sf_d328 sf0)) CR.1 sf_b324
  have sf_a329' := Safe.keep K331 (sfS sf_b327 (sfS sf_d328 sf0)) CR.1 sf_a329
  have sf_b327' := Safe.keep K331 (sfS sf_b327 (sfS sf_d328 sf0)) CR.1 sf_b327
  have sf_d328' := Safe.keep K331 (sfS sf_b327 (sfS sf_d328 sf0)) CR.1 sf_d328
  have CR := CR.trans (CHr.keep K331 (sfS sf_b327 (sfS sf_d328 sf0)) CR.1)
  have hk_ := Nat.le_trans hk_ K331.1
  have sf_q := sf_q'
  have sf_b323 := sf_b323'
  have sf_b324 := sf_b324'
  have sf_b327 := sf_b327'
  have sf_d328 := sf_d328'
  have sf_a329 := sf_a329'
  rw [eR1] at Fs331 V331
  refine .st (fun _ => st331.trans) ?_
  show OwnGoW p e below s Z own_EL _ _ _ T331 (mkF m 300 _ [])
  refine .aload X331 hx (hb hby at_300) rfl rfl ?_
  obtain ⟨cq332, kq332, q332a, q332b, q332c⟩ := isOf hZ rfl E_b327
  obtain ⟨_, _, ⟨T332, L332, k332, n332⟩, -, X332, ⟨Lc332, hQ332, l332, y332, z332⟩, st332⟩ := X331.virtualBack hx (y := (⟨"com/example/cofferhand/cofferhand/nbt/NbtWriter", "toByteArray", "()[B"⟩ : MethodName)) (z := (⟨"com/example/cofferhand/cofferhand/nbt/NbtWriter", "toByteArray", "()[B"⟩ : MethodName)) hown (mvT hZ (W_ hw 95 rfl)) (mvT hZ (W_ hw 96 rfl)) (notFace_of_selects (args := #[]) (mvT hZ (W_ hw 98 rfl))) (mvT hZ (W_ hw 98 rfl)) (mvT hZ (W_ hw 97 rfl)) (by decide) (backOf (W := 0) (rmtba l Z a0 hw [] b327 d328 kd328 rl T331.heap n0 Z_ Fb331 Fs331 V331 (by omega)) hZ (W_ hw 99 rfl) (W_ hw 88 rfl) (by decide) (by decide)) q332a q332c (g := (mkF m 302 #[.val (.int p1), .val (.long p2), .second, .val (.int p3), .val (.int c0), .val (.int c1), .val (.int ln), .val (.ref x), .val (.ref q), .val (.int (Int32.ofNat (List.length (([(4 : Int32), (0 : Int32), (0 : Int32)] : List Int32) ++ own_encs cl)))), .val (.int (Int32.ofNat (List.length rl))), .val (.ref b323), .val (.ref b327), .val (.ref a329), .unset, .unset] [(.ref b327)])) rfl (by rw [hml]; rfl) (Steps.refl _) (argsL := []) (rest := []) (lenOf pd_39 rfl) rfl (Nat.le_of_eq rfl) (hb hby at_302) (fun _ _ => ⟨rfl, rfl, (by decide : 17 + 1 ≤ _), (by decide : 429 + 64 ≤ _)⟩)
  dsimp only [Pt.U, Pt.locs, Pt.cells, Pt.slots] at X332 l332 y332 z332 st332 hQ332
  subst y332 z332
  obtain ⟨a332, ka332, rfl, N332q, K332, V332, za332⟩ := hQ332
  have N332 := own_frl l332 N331 N332q
  have ne_q_a332 : q ≠ a332 := Nat.ne_of_lt (Nat.lt_of_lt_of_le V_q.lt za332)
  have ne_b323_a332 : b323 ≠ a332 := Nat.ne_of_lt (Nat.lt_of_lt_of_le E_b323.lt za332)
  have ne_b324_a332 : b324 ≠ a332 := Nat.ne_of_lt (Nat.lt_of_lt_of_le E_b324.lt za332)
  have ne_b327_a332 : b327 ≠ a332 := Nat.ne_of_lt (Nat.lt_of_lt_of_le E_b327.lt za332)
  have ne_a329_a332 : a329 ≠ a332 := Nat.ne_of_lt (Nat.lt_of_lt_of_le V329.lt za332)
  have ne_d328_a332 : d328 ≠ a332 := Nat.ne_of_lt (Nat.lt_of_lt_of_le V331.lt za332)
  have ne_x_a332 : x ≠ a332 := Nat.ne_of_lt (Nat.lt_of_lt_of_le SS.ltx za332)
  have ne_t_a332 : t ≠ a332 := Nat.ne_of_lt (Nat.lt_of_lt_of_le SS.ltt za332)
  have g_a332 : n0 ≤ a332 := Nat.le_trans Z_ za332
  have sf_a332 : Safe Z own_EL T326.vm T331.heap a332 := Safe.new za332
  have Z_ : n0 ≤ T332.heap.size := Nat.le_trans Z_ K332.1
  have SS := SS.keep K332 nin0 nin0
  have V_q := V_q.keep K332 nin0
  have E_b323 := E_b323.keep K332
  have E_b324 := E_b324.keep K332
  have F325 := F325.keep K332 nin0
  have Fn326 := Fn326.keep K332 nin0
  have Ft326 := Ft326.keep K332 nin0
  have E_b327 := E_b327.keep K332
  have V329 := V329.keep K332 nin0
  have Fb331 := Fb331.keep K332 nin0
  have Fs331 := Fs331.keep K332 nin0
  have V331 := V331.keep K332 nin0
  have O_ := O_.keep K332 all0
  have sf_q' := Safe.keep K332 sf0 CR.1 sf_q
  have sf_b323' := Safe.keep K332 sf0 CR.1 sf_b323
  have sf_b324' := Safe.keep K332 sf0 CR.1 sf_b324
  have sf_b327' := Safe.keep K332 sf0 CR.1 sf_b327
  have sf_d328' := Safe.keep K332 sf0 CR.1 sf_d328
  have sf_a329' := Safe.keep K332 sf0 CR.1 sf_a329
  have sf_a332' := Safe.keep K332 sf0 CR.1 sf_a332
  have CR := CR.trans (CHr.keep K332 sf0 CR.1)
  have hk_ := Nat.le_trans hk_ K332.1
  have sf_q := sf_q'
  have sf_b323 := sf_b323'
  have sf_b324 := sf_b324'
  have sf_b327 := sf_b327'
  have sf_d328 := sf_d328'
  have sf_a329 := sf_a329'
  have sf_a332 := sf_a332'
  refine .st (fun _ => st332.trans) ?_
  show OwnGoW p e below s Z own_EL _ _ _ T332 (mkF m 305 _ [(.ref a332)])
  refine .astore X332 hx (hb hby at_305) rfl (L' := #[.val (.int p1), .val (.long p2), .second, .val (.int p3), .val (.int c0), .val (.int c1), .val (.int ln), .val (.ref x), .val (.ref q), .val (.int (Int32.ofNat (List.length (([(4 : Int32), (0 : Int32), (0 : Int32)] : List Int32) ++ own_encs cl)))), .val (.int (Int32.ofNat (List.length rl))), .val (.ref b323), .val (.ref b327), .val (.ref a329), .val (.ref a332), .unset]) rfl ?_
  refine .aload X332 hx (hb hby at_307) rfl rfl ?_
  obtain ⟨cl333, Ar333, -, S333, N333, -, -⟩ := id V332
  refine .st (fun _ => own_len hZ (len_of S333 N333) Ar333 X332 rfl hx (g := (mkF m 309 #[.val (.int p1), .val (.long p2), .second, .val (.int p3), .val (.int c0), .val (.int c1), .val (.int ln), .val (.ref x), .val (.ref q), .val (.int (Int32.ofNat (List.length (([(4 : Int32), (0 : Int32), (0 : Int32)] : List Int32) ++ own_encs cl)))), .val (.int (Int32.ofNat (List.length rl))), .val (.ref b323), .val (.ref b327), .val (.ref a329), .val (.ref a332), .unset] [(.ref a332)])) rfl rfl (hb hby at_309) _) ?_
  show OwnGoW p e below s Z own_EL _ _ _ T332 (mkF m 310 _ [(.int (Int32.ofNat (List.length rl)))])
  refine .iload X332 hx (hb hby at_310) rfl ?_
  refine .icmpNo X332 hx (hb hby at_312) (teq (rfl : (Int32.ofNat (List.length rl)) = (Int32.ofNat (List.length rl)))).2 ?_
  refine .aload X332 hx (hb hby at_315) rfl rfl ?_
  refine .iconst X332 hx (hb hby at_317) own_ki0 ?_
  refine .aload X332 hx (hb hby at_318) rfl rfl ?_
  refine .iload X332 hx (hb hby at_320) rfl ?_
  obtain ⟨_, _, ⟨T334, L334, k334, n334⟩, -, X334, ⟨Lc334, hQ334, l334, y334, z334⟩, st334⟩ := Jvm.LawKit.callS X332 hx (y := (⟨"com/example/cofferhand/cofferhand/nbt/NbtWriterToByteArrayPinLaw", "allSame", "([BI[BI)Z"⟩ : MethodName)) hown (mvT hZ (W_ hw 219 rfl)) (mvT hZ (W_ hw 220 rfl)) (mvT hZ (W_ hw 33 rfl)) (mvT hZ (W_ hw 221 rfl)) (by decide) (backOf (W := 0) (rmals l Z a0 hw [] a332 ka332 rl q kq rl (0 : Int32) 0 T332.heap n0 Z_ V332 V_q rfl (by omega) (by omega) lR (fun j hj => by rw [Nat.zero_add])) hZ (W_ hw 221 rfl) (W_ hw 33 rfl) (by decide) (by decide)) (g := (mkF m 322 #[.val (.int p1), .val (.long p2), .second, .val (.int p3), .val (.int c0), .val (.int c1), .val (.int ln), .val (.ref x), .val (.ref q), .val (.int (Int32.ofNat (List.length (([(4 : Int32), (0 : Int32), (0 : Int32)] : List Int32) ++ own_encs cl)))), .val (.int (Int32.ofNat (List.length rl))), .val (.ref b323), .val (.ref b327), .val (.ref a329), .val (.ref a332), .unset] [(.int (Int32.ofNat (List.length rl))), (.ref q), (.int (0 : Int32)), (.ref a332)])) rfl (by rw [hml]; rfl) (argsL := [(.ref a332), (.int (0 : Int32)), (.ref q), (.int (Int32.ofNat (List.length rl)))]) (rest := []) (lenOf pd_41 rfl) rfl (Nat.le_of_eq rfl) (hb hby at_322) (fun _ _ => ⟨rfl, rfl, (by decide : 18 + 0 ≤ _), (by decide : 493 + 0 ≤ _)⟩)
  dsimp only [Pt.U, Pt.locs, Pt.cells, Pt.slots] at X334 l334 y334 z334 st334 hQ334
  subst y334 z334
  obtain ⟨rfl, N334q, e334⟩ := hQ334
  have N334 := own_frl l334 N332 N334q
  refine .st st334 ?_
  show OwnGoW p e below s Z own_EL _ _ _ T334 (mkF m 325 _ [(.int (1 : Int32))])
  refine .ifYes (pc := 325) X334 hx 330 (hb hby at_325) ((if0 _ _).trans (feq ((by decide) : ¬ ((1 : Int32) = (0 : Int32)))).2) (by decide) (by decide) ?_
  refine .aload X334 hx (hb hby at_330) rfl rfl ?_
  refine .iconst X334 hx (hb hby at_332) own_ki0 ?_
  refine .bipush X334 hx (hb hby at_333) own_kb99 ?_
  obtain ⟨cl335, Ar335, -, S335, -, -, -⟩ := id V332
  have lR0 : 0 < List.length rl := by rw [hrl]; exact Nat.succ_pos _
  obtain ⟨T335, h335, X335, e335, W335, st335⟩ := stB X334 hx hZ e334 Ar335 (j := (0 : Int32)) (inb_of S335 (own_inb (k := 0) rfl lR0 (by omega))) (g := (mkF m 335 #[.val (.int p1), .val (.long p2), .second, .val (.int p3), .val (.int c0), .val (.int c1), .val (.int ln), .val (.ref x), .val (.ref q), .val (.int (Int32.ofNat (List.length (([(4 : Int32), (0 : Int32), (0 : Int32)] : List Int32) ++ own_encs cl)))), .val (.int (Int32.ofNat (List.length rl))), .val (.ref b323), .val (.ref b327), .val (.ref a329), .val (.ref a332), .unset] [(.int (99 : Int32)), (.int (0 : Int32)), (.ref a332)])) rfl rfl (hb hby at_335)
  have SS := SS.wr W335 ne_x_a332 ne_t_a332
  have V_q := V_q.other W335 ne_q_a332
  have E_b323 := E_b323.wr W335
  have E_b324 := E_b324.wr W335
  have F325 := F325.other W335 (Or.inl ne_b324_a332)
  have Fn326 := Fn326.other W335 (Or.inl ne_b323_a332)
  have Ft326 := Ft326.other W335 (Or.inl ne_b323_a332)
  have E_b327 := E_b327.wr W335
  have V329 := V329.other W335 ne_a329_a332
  have Fb331 := Fb331.other W335 (Or.inl ne_b327_a332)
  have Fs331 := Fs331.other W335 (Or.inl ne_b327_a332)
  have V331 := V331.other W335 ne_d328_a332
  have O_ := O_.wr W335 g_a332
  have sf_ := sf_a332
  have CR0 := CR.1
  have CR := CR.trans (CHr.wr W335 sf_ CR.1)
  have sf_q := Safe.wr W335 sf_ CR0 sf_q
  have sf_b323 := Safe.wr W335 sf_ CR0 sf_b323
  have sf_b324 := Safe.wr W335 sf_ CR0 sf_b324
  have sf_b327 := Safe.wr W335 sf_ CR0 sf_b327
  have sf_d328 := Safe.wr W335 sf_ CR0 sf_d328
  have sf_a329 := Safe.wr W335 sf_ CR0 sf_a329
  have sf_a332 := Safe.wr W335 sf_ CR0 sf_a332
  have hk_ := Nat.le_trans hk_ (Nat.le_of_eq W335.size.symm)
  have N335 := Fr.snoc X335 N334 g_a332
  have Z_ : n0 ≤ h335.size := by rw [W335.size]; exact Z_
  refine .st st335 ?_
  show OwnGoW p e below s Z own_EL _ _ _ T335 (mkF m 336 _ [])
  refine .aload X335 hx (hb hby at_336) rfl rfl ?_
  refine .aload X335 hx (hb hby at_338) rfl rfl ?_
  obtain ⟨cq336, kq336, q336a, q336b, q336c⟩ := isOf hZ e335 E_b327
  obtain ⟨_, _, ⟨T336, L336, k336, n336⟩, -, X336, ⟨Lc336, hQ336, l336, y336, z336⟩, st336⟩ := X335.virtualBack hx (y := (⟨"com/example/cofferhand/cofferhand/nbt/NbtWriter", "writeRoot", "(Lcom/example/cofferhand/cofferhand/nbt/NamedTag;)V"⟩ : MethodName)) (z := (⟨"com/example/cofferhand/cofferhand/nbt/NbtWriter", "writeRoot", "(Lcom/example/cofferhand/cofferhand/nbt/NamedTag;)V"⟩ : MethodName)) hown (mvT hZ (W_ hw 111 rfl)) (mvT hZ (W_ hw 112 rfl)) (notFace_of_selects (args := #[]) (mvT hZ (W_ hw 114 rfl))) (mvT hZ (W_ hw 114 rfl)) (mvT hZ (W_ hw 113 rfl)) (by decide) (backOf (W := 0) (rmwroot l Z a0 hw [] x t kb cl b327 d328 kd328 rl b323 b324 p2 u_TagType_LONG u_1__SwitchMap_com_example_cofferhand_cofferhand_nbt_TagType kc_u_1__SwitchMap_com_example_cofferhand_cofferhand_nbt_TagType zc fmv h335 n0 Z_ O_ S_u_TagType_LONG E_u_TagType_LONG F_u_TagType_LONG_id S_u_1__SwitchMap_com_example_cofferhand_cofferhand_nbt_TagType F_u_TagType_LONG_ordinal V_u_1__SwitchMap_com_example_cofferhand_cofferhand_nbt_TagType S_CS P_CS S_SF rf_fmv S_AD S_HB S_LB SS hcl hu E_b327 Fb331 Fs331 V331 g_b327 g_d328 ne_b327_d328 (by omega) ne_x_b327 ne_x_d328 ne_t_b327 ne_t_d328 E_b323 Fn326 Ft326 ne_b323_b327 ne_b323_d328 E_b324 F325 ne_b324_b327 ne_b324_d328) hZ (W_ hw 115 rfl) (W_ hw 88 rfl) (by decide) (by decide)) q336a q336c (g := (mkF m 340 #[.val (.int p1), .val (.long p2), .second, .val (.int p3), .val (.int c0), .val (.int c1), .val (.int ln), .val (.ref x), .val (.ref q), .val (.int (Int32.ofNat (List.length (([(4 : Int32), (0 : Int32), (0 : Int32)] : List Int32) ++ own_encs cl)))), .val (.int (Int32.ofNat (List.length rl))), .val (.ref b323), .val (.ref b327), .val (.ref a329), .val (.ref a332), .unset] [(.ref b323), (.ref b327)])) rfl (by rw [hml]; rfl) (Steps.refl _) (argsL := [(.ref b323)]) (rest := []) (lenOf pd_40 rfl) rfl (Nat.le_of_eq rfl) (hb hby at_340) (fun _ _ => ⟨rfl, e335, (by decide : 18 + 0 ≤ _), (by decide : 493 + 0 ≤ _)⟩)
  dsimp only [Pt.U, Pt.locs, Pt.cells, Pt.slots] at X336 l336 y336 z336 st336 hQ336
  subst y336 z336
  obtain ⟨rfl, N336q, K336, Fb336, Fs336, V336⟩ := hQ336
  have N336 := own_frl l336 N335 N336q
  have Z_ : n0 ≤ T336.heap.size := Nat.le_trans Z_ K336.1
  have SS := SS.keep K336 (ninS ne_x_b327 (ninS ne_x_d328 nin0)) (ninS ne_t_b327 (ninS ne_t_d328 nin0))
  have V_q := V_q.keep K336 (ninS ne_q_b327 (ninS ne_q_d328 nin0))
  have E_b323 := E_b323.keep K336
  have E_b324 := E_b324.keep K336
  have F325 := F325.keep K336 (ninS ne_b324_b327 (ninS ne_b324_d328 nin0))
  have Fn326 := Fn326.keep K336 (ninS ne_b323_b327 (ninS ne_b323_d328 nin0))
  have Ft326 := Ft326.keep K336 (ninS ne_b323_b327 (ninS ne_b323_d328 nin0))
  have E_b327 := E_b327.keep K336
  have V329 := V329.keep K336 (ninS (Ne.symm ne_b327_a329) (ninS (Ne.symm ne_d328_a329) nin0))
  have O_ := O_.keep K336 (allS g_b327 (allS g_d328 all0))
  have sf_q' := Safe.keep K336 (sfS sf_b327 (sfS sf_d328 sf0)) CR.1 sf_q
  have sf_b323' := Safe.keep K336 (sfS sf_b327 (sfS sf_d328 sf0)) CR.1 sf_b323
  have sf_b324' := Safe.keep K336 (sfS sf_b327 (sfS sf_d328 sf0)) CR.1 sf_b324
  have sf_a329' := Safe.keep K336 (sfS sf_b327 (sfS sf_d328 sf0)) CR.1 sf_a329
  have sf_a332' := Safe.keep K336 (sfS sf_b327 (sfS sf_d328 sf0)) CR.1 sf_a332
  have sf_b327' := Safe.keep K336 (sfS sf_b327 (sfS sf_d328 sf0)) CR.1 sf_b327
  have sf_d328' := Safe.keep K336 (sfS sf_b327 (sfS sf_d328 sf0)) CR.1 sf_d328
  have CR := CR.trans (CHr.keep K336 (sfS sf_b327 (sfS sf_d328 sf0)) CR.1)
  have hk_ := Nat.le_trans hk_ K336.1
  have sf_q := sf_q'
  have sf_b323 := sf_b323'
  have sf_b324 := sf_b324'
  have sf_b327 := sf_b327'
  have sf_d328 := sf_d328'
  have sf_a329 := sf_a329'
  have sf_a332 := sf_a332'
  rw [eR2] at Fs336 V336
  refine .st (fun _ => st336.trans) ?_
  show OwnGoW p e below s Z own_EL _ _ _ T336 (mkF m 343 _ [])
  refine .aload X336 hx (hb hby at_343) rfl rfl ?_
  obtain ⟨cq337, kq337, q337a, q337b, q337c⟩ := isOf hZ rfl E_b327
  obtain ⟨_, _, ⟨T337, L337, k337, n337⟩, -, X337, ⟨Lc337, hQ337, l337, y337, z337⟩, st337⟩ := X336.virtualBack hx (y := (⟨"com/example/cofferhand/cofferhand/nbt/NbtWriter", "toByteArray", "()[B"⟩ : MethodName)) (z := (⟨"com/example/cofferhand/cofferhand/nbt/NbtWriter", "toByteArray", "()[B"⟩ : MethodName)) hown (mvT hZ (W_ hw 95 rfl)) (mvT hZ (W_ hw 96 rfl)) (notFace_of_selects (args := #[]) (mvT hZ (W_ hw 98 rfl))) (mvT hZ (W_ hw 98 rfl)) (mvT hZ (W_ hw 97 rfl)) (by decide) (backOf (W := 0) (rmtba l Z a0 hw [] b327 d328 kd328 (rl ++ rl) T336.heap n0 Z_ Fb336 Fs336 V336 (by rw [List.length_append]; omega)) hZ (W_ hw 99 rfl) (W_ hw 88 rfl) (by decide) (by decide)) q337a q337c (g := (mkF m 345 #[.val (.int p1), .val (.long p2), .second, .val (.int p3), .val (.int c0), .val (.int c1), .val (.int ln), .val (.ref x), .val (.ref q), .val (.int (Int32.ofNat (List.length (([(4 : Int32), (0 : Int32), (0 : Int32)] : List Int32) ++ own_encs cl)))), .val (.int (Int32.ofNat (List.length rl))), .val (.ref b323), .val (.ref b327), .val (.ref a329), .val (.ref a332), .unset] [(.ref b327)])) rfl (by rw [hml]; rfl) (Steps.refl _) (argsL := []) (rest := []) (lenOf pd_39 rfl) rfl (Nat.le_of_eq rfl) (hb hby at_345) (fun _ _ => ⟨rfl, rfl, (by decide : 18 + 1 ≤ _), (by decide : 493 + 64 ≤ _)⟩)
  dsimp only [Pt.U, Pt.locs, Pt.cells, Pt.slots] at X337 l337 y337 z337 st337 hQ337
  subst y337 z337
  obtain ⟨a337, ka337, rfl, N337q, K337, V337, za337⟩ := hQ337
  have N337 := own_frl l337 N336 N337q
  have ne_q_a337 : q ≠ a337 := Nat.ne_of_lt (Nat.lt_of_lt_of_le V_q.lt za337)
  have ne_b323_a337 : b323 ≠ a337 := Nat.ne_of_lt (Nat.lt_of_lt_of_le E_b323.lt za337)
  have ne_b324_a337 : b324 ≠ a337 := Nat.ne_of_lt (Nat.lt_of_lt_of_le E_b324.lt za337)
  have ne_b327_a337 : b327 ≠ a337 := Nat.ne_of_lt (Nat.lt_of_lt_of_le E_b327.lt za337)
  have ne_a329_a337 : a329 ≠ a337 := Nat.ne_of_lt (Nat.lt_of_lt_of_le V329.lt za337)
  have ne_d328_a337 : d328 ≠ a337 := Nat.ne_of_lt (Nat.lt_of_lt_of_le V336.lt za337)
  have ne_x_a337 : x ≠ a337 := Nat.ne_of_lt (Nat.lt_of_lt_of_le SS.ltx za337)
  have ne_t_a337 : t ≠ a337 := Nat.ne_of_lt (Nat.lt_of_lt_of_le SS.ltt za337)
  have g_a337 : n0 ≤ a337 := Nat.le_trans Z_ za337
  have sf_a337 : Safe Z own_EL T326.vm T336.heap a337 := Safe.new za337
  have Z_ : n0 ≤ T337.heap.size := Nat.le_trans Z_ K337.1
  have SS := SS.keep K337 nin0 nin0
  have V_q := V_q.keep K337 nin0
  have E_b323 := E_b323.keep K337
  have E_b324 := E_b324.keep K337
  have F325 := F325.keep K337 nin0
  have Fn326 := Fn326.keep K337 nin0
  have Ft326 := Ft326.keep K337 nin0
  have E_b327 := E_b327.keep K337
  have V329 := V329.keep K337 nin0
  have Fb336 := Fb336.keep K337 nin0
  have Fs336 := Fs336.keep K337 nin0
  have V336 := V336.keep K337 nin0
  have O_ := O_.keep K337 all0
  have sf_q' := Safe.keep K337 sf0 CR.1 sf_q
  have sf_b323' := Safe.keep K337 sf0 CR.1 sf_b323
  have sf_b324' := Safe.keep K337 sf0 CR.1 sf_b324
  have sf_b327' := Safe.keep K337 sf0 CR.1 sf_b327
  have sf_d328' := Safe.keep K337 sf0 CR.1 sf_d328
  have sf_a329' := Safe.keep K337 sf0 CR.1 sf_a329
  have sf_a332' := Safe.keep K337 sf0 CR.1 sf_a332
  have sf_a337' := Safe.keep K337 sf0 CR.1 sf_a337
  have CR := CR.trans (CHr.keep K337 sf0 CR.1)
  have hk_ := Nat.le_trans hk_ K337.1
  have sf_q := sf_q'
  have sf_b323 := sf_b323'
  have sf_b324 := sf_b324'
  have sf_b327 := sf_b327'
  have sf_d328 := sf_d328'
  have sf_a329 := sf_a329'
  have sf_a332 := sf_a332'
  have sf_a337 := sf_a337'
  refine .st (fun _ => st337.trans) ?_
  show OwnGoW p e below s Z own_EL _ _ _ T337 (mkF m 348 _ [(.ref a337)])
  refine .astore X337 hx (hb hby at_348) rfl (L' := #[.val (.int p1), .val (.long p2), .second, .val (.int p3), .val (.int c0), .val (.int c1), .val (.int ln), .val (.ref x), .val (.ref q), .val (.int (Int32.ofNat (List.length (([(4 : Int32), (0 : Int32), (0 : Int32)] : List Int32) ++ own_encs cl)))), .val (.int (Int32.ofNat (List.length rl))), .val (.ref b323), .val (.ref b327), .val (.ref a329), .val (.ref a332), .val (.ref a337)]) rfl ?_
  refine .aload X337 hx (hb hby at_350) rfl rfl ?_
  obtain ⟨cl338, Ar338, -, S338, N338, -, -⟩ := id V329
  refine .st (fun _ => own_len hZ (len_of S338 N338) Ar338 X337 rfl hx (g := (mkF m 352 #[.val (.int p1), .val (.long p2), .second, .val (.int p3), .val (.int c0), .val (.int c1), .val (.int ln), .val (.ref x), .val (.ref q), .val (.int (Int32.ofNat (List.length (([(4 : Int32), (0 : Int32), (0 : Int32)] : List Int32) ++ own_encs cl)))), .val (.int (Int32.ofNat (List.length rl))), .val (.ref b323), .val (.ref b327), .val (.ref a329), .val (.ref a332), .val (.ref a337)] [(.ref a329)])) rfl rfl (hb hby at_352) _) ?_
  show OwnGoW p e below s Z own_EL _ _ _ T337 (mkF m 353 _ [(.int (Int32.ofNat (List.length ([] : List Int32))))])
  refine .ifNo X337 hx (hb hby at_353) ((if0 _ _).trans (teq (rfl : (Int32.ofNat (List.length ([] : List Int32))) = (0 : Int32))).2) ?_
  refine .aload X337 hx (hb hby at_356) rfl rfl ?_
  obtain ⟨cl339, Ar339, -, S339, N339, -, -⟩ := id V337
  refine .st (fun _ => own_len hZ (len_of S339 N339) Ar339 X337 rfl hx (g := (mkF m 358 #[.val (.int p1), .val (.long p2), .second, .val (.int p3), .val (.int c0), .val (.int c1), .val (.int ln), .val (.ref x), .val (.ref q), .val (.int (Int32.ofNat (List.length (([(4 : Int32), (0 : Int32), (0 : Int32)] : List Int32) ++ own_encs cl)))), .val (.int (Int32.ofNat (List.length rl))), .val (.ref b323), .val (.ref b327), .val (.ref a329), .val (.ref a332), .val (.ref a337)] [(.ref a337)])) rfl rfl (hb hby at_358) _) ?_
  show OwnGoW p e below s Z own_EL _ _ _ T337 (mkF m 359 _ [(.int (Int32.ofNat (List.length (rl ++ rl))))])
  refine .iconst X337 hx (hb hby at_359) own_ki2 ?_
  refine .iload X337 hx (hb hby at_360) rfl ?_
  refine .st (fun _ => XS.imul X337.here hx rfl (hb hby at_362) rfl) ?_
  show OwnGoW p e below s Z own_EL _ _ _ T337 (mkF m 363 _ [(.int ((2 : Int32) * (Int32.ofNat (List.length rl)))), (.int (Int32.ofNat (List.length (rl ++ rl))))])
  refine .icmpNo X337 hx (hb hby at_363) (teq ((own_two _) : (Int32.ofNat (List.length (rl ++ rl))) = ((2 : Int32) * (Int32.ofNat (List.length rl))))).2 ?_
  refine .aload X337 hx (hb hby at_366) rfl rfl ?_
  refine .iconst X337 hx (hb hby at_368) own_ki0 ?_
  refine .aload X337 hx (hb hby at_369) rfl rfl ?_
  refine .iload X337 hx (hb hby at_371) rfl ?_
  obtain ⟨_, _, ⟨T340, L340, k340, n340⟩, -, X340, ⟨Lc340, hQ340, l340, y340, z340⟩, st340⟩ := Jvm.LawKit.callS X337 hx (y := (⟨"com/example/cofferhand/cofferhand/nbt/NbtWriterToByteArrayPinLaw", "allSame", "([BI[BI)Z"⟩ : MethodName)) hown (mvT hZ (W_ hw 219 rfl)) (mvT hZ (W_ hw 220 rfl)) (mvT hZ (W_ hw 33 rfl)) (mvT hZ (W_ hw 221 rfl)) (by decide) (backOf (W := 0) (rmals l Z a0 hw [] a337 ka337 (rl ++ rl) q kq rl (0 : Int32) 0 T337.heap n0 Z_ V337 V_q rfl (by rw [List.length_append]; omega) (by rw [List.length_append]; omega) lR (fun j hj => by rw [Nat.zero_add]; exact own_gdl hj)) hZ (W_ hw 221 rfl) (W_ hw 33 rfl) (by decide) (by decide)) (g := (mkF m 373 #[.val (.int p1), .val (.long p2), .second, .val (.int p3), .val (.int c0), .val (.int c1), .val (.int ln), .val (.ref x), .val (.ref q), .val (.int (Int32.ofNat (List.length (([(4 : Int32), (0 : Int32), (0 : Int32)] : List Int32) ++ own_encs cl)))), .val (.int (Int32.ofNat (List.length rl))), .val (.ref b323), .val (.ref b327), .val (.ref a329), .val (.ref a332), .val (.ref a337)] [(.int (Int32.ofNat (List.length rl))), (.ref q), (.int (0 : Int32)), (.ref a337)])) rfl (by rw [hml]; rfl) (argsL := [(.ref a337), (.int (0 : Int32)), (.ref q), (.int (Int32.ofNat (List.length rl)))]) (rest := []) (lenOf pd_41 rfl) rfl (Nat.le_of_eq rfl) (hb hby at_373) (fun _ _ => ⟨rfl, rfl, (by decide : 19 + 0 ≤ _), (by decide : 557 + 0 ≤ _)⟩)
  dsimp only [Pt.U, Pt.locs, Pt.cells, Pt.slots] at X340 l340 y340 z340 st340 hQ340
  subst y340 z340
  obtain ⟨rfl, N340q, e340⟩ := hQ340
  have N340 := own_frl l340 N337 N340q
  refine .st st340 ?_
  show OwnGoW p e below s Z own_EL _ _ _ T340 (mkF m 376 _ [(.int (1 : Int32))])
  refine .ifNo X340 hx (hb hby at_376) ((if0 _ _).trans (feq ((by decide) : ¬ ((1 : Int32) = (0 : Int32)))).1) ?_
  refine .aload X340 hx (hb hby at_379) rfl rfl ?_
  refine .iload X340 hx (hb hby at_381) rfl ?_
  refine .aload X340 hx (hb hby at_383) rfl rfl ?_
  refine .iload X340 hx (hb hby at_385) rfl ?_
  obtain ⟨_, _, ⟨T341, L341, k341, n341⟩, -, X341, ⟨Lc341, hQ341, l341, y341, z341⟩, st341⟩ := Jvm.LawKit.callS X340 hx (y := (⟨"com/example/cofferhand/cofferhand/nbt/NbtWriterToByteArrayPinLaw", "allSame", "([BI[BI)Z"⟩ : MethodName)) hown (mvT hZ (W_ hw 219 rfl)) (mvT hZ (W_ hw 220 rfl)) (mvT hZ (W_ hw 33 rfl)) (mvT hZ (W_ hw 221 rfl)) (by decide) (backOf (W := 0) (rmals l Z a0 hw [] a337 ka337 (rl ++ rl) q kq rl (Int32.ofNat (List.length rl)) (List.length rl) T337.heap n0 Z_ V337 V_q rfl (by rw [List.length_append]; exact Nat.le_refl _) (by rw [List.length_append]; omega) lR (fun j hj => own_gdr)) hZ (W_ hw 221 rfl) (W_ hw 33 rfl) (by decide) (by decide)) (g := (mkF m 387 #[.val (.int p1), .val (.long p2), .second, .val (.int p3), .val (.int c0), .val (.int c1), .val (.int ln), .val (.ref x), .val (.ref q), .val (.int (Int32.ofNat (List.length (([(4 : Int32), (0 : Int32), (0 : Int32)] : List Int32) ++ own_encs cl)))), .val (.int (Int32.ofNat (List.length rl))), .val (.ref b323), .val (.ref b327), .val (.ref a329), .val (.ref a332), .val (.ref a337)] [(.int (Int32.ofNat (List.length rl))), (.ref q), (.int (Int32.ofNat (List.length rl))), (.ref a337)])) rfl (by rw [hml]; rfl) (argsL := [(.ref a337), (.int (Int32.ofNat (List.length rl))), (.ref q), (.int (Int32.ofNat (List.length rl)))]) (rest := []) (lenOf pd_41 rfl) rfl (Nat.le_of_eq rfl) (hb hby at_387) (fun _ _ => ⟨rfl, e340, (by decide : 19 + 0 ≤ _), (by decide : 557 + 0 ≤ _)⟩)
  dsimp only [Pt.U, Pt.locs, Pt.cells, Pt.slots] at X341 l341 y341 z341 st341 hQ341
  subst y341 z341
  obtain ⟨rfl, N341q, e341⟩ := hQ341
  have N341 := own_frl l341 N340 N341q
  refine .st st341 ?_
  show OwnGoW p e below s Z own_EL _ _ _ T341 (mkF m 390 _ [(.int (1 : Int32))])
  refine .ifNo X341 hx (hb hby at_390) ((if0 _ _).trans (feq ((by decide) : ¬ ((1 : Int32) = (0 : Int32)))).1) ?_
  refine .iconst X341 hx (hb hby at_393) own_ki1 ?_
  refine .goto (pc := 394) X341 hx 398 (hb hby at_394) (by decide) (by decide) ?_
  exact OwnGoW.retN (s := s) (vm0 := T326.vm) X341 hS_ hk_ e341 hZ (own_hEL hw) CR hx (t := .boolean) hret hlk (by simp) (hb hby at_398) (by show Q0 Z p1 p2 p3 u_TagType_LONG u_1__SwitchMap_com_example_cofferhand_cofferhand_nbt_TagType kc_u_1__SwitchMap_com_example_cofferhand_cofferhand_nbt_TagType zc fmv h0 n0 _ T341.heap _; rw [e341]; exact ⟨rfl, N341⟩) (by decide) (by decide)
theorem rm0 (l : Launch) (Z : State) (a0 : Array Value) (hw : own_tb a0 Z) (ws : List Jvm.Cond) (p1 : Int32) (p2 : Int64) (p3 : Int32) (u_TagType_LONG : Addr) (u_1__SwitchMap_com_example_cofferhand_cofferhand_nbt_TagType : Addr) (kc_u_1__SwitchMap_com_example_cofferhand_cofferhand_nbt_TagType : ClassId) (zc : Int32) (fmv : Value) (h0 : Heap) (n0 : Nat) (Z0 : n0 ≤ h0.size) (O_ : Old Z n0 h0) (S_u_TagType_LONG : Sta Z Z.heap "com/example/cofferhand/cofferhand/nbt/TagType" "LONG" "Lcom/example/cofferhand/cofferhand/nbt/TagType;" (.ref u_TagType_LONG)) (E_u_TagType_LONG : Exa Z Z.heap u_TagType_LONG "com/example/cofferhand/cofferhand/nbt/TagType") (F_u_TagType_LONG_id : Fld Z Z.heap u_TagType_LONG "com/example/cofferhand/cofferhand/nbt/TagType" "id" "I" (.int (4 : Int32))) (S_u_1__SwitchMap_com_example_cofferhand_cofferhand_nbt_TagType : Sta Z Z.heap "com/example/cofferhand/cofferhand/nbt/NbtWriter$1" "$SwitchMap$com$example$cofferhand$cofferhand$nbt$TagType" "[I" (.ref u_1__SwitchMap_com_example_cofferhand_cofferhand_nbt_TagType)) (F_u_TagType_LONG_ordinal : Fld Z Z.heap u_TagType_LONG "java/lang/Enum" "ordinal" "I" (.int (4 : Int32))) (V_u_1__SwitchMap_com_example_cofferhand_cofferhand_nbt_TagType : Arv Z Z.heap u_1__SwitchMap_com_example_cofferhand_cofferhand_nbt_TagType kc_u_1__SwitchMap_com_example_cofferhand_cofferhand_nbt_TagType .int (13 : Int32) [(.int (0 : Int32)), (.int (1 : Int32)), (.int (2 : Int32)), (.int (3 : Int32)), (.int (4 : Int32)), (.int (5 : Int32)), (.int (6 : Int32)), (.int (7 : Int32)), (.int (8 : Int32)), (.int (9 : Int32)), (.int (10 : Int32)), (.int (11 : Int32)), (.int (12 : Int32))] (.int (0 : Int32))) (S_CS : Sta Z Z.heap "java/lang/String" "COMPACT_STRINGS" "Z" (.int zc)) (P_CS : ¬ zc = (0 : Int32)) (S_SF : Sta Z Z.heap "jdk/internal/util/Preconditions" "SIOOBE_FORMATTER" "Ljava/util/function/BiFunction;" fmv) (rf_fmv : fmv.isRef = true) (S_AD : Sta Z Z.heap "java/lang/StringUTF16" "$assertionsDisabled" "Z" (.int (1 : Int32))) (S_HB : Sta Z Z.heap "java/lang/StringUTF16" "HI_BYTE_SHIFT" "I" (.int (0 : Int32))) (S_LB : Sta Z Z.heap "java/lang/StringUTF16" "LO_BYTE_SHIFT" "I" (.int (8 : Int32))) :
    OwnMetW l x code maxLocals ret ws room_1 #[(.int p1), (.long p2), (.int p3)] Z h0 (Q0 Z p1 p2 p3 u_TagType_LONG u_1__SwitchMap_com_example_cofferhand_cofferhand_nbt_TagType kc_u_1__SwitchMap_com_example_cofferhand_cofferhand_nbt_TagType zc fmv h0 n0) := by
  refine own_metW (EL := own_EL) (plainFor_of_name pn_7) ?_
  intro p e s m below meth c s₁ X0 hx hby hml hret hlk hown hnm hZ e0 hS_ CR
  have hk_ := Nat.le_refl h0.size
  have N0 := Fr.nil n0
  have Z_ := Z0
  refine OwnGoW.cast (ef_0 m p1 p2 p3) ?_
  have hml : c.maxLocals = 16 := hml
  show OwnGoW p e below s Z own_EL _ _ _ s₁ (mkF m 0 _ [])
  refine .iloadN X0 hx (hb hby at_0) rfl ?_
  refine .st (fun _ => X0.ldcInt hx hown (mvT hZ (W_ hw 0 rfl)) (g := (mkF m 1 #[.val (.int p1), .val (.long p2), .second, .val (.int p3), .unset, .unset, .unset, .unset, .unset, .unset, .unset, .unset, .unset, .unset, .unset, .unset] [(.int p1)])) rfl (hb hby at_1) _) ?_
  show OwnGoW p e below s Z own_EL _ _ _ s₁ (mkF m 3 _ [(.int (65535 : Int32)), (.int p1)])
  refine .st (fun _ => XS.iand X0.here hx rfl (hb hby at_3) rfl) ?_
  show OwnGoW p e below s Z own_EL _ _ _ s₁ (mkF m 4 _ [(.int (p1 &&& (65535 : Int32)))])
  refine .st (fun _ => XS.i2c X0.here hx rfl (hb hby at_4) rfl) ?_
  show OwnGoW p e below s Z own_EL _ _ _ s₁ (mkF m 5 _ [(.int ((p1 &&& (65535 : Int32)).toUInt32.toUInt16.toUInt32.toInt32))])
  obtain ⟨c0, hc0⟩ : ∃ z : Int32, z = ((p1 &&& (65535 : Int32)).toUInt32.toUInt16.toUInt32.toInt32) := ⟨_, rfl⟩
  rw [← hc0]
  show OwnGoW p e below s Z own_EL _ _ _ s₁ (mkF m 5 _ [(.int c0)])
  have P_c0 : own_u c0 := hc0 ▸ own_u_of _
  refine .istore X0 hx (hb hby at_5) (L' := #[.val (.int p1), .val (.long p2), .second, .val (.int p3), .val (.int c0), .unset, .unset, .unset, .unset, .unset, .unset, .unset, .unset, .unset, .unset, .unset]) rfl ?_
  refine .iloadN X0 hx (hb hby at_7) rfl ?_
  refine .bipush X0 hx (hb hby at_8) own_kb16 ?_
  refine .st (fun _ => XS.iushr X0.here hx rfl (hb hby at_10) rfl) ?_
  show OwnGoW p e below s Z own_EL _ _ _ s₁ (mkF m 11 _ [(.int ((p1.toUInt32 >>> ((16 : Int32) &&& 31).toUInt32).toInt32))])
  refine .st (fun _ => XS.i2c X0.here hx rfl (hb hby at_11) rfl) ?_
  show OwnGoW p e below s Z own_EL _ _ _ s₁ (mkF m 12 _ [(.int (((p1.toUInt32 >>> ((16 : Int32) &&& 31).toUInt32).toInt32).toUInt32.toUInt16.toUInt32.toInt32))])
  obtain ⟨c1, hc1⟩ : ∃ z : Int32, z = (((p1.toUInt32 >>> ((16 : Int32) &&& 31).toUInt32).toInt32).toUInt32.toUInt16.toUInt32.toInt32) := ⟨_, rfl⟩
  rw [← hc1]
  show OwnGoW p e below s Z own_EL _ _ _ s₁ (mkF m 12 _ [(.int c1)])
  have P_c1 : own_u c1 := hc1 ▸ own_u_of _
  refine .istore X0 hx (hb hby at_12) (L' := #[.val (.int p1), .val (.long p2), .second, .val (.int p3), .val (.int c0), .val (.int c1), .unset, .unset, .unset, .unset, .unset, .unset, .unset, .unset, .unset, .unset]) rfl ?_
  refine .iloadN X0 hx (hb hby at_14) rfl ?_
  refine .iconst X0 hx (hb hby at_15) own_ki3 ?_
  refine .st (fun _ => XS.iand X0.here hx rfl (hb hby at_16) rfl) ?_
  show OwnGoW p e below s Z own_EL _ _ _ s₁ (mkF m 17 _ [(.int (p3 &&& (3 : Int32)))])
  refine .iconst X0 hx (hb hby at_17) own_ki2 ?_
  obtain ⟨_, _, ⟨T292, L292, k292, n292⟩, -, X292, ⟨Lc292, hQ292, l292, y292, z292⟩, st292⟩ := Jvm.LawKit.callS X0 hx (y := (⟨"java/lang/Math", "min", "(II)I"⟩ : MethodName)) hown (mvT hZ (W_ hw 1 rfl)) (mvT hZ (W_ hw 2 rfl)) (mvT hZ (W_ hw 3 rfl)) (mvT hZ (W_ hw 4 rfl)) (by decide) (backOf (W := 0) (rmmin2 l Z a0 hw [] (p3 &&& (3 : Int32)) h0 n0 Z_ (own_and3 _)) hZ (W_ hw 4 rfl) (W_ hw 3 rfl) (by decide) (by decide)) (g := (mkF m 18 #[.val (.int p1), .val (.long p2), .second, .val (.int p3), .val (.int c0), .val (.int c1), .unset, .unset, .unset, .unset, .unset, .unset, .unset, .unset, .unset, .unset] [(.int (2 : Int32)), (.int (p3 &&& (3 : Int32)))])) rfl (by rw [hml]; rfl) (argsL := [(.int (p3 &&& (3 : Int32))), (.int (2 : Int32))]) (rest := []) (lenOf pd_30 rfl) rfl (Nat.le_of_eq rfl) (hb hby at_18) (fun _ _ => ⟨rfl, e0, (by decide : 0 + 0 ≤ _), (by decide : 0 + 0 ≤ _)⟩)
  dsimp only [Pt.U, Pt.locs, Pt.cells, Pt.slots] at X292 l292 y292 z292 st292 hQ292
  subst y292 z292
  obtain ⟨ln, rfl, N292q, e292, hln⟩ := hQ292
  have N292 := own_frl l292 N0 N292q
  refine .st st292 ?_
  show OwnGoW p e below s Z own_EL _ _ _ T292 (mkF m 21 _ [(.int ln)])
  refine .istore X292 hx (hb hby at_21) (L' := #[.val (.int p1), .val (.long p2), .second, .val (.int p3), .val (.int c0), .val (.int c1), .val (.int ln), .unset, .unset, .unset, .unset, .unset, .unset, .unset, .unset, .unset]) rfl ?_
  rcases hln with rfl | rfl | rfl
  · show OwnGoW p e below s Z own_EL _ _ _ T292 (mkF m 23 #[.val (.int p1), .val (.long p2), .second, .val (.int p3), .val (.int c0), .val (.int c1), .val (.int (0 : Int32)), .unset, .unset, .unset, .unset, .unset, .unset, .unset, .unset, .unset] [])
    refine .iload X292 hx (hb hby at_23) rfl ?_
    refine .ifNo X292 hx (hb hby at_25) ((if0 _ _).trans (teq ((by decide) : (0 : Int32) = (0 : Int32))).2) ?_
    obtain ⟨a293, T293, h293, k1_293, b293, kc293, X293, e293, E293, hS_, hkN, hZ, hown, Ea_, Fc_, Fv_, Vb_, -, -, CN, -, sN, st293⟩ := ldcCH (s := s) (vm0 := s.vm) X292 hx hZ hown (W_ hw 243 rfl) (own_wS hw) e292 hS_ hk_ (own_hEL hw) (by decide) CR.1 (vs := []) (z := (0 : Int32)) ⟨by decide, rfl⟩ (by decide) (by decide) (g := (mkF m 28 #[.val (.int p1), .val (.long p2), .second, .val (.int p3), .val (.int c0), .val (.int c1), .val (.int (0 : Int32)), .unset, .unset, .unset, .unset, .unset, .unset, .unset, .unset, .unset] [])) rfl (hb hby at_28) (n := 0) (by decide) (by decide) (by decide) (by decide)
    have O_ := O_.ext E293
    have CR := CR.trans CN
    have hk_ := hkN
    have Z_ : n0 ≤ h293.size := Nat.le_trans Z_ E293.1
    have E_a293 := Ea_
    have Fc_a293 := Fc_
    have Fv_a293 := Fv_
    have V_b293 := Vb_
    refine .st st293 ?_
    show OwnGoW p e below s Z own_EL _ _ _ T293 (mkF m 30 _ [(.ref a293)])
    refine .astore X293 hx (hb hby at_30) rfl (L' := #[.val (.int p1), .val (.long p2), .second, .val (.int p3), .val (.int c0), .val (.int c1), .val (.int (0 : Int32)), .val (.ref a293), .unset, .unset, .unset, .unset, .unset, .unset, .unset, .unset]) rfl ?_
    refine .goto (pc := 32) X293 hx 73 (hb hby at_32) (by decide) (by decide) ?_
    have SS : own_T Z h293 a293 b293 kc293 [] := ⟨E_a293, Fv_a293, Or.inl ⟨Fc_a293, V_b293, trivial⟩⟩
    refine .bipush X293 hx (hb hby at_73) own_kb17 ?_
    obtain ⟨T294, h294, k294, X294, e294, E294, A294, Ex294, st294⟩ := newPE X293 hx hZ (W_ hw 19 rfl) e293 (g := (mkF m 75 #[.val (.int p1), .val (.long p2), .second, .val (.int p3), .val (.int c0), .val (.int c1), .val (.int (0 : Int32)), .val (.ref a293), .unset, .unset, .unset, .unset, .unset, .unset, .unset, .unset] [(.int (17 : Int32))])) rfl (hb hby at_75) rfl (by decide) (cap := 17) (by decide) (by decide) (by decide) (by decide) (ad := "[B") (by decide)
    obtain ⟨b294, g294⟩ : ∃ z, z = h293.size := ⟨_, rfl⟩
    rw [← g294] at A294 Ex294 st294
    have ne_a293_b294 : a293 ≠ b294 := Nat.ne_of_lt (Nat.lt_of_lt_of_le SS.ltx (Nat.le_of_eq g294.symm))
    have ne_b293_b294 : b293 ≠ b294 := Nat.ne_of_lt (Nat.lt_of_lt_of_le SS.ltt (Nat.le_of_eq g294.symm))
    have g_b294 : n0 ≤ b294 := Nat.le_trans Z_ (Nat.le_of_eq g294.symm)
    have sf_b294 : Safe Z own_EL T293.vm h293 b294 := Safe.new (Nat.le_of_eq g294.symm)
    have SS := SS.ext E294
    have O_ := O_.ext E294
    have sf_b294 := Safe.ext E294 CR.1 sf_b294
    have CR := CR.trans (CHr.ext E294 CR.1)
    have hk_ := Nat.le_trans hk_ E294.1
    have Z_ : n0 ≤ h294.size := Nat.le_trans Z_ E294.1
    have V_b294 : Arv Z h294 b294 k294 .byte (17 : Int32) [] (.int (0 : Int32)) := Arv.new A294 (by decide)
    have E_b294 := Ex294
    refine .st st294 ?_
    show OwnGoW p e below s Z own_EL _ _ _ T294 (mkF m 77 _ [(.ref b294)])
    refine .astore X294 hx (hb hby at_77) rfl (L' := #[.val (.int p1), .val (.long p2), .second, .val (.int p3), .val (.int c0), .val (.int c1), .val (.int (0 : Int32)), .val (.ref a293), .val (.ref b294), .unset, .unset, .unset, .unset, .unset, .unset, .unset]) rfl ?_
    refine .aload X294 hx (hb hby at_79) rfl rfl ?_
    refine .iconst X294 hx (hb hby at_81) own_ki0 ?_
    refine .iconst X294 hx (hb hby at_82) own_ki4 ?_
    obtain ⟨cl295, Ar295, -, S295, -, -, -⟩ := id V_b294
    have lt295 : List.length ([] : List Int32) < 17 := (by decide)
    have ix295 : (0 : Int32) = (Int32.ofNat (List.length ([] : List Int32))) := rfl
    obtain ⟨T295, h295, X295, e295, W295, st295⟩ := stB X294 hx hZ e294 Ar295 (j := (0 : Int32)) (inb_of S295 (own_inb ix295 lt295 (by decide))) (g := (mkF m 83 #[.val (.int p1), .val (.long p2), .second, .val (.int p3), .val (.int c0), .val (.int c1), .val (.int (0 : Int32)), .val (.ref a293), .val (.ref b294), .unset, .unset, .unset, .unset, .unset, .unset, .unset] [(.int (4 : Int32)), (.int (0 : Int32)), (.ref b294)])) rfl rfl (hb hby at_83)
    have V'295 : Arv Z h295 b294 k294 .byte (17 : Int32) (List.map Value.int (([] : List Int32) ++ [(4 : Int32)])) (.int (0 : Int32)) := own_push V_b294 W295 ix295 (Nat.lt_trans lt295 (by decide)) (by decide)
    have SS := SS.wr W295 ne_a293_b294 ne_b293_b294
    have O_ := O_.wr W295 g_b294
    have sf_ := sf_b294
    have CR0 := CR.1
    have CR := CR.trans (CHr.wr W295 sf_ CR.1)
    have sf_b294 := Safe.wr W295 sf_ CR0 sf_b294
    have hk_ := Nat.le_trans hk_ (Nat.le_of_eq W295.size.symm)
    have N295 := Fr.snoc X295 N292 g_b294
    have Z_ : n0 ≤ h295.size := by rw [W295.size]; exact Z_
    have V_b294 := V'295
    refine .st st295 ?_
    show OwnGoW p e below s Z own_EL _ _ _ T295 (mkF m 84 _ [])
    have V_b294 : Arv Z h295 b294 k294 .byte (17 : Int32) (List.map Value.int ([(4 : Int32), (0 : Int32), (0 : Int32)] : List Int32)) (.int (0 : Int32)) := Arv.pad V_b294 own_pad3
    refine .iconst X295 hx (hb hby at_84) own_ki3 ?_
    refine .istore X295 hx (hb hby at_85) (L' := #[.val (.int p1), .val (.long p2), .second, .val (.int p3), .val (.int c0), .val (.int c1), .val (.int (0 : Int32)), .val (.ref a293), .val (.ref b294), .val (.int (3 : Int32)), .unset, .unset, .unset, .unset, .unset, .unset]) rfl ?_
    refine .iload X295 hx (hb hby at_87) rfl ?_
    refine .iconst X295 hx (hb hby at_89) own_ki1 ?_
    refine .icmpYes (pc := 90) X295 hx 104 (hb hby at_90) (tlt ((by decide) : (0 : Int32) < (1 : Int32))).1 (by decide) (by decide) ?_
    refine .iload X295 hx (hb hby at_104) rfl ?_
    refine .iconst X295 hx (hb hby at_106) own_ki2 ?_
    refine .icmpYes (pc := 107) X295 hx 121 (hb hby at_107) (tlt ((by decide) : (0 : Int32) < (2 : Int32))).1 (by decide) (by decide) ?_
    have eB : (([(4 : Int32), (0 : Int32), (0 : Int32)] : List Int32) ++ own_encs []) = ([(4 : Int32), (0 : Int32), (0 : Int32)] : List Int32) := by simp only [own_encs, List.append_nil]
    have V_b294 : Arv Z h295 b294 k294 .byte (17 : Int32) (List.map Value.int (([(4 : Int32), (0 : Int32), (0 : Int32)] : List Int32) ++ own_encs [])) (.int (0 : Int32)) := by rw [eB]; exact V_b294
    have eS : (3 : Int32) = (Int32.ofNat (List.length (([(4 : Int32), (0 : Int32), (0 : Int32)] : List Int32) ++ own_encs []))) := by rw [eB]; rfl
    rw [eS]
    show OwnGoW p e below s Z own_EL _ _ _ T295 (mkF m 121 #[.val (.int p1), .val (.long p2), .second, .val (.int p3), .val (.int c0), .val (.int c1), .val (.int (0 : Int32)), .val (.ref a293), .val (.ref b294), .val (.int (Int32.ofNat (List.length (([(4 : Int32), (0 : Int32), (0 : Int32)] : List Int32) ++ own_encs [])))), .unset, .unset, .unset, .unset, .unset, .unset] [])
    exact sgT p1 p2 p3 u_TagType_LONG u_1__SwitchMap_com_example_cofferhand_cofferhand_nbt_TagType kc_u_1__SwitchMap_com_example_cofferhand_cofferhand_nbt_TagType zc fmv c0 c1 (0 : Int32) b294 k294 a293 b293 kc293 [] h0 n0 hw (X295.mono (by decide) (by decide)) hx hby hml hret hlk hown hnm hZ e295 N295 Z_ hS_ hk_ CR S_u_TagType_LONG E_u_TagType_LONG F_u_TagType_LONG_id S_u_1__SwitchMap_com_example_cofferhand_cofferhand_nbt_TagType F_u_TagType_LONG_ordinal V_u_1__SwitchMap_com_example_cofferhand_cofferhand_nbt_TagType S_CS P_CS S_SF rf_fmv S_AD S_HB S_LB V_b294 SS sf_b294 ne_a293_b294 ne_b293_b294 O_ (by show 0 ≤ 2; decide) (own_all0) g_b294
  · show OwnGoW p e below s Z own_EL _ _ _ T292 (mkF m 23 #[.val (.int p1), .val (.long p2), .second, .val (.int p3), .val (.int c0), .val (.int c1), .val (.int (1 : Int32)), .unset, .unset, .unset, .unset, .unset, .unset, .unset, .unset, .unset] [])
    refine .iload X292 hx (hb hby at_23) rfl ?_
    refine .ifYes (pc := 25) X292 hx 35 (hb hby at_25) ((if0 _ _).trans (feq ((by decide) : ¬ ((1 : Int32) = (0 : Int32)))).2) (by decide) (by decide) ?_
    refine .iload X292 hx (hb hby at_35) rfl ?_
    refine .iconst X292 hx (hb hby at_37) own_ki1 ?_
    refine .icmpNo X292 hx (hb hby at_38) (teq ((by decide) : (1 : Int32) = (1 : Int32))).2 ?_
    refine .iload X292 hx (hb hby at_41) rfl ?_
    by_cases hl : (255 : Int32) < c0
    · obtain ⟨_, _, ⟨T296, L296, k296, n296⟩, -, X296, ⟨Lc296, hQ296, l296, y296, z296⟩, st296⟩ := Jvm.LawKit.callS X292 hx (y := (⟨"java/lang/String", "valueOf", "(C)Ljava/lang/String;"⟩ : MethodName)) hown (mvT hZ (W_ hw 5 rfl)) (mvT hZ (W_ hw 6 rfl)) (mvT hZ (W_ hw 7 rfl)) (mvT hZ (W_ hw 8 rfl)) (by decide) (backOf (W := 0) (rmvalU l Z a0 hw [] c0 zc h0 n0 Z_ O_ S_CS P_CS S_AD S_HB S_LB hl) hZ (W_ hw 8 rfl) (W_ hw 7 rfl) (by decide) (by decide)) (g := (mkF m 43 #[.val (.int p1), .val (.long p2), .second, .val (.int p3), .val (.int c0), .val (.int c1), .val (.int (1 : Int32)), .unset, .unset, .unset, .unset, .unset, .unset, .unset, .unset, .unset] [(.int c0)])) rfl (by rw [hml]; rfl) (argsL := [(.int c0)]) (rest := []) (lenOf pd_35 rfl) rfl (Nat.le_of_eq rfl) (hb hby at_43) (fun _ _ => ⟨rfl, e292, (by decide : 0 + 2 ≤ _), (by decide : 0 + 6 ≤ _)⟩)
      dsimp only [Pt.U, Pt.locs, Pt.cells, Pt.slots] at X296 l296 y296 z296 st296 hQ296
      subst y296 z296
      obtain ⟨x296, t296, kb296, rfl, N296q, K296, S296, zx296, zt296⟩ := hQ296
      have N296 := own_frl l296 N292 N296q
      have Z_ : n0 ≤ T296.heap.size := Nat.le_trans Z_ K296.1
      have O_ := O_.keep K296 all0
      have CR := CR.trans (CHr.keep K296 sf0 CR.1)
      have hk_ := Nat.le_trans hk_ K296.1
      refine .st st296 ?_
      show OwnGoW p e below s Z own_EL _ _ _ T296 (mkF m 46 _ [(.ref x296)])
      have SS : own_T Z T296.heap x296 t296 kb296 [c0] := S296
      refine .astore X296 hx (hb hby at_46) rfl (L' := #[.val (.int p1), .val (.long p2), .second, .val (.int p3), .val (.int c0), .val (.int c1), .val (.int (1 : Int32)), .val (.ref x296), .unset, .unset, .unset, .unset, .unset, .unset, .unset, .unset]) rfl ?_
      refine .goto (pc := 48) X296 hx 73 (hb hby at_48) (by decide) (by decide) ?_
      refine .bipush X296 hx (hb hby at_73) own_kb17 ?_
      obtain ⟨T297, h297, k297, X297, e297, E297, A297, Ex297, st297⟩ := newPE X296 hx hZ (W_ hw 19 rfl) rfl (g := (mkF m 75 #[.val (.int p1), .val (.long p2), .second, .val (.int p3), .val (.int c0), .val (.int c1), .val (.int (1 : Int32)), .val (.ref x296), .unset, .unset, .unset, .unset, .unset, .unset, .unset, .unset] [(.int (17 : Int32))])) rfl (hb hby at_75) rfl (by decide) (cap := 17) (by decide) (by decide) (by decide) (by decide) (ad := "[B") (by decide)
      obtain ⟨b297, g297⟩ : ∃ z, z = T296.heap.size := ⟨_, rfl⟩
      rw [← g297] at A297 Ex297 st297
      have ne_x296_b297 : x296 ≠ b297 := Nat.ne_of_lt (Nat.lt_of_lt_of_le SS.ltx (Nat.le_of_eq g297.symm))
      have ne_t296_b297 : t296 ≠ b297 := Nat.ne_of_lt (Nat.lt_of_lt_of_le SS.ltt (Nat.le_of_eq g297.symm))
      have g_b297 : n0 ≤ b297 := Nat.le_trans Z_ (Nat.le_of_eq g297.symm)
      have sf_b297 : Safe Z own_EL s.vm T296.heap b297 := Safe.new (Nat.le_of_eq g297.symm)
      have SS := SS.ext E297
      have O_ := O_.ext E297
      have sf_b297 := Safe.ext E297 CR.1 sf_b297
      have CR := CR.trans (CHr.ext E297 CR.1)
      have hk_ := Nat.le_trans hk_ E297.1
      have Z_ : n0 ≤ h297.size := Nat.le_trans Z_ E297.1
      have V_b297 : Arv Z h297 b297 k297 .byte (17 : Int32) [] (.int (0 : Int32)) := Arv.new A297 (by decide)
      have E_b297 := Ex297
      refine .st st297 ?_
      show OwnGoW p e below s Z own_EL _ _ _ T297 (mkF m 77 _ [(.ref b297)])
      refine .astore X297 hx (hb hby at_77) rfl (L' := #[.val (.int p1), .val (.long p2), .second, .val (.int p3), .val (.int c0), .val (.int c1), .val (.int (1 : Int32)), .val (.ref x296), .val (.ref b297), .unset, .unset, .unset, .unset, .unset, .unset, .unset]) rfl ?_
      refine .aload X297 hx (hb hby at_79) rfl rfl ?_
      refine .iconst X297 hx (hb hby at_81) own_ki0 ?_
      refine .iconst X297 hx (hb hby at_82) own_ki4 ?_
      obtain ⟨cl298, Ar298, -, S298, -, -, -⟩ := id V_b297
      have lt298 : List.length ([] : List Int32) < 17 := (by decide)
      have ix298 : (0 : Int32) = (Int32.ofNat (List.length ([] : List Int32))) := rfl
      obtain ⟨T298, h298, X298, e298, W298, st298⟩ := stB X297 hx hZ e297 Ar298 (j := (0 : Int32)) (inb_of S298 (own_inb ix298 lt298 (by decide))) (g := (mkF m 83 #[.val (.int p1), .val (.long p2), .second, .val (.int p3), .val (.int c0), .val (.int c1), .val (.int (1 : Int32)), .val (.ref x296), .val (.ref b297), .unset, .unset, .unset, .unset, .unset, .unset, .unset] [(.int (4 : Int32)), (.int (0 : Int32)), (.ref b297)])) rfl rfl (hb hby at_83)
      have V'298 : Arv Z h298 b297 k297 .byte (17 : Int32) (List.map Value.int (([] : List Int32) ++ [(4 : Int32)])) (.int (0 : Int32)) := own_push V_b297 W298 ix298 (Nat.lt_trans lt298 (by decide)) (by decide)
      have SS := SS.wr W298 ne_x296_b297 ne_t296_b297
      have O_ := O_.wr W298 g_b297
      have sf_ := sf_b297
      have CR0 := CR.1
      have CR := CR.trans (CHr.wr W298 sf_ CR.1)
      have sf_b297 := Safe.wr W298 sf_ CR0 sf_b297
      have hk_ := Nat.le_trans hk_ (Nat.le_of_eq W298.size.symm)
      have N298 := Fr.snoc X298 N296 g_b297
      have Z_ : n0 ≤ h298.size := by rw [W298.size]; exact Z_
      have V_b297 := V'298
      refine .st st298 ?_
      show OwnGoW p e below s Z own_EL _ _ _ T298 (mkF m 84 _ [])
      have V_b297 : Arv Z h298 b297 k297 .byte (17 : Int32) (List.map Value.int ([(4 : Int32), (0 : Int32), (0 : Int32)] : List Int32)) (.int (0 : Int32)) := Arv.pad V_b297 own_pad3
      refine .iconst X298 hx (hb hby at_84) own_ki3 ?_
      refine .istore X298 hx (hb hby at_85) (L' := #[.val (.int p1), .val (.long p2), .second, .val (.int p3), .val (.int c0), .val (.int c1), .val (.int (1 : Int32)), .val (.ref x296), .val (.ref b297), .val (.int (3 : Int32)), .unset, .unset, .unset, .unset, .unset, .unset]) rfl ?_
      refine .iload X298 hx (hb hby at_87) rfl ?_
      refine .iconst X298 hx (hb hby at_89) own_ki1 ?_
      refine .icmpNo X298 hx (hb hby at_90) (flt ((by decide) : ¬ ((1 : Int32) < (1 : Int32)))).1 ?_
      refine .aload X298 hx (hb hby at_93) rfl rfl ?_
      refine .iload X298 hx (hb hby at_95) rfl ?_
      refine .iload X298 hx (hb hby at_97) rfl ?_
      obtain ⟨_, _, ⟨T299, L299, k299, n299⟩, -, X299, ⟨Lc299, hQ299, l299, y299, z299⟩, st299⟩ := Jvm.LawKit.callS X298 hx (y := (⟨"com/example/cofferhand/cofferhand/nbt/NbtWriterToByteArrayPinLaw", "put", "([BIC)I"⟩ : MethodName)) hown (mvT hZ (W_ hw 31 rfl)) (mvT hZ (W_ hw 32 rfl)) (mvT hZ (W_ hw 33 rfl)) (mvT hZ (W_ hw 34 rfl)) (by decide) (backOf (W := 0) (rmput l Z a0 hw [] b297 k297 ([(4 : Int32), (0 : Int32), (0 : Int32)] : List Int32) c0 h298 n0 Z_ V_b297 g_b297 (by decide)) hZ (W_ hw 34 rfl) (W_ hw 33 rfl) (by decide) (by decide)) (g := (mkF m 99 #[.val (.int p1), .val (.long p2), .second, .val (.int p3), .val (.int c0), .val (.int c1), .val (.int (1 : Int32)), .val (.ref x296), .val (.ref b297), .val (.int (3 : Int32)), .unset, .unset, .unset, .unset, .unset, .unset] [(.int c0), (.int (3 : Int32)), (.ref b297)])) rfl (by rw [hml]; rfl) (argsL := [(.ref b297), (.int (3 : Int32)), (.int c0)]) (rest := []) (lenOf pd_36 rfl) rfl (Nat.le_of_eq rfl) (hb hby at_99) (fun _ _ => ⟨rfl, e298, (by decide : 3 + 0 ≤ _), (by decide : 23 + 0 ≤ _)⟩)
      dsimp only [Pt.U, Pt.locs, Pt.cells, Pt.slots] at X299 l299 y299 z299 st299 hQ299
      subst y299 z299
      obtain ⟨rfl, N299q, K299, V299⟩ := hQ299
      have N299 := own_frl l299 N298 N299q
      have Z_ : n0 ≤ T299.heap.size := Nat.le_trans Z_ K299.1
      have SS := SS.keep K299 (ninS ne_x296_b297 nin0) (ninS ne_t296_b297 nin0)
      have O_ := O_.keep K299 (allS g_b297 all0)
      have sf_b297' := Safe.keep K299 (sfS sf_b297 sf0) CR.1 sf_b297
      have CR := CR.trans (CHr.keep K299 (sfS sf_b297 sf0) CR.1)
      have hk_ := Nat.le_trans hk_ K299.1
      have sf_b297 := sf_b297'
      have V_b297 := V299
      refine .st st299 ?_
      show OwnGoW p e below s Z own_EL _ _ _ T299 (mkF m 102 _ [(.int (Int32.ofNat (List.length (([(4 : Int32), (0 : Int32), (0 : Int32)] : List Int32) ++ own_enc c0))))])
      refine .istore X299 hx (hb hby at_102) (L' := #[.val (.int p1), .val (.long p2), .second, .val (.int p3), .val (.int c0), .val (.int c1), .val (.int (1 : Int32)), .val (.ref x296), .val (.ref b297), .val (.int (Int32.ofNat (List.length (([(4 : Int32), (0 : Int32), (0 : Int32)] : List Int32) ++ own_enc c0)))), .unset, .unset, .unset, .unset, .unset, .unset]) rfl ?_
      refine .iload X299 hx (hb hby at_104) rfl ?_
      refine .iconst X299 hx (hb hby at_106) own_ki2 ?_
      refine .icmpYes (pc := 107) X299 hx 121 (hb hby at_107) (tlt ((by decide) : (1 : Int32) < (2 : Int32))).1 (by decide) (by decide) ?_
      have eB : (([(4 : Int32), (0 : Int32), (0 : Int32)] : List Int32) ++ own_encs [c0]) = (([(4 : Int32), (0 : Int32), (0 : Int32)] : List Int32) ++ own_enc c0) := by simp only [own_encs, List.append_nil]
      have V_b297 : Arv Z T299.heap b297 k297 .byte (17 : Int32) (List.map Value.int (([(4 : Int32), (0 : Int32), (0 : Int32)] : List Int32) ++ own_encs [c0])) (.int (0 : Int32)) := by rw [eB]; exact V_b297
      have eS : (Int32.ofNat (List.length (([(4 : Int32), (0 : Int32), (0 : Int32)] : List Int32) ++ own_enc c0))) = (Int32.ofNat (List.length (([(4 : Int32), (0 : Int32), (0 : Int32)] : List Int32) ++ own_encs [c0]))) := by rw [eB]
      rw [eS]
      show OwnGoW p e below s Z own_EL _ _ _ T299 (mkF m 121 #[.val (.int p1), .val (.long p2), .second, .val (.int p3), .val (.int c0), .val (.int c1), .val (.int (1 : Int32)), .val (.ref x296), .val (.ref b297), .val (.int (Int32.ofNat (List.length (([(4 : Int32), (0 : Int32), (0 : Int32)] : List Int32) ++ own_encs [c0])))), .unset, .unset, .unset, .unset, .unset, .unset] [])
      exact sgT p1 p2 p3 u_TagType_LONG u_1__SwitchMap_com_example_cofferhand_cofferhand_nbt_TagType kc_u_1__SwitchMap_com_example_cofferhand_cofferhand_nbt_TagType zc fmv c0 c1 (1 : Int32) b297 k297 x296 t296 kb296 [c0] h0 n0 hw (X299.mono (by decide) (by decide)) hx hby hml hret hlk hown hnm hZ rfl N299 Z_ hS_ hk_ CR S_u_TagType_LONG E_u_TagType_LONG F_u_TagType_LONG_id S_u_1__SwitchMap_com_example_cofferhand_cofferhand_nbt_TagType F_u_TagType_LONG_ordinal V_u_1__SwitchMap_com_example_cofferhand_cofferhand_nbt_TagType S_CS P_CS S_SF rf_fmv S_AD S_HB S_LB V_b297 SS sf_b297 ne_x296_b297 ne_t296_b297 O_ (by show 1 ≤ 2; decide) (own_all1 P_c0) g_b297
    · obtain ⟨_, _, ⟨T300, L300, k300, n300⟩, -, X300, ⟨Lc300, hQ300, l300, y300, z300⟩, st300⟩ := Jvm.LawKit.callS X292 hx (y := (⟨"java/lang/String", "valueOf", "(C)Ljava/lang/String;"⟩ : MethodName)) hown (mvT hZ (W_ hw 5 rfl)) (mvT hZ (W_ hw 6 rfl)) (mvT hZ (W_ hw 7 rfl)) (mvT hZ (W_ hw 8 rfl)) (by decide) (backOf (W := 0) (rmvalueOfC l Z a0 hw [] c0 zc h0 n0 Z_ O_ S_CS P_CS hl) hZ (W_ hw 8 rfl) (W_ hw 7 rfl) (by decide) (by decide)) (g := (mkF m 43 #[.val (.int p1), .val (.long p2), .second, .val (.int p3), .val (.int c0), .val (.int c1), .val (.int (1 : Int32)), .unset, .unset, .unset, .unset, .unset, .unset, .unset, .unset, .unset] [(.int c0)])) rfl (by rw [hml]; rfl) (argsL := [(.int c0)]) (rest := []) (lenOf pd_35 rfl) rfl (Nat.le_of_eq rfl) (hb hby at_43) (fun _ _ => ⟨rfl, e292, (by decide : 0 + 2 ≤ _), (by decide : 0 + 5 ≤ _)⟩)
      dsimp only [Pt.U, Pt.locs, Pt.cells, Pt.slots] at X300 l300 y300 z300 st300 hQ300
      subst y300 z300
      obtain ⟨x300, t300, kb300, rfl, N300q, K300, E300, Fc300, Fv300, V300, zx300, zt300⟩ := hQ300
      have N300 := own_frl l300 N292 N300q
      have Z_ : n0 ≤ T300.heap.size := Nat.le_trans Z_ K300.1
      have O_ := O_.keep K300 all0
      have CR := CR.trans (CHr.keep K300 sf0 CR.1)
      have hk_ := Nat.le_trans hk_ K300.1
      refine .st st300 ?_
      show OwnGoW p e below s Z own_EL _ _ _ T300 (mkF m 46 _ [(.ref x300)])
      have SS : own_T Z T300.heap x300 t300 kb300 [c0] := ⟨E300, Fv300, Or.inl ⟨Fc300, V300, hl⟩⟩
      refine .astore X300 hx (hb hby at_46) rfl (L' := #[.val (.int p1), .val (.long p2), .second, .val (.int p3), .val (.int c0), .val (.int c1), .val (.int (1 : Int32)), .val (.ref x300), .unset, .unset, .unset, .unset, .unset, .unset, .unset, .unset]) rfl ?_
      refine .goto (pc := 48) X300 hx 73 (hb hby at_48) (by decide) (by decide) ?_
      refine .bipush X300 hx (hb hby at_73) own_kb17 ?_
      obtain ⟨T301, h301, k301, X301, e301, E301, A301, Ex301, st301⟩ := newPE X300 hx hZ (W_ hw 19 rfl) rfl (g := (mkF m 75 #[.val (.int p1), .val (.long p2), .second, .val (.int p3), .val (.int c0), .val (.int c1), .val (.int (1 : Int32)), .val (.ref x300), .unset, .unset, .unset, .unset, .unset, .unset, .unset, .unset] [(.int (17 : Int32))])) rfl (hb hby at_75) rfl (by decide) (cap := 17) (by decide) (by decide) (by decide) (by decide) (ad := "[B") (by decide)
      obtain ⟨b301, g301⟩ : ∃ z, z = T300.heap.size := ⟨_, rfl⟩
      rw [← g301] at A301 Ex301 st301
      have ne_x300_b301 : x300 ≠ b301 := Nat.ne_of_lt (Nat.lt_of_lt_of_le SS.ltx (Nat.le_of_eq g301.symm))
      have ne_t300_b301 : t300 ≠ b301 := Nat.ne_of_lt (Nat.lt_of_lt_of_le SS.ltt (Nat.le_of_eq g301.symm))
      have g_b301 : n0 ≤ b301 := Nat.le_trans Z_ (Nat.le_of_eq g301.symm)
      have sf_b301 : Safe Z own_EL s.vm T300.heap b301 := Safe.new (Nat.le_of_eq g301.symm)
      have SS := SS.ext E301
      have O_ := O_.ext E301
      have sf_b301 := Safe.ext E301 CR.1 sf_b301
      have CR := CR.trans (CHr.ext E301 CR.1)
      have hk_ := Nat.le_trans hk_ E301.1
      have Z_ : n0 ≤ h301.size := Nat.le_trans Z_ E301.1
      have V_b301 : Arv Z h301 b301 k301 .byte (17 : Int32) [] (.int (0 : Int32)) := Arv.new A301 (by decide)
      have E_b301 := Ex301
      refine .st st301 ?_
      show OwnGoW p e below s Z own_EL _ _ _ T301 (mkF m 77 _ [(.ref b301)])
      refine .astore X301 hx (hb hby at_77) rfl (L' := #[.val (.int p1), .val (.long p2), .second, .val (.int p3), .val (.int c0), .val (.int c1), .val (.int (1 : Int32)), .val (.ref x300), .val (.ref b301), .unset, .unset, .unset, .unset, .unset, .unset, .unset]) rfl ?_
      refine .aload X301 hx (hb hby at_79) rfl rfl ?_
      refine .iconst X301 hx (hb hby at_81) own_ki0 ?_
      refine .iconst X301 hx (hb hby at_82) own_ki4 ?_
      obtain ⟨cl302, Ar302, -, S302, -, -, -⟩ := id V_b301
      have lt302 : List.length ([] : List Int32) < 17 := (by decide)
      have ix302 : (0 : Int32) = (Int32.ofNat (List.length ([] : List Int32))) := rfl
      obtain ⟨T302, h302, X302, e302, W302, st302⟩ := stB X301 hx hZ e301 Ar302 (j := (0 : Int32)) (inb_of S302 (own_inb ix302 lt302 (by decide))) (g := (mkF m 83 #[.val (.int p1), .val (.long p2), .second, .val (.int p3), .val (.int c0), .val (.int c1), .val (.int (1 : Int32)), .val (.ref x300), .val (.ref b301), .unset, .unset, .unset, .unset, .unset, .unset, .unset] [(.int (4 : Int32)), (.int (0 : Int32)), (.ref b301)])) rfl rfl (hb hby at_83)
      have V'302 : Arv Z h302 b301 k301 .byte (17 : Int32) (List.map Value.int (([] : List Int32) ++ [(4 : Int32)])) (.int (0 : Int32)) := own_push V_b301 W302 ix302 (Nat.lt_trans lt302 (by decide)) (by decide)
      have SS := SS.wr W302 ne_x300_b301 ne_t300_b301
      have O_ := O_.wr W302 g_b301
      have sf_ := sf_b301
      have CR0 := CR.1
      have CR := CR.trans (CHr.wr W302 sf_ CR.1)
      have sf_b301 := Safe.wr W302 sf_ CR0 sf_b301
      have hk_ := Nat.le_trans hk_ (Nat.le_of_eq W302.size.symm)
      have N302 := Fr.snoc X302 N300 g_b301
      have Z_ : n0 ≤ h302.size := by rw [W302.size]; exact Z_
      have V_b301 := V'302
      refine .st st302 ?_
      show OwnGoW p e below s Z own_EL _ _ _ T302 (mkF m 84 _ [])
      have V_b301 : Arv Z h302 b301 k301 .byte (17 : Int32) (List.map Value.int ([(4 : Int32), (0 : Int32), (0 : Int32)] : List Int32)) (.int (0 : Int32)) := Arv.pad V_b301 own_pad3
      refine .iconst X302 hx (hb hby at_84) own_ki3 ?_
      refine .istore X302 hx (hb hby at_85) (L' := #[.val (.int p1), .val (.long p2), .second, .val (.int p3), .val (.int c0), .val (.int c1), .val (.int (1 : Int32)), .val (.ref x300), .val (.ref b301), .val (.int (3 : Int32)), .unset, .unset, .unset, .unset, .unset, .unset]) rfl ?_
      refine .iload X302 hx (hb hby at_87) rfl ?_
      refine .iconst X302 hx (hb hby at_89) own_ki1 ?_
      refine .icmpNo X302 hx (hb hby at_90) (flt ((by decide) : ¬ ((1 : Int32) < (1 : Int32)))).1 ?_
      refine .aload X302 hx (hb hby at_93) rfl rfl ?_
      refine .iload X302 hx (hb hby at_95) rfl ?_
      refine .iload X302 hx (hb hby at_97) rfl ?_
      obtain ⟨_, _, ⟨T303, L303, k303, n303⟩, -, X303, ⟨Lc303, hQ303, l303, y303, z303⟩, st303⟩ := Jvm.LawKit.callS X302 hx (y := (⟨"com/example/cofferhand/cofferhand/nbt/NbtWriterToByteArrayPinLaw", "put", "([BIC)I"⟩ : MethodName)) hown (mvT hZ (W_ hw 31 rfl)) (mvT hZ (W_ hw 32 rfl)) (mvT hZ (W_ hw 33 rfl)) (mvT hZ (W_ hw 34 rfl)) (by decide) (backOf (W := 0) (rmput l Z a0 hw [] b301 k301 ([(4 : Int32), (0 : Int32), (0 : Int32)] : List Int32) c0 h302 n0 Z_ V_b301 g_b301 (by decide)) hZ (W_ hw 34 rfl) (W_ hw 33 rfl) (by decide) (by decide)) (g := (mkF m 99 #[.val (.int p1), .val (.long p2), .second, .val (.int p3), .val (.int c0), .val (.int c1), .val (.int (1 : Int32)), .val (.ref x300), .val (.ref b301), .val (.int (3 : Int32)), .unset, .unset, .unset, .unset, .unset, .unset] [(.int c0), (.int (3 : Int32)), (.ref b301)])) rfl (by rw [hml]; rfl) (argsL := [(.ref b301), (.int (3 : Int32)), (.int c0)]) (rest := []) (lenOf pd_36 rfl) rfl (Nat.le_of_eq rfl) (hb hby at_99) (fun _ _ => ⟨rfl, e302, (by decide : 3 + 0 ≤ _), (by decide : 22 + 0 ≤ _)⟩)
      dsimp only [Pt.U, Pt.locs, Pt.cells, Pt.slots] at X303 l303 y303 z303 st303 hQ303
      subst y303 z303
      obtain ⟨rfl, N303q, K303, V303⟩ := hQ303
      have N303 := own_frl l303 N302 N303q
      have Z_ : n0 ≤ T303.heap.size := Nat.le_trans Z_ K303.1
      have SS := SS.keep K303 (ninS ne_x300_b301 nin0) (ninS ne_t300_b301 nin0)
      have O_ := O_.keep K303 (allS g_b301 all0)
      have sf_b301' := Safe.keep K303 (sfS sf_b301 sf0) CR.1 sf_b301
      have CR := CR.trans (CHr.keep K303 (sfS sf_b301 sf0) CR.1)
      have hk_ := Nat.le_trans hk_ K303.1
      have sf_b301 := sf_b301'
      have V_b301 := V303
      refine .st st303 ?_
      show OwnGoW p e below s Z own_EL _ _ _ T303 (mkF m 102 _ [(.int (Int32.ofNat (List.length (([(4 : Int32), (0 : Int32), (0 : Int32)] : List Int32) ++ own_enc c0))))])
      refine .istore X303 hx (hb hby at_102) (L' := #[.val (.int p1), .val (.long p2), .second, .val (.int p3), .val (.int c0), .val (.int c1), .val (.int (1 : Int32)), .val (.ref x300), .val (.ref b301), .val (.int (Int32.ofNat (List.length (([(4 : Int32), (0 : Int32), (0 : Int32)] : List Int32) ++ own_enc c0)))), .unset, .unset, .unset, .unset, .unset, .unset]) rfl ?_
      refine .iload X303 hx (hb hby at_104) rfl ?_
      refine .iconst X303 hx (hb hby at_106) own_ki2 ?_
      refine .icmpYes (pc := 107) X303 hx 121 (hb hby at_107) (tlt ((by decide) : (1 : Int32) < (2 : Int32))).1 (by decide) (by decide) ?_
      have eB : (([(4 : Int32), (0 : Int32), (0 : Int32)] : List Int32) ++ own_encs [c0]) = (([(4 : Int32), (0 : Int32), (0 : Int32)] : List Int32) ++ own_enc c0) := by simp only [own_encs, List.append_nil]
      have V_b301 : Arv Z T303.heap b301 k301 .byte (17 : Int32) (List.map Value.int (([(4 : Int32), (0 : Int32), (0 : Int32)] : List Int32) ++ own_encs [c0])) (.int (0 : Int32)) := by rw [eB]; exact V_b301
      have eS : (Int32.ofNat (List.length (([(4 : Int32), (0 : Int32), (0 : Int32)] : List Int32) ++ own_enc c0))) = (Int32.ofNat (List.length (([(4 : Int32), (0 : Int32), (0 : Int32)] : List Int32) ++ own_encs [c0]))) := by rw [eB]
      rw [eS]
      show OwnGoW p e below s Z own_EL _ _ _ T303 (mkF m 121 #[.val (.int p1), .val (.long p2), .second, .val (.int p3), .val (.int c0), .val (.int c1), .val (.int (1 : Int32)), .val (.ref x300), .val (.ref b301), .val (.int (Int32.ofNat (List.length (([(4 : Int32), (0 : Int32), (0 : Int32)] : List Int32) ++ own_encs [c0])))), .unset, .unset, .unset, .unset, .unset, .unset] [])
      exact sgT p1 p2 p3 u_TagType_LONG u_1__SwitchMap_com_example_cofferhand_cofferhand_nbt_TagType kc_u_1__SwitchMap_com_example_cofferhand_cofferhand_nbt_TagType zc fmv c0 c1 (1 : Int32) b301 k301 x300 t300 kb300 [c0] h0 n0 hw (X303.mono (by decide) (by decide)) hx hby hml hret hlk hown hnm hZ rfl N303 Z_ hS_ hk_ CR S_u_TagType_LONG E_u_TagType_LONG F_u_TagType_LONG_id S_u_1__SwitchMap_com_example_cofferhand_cofferhand_nbt_TagType F_u_TagType_LONG_ordinal V_u_1__SwitchMap_com_example_cofferhand_cofferhand_nbt_TagType S_CS P_CS S_SF rf_fmv S_AD S_HB S_LB V_b301 SS sf_b301 ne_x300_b301 ne_t300_b301 O_ (by show 1 ≤ 2; decide) (own_all1 P_c0) g_b301
  · show OwnGoW p e below s Z own_EL _ _ _ T292 (mkF m 23 #[.val (.int p1), .val (.long p2), .second, .val (.int p3), .val (.int c0), .val (.int c1), .val (.int (2 : Int32)), .unset, .unset, .unset, .unset, .unset, .unset, .unset, .unset, .unset] [])
    refine .iload X292 hx (hb hby at_23) rfl ?_
    refine .ifYes (pc := 25) X292 hx 35 (hb hby at_25) ((if0 _ _).trans (feq ((by decide) : ¬ ((2 : Int32) = (0 : Int32)))).2) (by decide) (by decide) ?_
    refine .iload X292 hx (hb hby at_35) rfl ?_
    refine .iconst X292 hx (hb hby at_37) own_ki1 ?_
    refine .icmpYes (pc := 38) X292 hx 51 (hb hby at_38) (feq ((by decide) : ¬ ((2 : Int32) = (1 : Int32)))).2 (by decide) (by decide) ?_
    obtain ⟨T304, h304, X304, e304, E304, A304, D304, -, st304⟩ := newO X292 hx hZ hown (W_ hw 225 rfl) (W_ hw 15 rfl) (W_ hw 7 rfl) e292 (g := (mkF m 51 #[.val (.int p1), .val (.long p2), .second, .val (.int p3), .val (.int c0), .val (.int c1), .val (.int (2 : Int32)), .unset, .unset, .unset, .unset, .unset, .unset, .unset, .unset, .unset] [])) rfl (hb hby at_51) (by decide) (by decide)
    obtain ⟨b304, g304⟩ : ∃ z, z = h0.size := ⟨_, rfl⟩
    rw [← g304] at A304 D304 st304
    have g_b304 : n0 ≤ b304 := Nat.le_trans Z_ (Nat.le_of_eq g304.symm)
    have sf_b304 : Safe Z own_EL s.vm h0 b304 := Safe.new (Nat.le_of_eq g304.symm)
    have O_ := O_.ext E304
    have sf_b304 := Safe.ext E304 CR.1 sf_b304
    have CR := CR.trans (CHr.ext E304 CR.1)
    have hk_ := Nat.le_trans hk_ E304.1
    have Z_ : n0 ≤ h304.size := Nat.le_trans Z_ E304.1
    have E_b304 := A304
    have F_value_b304 : Fld Z h304 b304 "java/lang/String" "value" "[B" .null := D304 (Or.inr (W_ hw 28 rfl)) (ty := (.array .byte)) (by decide)
    have F_coder_b304 : Fld Z h304 b304 "java/lang/String" "coder" "B" (.int (0 : Int32)) := D304 (Or.inr (W_ hw 30 rfl)) (ty := .byte) (by decide)
    refine .st st304 ?_
    show OwnGoW p e below s Z own_EL _ _ _ T304 (mkF m 54 _ [(.ref b304)])
    refine .dup X304 hx (hb hby at_54) rfl ?_
    refine .iconst X304 hx (hb hby at_55) own_ki2 ?_
    obtain ⟨T305, h305, k305, X305, e305, E305, A305, Ex305, st305⟩ := newPE X304 hx hZ (W_ hw 226 rfl) e304 (g := (mkF m 56 #[.val (.int p1), .val (.long p2), .second, .val (.int p3), .val (.int c0), .val (.int c1), .val (.int (2 : Int32)), .unset, .unset, .unset, .unset, .unset, .unset, .unset, .unset, .unset] [(.int (2 : Int32)), (.ref b304), (.ref b304)])) rfl (hb hby at_56) rfl (by decide) (cap := 2) (by decide) (by decide) (by decide) (by decide) (ad := "[C") (by decide)
    obtain ⟨b305, g305⟩ : ∃ z, z = h304.size := ⟨_, rfl⟩
    rw [← g305] at A305 Ex305 st305
    have ne_b304_b305 : b304 ≠ b305 := Nat.ne_of_lt (Nat.lt_of_lt_of_le E_b304.lt (Nat.le_of_eq g305.symm))
    have g_b305 : n0 ≤ b305 := Nat.le_trans Z_ (Nat.le_of_eq g305.symm)
    have sf_b305 : Safe Z own_EL s.vm h304 b305 := Safe.new (Nat.le_of_eq g305.symm)
    have E_b304 := E_b304.ext E305
    have F_value_b304 := F_value_b304.ext E305
    have F_coder_b304 := F_coder_b304.ext E305
    have O_ := O_.ext E305
    have sf_b304 := Safe.ext E305 CR.1 sf_b304
    have sf_b305 := Safe.ext E305 CR.1 sf_b305
    have CR := CR.trans (CHr.ext E305 CR.1)
    have hk_ := Nat.le_trans hk_ E305.1
    have Z_ : n0 ≤ h305.size := Nat.le_trans Z_ E305.1
    have V_b305 : Arv Z h305 b305 k305 .char (2 : Int32) [(.int (0 : Int32)), (.int (0 : Int32))] (.int (0 : Int32)) := (Arv.new A305 (by decide)).pad (pad_rep [] (.int (0 : Int32)) 2)
    have E_b305 := Ex305
    refine .st st305 ?_
    show OwnGoW p e below s Z own_EL _ _ _ T305 (mkF m 58 _ [(.ref b305), (.ref b304), (.ref b304)])
    refine .dup X305 hx (hb hby at_58) rfl ?_
    refine .iconst X305 hx (hb hby at_59) own_ki0 ?_
    refine .iload X305 hx (hb hby at_60) rfl ?_
    obtain ⟨cl306, Ar306, q306, S306, N306, H306, G306⟩ := id V_b305
    have hin306 : ¬ ((0 : Int32) < 0 ∨ cl306.slots.size ≤ ((0 : Int32)).toNatClampNeg) := inb_of S306 ⟨by decide, by decide⟩
    obtain ⟨T306, h306, X306, e306, W306, st306⟩ := stC X305 hx hZ e305 Ar306 (j := (0 : Int32)) hin306 (g := (mkF m 62 #[.val (.int p1), .val (.long p2), .second, .val (.int p3), .val (.int c0), .val (.int c1), .val (.int (2 : Int32)), .unset, .unset, .unset, .unset, .unset, .unset, .unset, .unset, .unset] [(.int c0), (.int (0 : Int32)), (.ref b305), (.ref b305), (.ref b304), (.ref b304)])) rfl rfl (hb hby at_62)
    have V_b305 : Arv Z h306 b305 k305 .char (2 : Int32) [(.int (nar .char c0)), (.int (0 : Int32))] (.int (0 : Int32)) := Arv.set Ar306 q306 S306 N306 H306 G306 (fits_nar_char _) W306 0 rfl (Nat.le_of_ble_eq_true rfl)
    rw [show nar .char c0 = c0 from (own_unc P_c0)] at V_b305
    have E_b304 := E_b304.wr W306
    have F_value_b304 := F_value_b304.other W306 (Or.inl ne_b304_b305)
    have F_coder_b304 := F_coder_b304.other W306 (Or.inl ne_b304_b305)
    have E_b305 := E_b305.wr W306
    have O_ := O_.wr W306 g_b305
    have sf_ := sf_b305
    have CR0 := CR.1
    have CR := CR.trans (CHr.wr W306 sf_ CR.1)
    have sf_b304 := Safe.wr W306 sf_ CR0 sf_b304
    have sf_b305 := Safe.wr W306 sf_ CR0 sf_b305
    have hk_ := Nat.le_trans hk_ (Nat.le_of_eq W306.size.symm)
    have N306 := Fr.snoc X306 N292 g_b305
    have Z_ : n0 ≤ h306.size := by rw [W306.size]; exact Z_
    refine .st st306 ?_
    show OwnGoW p e below s Z own_EL _ _ _ T306 (mkF m 63 _ [(.ref b305), (.ref b304), (.ref b304)])
    refine .dup X306 hx (hb hby at_63) rfl ?_
    refine .iconst X306 hx (hb hby at_64) own_ki1 ?_
    refine .iload X306 hx (hb hby at_65) rfl ?_
    obtain ⟨cl307, Ar307, q307, S307, N307, H307, G307⟩ := id V_b305
    have hin307 : ¬ ((1 : Int32) < 0 ∨ cl307.slots.size ≤ ((1 : Int32)).toNatClampNeg) := inb_of S307 ⟨by decide, by decide⟩
    obtain ⟨T307, h307, X307, e307, W307, st307⟩ := stC X306 hx hZ e306 Ar307 (j := (1 : Int32)) hin307 (g := (mkF m 67 #[.val (.int p1), .val (.long p2), .second, .val (.int p3), .val (.int c0), .val (.int c1), .val (.int (2 : Int32)), .unset, .unset, .unset, .unset, .unset, .unset, .unset, .unset, .unset] [(.int c1), (.int (1 : Int32)), (.ref b305), (.ref b305), (.ref b304), (.ref b304)])) rfl rfl (hb hby at_67)
    have V_b305 : Arv Z h307 b305 k305 .char (2 : Int32) [(.int c0), (.int (nar .char c1))] (.int (0 : Int32)) := Arv.set Ar307 q307 S307 N307 H307 G307 (fits_nar_char _) W307 1 rfl (Nat.le_of_ble_eq_true rfl)
    rw [show nar .char c1 = c1 from (own_unc P_c1)] at V_b305
    have E_b304 := E_b304.wr W307
    have F_value_b304 := F_value_b304.other W307 (Or.inl ne_b304_b305)
    have F_coder_b304 := F_coder_b304.other W307 (Or.inl ne_b304_b305)
    have E_b305 := E_b305.wr W307
    have O_ := O_.wr W307 g_b305
    have sf_ := sf_b305
    have CR0 := CR.1
    have CR := CR.trans (CHr.wr W307 sf_ CR.1)
    have sf_b304 := Safe.wr W307 sf_ CR0 sf_b304
    have sf_b305 := Safe.wr W307 sf_ CR0 sf_b305
    have hk_ := Nat.le_trans hk_ (Nat.le_of_eq W307.size.symm)
    have N307 := Fr.snoc X307 N306 g_b305
    have Z_ : n0 ≤ h307.size := by rw [W307.size]; exact Z_
    refine .st st307 ?_
    show OwnGoW p e below s Z own_EL _ _ _ T307 (mkF m 68 _ [(.ref b305), (.ref b304), (.ref b304)])
    obtain ⟨_, _, ⟨T308, L308, k308, n308⟩, -, X308, ⟨Lc308, hQ308, l308, y308, z308⟩, st308⟩ := X307.specialBack hx (y := (⟨"java/lang/String", "<init>", "([C)V"⟩ : MethodName)) rfl hown (mvT hZ (W_ hw 227 rfl)) (mvT hZ (W_ hw 228 rfl)) (mvT hZ (W_ hw 229 rfl)) (by decide) (backOf (W := 1) (rmiC2 l Z a0 hw [] b304 b305 k305 c0 c1 zc h307 n0 Z_ O_ S_CS P_CS S_AD S_HB S_LB E_b304 F_value_b304 F_coder_b304 g_b304 V_b305 (Ne.symm ne_b304_b305) P_c0 P_c1) hZ (W_ hw 229 rfl) (W_ hw 7 rfl) (by decide) (by decide)) (g := (mkF m 68 #[.val (.int p1), .val (.long p2), .second, .val (.int p3), .val (.int c0), .val (.int c1), .val (.int (2 : Int32)), .unset, .unset, .unset, .unset, .unset, .unset, .unset, .unset, .unset] [(.ref b305), (.ref b304), (.ref b304)])) rfl (by rw [hml]; rfl) (Steps.refl _) (a := b304) (argsL := [(.ref b305)]) (rest := [(.ref b304)]) (lenOf pd_37 rfl) rfl (Nat.le_of_eq rfl) (hb hby at_68) (fun _ _ => ⟨rfl, e307, (by decide : 2 + 2 ≤ _), (by decide : 6 + 6 ≤ _)⟩)
    dsimp only [Pt.U, Pt.locs, Pt.cells, Pt.slots] at X308 l308 y308 z308 st308 hQ308
    subst y308 z308
    obtain ⟨t308, kb308, rfl, N308q, K308, S308, zt308⟩ := hQ308
    have N308 := own_frl l308 N307 N308q
    have Z_ : n0 ≤ T308.heap.size := Nat.le_trans Z_ K308.1
    have E_b304 := E_b304.keep K308
    have V_b305 := V_b305.keep K308 (ninS (Ne.symm ne_b304_b305) nin0)
    have E_b305 := E_b305.keep K308
    have O_ := O_.keep K308 (allS g_b304 all0)
    have sf_b305' := Safe.keep K308 (sfS sf_b304 sf0) CR.1 sf_b305
    have sf_b304' := Safe.keep K308 (sfS sf_b304 sf0) CR.1 sf_b304
    have CR := CR.trans (CHr.keep K308 (sfS sf_b304 sf0) CR.1)
    have hk_ := Nat.le_trans hk_ K308.1
    have sf_b304 := sf_b304'
    have sf_b305 := sf_b305'
    refine .st (fun _ => st308.trans) ?_
    show OwnGoW p e below s Z own_EL _ _ _ T308 (mkF m 71 _ [(.ref b304)])
    have SS : own_T Z T308.heap b304 t308 kb308 [c0, c1] := S308
    refine .astore X308 hx (hb hby at_71) rfl (L' := #[.val (.int p1), .val (.long p2), .second, .val (.int p3), .val (.int c0), .val (.int c1), .val (.int (2 : Int32)), .val (.ref b304), .unset, .unset, .unset, .unset, .unset, .unset, .unset, .unset]) rfl ?_
    refine .bipush X308 hx (hb hby at_73) own_kb17 ?_
    obtain ⟨T309, h309, k309, X309, e309, E309, A309, Ex309, st309⟩ := newPE X308 hx hZ (W_ hw 19 rfl) rfl (g := (mkF m 75 #[.val (.int p1), .val (.long p2), .second, .val (.int p3), .val (.int c0), .val (.int c1), .val (.int (2 : Int32)), .val (.ref b304), .unset, .unset, .unset, .unset, .unset, .unset, .unset, .unset] [(.int (17 : Int32))])) rfl (hb hby at_75) rfl (by decide) (cap := 17) (by decide) (by decide) (by decide) (by decide) (ad := "[B") (by decide)
    obtain ⟨b309, g309⟩ : ∃ z, z = T308.heap.size := ⟨_, rfl⟩
    rw [← g309] at A309 Ex309 st309
    have ne_b304_b309 : b304 ≠ b309 := Nat.ne_of_lt (Nat.lt_of_lt_of_le SS.ltx (Nat.le_of_eq g309.symm))
    have ne_t308_b309 : t308 ≠ b309 := Nat.ne_of_lt (Nat.lt_of_lt_of_le SS.ltt (Nat.le_of_eq g309.symm))
    have g_b309 : n0 ≤ b309 := Nat.le_trans Z_ (Nat.le_of_eq g309.symm)
    have sf_b309 : Safe Z own_EL s.vm T308.heap b309 := Safe.new (Nat.le_of_eq g309.symm)
    have SS := SS.ext E309
    have O_ := O_.ext E309
    have sf_b309 := Safe.ext E309 CR.1 sf_b309
    have CR := CR.trans (CHr.ext E309 CR.1)
    have hk_ := Nat.le_trans hk_ E309.1
    have Z_ : n0 ≤ h309.size := Nat.le_trans Z_ E309.1
    have V_b309 : Arv Z h309 b309 k309 .byte (17 : Int32) [] (.int (0 : Int32)) := Arv.new A309 (by decide)
    have E_b309 := Ex309
    refine .st st309 ?_
    show OwnGoW p e below s Z own_EL _ _ _ T309 (mkF m 77 _ [(.ref b309)])
    refine .astore X309 hx (hb hby at_77) rfl (L' := #[.val (.int p1), .val (.long p2), .second, .val (.int p3), .val (.int c0), .val (.int c1), .val (.int (2 : Int32)), .val (.ref b304), .val (.ref b309), .unset, .unset, .unset, .unset, .unset, .unset, .unset]) rfl ?_
    refine .aload X309 hx (hb hby at_79) rfl rfl ?_
    refine .iconst X309 hx (hb hby at_81) own_ki0 ?_
    refine .iconst X309 hx (hb hby at_82) own_ki4 ?_
    obtain ⟨cl310, Ar310, -, S310, -, -, -⟩ := id V_b309
    have lt310 : List.length ([] : List Int32) < 17 := (by decide)
    have ix310 : (0 : Int32) = (Int32.ofNat (List.length ([] : List Int32))) := rfl
    obtain ⟨T310, h310, X310, e310, W310, st310⟩ := stB X309 hx hZ e309 Ar310 (j := (0 : Int32)) (inb_of S310 (own_inb ix310 lt310 (by decide))) (g := (mkF m 83 #[.val (.int p1), .val (.long p2), .second, .val (.int p3), .val (.int c0), .val (.int c1), .val (.int (2 : Int32)), .val (.ref b304), .val (.ref b309), .unset, .unset, .unset, .unset, .unset, .unset, .unset] [(.int (4 : Int32)), (.int (0 : Int32)), (.ref b309)])) rfl rfl (hb hby at_83)
    have V'310 : Arv Z h310 b309 k309 .byte (17 : Int32) (List.map Value.int (([] : List Int32) ++ [(4 : Int32)])) (.int (0 : Int32)) := own_push V_b309 W310 ix310 (Nat.lt_trans lt310 (by decide)) (by decide)
    have SS := SS.wr W310 ne_b304_b309 ne_t308_b309
    have O_ := O_.wr W310 g_b309
    have sf_ := sf_b309
    have CR0 := CR.1
    have CR := CR.trans (CHr.wr W310 sf_ CR.1)
    have sf_b309 := Safe.wr W310 sf_ CR0 sf_b309
    have hk_ := Nat.le_trans hk_ (Nat.le_of_eq W310.size.symm)
    have N310 := Fr.snoc X310 N308 g_b309
    have Z_ : n0 ≤ h310.size := by rw [W310.size]; exact Z_
    have V_b309 := V'310
    refine .st st310 ?_
    show OwnGoW p e below s Z own_EL _ _ _ T310 (mkF m 84 _ [])
    have V_b309 : Arv Z h310 b309 k309 .byte (17 : Int32) (List.map Value.int ([(4 : Int32), (0 : Int32), (0 : Int32)] : List Int32)) (.int (0 : Int32)) := Arv.pad V_b309 own_pad3
    refine .iconst X310 hx (hb hby at_84) own_ki3 ?_
    refine .istore X310 hx (hb hby at_85) (L' := #[.val (.int p1), .val (.long p2), .second, .val (.int p3), .val (.int c0), .val (.int c1), .val (.int (2 : Int32)), .val (.ref b304), .val (.ref b309), .val (.int (3 : Int32)), .unset, .unset, .unset, .unset, .unset, .unset]) rfl ?_
    refine .iload X310 hx (hb hby at_87) rfl ?_
    refine .iconst X310 hx (hb hby at_89) own_ki1 ?_
    refine .icmpNo X310 hx (hb hby at_90) (flt ((by decide) : ¬ ((2 : Int32) < (1 : Int32)))).1 ?_
    refine .aload X310 hx (hb hby at_93) rfl rfl ?_
    refine .iload X310 hx (hb hby at_95) rfl ?_
    refine .iload X310 hx (hb hby at_97) rfl ?_
    obtain ⟨_, _, ⟨T311, L311, k311, n311⟩, -, X311, ⟨Lc311, hQ311, l311, y311, z311⟩, st311⟩ := Jvm.LawKit.callS X310 hx (y := (⟨"com/example/cofferhand/cofferhand/nbt/NbtWriterToByteArrayPinLaw", "put", "([BIC)I"⟩ : MethodName)) hown (mvT hZ (W_ hw 31 rfl)) (mvT hZ (W_ hw 32 rfl)) (mvT hZ (W_ hw 33 rfl)) (mvT hZ (W_ hw 34 rfl)) (by decide) (backOf (W := 0) (rmput l Z a0 hw [] b309 k309 ([(4 : Int32), (0 : Int32), (0 : Int32)] : List Int32) c0 h310 n0 Z_ V_b309 g_b309 (by decide)) hZ (W_ hw 34 rfl) (W_ hw 33 rfl) (by decide) (by decide)) (g := (mkF m 99 #[.val (.int p1), .val (.long p2), .second, .val (.int p3), .val (.int c0), .val (.int c1), .val (.int (2 : Int32)), .val (.ref b304), .val (.ref b309), .val (.int (3 : Int32)), .unset, .unset, .unset, .unset, .unset, .unset] [(.int c0), (.int (3 : Int32)), (.ref b309)])) rfl (by rw [hml]; rfl) (argsL := [(.ref b309), (.int (3 : Int32)), (.int c0)]) (rest := []) (lenOf pd_36 rfl) rfl (Nat.le_of_eq rfl) (hb hby at_99) (fun _ _ => ⟨rfl, e310, (by decide : 5 + 0 ≤ _), (by decide : 29 + 0 ≤ _)⟩)
    dsimp only [Pt.U, Pt.locs, Pt.cells, Pt.slots] at X311 l311 y311 z311 st311 hQ311
    subst y311 z311
    obtain ⟨rfl, N311q, K311, V311⟩ := hQ311
    have N311 := own_frl l311 N310 N311q
    have Z_ : n0 ≤ T311.heap.size := Nat.le_trans Z_ K311.1
    have SS := SS.keep K311 (ninS ne_b304_b309 nin0) (ninS ne_t308_b309 nin0)
    have O_ := O_.keep K311 (allS g_b309 all0)
    have sf_b309' := Safe.keep K311 (sfS sf_b309 sf0) CR.1 sf_b309
    have CR := CR.trans (CHr.keep K311 (sfS sf_b309 sf0) CR.1)
    have hk_ := Nat.le_trans hk_ K311.1
    have sf_b309 := sf_b309'
    have V_b309 := V311
    refine .st st311 ?_
    show OwnGoW p e below s Z own_EL _ _ _ T311 (mkF m 102 _ [(.int (Int32.ofNat (List.length (([(4 : Int32), (0 : Int32), (0 : Int32)] : List Int32) ++ own_enc c0))))])
    refine .istore X311 hx (hb hby at_102) (L' := #[.val (.int p1), .val (.long p2), .second, .val (.int p3), .val (.int c0), .val (.int c1), .val (.int (2 : Int32)), .val (.ref b304), .val (.ref b309), .val (.int (Int32.ofNat (List.length (([(4 : Int32), (0 : Int32), (0 : Int32)] : List Int32) ++ own_enc c0)))), .unset, .unset, .unset, .unset, .unset, .unset]) rfl ?_
    refine .iload X311 hx (hb hby at_104) rfl ?_
    refine .iconst X311 hx (hb hby at_106) own_ki2 ?_
    refine .icmpNo X311 hx (hb hby at_107) (flt ((by decide) : ¬ ((2 : Int32) < (2 : Int32)))).1 ?_
    refine .aload X311 hx (hb hby at_110) rfl rfl ?_
    refine .iload X311 hx (hb hby at_112) rfl ?_
    refine .iload X311 hx (hb hby at_114) rfl ?_
    obtain ⟨_, _, ⟨T312, L312, k312, n312⟩, -, X312, ⟨Lc312, hQ312, l312, y312, z312⟩, st312⟩ := Jvm.LawKit.callS X311 hx (y := (⟨"com/example/cofferhand/cofferhand/nbt/NbtWriterToByteArrayPinLaw", "put", "([BIC)I"⟩ : MethodName)) hown (mvT hZ (W_ hw 31 rfl)) (mvT hZ (W_ hw 32 rfl)) (mvT hZ (W_ hw 33 rfl)) (mvT hZ (W_ hw 34 rfl)) (by decide) (backOf (W := 0) (rmput l Z a0 hw [] b309 k309 (([(4 : Int32), (0 : Int32), (0 : Int32)] : List Int32) ++ own_enc c0) c1 T311.heap n0 Z_ V_b309 g_b309 (by have z_ := own_encl c0; rw [List.length_append]; show 3 + _ + 3 ≤ 17; omega)) hZ (W_ hw 34 rfl) (W_ hw 33 rfl) (by decide) (by decide)) (g := (mkF m 116 #[.val (.int p1), .val (.long p2), .second, .val (.int p3), .val (.int c0), .val (.int c1), .val (.int (2 : Int32)), .val (.ref b304), .val (.ref b309), .val (.int (Int32.ofNat (List.length (([(4 : Int32), (0 : Int32), (0 : Int32)] : List Int32) ++ own_enc c0)))), .unset, .unset, .unset, .unset, .unset, .unset] [(.int c1), (.int (Int32.ofNat (List.length (([(4 : Int32), (0 : Int32), (0 : Int32)] : List Int32) ++ own_enc c0)))), (.ref b309)])) rfl (by rw [hml]; rfl) (argsL := [(.ref b309), (.int (Int32.ofNat (List.length (([(4 : Int32), (0 : Int32), (0 : Int32)] : List Int32) ++ own_enc c0)))), (.int c1)]) (rest := []) (lenOf pd_36 rfl) rfl (Nat.le_of_eq rfl) (hb hby at_116) (fun _ _ => ⟨rfl, rfl, (by decide : 5 + 0 ≤ _), (by decide : 29 + 0 ≤ _)⟩)
    dsimp only [Pt.U, Pt.locs, Pt.cells, Pt.slots] at X312 l312 y312 z312 st312 hQ312
    subst y312 z312
    obtain ⟨rfl, N312q, K312, V312⟩ := hQ312
    have N312 := own_frl l312 N311 N312q
    have Z_ : n0 ≤ T312.heap.size := Nat.le_trans Z_ K312.1
    have SS := SS.keep K312 (ninS ne_b304_b309 nin0) (ninS ne_t308_b309 nin0)
    have O_ := O_.keep K312 (allS g_b309 all0)
    have sf_b309' := Safe.keep K312 (sfS sf_b309 sf0) CR.1 sf_b309
    have CR := CR.trans (CHr.keep K312 (sfS sf_b309 sf0) CR.1)
    have hk_ := Nat.le_trans hk_ K312.1
    have sf_b309 := sf_b309'
    have V_b309 := V312
    refine .st st312 ?_
    show OwnGoW p e below s Z own_EL _ _ _ T312 (mkF m 119 _ [(.int (Int32.ofNat (List.length ((([(4 : Int32), (0 : Int32), (0 : Int32)] : List Int32) ++ own_enc c0) ++ own_enc c1))))])
    refine .istore X312 hx (hb hby at_119) (L' := #[.val (.int p1), .val (.long p2), .second, .val (.int p3), .val (.int c0), .val (.int c1), .val (.int (2 : Int32)), .val (.ref b304), .val (.ref b309), .val (.int (Int32.ofNat (List.length ((([(4 : Int32), (0 : Int32), (0 : Int32)] : List Int32) ++ own_enc c0) ++ own_enc c1)))), .unset, .unset, .unset, .unset, .unset, .unset]) rfl ?_
    have eB : (([(4 : Int32), (0 : Int32), (0 : Int32)] : List Int32) ++ own_encs [c0, c1]) = ((([(4 : Int32), (0 : Int32), (0 : Int32)] : List Int32) ++ own_enc c0) ++ own_enc c1) := by simp only [own_encs, List.append_nil, List.append_assoc]
    have V_b309 : Arv Z T312.heap b309 k309 .byte (17 : Int32) (List.map Value.int (([(4 : Int32), (0 : Int32), (0 : Int32)] : List Int32) ++ own_encs [c0, c1])) (.int (0 : Int32)) := by rw [eB]; exact V_b309
    have eS : (Int32.ofNat (List.length ((([(4 : Int32), (0 : Int32), (0 : Int32)] : List Int32) ++ own_enc c0) ++ own_enc c1))) = (Int32.ofNat (List.length (([(4 : Int32), (0 : Int32), (0 : Int32)] : List Int32) ++ own_encs [c0, c1]))) := by rw [eB]
    rw [eS]
    show OwnGoW p e below s Z own_EL _ _ _ T312 (mkF m 121 #[.val (.int p1), .val (.long p2), .second, .val (.int p3), .val (.int c0), .val (.int c1), .val (.int (2 : Int32)), .val (.ref b304), .val (.ref b309), .val (.int (Int32.ofNat (List.length (([(4 : Int32), (0 : Int32), (0 : Int32)] : List Int32) ++ own_encs [c0, c1])))), .unset, .unset, .unset, .unset, .unset, .unset] [])
    exact sgT p1 p2 p3 u_TagType_LONG u_1__SwitchMap_com_example_cofferhand_cofferhand_nbt_TagType kc_u_1__SwitchMap_com_example_cofferhand_cofferhand_nbt_TagType zc fmv c0 c1 (2 : Int32) b309 k309 b304 t308 kb308 [c0, c1] h0 n0 hw (X312.mono (by decide) (by decide)) hx hby hml hret hlk hown hnm hZ rfl N312 Z_ hS_ hk_ CR S_u_TagType_LONG E_u_TagType_LONG F_u_TagType_LONG_id S_u_1__SwitchMap_com_example_cofferhand_cofferhand_nbt_TagType F_u_TagType_LONG_ordinal V_u_1__SwitchMap_com_example_cofferhand_cofferhand_nbt_TagType S_CS P_CS S_SF rf_fmv S_AD S_HB S_LB V_b309 SS sf_b309 ne_b304_b309 ne_t308_b309 O_ (by show 2 ≤ 2; decide) (own_all2 P_c0 P_c1) g_b309
theorem comes_1 {Post : Tables → Env → Array Value → State → Outcome → State → Prop} (hpost : ∀ tb e args s v u, (limb_1_1.after args s (.returned v) u = true ∧ limb_1_2.after args s (.returned v) u = true ∧ True) → ReturnedEndW s (.returned v) u (Jvm.fieldLocs frame_1_writes args s ++ Jvm.arrayLocs frame_1_arrays args s ++ Jvm.staticLocs frame_1_statics s) 40 3840 → Post tb e args s (.returned v) u) :
    ArmFor flags0 classFile x code maxLocals ret World_1 tables_1 room_1 Calls_1 rest_1 Pre_1 Post := by
  intro l hfl _ _ p e ha hc hk s m args below hf hA hF happ hP
  obtain ⟨hcalls, hrest, hpre⟩ := hP
  obtain ⟨-, -, -, hnamed, -, -, -, hat⟩ := (Spec.applies_iff hf).mp happ
  obtain ⟨hg, hn⟩ := and_e (Cond.before_iff.mp (show (Jvm.Cond.and given_1 narrow_1).before args s = true from hpre))
  obtain ⟨hcnt, hg⟩ := and_e hg
  obtain ⟨hg0, hg⟩ := and_e hg
  obtain ⟨hg1, hg⟩ := and_e hg
  have hg2 := hg
  obtain ⟨w0, w1, w2, rfl⟩ : ∃ w0 w1 w2 : Value, args = #[w0, w1, w2] := by
    have hs : args.size = 3 := by simpa [Cond.value, given_1] using hcnt
    obtain ⟨L⟩ := args
    match L, hs with
    | [w0, w1, w2], _ => exact ⟨w0, w1, w2, rfl⟩
  have hw := fun d (hd : d ∈ tables_1) => atoms_spec (ws := Jvm.Cond.code x code maxLocals ret :: tables_1) hat d (List.mem_cons_of_mem _ hd)
  have hfit : Fit s := fun {y c} hc i hi => by
    obtain ⟨ha, rfl⟩ := Array.getElem?_eq_some_iff.mp hc
    have q := List.all_eq_true.mp ((Array.all_eq_true_iff_forall_mem.mp hF) _ (Array.getElem_mem ha)) i (List.mem_range.mpr hi)
    simpa [Array.getElem?_eq_getElem hi] using q
  obtain ⟨i0, ei0⟩ := is_v hg0
  obtain rfl : w0 = (.int i0) := Option.some.inj ei0
  obtain ⟨i1, ei1⟩ := isL_v hg1
  obtain rfl : w1 = (.long i1) := Option.some.inj ei1
  obtain ⟨i2, ei2⟩ := is_v hg2
  obtain rfl : w2 = (.int i2) := Option.some.inj ei2
  obtain ⟨nr0, hn⟩ := and_e hn
  obtain ⟨nr1, hn⟩ := and_e hn
  obtain ⟨nr2, hn⟩ := and_e hn
  obtain ⟨nr3, hn⟩ := and_e hn
  obtain ⟨nr4, hn⟩ := and_e hn
  have nr5 := hn
  obtain ⟨u_TagType_LONG, ev_u_TagType_LONG⟩ := exa_v nr0
  have S_u_TagType_LONG := Sta.start ev_u_TagType_LONG (Or.inr ⟨(W_ hw 131 rfl), (W_ hw 132 rfl)⟩)
  have E_u_TagType_LONG := Exa.start ev_u_TagType_LONG nr0
  have ev_nr1 := own_eqi nr1
  have F_u_TagType_LONG_id := Fld.start (C := "com/example/cofferhand/cofferhand/nbt/TagType") (n := "id") (d := "I") ((fld_at ev_u_TagType_LONG).symm.trans ev_nr1)
  obtain ⟨u_1__SwitchMap_com_example_cofferhand_cofferhand_nbt_TagType, ev_u_1__SwitchMap_com_example_cofferhand_cofferhand_nbt_TagType⟩ := arr_v nr2
  have S_u_1__SwitchMap_com_example_cofferhand_cofferhand_nbt_TagType := Sta.start ev_u_1__SwitchMap_com_example_cofferhand_cofferhand_nbt_TagType (Or.inr ⟨(W_ hw 193 rfl), (W_ hw 194 rfl)⟩)
  obtain ⟨cl_u_1__SwitchMap_com_example_cofferhand_cofferhand_nbt_TagType, A_u_1__SwitchMap_com_example_cofferhand_cofferhand_nbt_TagType⟩ := Arr.start ev_u_1__SwitchMap_com_example_cofferhand_cofferhand_nbt_TagType nr2
  have ev_nr4 := own_eqi nr4
  have F_u_TagType_LONG_ordinal := Fld.start (C := "java/lang/Enum") (n := "ordinal") (d := "I") ((fld_at ev_u_TagType_LONG).symm.trans ev_nr4)
  -- nr5: (Jvm.Cond.all (Jvm.Term.static "com/example/cofferhand/cofferhand/nbt/NbtWriter$1" "$SwitchMap$com$example$cofferhand$co
  have hl13 := own_lenv ev_u_1__SwitchMap_com_example_cofferhand_cofferhand_nbt_TagType A_u_1__SwitchMap_com_example_cofferhand_cofferhand_nbt_TagType nr3
  have V_u_1__SwitchMap_com_example_cofferhand_cofferhand_nbt_TagType := Arv.start (dv := (.int (0 : Int32))) (vs := [(.int (0 : Int32)), (.int (1 : Int32)), (.int (2 : Int32)), (.int (3 : Int32)), (.int (4 : Int32)), (.int (5 : Int32)), (.int (6 : Int32)), (.int (7 : Int32)), (.int (8 : Int32)), (.int (9 : Int32)), (.int (10 : Int32)), (.int (11 : Int32)), (.int (12 : Int32))]) hfit A_u_1__SwitchMap_com_example_cofferhand_cofferhand_nbt_TagType hl13.1 hl13.2 (by decide) rfl ⟨own_all ev_u_1__SwitchMap_com_example_cofferhand_cofferhand_nbt_TagType (fun _ => rfl) A_u_1__SwitchMap_com_example_cofferhand_cofferhand_nbt_TagType nr5 hl13 0 (by decide), own_all ev_u_1__SwitchMap_com_example_cofferhand_cofferhand_nbt_TagType (fun _ => rfl) A_u_1__SwitchMap_com_example_cofferhand_cofferhand_nbt_TagType nr5 hl13 1 (by decide), own_all ev_u_1__SwitchMap_com_example_cofferhand_cofferhand_nbt_TagType (fun _ => rfl) A_u_1__SwitchMap_com_example_cofferhand_cofferhand_nbt_TagType nr5 hl13 2 (by decide), own_all ev_u_1__SwitchMap_com_example_cofferhand_cofferhand_nbt_TagType (fun _ => rfl) A_u_1__SwitchMap_com_example_cofferhand_cofferhand_nbt_TagType nr5 hl13 3 (by decide), own_all ev_u_1__SwitchMap_com_example_cofferhand_cofferhand_nbt_TagType (fun _ => rfl) A_u_1__SwitchMap_com_example_cofferhand_cofferhand_nbt_TagType nr5 hl13 4 (by decide), own_all ev_u_1__SwitchMap_com_example_cofferhand_cofferhand_nbt_TagType (fun _ => rfl) A_u_1__SwitchMap_com_example_cofferhand_cofferhand_nbt_TagType nr5 hl13 5 (by decide), own_all ev_u_1__SwitchMap_com_example_cofferhand_cofferhand_nbt_TagType (fun _ => rfl) A_u_1__SwitchMap_com_example_cofferhand_cofferhand_nbt_TagType nr5 hl13 6 (by decide), own_all ev_u_1__SwitchMap_com_example_cofferhand_cofferhand_nbt_TagType (fun _ => rfl) A_u_1__SwitchMap_com_example_cofferhand_cofferhand_nbt_TagType nr5 hl13 7 (by decide), own_all ev_u_1__SwitchMap_com_example_cofferhand_cofferhand_nbt_TagType (fun _ => rfl) A_u_1__SwitchMap_com_example_cofferhand_cofferhand_nbt_TagType nr5 hl13 8 (by decide), own_all ev_u_1__SwitchMap_com_example_cofferhand_cofferhand_nbt_TagType (fun _ => rfl) A_u_1__SwitchMap_com_example_cofferhand_cofferhand_nbt_TagType nr5 hl13 9 (by decide), own_all ev_u_1__SwitchMap_com_example_cofferhand_cofferhand_nbt_TagType (fun _ => rfl) A_u_1__SwitchMap_com_example_cofferhand_cofferhand_nbt_TagType nr5 hl13 10 (by decide), own_all ev_u_1__SwitchMap_com_example_cofferhand_cofferhand_nbt_TagType (fun _ => rfl) A_u_1__SwitchMap_com_example_cofferhand_cofferhand_nbt_TagType nr5 hl13 11 (by decide), own_all ev_u_1__SwitchMap_com_example_cofferhand_cofferhand_nbt_TagType (fun _ => rfl) A_u_1__SwitchMap_com_example_cofferhand_cofferhand_nbt_TagType nr5 hl13 12 (by decide), trivial⟩
  obtain ⟨kc_u_1__SwitchMap_com_example_cofferhand_cofferhand_nbt_TagType, V_u_1__SwitchMap_com_example_cofferhand_cofferhand_nbt_TagType⟩ : ∃ k, Arv s s.heap u_1__SwitchMap_com_example_cofferhand_cofferhand_nbt_TagType k .int (13 : Int32) [(.int (0 : Int32)), (.int (1 : Int32)), (.int (2 : Int32)), (.int (3 : Int32)), (.int (4 : Int32)), (.int (5 : Int32)), (.int (6 : Int32)), (.int (7 : Int32)), (.int (8 : Int32)), (.int (9 : Int32)), (.int (10 : Int32)), (.int (11 : Int32)), (.int (12 : Int32))] (.int (0 : Int32)) := ⟨_, V_u_1__SwitchMap_com_example_cofferhand_cofferhand_nbt_TagType⟩
  obtain ⟨hsets, hown0⟩ := atoms_of _ (rest_1_c_eq ▸ (show rest_1_c.before _ s = true from hrest))
  obtain ⟨zc, ev_zc⟩ := is_v (Cond.before_iff.mp (hsets _ (List.mem_of_getElem? (i := 1) rfl)))
  have S_CS := Sta.start ev_zc (Or.inl (hsets _ (List.mem_of_getElem? (i := 0) rfl)))
  have P_CS : ¬ zc = (0 : Int32) := gotF (Cond.eq_ints ev_zc (Term.int_eval (0))) (not_v (Cond.before_iff.mp (hsets _ (List.mem_of_getElem? (i := 2) rfl))))
  obtain ⟨fmv, ev_fm, rf_fmv⟩ := isR_v (Cond.before_iff.mp (hsets _ (List.mem_of_getElem? (i := 8) rfl)))
  have S_SF := Sta.start ev_fm (Or.inl (hsets _ (List.mem_of_getElem? (i := 7) rfl)))
  have S_AD := Sta.start (own_eqi (Cond.before_iff.mp (hsets _ (List.mem_of_getElem? (i := 12) rfl)))) (Or.inl (hsets _ (List.mem_of_getElem? (i := 11) rfl)))
  have S_HB := Sta.start (own_eqi (Cond.before_iff.mp (hsets _ (List.mem_of_getElem? (i := 15) rfl)))) (Or.inl (hsets _ (List.mem_of_getElem? (i := 14) rfl)))
  have S_LB := Sta.start (own_eqi (Cond.before_iff.mp (hsets _ (List.mem_of_getElem? (i := 18) rfl)))) (Or.inl (hsets _ (List.mem_of_getElem? (i := 17) rfl)))
  obtain ⟨n, o, h1, h2, h3, _, L, rfl, ⟨rfl, N⟩, -, hq⟩ := rm0 l s _ hw tables_1 i0 i1 i2 u_TagType_LONG u_1__SwitchMap_com_example_cofferhand_cofferhand_nbt_TagType kc_u_1__SwitchMap_com_example_cofferhand_cofferhand_nbt_TagType zc fmv s.heap s.heap.size (Nat.le_refl _) (Old.start s) S_u_TagType_LONG E_u_TagType_LONG F_u_TagType_LONG_id S_u_1__SwitchMap_com_example_cofferhand_cofferhand_nbt_TagType F_u_TagType_LONG_ordinal V_u_1__SwitchMap_com_example_cofferhand_cofferhand_nbt_TagType S_CS P_CS S_SF rf_fmv S_AD S_HB S_LB  p e ha hc hk s m _ below hf ((Spec.applies_iff_loose hf).mp happ).1 ⟨rfl, State.Warmed39.refl s, rfl, (CHv.start (own_hEL hw) (fun q hq => (hcalls.1 : Jvm.Lit.constsHeld consts_1 s) q ((by decide : ∀ q ∈ own_EL, q ∈ consts_1) q hq)) (hsets _ (List.mem_of_getElem? (i := 2) rfl)) (W_ hw 19 rfl) (W_ hw 15 rfl))⟩ trivial
  refine ⟨n, _, h1, h2, h3, hpost _ _ _ _ _ _ ⟨Cond.after_iff.mpr rfl, Cond.after_iff.mpr (eq_i res_at (Term.int_eval (1)) rfl), trivial⟩ ⟨hq.1, hq.2.1, hq.2.2.1, (hq.2.2.2.sift fun y hy => Or.inr (N y hy)).mono (by decide) (by decide)⟩⟩
theorem main_1_1 : Claimed_1_1 := comes_1 fun _ _ _ _ _ _ h hF => ⟨h.1, hF⟩
theorem main_1_2 : Claimed_1_2 := comes_1 fun _ _ _ _ _ _ h hF => ⟨h.2.1, hF⟩
end Jvm.Pilot.@@N@@
namespace Jvm.Pilot.@@N@@
open Jvm Jvm.ClassFile Sem Op Lib Jvm.Free Jvm.Stand Jvm.Pilot.@@N@@.Jvm.D
/-! MADE BY PROGRAM (witnessworld.py) out of the Statement's table words and the real class files: 32 classes; the members and pool entries that the words name. The judged class is class 1, her method 1. -/
namespace start1
open Jvm.ClassFile
def u (s : String) : CpInfo := .utf8 (stringToUtf16 s)
/-- a pool by its gaps: so many unusable entries, then the entry; so many at the end -/
def gap : Nat → List CpInfo → List CpInfo
  | 0, r => r
  | n + 1, r => .unusable :: gap n r
def poolList (es : List (Nat × CpInfo)) (last : Nat) : List CpInfo := es.foldr (fun e r => gap e.1 (e.2 :: r)) (gap last [])
def pool (es : List (Nat × CpInfo)) (last : Nat) : Array CpInfo := ⟨poolList es last⟩
def fileOf (pool : Array CpInfo) (this : Nat) (attrs : Array Attribute := #[]) (ms : Array MethodInfo := #[]) (fl : Nat := 33) (sup : Nat := 0) (ifs : Array Nat := #[]) (fds : Array FieldInfo := #[]) : ClassFile where
  minorVersion := 0
  majorVersion := 65
  constantPool := pool
  accessFlags := fl
  thisClass := this
  superClass := sup
  interfaces := ifs
  fields := fds
  methods := ms
  attributes := attrs
def plain (name : String) (sup : Option ClassId) : Class where
  name := name
  kind := .ordinary
  loader := none
  accessFlags := 33
  super := sup
  interfaces := #[]
  cf := none
  fields := #[]
  methods := #[]
  instanceTypes := #[]
  staticTypes := #[]
  resolved := #[]
  callSites := []
  init := .initialized
  statics := none
  mirror := none

def pool0 : Array CpInfo := pool [(5, u "<init>"), (0, u "()V"), (1, .class_ 10), (1, u "java/lang/Object")] 113

def k0c0 : Code := { maxStack := 0, maxLocals := 1, code := object_method_1_code, exceptionTable := #[], attributes := #[] }
def k0m0 : Method := { name := "<init>", desc := "()V", sig := { parameters := [], returnType := none }, accessFlags := 1, code := some k0c0 }
/-- java/lang/Object -/
def k0 : Class := { plain "java/lang/Object" none with
  accessFlags := 33
  interfaces := #[]
  cf := some (fileOf pool0 8 #[] #[{ accessFlags := 1, nameIndex := 5, descriptorIndex := 6, attributes := #[] }] 33 0 #[] #[])
  fields := #[]
  methods := #[k0m0]
  instanceTypes := #[]
  staticTypes := #[]
  resolved := Array.replicate 124 none
  statics := none }

def pool1 : Array CpInfo := pool [(2, .class_ 4), (0, .nameAndType 5 6), (0, u "java/lang/Object"), (0, u "<init>"), (0, u "()V"), (0, .integer 65535), (0, .methodref 9 10), (0, .class_ 11), (0, .nameAndType 12 13), (0, u "java/lang/Math"), (0, u "min"), (0, u "(II)I"), (0, .string 15), (0, u ""), (0, .methodref 17 18), (0, .class_ 19), (0, .nameAndType 20 21), (0, u "java/lang/String"), (0, u "valueOf"), (0, u "(C)Ljava/lang/String;"), (0, .methodref 17 23), (0, .nameAndType 5 24), (0, u "([C)V"), (0, .methodref 26 27), (0, .class_ 28), (0, .nameAndType 29 30), (0, u "com/example/cofferhand/cofferhand/nbt/NbtWriterToByteArrayPinLaw"), (0, u "put"), (0, u "([BIC)I"), (0, .class_ 32), (0, u "com/example/cofferhand/cofferhand/nbt/NamedTag"), (0, .class_ 34), (0, u "com/example/cofferhand/cofferhand/nbt/LongTag"), (0, .methodref 33 36), (0, .nameAndType 5 37), (0, u "(J)V"), (0, .methodref 31 39), (0, .nameAndType 5 40), (0, u "(Ljava/lang/String;Lcom/example/cofferhand/cofferhand/nbt/Tag;)V"), (0, .class_ 42), (0, u "com/example/cofferhand/cofferhand/nbt/NbtWriter"), (0, .methodref 41 3), (0, .methodref 41 45), (0, .nameAndType 46 47), (0, u "toByteArray"), (0, u "()[B"), (0, .methodref 41 49), (0, .nameAndType 50 51), (0, u "writeRoot"), (0, u "(Lcom/example/cofferhand/cofferhand/nbt/NamedTag;)V"), (0, .methodref 26 53), (0, .nameAndType 54 55), (0, u "allSame"), (0, u "([BI[BI)Z"), (0, .methodref 26 57), (0, .nameAndType 58 59), (0, u "same"), (0, u "([BI[BII)Z"), (2, u "law"), (0, u "(IJI)Z")] 5

def k1m0 : Method := { name := "<init>", desc := "()V", sig := { parameters := [], returnType := none }, accessFlags := 1, code := none }
def k1c1 : Code := { maxStack := 7, maxLocals := 16, code := code, exceptionTable := #[], attributes := #[] }
def k1m1 : Method := { name := "law", desc := "(IJI)Z", sig := { parameters := [.int, .long, .int], returnType := some .boolean }, accessFlags := 9, code := some k1c1 }
def k1c2 : Code := { maxStack := 5, maxLocals := 3, code := method_3_code, exceptionTable := #[], attributes := #[] }
def k1m2 : Method := { name := "put", desc := "([BIC)I", sig := { parameters := [(.array .byte), .int, .char], returnType := some .int }, accessFlags := 10, code := some k1c2 }
def k1c3 : Code := { maxStack := 3, maxLocals := 5, code := method_4_code, exceptionTable := #[], attributes := #[] }
def k1m3 : Method := { name := "same", desc := "([BI[BII)Z", sig := { parameters := [(.array .byte), .int, (.array .byte), .int, .int], returnType := some .boolean }, accessFlags := 10, code := some k1c3 }
def k1c4 : Code := { maxStack := 5, maxLocals := 4, code := method_5_code, exceptionTable := #[], attributes := #[] }
def k1m4 : Method := { name := "allSame", desc := "([BI[BI)Z", sig := { parameters := [(.array .byte), .int, (.array .byte), .int], returnType := some .boolean }, accessFlags := 10, code := some k1c4 }
/-- com/example/cofferhand/cofferhand/nbt/NbtWriterToByteArrayPinLaw -/
def k1 : Class := { plain "com/example/cofferhand/cofferhand/nbt/NbtWriterToByteArrayPinLaw" (some 0) with
  accessFlags := 49
  interfaces := #[]
  cf := some (fileOf pool1 26 #[] #[{ accessFlags := 1, nameIndex := 5, descriptorIndex := 6, attributes := #[] }, { accessFlags := 9, nameIndex := 62, descriptorIndex := 63, attributes := #[] }, { accessFlags := 10, nameIndex := 29, descriptorIndex := 30, attributes := #[] }, { accessFlags := 10, nameIndex := 58, descriptorIndex := 59, attributes := #[] }, { accessFlags := 10, nameIndex := 54, descriptorIndex := 55, attributes := #[] }] 49 2 #[] #[])
  fields := #[]
  methods := #[k1m0, k1m1, k1m2, k1m3, k1m4]
  instanceTypes := #[]
  staticTypes := #[]
  resolved := Array.replicate 69 none
  statics := none }

def pool2 : Array CpInfo := pool [(1, .class_ 2), (0, u "java/lang/Math"), (1, .class_ 6), (1, u "java/lang/Object"), (0, u "<init>"), (0, u "()V"), (89, .class_ 100), (1, u "java/lang/Math$RandomNumberGeneratorHolder"), (71, u "negativeZeroFloatBits"), (0, u "J"), (2, u "negativeZeroDoubleBits"), (24, u "min"), (43, u "$assertionsDisabled"), (0, u "Z"), (88, u "(II)I"), (2, u "twoToTheDoubleScaleDown"), (0, u "D"), (4, u "twoToTheDoubleScaleUp"), (9, u "E"), (3, u "PI"), (2, u "TAU"), (2, u "DEGREES_TO_RADIANS"), (0, u "RADIANS_TO_DEGREES")] 94

def k2m0 : Method := { name := "<init>", desc := "()V", sig := { parameters := [], returnType := none }, accessFlags := 2, code := none }
def k2c1 : Code := { maxStack := 2, maxLocals := 2, code := jdk_29_method_69_code, exceptionTable := #[], attributes := #[] }
def k2m1 : Method := { name := "min", desc := "(II)I", sig := { parameters := [.int, .int], returnType := some .int }, accessFlags := 9, code := some k2c1 }
/-- java/lang/Math -/
def k2 : Class := { plain "java/lang/Math" (some 0) with
  accessFlags := 49
  interfaces := #[]
  cf := some (fileOf pool2 1 #[.nestMembers #[98]] #[{ accessFlags := 2, nameIndex := 7, descriptorIndex := 8, attributes := #[] }, { accessFlags := 9, nameIndex := 201, descriptorIndex := 335, attributes := #[] }] 49 4 #[] #[{ accessFlags := 25, nameIndex := 354, descriptorIndex := 339, attributes := #[] }, { accessFlags := 25, nameIndex := 358, descriptorIndex := 339, attributes := #[] }, { accessFlags := 25, nameIndex := 361, descriptorIndex := 339, attributes := #[] }, { accessFlags := 26, nameIndex := 364, descriptorIndex := 339, attributes := #[] }, { accessFlags := 26, nameIndex := 365, descriptorIndex := 339, attributes := #[] }, { accessFlags := 26, nameIndex := 172, descriptorIndex := 173, attributes := #[] }, { accessFlags := 26, nameIndex := 176, descriptorIndex := 173, attributes := #[] }, { accessFlags := 8, nameIndex := 344, descriptorIndex := 339, attributes := #[] }, { accessFlags := 8, nameIndex := 338, descriptorIndex := 339, attributes := #[] }, { accessFlags := 4120, nameIndex := 245, descriptorIndex := 246, attributes := #[] }])
  fields := #[{ name := "E", type := .double, accessFlags := 25, slot := 0, constantValue := 0 }, { name := "PI", type := .double, accessFlags := 25, slot := 1, constantValue := 0 }, { name := "TAU", type := .double, accessFlags := 25, slot := 2, constantValue := 0 }, { name := "DEGREES_TO_RADIANS", type := .double, accessFlags := 26, slot := 3, constantValue := 0 }, { name := "RADIANS_TO_DEGREES", type := .double, accessFlags := 26, slot := 4, constantValue := 0 }, { name := "negativeZeroFloatBits", type := .long, accessFlags := 26, slot := 5, constantValue := 0 }, { name := "negativeZeroDoubleBits", type := .long, accessFlags := 26, slot := 6, constantValue := 0 }, { name := "twoToTheDoubleScaleUp", type := .double, accessFlags := 8, slot := 7, constantValue := 0 }, { name := "twoToTheDoubleScaleDown", type := .double, accessFlags := 8, slot := 8, constantValue := 0 }, { name := "$assertionsDisabled", type := .boolean, accessFlags := 4120, slot := 9, constantValue := 0 }]
  methods := #[k2m0, k2m1]
  instanceTypes := #[]
  staticTypes := #[.double, .double, .double, .double, .double, .long, .long, .double, .double, .boolean]
  resolved := Array.replicate 460 none
  statics := none }

def pool3 : Array CpInfo := pool [(1, .class_ 2), (0, u "java/io/Serializable"), (0, .class_ 4), (0, u "java/lang/Object")] 2

/-- java/io/Serializable -/
def k3 : Class := { plain "java/io/Serializable" (some 0) with
  accessFlags := 1537
  interfaces := #[]
  cf := some (fileOf pool3 1 #[] #[] 1537 3 #[] #[])
  fields := #[]
  methods := #[]
  instanceTypes := #[]
  staticTypes := #[]
  resolved := Array.replicate 7 none
  statics := none }

def pool4 : Array CpInfo := pool [(1, .class_ 2), (0, u "java/lang/Comparable"), (0, .class_ 4), (0, u "java/lang/Object")] 7

/-- java/lang/Comparable -/
def k4 : Class := { plain "java/lang/Comparable" (some 0) with
  accessFlags := 1537
  interfaces := #[]
  cf := some (fileOf pool4 1 #[] #[] 1537 3 #[] #[])
  fields := #[]
  methods := #[]
  instanceTypes := #[]
  staticTypes := #[]
  resolved := Array.replicate 12 none
  statics := none }

def pool5 : Array CpInfo := pool [(2, .class_ 4), (1, u "java/lang/CharSequence"), (42, .class_ 48), (0, u "java/lang/CharSequence$1CodePointIterator"), (10, .class_ 60), (0, u "java/lang/CharSequence$1CharIterator"), (5, .class_ 67), (0, u "java/lang/Object")] 63

/-- java/lang/CharSequence -/
def k5 : Class := { plain "java/lang/CharSequence" (some 0) with
  accessFlags := 1537
  interfaces := #[]
  cf := some (fileOf pool5 2 #[.nestMembers #[47, 59]] #[] 1537 66 #[] #[])
  fields := #[]
  methods := #[]
  instanceTypes := #[]
  staticTypes := #[]
  resolved := Array.replicate 131 none
  statics := none }

def pool6 : Array CpInfo := pool [(1, .class_ 2), (0, u "java/lang/constant/Constable"), (0, .class_ 4), (0, u "java/lang/Object")] 6

/-- java/lang/constant/Constable -/
def k6 : Class := { plain "java/lang/constant/Constable" (some 0) with
  accessFlags := 1537
  interfaces := #[]
  cf := some (fileOf pool6 1 #[] #[] 1537 3 #[] #[])
  fields := #[]
  methods := #[]
  instanceTypes := #[]
  staticTypes := #[]
  resolved := Array.replicate 11 none
  statics := none }

def pool7 : Array CpInfo := pool [(1, .class_ 2), (0, u "java/lang/constant/ConstantDesc"), (0, .class_ 4), (0, u "java/lang/Object")] 32

/-- java/lang/constant/ConstantDesc -/
def k7 : Class := { plain "java/lang/constant/ConstantDesc" (some 0) with
  accessFlags := 1537
  interfaces := #[]
  cf := some (fileOf pool7 1 #[] #[] 1537 3 #[] #[])
  fields := #[]
  methods := #[]
  instanceTypes := #[]
  staticTypes := #[]
  resolved := Array.replicate 37 none
  statics := none }

def pool8 : Array CpInfo := pool [(1, .methodref 2 3), (0, .class_ 4), (0, .nameAndType 5 6), (0, u "java/lang/Object"), (0, u "<init>"), (0, u "()V"), (2, .fieldref 10 11), (0, .class_ 12), (0, .nameAndType 13 14), (0, u "java/lang/String"), (0, u "value"), (0, u "[B"), (0, .fieldref 10 16), (0, .nameAndType 17 18), (0, u "coder"), (0, u "B"), (2, u "hash"), (0, u "I"), (2, u "hashIsZero"), (0, u "Z"), (0, .methodref 10 28), (0, .nameAndType 5 29), (0, u "([CIILjava/lang/Void;)V"), (8, .fieldref 10 39), (0, .nameAndType 40 26), (0, u "COMPACT_STRINGS"), (1, .class_ 44), (1, u "java/lang/StringUTF16"), (0, u "compress"), (1, .methodref 42 48), (0, .nameAndType 49 50), (0, u "coderFromArrayLen"), (0, u "([BI)B"), (2, u "toBytes"), (53, .class_ 109), (1, u "java/lang/StringLatin1"), (32, u "()Z"), (34, .methodref 42 178), (0, .nameAndType 45 179), (0, u "([CII)[B"), (29, .methodref 10 210), (0, .nameAndType 5 211), (0, u "([BB)V"), (122, u "()I"), (0, .methodref 10 336), (0, .nameAndType 17 337), (0, u "()B"), (25, u "([BI)C"), (5, u "(C)Z"), (21, u "(II)V"), (35, u "(I)C"), (64, .methodref 10 493), (0, .nameAndType 494 142), (0, u "isLatin1"), (0, .methodref 107 496), (0, .nameAndType 497 363), (0, u "charAt"), (0, .methodref 42 496), (2, u "checkIndex"), (5, u "length"), (67, .class_ 576), (0, u "java/lang/CharSequence"), (22, u "CASE_INSENSITIVE_ORDER"), (0, u "Ljava/util/Comparator;"), (181, u "valueOf"), (0, u "(C)Ljava/lang/String;"), (226, u "([C)V"), (4, .methodref 107 1016), (0, .nameAndType 1017 369), (0, u "canEncode"), (0, .methodref 107 1019), (0, .nameAndType 53 1020), (0, u "(C)[B"), (0, .methodref 42 1019), (31, .fieldref 1054 1055), (0, .class_ 1056), (0, .nameAndType 1057 1058), (0, u "jdk/internal/util/Preconditions"), (0, u "SIOOBE_FORMATTER"), (0, u "Ljava/util/function/BiFunction;"), (0, .methodref 1054 1060), (0, .nameAndType 501 1061), (0, u "(IILjava/util/function/BiFunction;)I"), (39, u "serialPersistentFields"), (0, u "[Ljava/io/ObjectStreamField;"), (0, .class_ 1104), (0, u "java/lang/String$CaseInsensitiveComparator"), (1, .class_ 1107), (0, u "java/io/Serializable"), (0, .class_ 1109), (0, u "java/lang/Comparable"), (0, .class_ 1111), (0, u "java/lang/constant/Constable"), (0, .class_ 1113), (0, u "java/lang/constant/ConstantDesc"), (2, u "serialVersionUID"), (0, u "J"), (3, u "REPL"), (0, u "C"), (2, u "LATIN1"), (1, u "UTF16")] 323

def k8m0 : Method := { name := "<init>", desc := "()V", sig := { parameters := [], returnType := none }, accessFlags := 1, code := none }
def k8c1 : Code := { maxStack := 5, maxLocals := 2, code := jdk_42_method_3_code, exceptionTable := #[], attributes := #[] }
def k8m1 : Method := { name := "<init>", desc := "([C)V", sig := { parameters := [(.array .char)], returnType := none }, accessFlags := 1, code := some k8c1 }
def k8c2 : Code := { maxStack := 2, maxLocals := 1, code := jdk_42_method_54_code, exceptionTable := #[], attributes := #[] }
def k8m2 : Method := { name := "length", desc := "()I", sig := { parameters := [], returnType := some .int }, accessFlags := 1, code := some k8c2 }
def k8c3 : Code := { maxStack := 2, maxLocals := 2, code := jdk_42_method_56_code, exceptionTable := #[], attributes := #[] }
def k8m3 : Method := { name := "charAt", desc := "(I)C", sig := { parameters := [.int], returnType := some .char }, accessFlags := 1, code := some k8c3 }
def k8c4 : Code := { maxStack := 4, maxLocals := 1, code := jdk_42_method_139_code, exceptionTable := #[], attributes := #[] }
def k8m4 : Method := { name := "valueOf", desc := "(C)Ljava/lang/String;", sig := { parameters := [.char], returnType := some (.object "java/lang/String") }, accessFlags := 9, code := some k8c4 }
def k8c5 : Code := { maxStack := 4, maxLocals := 6, code := jdk_42_method_149_code, exceptionTable := #[], attributes := #[] }
def k8m5 : Method := { name := "<init>", desc := "([CIILjava/lang/Void;)V", sig := { parameters := [(.array .char), .int, .int, (.object "java/lang/Void")], returnType := none }, accessFlags := 2, code := some k8c5 }
def k8c6 : Code := { maxStack := 2, maxLocals := 3, code := jdk_42_method_151_code, exceptionTable := #[], attributes := #[] }
def k8m6 : Method := { name := "<init>", desc := "([BB)V", sig := { parameters := [(.array .byte), .byte], returnType := none }, accessFlags := 0, code := some k8c6 }
def k8c7 : Code := { maxStack := 1, maxLocals := 1, code := jdk_42_method_152_code, exceptionTable := #[], attributes := #[] }
def k8m7 : Method := { name := "coder", desc := "()B", sig := { parameters := [], returnType := some .byte }, accessFlags := 0, code := some k8c7 }
def k8c8 : Code := { maxStack := 1, maxLocals := 1, code := jdk_42_method_154_code, exceptionTable := #[], attributes := #[] }
def k8m8 : Method := { name := "isLatin1", desc := "()Z", sig := { parameters := [], returnType := some .boolean }, accessFlags := 0, code := some k8c8 }
def k8c9 : Code := { maxStack := 3, maxLocals := 2, code := jdk_42_method_155_code, exceptionTable := #[], attributes := #[] }
def k8m9 : Method := { name := "checkIndex", desc := "(II)V", sig := { parameters := [.int, .int], returnType := none }, accessFlags := 8, code := some k8c9 }
/-- java/lang/String -/
def k8 : Class := { plain "java/lang/String" (some 0) with
  accessFlags := 49
  interfaces := #[3, 4, 5, 6, 7]
  cf := some (fileOf pool8 10 #[.nestMembers #[1103]] #[{ accessFlags := 1, nameIndex := 5, descriptorIndex := 6, attributes := #[] }, { accessFlags := 1, nameIndex := 5, descriptorIndex := 1010, attributes := #[] }, { accessFlags := 1, nameIndex := 507, descriptorIndex := 334, attributes := #[] }, { accessFlags := 1, nameIndex := 497, descriptorIndex := 427, attributes := #[] }, { accessFlags := 9, nameIndex := 782, descriptorIndex := 783, attributes := #[] }, { accessFlags := 2, nameIndex := 5, descriptorIndex := 29, attributes := #[] }, { accessFlags := 0, nameIndex := 5, descriptorIndex := 211, attributes := #[] }, { accessFlags := 0, nameIndex := 17, descriptorIndex := 337, attributes := #[] }, { accessFlags := 0, nameIndex := 494, descriptorIndex := 142, attributes := #[] }, { accessFlags := 8, nameIndex := 501, descriptorIndex := 391, attributes := #[] }] 49 2 #[1106, 1108, 575, 1110, 1112] #[{ accessFlags := 18, nameIndex := 13, descriptorIndex := 14, attributes := #[] }, { accessFlags := 18, nameIndex := 17, descriptorIndex := 18, attributes := #[] }, { accessFlags := 2, nameIndex := 21, descriptorIndex := 22, attributes := #[] }, { accessFlags := 2, nameIndex := 25, descriptorIndex := 26, attributes := #[] }, { accessFlags := 26, nameIndex := 1116, descriptorIndex := 1117, attributes := #[] }, { accessFlags := 24, nameIndex := 40, descriptorIndex := 26, attributes := #[] }, { accessFlags := 26, nameIndex := 1101, descriptorIndex := 1102, attributes := #[] }, { accessFlags := 26, nameIndex := 1121, descriptorIndex := 1122, attributes := #[] }, { accessFlags := 25, nameIndex := 599, descriptorIndex := 600, attributes := #[] }, { accessFlags := 24, nameIndex := 1125, descriptorIndex := 18, attributes := #[] }, { accessFlags := 24, nameIndex := 1127, descriptorIndex := 18, attributes := #[] }])
  fields := #[{ name := "value", type := (.array .byte), accessFlags := 18, slot := 0, constantValue := 0 }, { name := "coder", type := .byte, accessFlags := 18, slot := 1, constantValue := 0 }, { name := "hash", type := .int, accessFlags := 2, slot := 2, constantValue := 0 }, { name := "hashIsZero", type := .boolean, accessFlags := 2, slot := 3, constantValue := 0 }, { name := "serialVersionUID", type := .long, accessFlags := 26, slot := 0, constantValue := 0 }, { name := "COMPACT_STRINGS", type := .boolean, accessFlags := 24, slot := 1, constantValue := 0 }, { name := "serialPersistentFields", type := (.array (.object "java/io/ObjectStreamField")), accessFlags := 26, slot := 2, constantValue := 0 }, { name := "REPL", type := .char, accessFlags := 26, slot := 3, constantValue := 0 }, { name := "CASE_INSENSITIVE_ORDER", type := (.object "java/util/Comparator"), accessFlags := 25, slot := 4, constantValue := 0 }, { name := "LATIN1", type := .byte, accessFlags := 24, slot := 5, constantValue := 0 }, { name := "UTF16", type := .byte, accessFlags := 24, slot := 6, constantValue := 0 }]
  methods := #[k8m0, k8m1, k8m2, k8m3, k8m4, k8m5, k8m6, k8m7, k8m8, k8m9]
  instanceTypes := #[(.array .byte), .byte, .int, .boolean]
  staticTypes := #[.long, .boolean, (.array (.object "java/io/ObjectStreamField")), .char, (.object "java/util/Comparator"), .byte, .byte]
  resolved := Array.replicate 1451 none
  statics := some 0 }

def pool9 : Array CpInfo := pool [(1, .class_ 2), (0, u "java/lang/String"), (1, .class_ 6), (1, u "java/lang/Object"), (0, u "<init>"), (0, u "()V"), (0, .methodref 1 10), (0, .nameAndType 11 12), (0, u "checkIndex"), (0, u "(II)V"), (1, .class_ 16), (1, u "java/lang/StringLatin1"), (36, u "([BI)C"), (36, u "canEncode"), (14, u "(C)Z"), (15, u "$assertionsDisabled"), (0, u "Z"), (98, .class_ 223), (1, u "java/lang/StringLatin1$LinesSpliterator"), (28, u "charAt"), (127, u "toBytes"), (1, u "(C)[B"), (7, .class_ 391), (0, u "java/lang/StringLatin1$CharsSpliterator")] 3

def k9m0 : Method := { name := "<init>", desc := "()V", sig := { parameters := [], returnType := none }, accessFlags := 0, code := none }
def k9c1 : Code := { maxStack := 2, maxLocals := 2, code := jdk_43_method_2_code, exceptionTable := #[], attributes := #[] }
def k9m1 : Method := { name := "charAt", desc := "([BI)C", sig := { parameters := [(.array .byte), .int], returnType := some .char }, accessFlags := 9, code := some k9c1 }
def k9c2 : Code := { maxStack := 2, maxLocals := 1, code := jdk_43_method_3_code, exceptionTable := #[], attributes := #[] }
def k9m2 : Method := { name := "canEncode", desc := "(C)Z", sig := { parameters := [.char], returnType := some .boolean }, accessFlags := 9, code := some k9c2 }
def k9c3 : Code := { maxStack := 4, maxLocals := 1, code := jdk_43_method_46_code, exceptionTable := #[], attributes := #[] }
def k9m3 : Method := { name := "toBytes", desc := "(C)[B", sig := { parameters := [.char], returnType := some (.array .byte) }, accessFlags := 9, code := some k9c3 }
/-- java/lang/StringLatin1 -/
def k9 : Class := { plain "java/lang/StringLatin1" (some 0) with
  accessFlags := 48
  interfaces := #[]
  cf := some (fileOf pool9 14 #[.nestMembers #[390, 221]] #[{ accessFlags := 0, nameIndex := 7, descriptorIndex := 8, attributes := #[] }, { accessFlags := 9, nameIndex := 252, descriptorIndex := 53, attributes := #[] }, { accessFlags := 9, nameIndex := 90, descriptorIndex := 105, attributes := #[] }, { accessFlags := 9, nameIndex := 380, descriptorIndex := 382, attributes := #[] }] 48 4 #[] #[{ accessFlags := 4120, nameIndex := 121, descriptorIndex := 122, attributes := #[] }])
  fields := #[{ name := "$assertionsDisabled", type := .boolean, accessFlags := 4120, slot := 0, constantValue := 0 }]
  methods := #[k9m0, k9m1, k9m2, k9m3]
  instanceTypes := #[]
  staticTypes := #[.boolean]
  resolved := Array.replicate 395 none
  statics := none }

def pool10 : Array CpInfo := pool [(1, .methodref 2 3), (0, .class_ 4), (0, .nameAndType 5 6), (0, u "java/lang/Object"), (0, u "<init>"), (0, u "()V"), (0, .class_ 8), (0, u "java/lang/Record")] 13

def k10c0 : Code := { maxStack := 1, maxLocals := 1, code := jdk_30_method_1_code, exceptionTable := #[], attributes := #[] }
def k10m0 : Method := { name := "<init>", desc := "()V", sig := { parameters := [], returnType := none }, accessFlags := 4, code := some k10c0 }
/-- java/lang/Record -/
def k10 : Class := { plain "java/lang/Record" (some 0) with
  accessFlags := 1057
  interfaces := #[]
  cf := some (fileOf pool10 7 #[] #[{ accessFlags := 4, nameIndex := 5, descriptorIndex := 6, attributes := #[] }] 1057 2 #[] #[])
  fields := #[]
  methods := #[k10m0]
  instanceTypes := #[]
  staticTypes := #[]
  resolved := Array.replicate 22 none
  statics := none }

def pool11 : Array CpInfo := pool [(1, .methodref 2 3), (0, .class_ 4), (0, .nameAndType 5 6), (0, u "java/lang/Record"), (0, u "<init>"), (0, u "()V"), (0, .string 8), (0, u "name"), (0, .methodref 10 11), (0, .class_ 12), (0, .nameAndType 13 14), (0, u "java/util/Objects"), (0, u "requireNonNull"), (0, u "(Ljava/lang/Object;Ljava/lang/String;)Ljava/lang/Object;"), (0, .class_ 16), (0, u "java/lang/String"), (0, .methodref 18 19), (0, .class_ 20), (0, .nameAndType 21 22), (0, u "com/example/cofferhand/cofferhand/nbt/ModifiedUtf8"), (0, u "requireEncodable"), (0, u "(Ljava/lang/String;)V"), (0, .string 24), (0, u "tag"), (0, .fieldref 26 27), (0, .class_ 28), (0, .nameAndType 8 29), (0, u "com/example/cofferhand/cofferhand/nbt/NamedTag"), (0, u "Ljava/lang/String;"), (0, .fieldref 26 31), (0, .nameAndType 24 32), (0, u "Lcom/example/cofferhand/cofferhand/nbt/Tag;"), (12, u "(Ljava/lang/String;Lcom/example/cofferhand/cofferhand/nbt/Tag;)V"), (3, u "()Ljava/lang/String;"), (2, u "()Lcom/example/cofferhand/cofferhand/nbt/Tag;")] 21

def k11c0 : Code := { maxStack := 2, maxLocals := 3, code := prog_33_method_1_code, exceptionTable := #[], attributes := #[] }
def k11m0 : Method := { name := "<init>", desc := "(Ljava/lang/String;Lcom/example/cofferhand/cofferhand/nbt/Tag;)V", sig := { parameters := [(.object "java/lang/String"), (.object "com/example/cofferhand/cofferhand/nbt/Tag")], returnType := none }, accessFlags := 1, code := some k11c0 }
def k11c1 : Code := { maxStack := 1, maxLocals := 1, code := prog_33_method_5_code, exceptionTable := #[], attributes := #[] }
def k11m1 : Method := { name := "name", desc := "()Ljava/lang/String;", sig := { parameters := [], returnType := some (.object "java/lang/String") }, accessFlags := 1, code := some k11c1 }
def k11c2 : Code := { maxStack := 1, maxLocals := 1, code := prog_33_method_6_code, exceptionTable := #[], attributes := #[] }
def k11m2 : Method := { name := "tag", desc := "()Lcom/example/cofferhand/cofferhand/nbt/Tag;", sig := { parameters := [], returnType := some (.object "com/example/cofferhand/cofferhand/nbt/Tag") }, accessFlags := 1, code := some k11c2 }
/-- com/example/cofferhand/cofferhand/nbt/NamedTag -/
def k11 : Class := { plain "com/example/cofferhand/cofferhand/nbt/NamedTag" (some 10) with
  accessFlags := 49
  interfaces := #[]
  cf := some (fileOf pool11 26 #[] #[{ accessFlags := 1, nameIndex := 5, descriptorIndex := 45, attributes := #[] }, { accessFlags := 1, nameIndex := 8, descriptorIndex := 49, attributes := #[] }, { accessFlags := 1, nameIndex := 24, descriptorIndex := 52, attributes := #[] }] 49 2 #[] #[{ accessFlags := 18, nameIndex := 8, descriptorIndex := 29, attributes := #[] }, { accessFlags := 18, nameIndex := 24, descriptorIndex := 32, attributes := #[] }])
  fields := #[{ name := "name", type := (.object "java/lang/String"), accessFlags := 18, slot := 0, constantValue := 0 }, { name := "tag", type := (.object "com/example/cofferhand/cofferhand/nbt/Tag"), accessFlags := 18, slot := 1, constantValue := 0 }]
  methods := #[k11m0, k11m1, k11m2]
  instanceTypes := #[(.object "java/lang/String"), (.object "com/example/cofferhand/cofferhand/nbt/Tag")]
  staticTypes := #[]
  resolved := Array.replicate 74 none
  statics := none }

def pool12 : Array CpInfo := pool [(1, .class_ 2), (0, u "com/example/cofferhand/cofferhand/nbt/Tag"), (0, .class_ 4), (0, u "java/lang/Object"), (0, u "type"), (0, u "()Lcom/example/cofferhand/cofferhand/nbt/TagType;")] 27

def k12m0 : Method := { name := "type", desc := "()Lcom/example/cofferhand/cofferhand/nbt/TagType;", sig := { parameters := [], returnType := some (.object "com/example/cofferhand/cofferhand/nbt/TagType") }, accessFlags := 1025, code := none }
/-- com/example/cofferhand/cofferhand/nbt/Tag -/
def k12 : Class := { plain "com/example/cofferhand/cofferhand/nbt/Tag" (some 0) with
  accessFlags := 1537
  interfaces := #[]
  cf := some (fileOf pool12 1 #[] #[{ accessFlags := 1025, nameIndex := 5, descriptorIndex := 6, attributes := #[] }] 1537 3 #[] #[])
  fields := #[]
  methods := #[k12m0]
  instanceTypes := #[]
  staticTypes := #[]
  resolved := Array.replicate 34 none
  statics := none }

def pool13 : Array CpInfo := pool [(1, .methodref 2 3), (0, .class_ 4), (0, .nameAndType 5 6), (0, u "java/lang/Record"), (0, u "<init>"), (0, u "()V"), (0, .fieldref 8 9), (0, .class_ 10), (0, .nameAndType 11 12), (0, u "com/example/cofferhand/cofferhand/nbt/LongTag"), (0, u "value"), (0, u "J"), (0, .fieldref 14 15), (0, .class_ 16), (0, .nameAndType 17 18), (0, u "com/example/cofferhand/cofferhand/nbt/TagType"), (0, u "LONG"), (0, u "Lcom/example/cofferhand/cofferhand/nbt/TagType;"), (12, .class_ 32), (0, u "com/example/cofferhand/cofferhand/nbt/Tag"), (0, u "(J)V"), (3, u "type"), (0, u "()Lcom/example/cofferhand/cofferhand/nbt/TagType;"), (3, u "()J")] 19

def k13c0 : Code := { maxStack := 3, maxLocals := 3, code := prog_31_method_1_code, exceptionTable := #[], attributes := #[] }
def k13m0 : Method := { name := "<init>", desc := "(J)V", sig := { parameters := [.long], returnType := none }, accessFlags := 1, code := some k13c0 }
def k13c1 : Code := { maxStack := 1, maxLocals := 1, code := prog_31_method_2_code, exceptionTable := #[], attributes := #[] }
def k13m1 : Method := { name := "type", desc := "()Lcom/example/cofferhand/cofferhand/nbt/TagType;", sig := { parameters := [], returnType := some (.object "com/example/cofferhand/cofferhand/nbt/TagType") }, accessFlags := 1, code := some k13c1 }
def k13c2 : Code := { maxStack := 2, maxLocals := 1, code := prog_31_method_6_code, exceptionTable := #[], attributes := #[] }
def k13m2 : Method := { name := "value", desc := "()J", sig := { parameters := [], returnType := some .long }, accessFlags := 1, code := some k13c2 }
/-- com/example/cofferhand/cofferhand/nbt/LongTag -/
def k13 : Class := { plain "com/example/cofferhand/cofferhand/nbt/LongTag" (some 10) with
  accessFlags := 49
  interfaces := #[12]
  cf := some (fileOf pool13 8 #[] #[{ accessFlags := 1, nameIndex := 5, descriptorIndex := 33, attributes := #[] }, { accessFlags := 1, nameIndex := 37, descriptorIndex := 38, attributes := #[] }, { accessFlags := 1, nameIndex := 11, descriptorIndex := 42, attributes := #[] }] 49 2 #[31] #[{ accessFlags := 18, nameIndex := 11, descriptorIndex := 12, attributes := #[] }])
  fields := #[{ name := "value", type := .long, accessFlags := 18, slot := 0, constantValue := 0 }]
  methods := #[k13m0, k13m1, k13m2]
  instanceTypes := #[.long]
  staticTypes := #[]
  resolved := Array.replicate 62 none
  statics := none }

def pool14 : Array CpInfo := pool [(2, .class_ 4), (1, u "java/lang/Object"), (0, u "<init>"), (0, u "()V"), (35, .class_ 44), (1, u "java/util/Objects"), (0, u "requireNonNull"), (48, u "(Ljava/lang/Object;Ljava/lang/String;)Ljava/lang/Object;")] 89

def k14m0 : Method := { name := "<init>", desc := "()V", sig := { parameters := [], returnType := none }, accessFlags := 2, code := none }
def k14c1 : Code := { maxStack := 3, maxLocals := 2, code := jdk_31_method_11_code, exceptionTable := #[], attributes := #[] }
def k14m1 : Method := { name := "requireNonNull", desc := "(Ljava/lang/Object;Ljava/lang/String;)Ljava/lang/Object;", sig := { parameters := [(.object "java/lang/Object"), (.object "java/lang/String")], returnType := some (.object "java/lang/Object") }, accessFlags := 9, code := some k14c1 }
/-- java/util/Objects -/
def k14 : Class := { plain "java/util/Objects" (some 0) with
  accessFlags := 49
  interfaces := #[]
  cf := some (fileOf pool14 42 #[] #[{ accessFlags := 2, nameIndex := 5, descriptorIndex := 6, attributes := #[] }, { accessFlags := 9, nameIndex := 45, descriptorIndex := 94, attributes := #[] }] 49 2 #[] #[])
  fields := #[]
  methods := #[k14m0, k14m1]
  instanceTypes := #[]
  staticTypes := #[]
  resolved := Array.replicate 184 none
  statics := none }

def pool15 : Array CpInfo := pool [(1, .class_ 2), (0, u "com/example/cofferhand/cofferhand/nbt/ModifiedUtf8"), (1, .class_ 6), (1, u "java/lang/Object"), (0, u "<init>"), (0, u "()V"), (0, .methodref 10 11), (0, .class_ 12), (0, .nameAndType 13 14), (0, u "java/lang/String"), (0, u "length"), (0, u "()I"), (0, .methodref 10 16), (0, .nameAndType 17 18), (0, u "charAt"), (0, u "(I)C"), (0, .long 2), (1, .methodref 1 22), (0, .nameAndType 23 24), (0, u "encodedLength"), (0, u "(Ljava/lang/String;)J"), (0, .long 65535), (1, .methodref 1 28), (0, .nameAndType 29 30), (0, u "fits"), (0, u "(Ljava/lang/String;)Z"), (8, u "(Ljava/lang/String;)V"), (41, u "MAX_BYTES"), (0, u "I"), (2, u "ALWAYS_FITS"), (4, u "requireEncodable"), (0, u "encode"), (0, u "(Ljava/lang/String;[BI)I")] 26

def k15m0 : Method := { name := "<init>", desc := "()V", sig := { parameters := [], returnType := none }, accessFlags := 2, code := none }
def k15c1 : Code := { maxStack := 4, maxLocals := 5, code := prog_32_method_2_code, exceptionTable := #[], attributes := #[] }
def k15m1 : Method := { name := "encodedLength", desc := "(Ljava/lang/String;)J", sig := { parameters := [(.object "java/lang/String")], returnType := some .long }, accessFlags := 8, code := some k15c1 }
def k15c2 : Code := { maxStack := 4, maxLocals := 1, code := prog_32_method_3_code, exceptionTable := #[], attributes := #[] }
def k15m2 : Method := { name := "fits", desc := "(Ljava/lang/String;)Z", sig := { parameters := [(.object "java/lang/String")], returnType := some .boolean }, accessFlags := 8, code := some k15c2 }
def k15c3 : Code := { maxStack := 4, maxLocals := 1, code := prog_32_method_4_code, exceptionTable := #[], attributes := #[] }
def k15m3 : Method := { name := "requireEncodable", desc := "(Ljava/lang/String;)V", sig := { parameters := [(.object "java/lang/String")], returnType := none }, accessFlags := 8, code := some k15c3 }
def k15c4 : Code := { maxStack := 5, maxLocals := 6, code := prog_32_method_5_code, exceptionTable := #[], attributes := #[] }
def k15m4 : Method := { name := "encode", desc := "(Ljava/lang/String;[BI)I", sig := { parameters := [(.object "java/lang/String"), (.array .byte), .int], returnType := some .int }, accessFlags := 8, code := some k15c4 }
/-- com/example/cofferhand/cofferhand/nbt/ModifiedUtf8 -/
def k15 : Class := { plain "com/example/cofferhand/cofferhand/nbt/ModifiedUtf8" (some 0) with
  accessFlags := 48
  interfaces := #[]
  cf := some (fileOf pool15 1 #[] #[{ accessFlags := 2, nameIndex := 7, descriptorIndex := 8, attributes := #[] }, { accessFlags := 8, nameIndex := 23, descriptorIndex := 24, attributes := #[] }, { accessFlags := 8, nameIndex := 29, descriptorIndex := 30, attributes := #[] }, { accessFlags := 8, nameIndex := 90, descriptorIndex := 39, attributes := #[] }, { accessFlags := 8, nameIndex := 91, descriptorIndex := 92, attributes := #[] }] 48 4 #[] #[{ accessFlags := 24, nameIndex := 81, descriptorIndex := 82, attributes := #[] }, { accessFlags := 26, nameIndex := 85, descriptorIndex := 82, attributes := #[] }])
  fields := #[{ name := "MAX_BYTES", type := .int, accessFlags := 24, slot := 0, constantValue := 0 }, { name := "ALWAYS_FITS", type := .int, accessFlags := 26, slot := 1, constantValue := 0 }]
  methods := #[k15m0, k15m1, k15m2, k15m3, k15m4]
  instanceTypes := #[]
  staticTypes := #[.int, .int]
  resolved := Array.replicate 119 none
  statics := none }

def pool16 : Array CpInfo := pool [(1, .methodref 2 3), (0, .class_ 4), (0, .nameAndType 5 6), (0, u "java/lang/Object"), (0, u "<init>"), (0, u "()V"), (0, .fieldref 8 9), (0, .class_ 10), (0, .nameAndType 11 12), (0, u "com/example/cofferhand/cofferhand/nbt/NbtWriter"), (0, u "buffer"), (0, u "[B"), (0, .methodref 14 15), (0, .class_ 16), (0, .nameAndType 17 18), (0, u "com/example/cofferhand/cofferhand/nbt/NamedTag"), (0, u "tag"), (0, u "()Lcom/example/cofferhand/cofferhand/nbt/Tag;"), (0, .interfaceMethodref 20 21), (0, .class_ 22), (0, .nameAndType 23 24), (0, u "com/example/cofferhand/cofferhand/nbt/Tag"), (0, u "type"), (0, u "()Lcom/example/cofferhand/cofferhand/nbt/TagType;"), (0, .methodref 26 27), (0, .class_ 28), (0, .nameAndType 29 30), (0, u "com/example/cofferhand/cofferhand/nbt/TagType"), (0, u "id"), (0, u "()I"), (0, .methodref 8 32), (0, .nameAndType 33 34), (0, u "writeByte"), (0, u "(I)V"), (0, .methodref 14 36), (0, .nameAndType 37 38), (0, u "name"), (0, u "()Ljava/lang/String;"), (0, .methodref 8 40), (0, .nameAndType 41 42), (0, u "writeString"), (0, u "(Ljava/lang/String;)V"), (0, .methodref 8 44), (0, .nameAndType 45 46), (0, u "writePayload"), (0, u "(Lcom/example/cofferhand/cofferhand/nbt/Tag;)V"), (0, .fieldref 8 48), (0, .nameAndType 49 50), (0, u "size"), (0, u "I"), (0, .methodref 52 53), (0, .class_ 54), (0, .nameAndType 55 56), (0, u "java/util/Arrays"), (0, u "copyOf"), (0, u "([BI)[B"), (0, .fieldref 58 59), (0, .class_ 60), (0, .nameAndType 61 62), (0, u "com/example/cofferhand/cofferhand/nbt/NbtWriter$1"), (0, u "$SwitchMap$com$example$cofferhand$cofferhand$nbt$TagType"), (0, u "[I"), (0, .methodref 26 64), (0, .nameAndType 65 30), (0, u "ordinal"), (4, u "value"), (6, .methodref 8 78), (0, .nameAndType 79 34), (0, u "writeShort"), (4, .methodref 8 85), (0, .nameAndType 86 34), (0, u "writeInt"), (0, .class_ 88), (0, u "com/example/cofferhand/cofferhand/nbt/LongTag"), (0, .methodref 87 90), (0, .nameAndType 70 91), (0, u "()J"), (0, .methodref 8 93), (0, .nameAndType 94 95), (0, u "writeLong"), (0, u "(J)V"), (27, u "()[B"), (0, .methodref 8 125), (0, .nameAndType 126 34), (0, u "ensure"), (60, .methodref 188 189), (0, .class_ 190), (0, .nameAndType 191 192), (0, u "com/example/cofferhand/cofferhand/nbt/ModifiedUtf8"), (0, u "encodedLength"), (0, u "(Ljava/lang/String;)J"), (0, .methodref 188 194), (0, .nameAndType 195 196), (0, u "encode"), (0, u "(Ljava/lang/String;[BI)I"), (0, .long 2), (9, .long 2147483639), (12, u "writeRoot"), (0, u "(Lcom/example/cofferhand/cofferhand/nbt/NamedTag;)V"), (0, u "toByteArray")] 22

def k16c0 : Code := { maxStack := 2, maxLocals := 1, code := prog_41_method_1_code, exceptionTable := #[], attributes := #[] }
def k16m0 : Method := { name := "<init>", desc := "()V", sig := { parameters := [], returnType := none }, accessFlags := 0, code := some k16c0 }
def k16c1 : Code := { maxStack := 2, maxLocals := 2, code := prog_41_method_2_code, exceptionTable := #[], attributes := #[] }
def k16m1 : Method := { name := "writeRoot", desc := "(Lcom/example/cofferhand/cofferhand/nbt/NamedTag;)V", sig := { parameters := [(.object "com/example/cofferhand/cofferhand/nbt/NamedTag")], returnType := none }, accessFlags := 0, code := some k16c1 }
def k16c2 : Code := { maxStack := 2, maxLocals := 1, code := prog_41_method_3_code, exceptionTable := #[], attributes := #[] }
def k16m2 : Method := { name := "toByteArray", desc := "()[B", sig := { parameters := [], returnType := some (.array .byte) }, accessFlags := 0, code := some k16c2 }
def k16c3 : Code := { maxStack := 5, maxLocals := 8, code := prog_41_method_4_code, exceptionTable := #[], attributes := #[] }
def k16m3 : Method := { name := "writePayload", desc := "(Lcom/example/cofferhand/cofferhand/nbt/Tag;)V", sig := { parameters := [(.object "com/example/cofferhand/cofferhand/nbt/Tag")], returnType := none }, accessFlags := 2, code := some k16c3 }
def k16c4 : Code := { maxStack := 4, maxLocals := 3, code := prog_41_method_5_code, exceptionTable := #[], attributes := #[] }
def k16m4 : Method := { name := "writeString", desc := "(Ljava/lang/String;)V", sig := { parameters := [(.object "java/lang/String")], returnType := none }, accessFlags := 2, code := some k16c4 }
def k16c5 : Code := { maxStack := 5, maxLocals := 2, code := prog_41_method_6_code, exceptionTable := #[], attributes := #[] }
def k16m5 : Method := { name := "writeByte", desc := "(I)V", sig := { parameters := [.int], returnType := none }, accessFlags := 2, code := some k16c5 }
def k16c6 : Code := { maxStack := 5, maxLocals := 2, code := prog_41_method_7_code, exceptionTable := #[], attributes := #[] }
def k16m6 : Method := { name := "writeShort", desc := "(I)V", sig := { parameters := [.int], returnType := none }, accessFlags := 2, code := some k16c6 }
def k16c7 : Code := { maxStack := 5, maxLocals := 2, code := prog_41_method_8_code, exceptionTable := #[], attributes := #[] }
def k16m7 : Method := { name := "writeInt", desc := "(I)V", sig := { parameters := [.int], returnType := none }, accessFlags := 2, code := some k16c7 }
def k16c8 : Code := { maxStack := 4, maxLocals := 3, code := prog_41_method_9_code, exceptionTable := #[], attributes := #[] }
def k16m8 : Method := { name := "writeLong", desc := "(J)V", sig := { parameters := [.long], returnType := none }, accessFlags := 2, code := some k16c8 }
def k16c9 : Code := { maxStack := 6, maxLocals := 4, code := prog_41_method_10_code, exceptionTable := #[], attributes := #[] }
def k16m9 : Method := { name := "ensure", desc := "(I)V", sig := { parameters := [.int], returnType := none }, accessFlags := 2, code := some k16c9 }
/-- com/example/cofferhand/cofferhand/nbt/NbtWriter -/
def k16 : Class := { plain "com/example/cofferhand/cofferhand/nbt/NbtWriter" (some 0) with
  accessFlags := 48
  interfaces := #[]
  cf := some (fileOf pool16 8 #[.nestMembers #[58]] #[{ accessFlags := 0, nameIndex := 5, descriptorIndex := 6, attributes := #[] }, { accessFlags := 0, nameIndex := 220, descriptorIndex := 221, attributes := #[] }, { accessFlags := 0, nameIndex := 222, descriptorIndex := 123, attributes := #[] }, { accessFlags := 2, nameIndex := 45, descriptorIndex := 46, attributes := #[] }, { accessFlags := 2, nameIndex := 41, descriptorIndex := 42, attributes := #[] }, { accessFlags := 2, nameIndex := 33, descriptorIndex := 34, attributes := #[] }, { accessFlags := 2, nameIndex := 79, descriptorIndex := 34, attributes := #[] }, { accessFlags := 2, nameIndex := 86, descriptorIndex := 34, attributes := #[] }, { accessFlags := 2, nameIndex := 94, descriptorIndex := 95, attributes := #[] }, { accessFlags := 2, nameIndex := 126, descriptorIndex := 34, attributes := #[] }] 48 2 #[] #[{ accessFlags := 2, nameIndex := 11, descriptorIndex := 12, attributes := #[] }, { accessFlags := 2, nameIndex := 49, descriptorIndex := 50, attributes := #[] }])
  fields := #[{ name := "buffer", type := (.array .byte), accessFlags := 2, slot := 0, constantValue := 0 }, { name := "size", type := .int, accessFlags := 2, slot := 1, constantValue := 0 }]
  methods := #[k16m0, k16m1, k16m2, k16m3, k16m4, k16m5, k16m6, k16m7, k16m8, k16m9]
  instanceTypes := #[(.array .byte), .int]
  staticTypes := #[]
  resolved := Array.replicate 245 none
  statics := none }

def pool17 : Array CpInfo := pool [(2, .class_ 4), (1, u "java/lang/Object"), (0, u "<init>"), (0, u "()V"), (7, .class_ 16), (1, u "java/util/Arrays"), (57, .class_ 76), (1, u "java/util/Arrays$NaturalOrder"), (36, .class_ 115), (1, u "java/util/Arrays$LegacyMergeSort"), (1, u "Z"), (32, .methodref 151 152), (0, .class_ 153), (0, .nameAndType 154 155), (0, u "java/lang/System"), (0, u "arraycopy"), (0, u "(Ljava/lang/Object;ILjava/lang/Object;II)V"), (146, u "copyOf"), (1, .methodref 305 306), (0, .class_ 307), (0, .nameAndType 308 309), (0, u "java/lang/Math"), (0, u "min"), (0, u "(II)I"), (65, .class_ 376), (0, u "java/util/Arrays$ArrayList"), (68, u "$assertionsDisabled"), (269, u "MIN_ARRAY_SORT_GRAN"), (0, u "I"), (2, u "INSERTIONSORT_THRESHOLD"), (149, u "([BI)[B"), (105, .class_ 976), (0, u "java/util/Arrays$ArrayItr")] 52

def k17m0 : Method := { name := "<init>", desc := "()V", sig := { parameters := [], returnType := none }, accessFlags := 2, code := none }
def k17c1 : Code := { maxStack := 6, maxLocals := 3, code := jdk_65_method_121_code, exceptionTable := #[], attributes := #[] }
def k17m1 : Method := { name := "copyOf", desc := "([BI)[B", sig := { parameters := [(.array .byte), .int], returnType := some (.array .byte) }, accessFlags := 9, code := some k17c1 }
/-- java/util/Arrays -/
def k17 : Class := { plain "java/util/Arrays" (some 0) with
  accessFlags := 49
  interfaces := #[]
  cf := some (fileOf pool17 14 #[.nestMembers #[975, 375, 113, 74]] #[{ accessFlags := 2, nameIndex := 5, descriptorIndex := 6, attributes := #[] }, { accessFlags := 9, nameIndex := 302, descriptorIndex := 869, attributes := #[] }] 49 2 #[] #[{ accessFlags := 26, nameIndex := 715, descriptorIndex := 716, attributes := #[] }, { accessFlags := 26, nameIndex := 719, descriptorIndex := 716, attributes := #[] }, { accessFlags := 4120, nameIndex := 445, descriptorIndex := 117, attributes := #[] }])
  fields := #[{ name := "MIN_ARRAY_SORT_GRAN", type := .int, accessFlags := 26, slot := 0, constantValue := 0 }, { name := "INSERTIONSORT_THRESHOLD", type := .int, accessFlags := 26, slot := 1, constantValue := 0 }, { name := "$assertionsDisabled", type := .boolean, accessFlags := 4120, slot := 2, constantValue := 0 }]
  methods := #[k17m0, k17m1]
  instanceTypes := #[]
  staticTypes := #[.int, .int, .boolean]
  resolved := Array.replicate 1029 none
  statics := none }

def pool18 : Array CpInfo := pool [(2, .class_ 4), (1, u "java/lang/Object"), (0, u "<init>"), (0, u "()V"), (1, .class_ 10), (1, u "java/lang/System"), (0, u "allowSecurityManager"), (0, u "I"), (16, u "cons"), (0, u "Ljava/io/Console;"), (77, .class_ 110), (1, u "java/lang/System$CallersHolder"), (43, u "initialErrStream"), (0, u "Ljava/io/PrintStream;"), (19, u "security"), (0, u "Ljava/lang/SecurityManager;"), (31, .class_ 209), (0, u "java/lang/System$1"), (7, u "props"), (0, u "Ljava/util/Properties;"), (2, u "lineSeparator"), (0, u "Ljava/lang/String;"), (96, .class_ 321), (1, u "java/lang/System$LoggerFinder"), (5, .class_ 328), (0, u "java/lang/System$Logger"), (67, u "err"), (2, u "out"), (91, u "notSupportedJnuEncoding"), (15, u "in"), (17, u "initialIn"), (0, u "Ljava/io/InputStream;"), (35, u "bootLayer"), (0, u "Ljava/lang/ModuleLayer;"), (99, .class_ 664), (0, u "java/lang/System$2"), (9, u "NEVER"), (2, u "MAYBE"), (49, u "arraycopy"), (0, u "(Ljava/lang/Object;ILjava/lang/Object;II)V"), (72, .class_ 802), (0, u "java/lang/System$Logger$Level")] 31

def k18m0 : Method := { name := "<init>", desc := "()V", sig := { parameters := [], returnType := none }, accessFlags := 2, code := none }
def k18m1 : Method := { name := "arraycopy", desc := "(Ljava/lang/Object;ILjava/lang/Object;II)V", sig := { parameters := [(.object "java/lang/Object"), .int, (.object "java/lang/Object"), .int, .int], returnType := none }, accessFlags := 265, code := none }
/-- java/lang/System -/
def k18 : Class := { plain "java/lang/System" (some 0) with
  accessFlags := 49
  interfaces := #[]
  cf := some (fileOf pool18 8 #[.nestMembers #[319, 327, 801, 108, 663, 208]] #[{ accessFlags := 2, nameIndex := 5, descriptorIndex := 6, attributes := #[] }, { accessFlags := 265, nameIndex := 727, descriptorIndex := 728, attributes := #[] }] 49 2 #[] #[{ accessFlags := 25, nameIndex := 507, descriptorIndex := 526, attributes := #[] }, { accessFlags := 25, nameIndex := 399, descriptorIndex := 155, attributes := #[] }, { accessFlags := 25, nameIndex := 396, descriptorIndex := 155, attributes := #[] }, { accessFlags := 10, nameIndex := 525, descriptorIndex := 526, attributes := #[] }, { accessFlags := 26, nameIndex := 674, descriptorIndex := 12, attributes := #[] }, { accessFlags := 26, nameIndex := 677, descriptorIndex := 12, attributes := #[] }, { accessFlags := 10, nameIndex := 11, descriptorIndex := 12, attributes := #[] }, { accessFlags := 74, nameIndex := 175, descriptorIndex := 176, attributes := #[] }, { accessFlags := 10, nameIndex := 491, descriptorIndex := 222, attributes := #[] }, { accessFlags := 74, nameIndex := 29, descriptorIndex := 30, attributes := #[] }, { accessFlags := 74, nameIndex := 154, descriptorIndex := 155, attributes := #[] }, { accessFlags := 10, nameIndex := 217, descriptorIndex := 218, attributes := #[] }, { accessFlags := 10, nameIndex := 221, descriptorIndex := 222, attributes := #[] }, { accessFlags := 8, nameIndex := 562, descriptorIndex := 563, attributes := #[] }])
  fields := #[{ name := "in", type := (.object "java/io/InputStream"), accessFlags := 25, slot := 0, constantValue := 0 }, { name := "out", type := (.object "java/io/PrintStream"), accessFlags := 25, slot := 1, constantValue := 0 }, { name := "err", type := (.object "java/io/PrintStream"), accessFlags := 25, slot := 2, constantValue := 0 }, { name := "initialIn", type := (.object "java/io/InputStream"), accessFlags := 10, slot := 3, constantValue := 0 }, { name := "NEVER", type := .int, accessFlags := 26, slot := 4, constantValue := 0 }, { name := "MAYBE", type := .int, accessFlags := 26, slot := 5, constantValue := 0 }, { name := "allowSecurityManager", type := .int, accessFlags := 10, slot := 6, constantValue := 0 }, { name := "security", type := (.object "java/lang/SecurityManager"), accessFlags := 74, slot := 7, constantValue := 0 }, { name := "notSupportedJnuEncoding", type := (.object "java/lang/String"), accessFlags := 10, slot := 8, constantValue := 0 }, { name := "cons", type := (.object "java/io/Console"), accessFlags := 74, slot := 9, constantValue := 0 }, { name := "initialErrStream", type := (.object "java/io/PrintStream"), accessFlags := 74, slot := 10, constantValue := 0 }, { name := "props", type := (.object "java/util/Properties"), accessFlags := 10, slot := 11, constantValue := 0 }, { name := "lineSeparator", type := (.object "java/lang/String"), accessFlags := 10, slot := 12, constantValue := 0 }, { name := "bootLayer", type := (.object "java/lang/ModuleLayer"), accessFlags := 8, slot := 13, constantValue := 0 }]
  methods := #[k18m0, k18m1]
  instanceTypes := #[]
  staticTypes := #[(.object "java/io/InputStream"), (.object "java/io/PrintStream"), (.object "java/io/PrintStream"), (.object "java/io/InputStream"), .int, .int, .int, (.object "java/lang/SecurityManager"), (.object "java/lang/String"), (.object "java/io/Console"), (.object "java/io/PrintStream"), (.object "java/util/Properties"), (.object "java/lang/String"), (.object "java/lang/ModuleLayer")]
  resolved := Array.replicate 834 none
  statics := none }

def pool19 : Array CpInfo := pool [(2, .class_ 4), (1, u "java/lang/Enum"), (0, u "name"), (0, u "Ljava/lang/String;"), (0, .fieldref 2 8), (0, .nameAndType 9 10), (0, u "ordinal"), (0, u "I"), (1, .class_ 14), (1, u "java/lang/Object"), (4, u "hash"), (86, .class_ 108), (1, u "java/lang/Enum$EnumDesc"), (2, .class_ 112), (0, u "java/lang/constant/Constable"), (0, .class_ 114), (0, u "java/lang/Comparable"), (0, .class_ 116), (0, u "java/io/Serializable"), (9, u "()I")] 77

def k19c0 : Code := { maxStack := 1, maxLocals := 1, code := jdk_37_method_2_code, exceptionTable := #[], attributes := #[] }
def k19m0 : Method := { name := "ordinal", desc := "()I", sig := { parameters := [], returnType := some .int }, accessFlags := 17, code := some k19c0 }
/-- java/lang/Enum -/
def k19 : Class := { plain "java/lang/Enum" (some 0) with
  accessFlags := 1057
  interfaces := #[6, 4, 3]
  cf := some (fileOf pool19 2 #[.nestMembers #[106]] #[{ accessFlags := 17, nameIndex := 9, descriptorIndex := 126, attributes := #[] }] 1057 12 #[111, 113, 115] #[{ accessFlags := 18, nameIndex := 5, descriptorIndex := 6, attributes := #[] }, { accessFlags := 18, nameIndex := 9, descriptorIndex := 10, attributes := #[] }, { accessFlags := 2, nameIndex := 19, descriptorIndex := 10, attributes := #[] }])
  fields := #[{ name := "name", type := (.object "java/lang/String"), accessFlags := 18, slot := 0, constantValue := 0 }, { name := "ordinal", type := .int, accessFlags := 18, slot := 1, constantValue := 0 }, { name := "hash", type := .int, accessFlags := 2, slot := 2, constantValue := 0 }]
  methods := #[k19m0]
  instanceTypes := #[(.object "java/lang/String"), .int, .int]
  staticTypes := #[]
  resolved := Array.replicate 204 none
  statics := none }

def pool20 : Array CpInfo := pool [(1, .class_ 2), (0, u "com/example/cofferhand/cofferhand/nbt/TagType"), (2, u "END"), (0, u "Lcom/example/cofferhand/cofferhand/nbt/TagType;"), (2, u "BYTE"), (2, u "SHORT"), (2, u "INT"), (2, u "LONG"), (2, u "FLOAT"), (2, u "DOUBLE"), (2, u "BYTE_ARRAY"), (2, u "STRING"), (2, u "LIST"), (2, u "COMPOUND"), (2, u "INT_ARRAY"), (2, u "LONG_ARRAY"), (2, u "$VALUES"), (0, u "[Lcom/example/cofferhand/cofferhand/nbt/TagType;"), (6, .class_ 55), (1, u "java/lang/Enum"), (6, .fieldref 1 63), (0, .nameAndType 64 65), (0, u "id"), (0, u "I"), (2, u "minPayloadSize"), (2, u "BY_ID"), (38, u "()I")] 24

def k20c0 : Code := { maxStack := 1, maxLocals := 1, code := prog_47_method_4_code, exceptionTable := #[], attributes := #[] }
def k20m0 : Method := { name := "id", desc := "()I", sig := { parameters := [], returnType := some .int }, accessFlags := 1, code := some k20c0 }
/-- com/example/cofferhand/cofferhand/nbt/TagType -/
def k20 : Class := { plain "com/example/cofferhand/cofferhand/nbt/TagType" (some 19) with
  accessFlags := 16433
  interfaces := #[]
  cf := some (fileOf pool20 1 #[] #[{ accessFlags := 1, nameIndex := 64, descriptorIndex := 110, attributes := #[] }] 16433 53 #[] #[{ accessFlags := 16409, nameIndex := 5, descriptorIndex := 6, attributes := #[] }, { accessFlags := 16409, nameIndex := 9, descriptorIndex := 6, attributes := #[] }, { accessFlags := 16409, nameIndex := 12, descriptorIndex := 6, attributes := #[] }, { accessFlags := 16409, nameIndex := 15, descriptorIndex := 6, attributes := #[] }, { accessFlags := 16409, nameIndex := 18, descriptorIndex := 6, attributes := #[] }, { accessFlags := 16409, nameIndex := 21, descriptorIndex := 6, attributes := #[] }, { accessFlags := 16409, nameIndex := 24, descriptorIndex := 6, attributes := #[] }, { accessFlags := 16409, nameIndex := 27, descriptorIndex := 6, attributes := #[] }, { accessFlags := 16409, nameIndex := 30, descriptorIndex := 6, attributes := #[] }, { accessFlags := 16409, nameIndex := 33, descriptorIndex := 6, attributes := #[] }, { accessFlags := 16409, nameIndex := 36, descriptorIndex := 6, attributes := #[] }, { accessFlags := 16409, nameIndex := 39, descriptorIndex := 6, attributes := #[] }, { accessFlags := 16409, nameIndex := 42, descriptorIndex := 6, attributes := #[] }, { accessFlags := 26, nameIndex := 71, descriptorIndex := 46, attributes := #[] }, { accessFlags := 18, nameIndex := 64, descriptorIndex := 65, attributes := #[] }, { accessFlags := 18, nameIndex := 68, descriptorIndex := 65, attributes := #[] }, { accessFlags := 4122, nameIndex := 45, descriptorIndex := 46, attributes := #[] }])
  fields := #[{ name := "END", type := (.object "com/example/cofferhand/cofferhand/nbt/TagType"), accessFlags := 16409, slot := 0, constantValue := 0 }, { name := "BYTE", type := (.object "com/example/cofferhand/cofferhand/nbt/TagType"), accessFlags := 16409, slot := 1, constantValue := 0 }, { name := "SHORT", type := (.object "com/example/cofferhand/cofferhand/nbt/TagType"), accessFlags := 16409, slot := 2, constantValue := 0 }, { name := "INT", type := (.object "com/example/cofferhand/cofferhand/nbt/TagType"), accessFlags := 16409, slot := 3, constantValue := 0 }, { name := "LONG", type := (.object "com/example/cofferhand/cofferhand/nbt/TagType"), accessFlags := 16409, slot := 4, constantValue := 0 }, { name := "FLOAT", type := (.object "com/example/cofferhand/cofferhand/nbt/TagType"), accessFlags := 16409, slot := 5, constantValue := 0 }, { name := "DOUBLE", type := (.object "com/example/cofferhand/cofferhand/nbt/TagType"), accessFlags := 16409, slot := 6, constantValue := 0 }, { name := "BYTE_ARRAY", type := (.object "com/example/cofferhand/cofferhand/nbt/TagType"), accessFlags := 16409, slot := 7, constantValue := 0 }, { name := "STRING", type := (.object "com/example/cofferhand/cofferhand/nbt/TagType"), accessFlags := 16409, slot := 8, constantValue := 0 }, { name := "LIST", type := (.object "com/example/cofferhand/cofferhand/nbt/TagType"), accessFlags := 16409, slot := 9, constantValue := 0 }, { name := "COMPOUND", type := (.object "com/example/cofferhand/cofferhand/nbt/TagType"), accessFlags := 16409, slot := 10, constantValue := 0 }, { name := "INT_ARRAY", type := (.object "com/example/cofferhand/cofferhand/nbt/TagType"), accessFlags := 16409, slot := 11, constantValue := 0 }, { name := "LONG_ARRAY", type := (.object "com/example/cofferhand/cofferhand/nbt/TagType"), accessFlags := 16409, slot := 12, constantValue := 0 }, { name := "BY_ID", type := (.array (.object "com/example/cofferhand/cofferhand/nbt/TagType")), accessFlags := 26, slot := 13, constantValue := 0 }, { name := "id", type := .int, accessFlags := 18, slot := 3, constantValue := 0 }, { name := "minPayloadSize", type := .int, accessFlags := 18, slot := 4, constantValue := 0 }, { name := "$VALUES", type := (.array (.object "com/example/cofferhand/cofferhand/nbt/TagType")), accessFlags := 4122, slot := 14, constantValue := 0 }]
  methods := #[k20m0]
  instanceTypes := #[(.object "java/lang/String"), .int, .int, .int, .int]
  staticTypes := #[(.object "com/example/cofferhand/cofferhand/nbt/TagType"), (.object "com/example/cofferhand/cofferhand/nbt/TagType"), (.object "com/example/cofferhand/cofferhand/nbt/TagType"), (.object "com/example/cofferhand/cofferhand/nbt/TagType"), (.object "com/example/cofferhand/cofferhand/nbt/TagType"), (.object "com/example/cofferhand/cofferhand/nbt/TagType"), (.object "com/example/cofferhand/cofferhand/nbt/TagType"), (.object "com/example/cofferhand/cofferhand/nbt/TagType"), (.object "com/example/cofferhand/cofferhand/nbt/TagType"), (.object "com/example/cofferhand/cofferhand/nbt/TagType"), (.object "com/example/cofferhand/cofferhand/nbt/TagType"), (.object "com/example/cofferhand/cofferhand/nbt/TagType"), (.object "com/example/cofferhand/cofferhand/nbt/TagType"), (.array (.object "com/example/cofferhand/cofferhand/nbt/TagType")), (.array (.object "com/example/cofferhand/cofferhand/nbt/TagType"))]
  resolved := Array.replicate 135 none
  statics := some 1 }

def pool21 : Array CpInfo := pool [(2, .class_ 4), (1, u "java/lang/Object"), (0, u "<init>"), (0, u "()V"), (17, .class_ 26), (1, u "jdk/internal/util/Preconditions"), (6, u "checkIndex"), (21, .class_ 56), (0, u "jdk/internal/util/Preconditions$4"), (57, .class_ 115), (0, u "jdk/internal/util/Preconditions$1"), (7, u "SIOOBE_FORMATTER"), (0, u "Ljava/util/function/BiFunction;"), (0, .class_ 126), (0, u "jdk/internal/util/Preconditions$2"), (3, u "AIOOBE_FORMATTER"), (0, .class_ 132), (0, u "jdk/internal/util/Preconditions$3"), (3, u "IOOBE_FORMATTER"), (41, u "(IILjava/util/function/BiFunction;)I")] 15

def k21m0 : Method := { name := "<init>", desc := "()V", sig := { parameters := [], returnType := none }, accessFlags := 1, code := none }
def k21c1 : Code := { maxStack := 3, maxLocals := 3, code := jdk_41_method_11_code, exceptionTable := #[], attributes := #[] }
def k21m1 : Method := { name := "checkIndex", desc := "(IILjava/util/function/BiFunction;)I", sig := { parameters := [.int, .int, (.object "java/util/function/BiFunction")], returnType := some .int }, accessFlags := 9, code := some k21c1 }
/-- jdk/internal/util/Preconditions -/
def k21 : Class := { plain "jdk/internal/util/Preconditions" (some 0) with
  accessFlags := 33
  interfaces := #[]
  cf := some (fileOf pool21 24 #[.nestMembers #[55, 131, 125, 114]] #[{ accessFlags := 1, nameIndex := 5, descriptorIndex := 6, attributes := #[] }, { accessFlags := 9, nameIndex := 33, descriptorIndex := 178, attributes := #[] }] 33 2 #[] #[{ accessFlags := 25, nameIndex := 123, descriptorIndex := 124, attributes := #[] }, { accessFlags := 25, nameIndex := 130, descriptorIndex := 124, attributes := #[] }, { accessFlags := 25, nameIndex := 136, descriptorIndex := 124, attributes := #[] }])
  fields := #[{ name := "SIOOBE_FORMATTER", type := (.object "java/util/function/BiFunction"), accessFlags := 25, slot := 0, constantValue := 0 }, { name := "AIOOBE_FORMATTER", type := (.object "java/util/function/BiFunction"), accessFlags := 25, slot := 1, constantValue := 0 }, { name := "IOOBE_FORMATTER", type := (.object "java/util/function/BiFunction"), accessFlags := 25, slot := 2, constantValue := 0 }]
  methods := #[k21m0, k21m1]
  instanceTypes := #[]
  staticTypes := #[(.object "java/util/function/BiFunction"), (.object "java/util/function/BiFunction"), (.object "java/util/function/BiFunction")]
  resolved := Array.replicate 194 none
  statics := some 2 }

def pool22 : Array CpInfo := pool [(8, .class_ 10), (1, u "com/example/cofferhand/cofferhand/nbt/NbtWriter$1"), (0, u "$SwitchMap$com$example$cofferhand$cofferhand$nbt$TagType"), (0, u "[I"), (43, .class_ 57), (0, u "java/lang/Object"), (8, .class_ 67), (0, u "com/example/cofferhand/cofferhand/nbt/NbtWriter")] 2

/-- com/example/cofferhand/cofferhand/nbt/NbtWriter$1 -/
def k22 : Class := { plain "com/example/cofferhand/cofferhand/nbt/NbtWriter$1" (some 0) with
  accessFlags := 4128
  interfaces := #[]
  cf := some (fileOf pool22 8 #[.nestHost 66] #[] 4128 56 #[] #[{ accessFlags := 4120, nameIndex := 11, descriptorIndex := 12, attributes := #[] }])
  fields := #[{ name := "$SwitchMap$com$example$cofferhand$cofferhand$nbt$TagType", type := (.array .int), accessFlags := 4120, slot := 0, constantValue := 0 }]
  methods := #[]
  instanceTypes := #[]
  staticTypes := #[(.array .int)]
  resolved := Array.replicate 70 none
  statics := some 3 }

def pool23 : Array CpInfo := pool [(3, .class_ 4), (0, u "java/lang/String"), (1, .class_ 8), (1, u "java/lang/Object"), (0, u "<init>"), (0, u "()V"), (0, .methodref 12 13), (0, .class_ 14), (0, .nameAndType 15 16), (0, u "java/lang/StringUTF16"), (0, u "newBytesLength"), (0, u "(I)I"), (3, .integer 1073741823), (23, .fieldref 12 45), (0, .nameAndType 46 47), (0, u "$assertionsDisabled"), (0, u "Z"), (0, .methodref 12 49), (0, .nameAndType 50 51), (0, u "length"), (0, u "([B)I"), (7, .fieldref 12 60), (0, .nameAndType 61 62), (0, u "HI_BYTE_SHIFT"), (0, u "I"), (0, .fieldref 12 64), (0, .nameAndType 65 62), (0, u "LO_BYTE_SHIFT"), (1, .methodref 12 68), (0, .nameAndType 69 70), (0, u "checkIndex"), (0, u "(I[B)V"), (0, .methodref 12 72), (0, .nameAndType 73 74), (0, u "getChar"), (0, u "([BI)C"), (32, .methodref 12 108), (0, .nameAndType 109 110), (0, u "newBytesFor"), (0, u "(I)[B"), (0, .methodref 12 112), (0, .nameAndType 113 114), (0, u "putChar"), (0, u "([BII)V"), (0, .methodref 12 116), (0, .nameAndType 117 118), (0, u "compress"), (0, u "([CI[BII)I"), (0, .methodref 12 120), (0, .nameAndType 121 122), (0, u "toBytes"), (0, u "([CII)[B"), (138, u "coderFromArrayLen"), (0, u "([BI)B"), (106, .class_ 371), (1, u "java/lang/StringUTF16$LinesSpliterator"), (20, u "charAt"), (21, .methodref 3 415), (0, .nameAndType 69 416), (0, u "(II)V"), (13, u "MAX_LENGTH"), (44, u "(C)[B"), (151, .class_ 628), (0, u "java/lang/StringUTF16$CodePointsSpliterator"), (0, .class_ 630), (0, u "java/lang/StringUTF16$CharsSpliterator")] 4

def k23m0 : Method := { name := "<init>", desc := "()V", sig := { parameters := [], returnType := none }, accessFlags := 0, code := none }
def k23c1 : Code := { maxStack := 1, maxLocals := 1, code := jdk_52_method_2_code, exceptionTable := #[], attributes := #[] }
def k23m1 : Method := { name := "newBytesFor", desc := "(I)[B", sig := { parameters := [.int], returnType := some (.array .byte) }, accessFlags := 9, code := some k23c1 }
def k23c2 : Code := { maxStack := 4, maxLocals := 1, code := jdk_52_method_3_code, exceptionTable := #[], attributes := #[] }
def k23m2 : Method := { name := "newBytesLength", desc := "(I)I", sig := { parameters := [.int], returnType := some .int }, accessFlags := 9, code := some k23c2 }
def k23c3 : Code := { maxStack := 4, maxLocals := 3, code := jdk_52_method_4_code, exceptionTable := #[], attributes := #[] }
def k23m3 : Method := { name := "putChar", desc := "([BII)V", sig := { parameters := [(.array .byte), .int, .int], returnType := none }, accessFlags := 8, code := some k23c3 }
def k23c4 : Code := { maxStack := 3, maxLocals := 2, code := jdk_52_method_5_code, exceptionTable := #[], attributes := #[] }
def k23m4 : Method := { name := "getChar", desc := "([BI)C", sig := { parameters := [(.array .byte), .int], returnType := some .char }, accessFlags := 8, code := some k23c4 }
def k23c5 : Code := { maxStack := 2, maxLocals := 1, code := jdk_52_method_6_code, exceptionTable := #[], attributes := #[] }
def k23m5 : Method := { name := "length", desc := "([B)I", sig := { parameters := [(.array .byte)], returnType := some .int }, accessFlags := 9, code := some k23c5 }
def k23c6 : Code := { maxStack := 4, maxLocals := 5, code := jdk_52_method_14_code, exceptionTable := #[], attributes := #[] }
def k23m6 : Method := { name := "toBytes", desc := "([CII)[B", sig := { parameters := [(.array .char), .int, .int], returnType := some (.array .byte) }, accessFlags := 9, code := some k23c6 }
def k23c7 : Code := { maxStack := 2, maxLocals := 2, code := jdk_52_method_15_code, exceptionTable := #[], attributes := #[] }
def k23m7 : Method := { name := "coderFromArrayLen", desc := "([BI)B", sig := { parameters := [(.array .byte), .int], returnType := some .byte }, accessFlags := 8, code := some k23c7 }
def k23c8 : Code := { maxStack := 5, maxLocals := 6, code := jdk_52_method_16_code, exceptionTable := #[], attributes := #[] }
def k23m8 : Method := { name := "compress", desc := "([CII)[B", sig := { parameters := [(.array .char), .int, .int], returnType := some (.array .byte) }, accessFlags := 9, code := some k23c8 }
def k23c9 : Code := { maxStack := 3, maxLocals := 7, code := jdk_52_method_21_code, exceptionTable := #[], attributes := #[] }
def k23m9 : Method := { name := "compress", desc := "([CI[BII)I", sig := { parameters := [(.array .char), .int, (.array .byte), .int, .int], returnType := some .int }, accessFlags := 9, code := some k23c9 }
def k23c10 : Code := { maxStack := 3, maxLocals := 2, code := jdk_52_method_24_code, exceptionTable := #[], attributes := #[] }
def k23m10 : Method := { name := "toBytes", desc := "(C)[B", sig := { parameters := [.char], returnType := some (.array .byte) }, accessFlags := 9, code := some k23c10 }
def k23c11 : Code := { maxStack := 2, maxLocals := 2, code := jdk_52_method_83_code, exceptionTable := #[], attributes := #[] }
def k23m11 : Method := { name := "charAt", desc := "([BI)C", sig := { parameters := [(.array .byte), .int], returnType := some .char }, accessFlags := 9, code := some k23c11 }
def k23c12 : Code := { maxStack := 2, maxLocals := 2, code := jdk_52_method_91_code, exceptionTable := #[], attributes := #[] }
def k23m12 : Method := { name := "checkIndex", desc := "(I[B)V", sig := { parameters := [.int, (.array .byte)], returnType := none }, accessFlags := 9, code := some k23c12 }
/-- java/lang/StringUTF16 -/
def k23 : Class := { plain "java/lang/StringUTF16" (some 0) with
  accessFlags := 48
  interfaces := #[]
  cf := some (fileOf pool23 12 #[.nestMembers #[627, 629, 369]] #[{ accessFlags := 0, nameIndex := 9, descriptorIndex := 10, attributes := #[] }, { accessFlags := 9, nameIndex := 109, descriptorIndex := 110, attributes := #[] }, { accessFlags := 9, nameIndex := 15, descriptorIndex := 16, attributes := #[] }, { accessFlags := 8, nameIndex := 113, descriptorIndex := 114, attributes := #[] }, { accessFlags := 8, nameIndex := 73, descriptorIndex := 74, attributes := #[] }, { accessFlags := 9, nameIndex := 50, descriptorIndex := 51, attributes := #[] }, { accessFlags := 9, nameIndex := 121, descriptorIndex := 122, attributes := #[] }, { accessFlags := 8, nameIndex := 261, descriptorIndex := 262, attributes := #[] }, { accessFlags := 9, nameIndex := 117, descriptorIndex := 122, attributes := #[] }, { accessFlags := 9, nameIndex := 117, descriptorIndex := 118, attributes := #[] }, { accessFlags := 9, nameIndex := 121, descriptorIndex := 475, attributes := #[] }, { accessFlags := 9, nameIndex := 392, descriptorIndex := 74, attributes := #[] }, { accessFlags := 9, nameIndex := 69, descriptorIndex := 70, attributes := #[] }] 48 6 #[] #[{ accessFlags := 26, nameIndex := 61, descriptorIndex := 62, attributes := #[] }, { accessFlags := 26, nameIndex := 65, descriptorIndex := 62, attributes := #[] }, { accessFlags := 24, nameIndex := 430, descriptorIndex := 62, attributes := #[] }, { accessFlags := 4120, nameIndex := 46, descriptorIndex := 47, attributes := #[] }])
  fields := #[{ name := "HI_BYTE_SHIFT", type := .int, accessFlags := 26, slot := 0, constantValue := 0 }, { name := "LO_BYTE_SHIFT", type := .int, accessFlags := 26, slot := 1, constantValue := 0 }, { name := "MAX_LENGTH", type := .int, accessFlags := 24, slot := 2, constantValue := 0 }, { name := "$assertionsDisabled", type := .boolean, accessFlags := 4120, slot := 3, constantValue := 0 }]
  methods := #[k23m0, k23m1, k23m2, k23m3, k23m4, k23m5, k23m6, k23m7, k23m8, k23m9, k23m10, k23m11, k23m12]
  instanceTypes := #[]
  staticTypes := #[.int, .int, .int, .boolean]
  resolved := Array.replicate 635 none
  statics := some 4 }

def pool24 : Array CpInfo := pool [(9, u "<init>"), (6, .class_ 18), (1, u "java/lang/Object"), (0, u "()V"), (1, .class_ 23), (1, u "jdk/internal/util/ArraysSupport"), (0, u "LOG2_ARRAY_LONG_INDEX_SCALE"), (0, u "I"), (2, u "U"), (0, u "Ljdk/internal/misc/Unsafe;"), (8, u "BIG_ENDIAN"), (0, u "Z"), (8, u "LOG2_BYTE_BIT_SIZE"), (4, u "LOG2_ARRAY_INT_INDEX_SCALE"), (54, u "JLA"), (0, u "Ljdk/internal/access/JavaLangAccess;"), (11, u "LOG2_ARRAY_BOOLEAN_INDEX_SCALE"), (9, u "LOG2_ARRAY_BYTE_INDEX_SCALE"), (5, u "LOG2_ARRAY_CHAR_INDEX_SCALE"), (5, u "LOG2_ARRAY_SHORT_INDEX_SCALE"), (18, u "LOG2_ARRAY_FLOAT_INDEX_SCALE"), (24, u "LOG2_ARRAY_DOUBLE_INDEX_SCALE"), (89, u "T_BOOLEAN"), (2, u "T_CHAR"), (1, u "T_FLOAT"), (1, u "T_DOUBLE"), (1, u "T_BYTE"), (1, u "T_SHORT"), (1, u "T_INT"), (1, u "T_LONG"), (1, u "SOFT_MAX_ARRAY_LENGTH")] 83

def k24m0 : Method := { name := "<init>", desc := "()V", sig := { parameters := [], returnType := none }, accessFlags := 2, code := none }
/-- jdk/internal/util/ArraysSupport -/
def k24 : Class := { plain "jdk/internal/util/ArraysSupport" (some 0) with
  accessFlags := 33
  interfaces := #[]
  cf := some (fileOf pool24 21 #[] #[{ accessFlags := 2, nameIndex := 9, descriptorIndex := 19, attributes := #[] }] 33 16 #[] #[{ accessFlags := 24, nameIndex := 28, descriptorIndex := 29, attributes := #[] }, { accessFlags := 26, nameIndex := 38, descriptorIndex := 39, attributes := #[] }, { accessFlags := 25, nameIndex := 121, descriptorIndex := 25, attributes := #[] }, { accessFlags := 25, nameIndex := 131, descriptorIndex := 25, attributes := #[] }, { accessFlags := 25, nameIndex := 137, descriptorIndex := 25, attributes := #[] }, { accessFlags := 25, nameIndex := 143, descriptorIndex := 25, attributes := #[] }, { accessFlags := 25, nameIndex := 53, descriptorIndex := 25, attributes := #[] }, { accessFlags := 25, nameIndex := 24, descriptorIndex := 25, attributes := #[] }, { accessFlags := 25, nameIndex := 162, descriptorIndex := 25, attributes := #[] }, { accessFlags := 25, nameIndex := 187, descriptorIndex := 25, attributes := #[] }, { accessFlags := 26, nameIndex := 48, descriptorIndex := 25, attributes := #[] }, { accessFlags := 25, nameIndex := 277, descriptorIndex := 25, attributes := #[] }, { accessFlags := 25, nameIndex := 280, descriptorIndex := 25, attributes := #[] }, { accessFlags := 25, nameIndex := 282, descriptorIndex := 25, attributes := #[] }, { accessFlags := 25, nameIndex := 284, descriptorIndex := 25, attributes := #[] }, { accessFlags := 25, nameIndex := 286, descriptorIndex := 25, attributes := #[] }, { accessFlags := 25, nameIndex := 288, descriptorIndex := 25, attributes := #[] }, { accessFlags := 25, nameIndex := 290, descriptorIndex := 25, attributes := #[] }, { accessFlags := 25, nameIndex := 292, descriptorIndex := 25, attributes := #[] }, { accessFlags := 26, nameIndex := 108, descriptorIndex := 109, attributes := #[] }, { accessFlags := 25, nameIndex := 294, descriptorIndex := 25, attributes := #[] }])
  fields := #[{ name := "U", type := (.object "jdk/internal/misc/Unsafe"), accessFlags := 24, slot := 0, constantValue := 0 }, { name := "BIG_ENDIAN", type := .boolean, accessFlags := 26, slot := 1, constantValue := 0 }, { name := "LOG2_ARRAY_BOOLEAN_INDEX_SCALE", type := .int, accessFlags := 25, slot := 2, constantValue := 0 }, { name := "LOG2_ARRAY_BYTE_INDEX_SCALE", type := .int, accessFlags := 25, slot := 3, constantValue := 0 }, { name := "LOG2_ARRAY_CHAR_INDEX_SCALE", type := .int, accessFlags := 25, slot := 4, constantValue := 0 }, { name := "LOG2_ARRAY_SHORT_INDEX_SCALE", type := .int, accessFlags := 25, slot := 5, constantValue := 0 }, { name := "LOG2_ARRAY_INT_INDEX_SCALE", type := .int, accessFlags := 25, slot := 6, constantValue := 0 }, { name := "LOG2_ARRAY_LONG_INDEX_SCALE", type := .int, accessFlags := 25, slot := 7, constantValue := 0 }, { name := "LOG2_ARRAY_FLOAT_INDEX_SCALE", type := .int, accessFlags := 25, slot := 8, constantValue := 0 }, { name := "LOG2_ARRAY_DOUBLE_INDEX_SCALE", type := .int, accessFlags := 25, slot := 9, constantValue := 0 }, { name := "LOG2_BYTE_BIT_SIZE", type := .int, accessFlags := 26, slot := 10, constantValue := 0 }, { name := "T_BOOLEAN", type := .int, accessFlags := 25, slot := 11, constantValue := 0 }, { name := "T_CHAR", type := .int, accessFlags := 25, slot := 12, constantValue := 0 }, { name := "T_FLOAT", type := .int, accessFlags := 25, slot := 13, constantValue := 0 }, { name := "T_DOUBLE", type := .int, accessFlags := 25, slot := 14, constantValue := 0 }, { name := "T_BYTE", type := .int, accessFlags := 25, slot := 15, constantValue := 0 }, { name := "T_SHORT", type := .int, accessFlags := 25, slot := 16, constantValue := 0 }, { name := "T_INT", type := .int, accessFlags := 25, slot := 17, constantValue := 0 }, { name := "T_LONG", type := .int, accessFlags := 25, slot := 18, constantValue := 0 }, { name := "JLA", type := (.object "jdk/internal/access/JavaLangAccess"), accessFlags := 26, slot := 19, constantValue := 0 }, { name := "SOFT_MAX_ARRAY_LENGTH", type := .int, accessFlags := 25, slot := 20, constantValue := 0 }]
  methods := #[k24m0]
  instanceTypes := #[]
  staticTypes := #[(.object "jdk/internal/misc/Unsafe"), .boolean, .int, .int, .int, .int, .int, .int, .int, .int, .int, .int, .int, .int, .int, .int, .int, .int, .int, (.object "jdk/internal/access/JavaLangAccess"), .int]
  resolved := Array.replicate 378 none
  statics := none }

def pool25 : Array CpInfo := pool [(1, u "java/lang/Cloneable"), (0, .class_ 1), (0, u "java/lang/Object"), (0, .class_ 3)] 3

/-- java/lang/Cloneable -/
def k25 : Class := { plain "java/lang/Cloneable" (some 0) with
  accessFlags := 1537
  interfaces := #[]
  cf := some (fileOf pool25 2 #[] #[] 1537 4 #[] #[])
  fields := #[]
  methods := #[]
  instanceTypes := #[]
  staticTypes := #[]
  resolved := Array.replicate 8 none
  statics := none }

/-- the primitive byte -/
def k26 : Class := { plain "byte" none with kind := .primitive 'B', accessFlags := 0x411 }
/-- [B -/
def k27 : Class := { plain "[B" (some 0) with kind := .array 26 .byte, interfaces := #[25, 3], accessFlags := 1041 }

/-- the primitive char -/
def k28 : Class := { plain "char" none with kind := .primitive 'C', accessFlags := 0x411 }
/-- [C -/
def k29 : Class := { plain "[C" (some 0) with kind := .array 28 .char, interfaces := #[25, 3], accessFlags := 1041 }

/-- the primitive int -/
def k30 : Class := { plain "int" none with kind := .primitive 'I', accessFlags := 0x411 }
/-- [I -/
def k31 : Class := { plain "[I" (some 0) with kind := .array 30 .int, interfaces := #[25, 3], accessFlags := 1041 }

def heap : Heap := #[{ cls := 8, slots := #[.long 0, .int 1, .null, .int 0, .null, .int 0, .int 0], vm := .statics 8 },
  { cls := 20, slots := #[.null, .null, .null, .null, .ref 5, .null, .null, .null, .null, .null, .null, .null, .null, .null, .null], vm := .statics 20 },
  { cls := 21, slots := #[.null, .null, .null], vm := .statics 21 },
  { cls := 22, slots := #[.ref 6], vm := .statics 22 },
  { cls := 23, slots := #[.int 0, .int 8, .int 0, .int 1], vm := .statics 23 },
  { cls := 20, slots := #[.null, .int 4, .int 0, .int 4, .int 0], vm := .none },
  { cls := 31, slots := #[.int 0, .int 1, .int 2, .int 3, .int 4, .int 5, .int 6, .int 7, .int 8, .int 9, .int 10, .int 11, .int 12], vm := .none }]
def classes : Array Class := #[k0, k1, k2, k3, k4, k5, k6, k7, k8, k9, k10, k11, k12, k13, k14, k15, k16, k17, k18, k19, k20, k21, k22, k23, k24, k25, k26, k27, k28, k29, k30, k31]
def interned : List (Array UInt16 × Addr) := []
def slotsUsed : Nat := 48
def theMethod : MethodId := ⟨1, 1⟩
def args0 : Array Value := #[.int 65, .long 5, .int 1]
def aboutOver (below : List Frame) : State where
  vm := { classes := classes, interned := interned.toArray }
  heap := heap
  slotsUsed := slotsUsed
  threads := #[{ frames := .invoking theMethod args0 :: below }]
def below0 : List Frame := [.native { method := ⟨0, 0⟩, args := #[] }]
def about1 : State := aboutOver below0
def p0 : Program := .bare "" "" ""
def e0 : Env := launch0.env 0 0 0
theorem w_frames : about1.frames = Frame.invoking theMethod args0 :: below0 := rfl
set_option maxRecDepth 65536 in
theorem w_args : argsFit about1.vm theMethod args0 = true := by decide +kernel
set_option maxRecDepth 65536 in
theorem w_heap : heapFits about1 = true := by decide +kernel
set_option maxRecDepth 65536 in
theorem w_runnable : about1.curStatus? = some .runnable := by decide +kernel
set_option maxRecDepth 65536 in
theorem w_alone : about1.alone = true := by decide +kernel
set_option maxRecDepth 65536 in
theorem w_named : about1.methodNamed? x = some theMethod := by decide +kernel
set_option maxRecDepth 65536 in
theorem w_hears : about1.hears theMethod below0 = true := by decide +kernel
set_option maxRecDepth 65536 in
theorem w_ripe : about1.ripe theMethod args0 below0 = true := by decide +kernel
theorem w_running : about1.status = .running := rfl
set_option maxRecDepth 65536 in
theorem w_room : about1.hasRoom e0.platform room_1 = true :=
  launch0.hasRoom_least _ room_1 (by decide +kernel) (by decide +kernel) (by decide +kernel) (by decide +kernel) (by decide +kernel) (by decide +kernel)
theorem allAtoms_all (ts : List Jvm.Cond) (a : Array Jvm.Value) (st : Jvm.State) : (allAtoms ts).before a st = ts.all (fun c => c.before a st) := by
  induction ts with
  | nil => rfl
  | cons c t ih =>
    show (Jvm.Cond.and c (allAtoms t)).before a st = _
    rw [Jvm.Cond.before_and, ih, List.all_cons]
def words1 : List Jvm.Cond := Jvm.Cond.code x code maxLocals ret :: tables_1
/-- a 'code' word, met by the world's own term for the bytes: nothing is compared byte by byte -/
theorem code_word {y : MethodName} {bytes : ByteArray} {mx : Nat} {rt : Option FieldType} {a : Array Value} {s : State} {m : MethodId} {meth : Method} {c : Code} (h1 : s.methodNamed? y = some m) (h2 : s.vm.method? m = some meth) (h3 : meth.code = some c) (h4 : c.code = bytes)
    (h5 : (c.maxLocals == mx && c.exceptionTable.isEmpty && decide (c.maxStack ≤ mostOperands) && decide (meth.sig.returnType = rt) && !meth.locks && decide (parseMethodDescriptor y.desc = some meth.sig)) = true) : (Jvm.Cond.code y bytes mx rt).before a s = true := by
  simp only [Bool.and_eq_true, beq_iff_eq, Bool.not_eq_true', decide_eq_true_eq] at h5
  obtain ⟨⟨⟨⟨⟨g1, g2⟩, g3⟩, g4⟩, g5⟩, g6⟩ := h5
  simp [Cond.before, Cond.holds, Cond.value, h1, h2, h3, h4, g1, g2, g3, g4, g5, g6]
def isCode : Jvm.Cond → Bool
  | .code _ _ _ _ => true
  | _ => false
theorem all_split {L : List Jvm.Cond} {P : Jvm.Cond → Bool} (h1 : L.all (fun c => isCode c || P c) = true) (h2 : ∀ c ∈ L.filter isCode, P c = true) : L.all P = true := by
  refine List.all_eq_true.mpr fun c hc => ?_
  have h := List.all_eq_true.mp h1 c hc
  rcases Bool.eq_false_or_eq_true (isCode c) with hi | hi
  · exact h2 c (List.mem_filter.mpr ⟨hc, hi⟩)
  · simpa [hi] using h
set_option maxRecDepth 65536 in
theorem w_c0 : (Jvm.Cond.code x code maxLocals ret).before args0 about1 = true := code_word (m := ⟨1, 1⟩) (meth := k1m1) (c := k1c1) (by decide +kernel) rfl rfl rfl (by decide +kernel)
set_option maxRecDepth 65536 in
theorem w_c1 : (Jvm.Cond.code ({ cls := "java/lang/Math", name := "min", desc := "(II)I" } : Jvm.MethodName) jdk_29_method_69_code (2 : Nat) (Option.some Jvm.ClassFile.FieldType.int)).before args0 about1 = true := code_word (m := ⟨2, 1⟩) (meth := k2m1) (c := k2c1) (by decide +kernel) rfl rfl rfl (by decide +kernel)
set_option maxRecDepth 65536 in
theorem w_c2 : (Jvm.Cond.code ({ cls := "java/lang/String", name := "valueOf", desc := "(C)Ljava/lang/String;" } : Jvm.MethodName) jdk_42_method_139_code (1 : Nat) (Option.some (Jvm.ClassFile.FieldType.object "java/lang/String"))).before args0 about1 = true := code_word (m := ⟨8, 4⟩) (meth := k8m4) (c := k8c4) (by decide +kernel) rfl rfl rfl (by decide +kernel)
set_option maxRecDepth 65536 in
theorem w_c3 : (Jvm.Cond.code ({ cls := "java/lang/StringLatin1", name := "canEncode", desc := "(C)Z" } : Jvm.MethodName) jdk_43_method_3_code (1 : Nat) (Option.some Jvm.ClassFile.FieldType.boolean)).before args0 about1 = true := code_word (m := ⟨9, 2⟩) (meth := k9m2) (c := k9c2) (by decide +kernel) rfl rfl rfl (by decide +kernel)
set_option maxRecDepth 65536 in
theorem w_c4 : (Jvm.Cond.code ({ cls := "java/lang/StringLatin1", name := "toBytes", desc := "(C)[B" } : Jvm.MethodName) jdk_43_method_46_code (1 : Nat) (Option.some (Jvm.ClassFile.FieldType.array Jvm.ClassFile.FieldType.byte))).before args0 about1 = true := code_word (m := ⟨9, 3⟩) (meth := k9m3) (c := k9c3) (by decide +kernel) rfl rfl rfl (by decide +kernel)
set_option maxRecDepth 65536 in
theorem w_c5 : (Jvm.Cond.code ({ cls := "java/lang/String", name := "<init>", desc := "([BB)V" } : Jvm.MethodName) jdk_42_method_151_code (3 : Nat) (Option.none : Option Jvm.ClassFile.FieldType)).before args0 about1 = true := code_word (m := ⟨8, 6⟩) (meth := k8m6) (c := k8c6) (by decide +kernel) rfl rfl rfl (by decide +kernel)
set_option maxRecDepth 65536 in
theorem w_c6 : (Jvm.Cond.code ({ cls := "java/lang/Object", name := "<init>", desc := "()V" } : Jvm.MethodName) object_method_1_code (1 : Nat) (Option.none : Option Jvm.ClassFile.FieldType)).before args0 about1 = true := code_word (m := ⟨0, 0⟩) (meth := k0m0) (c := k0c0) (by decide +kernel) rfl rfl rfl (by decide +kernel)
set_option maxRecDepth 65536 in
theorem w_c7 : (Jvm.Cond.code ({ cls := "com/example/cofferhand/cofferhand/nbt/NbtWriterToByteArrayPinLaw", name := "put", desc := "([BIC)I" } : Jvm.MethodName) method_3_code (3 : Nat) (Option.some Jvm.ClassFile.FieldType.int)).before args0 about1 = true := code_word (m := ⟨1, 2⟩) (meth := k1m2) (c := k1c2) (by decide +kernel) rfl rfl rfl (by decide +kernel)
set_option maxRecDepth 65536 in
theorem w_c8 : (Jvm.Cond.code ({ cls := "com/example/cofferhand/cofferhand/nbt/LongTag", name := "<init>", desc := "(J)V" } : Jvm.MethodName) prog_31_method_1_code (3 : Nat) (Option.none : Option Jvm.ClassFile.FieldType)).before args0 about1 = true := code_word (m := ⟨13, 0⟩) (meth := k13m0) (c := k13c0) (by decide +kernel) rfl rfl rfl (by decide +kernel)
set_option maxRecDepth 65536 in
theorem w_c9 : (Jvm.Cond.code ({ cls := "java/lang/Record", name := "<init>", desc := "()V" } : Jvm.MethodName) jdk_30_method_1_code (1 : Nat) (Option.none : Option Jvm.ClassFile.FieldType)).before args0 about1 = true := code_word (m := ⟨10, 0⟩) (meth := k10m0) (c := k10c0) (by decide +kernel) rfl rfl rfl (by decide +kernel)
set_option maxRecDepth 65536 in
theorem w_c10 : (Jvm.Cond.code ({ cls := "com/example/cofferhand/cofferhand/nbt/NamedTag", name := "<init>", desc := "(Ljava/lang/String;Lcom/example/cofferhand/cofferhand/nbt/Tag;)V" } : Jvm.MethodName) prog_33_method_1_code (3 : Nat) (Option.none : Option Jvm.ClassFile.FieldType)).before args0 about1 = true := code_word (m := ⟨11, 0⟩) (meth := k11m0) (c := k11c0) (by decide +kernel) rfl rfl rfl (by decide +kernel)
set_option maxRecDepth 65536 in
theorem w_c11 : (Jvm.Cond.code ({ cls := "java/util/Objects", name := "requireNonNull", desc := "(Ljava/lang/Object;Ljava/lang/String;)Ljava/lang/Object;" } : Jvm.MethodName) jdk_31_method_11_code (2 : Nat) (Option.some (Jvm.ClassFile.FieldType.object "java/lang/Object"))).before args0 about1 = true := code_word (m := ⟨14, 1⟩) (meth := k14m1) (c := k14c1) (by decide +kernel) rfl rfl rfl (by decide +kernel)
set_option maxRecDepth 65536 in
theorem w_c12 : (Jvm.Cond.code ({ cls := "com/example/cofferhand/cofferhand/nbt/ModifiedUtf8", name := "requireEncodable", desc := "(Ljava/lang/String;)V" } : Jvm.MethodName) prog_32_method_4_code (1 : Nat) (Option.none : Option Jvm.ClassFile.FieldType)).before args0 about1 = true := code_word (m := ⟨15, 3⟩) (meth := k15m3) (c := k15c3) (by decide +kernel) rfl rfl rfl (by decide +kernel)
set_option maxRecDepth 65536 in
theorem w_c13 : (Jvm.Cond.code ({ cls := "com/example/cofferhand/cofferhand/nbt/ModifiedUtf8", name := "fits", desc := "(Ljava/lang/String;)Z" } : Jvm.MethodName) prog_32_method_3_code (1 : Nat) (Option.some Jvm.ClassFile.FieldType.boolean)).before args0 about1 = true := code_word (m := ⟨15, 2⟩) (meth := k15m2) (c := k15c2) (by decide +kernel) rfl rfl rfl (by decide +kernel)
set_option maxRecDepth 65536 in
theorem w_c14 : (Jvm.Cond.code ({ cls := "java/lang/String", name := "length", desc := "()I" } : Jvm.MethodName) jdk_42_method_54_code (1 : Nat) (Option.some Jvm.ClassFile.FieldType.int)).before args0 about1 = true := code_word (m := ⟨8, 2⟩) (meth := k8m2) (c := k8c2) (by decide +kernel) rfl rfl rfl (by decide +kernel)
set_option maxRecDepth 65536 in
theorem w_c15 : (Jvm.Cond.code ({ cls := "java/lang/String", name := "coder", desc := "()B" } : Jvm.MethodName) jdk_42_method_152_code (1 : Nat) (Option.some Jvm.ClassFile.FieldType.byte)).before args0 about1 = true := code_word (m := ⟨8, 7⟩) (meth := k8m7) (c := k8c7) (by decide +kernel) rfl rfl rfl (by decide +kernel)
set_option maxRecDepth 65536 in
theorem w_c16 : (Jvm.Cond.code ({ cls := "com/example/cofferhand/cofferhand/nbt/NbtWriter", name := "<init>", desc := "()V" } : Jvm.MethodName) prog_41_method_1_code (1 : Nat) (Option.none : Option Jvm.ClassFile.FieldType)).before args0 about1 = true := code_word (m := ⟨16, 0⟩) (meth := k16m0) (c := k16c0) (by decide +kernel) rfl rfl rfl (by decide +kernel)
set_option maxRecDepth 65536 in
theorem w_c17 : (Jvm.Cond.code ({ cls := "com/example/cofferhand/cofferhand/nbt/NbtWriter", name := "toByteArray", desc := "()[B" } : Jvm.MethodName) prog_41_method_3_code (1 : Nat) (Option.some (Jvm.ClassFile.FieldType.array Jvm.ClassFile.FieldType.byte))).before args0 about1 = true := code_word (m := ⟨16, 2⟩) (meth := k16m2) (c := k16c2) (by decide +kernel) rfl rfl rfl (by decide +kernel)
set_option maxRecDepth 65536 in
theorem w_c18 : (Jvm.Cond.code ({ cls := "java/util/Arrays", name := "copyOf", desc := "([BI)[B" } : Jvm.MethodName) jdk_65_method_121_code (3 : Nat) (Option.some (Jvm.ClassFile.FieldType.array Jvm.ClassFile.FieldType.byte))).before args0 about1 = true := code_word (m := ⟨17, 1⟩) (meth := k17m1) (c := k17c1) (by decide +kernel) rfl rfl rfl (by decide +kernel)
set_option maxRecDepth 65536 in
theorem w_c19 : (Jvm.Cond.code ({ cls := "com/example/cofferhand/cofferhand/nbt/NbtWriter", name := "writeRoot", desc := "(Lcom/example/cofferhand/cofferhand/nbt/NamedTag;)V" } : Jvm.MethodName) prog_41_method_2_code (2 : Nat) (Option.none : Option Jvm.ClassFile.FieldType)).before args0 about1 = true := code_word (m := ⟨16, 1⟩) (meth := k16m1) (c := k16c1) (by decide +kernel) rfl rfl rfl (by decide +kernel)
set_option maxRecDepth 65536 in
theorem w_c20 : (Jvm.Cond.code ({ cls := "com/example/cofferhand/cofferhand/nbt/NamedTag", name := "tag", desc := "()Lcom/example/cofferhand/cofferhand/nbt/Tag;" } : Jvm.MethodName) prog_33_method_6_code (1 : Nat) (Option.some (Jvm.ClassFile.FieldType.object "com/example/cofferhand/cofferhand/nbt/Tag"))).before args0 about1 = true := code_word (m := ⟨11, 2⟩) (meth := k11m2) (c := k11c2) (by decide +kernel) rfl rfl rfl (by decide +kernel)
set_option maxRecDepth 65536 in
theorem w_c21 : (Jvm.Cond.code ({ cls := "com/example/cofferhand/cofferhand/nbt/LongTag", name := "type", desc := "()Lcom/example/cofferhand/cofferhand/nbt/TagType;" } : Jvm.MethodName) prog_31_method_2_code (1 : Nat) (Option.some (Jvm.ClassFile.FieldType.object "com/example/cofferhand/cofferhand/nbt/TagType"))).before args0 about1 = true := code_word (m := ⟨13, 1⟩) (meth := k13m1) (c := k13c1) (by decide +kernel) rfl rfl rfl (by decide +kernel)
set_option maxRecDepth 65536 in
theorem w_c22 : (Jvm.Cond.code ({ cls := "com/example/cofferhand/cofferhand/nbt/TagType", name := "id", desc := "()I" } : Jvm.MethodName) prog_47_method_4_code (1 : Nat) (Option.some Jvm.ClassFile.FieldType.int)).before args0 about1 = true := code_word (m := ⟨20, 0⟩) (meth := k20m0) (c := k20c0) (by decide +kernel) rfl rfl rfl (by decide +kernel)
set_option maxRecDepth 65536 in
theorem w_c23 : (Jvm.Cond.code ({ cls := "com/example/cofferhand/cofferhand/nbt/NbtWriter", name := "writeByte", desc := "(I)V" } : Jvm.MethodName) prog_41_method_6_code (2 : Nat) (Option.none : Option Jvm.ClassFile.FieldType)).before args0 about1 = true := code_word (m := ⟨16, 5⟩) (meth := k16m5) (c := k16c5) (by decide +kernel) rfl rfl rfl (by decide +kernel)
set_option maxRecDepth 65536 in
theorem w_c24 : (Jvm.Cond.code ({ cls := "com/example/cofferhand/cofferhand/nbt/NbtWriter", name := "ensure", desc := "(I)V" } : Jvm.MethodName) prog_41_method_10_code (4 : Nat) (Option.none : Option Jvm.ClassFile.FieldType)).before args0 about1 = true := code_word (m := ⟨16, 9⟩) (meth := k16m9) (c := k16c9) (by decide +kernel) rfl rfl rfl (by decide +kernel)
set_option maxRecDepth 65536 in
theorem w_c25 : (Jvm.Cond.code ({ cls := "com/example/cofferhand/cofferhand/nbt/NamedTag", name := "name", desc := "()Ljava/lang/String;" } : Jvm.MethodName) prog_33_method_5_code (1 : Nat) (Option.some (Jvm.ClassFile.FieldType.object "java/lang/String"))).before args0 about1 = true := code_word (m := ⟨11, 1⟩) (meth := k11m1) (c := k11c1) (by decide +kernel) rfl rfl rfl (by decide +kernel)
set_option maxRecDepth 65536 in
theorem w_c26 : (Jvm.Cond.code ({ cls := "com/example/cofferhand/cofferhand/nbt/NbtWriter", name := "writeString", desc := "(Ljava/lang/String;)V" } : Jvm.MethodName) prog_41_method_5_code (3 : Nat) (Option.none : Option Jvm.ClassFile.FieldType)).before args0 about1 = true := code_word (m := ⟨16, 4⟩) (meth := k16m4) (c := k16c4) (by decide +kernel) rfl rfl rfl (by decide +kernel)
set_option maxRecDepth 65536 in
theorem w_c27 : (Jvm.Cond.code ({ cls := "com/example/cofferhand/cofferhand/nbt/ModifiedUtf8", name := "encodedLength", desc := "(Ljava/lang/String;)J" } : Jvm.MethodName) prog_32_method_2_code (5 : Nat) (Option.some Jvm.ClassFile.FieldType.long)).before args0 about1 = true := code_word (m := ⟨15, 1⟩) (meth := k15m1) (c := k15c1) (by decide +kernel) rfl rfl rfl (by decide +kernel)
set_option maxRecDepth 65536 in
theorem w_c28 : (Jvm.Cond.code ({ cls := "java/lang/String", name := "charAt", desc := "(I)C" } : Jvm.MethodName) jdk_42_method_56_code (2 : Nat) (Option.some Jvm.ClassFile.FieldType.char)).before args0 about1 = true := code_word (m := ⟨8, 3⟩) (meth := k8m3) (c := k8c3) (by decide +kernel) rfl rfl rfl (by decide +kernel)
set_option maxRecDepth 65536 in
theorem w_c29 : (Jvm.Cond.code ({ cls := "java/lang/String", name := "isLatin1", desc := "()Z" } : Jvm.MethodName) jdk_42_method_154_code (1 : Nat) (Option.some Jvm.ClassFile.FieldType.boolean)).before args0 about1 = true := code_word (m := ⟨8, 8⟩) (meth := k8m8) (c := k8c8) (by decide +kernel) rfl rfl rfl (by decide +kernel)
set_option maxRecDepth 65536 in
theorem w_c30 : (Jvm.Cond.code ({ cls := "java/lang/StringLatin1", name := "charAt", desc := "([BI)C" } : Jvm.MethodName) jdk_43_method_2_code (2 : Nat) (Option.some Jvm.ClassFile.FieldType.char)).before args0 about1 = true := code_word (m := ⟨9, 1⟩) (meth := k9m1) (c := k9c1) (by decide +kernel) rfl rfl rfl (by decide +kernel)
set_option maxRecDepth 65536 in
theorem w_c31 : (Jvm.Cond.code ({ cls := "java/lang/String", name := "checkIndex", desc := "(II)V" } : Jvm.MethodName) jdk_42_method_155_code (2 : Nat) (Option.none : Option Jvm.ClassFile.FieldType)).before args0 about1 = true := code_word (m := ⟨8, 9⟩) (meth := k8m9) (c := k8c9) (by decide +kernel) rfl rfl rfl (by decide +kernel)
set_option maxRecDepth 65536 in
theorem w_c32 : (Jvm.Cond.code ({ cls := "jdk/internal/util/Preconditions", name := "checkIndex", desc := "(IILjava/util/function/BiFunction;)I" } : Jvm.MethodName) jdk_41_method_11_code (3 : Nat) (Option.some Jvm.ClassFile.FieldType.int)).before args0 about1 = true := code_word (m := ⟨21, 1⟩) (meth := k21m1) (c := k21c1) (by decide +kernel) rfl rfl rfl (by decide +kernel)
set_option maxRecDepth 65536 in
theorem w_c33 : (Jvm.Cond.code ({ cls := "com/example/cofferhand/cofferhand/nbt/NbtWriter", name := "writeShort", desc := "(I)V" } : Jvm.MethodName) prog_41_method_7_code (2 : Nat) (Option.none : Option Jvm.ClassFile.FieldType)).before args0 about1 = true := code_word (m := ⟨16, 6⟩) (meth := k16m6) (c := k16c6) (by decide +kernel) rfl rfl rfl (by decide +kernel)
set_option maxRecDepth 65536 in
theorem w_c34 : (Jvm.Cond.code ({ cls := "com/example/cofferhand/cofferhand/nbt/ModifiedUtf8", name := "encode", desc := "(Ljava/lang/String;[BI)I" } : Jvm.MethodName) prog_32_method_5_code (6 : Nat) (Option.some Jvm.ClassFile.FieldType.int)).before args0 about1 = true := code_word (m := ⟨15, 4⟩) (meth := k15m4) (c := k15c4) (by decide +kernel) rfl rfl rfl (by decide +kernel)
set_option maxRecDepth 65536 in
theorem w_c35 : (Jvm.Cond.code ({ cls := "com/example/cofferhand/cofferhand/nbt/NbtWriter", name := "writePayload", desc := "(Lcom/example/cofferhand/cofferhand/nbt/Tag;)V" } : Jvm.MethodName) prog_41_method_4_code (8 : Nat) (Option.none : Option Jvm.ClassFile.FieldType)).before args0 about1 = true := code_word (m := ⟨16, 3⟩) (meth := k16m3) (c := k16c3) (by decide +kernel) rfl rfl rfl (by decide +kernel)
set_option maxRecDepth 65536 in
theorem w_c36 : (Jvm.Cond.code ({ cls := "java/lang/Enum", name := "ordinal", desc := "()I" } : Jvm.MethodName) jdk_37_method_2_code (1 : Nat) (Option.some Jvm.ClassFile.FieldType.int)).before args0 about1 = true := code_word (m := ⟨19, 0⟩) (meth := k19m0) (c := k19c0) (by decide +kernel) rfl rfl rfl (by decide +kernel)
set_option maxRecDepth 65536 in
theorem w_c37 : (Jvm.Cond.code ({ cls := "com/example/cofferhand/cofferhand/nbt/LongTag", name := "value", desc := "()J" } : Jvm.MethodName) prog_31_method_6_code (1 : Nat) (Option.some Jvm.ClassFile.FieldType.long)).before args0 about1 = true := code_word (m := ⟨13, 2⟩) (meth := k13m2) (c := k13c2) (by decide +kernel) rfl rfl rfl (by decide +kernel)
set_option maxRecDepth 65536 in
theorem w_c38 : (Jvm.Cond.code ({ cls := "com/example/cofferhand/cofferhand/nbt/NbtWriter", name := "writeLong", desc := "(J)V" } : Jvm.MethodName) prog_41_method_9_code (3 : Nat) (Option.none : Option Jvm.ClassFile.FieldType)).before args0 about1 = true := code_word (m := ⟨16, 8⟩) (meth := k16m8) (c := k16c8) (by decide +kernel) rfl rfl rfl (by decide +kernel)
set_option maxRecDepth 65536 in
theorem w_c39 : (Jvm.Cond.code ({ cls := "com/example/cofferhand/cofferhand/nbt/NbtWriter", name := "writeInt", desc := "(I)V" } : Jvm.MethodName) prog_41_method_8_code (2 : Nat) (Option.none : Option Jvm.ClassFile.FieldType)).before args0 about1 = true := code_word (m := ⟨16, 7⟩) (meth := k16m7) (c := k16c7) (by decide +kernel) rfl rfl rfl (by decide +kernel)
set_option maxRecDepth 65536 in
theorem w_c40 : (Jvm.Cond.code ({ cls := "com/example/cofferhand/cofferhand/nbt/NbtWriterToByteArrayPinLaw", name := "allSame", desc := "([BI[BI)Z" } : Jvm.MethodName) method_5_code (4 : Nat) (Option.some Jvm.ClassFile.FieldType.boolean)).before args0 about1 = true := code_word (m := ⟨1, 4⟩) (meth := k1m4) (c := k1c4) (by decide +kernel) rfl rfl rfl (by decide +kernel)
set_option maxRecDepth 65536 in
theorem w_c41 : (Jvm.Cond.code ({ cls := "com/example/cofferhand/cofferhand/nbt/NbtWriterToByteArrayPinLaw", name := "same", desc := "([BI[BII)Z" } : Jvm.MethodName) method_4_code (5 : Nat) (Option.some Jvm.ClassFile.FieldType.boolean)).before args0 about1 = true := code_word (m := ⟨1, 3⟩) (meth := k1m3) (c := k1c3) (by decide +kernel) rfl rfl rfl (by decide +kernel)
set_option maxRecDepth 65536 in
theorem w_c42 : (Jvm.Cond.code ({ cls := "java/lang/String", name := "<init>", desc := "([C)V" } : Jvm.MethodName) jdk_42_method_3_code (2 : Nat) (Option.none : Option Jvm.ClassFile.FieldType)).before args0 about1 = true := code_word (m := ⟨8, 1⟩) (meth := k8m1) (c := k8c1) (by decide +kernel) rfl rfl rfl (by decide +kernel)
set_option maxRecDepth 65536 in
theorem w_c43 : (Jvm.Cond.code ({ cls := "java/lang/String", name := "<init>", desc := "([CIILjava/lang/Void;)V" } : Jvm.MethodName) jdk_42_method_149_code (6 : Nat) (Option.none : Option Jvm.ClassFile.FieldType)).before args0 about1 = true := code_word (m := ⟨8, 5⟩) (meth := k8m5) (c := k8c5) (by decide +kernel) rfl rfl rfl (by decide +kernel)
set_option maxRecDepth 65536 in
theorem w_c44 : (Jvm.Cond.code ({ cls := "java/lang/StringUTF16", name := "compress", desc := "([CII)[B" } : Jvm.MethodName) jdk_52_method_16_code (6 : Nat) (Option.some (Jvm.ClassFile.FieldType.array Jvm.ClassFile.FieldType.byte))).before args0 about1 = true := code_word (m := ⟨23, 8⟩) (meth := k23m8) (c := k23c8) (by decide +kernel) rfl rfl rfl (by decide +kernel)
set_option maxRecDepth 65536 in
theorem w_c45 : (Jvm.Cond.code ({ cls := "java/lang/StringUTF16", name := "compress", desc := "([CI[BII)I" } : Jvm.MethodName) jdk_52_method_21_code (7 : Nat) (Option.some Jvm.ClassFile.FieldType.int)).before args0 about1 = true := code_word (m := ⟨23, 9⟩) (meth := k23m9) (c := k23c9) (by decide +kernel) rfl rfl rfl (by decide +kernel)
set_option maxRecDepth 65536 in
theorem w_c46 : (Jvm.Cond.code ({ cls := "java/lang/StringUTF16", name := "coderFromArrayLen", desc := "([BI)B" } : Jvm.MethodName) jdk_52_method_15_code (2 : Nat) (Option.some Jvm.ClassFile.FieldType.byte)).before args0 about1 = true := code_word (m := ⟨23, 7⟩) (meth := k23m7) (c := k23c7) (by decide +kernel) rfl rfl rfl (by decide +kernel)
set_option maxRecDepth 65536 in
theorem w_c47 : (Jvm.Cond.code ({ cls := "java/lang/StringUTF16", name := "toBytes", desc := "([CII)[B" } : Jvm.MethodName) jdk_52_method_14_code (5 : Nat) (Option.some (Jvm.ClassFile.FieldType.array Jvm.ClassFile.FieldType.byte))).before args0 about1 = true := code_word (m := ⟨23, 6⟩) (meth := k23m6) (c := k23c6) (by decide +kernel) rfl rfl rfl (by decide +kernel)
set_option maxRecDepth 65536 in
theorem w_c48 : (Jvm.Cond.code ({ cls := "java/lang/StringUTF16", name := "newBytesFor", desc := "(I)[B" } : Jvm.MethodName) jdk_52_method_2_code (1 : Nat) (Option.some (Jvm.ClassFile.FieldType.array Jvm.ClassFile.FieldType.byte))).before args0 about1 = true := code_word (m := ⟨23, 1⟩) (meth := k23m1) (c := k23c1) (by decide +kernel) rfl rfl rfl (by decide +kernel)
set_option maxRecDepth 65536 in
theorem w_c49 : (Jvm.Cond.code ({ cls := "java/lang/StringUTF16", name := "newBytesLength", desc := "(I)I" } : Jvm.MethodName) jdk_52_method_3_code (1 : Nat) (Option.some Jvm.ClassFile.FieldType.int)).before args0 about1 = true := code_word (m := ⟨23, 2⟩) (meth := k23m2) (c := k23c2) (by decide +kernel) rfl rfl rfl (by decide +kernel)
set_option maxRecDepth 65536 in
theorem w_c50 : (Jvm.Cond.code ({ cls := "java/lang/StringUTF16", name := "putChar", desc := "([BII)V" } : Jvm.MethodName) jdk_52_method_4_code (3 : Nat) (Option.none : Option Jvm.ClassFile.FieldType)).before args0 about1 = true := code_word (m := ⟨23, 3⟩) (meth := k23m3) (c := k23c3) (by decide +kernel) rfl rfl rfl (by decide +kernel)
set_option maxRecDepth 65536 in
theorem w_c51 : (Jvm.Cond.code ({ cls := "java/lang/StringUTF16", name := "getChar", desc := "([BI)C" } : Jvm.MethodName) jdk_52_method_5_code (2 : Nat) (Option.some Jvm.ClassFile.FieldType.char)).before args0 about1 = true := code_word (m := ⟨23, 4⟩) (meth := k23m4) (c := k23c4) (by decide +kernel) rfl rfl rfl (by decide +kernel)
set_option maxRecDepth 65536 in
theorem w_c52 : (Jvm.Cond.code ({ cls := "java/lang/StringUTF16", name := "charAt", desc := "([BI)C" } : Jvm.MethodName) jdk_52_method_83_code (2 : Nat) (Option.some Jvm.ClassFile.FieldType.char)).before args0 about1 = true := code_word (m := ⟨23, 11⟩) (meth := k23m11) (c := k23c11) (by decide +kernel) rfl rfl rfl (by decide +kernel)
set_option maxRecDepth 65536 in
theorem w_c53 : (Jvm.Cond.code ({ cls := "java/lang/StringUTF16", name := "checkIndex", desc := "(I[B)V" } : Jvm.MethodName) jdk_52_method_91_code (2 : Nat) (Option.none : Option Jvm.ClassFile.FieldType)).before args0 about1 = true := code_word (m := ⟨23, 12⟩) (meth := k23m12) (c := k23c12) (by decide +kernel) rfl rfl rfl (by decide +kernel)
set_option maxRecDepth 65536 in
theorem w_c54 : (Jvm.Cond.code ({ cls := "java/lang/StringUTF16", name := "length", desc := "([B)I" } : Jvm.MethodName) jdk_52_method_6_code (1 : Nat) (Option.some Jvm.ClassFile.FieldType.int)).before args0 about1 = true := code_word (m := ⟨23, 5⟩) (meth := k23m5) (c := k23c5) (by decide +kernel) rfl rfl rfl (by decide +kernel)
set_option maxRecDepth 65536 in
theorem w_c55 : (Jvm.Cond.code ({ cls := "java/lang/StringUTF16", name := "toBytes", desc := "(C)[B" } : Jvm.MethodName) jdk_52_method_24_code (2 : Nat) (Option.some (Jvm.ClassFile.FieldType.array Jvm.ClassFile.FieldType.byte))).before args0 about1 = true := code_word (m := ⟨23, 10⟩) (meth := k23m10) (c := k23c10) (by decide +kernel) rfl rfl rfl (by decide +kernel)
def codes1 : List Jvm.Cond := [Jvm.Cond.code x code maxLocals ret, Jvm.Cond.code ({ cls := "java/lang/Math", name := "min", desc := "(II)I" } : Jvm.MethodName) jdk_29_method_69_code (2 : Nat) (Option.some Jvm.ClassFile.FieldType.int), Jvm.Cond.code ({ cls := "java/lang/String", name := "valueOf", desc := "(C)Ljava/lang/String;" } : Jvm.MethodName) jdk_42_method_139_code (1 : Nat) (Option.some (Jvm.ClassFile.FieldType.object "java/lang/String")), Jvm.Cond.code ({ cls := "java/lang/StringLatin1", name := "canEncode", desc := "(C)Z" } : Jvm.MethodName) jdk_43_method_3_code (1 : Nat) (Option.some Jvm.ClassFile.FieldType.boolean), Jvm.Cond.code ({ cls := "java/lang/StringLatin1", name := "toBytes", desc := "(C)[B" } : Jvm.MethodName) jdk_43_method_46_code (1 : Nat) (Option.some (Jvm.ClassFile.FieldType.array Jvm.ClassFile.FieldType.byte)), Jvm.Cond.code ({ cls := "java/lang/String", name := "<init>", desc := "([BB)V" } : Jvm.MethodName) jdk_42_method_151_code (3 : Nat) (Option.none : Option Jvm.ClassFile.FieldType), Jvm.Cond.code ({ cls := "java/lang/Object", name := "<init>", desc := "()V" } : Jvm.MethodName) object_method_1_code (1 : Nat) (Option.none : Option Jvm.ClassFile.FieldType), Jvm.Cond.code ({ cls := "com/example/cofferhand/cofferhand/nbt/NbtWriterToByteArrayPinLaw", name := "put", desc := "([BIC)I" } : Jvm.MethodName) method_3_code (3 : Nat) (Option.some Jvm.ClassFile.FieldType.int), Jvm.Cond.code ({ cls := "com/example/cofferhand/cofferhand/nbt/LongTag", name := "<init>", desc := "(J)V" } : Jvm.MethodName) prog_31_method_1_code (3 : Nat) (Option.none : Option Jvm.ClassFile.FieldType), Jvm.Cond.code ({ cls := "java/lang/Record", name := "<init>", desc := "()V" } : Jvm.MethodName) jdk_30_method_1_code (1 : Nat) (Option.none : Option Jvm.ClassFile.FieldType), Jvm.Cond.code ({ cls := "com/example/cofferhand/cofferhand/nbt/NamedTag", name := "<init>", desc := "(Ljava/lang/String;Lcom/example/cofferhand/cofferhand/nbt/Tag;)V" } : Jvm.MethodName) prog_33_method_1_code (3 : Nat) (Option.none : Option Jvm.ClassFile.FieldType), Jvm.Cond.code ({ cls := "java/util/Objects", name := "requireNonNull", desc := "(Ljava/lang/Object;Ljava/lang/String;)Ljava/lang/Object;" } : Jvm.MethodName) jdk_31_method_11_code (2 : Nat) (Option.some (Jvm.ClassFile.FieldType.object "java/lang/Object")), Jvm.Cond.code ({ cls := "com/example/cofferhand/cofferhand/nbt/ModifiedUtf8", name := "requireEncodable", desc := "(Ljava/lang/String;)V" } : Jvm.MethodName) prog_32_method_4_code (1 : Nat) (Option.none : Option Jvm.ClassFile.FieldType), Jvm.Cond.code ({ cls := "com/example/cofferhand/cofferhand/nbt/ModifiedUtf8", name := "fits", desc := "(Ljava/lang/String;)Z" } : Jvm.MethodName) prog_32_method_3_code (1 : Nat) (Option.some Jvm.ClassFile.FieldType.boolean), Jvm.Cond.code ({ cls := "java/lang/String", name := "length", desc := "()I" } : Jvm.MethodName) jdk_42_method_54_code (1 : Nat) (Option.some Jvm.ClassFile.FieldType.int), Jvm.Cond.code ({ cls := "java/lang/String", name := "coder", desc := "()B" } : Jvm.MethodName) jdk_42_method_152_code (1 : Nat) (Option.some Jvm.ClassFile.FieldType.byte), Jvm.Cond.code ({ cls := "com/example/cofferhand/cofferhand/nbt/NbtWriter", name := "<init>", desc := "()V" } : Jvm.MethodName) prog_41_method_1_code (1 : Nat) (Option.none : Option Jvm.ClassFile.FieldType), Jvm.Cond.code ({ cls := "com/example/cofferhand/cofferhand/nbt/NbtWriter", name := "toByteArray", desc := "()[B" } : Jvm.MethodName) prog_41_method_3_code (1 : Nat) (Option.some (Jvm.ClassFile.FieldType.array Jvm.ClassFile.FieldType.byte)), Jvm.Cond.code ({ cls := "java/util/Arrays", name := "copyOf", desc := "([BI)[B" } : Jvm.MethodName) jdk_65_method_121_code (3 : Nat) (Option.some (Jvm.ClassFile.FieldType.array Jvm.ClassFile.FieldType.byte)), Jvm.Cond.code ({ cls := "com/example/cofferhand/cofferhand/nbt/NbtWriter", name := "writeRoot", desc := "(Lcom/example/cofferhand/cofferhand/nbt/NamedTag;)V" } : Jvm.MethodName) prog_41_method_2_code (2 : Nat) (Option.none : Option Jvm.ClassFile.FieldType), Jvm.Cond.code ({ cls := "com/example/cofferhand/cofferhand/nbt/NamedTag", name := "tag", desc := "()Lcom/example/cofferhand/cofferhand/nbt/Tag;" } : Jvm.MethodName) prog_33_method_6_code (1 : Nat) (Option.some (Jvm.ClassFile.FieldType.object "com/example/cofferhand/cofferhand/nbt/Tag")), Jvm.Cond.code ({ cls := "com/example/cofferhand/cofferhand/nbt/LongTag", name := "type", desc := "()Lcom/example/cofferhand/cofferhand/nbt/TagType;" } : Jvm.MethodName) prog_31_method_2_code (1 : Nat) (Option.some (Jvm.ClassFile.FieldType.object "com/example/cofferhand/cofferhand/nbt/TagType")), Jvm.Cond.code ({ cls := "com/example/cofferhand/cofferhand/nbt/TagType", name := "id", desc := "()I" } : Jvm.MethodName) prog_47_method_4_code (1 : Nat) (Option.some Jvm.ClassFile.FieldType.int), Jvm.Cond.code ({ cls := "com/example/cofferhand/cofferhand/nbt/NbtWriter", name := "writeByte", desc := "(I)V" } : Jvm.MethodName) prog_41_method_6_code (2 : Nat) (Option.none : Option Jvm.ClassFile.FieldType), Jvm.Cond.code ({ cls := "com/example/cofferhand/cofferhand/nbt/NbtWriter", name := "ensure", desc := "(I)V" } : Jvm.MethodName) prog_41_method_10_code (4 : Nat) (Option.none : Option Jvm.ClassFile.FieldType), Jvm.Cond.code ({ cls := "com/example/cofferhand/cofferhand/nbt/NamedTag", name := "name", desc := "()Ljava/lang/String;" } : Jvm.MethodName) prog_33_method_5_code (1 : Nat) (Option.some (Jvm.ClassFile.FieldType.object "java/lang/String")), Jvm.Cond.code ({ cls := "com/example/cofferhand/cofferhand/nbt/NbtWriter", name := "writeString", desc := "(Ljava/lang/String;)V" } : Jvm.MethodName) prog_41_method_5_code (3 : Nat) (Option.none : Option Jvm.ClassFile.FieldType), Jvm.Cond.code ({ cls := "com/example/cofferhand/cofferhand/nbt/ModifiedUtf8", name := "encodedLength", desc := "(Ljava/lang/String;)J" } : Jvm.MethodName) prog_32_method_2_code (5 : Nat) (Option.some Jvm.ClassFile.FieldType.long), Jvm.Cond.code ({ cls := "java/lang/String", name := "charAt", desc := "(I)C" } : Jvm.MethodName) jdk_42_method_56_code (2 : Nat) (Option.some Jvm.ClassFile.FieldType.char), Jvm.Cond.code ({ cls := "java/lang/String", name := "isLatin1", desc := "()Z" } : Jvm.MethodName) jdk_42_method_154_code (1 : Nat) (Option.some Jvm.ClassFile.FieldType.boolean), Jvm.Cond.code ({ cls := "java/lang/StringLatin1", name := "charAt", desc := "([BI)C" } : Jvm.MethodName) jdk_43_method_2_code (2 : Nat) (Option.some Jvm.ClassFile.FieldType.char), Jvm.Cond.code ({ cls := "java/lang/String", name := "checkIndex", desc := "(II)V" } : Jvm.MethodName) jdk_42_method_155_code (2 : Nat) (Option.none : Option Jvm.ClassFile.FieldType), Jvm.Cond.code ({ cls := "jdk/internal/util/Preconditions", name := "checkIndex", desc := "(IILjava/util/function/BiFunction;)I" } : Jvm.MethodName) jdk_41_method_11_code (3 : Nat) (Option.some Jvm.ClassFile.FieldType.int), Jvm.Cond.code ({ cls := "com/example/cofferhand/cofferhand/nbt/NbtWriter", name := "writeShort", desc := "(I)V" } : Jvm.MethodName) prog_41_method_7_code (2 : Nat) (Option.none : Option Jvm.ClassFile.FieldType), Jvm.Cond.code ({ cls := "com/example/cofferhand/cofferhand/nbt/ModifiedUtf8", name := "encode", desc := "(Ljava/lang/String;[BI)I" } : Jvm.MethodName) prog_32_method_5_code (6 : Nat) (Option.some Jvm.ClassFile.FieldType.int), Jvm.Cond.code ({ cls := "com/example/cofferhand/cofferhand/nbt/NbtWriter", name := "writePayload", desc := "(Lcom/example/cofferhand/cofferhand/nbt/Tag;)V" } : Jvm.MethodName) prog_41_method_4_code (8 : Nat) (Option.none : Option Jvm.ClassFile.FieldType), Jvm.Cond.code ({ cls := "java/lang/Enum", name := "ordinal", desc := "()I" } : Jvm.MethodName) jdk_37_method_2_code (1 : Nat) (Option.some Jvm.ClassFile.FieldType.int), Jvm.Cond.code ({ cls := "com/example/cofferhand/cofferhand/nbt/LongTag", name := "value", desc := "()J" } : Jvm.MethodName) prog_31_method_6_code (1 : Nat) (Option.some Jvm.ClassFile.FieldType.long), Jvm.Cond.code ({ cls := "com/example/cofferhand/cofferhand/nbt/NbtWriter", name := "writeLong", desc := "(J)V" } : Jvm.MethodName) prog_41_method_9_code (3 : Nat) (Option.none : Option Jvm.ClassFile.FieldType), Jvm.Cond.code ({ cls := "com/example/cofferhand/cofferhand/nbt/NbtWriter", name := "writeInt", desc := "(I)V" } : Jvm.MethodName) prog_41_method_8_code (2 : Nat) (Option.none : Option Jvm.ClassFile.FieldType), Jvm.Cond.code ({ cls := "com/example/cofferhand/cofferhand/nbt/NbtWriterToByteArrayPinLaw", name := "allSame", desc := "([BI[BI)Z" } : Jvm.MethodName) method_5_code (4 : Nat) (Option.some Jvm.ClassFile.FieldType.boolean), Jvm.Cond.code ({ cls := "com/example/cofferhand/cofferhand/nbt/NbtWriterToByteArrayPinLaw", name := "same", desc := "([BI[BII)Z" } : Jvm.MethodName) method_4_code (5 : Nat) (Option.some Jvm.ClassFile.FieldType.boolean), Jvm.Cond.code ({ cls := "java/lang/String", name := "<init>", desc := "([C)V" } : Jvm.MethodName) jdk_42_method_3_code (2 : Nat) (Option.none : Option Jvm.ClassFile.FieldType), Jvm.Cond.code ({ cls := "java/lang/String", name := "<init>", desc := "([CIILjava/lang/Void;)V" } : Jvm.MethodName) jdk_42_method_149_code (6 : Nat) (Option.none : Option Jvm.ClassFile.FieldType), Jvm.Cond.code ({ cls := "java/lang/StringUTF16", name := "compress", desc := "([CII)[B" } : Jvm.MethodName) jdk_52_method_16_code (6 : Nat) (Option.some (Jvm.ClassFile.FieldType.array Jvm.ClassFile.FieldType.byte)), Jvm.Cond.code ({ cls := "java/lang/StringUTF16", name := "compress", desc := "([CI[BII)I" } : Jvm.MethodName) jdk_52_method_21_code (7 : Nat) (Option.some Jvm.ClassFile.FieldType.int), Jvm.Cond.code ({ cls := "java/lang/StringUTF16", name := "coderFromArrayLen", desc := "([BI)B" } : Jvm.MethodName) jdk_52_method_15_code (2 : Nat) (Option.some Jvm.ClassFile.FieldType.byte), Jvm.Cond.code ({ cls := "java/lang/StringUTF16", name := "toBytes", desc := "([CII)[B" } : Jvm.MethodName) jdk_52_method_14_code (5 : Nat) (Option.some (Jvm.ClassFile.FieldType.array Jvm.ClassFile.FieldType.byte)), Jvm.Cond.code ({ cls := "java/lang/StringUTF16", name := "newBytesFor", desc := "(I)[B" } : Jvm.MethodName) jdk_52_method_2_code (1 : Nat) (Option.some (Jvm.ClassFile.FieldType.array Jvm.ClassFile.FieldType.byte)), Jvm.Cond.code ({ cls := "java/lang/StringUTF16", name := "newBytesLength", desc := "(I)I" } : Jvm.MethodName) jdk_52_method_3_code (1 : Nat) (Option.some Jvm.ClassFile.FieldType.int), Jvm.Cond.code ({ cls := "java/lang/StringUTF16", name := "putChar", desc := "([BII)V" } : Jvm.MethodName) jdk_52_method_4_code (3 : Nat) (Option.none : Option Jvm.ClassFile.FieldType), Jvm.Cond.code ({ cls := "java/lang/StringUTF16", name := "getChar", desc := "([BI)C" } : Jvm.MethodName) jdk_52_method_5_code (2 : Nat) (Option.some Jvm.ClassFile.FieldType.char), Jvm.Cond.code ({ cls := "java/lang/StringUTF16", name := "charAt", desc := "([BI)C" } : Jvm.MethodName) jdk_52_method_83_code (2 : Nat) (Option.some Jvm.ClassFile.FieldType.char), Jvm.Cond.code ({ cls := "java/lang/StringUTF16", name := "checkIndex", desc := "(I[B)V" } : Jvm.MethodName) jdk_52_method_91_code (2 : Nat) (Option.none : Option Jvm.ClassFile.FieldType), Jvm.Cond.code ({ cls := "java/lang/StringUTF16", name := "length", desc := "([B)I" } : Jvm.MethodName) jdk_52_method_6_code (1 : Nat) (Option.some Jvm.ClassFile.FieldType.int), Jvm.Cond.code ({ cls := "java/lang/StringUTF16", name := "toBytes", desc := "(C)[B" } : Jvm.MethodName) jdk_52_method_24_code (2 : Nat) (Option.some (Jvm.ClassFile.FieldType.array Jvm.ClassFile.FieldType.byte))]
set_option maxRecDepth 65536 in
theorem codes_eq : words1.filter isCode = codes1 := rfl
theorem w_codes : ∀ c ∈ words1.filter isCode, c.before args0 about1 = true := by
  rw [codes_eq]
  intro c hc
  simp only [codes1, List.mem_cons, List.not_mem_nil, or_false] at hc
  rcases hc with rfl | rfl | rfl | rfl | rfl | rfl | rfl | rfl | rfl | rfl | rfl | rfl | rfl | rfl | rfl | rfl | rfl | rfl | rfl | rfl | rfl | rfl | rfl | rfl | rfl | rfl | rfl | rfl | rfl | rfl | rfl | rfl | rfl | rfl | rfl | rfl | rfl | rfl | rfl | rfl | rfl | rfl | rfl | rfl | rfl | rfl | rfl | rfl | rfl | rfl | rfl | rfl | rfl | rfl | rfl | rfl
  · exact w_c0
  · exact w_c1
  · exact w_c2
  · exact w_c3
  · exact w_c4
  · exact w_c5
  · exact w_c6
  · exact w_c7
  · exact w_c8
  · exact w_c9
  · exact w_c10
  · exact w_c11
  · exact w_c12
  · exact w_c13
  · exact w_c14
  · exact w_c15
  · exact w_c16
  · exact w_c17
  · exact w_c18
  · exact w_c19
  · exact w_c20
  · exact w_c21
  · exact w_c22
  · exact w_c23
  · exact w_c24
  · exact w_c25
  · exact w_c26
  · exact w_c27
  · exact w_c28
  · exact w_c29
  · exact w_c30
  · exact w_c31
  · exact w_c32
  · exact w_c33
  · exact w_c34
  · exact w_c35
  · exact w_c36
  · exact w_c37
  · exact w_c38
  · exact w_c39
  · exact w_c40
  · exact w_c41
  · exact w_c42
  · exact w_c43
  · exact w_c44
  · exact w_c45
  · exact w_c46
  · exact w_c47
  · exact w_c48
  · exact w_c49
  · exact w_c50
  · exact w_c51
  · exact w_c52
  · exact w_c53
  · exact w_c54
  · exact w_c55
set_option maxRecDepth 65536 in
theorem w_t1 : (words1.take 24).all (fun c => isCode c || c.before args0 about1) = true := by decide +kernel
set_option maxRecDepth 65536 in
theorem w_t2 : ((words1.drop 24).take 24).all (fun c => isCode c || c.before args0 about1) = true := by decide +kernel
set_option maxRecDepth 65536 in
theorem w_t3 : (((words1.drop 24).drop 24).take 24).all (fun c => isCode c || c.before args0 about1) = true := by decide +kernel
set_option maxRecDepth 65536 in
theorem w_t4 : ((((words1.drop 24).drop 24).drop 24).take 24).all (fun c => isCode c || c.before args0 about1) = true := by decide +kernel
set_option maxRecDepth 65536 in
theorem w_t5 : (((((words1.drop 24).drop 24).drop 24).drop 24).take 24).all (fun c => isCode c || c.before args0 about1) = true := by decide +kernel
set_option maxRecDepth 65536 in
theorem w_t6 : ((((((words1.drop 24).drop 24).drop 24).drop 24).drop 24).take 24).all (fun c => isCode c || c.before args0 about1) = true := by decide +kernel
set_option maxRecDepth 65536 in
theorem w_t7 : (((((((words1.drop 24).drop 24).drop 24).drop 24).drop 24).drop 24).take 24).all (fun c => isCode c || c.before args0 about1) = true := by decide +kernel
set_option maxRecDepth 65536 in
theorem w_t8 : ((((((((words1.drop 24).drop 24).drop 24).drop 24).drop 24).drop 24).drop 24).take 24).all (fun c => isCode c || c.before args0 about1) = true := by decide +kernel
set_option maxRecDepth 65536 in
theorem w_t9 : (((((((((words1.drop 24).drop 24).drop 24).drop 24).drop 24).drop 24).drop 24).drop 24).take 24).all (fun c => isCode c || c.before args0 about1) = true := by decide +kernel
set_option maxRecDepth 65536 in
theorem w_t10 : ((((((((((words1.drop 24).drop 24).drop 24).drop 24).drop 24).drop 24).drop 24).drop 24).drop 24).take 24).all (fun c => isCode c || c.before args0 about1) = true := by decide +kernel
set_option maxRecDepth 65536 in
theorem w_t11 : (((((((((((words1.drop 24).drop 24).drop 24).drop 24).drop 24).drop 24).drop 24).drop 24).drop 24).drop 24).take 24).all (fun c => isCode c || c.before args0 about1) = true := by decide +kernel
set_option maxRecDepth 65536 in
theorem w_t12 : (((((((((((words1.drop 24).drop 24).drop 24).drop 24).drop 24).drop 24).drop 24).drop 24).drop 24).drop 24).drop 24).all (fun c => isCode c || c.before args0 about1) = true := by decide +kernel
theorem w_tables : (allAtoms (Jvm.Cond.code x code maxLocals ret :: tables_1)).before args0 about1 = true := by
  rw [allAtoms_all]
  show words1.all (fun c => c.before args0 about1) = true
  refine all_split ?_ w_codes
  rw [← List.take_append_drop 24 words1, List.all_append, w_t1, ← List.take_append_drop 24 (words1.drop 24), List.all_append, w_t2, ← List.take_append_drop 24 ((words1.drop 24).drop 24), List.all_append, w_t3, ← List.take_append_drop 24 (((words1.drop 24).drop 24).drop 24), List.all_append, w_t4, ← List.take_append_drop 24 ((((words1.drop 24).drop 24).drop 24).drop 24), List.all_append, w_t5, ← List.take_append_drop 24 (((((words1.drop 24).drop 24).drop 24).drop 24).drop 24), List.all_append, w_t6, ← List.take_append_drop 24 ((((((words1.drop 24).drop 24).drop 24).drop 24).drop 24).drop 24), List.all_append, w_t7, ← List.take_append_drop 24 (((((((words1.drop 24).drop 24).drop 24).drop 24).drop 24).drop 24).drop 24), List.all_append, w_t8, ← List.take_append_drop 24 ((((((((words1.drop 24).drop 24).drop 24).drop 24).drop 24).drop 24).drop 24).drop 24), List.all_append, w_t9, ← List.take_append_drop 24 (((((((((words1.drop 24).drop 24).drop 24).drop 24).drop 24).drop 24).drop 24).drop 24).drop 24), List.all_append, w_t10, ← List.take_append_drop 24 ((((((((((words1.drop 24).drop 24).drop 24).drop 24).drop 24).drop 24).drop 24).drop 24).drop 24).drop 24), List.all_append, w_t11, w_t12]
  rfl
set_option maxRecDepth 65536 in
theorem w_rest : rest_1_c.before args0 about1 = true := by decide +kernel
set_option maxRecDepth 65536 in
theorem w_case : (Jvm.Cond.and given_1 narrow_1).before args0 about1 = true := by decide +kernel
set_option maxRecDepth 65536 in
theorem w_consts : constsHeld consts_1 about1 := Jvm.Lit.constsHeldB_iff.mp (by decide +kernel)
theorem w_applies : (headSpec (Jvm.Cond.code x code maxLocals ret :: tables_1) room_1).applies x e0.platform about1 = true :=
  (Spec.applies_iff w_frames).mpr ⟨w_running, w_runnable, w_alone, w_named, w_hears, w_ripe, w_room, w_tables⟩
theorem atStart : AtStart classFile x code maxLocals ret World_1 tables_1 room_1 Calls_1 rest_1 Pre_1 launch0 p0 e0 about1 theMethod args0 below0 :=
  ⟨lists_1, trivial, launch0.admits_env _ _ _, launch0.least_env, fairChoices_fair.cas, fairChoices_fair.clock, w_frames, w_args, w_heap, w_applies, ⟨w_consts, trivial⟩, w_rest, w_case⟩
end start1
theorem witness_1 : WitnessClaimed_1 := ⟨start1.p0, start1.e0, start1.about1, start1.theMethod, start1.args0, start1.below0, start1.atStart⟩
end Jvm.Pilot.@@N@@
