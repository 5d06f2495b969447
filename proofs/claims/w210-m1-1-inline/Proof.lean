import JvmDerived
import JvmDerived.Pilot.@@N@@Statement
import JvmDerived.Pilot.@@N@@Code
set_option linter.unusedVariables false
set_option linter.unusedSimpArgs false
namespace Jvm.RoadKit
open Sem ClassFile Op Lib Jvm.Stand Jvm.Free Jvm.LawKit
section Own
variable {p : Program} {l : Launch} {e : Env} {R : Room} {s : State} {m : MethodId} {args : Array Value} {below : List Frame} {meth : Method} {c : Code} {T T' : State} {locs : List Loc} {cells slots rc rs : Nat} {Q : Option Value → Heap → List Loc → Prop} {g g' : JFrame}
/-- from the state T with the top frame g the run ends in a return of which Q is true -/
def OwnGo (p : Program) (e : Env) (below : List Frame) (s : State) (rc rs : Nat) (Q : Option Value → Heap → List Loc → Prop) (T : State) (g : JFrame) : Prop :=
  ∃ (U : State) (o : Outcome), Steps p.tables e below (T.setTop g) U ∧ U.status = .running ∧ Ended U below o ∧ ∃ v L, o = .returned v ∧ Q v U.heap L ∧ FrameEnd s o U L rc rs
theorem OwnGo.st (k : ∀ target, Steps p.tables e below (T'.setTop g') target → Steps p.tables e below (T.setTop g) target) (h : OwnGo p e below s rc rs Q T' g') : OwnGo p e below s rc rs Q T g := by
  obtain ⟨U, o, h1, h2⟩ := h
  exact ⟨U, o, k _ h1, h2⟩
theorem OwnGo.cast (q : g = g') (h : OwnGo p e below s rc rs Q T g') : OwnGo p e below s rc rs Q T g := q ▸ h
theorem OwnGo.ret (X : Stand p l e R s m args below meth c T locs cells slots) (hx : p.tables.exec = Jvm.exec) {pc : Nat} {Ls : Array Slot} {w : Value} {t : FieldType} {i : Instr} {rest : List Value} (hret : meth.sig.returnType = some t) (hlk : meth.locks = false) (hn : narrow t w = w)
    (hi : (i = .ireturn ∧ (t = .int ∨ t = .boolean ∨ t = .byte ∨ t = .char ∨ t = .short) ∧ ∃ z, w = .int z) ∨ (i = .lreturn ∧ t = .long ∧ ∃ z, w = .long z) ∨ (i = .dreturn ∧ t = .double ∧ ∃ z, w = .double z) ∨ (i = .freturn ∧ t = .float ∧ ∃ z, w = .float z) ∨ (i = .areturn ∧ t.isReference = true ∧ w.isRef = true))
    (hd : decode c.code pc = .ok (i, 1)) (hQ : Q (some w) T.heap locs) (hc : cells ≤ rc) (hs : slots ≤ rs) : OwnGo p e below s rc rs Q T (mkF m pc Ls (w :: rest)) := by
  obtain ⟨fs, hr, hrun, hended, hW, hsame⟩ := X.leave (v := some w) (fun h => by rw [hret] at h; cases h) hlk
  exact ⟨_, _, retOut X hx hret hn hi hd hr, hrun, hended, _, _, rfl, hQ, ⟨_, rfl⟩, hW, hsame.mono hc hs⟩
theorem OwnGo.retN (X : Stand p l e R s m args below meth c T locs cells slots) (hx : p.tables.exec = Jvm.exec) {pc : Nat} {Ls : Array Slot} {z : Int32} {t : FieldType} {rest : List Value} (hret : meth.sig.returnType = some t) (hlk : meth.locks = false) (ht : t = .boolean ∨ t = .byte ∨ t = .char ∨ t = .short)
    (hd : decode c.code pc = .ok (.ireturn, 1)) (hQ : Q (some (.int (nar t z))) T.heap locs) (hc : cells ≤ rc) (hs : slots ≤ rs) : OwnGo p e below s rc rs Q T (mkF m pc Ls (.int z :: rest)) := by
  obtain ⟨fs, hr, hrun, hended, hW, hsame⟩ := X.leave (v := some (.int (nar t z))) (fun h => by rw [hret] at h; cases h) hlk
  exact ⟨_, _, Jvm.RoadKit.retN X hx hret ht hd hr, hrun, hended, _, _, rfl, hQ, ⟨_, rfl⟩, hW, hsame.mono hc hs⟩
theorem OwnGo.retV (X : Stand p l e R s m args below meth c T locs cells slots) (hx : p.tables.exec = Jvm.exec) {pc : Nat} {Ls : Array Slot} (hret : meth.sig.returnType = none) (hlk : meth.locks = false)
    (hd : decode c.code pc = .ok (.return_, 1)) (hQ : Q none T.heap locs) (hc : cells ≤ rc) (hs : slots ≤ rs) : OwnGo p e below s rc rs Q T (mkF m pc Ls []) := by
  obtain ⟨fs, hr, hrun, hended, hW, hsame⟩ := X.leave (v := none) (fun _ => rfl) hlk
  exact ⟨_, _, X.returnOut hx hret hd hr, hrun, hended, _, _, rfl, hQ, ⟨_, rfl⟩, hW, hsame.mono hc hs⟩
theorem own_met {y : MethodName} {bytes : ByteArray} {maxL : Nat} {ret : Option FieldType} {ws : List Jvm.Cond} {rm : Room} {Z : State} {as' : Array Value} {h0 : Heap} (hp : plainFor y = true)
    (body : ∀ (p : Program) (e : Env) (s : State) (m : MethodId) (below : List Frame) (meth : Method) (c : Code) (s₁ : State), Stand p l e rm s m as' below meth c s₁ [] 0 0 → p.tables.exec = Jvm.exec → c.code = bytes → c.maxLocals = maxL → meth.sig.returnType = ret → meth.locks = false → s.vm.findClass y.cls = some m.cls → meth.name = y.name → Z.Warmed39 s.vm → s₁.heap = h0 →
      OwnGo p e below s rm.cells rm.slots Q s₁ (entryFrame m as' maxL)) :
    MetFree l y (head1 (Jvm.Cond.code y bytes maxL ret :: ws) rm) (fun a U => a = as' ∧ Z.Warmed39 U.vm ∧ U.heap = h0) (fun _ _ _ _ _ => True) (fun _ U o U' => ∃ v L, o = .returned v ∧ Q v U'.heap L ∧ FrameEnd U o U' L rm.cells rm.slots) := by
  refine MetFree.of_bodySF hp hisR ?_
  intro p e s m args below meth c s₁ Bd hml0 hP hK
  obtain ⟨rfl, hZ, hh⟩ := hP
  exact body p e s m below meth c s₁ (Stand.of_body Bd) Bd.exec Bd.bytes hml0 Bd.returns Bd.notSynchronized (findClass_of_methodNamed Bd.named) (name_of_methodNamed Bd.named Bd.method).1 hZ (by rw [← hh, Bd.state]; rfl)
theorem own_len {Z : State} {h : Heap} {a : Addr} {cl : Cell} {ty : FieldType} {z : Int32} (hZ : Z.Warmed39 s.vm) (q : cl.slots.size.toInt32 = z) (A : Arr Z h a cl ty) (X : Stand p l e R s m args below meth c T locs cells slots) (eT : T.heap = h) (hx : p.tables.exec = Jvm.exec) {rest : List Value}
    (hg : g.method = m) (hst : g.stack = .ref a :: rest) (hd : decode c.code g.pc = .ok (.arraylength, 1)) (target : State) (k : Steps p.tables e below (T.setTop { g with pc := g.pc + 1, stack := .int z :: rest }) target) : Steps p.tables e below (T.setTop g) target := by
  refine X.arraylength hx (by rw [eT]; exact A.1) (State.isArrayOf_alike hZ.alike A.2.1) hg hst hd _ ?_
  rw [q]; exact k
theorem own_eqi {args : Array Value} {first U : State} {o : Option Outcome} {idx : List Nat} {a : Term} {k : Int32} (h : (Jvm.Cond.eq a (.int k)).value args first o U idx = some true) : a.eval args first o idx U = some (.int k) := Cond.eq_int (b := .int k) (by simp only [Cond.holds, h]; rfl) rfl
theorem own_eqv {args : Array Value} {first U : State} {o : Option Outcome} {idx : List Nat} {a b : Term} {v : Value} (h : (Jvm.Cond.eq a b).value args first o U idx = some true) (hb : b.eval args first o idx U = some v) (hv : v.isRef = true) : a.eval args first o idx U = some v := by
  obtain ⟨x, y, h1, h2, k1, k2⟩ := cmp_v (Or.inl h)
  cases h2.symm.trans hb
  have hx : x.isRef = true := by cases x <;> cases v <;> simp [Kin, Value.isRef] at k1 k2 hv ⊢
  rw [h1, gotT (eq_R h1 h2 hx hv) h]
theorem own_lenv {Z : State} {args : Array Value} {t : Term} {a : Addr} {cl : Cell} {ty : FieldType} {z : Int32} (ev : t.eval args Z none [] Z = some (.ref a)) (A : Arr Z Z.heap a cl ty) (h : (Jvm.Cond.eq (.length t) (.int z)).value args Z none Z [] = some true) : cl.slots.size < 2 ^ 31 ∧ cl.slots.size.toInt32 = z := by
  have e := own_eqi h
  have hA := A.fin (Vm.Alike.refl _)
  refine ⟨SBG.length_lt ev hA e, ?_⟩
  obtain ⟨a', c', e1, e2, e3⟩ := Term.length_spec e
  cases ev.symm.trans e1
  cases hA.symm.trans e2
  exact (Value.int.inj e3).symm
theorem own_elem {Z : State} {args : Array Value} {t : Term} {a : Addr} {cl : Cell} {ty : FieldType} {k : Int32} {v : Value} (ev : t.eval args Z none [] Z = some (.ref a)) (A : Arr Z Z.heap a cl ty) (h : (Term.elem t (.int k)).eval args Z none [] Z = some v) : cl.slots[k.toNatClampNeg]? = some v := (elem_in h ev rfl A.1).2
theorem own_narR {w : Value} {t : FieldType} (h : w.isRef = true) (ht : t.isReference = true) : narrow t w = w := by
  cases w <;> simp [Value.isRef] at h <;> cases t <;> simp [FieldType.isReference] at ht <;> rfl
theorem own_selp {C : String} {x y z : MethodName} (hz : (Jvm.Cond.selects C x z).before args s = true) (hcls : z.cls = y.cls) (hpriv : s.PrivateAt y) (hinst : (Jvm.Cond.instanceMethod y).before args s = true) (hy : y.cls ≠ "java/lang/invoke/MethodHandle" ∧ y.cls ≠ "java/lang/invoke/VarHandle") : (Jvm.Cond.selects y.cls y y).before args s = true := by
  obtain ⟨c, r, mz, h1, h2, h3, h4, mk, h5, h6⟩ := Cond.selects_spec hz
  exact selects_self_of_private (by rw [← hcls]; exact findClass_of_methodNamed h3) h5 h6 hpriv hinst hy
theorem own_nface {C : String} {x y z : MethodName} (hz : (Jvm.Cond.selects C x z).before args s = true) (hcls : z.cls = y.cls) : NotFace s y := fun r0 h0 => by
  obtain ⟨c, r, mz, h1, h2, h3, h4, mk, h5, h6⟩ := Cond.selects_spec hz
  have e1 : s.vm.findClass y.cls = some mz.cls := by rw [← hcls]; exact findClass_of_methodNamed h3
  have e2 : r0.cls = mz.cls := Option.some.inj ((findClass_of_methodNamed h0).symm.trans e1)
  exact ⟨mk, by rw [e2]; exact h5, h6⟩
theorem own_same {C : String} {x y z : MethodName} (hz : (Jvm.Cond.selects C x z).before args s = true) (hcls : z.cls = y.cls) (hinst : (Jvm.Cond.instanceMethod y).before args s = true) (hy : y.cls ≠ "java/lang/invoke/MethodHandle" ∧ y.cls ≠ "java/lang/invoke/VarHandle") : (Jvm.Cond.sameMethod y.cls y.cls y.name y.desc).before args s = true := by
  obtain ⟨c, r, mz, h1, h2, h3, h4, mk, h5, h6⟩ := Cond.selects_spec hz
  obtain ⟨ym, methM, hnamed, -, -, -⟩ := Cond.instanceMethod_spec hinst
  have hf : s.methodFound? y.cls y.name y.desc = some ym := State.methodFound?_of_named hnamed hy
  have hc : s.vm.findClass y.cls = some mz.cls := by rw [← hcls]; exact findClass_of_methodNamed h3
  simp [Cond.before, Cond.holds, Cond.value, hc, hf, hnamed, h5, h6]
theorem own_cat {w : Value} (h : w.isRef = true) : w.category = 1 := by cases w <;> simp [Value.isRef] at h <;> rfl
/-- an array of n places, whatever they hold -/
def OwnArr (Z : State) (h : Heap) (a : Addr) (ty : FieldType) (n : Nat) : Prop := ∃ cl : Cell, Arr Z h a cl ty ∧ cl.slots.size = n
theorem OwnArr.lt {Z : State} {h : Heap} {a : Addr} {ty : FieldType} {n : Nat} (F : OwnArr Z h a ty n) : a < h.size := by obtain ⟨_, A, -⟩ := F; exact A.lt
theorem OwnArr.ext {Z : State} {h h' : Heap} {a : Addr} {ty : FieldType} {n : Nat} (F : OwnArr Z h a ty n) (E : Ext h h') : OwnArr Z h' a ty n := by obtain ⟨c, A, S⟩ := F; exact ⟨c, A.ext E, S⟩
theorem OwnArr.keep {Z : State} {h h' : Heap} {a : Addr} {ty : FieldType} {n : Nat} {ws : List Addr} (F : OwnArr Z h a ty n) (K : Keep h h' ws) : OwnArr Z h' a ty n := by
  obtain ⟨c, ⟨A1, ⟨q1, q2⟩, A3⟩, S⟩ := F
  obtain ⟨c', e1, e2, e3, e4⟩ := K.2.2 _ _ A1
  exact ⟨c', ⟨e1, ⟨by rw [e3]; exact q1, by rw [e2]; exact q2⟩, by rw [e3]; exact A3⟩, e4.trans S⟩
theorem OwnArr.wr {Z : State} {h h' : Heap} {a b : Addr} {ty : FieldType} {n sl : Nat} {v : Value} (F : OwnArr Z h a ty n) (W : Wr h h' b sl v) : OwnArr Z h' a ty n := F.keep (Keep.of_wr W)
theorem OwnArr.of {Z : State} {h : Heap} {a : Addr} {k : ClassId} {ty : FieldType} {z : Int32} {vs : List Value} {d : Value} (F : Arv Z h a k ty z vs d) : OwnArr Z h a ty z.toNatClampNeg := by obtain ⟨c, A, -, S, -⟩ := F; exact ⟨c, A, S⟩
/-- an array of n ints (or bytes, chars, ..): place j holds f j -/
def OwnFn (Z : State) (h : Heap) (a : Addr) (ty : FieldType) (n : Nat) (f : Nat → Int32) : Prop := ∃ cl : Cell, Arr Z h a cl ty ∧ cl.slots.size = n ∧ ∀ j, j < n → cl.slots[j]? = some (.int (f j))
theorem OwnFn.lt {Z : State} {h : Heap} {a : Addr} {ty : FieldType} {n : Nat} {f : Nat → Int32} (F : OwnFn Z h a ty n f) : a < h.size := by obtain ⟨_, A, -⟩ := F; exact A.lt
theorem OwnFn.ext {Z : State} {h h' : Heap} {a : Addr} {ty : FieldType} {n : Nat} {f : Nat → Int32} (F : OwnFn Z h a ty n f) (E : Ext h h') : OwnFn Z h' a ty n f := by obtain ⟨c, A, r⟩ := F; exact ⟨c, A.ext E, r⟩
theorem OwnFn.keep {Z : State} {h h' : Heap} {a : Addr} {ty : FieldType} {n : Nat} {f : Nat → Int32} {ws : List Addr} (F : OwnFn Z h a ty n f) (K : Keep h h' ws) (q : a ∉ ws) : OwnFn Z h' a ty n f := by obtain ⟨c, A, r⟩ := F; exact ⟨c, ⟨K.2.1 a c A.1 q, A.2⟩, r⟩
theorem OwnFn.other {Z : State} {h h' : Heap} {a b : Addr} {ty : FieldType} {n sl : Nat} {f : Nat → Int32} {v : Value} (F : OwnFn Z h a ty n f) (W : Wr h h' b sl v) (q : a ≠ b) : OwnFn Z h' a ty n f := by obtain ⟨c, A, r⟩ := F; exact ⟨c, A.other W q, r⟩
theorem OwnFn.set {Z : State} {h h' : Heap} {a : Addr} {ty : FieldType} {n sl : Nat} {f : Nat → Int32} {v : Int32} (F : OwnFn Z h a ty n f) (W : Wr h h' a sl (.int v)) : OwnFn Z h' a ty n (fun j => if j = sl then v else f j) := by
  obtain ⟨c, A, S, H⟩ := F
  refine ⟨_, A.same W, by simp [Cell.setSlot, S], fun j hj => ?_⟩
  have e : (c.setSlot sl (.int v)).slots[j]? = if sl = j then some (.int v) else c.slots[j]? := by
    have hj' : j < c.slots.size := S ▸ hj
    simp only [Cell.setSlot, Array.getElem?_setIfInBounds]
    by_cases q : sl = j
    · subst q; simp [hj']
    · simp [q]
  rw [e]
  by_cases q : j = sl
  · subst q; simp
  · simp [q, Ne.symm q, H j hj]
theorem OwnFn.new {Z : State} {h : Heap} {a : Addr} {k : ClassId} {ty : FieldType} {z : Int32} (A : Arr Z h a (newA k ty z) ty) (hd : defaultValue ty = .int 0) : OwnFn Z h a ty z.toNatClampNeg (fun _ => 0) :=
  ⟨_, A, sz_new _ _ _, fun j hj => by simp [newA, hd, hj]⟩
theorem own_nb (x : Int32) : nar .byte x.toInt8.toInt32 = x.toInt8.toInt32 := by
  show (x.toInt8.toInt32).toInt8.toInt32 = _
  rw [Int8.toInt8_toInt32]
end Own
end Jvm.RoadKit
namespace Jvm.RoadKit
open Sem ClassFile Op Lib Jvm.Stand Jvm.Free Jvm.LawKit
section OwnW
variable {p : Program} {l : Launch} {e : Env} {R : Room} {s : State} {vm0 : Vm} {m : MethodId} {args : Array Value} {below : List Frame} {meth : Method} {c : Code} {T T' Z : State} {locs : List Loc} {cells slots rc rs k0 : Nat} {Q : Option Value → Heap → List Loc → Prop} {g g' : JFrame} {EL : List (String × Nat)} {a0 : Array Value} {h0 h : Heap}
/-- the same, where String constants may be loaded: the wide frame, and the booked constants' invariant -/
def OwnGoW (p : Program) (e : Env) (below : List Frame) (s Z : State) (EL : List (String × Nat)) (rc rs : Nat) (Q : Option Value → Heap → List Loc → Prop) (T : State) (g : JFrame) : Prop :=
  ∃ (U : State) (o : Outcome), Steps p.tables e below (T.setTop g) U ∧ U.status = .running ∧ Ended U below o ∧ ∃ v L, o = .returned v ∧ Q v U.heap L ∧ CHr Z EL s.vm s.heap U.vm U.heap ∧ ReturnedEndW s o U L rc rs
theorem OwnGoW.st (k : ∀ target, Steps p.tables e below (T'.setTop g') target → Steps p.tables e below (T.setTop g) target) (h : OwnGoW p e below s Z EL rc rs Q T' g') : OwnGoW p e below s Z EL rc rs Q T g := by
  obtain ⟨U, o, h1, h2⟩ := h
  exact ⟨U, o, k _ h1, h2⟩
theorem OwnGoW.cast (q : g = g') (h : OwnGoW p e below s Z EL rc rs Q T g') : OwnGoW p e below s Z EL rc rs Q T g := q ▸ h
theorem OwnGoW.ret (X : Stand p l e R (s.setVm vm0) m args below meth c T locs cells slots) (hS : s.Since vm0 k0) (hk : k0 ≤ h.size) (eT : T.heap = h) (hZ : Z.Warmed39 (s.setVm vm0).vm) (hEL : EW Z a0 EL) (CR : CHr Z EL s.vm s.heap vm0 h) (hx : p.tables.exec = Jvm.exec) {pc : Nat} {Ls : Array Slot} {w : Value} {t : FieldType} {i : Instr} {rest : List Value} (hret : meth.sig.returnType = some t) (hlk : meth.locks = false) (hn : narrow t w = w)
    (hi : (i = .ireturn ∧ (t = .int ∨ t = .boolean ∨ t = .byte ∨ t = .char ∨ t = .short) ∧ ∃ z, w = .int z) ∨ (i = .lreturn ∧ t = .long ∧ ∃ z, w = .long z) ∨ (i = .dreturn ∧ t = .double ∧ ∃ z, w = .double z) ∨ (i = .freturn ∧ t = .float ∧ ∃ z, w = .float z) ∨ (i = .areturn ∧ t.isReference = true ∧ w.isRef = true))
    (hd : decode c.code pc = .ok (i, 1)) (hQ : Q (some w) T.heap locs) (hc : cells ≤ rc) (hs : slots ≤ rs) : OwnGoW p e below s Z EL rc rs Q T (mkF m pc Ls (w :: rest)) := by
  subst eT
  have CX : CHr Z EL vm0 T.heap T.vm T.heap := CHv.at X hZ hEL CR.1
  obtain ⟨fs, hr, hrun, hended, e1, e2, e3, e4⟩ := X.leaveW (v := some w) hS hk (fun h => by rw [hret] at h; cases h) hlk
  exact ⟨_, _, retOut X hx hret hn hi hd hr, hrun, hended, _, _, rfl, hQ, CR.trans CX, e1, e2, e3, e4.mono hc hs⟩
theorem OwnGoW.retN (X : Stand p l e R (s.setVm vm0) m args below meth c T locs cells slots) (hS : s.Since vm0 k0) (hk : k0 ≤ h.size) (eT : T.heap = h) (hZ : Z.Warmed39 (s.setVm vm0).vm) (hEL : EW Z a0 EL) (CR : CHr Z EL s.vm s.heap vm0 h) (hx : p.tables.exec = Jvm.exec) {pc : Nat} {Ls : Array Slot} {z : Int32} {t : FieldType} {rest : List Value} (hret : meth.sig.returnType = some t) (hlk : meth.locks = false) (ht : t = .boolean ∨ t = .byte ∨ t = .char ∨ t = .short)
    (hd : decode c.code pc = .ok (.ireturn, 1)) (hQ : Q (some (.int (nar t z))) T.heap locs) (hc : cells ≤ rc) (hs : slots ≤ rs) : OwnGoW p e below s Z EL rc rs Q T (mkF m pc Ls (.int z :: rest)) := by
  subst eT
  have CX : CHr Z EL vm0 T.heap T.vm T.heap := CHv.at X hZ hEL CR.1
  obtain ⟨fs, hr, hrun, hended, e1, e2, e3, e4⟩ := X.leaveW (v := some (.int (nar t z))) hS hk (fun h => by rw [hret] at h; cases h) hlk
  exact ⟨_, _, Jvm.RoadKit.retN X hx hret ht hd hr, hrun, hended, _, _, rfl, hQ, CR.trans CX, e1, e2, e3, e4.mono hc hs⟩
theorem OwnGoW.retV (X : Stand p l e R (s.setVm vm0) m args below meth c T locs cells slots) (hS : s.Since vm0 k0) (hk : k0 ≤ h.size) (eT : T.heap = h) (hZ : Z.Warmed39 (s.setVm vm0).vm) (hEL : EW Z a0 EL) (CR : CHr Z EL s.vm s.heap vm0 h) (hx : p.tables.exec = Jvm.exec) {pc : Nat} {Ls : Array Slot} (hret : meth.sig.returnType = none) (hlk : meth.locks = false)
    (hd : decode c.code pc = .ok (.return_, 1)) (hQ : Q none T.heap locs) (hc : cells ≤ rc) (hs : slots ≤ rs) : OwnGoW p e below s Z EL rc rs Q T (mkF m pc Ls []) := by
  subst eT
  have CX : CHr Z EL vm0 T.heap T.vm T.heap := CHv.at X hZ hEL CR.1
  obtain ⟨fs, hr, hrun, hended, e1, e2, e3, e4⟩ := X.leaveW (v := none) hS hk (fun _ => rfl) hlk
  exact ⟨_, _, X.returnOut hx hret hd hr, hrun, hended, _, _, rfl, hQ, CR.trans CX, e1, e2, e3, e4.mono hc hs⟩
theorem own_metW {y : MethodName} {bytes : ByteArray} {maxL : Nat} {ret : Option FieldType} {ws : List Jvm.Cond} {rm : Room} {as' : Array Value} (hp : plainFor y = true)
    (body : ∀ (p : Program) (e : Env) (s : State) (m : MethodId) (below : List Frame) (meth : Method) (c : Code) (s₁ : State), Stand p l e rm (s.setVm s.vm) m as' below meth c s₁ [] 0 0 → p.tables.exec = Jvm.exec → c.code = bytes → c.maxLocals = maxL → meth.sig.returnType = ret → meth.locks = false → (s.setVm s.vm).vm.findClass y.cls = some m.cls → meth.name = y.name → Z.Warmed39 (s.setVm s.vm).vm → s₁.heap = h0 →
      s.Since s.vm h0.size → CHr Z EL s.vm s.heap s.vm h0 → OwnGoW p e below s Z EL rm.cells rm.slots Q s₁ (entryFrame m as' maxL)) :
    MetFree l y (head1 (Jvm.Cond.code y bytes maxL ret :: ws) rm) (fun a U => a = as' ∧ Z.Warmed39 U.vm ∧ U.heap = h0 ∧ CHv Z EL U.vm h0) (fun _ _ _ _ _ => True) (fun _ U o U' => ∃ v L, o = .returned v ∧ Q v U'.heap L ∧ CHr Z EL U.vm U.heap U'.vm U'.heap ∧ ReturnedEndW U o U' L rm.cells rm.slots) := by
  refine MetFree.of_bodySF hp hisR ?_
  intro p e s m args below meth c s₁ Bd hml0 hP hK
  obtain ⟨rfl, hZ, hh, hC⟩ := hP
  subst hh
  exact body p e s m below meth c s₁ (Stand.of_body Bd) Bd.exec Bd.bytes hml0 Bd.returns Bd.notSynchronized (findClass_of_methodNamed Bd.named) (name_of_methodNamed Bd.named Bd.method).1 hZ (by rw [Bd.state]; rfl) ((State.WarmedH.refl s).since _) (CHr.refl hC)
end OwnW
end Jvm.RoadKit
namespace Jvm.RoadKit
open Sem ClassFile Op Lib Jvm.Stand Jvm.Free Jvm.LawKit
section Own
variable {p : Program} {l : Launch} {e : Env} {R : Room} {s : State} {m : MethodId} {args : Array Value} {below : List Frame} {meth : Method} {c : Code} {T T' : State} {locs : List Loc} {cells slots rc rs : Nat}
/-- System.arraycopy of bytes between two known arrays -/
theorem own_copy {Z : State} {h : Heap} (X : Stand p l e R s m args below meth c T locs cells slots) (hx : p.tables.exec = Jvm.exec) (hZ : Z.Warmed39 s.vm) {a0 : Array Value} {own : String} {index : Nat} (hown : s.vm.findClass own = some m.cls)
    (w1 : (Cond.methodLink own index arraycopyName).before a0 Z = true) (w2 : (Cond.native arraycopyName).before a0 Z = true) (w3 : (Cond.static arraycopyName).before a0 Z = true) (w4 : (Cond.initialized "java/lang/System").before a0 Z = true)
    (eT : T.heap = h) {src dst : Addr} {ks kd : ClassId} {zs zd : Int32} {vs vd us : List Value} {d d' : Value} (A : Arv Z h src ks .byte zs vs d) (B : Arv Z h dst kd .byte zd vd d') {sp dp n : Int32} (h1 : ¬ sp < 0) (h2 : ¬ dp < 0) (h3 : ¬ n < 0)
    (h4 : sp.toNatClampNeg + n.toNatClampNeg ≤ zs.toNatClampNeg) (h5 : dp.toNatClampNeg + n.toNatClampNeg ≤ zd.toNatClampNeg)
    (hus : ∀ i, i < zd.toNatClampNeg → us.getD i d' = if dp.toNatClampNeg ≤ i ∧ i < dp.toNatClampNeg + n.toNatClampNeg then vs.getD (sp.toNatClampNeg + (i - dp.toNatClampNeg)) d else vd.getD i d')
    {g : JFrame} (hg : g.method = m) (hsize : g.locals.size = c.maxLocals) {rest : List Value} (hst : g.stack = .int n :: .int dp :: .ref dst :: .int sp :: .ref src :: rest) (hd : decode c.code g.pc = .ok (.invokestatic index, 3))
    (hf : 1 ≤ R.frames) {W : Nat} (hW : 2 * g.monitorRoom + (rest.map fun v => v.category).sum ≤ W) (hl : W + 18 ≤ R.locals) :
    ∃ T' h' L', Stand p l e R s m args below meth c T' (locs ++ L') cells slots ∧ T'.heap = h' ∧ Keep h h' [dst] ∧ Arv Z h' dst kd .byte zd us d' ∧ (∀ k, k ≤ dst → Fr k L') ∧
      ∀ target, Steps p.tables e below (T'.setTop { g with pc := g.pc + 3, stack := rest }) target → Steps p.tables e below (T.setTop g) target := by
  subst eT
  obtain ⟨cs, As, as1, as2, as3, HA, GA⟩ := A
  obtain ⟨cd, Bs, bs1, bs2, bs3, HB, GB⟩ := B
  obtain ⟨s1, s2, s3, s4, s5⟩ := State.isArrayOf_alike hZ.alike As.2.1
  obtain ⟨d1, d2, d3, d4, d5⟩ := State.isArrayOf_alike hZ.alike Bs.2.1
  have tn : ∀ z : Int32, ¬ z < 0 → z.toInt = (z.toNatClampNeg : Int) := fun z hz => by
    rw [Int32.lt_iff_toInt_lt] at hz
    have e0 : (0 : Int32).toInt = 0 := by decide
    show z.toInt = ((z.toInt.toNat : Nat) : Int)
    omega
  have hv : ∀ i, i < n.toNatClampNeg → cs.slots.getD (sp.toNatClampNeg + i) .null = vs.getD (sp.toNatClampNeg + i) d := fun i hi => by
    have := HA (sp.toNatClampNeg + i) (by omega)
    rw [Array.getD_eq_getD_getElem?, this]; rfl
  obtain ⟨vm', X', st⟩ := X.arraycopy hx hown (mvT hZ w1) (mvT hZ w2) (mvT hZ w3) (mvT hZ w4) (src := src) (dst := dst) (srcPos := sp) (destPos := dp) (n := n) (sType := .byte) (dType := .byte) As.1 Bs.1 s1 d1 As.2.2 Bs.2.2 s3 d3 s5 d5 rfl h1 h2 h3
    (by rw [tn _ h1, tn _ h3, as2]; omega) (by rw [tn _ h2, tn _ h3, bs2]; omega)
    (fun vm' hal i hi => by
      rw [hv i hi]
      have f := GA (sp.toNatClampNeg + i) (by omega)
      refine ⟨f, ?_⟩
      generalize vs.getD (sp.toNatClampNeg + i) d = v at f
      cases v <;> simp [fits] at f <;> exact trivial) hg hsize hst hd hf (by show _ + _ + (7 + 11) ≤ _; omega)
  have hsl : (cs.stretch sp.toNatClampNeg n.toNatClampNeg).length = n.toNatClampNeg := by simp [Cell.stretch]
  obtain ⟨f1, f2, f3, -, -⟩ := cd.storeRun_facts dp.toNatClampNeg (cs.stretch sp.toNatClampNeg n.toNatClampNeg)
  have hlt := Bs.lt
  have hg1 : ((T.setVm vm').setCell dst (cd.storeRun dp.toNatClampNeg (cs.stretch sp.toNatClampNeg n.toNatClampNeg))).heap[dst]? = some (cd.storeRun dp.toNatClampNeg (cs.stretch sp.toNatClampNeg n.toNatClampNeg)) := State.heap_setCell_self (s := T.setVm vm') Bs.1
  have hat : ∀ i, i < zd.toNatClampNeg → (cd.storeRun dp.toNatClampNeg (cs.stretch sp.toNatClampNeg n.toNatClampNeg)).slots[i]? = some (us.getD i d') := fun i hi => by
    rw [Cell.storeRun_get _ _ _ _ (by rw [hsl, bs2]; exact h5), hsl, hus i hi]
    by_cases q : dp.toNatClampNeg ≤ i ∧ i < dp.toNatClampNeg + n.toNatClampNeg
    · rw [if_pos q, if_pos q, ← hv _ (by omega)]
      have hb : i - dp.toNatClampNeg < n.toNatClampNeg := by omega
      simp [Cell.stretch, hb]
    · rw [if_neg q, if_neg q]
      exact HB i (by omega)
  refine ⟨_, _, _, X', rfl, ⟨?_, ?_, ?_⟩, ⟨_, ⟨hg1, ⟨by rw [f2]; exact Bs.2.1.1, by rw [f1]; exact Bs.2.1.2⟩, by rw [f2]; exact Bs.2.2⟩, f1.trans bs1, f3.trans bs2, bs3, fun i hi => hat i (by rw [f3, bs2] at hi; exact hi), fun i hi => ?_⟩, ?_, st⟩
  · show T.heap.size ≤ (T.heap.setIfInBounds dst _).size
    simp
  · intro x cx hx' hn
    have hne : dst ≠ x := fun e => hn (e ▸ List.mem_singleton.mpr rfl)
    exact (State.heap_setCell_other (s := T.setVm vm') hne).trans hx'
  · intro x cx hx'
    by_cases q : dst = x
    · subst q
      cases Bs.1.symm.trans hx'
      exact ⟨_, hg1, f1, f2, f3⟩
    · exact ⟨cx, (State.heap_setCell_other (s := T.setVm vm') q).trans hx', rfl, rfl, rfl⟩
  · rw [f3, bs2] at hi
    rw [hus i hi]
    by_cases q : dp.toNatClampNeg ≤ i ∧ i < dp.toNatClampNeg + n.toNatClampNeg
    · rw [if_pos q]; exact GA _ (by omega)
    · rw [if_neg q]; exact GB _ (by omega)
  · intro k hk y hy
    obtain ⟨q, -, rfl⟩ := List.mem_map.mp hy
    exact hk
end Own
end Jvm.RoadKit
/- laws to paste: Road.backV (cut by pick.py; bodies as the Statement names them) -/
namespace Jvm.Pilot.@@N@@
namespace StrChars
open Jvm Sem ClassFile Op Lib Jvm.Stand Jvm.Free.XT Jvm.Free.ALB Jvm.Free.JM Jvm.Free
open Jvm.Lib.Cold (StaticIs)
/-- a char array whose places are chars -/
def Ch (a : Addr) (A : Cell) (U : State) : Prop := Arr .char a A U ∧ Typed .char A
theorem Ch.mv {a : Addr} {A : Cell} {U U' : State} (h : Ch a A U) (hal : U.vm.Alike U'.vm) (hh : U'.heap = U.heap) : Ch a A U' := ⟨h.1.mv hal hh, h.2⟩
theorem Ch.keep {a : Addr} {A : Cell} {U U' : State} (h : Ch a A U) (hal : U.vm.Alike U'.vm) (hk : U'.heap[a]? = some A) : Ch a A U' := ⟨h.1.keep hal hk, h.2⟩
/-- what place i of a char[]'s cell holds -/
def cv (A : Cell) (i : Nat) : Int32 := match A.slots[i]? with | some (.int x) => x | _ => 0
theorem Ch.get {a : Addr} {A : Cell} {U : State} (h : Ch a A U) {i : Nat} (hi : i < A.slots.size) : A.slots[i]? = some (.int (cv A i)) := by
  have e := Array.getElem?_eq_getElem hi
  have f := h.2 i _ e
  unfold cv; rw [e]
  generalize A.slots[i] = v at f
  cases v <;> simp [fits] at f ⊢
/-- the byte that i2b leaves of a char -/
def lo8 (x : Int32) : Int32 := x.toInt8.toInt32
theorem fits_lo8 (y : Int32) : fits .byte (.int (lo8 y)) = true := by
  have h1 := y.toInt8.le_toInt
  have h2 := y.toInt8.toInt_lt
  simp only [lo8, fits, Bool.and_eq_true, decide_eq_true_eq, Int32.le_iff_toInt_le, Int8.toInt_toInt32, show (-128 : Int32).toInt = -128 from by decide, show (127 : Int32).toInt = 127 from by decide]
  omega
/-- A' is A but that each place j of lo .. hi - 1 holds f j -/
def Laid (A A' : Cell) (lo hi : Nat) (f : Nat → Value) : Prop := A'.cls = A.cls ∧ A'.vm = A.vm ∧ A'.slots.size = A.slots.size ∧ ∀ i, A'.slots[i]? = if lo ≤ i ∧ i < hi then some (f i) else A.slots[i]?
theorem Laid.zero (A : Cell) (lo : Nat) (f : Nat → Value) : Laid A A lo (lo + 0) f := ⟨rfl, rfl, rfl, fun i => by rw [if_neg (by omega)]⟩
theorem Laid.step {A Ak : Cell} {lo k : Nat} {f : Nat → Value} {v : Value} (h : Laid A Ak lo k f) (hlo : lo ≤ k) (hk : k < Ak.slots.size) (hv : v = f k) : Laid A (Ak.setSlot k v) lo (k + 1) f := by
  refine ⟨h.1, h.2.1, by simpa [Cell.setSlot] using h.2.2.1, fun i => ?_⟩
  by_cases e : k = i
  · subst e; rw [Cell.slots_setSlot_self v hk, if_pos (by omega), hv]
  · rw [Cell.slots_setSlot_ne v e, h.2.2.2 i]
    by_cases q : lo ≤ i ∧ i < k
    · rw [if_pos q, if_pos (by omega)]
    · rw [if_neg q, if_neg (by omega)]
def U16 : String := "java/lang/StringUTF16"
namespace Cmp5
def yN : MethodName := ⟨"java/lang/StringUTF16", "compress", "([CI[BII)I"⟩
abbrev yB : ByteArray := jdk_52_method_21_code
theorem d0 : decode yB 0 = .ok (.iconst 0, 1) := by decide +kernel
theorem d1 : decode yB 1 = .ok (.istore 5, 2) := by decide +kernel
theorem d3 : decode yB 3 = .ok (.iload 5, 2) := by decide +kernel
theorem d5 : decode yB 5 = .ok (.iload 4, 2) := by decide +kernel
theorem d7 : decode yB 7 = .ok (.if_icmp (.ge) 37, 3) := by decide +kernel
theorem d10 : decode yB 10 = .ok (.aload_n 0, 1) := by decide +kernel
theorem d11 : decode yB 11 = .ok (.iload_n 1, 1) := by decide +kernel
theorem d12 : decode yB 12 = .ok (.caload, 1) := by decide +kernel
theorem d13 : decode yB 13 = .ok (.istore 6, 2) := by decide +kernel
theorem d15 : decode yB 15 = .ok (.iload 6, 2) := by decide +kernel
theorem d17 : decode yB 17 = .ok (.sipush 255, 3) := by decide +kernel
theorem d20 : decode yB 20 = .ok (.if_icmp (.le) 6, 3) := by decide +kernel
theorem d26 : decode yB 26 = .ok (.aload_n 2, 1) := by decide +kernel
theorem d27 : decode yB 27 = .ok (.iload_n 3, 1) := by decide +kernel
theorem d28 : decode yB 28 = .ok (.iload 6, 2) := by decide +kernel
theorem d30 : decode yB 30 = .ok (.i2b, 1) := by decide +kernel
theorem d31 : decode yB 31 = .ok (.bastore, 1) := by decide +kernel
theorem d32 : decode yB 32 = .ok (.iinc 1 1, 3) := by decide +kernel
theorem d35 : decode yB 35 = .ok (.iinc 3 1, 3) := by decide +kernel
theorem d38 : decode yB 38 = .ok (.iinc 5 1, 3) := by decide +kernel
theorem d41 : decode yB 41 = .ok (.goto (-38), 3) := by decide +kernel
theorem d44 : decode yB 44 = .ok (.iload 4, 2) := by decide +kernel
theorem d46 : decode yB 46 = .ok (.ireturn, 1) := by decide +kernel
def site : List Cond := []
def tab : Cond := tabOf yN yB 7 (some .int) site
def P (b : Addr) (A : Cell) (d : Addr) (B : Cell) (o q len : Nat) (args : Array Value) (s : State) : Prop := args = #[.ref b, .int (Int32.ofNat o), .ref d, .int (Int32.ofNat q), .int (Int32.ofNat len)] ∧ Ch b A s ∧ Arr .byte d B s ∧ b ≠ d ∧ o + len ≤ A.slots.size ∧ q + len ≤ B.slots.size ∧ ∀ i, i < len → ¬ 255 < cv A (o + i)
def E (b : Addr) (A : Cell) (d : Addr) (B : Cell) (o q len : Nat) (r : Option Value) (s u : State) : Prop := r = some (.int (Int32.ofNat len)) ∧ ∃ B', Put d B' s u ∧ Laid B B' q (q + len) (fun j => Value.int (lo8 (cv A (o + (j - q)))))
/-- no char of the range above 255: len; the places written hold each char's low byte -/
theorem law (l : Launch) (b : Addr) (A : Cell) (d : Addr) (B : Cell) (o q len : Nat) : Law l yN 5 5 0 0 yB 7 (some .int) site (P b A d B o q len) (E b A d B o q len) (copyLocs d q len) 0 0 := by
  refine Law.of_walk (plainFor_of_name (by decide +kernel)) (by decide +kernel) (by decide +kernel) (by decide) (fun _ _ h => by rw [h.1]; rfl) (fun _ U U' hal hh h => ⟨h.1, h.2.1.mv hal hh, h.2.2.1.mv hal hh, h.2.2.2⟩) (fun r U U' V V' h1 hal h2 h => ⟨h.1, h.2.elim fun B' q => ⟨B', q.1.mv h1 h2, q.2⟩⟩) ?_
  intro p e s m args below meth c s₁ X0 hexec hbytes hml hret hlk hnm hown hh0 W hP
  obtain ⟨rfl, hA, hB, hne, l1, l2, hp⟩ := hP
  have c1 : Steps p.tables e below (s₁.setTop (entryFrame m #[.ref b, .int (Int32.ofNat o), .ref d, .int (Int32.ofNat q), .int (Int32.ofNat len)] 7)) (s₁.setTop (mkF m 0 #[.val (.ref b), .val (.int (Int32.ofNat o)), .val (.ref d), .val (.int (Int32.ofNat q)), .val (.int (Int32.ofNat len)), .unset, .unset] [])) := entry rfl
  have hA0 := hA.1.mv X0.warmed.alike hh0
  have hB0 := hB.mv X0.warmed.alike hh0
  have a31 := hA.1.2.2.2
  have c2 : Steps p.tables e below (s₁.setTop (entryFrame m #[.ref b, .int (Int32.ofNat o), .ref d, .int (Int32.ofNat q), .int (Int32.ofNat len)] 7)) (s₁.setTop (mkF m 3 #[.val (.ref b), .val (.int (Int32.ofNat o)), .val (.ref d), .val (.int (Int32.ofNat q)), .val (.int (Int32.ofNat len)), .val (.int 0), .unset] [])) := c1.trans (by
    refine iconstV X0.here hexec rfl 0 (hb hbytes d0) (by decide) ?_
    refine XS.istore X0.here hexec rfl (hb hbytes d1) rfl rfl ?_
    exact Steps.refl _)
  have loop : ∀ (r i : Nat), i + r = len → ∀ (z : Slot), (z = .unset ∨ ∃ w, z = .val w ∧ w.category = 1) → ∀ (Tl : State) (Bk : Cell), Stand p l e { frames := 0, locals := 0, cells := 0, slots := 0 } s m #[.ref b, .int (Int32.ofNat o), .ref d, .int (Int32.ofNat q), .int (Int32.ofNat len)] below meth c Tl ([] ++ copyLocs d q i) 0 0 → Put d Bk s₁ Tl → Laid B Bk q (q + i) (fun j => Value.int (lo8 (cv A (o + (j - q))))) →
      Steps p.tables e below (s₁.setTop (entryFrame m #[.ref b, .int (Int32.ofNat o), .ref d, .int (Int32.ofNat q), .int (Int32.ofNat len)] 7)) (Tl.setTop (mkF m 3 #[.val (.ref b), .val (.int (Int32.ofNat (o + i))), .val (.ref d), .val (.int (Int32.ofNat (q + i))), .val (.int (Int32.ofNat len)), .val (.int (Int32.ofNat i)), z] [])) → ∃ (T' : State) (B' : Cell) (z' : Slot), Stand p l e { frames := 0, locals := 0, cells := 0, slots := 0 } s m #[.ref b, .int (Int32.ofNat o), .ref d, .int (Int32.ofNat q), .int (Int32.ofNat len)] below meth c T' ([] ++ copyLocs d q len) 0 0 ∧ Put d B' s₁ T' ∧ Laid B B' q (q + len) (fun j => Value.int (lo8 (cv A (o + (j - q))))) ∧
      Steps p.tables e below (s₁.setTop (entryFrame m #[.ref b, .int (Int32.ofNat o), .ref d, .int (Int32.ofNat q), .int (Int32.ofNat len)] 7)) (T'.setTop (mkF m 3 #[.val (.ref b), .val (.int (Int32.ofNat (o + len))), .val (.ref d), .val (.int (Int32.ofNat (q + len))), .val (.int (Int32.ofNat len)), .val (.int (Int32.ofNat len)), z'] [])) := by
    intro r
    induction r with
    | zero =>
      intro i hi z hz Tl Bk Xl pl fl cl
      have hil : i = len := by omega
      rw [hil] at Xl fl cl
      exact ⟨Tl, Bk, z, Xl, pl, fl, cl⟩
    | succ r ih =>
      intro i hi z hz Tl Bk Xl pl fl cl
      have all := X0.warmed.alike.symm.trans Xl.warmed.alike
      have hAl := hA0.keep all (pl.other hne hA0.1)
      have hBk := hB0.like all pl.1 fl.1 fl.2.1 fl.2.2.1
      have hlt : q + i < Bk.slots.size := by rw [fl.2.2.1]; omega
      have c3 : Steps p.tables e below (s₁.setTop (entryFrame m #[.ref b, .int (Int32.ofNat o), .ref d, .int (Int32.ofNat q), .int (Int32.ofNat len)] 7)) (Tl.setTop (mkF m 12 #[.val (.ref b), .val (.int (Int32.ofNat (o + i))), .val (.ref d), .val (.int (Int32.ofNat (q + i))), .val (.int (Int32.ofNat len)), .val (.int (Int32.ofNat i)), z] [.int (Int32.ofNat (o + i)), .ref b])) := cl.trans (by
        refine XS.iload Xl.here hexec rfl (hb hbytes d3) rfl ?_
        refine XS.iload Xl.here hexec rfl (hb hbytes d5) rfl ?_
        refine XS.icmpNo Xl.here hexec rfl (hb hbytes d7) rfl (ii_ge_f (lt32 (by omega) (by omega))) ?_
        refine XS.aloadN Xl.here hexec rfl (hb hbytes d10) rfl rfl ?_
        refine XS.iloadN Xl.here hexec rfl (hb hbytes d11) rfl ?_
        exact Steps.refl _)
      have c4 : Steps p.tables e below (s₁.setTop (entryFrame m #[.ref b, .int (Int32.ofNat o), .ref d, .int (Int32.ofNat q), .int (Int32.ofNat len)] 7)) (Tl.setTop (mkF m 13 #[.val (.ref b), .val (.int (Int32.ofNat (o + i))), .val (.ref d), .val (.int (Int32.ofNat (q + i))), .val (.int (Int32.ofNat len)), .val (.int (Int32.ofNat i)), z] [.int (cv A (o + i))])) := c3.trans (by
        refine Xl.aget hexec hAl rfl (hA.get (i := o + i) (by omega)) rfl rfl (hb hbytes d12) ?_
        exact Steps.refl _)
      have c5 : Steps p.tables e below (s₁.setTop (entryFrame m #[.ref b, .int (Int32.ofNat o), .ref d, .int (Int32.ofNat q), .int (Int32.ofNat len)] 7)) (Tl.setTop (mkF m 15 #[.val (.ref b), .val (.int (Int32.ofNat (o + i))), .val (.ref d), .val (.int (Int32.ofNat (q + i))), .val (.int (Int32.ofNat len)), .val (.int (Int32.ofNat i)), .val (.int (cv A (o + i)))] [])) := c4.trans (by
        refine XS.istoreS Xl.here hexec rfl (hb hbytes d13) rfl rfl hz ?_
        exact Steps.refl _)
      have c6 : Steps p.tables e below (s₁.setTop (entryFrame m #[.ref b, .int (Int32.ofNat o), .ref d, .int (Int32.ofNat q), .int (Int32.ofNat len)] 7)) (Tl.setTop (mkF m 31 #[.val (.ref b), .val (.int (Int32.ofNat (o + i))), .val (.ref d), .val (.int (Int32.ofNat (q + i))), .val (.int (Int32.ofNat len)), .val (.int (Int32.ofNat i)), .val (.int (cv A (o + i)))] [.int (lo8 (cv A (o + i))), .int (Int32.ofNat (q + i)), .ref d])) := c5.trans (by
        refine XS.iload Xl.here hexec rfl (hb hbytes d15) rfl ?_
        refine sipushV Xl.here hexec rfl 255 (hb hbytes d17) (by decide) ?_
        refine XS.icmpYes Xl.here hexec rfl (pc0 := 20) rfl (hb hbytes d20) rfl (ii_le_t (hp i (by omega))) (by decide) rfl ?_
        refine XS.aloadN Xl.here hexec rfl (hb hbytes d26) rfl rfl ?_
        refine XS.iloadN Xl.here hexec rfl (hb hbytes d27) rfl ?_
        refine XS.iload Xl.here hexec rfl (hb hbytes d28) rfl ?_
        refine i2b Xl.here hexec rfl (hb hbytes d30) rfl ?_
        exact Steps.refl _)
      obtain ⟨T7, X7, p7, st7⟩ := Xl.aput hexec hBk rfl hlt rfl (fits_lo8 (cv A (o + i))) (g := (mkF m 31 #[.val (.ref b), .val (.int (Int32.ofNat (o + i))), .val (.ref d), .val (.int (Int32.ofNat (q + i))), .val (.int (Int32.ofNat len)), .val (.int (Int32.ofNat i)), .val (.int (cv A (o + i)))] [.int (lo8 (cv A (o + i))), .int (Int32.ofNat (q + i)), .ref d])) rfl (rest := []) rfl (hb hbytes d31)
      have c8 : Steps p.tables e below (s₁.setTop (entryFrame m #[.ref b, .int (Int32.ofNat o), .ref d, .int (Int32.ofNat q), .int (Int32.ofNat len)] 7)) (T7.setTop (mkF m 32 #[.val (.ref b), .val (.int (Int32.ofNat (o + i))), .val (.ref d), .val (.int (Int32.ofNat (q + i))), .val (.int (Int32.ofNat len)), .val (.int (Int32.ofNat i)), .val (.int (cv A (o + i)))] [])) := c6.trans (st7 _ (Steps.refl _))
      have c9 : Steps p.tables e below (s₁.setTop (entryFrame m #[.ref b, .int (Int32.ofNat o), .ref d, .int (Int32.ofNat q), .int (Int32.ofNat len)] 7)) (T7.setTop (mkF m 3 #[.val (.ref b), .val (.int (Int32.ofNat (o + i) + 1)), .val (.ref d), .val (.int (Int32.ofNat (q + i) + 1)), .val (.int (Int32.ofNat len)), .val (.int (Int32.ofNat i + 1)), .val (.int (cv A (o + i)))] [])) := c8.trans (by
        refine iincV X7.here hexec rfl 1 (hb hbytes d32) (by decide) rfl rfl ?_
        refine iincV X7.here hexec rfl 1 (hb hbytes d35) (by decide) rfl rfl ?_
        refine iincV X7.here hexec rfl 1 (hb hbytes d38) (by decide) rfl rfl ?_
        refine XS.goto X7.here hexec rfl (pc0 := 41) rfl (hb hbytes d41) (by decide) rfl ?_
        exact Steps.refl _)
      have c10 : Steps p.tables e below (s₁.setTop (entryFrame m #[.ref b, .int (Int32.ofNat o), .ref d, .int (Int32.ofNat q), .int (Int32.ofNat len)] 7)) (T7.setTop (mkF m 3 #[.val (.ref b), .val (.int (Int32.ofNat (o + (i + 1)))), .val (.ref d), .val (.int (Int32.ofNat (q + (i + 1)))), .val (.int (Int32.ofNat len)), .val (.int (Int32.ofNat (i + 1))), .val (.int (cv A (o + i)))] [])) := by
        have := c9
        rw [succ32, succ32, succ32] at this
        exact this
      exact ih (i + 1) (by omega) _ (Or.inr ⟨_, rfl, rfl⟩) T7 _ (by rw [copyLocs_step, ← List.append_assoc]; exact X7) (pl.trans p7) (fl.step (by omega) hlt (by simp)) c10
  obtain ⟨T9, B9, z9, X9, p9, f9, g9⟩ := loop len 0 (by omega) .unset (Or.inl rfl) s₁ B (by simpa [copyLocs] using X0) ⟨hB0.1, fun _ _ => rfl, rfl⟩ (Laid.zero _ _ _) c2
  have c11 : Steps p.tables e below (s₁.setTop (entryFrame m #[.ref b, .int (Int32.ofNat o), .ref d, .int (Int32.ofNat q), .int (Int32.ofNat len)] 7)) (T9.setTop (mkF m 46 #[.val (.ref b), .val (.int (Int32.ofNat (o + len))), .val (.ref d), .val (.int (Int32.ofNat (q + len))), .val (.int (Int32.ofNat len)), .val (.int (Int32.ofNat len)), z9] [.int (Int32.ofNat len)])) := g9.trans (by
    refine XS.iload X9.here hexec rfl (hb hbytes d3) rfl ?_
    refine XS.iload X9.here hexec rfl (hb hbytes d5) rfl ?_
    refine XS.icmpYes X9.here hexec rfl (pc0 := 7) rfl (hb hbytes d7) rfl (ii_ge_t (nlt32 (by omega) (Nat.le_refl _))) (by decide) rfl ?_
    refine XS.iload X9.here hexec rfl (hb hbytes d44) rfl ?_
    exact Steps.refl _)
  exact ⟨T9, some (.int (Int32.ofNat len)), _, _, _, X9, by simp, rfl, rfl, (fun h => by cases h), ⟨rfl, B9, p9.from hh0, f9⟩, fun fs hl => c11.trans (X9.ireturnOut hexec hret rfl (Or.inl rfl) (hb hbytes d46) hl)⟩
end Cmp5
namespace Cmp3
def yN : MethodName := ⟨"java/lang/StringUTF16", "compress", "([CII)[B"⟩
abbrev yB : ByteArray := jdk_52_method_16_code
theorem d0 : decode yB 0 = .ok (.iload_n 2, 1) := by decide +kernel
theorem d1 : decode yB 1 = .ok (.newarray .byte, 2) := by decide +kernel
theorem d3 : decode yB 3 = .ok (.astore_n 3, 1) := by decide +kernel
theorem d4 : decode yB 4 = .ok (.aload_n 0, 1) := by decide +kernel
theorem d5 : decode yB 5 = .ok (.iload_n 1, 1) := by decide +kernel
theorem d6 : decode yB 6 = .ok (.aload_n 3, 1) := by decide +kernel
theorem d7 : decode yB 7 = .ok (.iconst 0, 1) := by decide +kernel
theorem d8 : decode yB 8 = .ok (.iload_n 2, 1) := by decide +kernel
theorem d9 : decode yB 9 = .ok (.invokestatic 115, 3) := by decide +kernel
theorem d12 : decode yB 12 = .ok (.istore 4, 2) := by decide +kernel
theorem d14 : decode yB 14 = .ok (.iload 4, 2) := by decide +kernel
theorem d16 : decode yB 16 = .ok (.iload_n 2, 1) := by decide +kernel
theorem d17 : decode yB 17 = .ok (.if_icmp (.eq) 40, 3) := by decide +kernel
theorem d57 : decode yB 57 = .ok (.aload_n 3, 1) := by decide +kernel
theorem d58 : decode yB 58 = .ok (.areturn, 1) := by decide +kernel
def site : List Cond := [.arrayClass .byte, Cmp5.tab] ++ staticW U16 115 Cmp5.yN
def tab : Cond := tabOf yN yB 6 (some (.array .byte)) site
def P (b : Addr) (A : Cell) (o len : Nat) (args : Array Value) (s : State) : Prop := args = #[.ref b, .int (Int32.ofNat o), .int (Int32.ofNat len)] ∧ Ch b A s ∧ o + len ≤ A.slots.size ∧ len ≤ 536870912 ∧ ∀ i, i < len → ¬ 255 < cv A (o + i)
def E (b : Addr) (A : Cell) (o len : Nat) (r : Option Value) (s u : State) : Prop := NewArr .byte "[B" len (fun j => .int (lo8 (cv A (o + j)))) r s u ∧ u.heap.size = s.heap.size + 1
/-- no char of the range above 255: a new byte[] of their low bytes -/
theorem law (l : Launch) (b : Addr) (A : Cell) (o len : Nat) : Law l yN 3 3 1 18 yB 6 (some (.array .byte)) site (P b A o len) (E b A o len) [] 1 len := by
  refine Law.of_walk (plainFor_of_name (by decide +kernel)) (by decide +kernel) (by decide +kernel) (by decide) (fun _ _ h => by rw [h.1]; rfl) (fun _ U U' hal hh h => ⟨h.1, h.2.1.mv hal hh, h.2.2⟩) (fun r U U' V V' h1 hal h2 h => ⟨NewArr.mv r U U' V V' h1 hal h2 h.1, by rw [h1, h2]; exact h.2⟩) ?_
  intro p e s m args below meth c s₁ X0 hexec hbytes hml hret hlk hnm hown hh0 W hP
  obtain ⟨rfl, hA, l1, l2, hp⟩ := hP
  have a31 := hA.1.2.2.2
  have c1 : Steps p.tables e below (s₁.setTop (entryFrame m #[.ref b, .int (Int32.ofNat o), .int (Int32.ofNat len)] 6)) (s₁.setTop (mkF m 0 #[.val (.ref b), .val (.int (Int32.ofNat o)), .val (.int (Int32.ofNat len)), .unset, .unset, .unset] [])) := entry rfl
  have c2 : Steps p.tables e below (s₁.setTop (entryFrame m #[.ref b, .int (Int32.ofNat o), .int (Int32.ofNat len)] 6)) (s₁.setTop (mkF m 1 #[.val (.ref b), .val (.int (Int32.ofNat o)), .val (.int (Int32.ofNat len)), .unset, .unset, .unset] [.int (Int32.ofNat len)])) := c1.trans (by
    refine XS.iloadN X0.here hexec rfl (hb hbytes d0) rfl ?_
    exact Steps.refl _)
  obtain ⟨T3, B3, X3, ba3, bs3, bv3, bh3, bf3, st3⟩ := X0.anew hexec (atype := .byte) (wk W (.arrayClass .byte)) rfl (by show len * 1 ≤ _; omega) (by omega) (g := (mkF m 1 #[.val (.ref b), .val (.int (Int32.ofNat o)), .val (.int (Int32.ofNat len)), .unset, .unset, .unset] [.int (Int32.ofNat len)])) rfl (hb hbytes d1) (rest := []) rfl (Nat.le_refl _) (by show 0 + len ≤ len; omega)
  rw [hh0] at ba3 st3
  have kp3 : XT.Kept s T3 := (XT.Kept.of_eq hh0).push bh3
  have hA3 := hA.keep X3.warmed.alike (kp3 _ _ hA.1.1)
  have hne : b ≠ s.heap.size := hA.1.ne
  have c4 : Steps p.tables e below (s₁.setTop (entryFrame m #[.ref b, .int (Int32.ofNat o), .int (Int32.ofNat len)] 6)) (T3.setTop (mkF m 3 #[.val (.ref b), .val (.int (Int32.ofNat o)), .val (.int (Int32.ofNat len)), .unset, .unset, .unset] [.ref s.heap.size])) := c2.trans (st3 _ (Steps.refl _))
  have c5 : Steps p.tables e below (s₁.setTop (entryFrame m #[.ref b, .int (Int32.ofNat o), .int (Int32.ofNat len)] 6)) (T3.setTop (mkF m 9 #[.val (.ref b), .val (.int (Int32.ofNat o)), .val (.int (Int32.ofNat len)), .val (.ref s.heap.size), .unset, .unset] [.int (Int32.ofNat len), .int 0, .ref s.heap.size, .int (Int32.ofNat o), .ref b])) := c4.trans (by
    refine XS.astoreN X3.here hexec rfl (hb hbytes d3) rfl rfl rfl ?_
    refine XS.aloadN X3.here hexec rfl (hb hbytes d4) rfl rfl ?_
    refine XS.iloadN X3.here hexec rfl (hb hbytes d5) rfl ?_
    refine XS.aloadN X3.here hexec rfl (hb hbytes d6) rfl rfl ?_
    refine iconstV X3.here hexec rfl 0 (hb hbytes d7) (by decide) ?_
    refine XS.iloadN X3.here hexec rfl (hb hbytes d8) rfl ?_
    exact Steps.refl _)
  obtain ⟨v6, T6, X6, E6, g6⟩ := X3.callS hexec (Cmp5.law l b A s.heap.size B3 o 0 len) hown (wks W (staticW U16 115 Cmp5.yN)) (wk W Cmp5.tab) (W := 0) (Nat.le_of_ble_eq_true rfl) (Nat.le_of_ble_eq_true rfl) (Nat.le_refl _) (by show 0 + len + 0 ≤ len; omega) (g := (mkF m 9 #[.val (.ref b), .val (.int (Int32.ofNat o)), .val (.int (Int32.ofNat len)), .val (.ref s.heap.size), .unset, .unset] [.int (Int32.ofNat len), .int (Int32.ofNat 0), .ref s.heap.size, .int (Int32.ofNat o), .ref b])) rfl (by rw [hml]; rfl) c5 (argsL := [.ref b, .int (Int32.ofNat o), .ref s.heap.size, .int (Int32.ofNat 0), .int (Int32.ofNat len)]) (rest := []) rfl rfl (by show 2 * 0 + 0 ≤ _; decide) (hb hbytes d9) (⟨rfl, hA3, ba3, hne, l1, by rw [bs3]; simp, hp⟩)
  obtain ⟨rfl, B6, p6, f6⟩ := E6
  have c7 : Steps p.tables e below (s₁.setTop (entryFrame m #[.ref b, .int (Int32.ofNat o), .int (Int32.ofNat len)] 6)) (T6.setTop (mkF m 12 #[.val (.ref b), .val (.int (Int32.ofNat o)), .val (.int (Int32.ofNat len)), .val (.ref s.heap.size), .unset, .unset] [.int (Int32.ofNat len)])) := g6
  have c8 : Steps p.tables e below (s₁.setTop (entryFrame m #[.ref b, .int (Int32.ofNat o), .int (Int32.ofNat len)] 6)) (T6.setTop (mkF m 58 #[.val (.ref b), .val (.int (Int32.ofNat o)), .val (.int (Int32.ofNat len)), .val (.ref s.heap.size), .val (.int (Int32.ofNat len)), .unset] [.ref s.heap.size])) := c7.trans (by
    refine XS.istore X6.here hexec rfl (hb hbytes d12) rfl rfl ?_
    refine XS.iload X6.here hexec rfl (hb hbytes d14) rfl ?_
    refine XS.iloadN X6.here hexec rfl (hb hbytes d16) rfl ?_
    refine XS.icmpYes X6.here hexec rfl (pc0 := 17) rfl (hb hbytes d17) rfl (ii_eq_t rfl) (by decide) rfl ?_
    refine XS.aloadN X6.here hexec rfl (hb hbytes d57) rfl rfl ?_
    exact Steps.refl _)
  have X8 := X6.wide (L' := []) (cells' := 1) (slots' := len) (fun x hx hlt => by
    simp only [List.nil_append, copyLocs, List.mem_map, List.mem_range] at hx
    obtain ⟨i, -, rfl⟩ := hx
    exact absurd hlt (Nat.lt_irrefl _)) (Nat.le_refl _) (by omega)
  exact ⟨T6, some (.ref s.heap.size), _, _, _, X8, rfl, rfl, rfl, (fun h => by cases h), ⟨⟨rfl, B6, ba3.like (X3.warmed.alike.symm.trans X6.warmed.alike) p6.1 f6.1 f6.2.1 f6.2.2.1, f6.2.1.trans bv3, by rw [X6.warmed.alike.findClass, f6.1]; exact bf3, by rw [f6.2.2.1, bs3]; simp, fun j hj => by rw [f6.2.2.2 j, if_pos (by omega)]; rfl, kp3.put p6 (Nat.le_refl _)⟩, by rw [p6.2.2, bh3, hh0]; simp⟩, fun fs hl => c8.trans (X8.areturnOut hexec rfl hret rfl (hb hbytes d58) hl)⟩
end Cmp3
namespace CodL
def yN : MethodName := ⟨"java/lang/StringUTF16", "coderFromArrayLen", "([BI)B"⟩
abbrev yB : ByteArray := jdk_52_method_15_code
theorem d0 : decode yB 0 = .ok (.iload_n 1, 1) := by decide +kernel
theorem d1 : decode yB 1 = .ok (.aload_n 0, 1) := by decide +kernel
theorem d2 : decode yB 2 = .ok (.arraylength, 1) := by decide +kernel
theorem d3 : decode yB 3 = .ok (.isub, 1) := by decide +kernel
theorem d4 : decode yB 4 = .ok (.bipush 31, 2) := by decide +kernel
theorem d6 : decode yB 6 = .ok (.iushr, 1) := by decide +kernel
theorem d7 : decode yB 7 = .ok (.i2b, 1) := by decide +kernel
theorem d8 : decode yB 8 = .ok (.ireturn, 1) := by decide +kernel
def site : List Cond := []
def tab : Cond := tabOf yN yB 2 (some .byte) site
def P (d : Addr) (B : Cell) (args : Array Value) (s : State) : Prop := args = #[.ref d, .int (Int32.ofNat B.slots.size)] ∧ Arr .byte d B s
def E (r : Option Value) (s u : State) : Prop := XT.PureE (some (.int 0)) r s u
/-- an array as long as the number of chars: LATIN1 -/
theorem law (l : Launch) (d : Addr) (B : Cell) : Law l yN 2 2 0 0 yB 2 (some .byte) site (P d B) E [] 0 0 := by
  refine Law.of_walk (plainFor_of_name (by decide +kernel)) (by decide +kernel) (by decide +kernel) (by decide) (fun _ _ h => by rw [h.1]; rfl) (fun _ U U' hal hh h => ⟨h.1, h.2.mv hal hh⟩) (fun r U U' V V' h1 hal h2 h => XT.PureE.mv r U U' V V' h1 hal h2 h) ?_
  intro p e s m args below meth c s₁ X0 hexec hbytes hml hret hlk hnm hown hh0 W hP
  obtain ⟨rfl, hB⟩ := hP
  have hB0 := hB.mv X0.warmed.alike hh0
  have c1 : Steps p.tables e below (s₁.setTop (entryFrame m #[.ref d, .int (Int32.ofNat B.slots.size)] 2)) (s₁.setTop (mkF m 0 #[.val (.ref d), .val (.int (Int32.ofNat B.slots.size))] [])) := entry rfl
  have c2 : Steps p.tables e below (s₁.setTop (entryFrame m #[.ref d, .int (Int32.ofNat B.slots.size)] 2)) (s₁.setTop (mkF m 2 #[.val (.ref d), .val (.int (Int32.ofNat B.slots.size))] [.ref d, .int (Int32.ofNat B.slots.size)])) := c1.trans (by
    refine XS.iloadN X0.here hexec rfl (hb hbytes d0) rfl ?_
    refine XS.aloadN X0.here hexec rfl (hb hbytes d1) rfl rfl ?_
    exact Steps.refl _)
  have c3 : Steps p.tables e below (s₁.setTop (entryFrame m #[.ref d, .int (Int32.ofNat B.slots.size)] 2)) (s₁.setTop (mkF m 8 #[.val (.ref d), .val (.int (Int32.ofNat B.slots.size))] [.int (lo8 (ushr (Int32.ofNat B.slots.size - Int32.ofNat B.slots.size) 31))])) := c2.trans (by
    refine X0.alen hexec hB0 rfl rfl (hb hbytes d2) ?_
    refine XS.isub X0.here hexec rfl (hb hbytes d3) rfl ?_
    refine bipushV X0.here hexec rfl 31 (hb hbytes d4) (by decide) ?_
    refine iushr X0.here hexec rfl (hb hbytes d6) rfl ?_
    refine i2b X0.here hexec rfl (hb hbytes d7) rfl ?_
    exact Steps.refl _)
  have e0 : lo8 (ushr (Int32.ofNat B.slots.size - Int32.ofNat B.slots.size) 31) = 0 := by rw [Int32.sub_self]; decide
  rw [e0] at c3
  exact ⟨s₁, some (.int 0), _, _, _, X0, rfl, rfl, rfl, (fun h => by cases h), ⟨rfl, hh0⟩, fun fs hl => c3.trans (X0.ireturnOut hexec hret rfl (Or.inr (Or.inr (Or.inl rfl))) (hb hbytes d8) hl)⟩
end CodL
/-- the String at a is Latin-1 over a new byte[] (the heap's one new cell): the low bytes of the len chars of A from o on; every cell but a is kept -/
def Got (a : Addr) (D : Cell) (fV fC : Field) (A : Cell) (o len : Nat) (r : Option Value) (s u : State) : Prop := r = none ∧ ∃ D' V : Cell, Blank "java/lang/String" a D' u ∧ Same D D' [fV.slot, fC.slot] ∧ D'.slots[fV.slot]? = some (.ref s.heap.size) ∧ D'.slots[fC.slot]? = some (.int 0) ∧ Arr .byte s.heap.size V u ∧ V.vm = .none ∧ u.vm.findClass "[B" = some V.cls ∧ V.slots.size = len ∧ (∀ j, j < len → V.slots[j]? = some (.int (lo8 (cv A (o + j))))) ∧ (∀ (y : Addr) (c : Cell), y ≠ a → s.heap[y]? = some c → u.heap[y]? = some c) ∧ u.heap.size = s.heap.size + 1
theorem Got.mv {a : Addr} {D A : Cell} {fV fC : Field} {o len : Nat} : ∀ r (U U' V V' : State), U'.heap = U.heap → V.vm.Alike V'.vm → V'.heap = V.heap → Got a D fV fC A o len r U V → Got a D fV fC A o len r U' V' :=
  fun r U U' V V' h1 hal h2 ⟨e0, D', X, a1, a2, a3, a4, a5, a6, a7, a8, a9, a10, a11⟩ => ⟨e0, D', X, a1.mv hal h2, a2, by rw [h1]; exact a3, a4, by rw [h1]; exact a5.mv hal h2, a6, by rw [hal.findClass]; exact a7, a8, a9, by rw [h1, h2]; exact a10, by rw [h1, h2]; exact a11⟩
namespace New4
def yN : MethodName := ⟨"java/lang/String", "<init>", "([CIILjava/lang/Void;)V"⟩
abbrev yB : ByteArray := jdk_42_method_149_code
theorem d0 : decode yB 0 = .ok (.aload_n 0, 1) := by decide +kernel
theorem d1 : decode yB 1 = .ok (.invokespecial 1, 3) := by decide +kernel
theorem d4 : decode yB 4 = .ok (.iload_n 3, 1) := by decide +kernel
theorem d5 : decode yB 5 = .ok (.ifCond (.ne) 22, 3) := by decide +kernel
theorem d27 : decode yB 27 = .ok (.getstatic 38, 3) := by decide +kernel
theorem d30 : decode yB 30 = .ok (.ifCond (.eq) 28, 3) := by decide +kernel
theorem d33 : decode yB 33 = .ok (.aload_n 1, 1) := by decide +kernel
theorem d34 : decode yB 34 = .ok (.iload_n 2, 1) := by decide +kernel
theorem d35 : decode yB 35 = .ok (.iload_n 3, 1) := by decide +kernel
theorem d36 : decode yB 36 = .ok (.invokestatic 177, 3) := by decide +kernel
theorem d39 : decode yB 39 = .ok (.astore 5, 2) := by decide +kernel
theorem d41 : decode yB 41 = .ok (.aload_n 0, 1) := by decide +kernel
theorem d42 : decode yB 42 = .ok (.aload 5, 2) := by decide +kernel
theorem d44 : decode yB 44 = .ok (.iload_n 3, 1) := by decide +kernel
theorem d45 : decode yB 45 = .ok (.invokestatic 47, 3) := by decide +kernel
theorem d48 : decode yB 48 = .ok (.putfield 15, 3) := by decide +kernel
theorem d51 : decode yB 51 = .ok (.aload_n 0, 1) := by decide +kernel
theorem d52 : decode yB 52 = .ok (.aload 5, 2) := by decide +kernel
theorem d54 : decode yB 54 = .ok (.putfield 9, 3) := by decide +kernel
theorem d57 : decode yB 57 = .ok (.return_, 1) := by decide +kernel
def site : List Cond := [.fieldLink "java/lang/String" 38 "java/lang/String" "COMPACT_STRINGS" "Z", Cmp3.tab, CodL.tab, .laysFinal "java/lang/String" "java/lang/String" "value" "[B", .fieldLink "java/lang/String" 9 "java/lang/String" "value" "[B", .laysFinal "java/lang/String" "java/lang/String" "coder" "B", .fieldLink "java/lang/String" 15 "java/lang/String" "coder" "B"] ++ objW "java/lang/String" 1 ++ staticW "java/lang/String" 177 Cmp3.yN ++ staticW "java/lang/String" 47 CodL.yN
def tab : Cond := tabOf yN yB 6 none site
def P (a : Addr) (D : Cell) (fV fC : Field) (b : Addr) (A : Cell) (z : Int32) (o len : Nat) (args : Array Value) (s : State) : Prop := args = #[.ref a, .ref b, .int (Int32.ofNat o), .int (Int32.ofNat len), .null] ∧ Blank "java/lang/String" a D s ∧ Found "java/lang/String" "value" "[B" fV s ∧ Found "java/lang/String" "coder" "B" fC s ∧ Ch b A s ∧ StaticIs s "java/lang/String" "COMPACT_STRINGS" "Z" (.int z) ∧ ¬ z = 0 ∧ 0 < len ∧ o + len ≤ A.slots.size ∧ len ≤ 536870912 ∧ ∀ i, i < len → ¬ 255 < cv A (o + i)
def E (a : Addr) (D : Cell) (fV fC : Field) (A : Cell) (o len : Nat) (r : Option Value) (s u : State) : Prop := Got a D fV fC A o len r s u
/-- len > 0, no char of the range above 255: a Latin-1 String of their low bytes -/
theorem law (l : Launch) (a : Addr) (D : Cell) (fV fC : Field) (b : Addr) (A : Cell) (z : Int32) (o len : Nat) : Law l yN 5 4 2 35 yB 6 none site (P a D fV fC b A z o len) (E a D fV fC A o len) [⟨a, fC.slot⟩, ⟨a, fV.slot⟩] 1 len := by
  refine Law.of_walk (plainFor_of_name (by decide +kernel)) (by decide +kernel) (by decide +kernel) (by decide) (fun _ _ h => by rw [h.1]; rfl) (fun _ U U' hal hh h => ⟨h.1, h.2.1.mv hal hh, h.2.2.1.al hal, h.2.2.2.1.al hal, h.2.2.2.2.1.mv hal hh, h.2.2.2.2.2.1.there hal hh, h.2.2.2.2.2.2⟩) (fun r U U' V V' h1 hal h2 h => Got.mv r U U' V V' h1 hal h2 h) ?_
  intro p e s m args below meth c s₁ X0 hexec hbytes hml hret hlk hnm hown hh0 W hP
  obtain ⟨rfl, hB, f1, f2, hA, s1, hz, l0, l1, l2, hp⟩ := hP
  have a31 := hA.1.2.2.2
  have c1 : Steps p.tables e below (s₁.setTop (entryFrame m #[.ref a, .ref b, .int (Int32.ofNat o), .int (Int32.ofNat len), .null] 6)) (s₁.setTop (mkF m 0 #[.val (.ref a), .val (.ref b), .val (.int (Int32.ofNat o)), .val (.int (Int32.ofNat len)), .val .null, .unset] [])) := entry rfl
  have c2 : Steps p.tables e below (s₁.setTop (entryFrame m #[.ref a, .ref b, .int (Int32.ofNat o), .int (Int32.ofNat len), .null] 6)) (s₁.setTop (mkF m 1 #[.val (.ref a), .val (.ref b), .val (.int (Int32.ofNat o)), .val (.int (Int32.ofNat len)), .val .null, .unset] [.ref a])) := c1.trans (by
    refine XS.aloadN X0.here hexec rfl (hb hbytes d0) rfl rfl ?_
    exact Steps.refl _)
  obtain ⟨T3, X3, q3, st3⟩ := X0.oinit hexec hown (wks W (objW "java/lang/String" 1)) (g := (mkF m 1 #[.val (.ref a), .val (.ref b), .val (.int (Int32.ofNat o)), .val (.int (Int32.ofNat len)), .val .null, .unset] [.ref a])) rfl (by rw [hml]; rfl) (rest := []) rfl (hb hbytes d1) (W := 0) (by show 2 * 0 + 0 ≤ _; decide) (Nat.le_of_ble_eq_true rfl) (Nat.le_of_ble_eq_true rfl)
  have hh3 := q3.trans hh0
  have c4 : Steps p.tables e below (s₁.setTop (entryFrame m #[.ref a, .ref b, .int (Int32.ofNat o), .int (Int32.ofNat len), .null] 6)) (T3.setTop (mkF m 27 #[.val (.ref a), .val (.ref b), .val (.int (Int32.ofNat o)), .val (.int (Int32.ofNat len)), .val .null, .unset] [])) := (c2.trans (st3 _ (Steps.refl _))).trans (by
    refine XS.iloadN X3.here hexec rfl (hb hbytes d4) rfl ?_
    refine XS.ifYes X3.here hexec rfl (pc0 := 5) rfl (hb hbytes d5) rfl (i0_ne_t (nz32 (by omega) l0)) (by decide) rfl ?_
    exact Steps.refl _)
  obtain ⟨T5, X5, q5, st5⟩ := X3.sget hexec hown (wk W (.fieldLink "java/lang/String" 38 "java/lang/String" "COMPACT_STRINGS" "Z")) s1 (fun _ _ h => by rw [hh3]; exact h) (g := (mkF m 27 #[.val (.ref a), .val (.ref b), .val (.int (Int32.ofNat o)), .val (.int (Int32.ofNat len)), .val .null, .unset] [])) rfl (hb hbytes d27)
  have hh5 := q5.trans hh3
  have c6 : Steps p.tables e below (s₁.setTop (entryFrame m #[.ref a, .ref b, .int (Int32.ofNat o), .int (Int32.ofNat len), .null] 6)) (T5.setTop (mkF m 30 #[.val (.ref a), .val (.ref b), .val (.int (Int32.ofNat o)), .val (.int (Int32.ofNat len)), .val .null, .unset] [.int z])) := c4.trans (st5 _ (Steps.refl _))
  have c7 : Steps p.tables e below (s₁.setTop (entryFrame m #[.ref a, .ref b, .int (Int32.ofNat o), .int (Int32.ofNat len), .null] 6)) (T5.setTop (mkF m 36 #[.val (.ref a), .val (.ref b), .val (.int (Int32.ofNat o)), .val (.int (Int32.ofNat len)), .val .null, .unset] [.int (Int32.ofNat len), .int (Int32.ofNat o), .ref b])) := c6.trans (by
    refine XS.ifNo X5.here hexec rfl (hb hbytes d30) rfl (i0_eq_f hz) ?_
    refine XS.aloadN X5.here hexec rfl (hb hbytes d33) rfl rfl ?_
    refine XS.iloadN X5.here hexec rfl (hb hbytes d34) rfl ?_
    refine XS.iloadN X5.here hexec rfl (hb hbytes d35) rfl ?_
    exact Steps.refl _)
  obtain ⟨v8, T8, X8, E8, g8⟩ := X5.callS hexec (Cmp3.law l b A o len) hown (wks W (staticW "java/lang/String" 177 Cmp3.yN)) (wk W Cmp3.tab) (W := 0) (Nat.le_of_ble_eq_true rfl) (Nat.le_of_ble_eq_true rfl) (Nat.le_refl _) (by show 0 + len ≤ len; omega) (g := (mkF m 36 #[.val (.ref a), .val (.ref b), .val (.int (Int32.ofNat o)), .val (.int (Int32.ofNat len)), .val .null, .unset] [.int (Int32.ofNat len), .int (Int32.ofNat o), .ref b])) rfl (by rw [hml]; rfl) c7 (argsL := [.ref b, .int (Int32.ofNat o), .int (Int32.ofNat len)]) (rest := []) rfl rfl (by show 2 * 0 + 0 ≤ _; decide) (hb hbytes d36) (⟨rfl, hA.mv X5.warmed.alike hh5, l1, l2, hp⟩)
  obtain ⟨e8, z8⟩ := E8
  obtain ⟨rfl, N, n1, n2, n3, n4, n5, n6⟩ := NewArr.mv _ T5 s _ _ hh5.symm (Vm.Alike.refl _) rfl e8
  rw [hh5] at z8
  have hB1 := hB.keep X8.warmed.alike (n6 _ _ hB.1)
  have hne : s.heap.size ≠ a := (Nat.ne_of_lt (Array.getElem?_eq_some_iff.mp hB.1).1).symm
  have c9 : Steps p.tables e below (s₁.setTop (entryFrame m #[.ref a, .ref b, .int (Int32.ofNat o), .int (Int32.ofNat len), .null] 6)) (T8.setTop (mkF m 39 #[.val (.ref a), .val (.ref b), .val (.int (Int32.ofNat o)), .val (.int (Int32.ofNat len)), .val .null, .unset] [.ref s.heap.size])) := g8
  have c10 : Steps p.tables e below (s₁.setTop (entryFrame m #[.ref a, .ref b, .int (Int32.ofNat o), .int (Int32.ofNat len), .null] 6)) (T8.setTop (mkF m 45 #[.val (.ref a), .val (.ref b), .val (.int (Int32.ofNat o)), .val (.int (Int32.ofNat len)), .val .null, .val (.ref s.heap.size)] [.int (Int32.ofNat N.slots.size), .ref s.heap.size, .ref a])) := by
    have hc : Steps p.tables e below (s₁.setTop (entryFrame m #[.ref a, .ref b, .int (Int32.ofNat o), .int (Int32.ofNat len), .null] 6)) (T8.setTop (mkF m 45 #[.val (.ref a), .val (.ref b), .val (.int (Int32.ofNat o)), .val (.int (Int32.ofNat len)), .val .null, .val (.ref s.heap.size)] [.int (Int32.ofNat len), .ref s.heap.size, .ref a])) := c9.trans (by
      refine XS.astore X8.here hexec rfl (hb hbytes d39) rfl rfl rfl ?_
      refine XS.aloadN X8.here hexec rfl (hb hbytes d41) rfl rfl ?_
      refine XS.aload X8.here hexec rfl (hb hbytes d42) rfl rfl ?_
      refine XS.iloadN X8.here hexec rfl (hb hbytes d44) rfl ?_
      exact Steps.refl _)
    rw [n4]; exact hc
  obtain ⟨v11, T11, X11, E11, g11⟩ := X8.callS hexec (CodL.law l s.heap.size N) hown (wks W (staticW "java/lang/String" 47 CodL.yN)) (wk W CodL.tab) (W := 1) (Nat.le_of_ble_eq_true rfl) (Nat.le_of_ble_eq_true rfl) (Nat.le_refl _) (by show 0 + len + 0 ≤ len; omega) (g := (mkF m 45 #[.val (.ref a), .val (.ref b), .val (.int (Int32.ofNat o)), .val (.int (Int32.ofNat len)), .val .null, .val (.ref s.heap.size)] [.int (Int32.ofNat N.slots.size), .ref s.heap.size, .ref a])) rfl (by rw [hml]; rfl) c10 (argsL := [.ref s.heap.size, .int (Int32.ofNat N.slots.size)]) (rest := [.ref a]) rfl rfl (by show 2 * 0 + (1 + 0) ≤ _; decide) (hb hbytes d45) (⟨rfl, n1⟩)
  obtain ⟨rfl, q11⟩ := E11
  have hB11 := hB1.mv (X8.warmed.alike.symm.trans X11.warmed.alike) q11
  have c12 : Steps p.tables e below (s₁.setTop (entryFrame m #[.ref a, .ref b, .int (Int32.ofNat o), .int (Int32.ofNat len), .null] 6)) (T11.setTop (mkF m 48 #[.val (.ref a), .val (.ref b), .val (.int (Int32.ofNat o)), .val (.int (Int32.ofNat len)), .val .null, .val (.ref s.heap.size)] [.int 0, .ref a])) := g11
  obtain ⟨T13, X13, p13, bl13, sl13, st13⟩ := X11.finit hexec hown (wk W (.fieldLink "java/lang/String" 15 "java/lang/String" "coder" "B")) (Or.inr ⟨_, (wk W (.laysFinal "java/lang/String" "java/lang/String" "coder" "B"))⟩) (Or.inl ⟨rfl, hnm⟩) f2 (Or.inl rfl) hB11 (t := .byte) (by decide +kernel) rfl (g := (mkF m 48 #[.val (.ref a), .val (.ref b), .val (.int (Int32.ofNat o)), .val (.int (Int32.ofNat len)), .val .null, .val (.ref s.heap.size)] [.int 0, .ref a])) rfl (rest := []) rfl (hb hbytes d48)
  have c14 : Steps p.tables e below (s₁.setTop (entryFrame m #[.ref a, .ref b, .int (Int32.ofNat o), .int (Int32.ofNat len), .null] 6)) (T13.setTop (mkF m 54 #[.val (.ref a), .val (.ref b), .val (.int (Int32.ofNat o)), .val (.int (Int32.ofNat len)), .val .null, .val (.ref s.heap.size)] [.ref s.heap.size, .ref a])) := (c12.trans (st13 _ (Steps.refl _))).trans (by
    refine XS.aloadN X13.here hexec rfl (hb hbytes d51) rfl rfl ?_
    refine XS.aload X13.here hexec rfl (hb hbytes d52) rfl rfl ?_
    exact Steps.refl _)
  obtain ⟨T15, X15, p15, bl15, sl15, st15⟩ := X13.finit hexec hown (wk W (.fieldLink "java/lang/String" 9 "java/lang/String" "value" "[B")) (Or.inr ⟨_, (wk W (.laysFinal "java/lang/String" "java/lang/String" "value" "[B"))⟩) (Or.inl ⟨rfl, hnm⟩) f1 (Or.inl rfl) bl13 (t := (.array .byte)) (by decide +kernel) rfl (g := (mkF m 54 #[.val (.ref a), .val (.ref b), .val (.int (Int32.ofNat o)), .val (.int (Int32.ofNat len)), .val .null, .val (.ref s.heap.size)] [.ref s.heap.size, .ref a])) rfl (rest := []) rfl (hb hbytes d54)
  have c16 : Steps p.tables e below (s₁.setTop (entryFrame m #[.ref a, .ref b, .int (Int32.ofNat o), .int (Int32.ofNat len), .null] 6)) (T15.setTop (mkF m 57 #[.val (.ref a), .val (.ref b), .val (.int (Int32.ofNat o)), .val (.int (Int32.ofNat len)), .val .null, .val (.ref s.heap.size)] [])) := c14.trans (st15 _ (Steps.refl _))
  have ap := apart (Or.inr ⟨_, (wk W (.laysFinal "java/lang/String" "java/lang/String" "value" "[B"))⟩) (Or.inr ⟨_, (wk W (.laysFinal "java/lang/String" "java/lang/String" "coder" "B"))⟩) f1 f2 (t₁ := .array .byte) (t₂ := .byte) (by decide +kernel) (by decide +kernel) (by decide)
  have al := X8.warmed.alike.symm.trans X15.warmed.alike
  have n7 : T11.heap[s.heap.size]? = some N := by rw [q11]; exact n1.1
  exact ⟨T15, none, _, _, _, X15, by simp, rfl, by omega, (fun _ => rfl), ⟨rfl, _, N, bl15, ((Same.refl D _).set _ (by simp)).set _ (by simp), sl15, (Cell.slots_setSlot_ne _ ap).trans sl13, n1.keep al (p15.other hne (p13.other hne n7)), n2, by rw [al.findClass]; exact n3, n4, n5, fun y c h1 h2 => p15.other h1 (p13.other h1 (by rw [q11]; exact n6 y c h2)), by rw [p15.2.2, p13.2.2, q11]; exact z8⟩, fun fs hl => c16.trans (X15.returnOut hexec hret (hb hbytes d57) hl)⟩
end New4
namespace New1
def yN : MethodName := ⟨"java/lang/String", "<init>", "([C)V"⟩
abbrev yB : ByteArray := jdk_42_method_3_code
theorem d0 : decode yB 0 = .ok (.aload_n 0, 1) := by decide +kernel
theorem d1 : decode yB 1 = .ok (.aload_n 1, 1) := by decide +kernel
theorem d2 : decode yB 2 = .ok (.iconst 0, 1) := by decide +kernel
theorem d3 : decode yB 3 = .ok (.aload_n 1, 1) := by decide +kernel
theorem d4 : decode yB 4 = .ok (.arraylength, 1) := by decide +kernel
theorem d5 : decode yB 5 = .ok (.aconst_null, 1) := by decide +kernel
theorem d6 : decode yB 6 = .ok (.invokespecial 27, 3) := by decide +kernel
theorem d9 : decode yB 9 = .ok (.return_, 1) := by decide +kernel
def site : List Cond := [New4.tab] ++ initW "java/lang/String" 27 New4.yN
def tab : Cond := tabOf yN yB 2 none site
def P (a : Addr) (D : Cell) (fV fC : Field) (b : Addr) (A : Cell) (z : Int32) (args : Array Value) (s : State) : Prop := args = #[.ref a, .ref b] ∧ Blank "java/lang/String" a D s ∧ Found "java/lang/String" "value" "[B" fV s ∧ Found "java/lang/String" "coder" "B" fC s ∧ Ch b A s ∧ StaticIs s "java/lang/String" "COMPACT_STRINGS" "Z" (.int z) ∧ ¬ z = 0 ∧ 0 < A.slots.size ∧ A.slots.size ≤ 536870912 ∧ ∀ i, i < A.slots.size → ¬ 255 < cv A i
def E (a : Addr) (D : Cell) (fV fC : Field) (A : Cell) (r : Option Value) (s u : State) : Prop := Got a D fV fC A 0 A.slots.size r s u
/-- new String(chars), not empty, no char above 255: a Latin-1 String of their low bytes -/
theorem law (l : Launch) (a : Addr) (D : Cell) (fV fC : Field) (b : Addr) (A : Cell) (z : Int32) : Law l yN 2 1 3 52 yB 2 none site (P a D fV fC b A z) (E a D fV fC A) [⟨a, fC.slot⟩, ⟨a, fV.slot⟩] 1 A.slots.size := by
  refine Law.of_walk (plainFor_of_name (by decide +kernel)) (by decide +kernel) (by decide +kernel) (by decide) (fun _ _ h => by rw [h.1]; rfl) (fun _ U U' hal hh h => ⟨h.1, h.2.1.mv hal hh, h.2.2.1.al hal, h.2.2.2.1.al hal, h.2.2.2.2.1.mv hal hh, h.2.2.2.2.2.1.there hal hh, h.2.2.2.2.2.2⟩) (fun r U U' V V' h1 hal h2 h => Got.mv r U U' V V' h1 hal h2 h) ?_
  intro p e s m args below meth c s₁ X0 hexec hbytes hml hret hlk hnm hown hh0 W hP
  obtain ⟨rfl, hB, f1, f2, hA, s1, hz, l0, l2, hp⟩ := hP
  have c1 : Steps p.tables e below (s₁.setTop (entryFrame m #[.ref a, .ref b] 2)) (s₁.setTop (mkF m 0 #[.val (.ref a), .val (.ref b)] [])) := entry rfl
  have c2 : Steps p.tables e below (s₁.setTop (entryFrame m #[.ref a, .ref b] 2)) (s₁.setTop (mkF m 6 #[.val (.ref a), .val (.ref b)] [.null, .int (Int32.ofNat A.slots.size), .int 0, .ref b, .ref a])) := c1.trans (by
    refine XS.aloadN X0.here hexec rfl (hb hbytes d0) rfl rfl ?_
    refine XS.aloadN X0.here hexec rfl (hb hbytes d1) rfl rfl ?_
    refine iconstV X0.here hexec rfl 0 (hb hbytes d2) (by decide) ?_
    refine XS.aloadN X0.here hexec rfl (hb hbytes d3) rfl rfl ?_
    refine X0.alen hexec (hA.1.mv X0.warmed.alike hh0) rfl rfl (hb hbytes d4) ?_
    refine XS.aconstNull X0.here hexec rfl (hb hbytes d5) ?_
    exact Steps.refl _)
  obtain ⟨v3, T3, X3, E3, g3⟩ := X0.callN hexec (New4.law l a D fV fC b A z 0 A.slots.size) rfl hown (wks W (initW "java/lang/String" 27 New4.yN)) (W New4.tab (by simp only [site, List.mem_cons, List.mem_append, true_or, or_true])) (W := 0) (Nat.le_of_ble_eq_true rfl) (Nat.le_of_ble_eq_true rfl) (Nat.le_refl _) (by show 0 + A.slots.size ≤ A.slots.size; omega) (g := (mkF m 6 #[.val (.ref a), .val (.ref b)] [.null, .int (Int32.ofNat A.slots.size), .int (Int32.ofNat 0), .ref b, .ref a])) rfl (by rw [hml]; rfl) c2 (argsL := [.ref b, .int (Int32.ofNat 0), .int (Int32.ofNat A.slots.size), .null]) (rest := []) rfl rfl (by show 2 * 0 + 0 ≤ _; decide) (hb hbytes d6) (⟨rfl, hB.mv X0.warmed.alike hh0, f1.al X0.warmed.alike, f2.al X0.warmed.alike, hA.mv X0.warmed.alike hh0, s1.there X0.warmed.alike hh0, hz, l0, by omega, l2, fun i hi => by rw [Nat.zero_add]; exact hp i hi⟩)
  have e0 := Got.mv _ s₁ s _ _ hh0.symm (Vm.Alike.refl _) rfl E3
  obtain rfl := e0.1
  have c4 : Steps p.tables e below (s₁.setTop (entryFrame m #[.ref a, .ref b] 2)) (T3.setTop (mkF m 9 #[.val (.ref a), .val (.ref b)] [])) := g3
  exact ⟨T3, none, _, _, _, X3, by simp, rfl, by omega, (fun _ => rfl), e0, fun fs hl => c4.trans (X3.returnOut hexec hret (hb hbytes d9) hl)⟩
theorem pays {l : Launch} {R : Room} {p : Program} {e : Env} {below : List Frame} {s : State} {sargs : Array Value} {len W : Nat} (a : Addr) (D : Cell) (fV fC : Field) (b : Addr) (A : Cell) (z : Int32) (htab : tab.before sargs s = true) (hfr : 4 ≤ R.frames) (hlo : W + 65 ≤ R.locals) :
    Back l R p e below s sargs yN len W (fun A₁ a₁ => A₁.cells + 1 ≤ R.cells ∧ A₁.slots + A.slots.size ≤ R.slots ∧ P a D fV fC b A z a₁ A₁.U) (fun A₁ _ v₁ B₁ => E a D fV fC A v₁ A₁.U B₁.U ∧ B₁.locs = A₁.locs ++ [⟨a, fC.slot⟩, ⟨a, fV.slot⟩] ∧ B₁.cells = A₁.cells + 1 ∧ B₁.slots = A₁.slots + A.slots.size) :=
  (law l a D fV fC b A z).pays htab hfr (by omega)
end New1
end StrChars
namespace StrChars.Road
open Jvm Sem ClassFile Op Lib Jvm.Stand Jvm.Free Jvm.Free.XT
open Jvm.Lib.Cold (StaticIs)
abbrev ST : String := "java/lang/String"
/-- every table word that New1's law asks, flat -/
abbrev words : List Jvm.Cond := [.code New1.yN New1.yB 2 none, .initialized ST, .methodLink ST 27 New4.yN, .instanceMethod New4.yN,
  .code New4.yN New4.yB 6 none, .fieldLink ST 38 ST "COMPACT_STRINGS" "Z", .laysFinal ST ST "value" "[B", .fieldLink ST 9 ST "value" "[B", .laysFinal ST ST "coder" "B", .fieldLink ST 15 ST "coder" "B",
  .methodLink ST 1 Lib.objectInit, .instanceMethod Lib.objectInit, .code Lib.objectInit ⟨#[0xb1]⟩ 1 none, .methodLink ST 177 Cmp3.yN, .static Cmp3.yN, .methodLink ST 47 CodL.yN, .static CodL.yN,
  .code Cmp3.yN Cmp3.yB 6 (some (.array .byte)), .initialized U16, .arrayClass .byte, .methodLink U16 115 Cmp5.yN, .static Cmp5.yN, .code Cmp5.yN Cmp5.yB 7 (some .int), .code CodL.yN CodL.yB 2 (some .byte)]
theorem tab_of {a : Array Value} {s : State} (h : ∀ w ∈ words, w.before a s = true) : New1.tab.before a s = true := by
  have h5 : Cmp5.tab.before a s = true := unparts (wk h (.code Cmp5.yN Cmp5.yB 7 (some .int))) (wks h (.initialized Cmp5.yN.cls :: Cmp5.site))
  have hc : CodL.tab.before a s = true := unparts (wk h (.code CodL.yN CodL.yB 2 (some .byte))) (wks h (.initialized CodL.yN.cls :: CodL.site))
  have q5 : ∀ w ∈ Cmp5.tab :: words, w.before a s = true := fun w hw => (List.mem_cons.mp hw).elim (fun e => e ▸ h5) (h w)
  have h3 : Cmp3.tab.before a s = true := unparts (wk q5 (.code Cmp3.yN Cmp3.yB 6 (some (.array .byte)))) (wks q5 (.initialized Cmp3.yN.cls :: Cmp3.site))
  have q3 : ∀ w ∈ Cmp3.tab :: CodL.tab :: words, w.before a s = true := fun w hw => (List.mem_cons.mp hw).elim (fun e => e ▸ h3) fun hw => (List.mem_cons.mp hw).elim (fun e => e ▸ hc) (h w)
  have h4 : New4.tab.before a s = true := unparts (wk q3 (.code New4.yN New4.yB 6 none)) (wks q3 (.initialized New4.yN.cls :: New4.site))
  have q4 : ∀ w ∈ New4.tab :: words, w.before a s = true := fun w hw => (List.mem_cons.mp hw).elim (fun e => e ▸ h4) (h w)
  exact unparts (wk q4 (.code New1.yN New1.yB 2 none)) (wks q4 (.initialized New1.yN.cls :: New1.site))
/-- the words ride from the start Z to the walk's own state -/
theorem moved {Z s : State} {a0 args : Array Value} (hZ : Z.Warmed39 s.vm) (hw : ∀ d ∈ words, d.before a0 Z = true) : ∀ d ∈ words, d.before args s = true := fun d hd => by
  have q := hw d hd
  have t : ∀ d ∈ words, d = .arrayClass .byte ∨ (d.onTables && d.keepsFace) = true := by decide +kernel
  rcases t d hd with rfl | t
  · exact RoadKit.mvA hZ q
  · exact RoadKit.mv hZ q t
/-- WHAT COMES BACK, over the tables of the start Z: h the heap at the call, h' behind it -/
def Q (Z : State) (x : Addr) (A : Cell) (h : Heap) (v : Option Value) (h' : Heap) (L : List Loc) : Prop := v = none ∧ (∀ y ∈ L, y.base = x) ∧ RoadKit.Keep h h' [x] ∧ h'.size = h.size + 1 ∧ RoadKit.Exa Z h' x ST ∧ RoadKit.Fld Z h' x ST "value" "[B" (.ref h.size) ∧ RoadKit.Fld Z h' x ST "coder" "B" (.int 0) ∧
  (∃ V : Cell, RoadKit.Arr Z h' h.size V .byte ∧ V.vm = .none ∧ Z.vm.findClass "[B" = some V.cls ∧ V.slots.size = A.slots.size ∧ ∀ j, j < A.slots.size → V.slots[j]? = some (.int (lo8 (cv A j)))) ∧
  ∀ (O n d : String) (w : Value), RoadKit.Fld Z h x O n d w → RoadKit.slotOf Z O n d ≠ RoadKit.slotOf Z ST "value" "[B" → RoadKit.slotOf Z O n d ≠ RoadKit.slotOf Z ST "coder" "B" → RoadKit.Fld Z h' x O n d w
/-- **new String(chars) AT A CALL, IN THE ROAD'S FORM**: for specialBack behind newO: x the fresh String, b the char[] with the cell A -/
theorem back {p : Program} {l : Launch} {e : Env} {R : Room} {s : State} {args : Array Value} {below : List Frame} {len W : Nat} {Z : State} {a0 : Array Value} {h : Heap} (hZ : Z.Warmed39 s.vm) (hw : ∀ d ∈ words, d.before a0 Z = true) {kI : Nat} (wi : (Jvm.Cond.instantiable ST kI).before a0 Z = true)
    {x b : Addr} {A : Cell} {z : Int32} {v0 c0 : Value} (E : RoadKit.Exa Z h x ST) (V : RoadKit.Fld Z h x ST "value" "[B" v0) (C : RoadKit.Fld Z h x ST "coder" "B" c0) (K : RoadKit.Arr Z h b A .char) (hty : Typed .char A) (S : RoadKit.Sta Z h ST "COMPACT_STRINGS" "Z" (.int z)) (hz : ¬ z = 0)
    (l0 : 0 < A.slots.size) (l2 : A.slots.size ≤ 536870912) (hp : ∀ i, i < A.slots.size → ¬ 255 < cv A i) (hfr : 4 ≤ R.frames) (hlo : W + 65 ≤ R.locals) :
    Back l R p e below s args New1.yN len W (fun P a => a = #[.ref x, .ref b] ∧ P.U.heap = h ∧ P.cells + 1 ≤ R.cells ∧ P.slots + A.slots.size ≤ R.slots)
      (fun P _ v B => ∃ L, Q Z x A h v B.U.heap L ∧ B.locs = P.locs ++ L ∧ B.cells = P.cells + 1 ∧ B.slots = P.slots + A.slots.size) := by
  intro m meth c P g ig mk a X hg hsize hdg hW hn hp'
  obtain ⟨rfl, rfl, r1, r2⟩ := hp'
  have al : Z.vm.Alike P.U.vm := hZ.alike.trans X.warmed.alike
  obtain ⟨D, cfV, kV, iV, fV, hD, gV, stV, knV, obV, asV, slV⟩ := id V
  obtain ⟨D', cfC, kC, iC, fC, hD', gC, stC, -, -, asC, slC⟩ := id C
  cases hD.symm.trans hD'
  obtain ⟨D2, kD, e1, e2, e3, e4, e5⟩ := id E
  cases hD.symm.trans e1
  obtain ⟨c2, k2, i1, i2, i3, -⟩ := Cond.instantiable_spec wi
  cases e2.symm.trans i1
  cases e3.symm.trans i2
  obtain ⟨kU, u1, u2⟩ := al.2.2 _ _ e3
  have hB : Blank ST x D P.U := ⟨hD, ⟨knV, fun q hq => by rw [hq] at obV; cases obV⟩, by rw [al.findClass]; exact e2, kU, u1, by rw [u2]; exact i3, by rw [u2]; exact e5 i3⟩
  have F1 : Found ST "value" "[B" fV P.U := ⟨SBG.found_only al ⟨cfV, kV, iV, gV⟩, stV⟩
  have F2 : Found ST "coder" "B" fC P.U := ⟨SBG.found_only al ⟨cfC, kC, iC, gC⟩, stC⟩
  have hA : Ch b A P.U := ⟨⟨K.1, State.isArrayOf_alike al K.2.1, K.2.2, by omega⟩, hty⟩
  have hS : StaticIs P.U ST "COMPACT_STRINGS" "Z" (.int z) := by
    obtain ⟨cfS, iS, kS, fS, st, cS, t1, t2, t3, t4, t5, t6, t7⟩ := S
    exact StaticIs.there (s := { Z with heap := P.U.heap }) ⟨cfS, iS, kS, fS, st, cS, t1, t2, t3, t4, t5, (fun q => by rw [q] at t6; cases t6), t7⟩ al rfl
  obtain ⟨v, B, X', ⟨⟨hv, E', V', q1, q2, q3, q4, q5, q6, q7, q8, q9, q10, q11⟩, hl, hc, hs⟩, st⟩ := New1.pays x D fV fC b A z (tab_of (moved hZ hw)) hfr hlo m meth c P g ig mk _ X hg hsize hdg hW hn ⟨r1, r2, rfl, hB, F1, F2, hA, hS, hz, l0, l2, hp⟩
  have al' : Z.vm.Alike B.U.vm := hZ.alike.trans X'.warmed.alike
  have hsz : E'.slots.size = D.slots.size := by
    obtain ⟨-, -, -, kB, w1, w2, w3⟩ := q1
    obtain ⟨kB', y1, y2⟩ := al'.2.2 _ _ e3
    rw [q2.2.1] at w1
    cases w1.symm.trans y1
    rw [w3, e5 i3, y2]
  refine ⟨v, B, X', ⟨_, ⟨hv, ?_, ⟨by omega, fun y cy hy hn' => q10 y cy (by simpa using hn') hy, fun y cy hy => ?_⟩, q11, ⟨E', _, q1.1, by rw [q2.2.1]; exact e2, by rw [q2.2.1]; exact e3, by rw [q2.1]; exact obV, fun _ => by rw [hsz]; exact e5 i3⟩,
    ⟨E', cfV, kV, iV, fV, q1.1, gV, stV, by rw [q2.1]; exact knV, by rw [q2.1]; exact obV, by rw [q2.2.1]; exact asV, q3⟩, ⟨E', cfC, kC, iC, fC, q1.1, gC, stC, by rw [q2.1]; exact knV, by rw [q2.1]; exact obV, by rw [q2.2.1]; exact asC, q4⟩,
    ⟨V', ⟨q5.1, State.isArrayOf_alike al'.symm q5.2.1, q5.2.2.1⟩, q6, by rw [← al'.findClass]; exact q7, q8, fun j hj => by have := q9 j hj; rwa [Nat.zero_add] at this⟩, fun O n d w F n1 n2 => ?_⟩, hl, hc, hs⟩, st⟩
  · intro y hy
    simp only [List.mem_cons, List.not_mem_nil, or_false] at hy
    rcases hy with rfl | rfl <;> rfl
  · by_cases q : y = x
    · subst q
      cases hD.symm.trans hy
      exact ⟨E', q1.1, q2.2.1, q2.1, hsz⟩
    · exact ⟨cy, q10 y cy q hy, rfl, rfl, rfl⟩
  · obtain ⟨D3, cf, k, i, f, g1, g2, g3, g4, g5, g6, g7⟩ := F
    cases hD.symm.trans g1
    simp only [RoadKit.slotOf, g2, gV, gC, Option.map_some, Option.getD_some] at n1 n2
    exact ⟨E', cf, k, i, f, q1.1, g2, g3, by rw [q2.1]; exact g4, by rw [q2.1]; exact g5, by rw [q2.2.1]; exact g6, by rw [q2.2.2 f.slot (by simp [n1, n2])]; exact g7⟩
end StrChars.Road
namespace StrChars.Road
open Jvm Sem ClassFile Op Lib Jvm.Stand Jvm.Free Jvm.Free.XT
/-- WHAT COMES BACK, the byte[] as a list of values -/
def QA (Z : State) (x : Addr) (zn : Int32) (cs : List Int32) (h : Heap) (v : Option Value) (h' : Heap) (L : List Loc) : Prop := v = none ∧ (∀ y ∈ L, y.base = x) ∧ RoadKit.Keep h h' [x] ∧ h'.size = h.size + 1 ∧ RoadKit.Exa Z h' x ST ∧ RoadKit.Fld Z h' x ST "value" "[B" (.ref h.size) ∧ RoadKit.Fld Z h' x ST "coder" "B" (.int 0) ∧
  (∃ kb, Z.vm.findClass "[B" = some kb ∧ RoadKit.Arv Z h' h.size kb .byte zn (cs.map fun c => .int (lo8 c)) (.int 0)) ∧
  ∀ (O n d : String) (w : Value), RoadKit.Fld Z h x O n d w → RoadKit.slotOf Z O n d ≠ RoadKit.slotOf Z ST "value" "[B" → RoadKit.slotOf Z O n d ≠ RoadKit.slotOf Z ST "coder" "B" → RoadKit.Fld Z h' x O n d w
/-- **new String(chars) AT A CALL, THE ARRAYS AS LISTS**: the char[] at b holds cs, not empty, no char above 255 -/
theorem backArv {p : Program} {l : Launch} {e : Env} {R : Room} {s : State} {args : Array Value} {below : List Frame} {len W : Nat} {Z : State} {a0 : Array Value} {h : Heap} (hZ : Z.Warmed39 s.vm) (hw : ∀ d ∈ words, d.before a0 Z = true) {kI : Nat} (wi : (Jvm.Cond.instantiable ST kI).before a0 Z = true)
    {x b : Addr} {k : ClassId} {zn z : Int32} {cs : List Int32} {dv v0 c0 : Value} (E : RoadKit.Exa Z h x ST) (V : RoadKit.Fld Z h x ST "value" "[B" v0) (C : RoadKit.Fld Z h x ST "coder" "B" c0) (K : RoadKit.Arv Z h b k .char zn (cs.map Value.int) dv) (S : RoadKit.Sta Z h ST "COMPACT_STRINGS" "Z" (.int z)) (hz : ¬ z = 0)
    (hlen : zn.toNatClampNeg = cs.length) (h0 : 0 < cs.length) (hbig : cs.length ≤ 536870912) (hall : ∀ c ∈ cs, ¬ 255 < c) (hfr : 4 ≤ R.frames) (hlo : W + 65 ≤ R.locals) :
    Back l R p e below s args New1.yN len W (fun P a => a = #[.ref x, .ref b] ∧ P.U.heap = h ∧ P.cells + 1 ≤ R.cells ∧ P.slots + cs.length ≤ R.slots)
      (fun P _ v B => ∃ L, QA Z x zn cs h v B.U.heap L ∧ B.locs = P.locs ++ L ∧ B.cells = P.cells + 1 ∧ B.slots = P.slots + cs.length) := by
  obtain ⟨A, K1, K2, K3, K4, K5, K6⟩ := K
  have e : A.slots.size = cs.length := K3.trans hlen
  have hat : ∀ (i : Nat) (hi : i < cs.length), A.slots[i]? = some (.int cs[i]) := fun i hi => by rw [K5 i (by omega)]; simp [List.getD_eq_getElem?_getD, hi]
  have hcv : ∀ (i : Nat) (hi : i < cs.length), cv A i = cs[i] := fun i hi => by unfold cv; rw [hat i hi]
  have hty : Typed .char A := fun i v hv => by
    have hi : i < A.slots.size := (Array.getElem?_eq_some_iff.mp hv).1
    have q := K5 i hi
    rw [hv] at q
    rw [Option.some.inj q]
    exact K6 i hi
  refine Back.mono (back hZ hw wi E V C K1 hty S hz (by omega) (by omega) (fun i hi => by rw [hcv i (by omega)]; exact hall _ (List.getElem_mem _)) hfr hlo) (fun P a hp => ⟨hp.1, hp.2.1, hp.2.2.1, by rw [e]; exact hp.2.2.2⟩) (fun P a v B hp hq => ?_)
  obtain ⟨L, ⟨q1, q2, q3, q4, q5, q6, q7, ⟨V', v1, v2, v3, v4, v5⟩, q9⟩, hl, hc, hs⟩ := hq
  refine ⟨L, ⟨q1, q2, q3, q4, q5, q6, q7, ⟨V'.cls, v3, V', v1, rfl, by rw [v4, e, hlen], K4, fun i hi => ?_, fun i hi => ?_⟩, q9⟩, hl, hc, by rw [hs, e]⟩
  · have hi' : i < cs.length := by omega
    rw [v5 i (by omega), hcv i hi']; simp [List.getD_eq_getElem?_getD, hi']
  · have hi' : i < cs.length := by omega
    simp only [List.getD_eq_getElem?_getD, List.getElem?_map, List.getElem?_eq_getElem hi', Option.map_some, Option.getD_some]
    exact fits_lo8 _
end StrChars.Road
namespace StrChars.Road
open Jvm Sem ClassFile Op Lib Jvm.Stand Jvm.Free Jvm.Free.XT
/-- WHAT COMES BACK, in the writer's own shape -/
def QV (Z : State) (x : Addr) (N : Int32) (bs : List Int32) (h : Heap) (n0 : Nat) (v : Option Value) (h' : Heap) (L : List Loc) : Prop := v = none ∧ RoadKit.Fr n0 L ∧ RoadKit.Keep h h' [x] ∧ RoadKit.Exa Z h' x ST ∧ RoadKit.Fld Z h' x ST "coder" "B" (.int 0) ∧
  ∃ (t : Addr) (kb : ClassId), n0 ≤ t ∧ h.size ≤ t ∧ ¬ t = x ∧ RoadKit.Fld Z h' x ST "value" "[B" (.ref t) ∧ RoadKit.Arv Z h' t kb .byte N (bs.map Value.int) (.int 0)
/-- **new String(chars) AT A CALL, FOR THE WRITER**: a char[] of n known ints, each 0 to 255 -/
theorem backV {p : Program} {l : Launch} {e : Env} {R : Room} {s : State} {args : Array Value} {below : List Frame} {len W : Nat} {Z : State} {a0 : Array Value} {h : Heap} (hZ : Z.Warmed39 s.vm) (hw : ∀ d ∈ words, d.before a0 Z = true) {kI : Nat} (wi : (Jvm.Cond.instantiable ST kI).before a0 Z = true)
    {x b : Addr} {kC : ClassId} {cs bs : List Int32} {d v0 c0 : Value} {z N : Int32} {n n0 : Nat} (hx0 : n0 ≤ x) (hh0 : n0 ≤ h.size) (E : RoadKit.Exa Z h x ST) (V : RoadKit.Fld Z h x ST "value" "[B" v0) (C : RoadKit.Fld Z h x ST "coder" "B" c0) (K : RoadKit.Arv Z h b kC .char N (cs.map Value.int) d) (S : RoadKit.Sta Z h ST "COMPACT_STRINGS" "Z" (.int z)) (hz : ¬ z = 0)
    (hn : cs.length = n) (hN : N = Int32.ofNat n) (l0 : 0 < n) (l2 : n ≤ 4000) (hp : ∀ c ∈ cs, ¬ c < 0 ∧ ¬ (255 : Int32) < c) (hb : bs = cs.map (fun c => c.toInt8.toInt32)) (hfr : 4 ≤ R.frames) (hlo : W + 65 ≤ R.locals) :
    Back l R p e below s args (⟨"java/lang/String", "<init>", "([C)V"⟩ : MethodName) len W (fun P a => a = #[.ref x, .ref b] ∧ P.U.heap = h ∧ P.cells + 1 ≤ R.cells ∧ P.slots + n ≤ R.slots)
      (fun P _ v B => ∃ L, QV Z x N bs h n0 v B.U.heap L ∧ B.locs = P.locs ++ L ∧ B.cells = P.cells + 1 ∧ B.slots = P.slots + n) := by
  subst hn hN hb
  refine Back.mono (backArv hZ hw wi E V C K S hz (n32 (by omega)) l0 (by omega) (fun c hc => (hp c hc).2) hfr hlo) (fun P a hp => hp) (fun P a v B hp hq => ?_)
  obtain ⟨L, ⟨q1, q2, q3, q4, q5, q6, q7, ⟨kb, v1, v2⟩, q9⟩, hl, hc, hs⟩ := hq
  exact ⟨L, ⟨q1, fun y hy => by rw [q2 y hy]; exact hx0, q3, q5, q7, h.size, kb, hh0, Nat.le_refl _, Nat.ne_of_gt E.lt, q6, by rw [List.map_map]; exact v2⟩, hl, hc, hs⟩
end StrChars.Road
end Jvm.Pilot.@@N@@

namespace Jvm.Pilot.@@N@@
open Jvm Jvm.ClassFile Sem Op Lib Jvm.Free Jvm.Stand Jvm.LawKit Jvm.RoadKit Bundle Jvm.Pilot.@@N@@.Jvm.D
def own_EL : List (String × Nat) := [("com/example/thorough_factfind/thoroughfactfind/foundation/section/RecordPath", 15), ("com/example/thorough_factfind/thoroughfactfind/foundation/section/RecordPath", 27), ("com/example/thorough_factfind/thoroughfactfind/foundation/section/RecordPathParameterPinLaw", 12)]
theorem own_sAt : ∀ a ∈ Bundle.stringAtoms, a ∈ tables_1 := by decide +kernel
theorem own_wS {Z : State} {a0 : Array Value} (hw : ∀ d ∈ tables_1, d.before a0 Z = true) : ∀ a ∈ Bundle.stringAtoms, a.before a0 Z = true := fun a ha => hw a (own_sAt a ha)
theorem own_hEL {Z : State} {a0 : Array Value} (hw : ∀ d ∈ tables_1, d.before a0 Z = true) : EW Z a0 own_EL := (EW.cons (hw _ (List.mem_of_getElem? (i := 101) rfl)) (by decide) (EW.cons (hw _ (List.mem_of_getElem? (i := 153) rfl)) (by decide) (EW.cons (hw _ (List.mem_of_getElem? (i := 188) rfl)) (by decide) EW.nil)))
theorem own_sh0 (z : Int32) : (z >>> ((0 : Int32) &&& 31)) = z := by
  apply Int32.toBitVec_inj.mp
  show BitVec.sshiftRight _ _ = _
  simp
theorem own_ws {Z : State} {a0 : Array Value} (hw : ∀ d ∈ tables_1, d.before a0 Z = true) : ∀ d ∈ StrChars.Road.words, d.before a0 Z = true := fun d hd => hw d ((by decide +kernel : ∀ d ∈ StrChars.Road.words, d ∈ tables_1) d hd)
theorem own_shl0 (z : Int32) : (z <<< ((0 : Int32) &&& 31)) = z := by
  apply Int32.toBitVec_inj.mp
  show BitVec.shiftLeft _ _ = _
  simp
theorem own_arvn {Z : State} {h : Heap} {a : Addr} {k : ClassId} {ty : FieldType} {z : Int32} {vs : List Value} {d : Value} (A : Arv Z h a k ty z vs d) : ¬ z < 0 := by
  obtain ⟨_, -, -, -, q, -, -⟩ := A
  exact q
theorem own_l256 {P : Int32 → Prop} (t : ∀ k : Fin 256, P (Int32.ofNat k.1)) {c : Int32} (h : ¬ c < 0 ∧ ¬ (255 : Int32) < c) : P c := by
  obtain ⟨h1, h2⟩ := h
  rw [Int32.lt_iff_toInt_lt] at h1 h2
  have e0 : (0 : Int32).toInt = 0 := by decide
  have e1 : (255 : Int32).toInt = 255 := by decide
  have e : c = Int32.ofNat c.toInt.toNat := by
    apply Int32.toInt_inj.mp
    rw [Int32.toInt_ofNat_small (by omega)]; omega
  rw [e]
  exact t ⟨c.toInt.toNat, by omega⟩
theorem own_lch {c : Int32} (h : ¬ c < 0 ∧ ¬ (255 : Int32) < c) : (c.toInt8.toInt32 &&& (255 : Int32)).toUInt32.toUInt16.toUInt32.toInt32 = c := own_l256 (P := fun c => (c.toInt8.toInt32 &&& (255 : Int32)).toUInt32.toUInt16.toUInt32.toInt32 = c) (by decide +kernel) h
theorem own_lnc {c : Int32} (h : ¬ c < 0 ∧ ¬ (255 : Int32) < c) : nar .char c = c := own_l256 (P := fun c => nar .char c = c) (by decide +kernel) h
theorem own_lmk (p : Int32) : ¬ ((p &&& (255 : Int32)).toUInt32.toUInt16.toUInt32.toInt32) < 0 ∧ ¬ (255 : Int32) < ((p &&& (255 : Int32)).toUInt32.toUInt16.toUInt32.toInt32) := by
  have h1 := c_and p 255 (by decide)
  have h2 := c_i2c (p &&& 255)
  have e1 : (255 : Int32).toInt = 255 := by decide
  have e0 : (0 : Int32).toInt = 0 := by decide
  constructor
  · rw [Int32.lt_iff_toInt_lt]; omega
  · rw [Int32.lt_iff_toInt_lt]; omega
theorem d7_0 : decode prog_35_method_1_code 0 = .ok (.aload_n 0, 1) := by decide +kernel
theorem d7_1 : decode prog_35_method_1_code 1 = .ok (.aload_n 1, 1) := by decide +kernel
theorem d7_2 : decode prog_35_method_1_code 2 = .ok (.aload_n 2, 1) := by decide +kernel
theorem d7_3 : decode prog_35_method_1_code 3 = .ok (.new 5, 3) := by decide +kernel
theorem d7_6 : decode prog_35_method_1_code 6 = .ok (.dup, 1) := by decide +kernel
theorem d7_7 : decode prog_35_method_1_code 7 = .ok (.invokespecial 7, 3) := by decide +kernel
theorem d7_10 : decode prog_35_method_1_code 10 = .ok (.aload_n 2, 1) := by decide +kernel
theorem d7_11 : decode prog_35_method_1_code 11 = .ok (.invokevirtual 11, 3) := by decide +kernel
theorem d7_14 : decode prog_35_method_1_code 14 = .ok (.ldc 15, 2) := by decide +kernel
theorem d7_16 : decode prog_35_method_1_code 16 = .ok (.invokevirtual 11, 3) := by decide +kernel
theorem d7_19 : decode prog_35_method_1_code 19 = .ok (.invokevirtual 17, 3) := by decide +kernel
theorem d7_22 : decode prog_35_method_1_code 22 = .ok (.invokespecial 21, 3) := by decide +kernel
theorem d7_25 : decode prog_35_method_1_code 25 = .ok (.return_, 1) := by decide +kernel
theorem d8_0 : decode jdk_67_method_1_code 0 = .ok (.aload_n 0, 1) := by decide +kernel
theorem d8_1 : decode jdk_67_method_1_code 1 = .ok (.bipush 16, 2) := by decide +kernel
theorem d8_3 : decode jdk_67_method_1_code 3 = .ok (.invokespecial 1, 3) := by decide +kernel
theorem d8_6 : decode jdk_67_method_1_code 6 = .ok (.return_, 1) := by decide +kernel
theorem d9_0 : decode jdk_68_method_2_code 0 = .ok (.aload_n 0, 1) := by decide +kernel
theorem d9_1 : decode jdk_68_method_2_code 1 = .ok (.invokespecial 3, 3) := by decide +kernel
theorem d9_4 : decode jdk_68_method_2_code 4 = .ok (.getstatic 18, 3) := by decide +kernel
theorem d9_7 : decode jdk_68_method_2_code 7 = .ok (.ifCond .eq 18, 3) := by decide +kernel
theorem d9_10 : decode jdk_68_method_2_code 10 = .ok (.aload_n 0, 1) := by decide +kernel
theorem d9_11 : decode jdk_68_method_2_code 11 = .ok (.iload_n 1, 1) := by decide +kernel
theorem d9_12 : decode jdk_68_method_2_code 12 = .ok (.newarray .byte, 2) := by decide +kernel
theorem d9_14 : decode jdk_68_method_2_code 14 = .ok (.putfield 15, 3) := by decide +kernel
theorem d9_17 : decode jdk_68_method_2_code 17 = .ok (.aload_n 0, 1) := by decide +kernel
theorem d9_18 : decode jdk_68_method_2_code 18 = .ok (.iconst 0, 1) := by decide +kernel
theorem d9_19 : decode jdk_68_method_2_code 19 = .ok (.putfield 22, 3) := by decide +kernel
theorem d9_22 : decode jdk_68_method_2_code 22 = .ok (.goto 16, 3) := by decide +kernel
theorem d9_38 : decode jdk_68_method_2_code 38 = .ok (.return_, 1) := by decide +kernel
theorem d10_0 : decode jdk_67_method_7_code 0 = .ok (.aload_n 0, 1) := by decide +kernel
theorem d10_1 : decode jdk_67_method_7_code 1 = .ok (.aload_n 1, 1) := by decide +kernel
theorem d10_2 : decode jdk_67_method_7_code 2 = .ok (.invokespecial 29, 3) := by decide +kernel
theorem d10_5 : decode jdk_67_method_7_code 5 = .ok (.pop, 1) := by decide +kernel
theorem d10_6 : decode jdk_67_method_7_code 6 = .ok (.aload_n 0, 1) := by decide +kernel
theorem d10_7 : decode jdk_67_method_7_code 7 = .ok (.areturn, 1) := by decide +kernel
theorem d11_0 : decode jdk_68_method_22_code 0 = .ok (.aload_n 1, 1) := by decide +kernel
theorem d11_1 : decode jdk_68_method_22_code 1 = .ok (.ifnonnull 8, 3) := by decide +kernel
theorem d11_9 : decode jdk_68_method_22_code 9 = .ok (.aload_n 1, 1) := by decide +kernel
theorem d11_10 : decode jdk_68_method_22_code 10 = .ok (.invokevirtual 32, 3) := by decide +kernel
theorem d11_13 : decode jdk_68_method_22_code 13 = .ok (.istore_n 2, 1) := by decide +kernel
theorem d11_14 : decode jdk_68_method_22_code 14 = .ok (.aload_n 0, 1) := by decide +kernel
theorem d11_15 : decode jdk_68_method_22_code 15 = .ok (.aload_n 0, 1) := by decide +kernel
theorem d11_16 : decode jdk_68_method_22_code 16 = .ok (.getfield 79, 3) := by decide +kernel
theorem d11_19 : decode jdk_68_method_22_code 19 = .ok (.iload_n 2, 1) := by decide +kernel
theorem d11_20 : decode jdk_68_method_22_code 20 = .ok (.iadd, 1) := by decide +kernel
theorem d11_21 : decode jdk_68_method_22_code 21 = .ok (.invokevirtual 100, 3) := by decide +kernel
theorem d11_24 : decode jdk_68_method_22_code 24 = .ok (.aload_n 0, 1) := by decide +kernel
theorem d11_25 : decode jdk_68_method_22_code 25 = .ok (.aload_n 0, 1) := by decide +kernel
theorem d11_26 : decode jdk_68_method_22_code 26 = .ok (.getfield 79, 3) := by decide +kernel
theorem d11_29 : decode jdk_68_method_22_code 29 = .ok (.aload_n 1, 1) := by decide +kernel
theorem d11_30 : decode jdk_68_method_22_code 30 = .ok (.invokevirtual 208, 3) := by decide +kernel
theorem d11_33 : decode jdk_68_method_22_code 33 = .ok (.aload_n 0, 1) := by decide +kernel
theorem d11_34 : decode jdk_68_method_22_code 34 = .ok (.dup, 1) := by decide +kernel
theorem d11_35 : decode jdk_68_method_22_code 35 = .ok (.getfield 79, 3) := by decide +kernel
theorem d11_38 : decode jdk_68_method_22_code 38 = .ok (.iload_n 2, 1) := by decide +kernel
theorem d11_39 : decode jdk_68_method_22_code 39 = .ok (.iadd, 1) := by decide +kernel
theorem d11_40 : decode jdk_68_method_22_code 40 = .ok (.putfield 79, 3) := by decide +kernel
theorem d11_43 : decode jdk_68_method_22_code 43 = .ok (.aload_n 0, 1) := by decide +kernel
theorem d11_44 : decode jdk_68_method_22_code 44 = .ok (.areturn, 1) := by decide +kernel
theorem d12_0 : decode jdk_42_method_54_code 0 = .ok (.aload_n 0, 1) := by decide +kernel
theorem d12_1 : decode jdk_42_method_54_code 1 = .ok (.getfield 9, 3) := by decide +kernel
theorem d12_4 : decode jdk_42_method_54_code 4 = .ok (.arraylength, 1) := by decide +kernel
theorem d12_5 : decode jdk_42_method_54_code 5 = .ok (.aload_n 0, 1) := by decide +kernel
theorem d12_6 : decode jdk_42_method_54_code 6 = .ok (.invokevirtual 335, 3) := by decide +kernel
theorem d12_9 : decode jdk_42_method_54_code 9 = .ok (.ishr, 1) := by decide +kernel
theorem d12_10 : decode jdk_42_method_54_code 10 = .ok (.ireturn, 1) := by decide +kernel
theorem d13_0 : decode jdk_42_method_152_code 0 = .ok (.getstatic 38, 3) := by decide +kernel
theorem d13_3 : decode jdk_42_method_152_code 3 = .ok (.ifCond .eq 10, 3) := by decide +kernel
theorem d13_6 : decode jdk_42_method_152_code 6 = .ok (.aload_n 0, 1) := by decide +kernel
theorem d13_7 : decode jdk_42_method_152_code 7 = .ok (.getfield 15, 3) := by decide +kernel
theorem d13_10 : decode jdk_42_method_152_code 10 = .ok (.goto 4, 3) := by decide +kernel
theorem d13_14 : decode jdk_42_method_152_code 14 = .ok (.ireturn, 1) := by decide +kernel
theorem d14_0 : decode jdk_68_method_9_code 0 = .ok (.aload_n 0, 1) := by decide +kernel
theorem d14_1 : decode jdk_68_method_9_code 1 = .ok (.getfield 15, 3) := by decide +kernel
theorem d14_4 : decode jdk_68_method_9_code 4 = .ok (.arraylength, 1) := by decide +kernel
theorem d14_5 : decode jdk_68_method_9_code 5 = .ok (.aload_n 0, 1) := by decide +kernel
theorem d14_6 : decode jdk_68_method_9_code 6 = .ok (.getfield 22, 3) := by decide +kernel
theorem d14_9 : decode jdk_68_method_9_code 9 = .ok (.ishr, 1) := by decide +kernel
theorem d14_10 : decode jdk_68_method_9_code 10 = .ok (.istore_n 2, 1) := by decide +kernel
theorem d14_11 : decode jdk_68_method_9_code 11 = .ok (.iload_n 1, 1) := by decide +kernel
theorem d14_12 : decode jdk_68_method_9_code 12 = .ok (.iload_n 2, 1) := by decide +kernel
theorem d14_13 : decode jdk_68_method_9_code 13 = .ok (.isub, 1) := by decide +kernel
theorem d14_14 : decode jdk_68_method_9_code 14 = .ok (.ifCond .le 24, 3) := by decide +kernel
theorem d14_38 : decode jdk_68_method_9_code 38 = .ok (.return_, 1) := by decide +kernel
theorem d15_0 : decode jdk_68_method_73_code 0 = .ok (.aload_n 0, 1) := by decide +kernel
theorem d15_1 : decode jdk_68_method_73_code 1 = .ok (.aload_n 2, 1) := by decide +kernel
theorem d15_2 : decode jdk_68_method_73_code 2 = .ok (.invokevirtual 397, 3) := by decide +kernel
theorem d15_5 : decode jdk_68_method_73_code 5 = .ok (.aload_n 2, 1) := by decide +kernel
theorem d15_6 : decode jdk_68_method_73_code 6 = .ok (.aload_n 0, 1) := by decide +kernel
theorem d15_7 : decode jdk_68_method_73_code 7 = .ok (.getfield 15, 3) := by decide +kernel
theorem d15_10 : decode jdk_68_method_73_code 10 = .ok (.iload_n 1, 1) := by decide +kernel
theorem d15_11 : decode jdk_68_method_73_code 11 = .ok (.aload_n 0, 1) := by decide +kernel
theorem d15_12 : decode jdk_68_method_73_code 12 = .ok (.getfield 22, 3) := by decide +kernel
theorem d15_15 : decode jdk_68_method_73_code 15 = .ok (.invokevirtual 399, 3) := by decide +kernel
theorem d15_18 : decode jdk_68_method_73_code 18 = .ok (.return_, 1) := by decide +kernel
theorem d16_0 : decode jdk_68_method_71_code 0 = .ok (.getstatic 18, 3) := by decide +kernel
theorem d16_3 : decode jdk_68_method_71_code 3 = .ok (.ifCond .eq 18, 3) := by decide +kernel
theorem d16_6 : decode jdk_68_method_71_code 6 = .ok (.aload_n 0, 1) := by decide +kernel
theorem d16_7 : decode jdk_68_method_71_code 7 = .ok (.getfield 22, 3) := by decide +kernel
theorem d16_10 : decode jdk_68_method_71_code 10 = .ok (.aload_n 1, 1) := by decide +kernel
theorem d16_11 : decode jdk_68_method_71_code 11 = .ok (.invokevirtual 40, 3) := by decide +kernel
theorem d16_14 : decode jdk_68_method_71_code 14 = .ok (.if_icmp .eq 7, 3) := by decide +kernel
theorem d16_21 : decode jdk_68_method_71_code 21 = .ok (.return_, 1) := by decide +kernel
theorem d17_0 : decode jdk_42_method_147_code 0 = .ok (.aload_n 0, 1) := by decide +kernel
theorem d17_1 : decode jdk_42_method_147_code 1 = .ok (.invokevirtual 335, 3) := by decide +kernel
theorem d17_4 : decode jdk_42_method_147_code 4 = .ok (.iload_n 3, 1) := by decide +kernel
theorem d17_5 : decode jdk_42_method_147_code 5 = .ok (.if_icmp .ne 23, 3) := by decide +kernel
theorem d17_8 : decode jdk_42_method_147_code 8 = .ok (.aload_n 0, 1) := by decide +kernel
theorem d17_9 : decode jdk_42_method_147_code 9 = .ok (.getfield 9, 3) := by decide +kernel
theorem d17_12 : decode jdk_42_method_147_code 12 = .ok (.iconst 0, 1) := by decide +kernel
theorem d17_13 : decode jdk_42_method_147_code 13 = .ok (.aload_n 1, 1) := by decide +kernel
theorem d17_14 : decode jdk_42_method_147_code 14 = .ok (.iload_n 2, 1) := by decide +kernel
theorem d17_15 : decode jdk_42_method_147_code 15 = .ok (.iload_n 3, 1) := by decide +kernel
theorem d17_16 : decode jdk_42_method_147_code 16 = .ok (.ishl, 1) := by decide +kernel
theorem d17_17 : decode jdk_42_method_147_code 17 = .ok (.aload_n 0, 1) := by decide +kernel
theorem d17_18 : decode jdk_42_method_147_code 18 = .ok (.getfield 9, 3) := by decide +kernel
theorem d17_21 : decode jdk_42_method_147_code 21 = .ok (.arraylength, 1) := by decide +kernel
theorem d17_22 : decode jdk_42_method_147_code 22 = .ok (.invokestatic 212, 3) := by decide +kernel
theorem d17_25 : decode jdk_42_method_147_code 25 = .ok (.goto 18, 3) := by decide +kernel
theorem d17_43 : decode jdk_42_method_147_code 43 = .ok (.return_, 1) := by decide +kernel
theorem d18_0 : decode jdk_67_method_42_code 0 = .ok (.new 18, 3) := by decide +kernel
theorem d18_3 : decode jdk_67_method_42_code 3 = .ok (.dup, 1) := by decide +kernel
theorem d18_4 : decode jdk_67_method_42_code 4 = .ok (.aload_n 0, 1) := by decide +kernel
theorem d18_5 : decode jdk_67_method_42_code 5 = .ok (.invokespecial 137, 3) := by decide +kernel
theorem d18_8 : decode jdk_67_method_42_code 8 = .ok (.areturn, 1) := by decide +kernel
theorem d19_0 : decode jdk_42_method_53_code 0 = .ok (.aload_n 0, 1) := by decide +kernel
theorem d19_1 : decode jdk_42_method_53_code 1 = .ok (.aload_n 1, 1) := by decide +kernel
theorem d19_2 : decode jdk_42_method_53_code 2 = .ok (.aconst_null, 1) := by decide +kernel
theorem d19_3 : decode jdk_42_method_53_code 3 = .ok (.invokespecial 489, 3) := by decide +kernel
theorem d19_6 : decode jdk_42_method_53_code 6 = .ok (.return_, 1) := by decide +kernel
theorem d20_0 : decode jdk_42_method_150_code 0 = .ok (.aload_n 0, 1) := by decide +kernel
theorem d20_1 : decode jdk_42_method_150_code 1 = .ok (.invokespecial 1, 3) := by decide +kernel
theorem d20_4 : decode jdk_42_method_150_code 4 = .ok (.aload_n 1, 1) := by decide +kernel
theorem d20_5 : decode jdk_42_method_150_code 5 = .ok (.invokevirtual 552, 3) := by decide +kernel
theorem d20_8 : decode jdk_42_method_150_code 8 = .ok (.astore_n 3, 1) := by decide +kernel
theorem d20_9 : decode jdk_42_method_150_code 9 = .ok (.aload_n 1, 1) := by decide +kernel
theorem d20_10 : decode jdk_42_method_150_code 10 = .ok (.invokevirtual 549, 3) := by decide +kernel
theorem d20_13 : decode jdk_42_method_150_code 13 = .ok (.istore 4, 2) := by decide +kernel
theorem d20_15 : decode jdk_42_method_150_code 15 = .ok (.aload_n 1, 1) := by decide +kernel
theorem d20_16 : decode jdk_42_method_150_code 16 = .ok (.invokevirtual 1047, 3) := by decide +kernel
theorem d20_19 : decode jdk_42_method_150_code 19 = .ok (.ifCond .eq 22, 3) := by decide +kernel
theorem d20_22 : decode jdk_42_method_150_code 22 = .ok (.aload_n 0, 1) := by decide +kernel
theorem d20_23 : decode jdk_42_method_150_code 23 = .ok (.iconst 0, 1) := by decide +kernel
theorem d20_24 : decode jdk_42_method_150_code 24 = .ok (.putfield 15, 3) := by decide +kernel
theorem d20_27 : decode jdk_42_method_150_code 27 = .ok (.aload_n 0, 1) := by decide +kernel
theorem d20_28 : decode jdk_42_method_150_code 28 = .ok (.aload_n 3, 1) := by decide +kernel
theorem d20_29 : decode jdk_42_method_150_code 29 = .ok (.iconst 0, 1) := by decide +kernel
theorem d20_30 : decode jdk_42_method_150_code 30 = .ok (.iload 4, 2) := by decide +kernel
theorem d20_32 : decode jdk_42_method_150_code 32 = .ok (.invokestatic 54, 3) := by decide +kernel
theorem d20_35 : decode jdk_42_method_150_code 35 = .ok (.putfield 9, 3) := by decide +kernel
theorem d20_38 : decode jdk_42_method_150_code 38 = .ok (.goto 59, 3) := by decide +kernel
theorem d20_97 : decode jdk_42_method_150_code 97 = .ok (.return_, 1) := by decide +kernel
theorem d21_0 : decode jdk_68_method_64_code 0 = .ok (.aload_n 0, 1) := by decide +kernel
theorem d21_1 : decode jdk_68_method_64_code 1 = .ok (.getfield 15, 3) := by decide +kernel
theorem d21_4 : decode jdk_68_method_64_code 4 = .ok (.areturn, 1) := by decide +kernel
theorem d22_0 : decode jdk_67_method_93_code 0 = .ok (.aload_n 0, 1) := by decide +kernel
theorem d22_1 : decode jdk_67_method_93_code 1 = .ok (.invokespecial 343, 3) := by decide +kernel
theorem d22_4 : decode jdk_67_method_93_code 4 = .ok (.ireturn, 1) := by decide +kernel
theorem d23_0 : decode jdk_68_method_6_code 0 = .ok (.aload_n 0, 1) := by decide +kernel
theorem d23_1 : decode jdk_68_method_6_code 1 = .ok (.getfield 79, 3) := by decide +kernel
theorem d23_4 : decode jdk_68_method_6_code 4 = .ok (.ireturn, 1) := by decide +kernel
theorem d24_0 : decode jdk_68_method_68_code 0 = .ok (.getstatic 18, 3) := by decide +kernel
theorem d24_3 : decode jdk_68_method_68_code 3 = .ok (.ifCond .eq 14, 3) := by decide +kernel
theorem d24_6 : decode jdk_68_method_68_code 6 = .ok (.aload_n 0, 1) := by decide +kernel
theorem d24_7 : decode jdk_68_method_68_code 7 = .ok (.getfield 22, 3) := by decide +kernel
theorem d24_10 : decode jdk_68_method_68_code 10 = .ok (.ifCond .ne 7, 3) := by decide +kernel
theorem d24_13 : decode jdk_68_method_68_code 13 = .ok (.iconst 1, 1) := by decide +kernel
theorem d24_14 : decode jdk_68_method_68_code 14 = .ok (.goto 4, 3) := by decide +kernel
theorem d24_18 : decode jdk_68_method_68_code 18 = .ok (.ireturn, 1) := by decide +kernel
theorem d25_0 : decode jdk_65_method_132_code 0 = .ok (.iload_n 1, 1) := by decide +kernel
theorem d25_1 : decode jdk_65_method_132_code 1 = .ok (.ifCond .ne 9, 3) := by decide +kernel
theorem d25_4 : decode jdk_65_method_132_code 4 = .ok (.iload_n 2, 1) := by decide +kernel
theorem d25_5 : decode jdk_65_method_132_code 5 = .ok (.aload_n 0, 1) := by decide +kernel
theorem d25_6 : decode jdk_65_method_132_code 6 = .ok (.arraylength, 1) := by decide +kernel
theorem d25_7 : decode jdk_65_method_132_code 7 = .ok (.if_icmp .eq 10, 3) := by decide +kernel
theorem d25_10 : decode jdk_65_method_132_code 10 = .ok (.aload_n 0, 1) := by decide +kernel
theorem d25_11 : decode jdk_65_method_132_code 11 = .ok (.iload_n 1, 1) := by decide +kernel
theorem d25_12 : decode jdk_65_method_132_code 12 = .ok (.iload_n 2, 1) := by decide +kernel
theorem d25_13 : decode jdk_65_method_132_code 13 = .ok (.invokestatic 339, 3) := by decide +kernel
theorem d25_16 : decode jdk_65_method_132_code 16 = .ok (.areturn, 1) := by decide +kernel
theorem d26_0 : decode jdk_65_method_133_code 0 = .ok (.iload_n 1, 1) := by decide +kernel
theorem d26_1 : decode jdk_65_method_133_code 1 = .ok (.iload_n 2, 1) := by decide +kernel
theorem d26_2 : decode jdk_65_method_133_code 2 = .ok (.invokestatic 343, 3) := by decide +kernel
theorem d26_5 : decode jdk_65_method_133_code 5 = .ok (.iload_n 2, 1) := by decide +kernel
theorem d26_6 : decode jdk_65_method_133_code 6 = .ok (.iload_n 1, 1) := by decide +kernel
theorem d26_7 : decode jdk_65_method_133_code 7 = .ok (.isub, 1) := by decide +kernel
theorem d26_8 : decode jdk_65_method_133_code 8 = .ok (.istore_n 3, 1) := by decide +kernel
theorem d26_9 : decode jdk_65_method_133_code 9 = .ok (.iload_n 3, 1) := by decide +kernel
theorem d26_10 : decode jdk_65_method_133_code 10 = .ok (.newarray .byte, 2) := by decide +kernel
theorem d26_12 : decode jdk_65_method_133_code 12 = .ok (.astore 4, 2) := by decide +kernel
theorem d26_14 : decode jdk_65_method_133_code 14 = .ok (.aload_n 0, 1) := by decide +kernel
theorem d26_15 : decode jdk_65_method_133_code 15 = .ok (.iload_n 1, 1) := by decide +kernel
theorem d26_16 : decode jdk_65_method_133_code 16 = .ok (.aload 4, 2) := by decide +kernel
theorem d26_18 : decode jdk_65_method_133_code 18 = .ok (.iconst 0, 1) := by decide +kernel
theorem d26_19 : decode jdk_65_method_133_code 19 = .ok (.aload_n 0, 1) := by decide +kernel
theorem d26_20 : decode jdk_65_method_133_code 20 = .ok (.arraylength, 1) := by decide +kernel
theorem d26_21 : decode jdk_65_method_133_code 21 = .ok (.iload_n 1, 1) := by decide +kernel
theorem d26_22 : decode jdk_65_method_133_code 22 = .ok (.isub, 1) := by decide +kernel
theorem d26_23 : decode jdk_65_method_133_code 23 = .ok (.iload_n 3, 1) := by decide +kernel
theorem d26_24 : decode jdk_65_method_133_code 24 = .ok (.invokestatic 304, 3) := by decide +kernel
theorem d26_27 : decode jdk_65_method_133_code 27 = .ok (.invokestatic 150, 3) := by decide +kernel
theorem d26_30 : decode jdk_65_method_133_code 30 = .ok (.aload 4, 2) := by decide +kernel
theorem d26_32 : decode jdk_65_method_133_code 32 = .ok (.areturn, 1) := by decide +kernel
theorem d27_0 : decode jdk_65_method_131_code 0 = .ok (.iload_n 1, 1) := by decide +kernel
theorem d27_1 : decode jdk_65_method_131_code 1 = .ok (.iload_n 0, 1) := by decide +kernel
theorem d27_2 : decode jdk_65_method_131_code 2 = .ok (.if_icmp .ge 35, 3) := by decide +kernel
theorem d27_37 : decode jdk_65_method_131_code 37 = .ok (.return_, 1) := by decide +kernel
theorem d28_0 : decode jdk_29_method_69_code 0 = .ok (.iload_n 0, 1) := by decide +kernel
theorem d28_1 : decode jdk_29_method_69_code 1 = .ok (.iload_n 1, 1) := by decide +kernel
theorem d28_2 : decode jdk_29_method_69_code 2 = .ok (.if_icmp .gt 7, 3) := by decide +kernel
theorem d28_9 : decode jdk_29_method_69_code 9 = .ok (.iload_n 1, 1) := by decide +kernel
theorem d28_10 : decode jdk_29_method_69_code 10 = .ok (.ireturn, 1) := by decide +kernel
theorem d29_0 : decode prog_35_method_2_code 0 = .ok (.aload_n 0, 1) := by decide +kernel
theorem d29_1 : decode prog_35_method_2_code 1 = .ok (.invokespecial 24, 3) := by decide +kernel
theorem d29_4 : decode prog_35_method_2_code 4 = .ok (.aload_n 0, 1) := by decide +kernel
theorem d29_5 : decode prog_35_method_2_code 5 = .ok (.new 5, 3) := by decide +kernel
theorem d29_8 : decode prog_35_method_2_code 8 = .ok (.dup, 1) := by decide +kernel
theorem d29_9 : decode prog_35_method_2_code 9 = .ok (.invokespecial 7, 3) := by decide +kernel
theorem d29_12 : decode prog_35_method_2_code 12 = .ok (.ldc 27, 2) := by decide +kernel
theorem d29_14 : decode prog_35_method_2_code 14 = .ok (.invokevirtual 11, 3) := by decide +kernel
theorem d29_17 : decode prog_35_method_2_code 17 = .ok (.aload_n 1, 1) := by decide +kernel
theorem d29_18 : decode prog_35_method_2_code 18 = .ok (.invokevirtual 11, 3) := by decide +kernel
theorem d29_21 : decode prog_35_method_2_code 21 = .ok (.invokevirtual 17, 3) := by decide +kernel
theorem d29_24 : decode prog_35_method_2_code 24 = .ok (.putfield 29, 3) := by decide +kernel
theorem d29_27 : decode prog_35_method_2_code 27 = .ok (.aload_n 0, 1) := by decide +kernel
theorem d29_28 : decode prog_35_method_2_code 28 = .ok (.aload_n 2, 1) := by decide +kernel
theorem d29_29 : decode prog_35_method_2_code 29 = .ok (.putfield 33, 3) := by decide +kernel
theorem d29_32 : decode prog_35_method_2_code 32 = .ok (.aload_n 0, 1) := by decide +kernel
theorem d29_33 : decode prog_35_method_2_code 33 = .ok (.aload_n 3, 1) := by decide +kernel
theorem d29_34 : decode prog_35_method_2_code 34 = .ok (.putfield 36, 3) := by decide +kernel
theorem d29_37 : decode prog_35_method_2_code 37 = .ok (.return_, 1) := by decide +kernel
theorem d30_0 : decode prog_35_method_10_code 0 = .ok (.aload_n 0, 1) := by decide +kernel
theorem d30_1 : decode prog_35_method_10_code 1 = .ok (.getfield 36, 3) := by decide +kernel
theorem d30_4 : decode prog_35_method_10_code 4 = .ok (.ifnonnull 33, 3) := by decide +kernel
theorem d30_37 : decode prog_35_method_10_code 37 = .ok (.aload_n 0, 1) := by decide +kernel
theorem d30_38 : decode prog_35_method_10_code 38 = .ok (.getfield 36, 3) := by decide +kernel
theorem d30_41 : decode prog_35_method_10_code 41 = .ok (.areturn, 1) := by decide +kernel
theorem d31_0 : decode jdk_42_method_56_code 0 = .ok (.aload_n 0, 1) := by decide +kernel
theorem d31_1 : decode jdk_42_method_56_code 1 = .ok (.invokevirtual 492, 3) := by decide +kernel
theorem d31_4 : decode jdk_42_method_56_code 4 = .ok (.ifCond .eq 12, 3) := by decide +kernel
theorem d31_7 : decode jdk_42_method_56_code 7 = .ok (.aload_n 0, 1) := by decide +kernel
theorem d31_8 : decode jdk_42_method_56_code 8 = .ok (.getfield 9, 3) := by decide +kernel
theorem d31_11 : decode jdk_42_method_56_code 11 = .ok (.iload_n 1, 1) := by decide +kernel
theorem d31_12 : decode jdk_42_method_56_code 12 = .ok (.invokestatic 495, 3) := by decide +kernel
theorem d31_15 : decode jdk_42_method_56_code 15 = .ok (.ireturn, 1) := by decide +kernel
theorem d32_0 : decode jdk_42_method_154_code 0 = .ok (.getstatic 38, 3) := by decide +kernel
theorem d32_3 : decode jdk_42_method_154_code 3 = .ok (.ifCond .eq 14, 3) := by decide +kernel
theorem d32_6 : decode jdk_42_method_154_code 6 = .ok (.aload_n 0, 1) := by decide +kernel
theorem d32_7 : decode jdk_42_method_154_code 7 = .ok (.getfield 15, 3) := by decide +kernel
theorem d32_10 : decode jdk_42_method_154_code 10 = .ok (.ifCond .ne 7, 3) := by decide +kernel
theorem d32_13 : decode jdk_42_method_154_code 13 = .ok (.iconst 1, 1) := by decide +kernel
theorem d32_14 : decode jdk_42_method_154_code 14 = .ok (.goto 4, 3) := by decide +kernel
theorem d32_18 : decode jdk_42_method_154_code 18 = .ok (.ireturn, 1) := by decide +kernel
theorem d33_0 : decode jdk_43_method_2_code 0 = .ok (.iload_n 1, 1) := by decide +kernel
theorem d33_1 : decode jdk_43_method_2_code 1 = .ok (.aload_n 0, 1) := by decide +kernel
theorem d33_2 : decode jdk_43_method_2_code 2 = .ok (.arraylength, 1) := by decide +kernel
theorem d33_3 : decode jdk_43_method_2_code 3 = .ok (.invokestatic 9, 3) := by decide +kernel
theorem d33_6 : decode jdk_43_method_2_code 6 = .ok (.aload_n 0, 1) := by decide +kernel
theorem d33_7 : decode jdk_43_method_2_code 7 = .ok (.iload_n 1, 1) := by decide +kernel
theorem d33_8 : decode jdk_43_method_2_code 8 = .ok (.baload, 1) := by decide +kernel
theorem d33_9 : decode jdk_43_method_2_code 9 = .ok (.sipush 255, 3) := by decide +kernel
theorem d33_12 : decode jdk_43_method_2_code 12 = .ok (.iand, 1) := by decide +kernel
theorem d33_13 : decode jdk_43_method_2_code 13 = .ok (.i2c, 1) := by decide +kernel
theorem d33_14 : decode jdk_43_method_2_code 14 = .ok (.ireturn, 1) := by decide +kernel
theorem d34_0 : decode jdk_42_method_155_code 0 = .ok (.iload_n 0, 1) := by decide +kernel
theorem d34_1 : decode jdk_42_method_155_code 1 = .ok (.iload_n 1, 1) := by decide +kernel
theorem d34_2 : decode jdk_42_method_155_code 2 = .ok (.getstatic 1053, 3) := by decide +kernel
theorem d34_5 : decode jdk_42_method_155_code 5 = .ok (.invokestatic 1059, 3) := by decide +kernel
theorem d34_8 : decode jdk_42_method_155_code 8 = .ok (.pop, 1) := by decide +kernel
theorem d34_9 : decode jdk_42_method_155_code 9 = .ok (.return_, 1) := by decide +kernel
theorem d35_0 : decode jdk_41_method_11_code 0 = .ok (.iload_n 0, 1) := by decide +kernel
theorem d35_1 : decode jdk_41_method_11_code 1 = .ok (.ifCond .lt 8, 3) := by decide +kernel
theorem d35_4 : decode jdk_41_method_11_code 4 = .ok (.iload_n 0, 1) := by decide +kernel
theorem d35_5 : decode jdk_41_method_11_code 5 = .ok (.iload_n 1, 1) := by decide +kernel
theorem d35_6 : decode jdk_41_method_11_code 6 = .ok (.if_icmp .lt 10, 3) := by decide +kernel
theorem d35_16 : decode jdk_41_method_11_code 16 = .ok (.iload_n 0, 1) := by decide +kernel
theorem d35_17 : decode jdk_41_method_11_code 17 = .ok (.ireturn, 1) := by decide +kernel
theorem d36_0 : decode jdk_42_method_66_code 0 = .ok (.aload_n 0, 1) := by decide +kernel
theorem d36_1 : decode jdk_42_method_66_code 1 = .ok (.aload_n 1, 1) := by decide +kernel
theorem d36_2 : decode jdk_42_method_66_code 2 = .ok (.if_acmp .ne 5, 3) := by decide +kernel
theorem d36_5 : decode jdk_42_method_66_code 5 = .ok (.iconst 1, 1) := by decide +kernel
theorem d36_6 : decode jdk_42_method_66_code 6 = .ok (.ireturn, 1) := by decide +kernel
theorem pd_0 : parseMethodDescriptor "()B" = some ⟨[], some .byte⟩ := by decide +kernel
theorem pd_1 : parseMethodDescriptor "(IILjava/util/function/BiFunction;)I" = some ⟨[.int, .int, (.object "java/util/function/BiFunction")], some .int⟩ := by decide +kernel
theorem pd_2 : parseMethodDescriptor "(II)V" = some ⟨[.int, .int], none⟩ := by decide +kernel
theorem pd_3 : parseMethodDescriptor "()Z" = some ⟨[], some .boolean⟩ := by decide +kernel
theorem pd_4 : parseMethodDescriptor "([BI)C" = some ⟨[(.array .byte), .int], some .char⟩ := by decide +kernel
theorem pd_5 : parseMethodDescriptor "(I)V" = some ⟨[.int], none⟩ := by decide +kernel
theorem pd_6 : parseMethodDescriptor "(Ljava/lang/String;)V" = some ⟨[(.object "java/lang/String")], none⟩ := by decide +kernel
theorem pd_7 : parseMethodDescriptor "([BIB)V" = some ⟨[(.array .byte), .int, .byte], none⟩ := by decide +kernel
theorem pd_8 : parseMethodDescriptor "()I" = some ⟨[], some .int⟩ := by decide +kernel
theorem pd_9 : parseMethodDescriptor "(ILjava/lang/String;)V" = some ⟨[.int, (.object "java/lang/String")], none⟩ := by decide +kernel
theorem pd_10 : parseMethodDescriptor "(Ljava/lang/String;)Ljava/lang/AbstractStringBuilder;" = some ⟨[(.object "java/lang/String")], some (.object "java/lang/AbstractStringBuilder")⟩ := by decide +kernel
theorem pd_11 : parseMethodDescriptor "(II)I" = some ⟨[.int, .int], some .int⟩ := by decide +kernel
theorem pd_12 : parseMethodDescriptor "([BII)[B" = some ⟨[(.array .byte), .int, .int], some (.array .byte)⟩ := by decide +kernel
theorem pd_13 : parseMethodDescriptor "()[B" = some ⟨[], some (.array .byte)⟩ := by decide +kernel
theorem pd_14 : parseMethodDescriptor "(Ljava/lang/AbstractStringBuilder;Ljava/lang/Void;)V" = some ⟨[(.object "java/lang/AbstractStringBuilder"), (.object "java/lang/Void")], none⟩ := by decide +kernel
theorem pd_15 : parseMethodDescriptor "(Ljava/lang/StringBuilder;)V" = some ⟨[(.object "java/lang/StringBuilder")], none⟩ := by decide +kernel
theorem pd_16 : parseMethodDescriptor "()V" = some ⟨[], none⟩ := by decide +kernel
theorem pd_17 : parseMethodDescriptor "(Ljava/lang/String;)Ljava/lang/StringBuilder;" = some ⟨[(.object "java/lang/String")], some (.object "java/lang/StringBuilder")⟩ := by decide +kernel
theorem pd_18 : parseMethodDescriptor "()Ljava/lang/String;" = some ⟨[], some (.object "java/lang/String")⟩ := by decide +kernel
theorem pd_19 : parseMethodDescriptor "(Ljava/lang/String;Ljava/lang/String;Ljava/lang/String;)V" = some ⟨[(.object "java/lang/String"), (.object "java/lang/String"), (.object "java/lang/String")], none⟩ := by decide +kernel
theorem pd_20 : parseMethodDescriptor "([C)V" = some ⟨[(.array .char)], none⟩ := by decide +kernel
theorem pd_21 : parseMethodDescriptor "(Ljava/lang/Object;)Z" = some ⟨[(.object "java/lang/Object")], some .boolean⟩ := by decide +kernel
theorem pd_22 : parseMethodDescriptor "(Ljava/lang/String;Ljava/lang/String;)V" = some ⟨[(.object "java/lang/String"), (.object "java/lang/String")], none⟩ := by decide +kernel
theorem pd_23 : parseMethodDescriptor "(I)C" = some ⟨[.int], some .char⟩ := by decide +kernel
theorem pn_13 : plainName "java/lang/String" = true := by first | (simp [plainName, overriddenIn]; done) | decide +kernel
theorem pn_35 : plainName "jdk/internal/util/Preconditions" = true := by first | (simp [plainName, overriddenIn]; done) | decide +kernel
theorem pn_33 : plainName "java/lang/StringLatin1" = true := by first | (simp [plainName, overriddenIn]; done) | decide +kernel
theorem pn_9 : plainName "java/lang/AbstractStringBuilder" = true := by first | (simp [plainName, overriddenIn]; done) | decide +kernel
theorem pn_8 : plainName "java/lang/StringBuilder" = true := by first | (simp [plainName, overriddenIn]; done) | decide +kernel
theorem pn_27 : plainName "java/util/Arrays" = true := by first | (simp [plainName, overriddenIn]; done) | decide +kernel
theorem pf_28 : plainFor (⟨"java/lang/Math", "min", "(II)I"⟩ : MethodName) = true := by decide +kernel
theorem pn_29 : plainName "com/example/thorough_factfind/thoroughfactfind/foundation/section/RecordPath" = true := by first | (simp [plainName, overriddenIn]; done) | decide +kernel
theorem pn_0 : plainName "com/example/thorough_factfind/thoroughfactfind/foundation/section/RecordPathParameterPinLaw" = true := by first | (simp [plainName, overriddenIn]; done) | decide +kernel
theorem ef_coder (m : MethodId) (x0 : Addr) : entryFrame m #[(.ref x0)] 1 = mkF m 0 #[.val (.ref x0)] [] := by first | (simp [entryFrame, mkF, argsToLocals, Value.category]; done) | rfl
theorem ef_length (m : MethodId) (x0 : Addr) : entryFrame m #[(.ref x0)] 1 = mkF m 0 #[.val (.ref x0)] [] := by first | (simp [entryFrame, mkF, argsToLocals, Value.category]; done) | rfl
theorem ef_pcheck (m : MethodId) (x0 : Int32) (x1 : Int32) (x2 : Value) (hx2 : x2.category = 1) : entryFrame m #[(.int x0), (.int x1), x2] 3 = mkF m 0 #[.val (.int x0), .val (.int x1), .val x2] [] := by cases x2 <;> first | (simp [Value.category] at hx2; done) | (first | (simp [entryFrame, mkF, argsToLocals, Value.category]; done) | rfl)
theorem ef_scheck (m : MethodId) (x0 : Int32) (x1 : Int32) : entryFrame m #[(.int x0), (.int x1)] 2 = mkF m 0 #[.val (.int x0), .val (.int x1)] [] := by first | (simp [entryFrame, mkF, argsToLocals, Value.category]; done) | rfl
theorem ef_isLatin1 (m : MethodId) (x0 : Addr) : entryFrame m #[(.ref x0)] 1 = mkF m 0 #[.val (.ref x0)] [] := by first | (simp [entryFrame, mkF, argsToLocals, Value.category]; done) | rfl
theorem ef_lcharAt (m : MethodId) (x0 : Addr) (x1 : Int32) : entryFrame m #[(.ref x0), (.int x1)] 2 = mkF m 0 #[.val (.ref x0), .val (.int x1)] [] := by first | (simp [entryFrame, mkF, argsToLocals, Value.category]; done) | rfl
theorem ef_charAt (m : MethodId) (x0 : Addr) (x1 : Int32) : entryFrame m #[(.ref x0), (.int x1)] 2 = mkF m 0 #[.val (.ref x0), .val (.int x1)] [] := by first | (simp [entryFrame, mkF, argsToLocals, Value.category]; done) | rfl
theorem ef_abI (m : MethodId) (x0 : Addr) (x1 : Int32) : entryFrame m #[(.ref x0), (.int x1)] 2 = mkF m 0 #[.val (.ref x0), .val (.int x1)] [] := by first | (simp [entryFrame, mkF, argsToLocals, Value.category]; done) | rfl
theorem ef_sbI (m : MethodId) (x0 : Addr) : entryFrame m #[(.ref x0)] 1 = mkF m 0 #[.val (.ref x0)] [] := by first | (simp [entryFrame, mkF, argsToLocals, Value.category]; done) | rfl
theorem ef_ensC (m : MethodId) (x0 : Addr) (x1 : Int32) : entryFrame m #[(.ref x0), (.int x1)] 3 = mkF m 0 #[.val (.ref x0), .val (.int x1), .unset] [] := by first | (simp [entryFrame, mkF, argsToLocals, Value.category]; done) | rfl
theorem ef_infl (m : MethodId) (x0 : Addr) (x1 : Addr) : entryFrame m #[(.ref x0), (.ref x1)] 2 = mkF m 0 #[.val (.ref x0), .val (.ref x1)] [] := by first | (simp [entryFrame, mkF, argsToLocals, Value.category]; done) | rfl
theorem ef_getB (m : MethodId) (x0 : Addr) (x1 : Addr) (x2 : Int32) (x3 : Int32) : entryFrame m #[(.ref x0), (.ref x1), (.int x2), (.int x3)] 4 = mkF m 0 #[.val (.ref x0), .val (.ref x1), .val (.int x2), .val (.int x3)] [] := by first | (simp [entryFrame, mkF, argsToLocals, Value.category]; done) | rfl
theorem ef_putS (m : MethodId) (x0 : Addr) (x1 : Int32) (x2 : Addr) : entryFrame m #[(.ref x0), (.int x1), (.ref x2)] 3 = mkF m 0 #[.val (.ref x0), .val (.int x1), .val (.ref x2)] [] := by first | (simp [entryFrame, mkF, argsToLocals, Value.category]; done) | rfl
theorem ef_abA (m : MethodId) (x0 : Addr) (x1 : Addr) : entryFrame m #[(.ref x0), (.ref x1)] 3 = mkF m 0 #[.val (.ref x0), .val (.ref x1), .unset] [] := by first | (simp [entryFrame, mkF, argsToLocals, Value.category]; done) | rfl
theorem ef_sbA (m : MethodId) (x0 : Addr) (x1 : Addr) : entryFrame m #[(.ref x0), (.ref x1)] 2 = mkF m 0 #[.val (.ref x0), .val (.ref x1)] [] := by first | (simp [entryFrame, mkF, argsToLocals, Value.category]; done) | rfl
theorem ef_chkL (m : MethodId) (x0 : Int32) (x1 : Int32) : entryFrame m #[(.int x0), (.int x1)] 2 = mkF m 0 #[.val (.int x0), .val (.int x1)] [] := by first | (simp [entryFrame, mkF, argsToLocals, Value.category]; done) | rfl
theorem ef_min (m : MethodId) (x0 : Int32) (x1 : Int32) : entryFrame m #[(.int x0), (.int x1)] 2 = mkF m 0 #[.val (.int x0), .val (.int x1)] [] := by first | (simp [entryFrame, mkF, argsToLocals, Value.category]; done) | rfl
theorem ef_getV (m : MethodId) (x0 : Addr) : entryFrame m #[(.ref x0)] 1 = mkF m 0 #[.val (.ref x0)] [] := by first | (simp [entryFrame, mkF, argsToLocals, Value.category]; done) | rfl
theorem ef_abL (m : MethodId) (x0 : Addr) : entryFrame m #[(.ref x0)] 1 = mkF m 0 #[.val (.ref x0)] [] := by first | (simp [entryFrame, mkF, argsToLocals, Value.category]; done) | rfl
theorem ef_sbL (m : MethodId) (x0 : Addr) : entryFrame m #[(.ref x0)] 1 = mkF m 0 #[.val (.ref x0)] [] := by first | (simp [entryFrame, mkF, argsToLocals, Value.category]; done) | rfl
theorem ef_abZ (m : MethodId) (x0 : Addr) : entryFrame m #[(.ref x0)] 1 = mkF m 0 #[.val (.ref x0)] [] := by first | (simp [entryFrame, mkF, argsToLocals, Value.category]; done) | rfl
theorem ef_corB3 (m : MethodId) (x0 : Addr) (x1 : Int32) (x2 : Int32) : entryFrame m #[(.ref x0), (.int x1), (.int x2)] 5 = mkF m 0 #[.val (.ref x0), .val (.int x1), .val (.int x2), .unset, .unset] [] := by first | (simp [entryFrame, mkF, argsToLocals, Value.category]; done) | rfl
theorem ef_cor3 (m : MethodId) (x0 : Addr) (x1 : Int32) (x2 : Int32) : entryFrame m #[(.ref x0), (.int x1), (.int x2)] 3 = mkF m 0 #[.val (.ref x0), .val (.int x1), .val (.int x2)] [] := by first | (simp [entryFrame, mkF, argsToLocals, Value.category]; done) | rfl
theorem ef_strV3 (m : MethodId) (x0 : Addr) (x1 : Addr) : entryFrame m #[(.ref x0), (.ref x1), .null] 5 = mkF m 0 #[.val (.ref x0), .val (.ref x1), .val .null, .unset, .unset] [] := by first | (simp [entryFrame, mkF, argsToLocals, Value.category]; done) | rfl
theorem ef_strB3 (m : MethodId) (x0 : Addr) (x1 : Addr) : entryFrame m #[(.ref x0), (.ref x1)] 2 = mkF m 0 #[.val (.ref x0), .val (.ref x1)] [] := by first | (simp [entryFrame, mkF, argsToLocals, Value.category]; done) | rfl
theorem ef_toS3 (m : MethodId) (x0 : Addr) : entryFrame m #[(.ref x0)] 1 = mkF m 0 #[.val (.ref x0)] [] := by first | (simp [entryFrame, mkF, argsToLocals, Value.category]; done) | rfl
theorem ef_corB4 (m : MethodId) (x0 : Addr) (x1 : Int32) (x2 : Int32) : entryFrame m #[(.ref x0), (.int x1), (.int x2)] 5 = mkF m 0 #[.val (.ref x0), .val (.int x1), .val (.int x2), .unset, .unset] [] := by first | (simp [entryFrame, mkF, argsToLocals, Value.category]; done) | rfl
theorem ef_cor4 (m : MethodId) (x0 : Addr) (x1 : Int32) (x2 : Int32) : entryFrame m #[(.ref x0), (.int x1), (.int x2)] 3 = mkF m 0 #[.val (.ref x0), .val (.int x1), .val (.int x2)] [] := by first | (simp [entryFrame, mkF, argsToLocals, Value.category]; done) | rfl
theorem ef_strV4 (m : MethodId) (x0 : Addr) (x1 : Addr) : entryFrame m #[(.ref x0), (.ref x1), .null] 5 = mkF m 0 #[.val (.ref x0), .val (.ref x1), .val .null, .unset, .unset] [] := by first | (simp [entryFrame, mkF, argsToLocals, Value.category]; done) | rfl
theorem ef_strB4 (m : MethodId) (x0 : Addr) (x1 : Addr) : entryFrame m #[(.ref x0), (.ref x1)] 2 = mkF m 0 #[.val (.ref x0), .val (.ref x1)] [] := by first | (simp [entryFrame, mkF, argsToLocals, Value.category]; done) | rfl
theorem ef_toS4 (m : MethodId) (x0 : Addr) : entryFrame m #[(.ref x0)] 1 = mkF m 0 #[.val (.ref x0)] [] := by first | (simp [entryFrame, mkF, argsToLocals, Value.category]; done) | rfl
theorem ef_rp3 (m : MethodId) (x0 : Addr) (x1 : Addr) (x2 : Addr) (x3 : Addr) : entryFrame m #[(.ref x0), (.ref x1), (.ref x2), (.ref x3)] 4 = mkF m 0 #[.val (.ref x0), .val (.ref x1), .val (.ref x2), .val (.ref x3)] [] := by first | (simp [entryFrame, mkF, argsToLocals, Value.category]; done) | rfl
theorem ef_rp2 (m : MethodId) (x0 : Addr) (x1 : Addr) (x2 : Addr) : entryFrame m #[(.ref x0), (.ref x1), (.ref x2)] 3 = mkF m 0 #[.val (.ref x0), .val (.ref x1), .val (.ref x2)] [] := by first | (simp [entryFrame, mkF, argsToLocals, Value.category]; done) | rfl
theorem ef_par (m : MethodId) (x0 : Addr) : entryFrame m #[(.ref x0)] 1 = mkF m 0 #[.val (.ref x0)] [] := by first | (simp [entryFrame, mkF, argsToLocals, Value.category]; done) | rfl
theorem ef_eq (m : MethodId) (x0 : Addr) (x1 : Addr) : entryFrame m #[(.ref x0), (.ref x1)] 3 = mkF m 0 #[.val (.ref x0), .val (.ref x1), .unset] [] := by first | (simp [entryFrame, mkF, argsToLocals, Value.category]; done) | rfl
theorem ef_0 (m : MethodId) (x0 : Int32) (x1 : Int32) (x2 : Int32) (x3 : Int32) : entryFrame m #[(.int x0), (.int x1), (.int x2), (.int x3)] maxLocals = mkF m 0 #[.val (.int x0), .val (.int x1), .val (.int x2), .val (.int x3), .unset, .unset, .unset, .unset, .unset, .unset, .unset, .unset, .unset] [] := by first | (simp [entryFrame, mkF, argsToLocals, Value.category, maxLocals]; done) | rfl
def Qcoder (Z : State) (a : Addr) (zc : Int32) (h0 : Heap) (n0 : Nat) (v : Option Value) (h : Heap) (L : List Loc) : Prop := v = some (.int (0 : Int32)) ∧ Fr n0 L ∧ h = h0
set_option maxRecDepth 65536 in
set_option maxHeartbeats 40000000 in
theorem rmcoder (l : Launch) (Z : State) (a0 : Array Value) (hw : ∀ d ∈ tables_1, d.before a0 Z = true) (ws : List Jvm.Cond) (a : Addr) (zc : Int32) (h0 : Heap) (n0 : Nat) (Z0 : n0 ≤ h0.size) (O_ : Old Z n0 h0) (S_CS : Sta Z Z.heap "java/lang/String" "COMPACT_STRINGS" "Z" (.int zc)) (P_CS : ¬ zc = (0 : Int32)) (Fc : Fld Z h0 a "java/lang/String" "coder" "B" (.int (0 : Int32))) :
    MetFree l (⟨"java/lang/String", "coder", "()B"⟩ : MethodName) (head1 (Jvm.Cond.code (⟨"java/lang/String", "coder", "()B"⟩ : MethodName) jdk_42_method_152_code 1 (some .byte) :: ws) ({ frames := 0, cells := 0, slots := 0, locals := 0 } : Room)) (fun as_ UU => as_ = #[(.ref a)] ∧ Z.Warmed39 UU.vm ∧ UU.heap = h0) (fun _ _ _ _ _ => True) (fun _ UU oo UU' => ∃ vv LL, oo = .returned vv ∧ (Qcoder Z a zc h0 n0) vv UU'.heap LL ∧ FrameEnd UU oo UU' LL ({ frames := 0, cells := 0, slots := 0, locals := 0 } : Room).cells ({ frames := 0, cells := 0, slots := 0, locals := 0 } : Room).slots) := by
  refine own_met (plainFor_of_name pn_13) ?_
  intro p e s m below meth c s₁ X0 hx hby hml hret hlk hown hnm hZ e0
  have N0 := Fr.nil n0
  have Z_ := Z0
  refine OwnGo.cast (ef_coder m a) ?_
  show OwnGo p e below s _ _ _ s₁ (mkF m 0 #[.val (.ref a)] [])
  obtain ⟨T1, X1, e1, st1⟩ := getS2 X0 hx hZ hown (host := "") (Or.inl (hw _ (List.mem_of_getElem? (i := 14) rfl))) Via.refl e0 (S_CS.ext O_.2) (g := (mkF m 0 #[.val (.ref a)] [])) rfl (hb hby d13_0)
  refine OwnGo.st st1 ?_
  show OwnGo p e below s _ _ _ T1 (mkF m 3 #[.val (.ref a)] [(.int zc)])
  refine OwnGo.st (fun _ kk => XS.ifNo X1.here hx rfl (hb hby d13_3) rfl ((if0 _ _).trans (feq (P_CS : ¬ (zc = (0 : Int32)))).1) kk) ?_
  show OwnGo p e below s _ _ _ T1 (mkF m 6 #[.val (.ref a)] [])
  refine OwnGo.st (fun _ kk => XS.aloadN X1.here hx rfl (hb hby d13_6) rfl rfl  kk) ?_
  show OwnGo p e below s _ _ _ T1 (mkF m 7 #[.val (.ref a)] [(.ref a)])
  obtain ⟨T2, X2, e2, st2⟩ := getF X1 hx hZ hown (host := "") (Or.inl (hw _ (List.mem_of_getElem? (i := 26) rfl))) Via.refl e1 Fc (g := (mkF m 7 #[.val (.ref a)] [(.ref a)])) rfl rfl (hb hby d13_7)
  refine OwnGo.st st2 ?_
  show OwnGo p e below s _ _ _ T2 (mkF m 10 #[.val (.ref a)] [(.int (0 : Int32))])
  refine OwnGo.st (fun _ kk => XS.goto X2.here hx rfl (pc0 := 10) (pc' := 14) rfl (hb hby d13_10) (by decide) (by decide) kk) ?_
  show OwnGo p e below s _ _ _ T2 (mkF m 14 #[.val (.ref a)] [(.int (0 : Int32))])
  exact OwnGo.retN X2 hx (t := .byte) hret hlk (by simp) (hb hby d13_14) (by show Qcoder Z a zc h0 n0 _ T2.heap _; rw [e2]; exact ⟨rfl, N0, rfl⟩) (by decide) (by decide)
def Qlength (Z : State) (a : Addr) (t : Addr) (kc : ClassId) (z : Int32) (vs : List Value) (zc : Int32) (h0 : Heap) (n0 : Nat) (v : Option Value) (h : Heap) (L : List Loc) : Prop := v = some (.int z) ∧ Fr n0 L ∧ h = h0
set_option maxRecDepth 65536 in
set_option maxHeartbeats 40000000 in
theorem rmlength (l : Launch) (Z : State) (a0 : Array Value) (hw : ∀ d ∈ tables_1, d.before a0 Z = true) (ws : List Jvm.Cond) (a : Addr) (t : Addr) (kc : ClassId) (z : Int32) (vs : List Value) (zc : Int32) (h0 : Heap) (n0 : Nat) (Z0 : n0 ≤ h0.size) (O_ : Old Z n0 h0) (S_CS : Sta Z Z.heap "java/lang/String" "COMPACT_STRINGS" "Z" (.int zc)) (P_CS : ¬ zc = (0 : Int32)) (E_a : Exa Z h0 a "java/lang/String") (Fc : Fld Z h0 a "java/lang/String" "coder" "B" (.int (0 : Int32))) (Fv : Fld Z h0 a "java/lang/String" "value" "[B" (.ref t)) (V : Arv Z h0 t kc .byte z vs (.int (0 : Int32))) :
    MetFree l (⟨"java/lang/String", "length", "()I"⟩ : MethodName) (head1 (Jvm.Cond.code (⟨"java/lang/String", "length", "()I"⟩ : MethodName) jdk_42_method_54_code 1 (some .int) :: ws) ({ frames := 1, cells := 0, slots := 0, locals := 13 } : Room)) (fun as_ UU => as_ = #[(.ref a)] ∧ Z.Warmed39 UU.vm ∧ UU.heap = h0) (fun _ _ _ _ _ => True) (fun _ UU oo UU' => ∃ vv LL, oo = .returned vv ∧ (Qlength Z a t kc z vs zc h0 n0) vv UU'.heap LL ∧ FrameEnd UU oo UU' LL ({ frames := 1, cells := 0, slots := 0, locals := 13 } : Room).cells ({ frames := 1, cells := 0, slots := 0, locals := 13 } : Room).slots) := by
  refine own_met (plainFor_of_name pn_13) ?_
  intro p e s m below meth c s₁ X0 hx hby hml hret hlk hown hnm hZ e0
  have N0 := Fr.nil n0
  have Z_ := Z0
  refine OwnGo.cast (ef_length m a) ?_
  show OwnGo p e below s _ _ _ s₁ (mkF m 0 #[.val (.ref a)] [])
  refine OwnGo.st (fun _ kk => XS.aloadN X0.here hx rfl (hb hby d12_0) rfl rfl  kk) ?_
  show OwnGo p e below s _ _ _ s₁ (mkF m 1 #[.val (.ref a)] [(.ref a)])
  obtain ⟨T3, X3, e3, st3⟩ := getF X0 hx hZ hown (host := "") (Or.inl (hw _ (List.mem_of_getElem? (i := 28) rfl))) Via.refl e0 Fv (g := (mkF m 1 #[.val (.ref a)] [(.ref a)])) rfl rfl (hb hby d12_1)
  refine OwnGo.st st3 ?_
  show OwnGo p e below s _ _ _ T3 (mkF m 4 #[.val (.ref a)] [(.ref t)])
  obtain ⟨cl4, Ar4, -, S4, N4, -, -⟩ := id V
  refine OwnGo.st (fun _ kk => own_len hZ (len_of S4 N4) Ar4 X3 e3 hx (g := (mkF m 4 #[.val (.ref a)] [(.ref t)])) rfl rfl (hb hby d12_4) _ kk) ?_
  show OwnGo p e below s _ _ _ T3 (mkF m 5 #[.val (.ref a)] [(.int z)])
  refine OwnGo.st (fun _ kk => XS.aloadN X3.here hx rfl (hb hby d12_5) rfl rfl  kk) ?_
  show OwnGo p e below s _ _ _ T3 (mkF m 6 #[.val (.ref a)] [(.ref a), (.int z)])
  obtain ⟨cq5, kq5, q5a, q5b, q5c⟩ := isOf hZ e3 E_a
  obtain ⟨_, _, ⟨T5, L5, k5, n5⟩, -, X5, ⟨Lc5, hQ5, l5, y5, z5⟩, st5⟩ := X3.virtualBack hx (y := (⟨"java/lang/String", "coder", "()B"⟩ : MethodName)) (z := (⟨"java/lang/String", "coder", "()B"⟩ : MethodName)) hown (mvT hZ (hw _ (List.mem_of_getElem? (i := 69) rfl))) (mvT hZ (hw _ (List.mem_of_getElem? (i := 70) rfl))) (notFace_of_selects (args := #[]) (mvT hZ (hw _ (List.mem_of_getElem? (i := 72) rfl)))) (mvT hZ (hw _ (List.mem_of_getElem? (i := 72) rfl))) (mvT hZ (hw _ (List.mem_of_getElem? (i := 71) rfl))) (by decide) (backOf (W := 1) (rmcoder l Z a0 hw [] a zc h0 n0 Z_ O_ S_CS P_CS Fc) hZ (hw _ (List.mem_of_getElem? (i := 73) rfl)) (hw _ (List.mem_of_getElem? (i := 3) rfl)) (by decide) (by decide)) q5a q5c (g := (mkF m 6 #[.val (.ref a)] [(.ref a), (.int z)])) rfl (by rw [hml]; rfl) (Steps.refl _) (argsL := []) (rest := [(.int z)]) (lenOf pd_0 rfl) rfl (by show 2 * 0 + _ ≤ _; exact Nat.le_of_eq rfl) (hb hby d12_6) (fun _ _ => ⟨rfl, e3, (by decide : 0 + 0 ≤ _), (by decide : 0 + 0 ≤ _)⟩)
  dsimp only [Pt.U, Pt.locs, Pt.cells, Pt.slots] at X5 l5 y5 z5 st5 hQ5
  subst l5 y5 z5
  obtain ⟨rfl, N5q, e5⟩ := hQ5
  have N5 := Fr.app N0 N5q
  refine OwnGo.st (fun _ kk => st5.trans kk) ?_
  show OwnGo p e below s _ _ _ T5 (mkF m 9 #[.val (.ref a)] [(.int (0 : Int32)), (.int z)])
  refine OwnGo.st (fun _ kk => XS.ishr X5.here hx rfl (hb hby d12_9) rfl kk) ?_
  show OwnGo p e below s _ _ _ T5 (mkF m 10 #[.val (.ref a)] [(.int (z >>> ((0 : Int32) &&& 31)))])
  rw [own_sh0]
  show OwnGo p e below s _ _ _ T5 (mkF m 10 #[.val (.ref a)] [(.int z)])
  exact OwnGo.ret X5 hx hret hlk rfl (Or.inl ⟨rfl, Or.inl rfl, _, rfl⟩) (hb hby d12_10) (by show Qlength Z a t kc z vs zc h0 n0 _ T5.heap _; rw [e5]; exact ⟨rfl, N5, rfl⟩) (by decide) (by decide)
def Qpcheck (Z : State) (i : Int32) (n : Int32) (f : Value) (h0 : Heap) (n0 : Nat) (v : Option Value) (h : Heap) (L : List Loc) : Prop := v = some (.int i) ∧ Fr n0 L ∧ h = h0
set_option maxRecDepth 65536 in
set_option maxHeartbeats 40000000 in
theorem rmpcheck (l : Launch) (Z : State) (a0 : Array Value) (hw : ∀ d ∈ tables_1, d.before a0 Z = true) (ws : List Jvm.Cond) (i : Int32) (n : Int32) (f : Value) (h0 : Heap) (n0 : Nat) (Z0 : n0 ≤ h0.size) (rf_f : f.isRef = true) (hi : ¬ i < (0 : Int32)) (hn : i < n) :
    MetFree l (⟨"jdk/internal/util/Preconditions", "checkIndex", "(IILjava/util/function/BiFunction;)I"⟩ : MethodName) (head1 (Jvm.Cond.code (⟨"jdk/internal/util/Preconditions", "checkIndex", "(IILjava/util/function/BiFunction;)I"⟩ : MethodName) jdk_41_method_11_code 3 (some .int) :: ws) ({ frames := 0, cells := 0, slots := 0, locals := 0 } : Room)) (fun as_ UU => as_ = #[(.int i), (.int n), f] ∧ Z.Warmed39 UU.vm ∧ UU.heap = h0) (fun _ _ _ _ _ => True) (fun _ UU oo UU' => ∃ vv LL, oo = .returned vv ∧ (Qpcheck Z i n f h0 n0) vv UU'.heap LL ∧ FrameEnd UU oo UU' LL ({ frames := 0, cells := 0, slots := 0, locals := 0 } : Room).cells ({ frames := 0, cells := 0, slots := 0, locals := 0 } : Room).slots) := by
  refine own_met (plainFor_of_name pn_35) ?_
  intro p e s m below meth c s₁ X0 hx hby hml hret hlk hown hnm hZ e0
  have N0 := Fr.nil n0
  have Z_ := Z0
  refine OwnGo.cast (ef_pcheck m i n f (own_cat rf_f)) ?_
  show OwnGo p e below s _ _ _ s₁ (mkF m 0 #[.val (.int i), .val (.int n), .val f] [])
  refine OwnGo.st (fun _ kk => XS.iloadN X0.here hx rfl (hb hby d35_0) rfl  kk) ?_
  show OwnGo p e below s _ _ _ s₁ (mkF m 1 #[.val (.int i), .val (.int n), .val f] [(.int i)])
  refine OwnGo.st (fun _ kk => XS.ifNo X0.here hx rfl (hb hby d35_1) rfl ((if0 _ _).trans (flt (hi : ¬ (i < (0 : Int32)))).1) kk) ?_
  show OwnGo p e below s _ _ _ s₁ (mkF m 4 #[.val (.int i), .val (.int n), .val f] [])
  refine OwnGo.st (fun _ kk => XS.iloadN X0.here hx rfl (hb hby d35_4) rfl  kk) ?_
  show OwnGo p e below s _ _ _ s₁ (mkF m 5 #[.val (.int i), .val (.int n), .val f] [(.int i)])
  refine OwnGo.st (fun _ kk => XS.iloadN X0.here hx rfl (hb hby d35_5) rfl  kk) ?_
  show OwnGo p e below s _ _ _ s₁ (mkF m 6 #[.val (.int i), .val (.int n), .val f] [(.int n), (.int i)])
  refine OwnGo.st (fun _ kk => XS.icmpYes X0.here hx rfl (pc0 := 6) (pc' := 16) rfl (hb hby d35_6) rfl (tlt (hn : i < n)).1 (by decide) (by decide) kk) ?_
  show OwnGo p e below s _ _ _ s₁ (mkF m 16 #[.val (.int i), .val (.int n), .val f] [])
  refine OwnGo.st (fun _ kk => XS.iloadN X0.here hx rfl (hb hby d35_16) rfl  kk) ?_
  show OwnGo p e below s _ _ _ s₁ (mkF m 17 #[.val (.int i), .val (.int n), .val f] [(.int i)])
  exact OwnGo.ret X0 hx hret hlk rfl (Or.inl ⟨rfl, Or.inl rfl, _, rfl⟩) (hb hby d35_17) (by show Qpcheck Z i n f h0 n0 _ s₁.heap _; rw [e0]; exact ⟨rfl, N0, rfl⟩) (by decide) (by decide)
def Qscheck (Z : State) (i : Int32) (n : Int32) (fmv : Value) (h0 : Heap) (n0 : Nat) (v : Option Value) (h : Heap) (L : List Loc) : Prop := v = none ∧ Fr n0 L ∧ h = h0
set_option maxRecDepth 65536 in
set_option maxHeartbeats 40000000 in
theorem rmscheck (l : Launch) (Z : State) (a0 : Array Value) (hw : ∀ d ∈ tables_1, d.before a0 Z = true) (ws : List Jvm.Cond) (i : Int32) (n : Int32) (fmv : Value) (h0 : Heap) (n0 : Nat) (Z0 : n0 ≤ h0.size) (O_ : Old Z n0 h0) (S_SF : Sta Z Z.heap "jdk/internal/util/Preconditions" "SIOOBE_FORMATTER" "Ljava/util/function/BiFunction;" fmv) (rf_fmv : fmv.isRef = true) (hi : ¬ i < (0 : Int32)) (hn : i < n) :
    MetFree l (⟨"java/lang/String", "checkIndex", "(II)V"⟩ : MethodName) (head1 (Jvm.Cond.code (⟨"java/lang/String", "checkIndex", "(II)V"⟩ : MethodName) jdk_42_method_155_code 2 none :: ws) ({ frames := 1, cells := 0, slots := 0, locals := 14 } : Room)) (fun as_ UU => as_ = #[(.int i), (.int n)] ∧ Z.Warmed39 UU.vm ∧ UU.heap = h0) (fun _ _ _ _ _ => True) (fun _ UU oo UU' => ∃ vv LL, oo = .returned vv ∧ (Qscheck Z i n fmv h0 n0) vv UU'.heap LL ∧ FrameEnd UU oo UU' LL ({ frames := 1, cells := 0, slots := 0, locals := 14 } : Room).cells ({ frames := 1, cells := 0, slots := 0, locals := 14 } : Room).slots) := by
  refine own_met (plainFor_of_name pn_13) ?_
  intro p e s m below meth c s₁ X0 hx hby hml hret hlk hown hnm hZ e0
  have N0 := Fr.nil n0
  have Z_ := Z0
  refine OwnGo.cast (ef_scheck m i n) ?_
  show OwnGo p e below s _ _ _ s₁ (mkF m 0 #[.val (.int i), .val (.int n)] [])
  refine OwnGo.st (fun _ kk => XS.iloadN X0.here hx rfl (hb hby d34_0) rfl  kk) ?_
  show OwnGo p e below s _ _ _ s₁ (mkF m 1 #[.val (.int i), .val (.int n)] [(.int i)])
  refine OwnGo.st (fun _ kk => XS.iloadN X0.here hx rfl (hb hby d34_1) rfl  kk) ?_
  show OwnGo p e below s _ _ _ s₁ (mkF m 2 #[.val (.int i), .val (.int n)] [(.int n), (.int i)])
  obtain ⟨T6, X6, e6, st6⟩ := getS2 X0 hx hZ hown (host := "") (Or.inl (hw _ (List.mem_of_getElem? (i := 183) rfl))) Via.refl e0 (S_SF.ext O_.2) (g := (mkF m 2 #[.val (.int i), .val (.int n)] [(.int n), (.int i)])) rfl (hb hby d34_2)
  refine OwnGo.st st6 ?_
  show OwnGo p e below s _ _ _ T6 (mkF m 5 #[.val (.int i), .val (.int n)] [fmv, (.int n), (.int i)])
  obtain ⟨_, _, ⟨T7, L7, k7, n7⟩, -, X7, ⟨Lc7, hQ7, l7, y7, z7⟩, st7⟩ := Jvm.LawKit.callS X6 hx (y := (⟨"jdk/internal/util/Preconditions", "checkIndex", "(IILjava/util/function/BiFunction;)I"⟩ : MethodName)) hown (mvT hZ (hw _ (List.mem_of_getElem? (i := 185) rfl))) (mvT hZ (hw _ (List.mem_of_getElem? (i := 186) rfl))) (mvT hZ (hw _ (List.mem_of_getElem? (i := 184) rfl))) (mvT hZ (hw _ (List.mem_of_getElem? (i := 187) rfl))) (by decide) (backOf (W := 0) (rmpcheck l Z a0 hw [] i n fmv h0 n0 Z_ rf_fmv hi hn) hZ (hw _ (List.mem_of_getElem? (i := 187) rfl)) (hw _ (List.mem_of_getElem? (i := 184) rfl)) (by decide) (by decide)) (g := (mkF m 5 #[.val (.int i), .val (.int n)] [fmv, (.int n), (.int i)])) rfl (by rw [hml]; rfl) (argsL := [(.int i), (.int n), fmv]) (rest := []) (lenOf pd_1 rfl) rfl (by show 2 * 0 + _ ≤ _; exact Nat.le_of_eq rfl) (hb hby d34_5) (fun _ _ => ⟨rfl, e6, (by decide : 0 + 0 ≤ _), (by decide : 0 + 0 ≤ _)⟩)
  dsimp only [Pt.U, Pt.locs, Pt.cells, Pt.slots] at X7 l7 y7 z7 st7 hQ7
  subst l7 y7 z7
  obtain ⟨rfl, N7q, e7⟩ := hQ7
  have N7 := Fr.app N0 N7q
  refine OwnGo.st st7 ?_
  show OwnGo p e below s _ _ _ T7 (mkF m 8 #[.val (.int i), .val (.int n)] [(.int i)])
  refine OwnGo.st (fun _ kk => XS.pop X7.here hx rfl (hb hby d34_8) rfl rfl kk) ?_
  show OwnGo p e below s _ _ _ T7 (mkF m 9 #[.val (.int i), .val (.int n)] [])
  exact OwnGo.retV X7 hx hret hlk (hb hby d34_9) (by show Qscheck Z i n fmv h0 n0 _ T7.heap _; rw [e7]; exact ⟨rfl, N7, rfl⟩) (by decide) (by decide)
def QisLatin1 (Z : State) (a : Addr) (zc : Int32) (h0 : Heap) (n0 : Nat) (v : Option Value) (h : Heap) (L : List Loc) : Prop := v = some (.int (1 : Int32)) ∧ Fr n0 L ∧ h = h0
set_option maxRecDepth 65536 in
set_option maxHeartbeats 40000000 in
theorem rmisLatin1 (l : Launch) (Z : State) (a0 : Array Value) (hw : ∀ d ∈ tables_1, d.before a0 Z = true) (ws : List Jvm.Cond) (a : Addr) (zc : Int32) (h0 : Heap) (n0 : Nat) (Z0 : n0 ≤ h0.size) (O_ : Old Z n0 h0) (S_CS : Sta Z Z.heap "java/lang/String" "COMPACT_STRINGS" "Z" (.int zc)) (P_CS : ¬ zc = (0 : Int32)) (Fc : Fld Z h0 a "java/lang/String" "coder" "B" (.int (0 : Int32))) :
    MetFree l (⟨"java/lang/String", "isLatin1", "()Z"⟩ : MethodName) (head1 (Jvm.Cond.code (⟨"java/lang/String", "isLatin1", "()Z"⟩ : MethodName) jdk_42_method_154_code 1 (some .boolean) :: ws) ({ frames := 0, cells := 0, slots := 0, locals := 0 } : Room)) (fun as_ UU => as_ = #[(.ref a)] ∧ Z.Warmed39 UU.vm ∧ UU.heap = h0) (fun _ _ _ _ _ => True) (fun _ UU oo UU' => ∃ vv LL, oo = .returned vv ∧ (QisLatin1 Z a zc h0 n0) vv UU'.heap LL ∧ FrameEnd UU oo UU' LL ({ frames := 0, cells := 0, slots := 0, locals := 0 } : Room).cells ({ frames := 0, cells := 0, slots := 0, locals := 0 } : Room).slots) := by
  refine own_met (plainFor_of_name pn_13) ?_
  intro p e s m below meth c s₁ X0 hx hby hml hret hlk hown hnm hZ e0
  have N0 := Fr.nil n0
  have Z_ := Z0
  refine OwnGo.cast (ef_isLatin1 m a) ?_
  show OwnGo p e below s _ _ _ s₁ (mkF m 0 #[.val (.ref a)] [])
  obtain ⟨T8, X8, e8, st8⟩ := getS2 X0 hx hZ hown (host := "") (Or.inl (hw _ (List.mem_of_getElem? (i := 14) rfl))) Via.refl e0 (S_CS.ext O_.2) (g := (mkF m 0 #[.val (.ref a)] [])) rfl (hb hby d32_0)
  refine OwnGo.st st8 ?_
  show OwnGo p e below s _ _ _ T8 (mkF m 3 #[.val (.ref a)] [(.int zc)])
  refine OwnGo.st (fun _ kk => XS.ifNo X8.here hx rfl (hb hby d32_3) rfl ((if0 _ _).trans (feq (P_CS : ¬ (zc = (0 : Int32)))).1) kk) ?_
  show OwnGo p e below s _ _ _ T8 (mkF m 6 #[.val (.ref a)] [])
  refine OwnGo.st (fun _ kk => XS.aloadN X8.here hx rfl (hb hby d32_6) rfl rfl  kk) ?_
  show OwnGo p e below s _ _ _ T8 (mkF m 7 #[.val (.ref a)] [(.ref a)])
  obtain ⟨T9, X9, e9, st9⟩ := getF X8 hx hZ hown (host := "") (Or.inl (hw _ (List.mem_of_getElem? (i := 26) rfl))) Via.refl e8 Fc (g := (mkF m 7 #[.val (.ref a)] [(.ref a)])) rfl rfl (hb hby d32_7)
  refine OwnGo.st st9 ?_
  show OwnGo p e below s _ _ _ T9 (mkF m 10 #[.val (.ref a)] [(.int (0 : Int32))])
  refine OwnGo.st (fun _ kk => XS.ifNo X9.here hx rfl (hb hby d32_10) rfl ((if0 _ _).trans (teq (rfl : (0 : Int32) = (0 : Int32))).2) kk) ?_
  show OwnGo p e below s _ _ _ T9 (mkF m 13 #[.val (.ref a)] [])
  refine OwnGo.st (fun _ kk => XS.iconst X9.here hx rfl (hb hby d32_13) kk) ?_
  show OwnGo p e below s _ _ _ T9 (mkF m 14 #[.val (.ref a)] [(.int (1 : Int32))])
  refine OwnGo.st (fun _ kk => XS.goto X9.here hx rfl (pc0 := 14) (pc' := 18) rfl (hb hby d32_14) (by decide) (by decide) kk) ?_
  show OwnGo p e below s _ _ _ T9 (mkF m 18 #[.val (.ref a)] [(.int (1 : Int32))])
  exact OwnGo.retN X9 hx (t := .boolean) hret hlk (by simp) (hb hby d32_18) (by show QisLatin1 Z a zc h0 n0 _ T9.heap _; rw [e9]; exact ⟨rfl, N0, rfl⟩) (by decide) (by decide)
def QlcharAt (Z : State) (t : Addr) (kc : ClassId) (z : Int32) (vs : List Value) (i : Int32) (b : Int32) (ch : Int32) (fmv : Value) (h0 : Heap) (n0 : Nat) (v : Option Value) (h : Heap) (L : List Loc) : Prop := v = some (.int ch) ∧ Fr n0 L ∧ h = h0
set_option maxRecDepth 65536 in
set_option maxHeartbeats 40000000 in
theorem rmlcharAt (l : Launch) (Z : State) (a0 : Array Value) (hw : ∀ d ∈ tables_1, d.before a0 Z = true) (ws : List Jvm.Cond) (t : Addr) (kc : ClassId) (z : Int32) (vs : List Value) (i : Int32) (b : Int32) (ch : Int32) (fmv : Value) (h0 : Heap) (n0 : Nat) (Z0 : n0 ≤ h0.size) (O_ : Old Z n0 h0) (S_SF : Sta Z Z.heap "jdk/internal/util/Preconditions" "SIOOBE_FORMATTER" "Ljava/util/function/BiFunction;" fmv) (rf_fmv : fmv.isRef = true) (V : Arv Z h0 t kc .byte z vs (.int (0 : Int32))) (hin : ¬ i < (0 : Int32) ∧ i < z) (hat : vs.getD i.toNatClampNeg (.int (0 : Int32)) = .int b) (hch : (b &&& (255 : Int32)).toUInt32.toUInt16.toUInt32.toInt32 = ch) (hcc : nar .char ch = ch) :
    MetFree l (⟨"java/lang/StringLatin1", "charAt", "([BI)C"⟩ : MethodName) (head1 (Jvm.Cond.code (⟨"java/lang/StringLatin1", "charAt", "([BI)C"⟩ : MethodName) jdk_43_method_2_code 2 (some .char) :: ws) ({ frames := 2, cells := 0, slots := 0, locals := 27 } : Room)) (fun as_ UU => as_ = #[(.ref t), (.int i)] ∧ Z.Warmed39 UU.vm ∧ UU.heap = h0) (fun _ _ _ _ _ => True) (fun _ UU oo UU' => ∃ vv LL, oo = .returned vv ∧ (QlcharAt Z t kc z vs i b ch fmv h0 n0) vv UU'.heap LL ∧ FrameEnd UU oo UU' LL ({ frames := 2, cells := 0, slots := 0, locals := 27 } : Room).cells ({ frames := 2, cells := 0, slots := 0, locals := 27 } : Room).slots) := by
  refine own_met (plainFor_of_name pn_33) ?_
  intro p e s m below meth c s₁ X0 hx hby hml hret hlk hown hnm hZ e0
  have N0 := Fr.nil n0
  have Z_ := Z0
  refine OwnGo.cast (ef_lcharAt m t i) ?_
  show OwnGo p e below s _ _ _ s₁ (mkF m 0 #[.val (.ref t), .val (.int i)] [])
  refine OwnGo.st (fun _ kk => XS.iloadN X0.here hx rfl (hb hby d33_0) rfl  kk) ?_
  show OwnGo p e below s _ _ _ s₁ (mkF m 1 #[.val (.ref t), .val (.int i)] [(.int i)])
  refine OwnGo.st (fun _ kk => XS.aloadN X0.here hx rfl (hb hby d33_1) rfl rfl  kk) ?_
  show OwnGo p e below s _ _ _ s₁ (mkF m 2 #[.val (.ref t), .val (.int i)] [(.ref t), (.int i)])
  obtain ⟨cl10, Ar10, -, S10, N10, -, -⟩ := id V
  refine OwnGo.st (fun _ kk => own_len hZ (len_of S10 N10) Ar10 X0 e0 hx (g := (mkF m 2 #[.val (.ref t), .val (.int i)] [(.ref t), (.int i)])) rfl rfl (hb hby d33_2) _ kk) ?_
  show OwnGo p e below s _ _ _ s₁ (mkF m 3 #[.val (.ref t), .val (.int i)] [(.int z), (.int i)])
  obtain ⟨_, _, ⟨T11, L11, k11, n11⟩, -, X11, ⟨Lc11, hQ11, l11, y11, z11⟩, st11⟩ := Jvm.LawKit.callS X0 hx (y := (⟨"java/lang/String", "checkIndex", "(II)V"⟩ : MethodName)) hown (mvT hZ (hw _ (List.mem_of_getElem? (i := 180) rfl))) (mvT hZ (hw _ (List.mem_of_getElem? (i := 181) rfl))) (mvT hZ (hw _ (List.mem_of_getElem? (i := 3) rfl))) (mvT hZ (hw _ (List.mem_of_getElem? (i := 182) rfl))) (by decide) (backOf (W := 0) (rmscheck l Z a0 hw [] i z fmv h0 n0 Z_ O_ S_SF rf_fmv hin.1 hin.2) hZ (hw _ (List.mem_of_getElem? (i := 182) rfl)) (hw _ (List.mem_of_getElem? (i := 3) rfl)) (by decide) (by decide)) (g := (mkF m 3 #[.val (.ref t), .val (.int i)] [(.int z), (.int i)])) rfl (by rw [hml]; rfl) (argsL := [(.int i), (.int z)]) (rest := []) (lenOf pd_2 rfl) rfl (by show 2 * 0 + _ ≤ _; exact Nat.le_of_eq rfl) (hb hby d33_3) (fun _ _ => ⟨rfl, e0, (by decide : 0 + 0 ≤ _), (by decide : 0 + 0 ≤ _)⟩)
  dsimp only [Pt.U, Pt.locs, Pt.cells, Pt.slots] at X11 l11 y11 z11 st11 hQ11
  subst l11 y11 z11
  obtain ⟨rfl, N11q, e11⟩ := hQ11
  have N11 := Fr.app N0 N11q
  refine OwnGo.st st11 ?_
  show OwnGo p e below s _ _ _ T11 (mkF m 6 #[.val (.ref t), .val (.int i)] [])
  refine OwnGo.st (fun _ kk => XS.aloadN X11.here hx rfl (hb hby d33_6) rfl rfl  kk) ?_
  show OwnGo p e below s _ _ _ T11 (mkF m 7 #[.val (.ref t), .val (.int i)] [(.ref t)])
  refine OwnGo.st (fun _ kk => XS.iloadN X11.here hx rfl (hb hby d33_7) rfl  kk) ?_
  show OwnGo p e below s _ _ _ T11 (mkF m 8 #[.val (.ref t), .val (.int i)] [(.int i), (.ref t)])
  obtain ⟨cl12, Ar12, -, S12, -, H12, -⟩ := id V
  have hin12 : ¬ (i < 0 ∨ cl12.slots.size ≤ (i).toNatClampNeg) := inb_of S12 hin
  refine OwnGo.st (fun _ kk => X11.baloadBytes hx (j := i) (v := (.int b)) (by first | exact Ar12.1 | (rw [e11]; exact Ar12.1)) (State.isArrayOf_alike hZ.alike Ar12.2.1) Ar12.2.2 hin12 (H12.at hin12 hat) (g := (mkF m 8 #[.val (.ref t), .val (.int i)] [(.int i), (.ref t)])) rfl rfl (hb hby d33_8) _ kk) ?_
  show OwnGo p e below s _ _ _ T11 (mkF m 9 #[.val (.ref t), .val (.int i)] [(.int b)])
  refine OwnGo.st (fun _ kk => XS.sipush X11.here hx rfl (hb hby d33_9) kk) ?_
  show OwnGo p e below s _ _ _ T11 (mkF m 12 #[.val (.ref t), .val (.int i)] [(.int (255 : Int32)), (.int b)])
  refine OwnGo.st (fun _ kk => XS.iand X11.here hx rfl (hb hby d33_12) rfl kk) ?_
  show OwnGo p e below s _ _ _ T11 (mkF m 13 #[.val (.ref t), .val (.int i)] [(.int (b &&& (255 : Int32)))])
  refine OwnGo.st (fun _ kk => XS.i2c X11.here hx rfl (hb hby d33_13) rfl kk) ?_
  show OwnGo p e below s _ _ _ T11 (mkF m 14 #[.val (.ref t), .val (.int i)] [(.int ((b &&& (255 : Int32)).toUInt32.toUInt16.toUInt32.toInt32))])
  rw [hch]
  show OwnGo p e below s _ _ _ T11 (mkF m 14 #[.val (.ref t), .val (.int i)] [(.int ch)])
  exact OwnGo.retN X11 hx (t := .char) hret hlk (by simp) (hb hby d33_14) (by show QlcharAt Z t kc z vs i b ch fmv h0 n0 _ T11.heap _; rw [e11]; exact ⟨by rw [hcc], N11, rfl⟩) (by decide) (by decide)
def QcharAt (Z : State) (a : Addr) (t : Addr) (kc : ClassId) (z : Int32) (vs : List Value) (i : Int32) (b : Int32) (ch : Int32) (zc : Int32) (fmv : Value) (h0 : Heap) (n0 : Nat) (v : Option Value) (h : Heap) (L : List Loc) : Prop := v = some (.int ch) ∧ Fr n0 L ∧ h = h0
set_option maxRecDepth 65536 in
set_option maxHeartbeats 40000000 in
theorem rmcharAt (l : Launch) (Z : State) (a0 : Array Value) (hw : ∀ d ∈ tables_1, d.before a0 Z = true) (ws : List Jvm.Cond) (a : Addr) (t : Addr) (kc : ClassId) (z : Int32) (vs : List Value) (i : Int32) (b : Int32) (ch : Int32) (zc : Int32) (fmv : Value) (h0 : Heap) (n0 : Nat) (Z0 : n0 ≤ h0.size) (O_ : Old Z n0 h0) (S_CS : Sta Z Z.heap "java/lang/String" "COMPACT_STRINGS" "Z" (.int zc)) (P_CS : ¬ zc = (0 : Int32)) (S_SF : Sta Z Z.heap "jdk/internal/util/Preconditions" "SIOOBE_FORMATTER" "Ljava/util/function/BiFunction;" fmv) (rf_fmv : fmv.isRef = true) (E_a : Exa Z h0 a "java/lang/String") (Fc : Fld Z h0 a "java/lang/String" "coder" "B" (.int (0 : Int32))) (Fv : Fld Z h0 a "java/lang/String" "value" "[B" (.ref t)) (V : Arv Z h0 t kc .byte z vs (.int (0 : Int32))) (hin : ¬ i < (0 : Int32) ∧ i < z) (hat : vs.getD i.toNatClampNeg (.int (0 : Int32)) = .int b) (hch : (b &&& (255 : Int32)).toUInt32.toUInt16.toUInt32.toInt32 = ch) (hcc : nar .char ch = ch) :
    MetFree l (⟨"java/lang/String", "charAt", "(I)C"⟩ : MethodName) (head1 (Jvm.Cond.code (⟨"java/lang/String", "charAt", "(I)C"⟩ : MethodName) jdk_42_method_56_code 2 (some .char) :: ws) ({ frames := 3, cells := 0, slots := 0, locals := 40 } : Room)) (fun as_ UU => as_ = #[(.ref a), (.int i)] ∧ Z.Warmed39 UU.vm ∧ UU.heap = h0) (fun _ _ _ _ _ => True) (fun _ UU oo UU' => ∃ vv LL, oo = .returned vv ∧ (QcharAt Z a t kc z vs i b ch zc fmv h0 n0) vv UU'.heap LL ∧ FrameEnd UU oo UU' LL ({ frames := 3, cells := 0, slots := 0, locals := 40 } : Room).cells ({ frames := 3, cells := 0, slots := 0, locals := 40 } : Room).slots) := by
  refine own_met (plainFor_of_name pn_13) ?_
  intro p e s m below meth c s₁ X0 hx hby hml hret hlk hown hnm hZ e0
  have N0 := Fr.nil n0
  have Z_ := Z0
  refine OwnGo.cast (ef_charAt m a i) ?_
  show OwnGo p e below s _ _ _ s₁ (mkF m 0 #[.val (.ref a), .val (.int i)] [])
  refine OwnGo.st (fun _ kk => XS.aloadN X0.here hx rfl (hb hby d31_0) rfl rfl  kk) ?_
  show OwnGo p e below s _ _ _ s₁ (mkF m 1 #[.val (.ref a), .val (.int i)] [(.ref a)])
  obtain ⟨cq13, kq13, q13a, q13b, q13c⟩ := isOf hZ e0 E_a
  obtain ⟨_, _, ⟨T13, L13, k13, n13⟩, -, X13, ⟨Lc13, hQ13, l13, y13, z13⟩, st13⟩ := X0.virtualBack hx (y := (⟨"java/lang/String", "isLatin1", "()Z"⟩ : MethodName)) (z := (⟨"java/lang/String", "isLatin1", "()Z"⟩ : MethodName)) hown (mvT hZ (hw _ (List.mem_of_getElem? (i := 171) rfl))) (mvT hZ (hw _ (List.mem_of_getElem? (i := 172) rfl))) (notFace_of_selects (args := #[]) (mvT hZ (hw _ (List.mem_of_getElem? (i := 174) rfl)))) (mvT hZ (hw _ (List.mem_of_getElem? (i := 174) rfl))) (mvT hZ (hw _ (List.mem_of_getElem? (i := 173) rfl))) (by decide) (backOf (W := 0) (rmisLatin1 l Z a0 hw [] a zc h0 n0 Z_ O_ S_CS P_CS Fc) hZ (hw _ (List.mem_of_getElem? (i := 175) rfl)) (hw _ (List.mem_of_getElem? (i := 3) rfl)) (by decide) (by decide)) q13a q13c (g := (mkF m 1 #[.val (.ref a), .val (.int i)] [(.ref a)])) rfl (by rw [hml]; rfl) (Steps.refl _) (argsL := []) (rest := []) (lenOf pd_3 rfl) rfl (by show 2 * 0 + _ ≤ _; exact Nat.le_of_eq rfl) (hb hby d31_1) (fun _ _ => ⟨rfl, e0, (by decide : 0 + 0 ≤ _), (by decide : 0 + 0 ≤ _)⟩)
  dsimp only [Pt.U, Pt.locs, Pt.cells, Pt.slots] at X13 l13 y13 z13 st13 hQ13
  subst l13 y13 z13
  obtain ⟨rfl, N13q, e13⟩ := hQ13
  have N13 := Fr.app N0 N13q
  refine OwnGo.st (fun _ kk => st13.trans kk) ?_
  show OwnGo p e below s _ _ _ T13 (mkF m 4 #[.val (.ref a), .val (.int i)] [(.int (1 : Int32))])
  refine OwnGo.st (fun _ kk => XS.ifNo X13.here hx rfl (hb hby d31_4) rfl ((if0 _ _).trans (feq ((by decide) : ¬ ((1 : Int32) = (0 : Int32)))).1) kk) ?_
  show OwnGo p e below s _ _ _ T13 (mkF m 7 #[.val (.ref a), .val (.int i)] [])
  refine OwnGo.st (fun _ kk => XS.aloadN X13.here hx rfl (hb hby d31_7) rfl rfl  kk) ?_
  show OwnGo p e below s _ _ _ T13 (mkF m 8 #[.val (.ref a), .val (.int i)] [(.ref a)])
  obtain ⟨T14, X14, e14, st14⟩ := getF X13 hx hZ hown (host := "") (Or.inl (hw _ (List.mem_of_getElem? (i := 28) rfl))) Via.refl e13 Fv (g := (mkF m 8 #[.val (.ref a), .val (.int i)] [(.ref a)])) rfl rfl (hb hby d31_8)
  refine OwnGo.st st14 ?_
  show OwnGo p e below s _ _ _ T14 (mkF m 11 #[.val (.ref a), .val (.int i)] [(.ref t)])
  refine OwnGo.st (fun _ kk => XS.iloadN X14.here hx rfl (hb hby d31_11) rfl  kk) ?_
  show OwnGo p e below s _ _ _ T14 (mkF m 12 #[.val (.ref a), .val (.int i)] [(.int i), (.ref t)])
  obtain ⟨_, _, ⟨T15, L15, k15, n15⟩, -, X15, ⟨Lc15, hQ15, l15, y15, z15⟩, st15⟩ := Jvm.LawKit.callS X14 hx (y := (⟨"java/lang/StringLatin1", "charAt", "([BI)C"⟩ : MethodName)) hown (mvT hZ (hw _ (List.mem_of_getElem? (i := 176) rfl))) (mvT hZ (hw _ (List.mem_of_getElem? (i := 177) rfl))) (mvT hZ (hw _ (List.mem_of_getElem? (i := 178) rfl))) (mvT hZ (hw _ (List.mem_of_getElem? (i := 179) rfl))) (by decide) (backOf (W := 0) (rmlcharAt l Z a0 hw [] t kc z vs i b ch fmv h0 n0 Z_ O_ S_SF rf_fmv V hin hat hch hcc) hZ (hw _ (List.mem_of_getElem? (i := 179) rfl)) (hw _ (List.mem_of_getElem? (i := 178) rfl)) (by decide) (by decide)) (g := (mkF m 12 #[.val (.ref a), .val (.int i)] [(.int i), (.ref t)])) rfl (by rw [hml]; rfl) (argsL := [(.ref t), (.int i)]) (rest := []) (lenOf pd_4 rfl) rfl (by show 2 * 0 + _ ≤ _; exact Nat.le_of_eq rfl) (hb hby d31_12) (fun _ _ => ⟨rfl, e14, (by decide : 0 + 0 ≤ _), (by decide : 0 + 0 ≤ _)⟩)
  dsimp only [Pt.U, Pt.locs, Pt.cells, Pt.slots] at X15 l15 y15 z15 st15 hQ15
  subst l15 y15 z15
  obtain ⟨rfl, N15q, e15⟩ := hQ15
  have N15 := Fr.app N13 N15q
  refine OwnGo.st st15 ?_
  show OwnGo p e below s _ _ _ T15 (mkF m 15 #[.val (.ref a), .val (.int i)] [(.int ch)])
  exact OwnGo.retN X15 hx (t := .char) hret hlk (by simp) (hb hby d31_15) (by show QcharAt Z a t kc z vs i b ch zc fmv h0 n0 _ T15.heap _; rw [e15]; exact ⟨by rw [hcc], N15, rfl⟩) (by decide) (by decide)
def QabI (Z : State) (o : Addr) (zc : Int32) (h0 : Heap) (n0 : Nat) (v : Option Value) (h : Heap) (L : List Loc) : Prop := v = none ∧ Fr n0 L ∧ Keep h0 h [o] ∧ Exa Z h o "java/lang/StringBuilder" ∧ Fld Z h o "java/lang/AbstractStringBuilder" "coder" "B" (.int (0 : Int32)) ∧ Fld Z h o "java/lang/AbstractStringBuilder" "count" "I" (.int (0 : Int32)) ∧ ∃ (d : Addr) (kd : ClassId), Fld Z h o "java/lang/AbstractStringBuilder" "value" "[B" (.ref d) ∧ Arv Z h d kd .byte (16 : Int32) [] (.int (0 : Int32)) ∧ h0.size ≤ d
set_option maxRecDepth 65536 in
set_option maxHeartbeats 40000000 in
theorem rmabI (l : Launch) (Z : State) (a0 : Array Value) (hw : ∀ d ∈ tables_1, d.before a0 Z = true) (ws : List Jvm.Cond) (o : Addr) (zc : Int32) (h0 : Heap) (n0 : Nat) (Z0 : n0 ≤ h0.size) (O_ : Old Z n0 h0) (S_CS : Sta Z Z.heap "java/lang/String" "COMPACT_STRINGS" "Z" (.int zc)) (P_CS : ¬ zc = (0 : Int32)) (E_o : Exa Z h0 o "java/lang/StringBuilder") (Fv : Fld Z h0 o "java/lang/AbstractStringBuilder" "value" "[B" .null) (Fc : Fld Z h0 o "java/lang/AbstractStringBuilder" "coder" "B" (.int (0 : Int32))) (Fn : Fld Z h0 o "java/lang/AbstractStringBuilder" "count" "I" (.int (0 : Int32))) (g_o : n0 ≤ o) :
    MetFree l (⟨"java/lang/AbstractStringBuilder", "<init>", "(I)V"⟩ : MethodName) (head1 (Jvm.Cond.code (⟨"java/lang/AbstractStringBuilder", "<init>", "(I)V"⟩ : MethodName) jdk_68_method_2_code 2 none :: ws) ({ frames := 1, cells := 1, slots := 16, locals := 12 } : Room)) (fun as_ UU => as_ = #[(.ref o), (.int (16 : Int32))] ∧ Z.Warmed39 UU.vm ∧ UU.heap = h0) (fun _ _ _ _ _ => True) (fun _ UU oo UU' => ∃ vv LL, oo = .returned vv ∧ (QabI Z o zc h0 n0) vv UU'.heap LL ∧ FrameEnd UU oo UU' LL ({ frames := 1, cells := 1, slots := 16, locals := 12 } : Room).cells ({ frames := 1, cells := 1, slots := 16, locals := 12 } : Room).slots) := by
  refine own_met (plainFor_of_name pn_9) ?_
  intro p e s m below meth c s₁ X0 hx hby hml hret hlk hown hnm hZ e0
  have N0 := Fr.nil n0
  have Z_ := Z0
  refine OwnGo.cast (ef_abI m o (16 : Int32)) ?_
  show OwnGo p e below s _ _ _ s₁ (mkF m 0 #[.val (.ref o), .val (.int (16 : Int32))] [])
  have Kp : Keep h0 h0 [o] := Keep.refl h0 [o]
  refine OwnGo.st (fun _ kk => XS.aloadN X0.here hx rfl (hb hby d9_0) rfl rfl  kk) ?_
  show OwnGo p e below s _ _ _ s₁ (mkF m 1 #[.val (.ref o), .val (.int (16 : Int32))] [(.ref o)])
  obtain ⟨T16, X16, e16, st16⟩ := initO X0 hx hZ hown (hw _ (List.mem_of_getElem? (i := 48) rfl)) (hw _ (List.mem_of_getElem? (i := 12) rfl)) (hw _ (List.mem_of_getElem? (i := 13) rfl)) e0 (g := (mkF m 1 #[.val (.ref o), .val (.int (16 : Int32))] [(.ref o)])) rfl (by rw [hml]; rfl) rfl (hb hby d9_1) (by decide) (W := 0) (by show 2 * 0 + _ ≤ _; exact Nat.le_of_eq rfl) (by decide)
  refine OwnGo.st st16 ?_
  show OwnGo p e below s _ _ _ T16 (mkF m 4 #[.val (.ref o), .val (.int (16 : Int32))] [])
  obtain ⟨T17, X17, e17, st17⟩ := getS2 X16 hx hZ hown (host := "") (Or.inl (hw _ (List.mem_of_getElem? (i := 49) rfl))) Via.refl e16 (S_CS.ext O_.2) (g := (mkF m 4 #[.val (.ref o), .val (.int (16 : Int32))] [])) rfl (hb hby d9_4)
  refine OwnGo.st st17 ?_
  show OwnGo p e below s _ _ _ T17 (mkF m 7 #[.val (.ref o), .val (.int (16 : Int32))] [(.int zc)])
  refine OwnGo.st (fun _ kk => XS.ifNo X17.here hx rfl (hb hby d9_7) rfl ((if0 _ _).trans (feq (P_CS : ¬ (zc = (0 : Int32)))).1) kk) ?_
  show OwnGo p e below s _ _ _ T17 (mkF m 10 #[.val (.ref o), .val (.int (16 : Int32))] [])
  refine OwnGo.st (fun _ kk => XS.aloadN X17.here hx rfl (hb hby d9_10) rfl rfl  kk) ?_
  show OwnGo p e below s _ _ _ T17 (mkF m 11 #[.val (.ref o), .val (.int (16 : Int32))] [(.ref o)])
  refine OwnGo.st (fun _ kk => XS.iloadN X17.here hx rfl (hb hby d9_11) rfl  kk) ?_
  show OwnGo p e below s _ _ _ T17 (mkF m 12 #[.val (.ref o), .val (.int (16 : Int32))] [(.int (16 : Int32)), (.ref o)])
  obtain ⟨T18, h18, k18, X18, e18, E18, A18, Ex18, st18⟩ := newPE X17 hx hZ (hw _ (List.mem_of_getElem? (i := 19) rfl)) e17 (g := (mkF m 12 #[.val (.ref o), .val (.int (16 : Int32))] [(.int (16 : Int32)), (.ref o)])) rfl (hb hby d9_12) rfl (by decide) (cap := 16) (by decide) (by decide) (by decide) (by decide) (ad := "[B") (by decide)
  obtain ⟨b18, g18⟩ : ∃ z, z = h0.size := ⟨_, rfl⟩
  rw [← g18] at A18 Ex18 st18
  have ne_o_b18 : o ≠ b18 := Nat.ne_of_lt (Nat.lt_of_lt_of_le E_o.lt (Nat.le_of_eq g18.symm))
  have g_b18 : n0 ≤ b18 := Nat.le_trans Z_ (Nat.le_of_eq g18.symm)
  have sz_b18 : h0.size ≤ b18 := Nat.le_trans Kp.1 (Nat.le_of_eq g18.symm)
  have E_o := E_o.ext E18
  have Fv := Fv.ext E18
  have Fc := Fc.ext E18
  have Fn := Fn.ext E18
  have O_ := O_.ext E18
  have Kp := Kp.ext E18
  have Z_ : n0 ≤ h18.size := Nat.le_trans Z_ E18.1
  have V_b18 : Arv Z h18 b18 k18 .byte (16 : Int32) [] (.int (0 : Int32)) := Arv.new A18 (by decide)
  have E_b18 := Ex18
  refine OwnGo.st st18 ?_
  show OwnGo p e below s _ _ _ T18 (mkF m 14 #[.val (.ref o), .val (.int (16 : Int32))] [(.ref b18), (.ref o)])
  obtain ⟨T19, h19, X19, e19, W19, st19⟩ := putF X18 hx hZ hown (host := "") (Or.inl (hw _ (List.mem_of_getElem? (i := 50) rfl))) Via.refl e18 Fv E_o (Or.inl (hw _ (List.mem_of_getElem? (i := 51) rfl))) (hw _ (List.mem_of_getElem? (i := 37) rfl)) (ty := (.array .byte)) (by decide) rfl rfl (g := (mkF m 14 #[.val (.ref o), .val (.int (16 : Int32))] [(.ref b18), (.ref o)])) rfl rfl (hb hby d9_14)
  have E_o := E_o.wr W19
  have Fv := Fv.same W19
  have Fc := Fc.other W19 (Or.inr (slot_ne (Or.inl (hw _ (List.mem_of_getElem? (i := 53) rfl))) (Or.inl (hw _ (List.mem_of_getElem? (i := 51) rfl))) (by decide) (t := .byte) (t' := (.array .byte)) (by decide) (by decide)))
  have Fn := Fn.other W19 (Or.inr (slot_ne (Or.inl (hw _ (List.mem_of_getElem? (i := 75) rfl))) (Or.inl (hw _ (List.mem_of_getElem? (i := 51) rfl))) (by decide) (t := .int) (t' := (.array .byte)) (by decide) (by decide)))
  have V_b18 := V_b18.other W19 (Ne.symm ne_o_b18)
  have E_b18 := E_b18.wr W19
  have O_ := O_.wr W19 g_o
  have Kp := Kp.wr W19 (Or.inl (List.mem_of_getElem? (i := 0) rfl))
  have N19 := Fr.snoc X19 N0 g_o
  have Z_ : n0 ≤ h19.size := by rw [W19.size]; exact Z_
  refine OwnGo.st st19 ?_
  show OwnGo p e below s _ _ _ T19 (mkF m 17 #[.val (.ref o), .val (.int (16 : Int32))] [])
  refine OwnGo.st (fun _ kk => XS.aloadN X19.here hx rfl (hb hby d9_17) rfl rfl  kk) ?_
  show OwnGo p e below s _ _ _ T19 (mkF m 18 #[.val (.ref o), .val (.int (16 : Int32))] [(.ref o)])
  refine OwnGo.st (fun _ kk => XS.iconst X19.here hx rfl (hb hby d9_18) kk) ?_
  show OwnGo p e below s _ _ _ T19 (mkF m 19 #[.val (.ref o), .val (.int (16 : Int32))] [(.int (0 : Int32)), (.ref o)])
  obtain ⟨T20, h20, X20, e20, W20, st20⟩ := putFN X19 hx hZ hown (hw _ (List.mem_of_getElem? (i := 52) rfl)) Via.refl e19 Fc E_o (Or.inl (hw _ (List.mem_of_getElem? (i := 53) rfl))) (hw _ (List.mem_of_getElem? (i := 37) rfl)) (ty := .byte) (v' := (.int (0 : Int32))) (by decide) rfl (by decide) (g := (mkF m 19 #[.val (.ref o), .val (.int (16 : Int32))] [(.int (0 : Int32)), (.ref o)])) rfl rfl (hb hby d9_19)
  have E_o := E_o.wr W20
  have Fv := Fv.other W20 (Or.inr (slot_ne (Or.inl (hw _ (List.mem_of_getElem? (i := 51) rfl))) (Or.inl (hw _ (List.mem_of_getElem? (i := 53) rfl))) (by decide) (t := (.array .byte)) (t' := .byte) (by decide) (by decide)))
  have Fc := Fc.same W20
  have Fn := Fn.other W20 (Or.inr (slot_ne (Or.inl (hw _ (List.mem_of_getElem? (i := 75) rfl))) (Or.inl (hw _ (List.mem_of_getElem? (i := 53) rfl))) (by decide) (t := .int) (t' := .byte) (by decide) (by decide)))
  have V_b18 := V_b18.other W20 (Ne.symm ne_o_b18)
  have E_b18 := E_b18.wr W20
  have O_ := O_.wr W20 g_o
  have Kp := Kp.wr W20 (Or.inl (List.mem_of_getElem? (i := 0) rfl))
  have N20 := Fr.snoc X20 N19 g_o
  have Z_ : n0 ≤ h20.size := by rw [W20.size]; exact Z_
  refine OwnGo.st st20 ?_
  show OwnGo p e below s _ _ _ T20 (mkF m 22 #[.val (.ref o), .val (.int (16 : Int32))] [])
  refine OwnGo.st (fun _ kk => XS.goto X20.here hx rfl (pc0 := 22) (pc' := 38) rfl (hb hby d9_22) (by decide) (by decide) kk) ?_
  show OwnGo p e below s _ _ _ T20 (mkF m 38 #[.val (.ref o), .val (.int (16 : Int32))] [])
  exact OwnGo.retV X20 hx hret hlk (hb hby d9_38) (by show QabI Z o zc h0 n0 _ T20.heap _; rw [e20]; exact ⟨rfl, N20, Kp, E_o, Fc, Fn, b18, k18, Fv, V_b18, sz_b18⟩) (by decide) (by decide)
def QsbI (Z : State) (o : Addr) (zc : Int32) (h0 : Heap) (n0 : Nat) (v : Option Value) (h : Heap) (L : List Loc) : Prop := v = none ∧ Fr n0 L ∧ Keep h0 h [o] ∧ Exa Z h o "java/lang/StringBuilder" ∧ Fld Z h o "java/lang/AbstractStringBuilder" "coder" "B" (.int (0 : Int32)) ∧ Fld Z h o "java/lang/AbstractStringBuilder" "count" "I" (.int (0 : Int32)) ∧ ∃ (d : Addr) (kd : ClassId), Fld Z h o "java/lang/AbstractStringBuilder" "value" "[B" (.ref d) ∧ Arv Z h d kd .byte (16 : Int32) [] (.int (0 : Int32)) ∧ h0.size ≤ d
set_option maxRecDepth 65536 in
set_option maxHeartbeats 40000000 in
theorem rmsbI (l : Launch) (Z : State) (a0 : Array Value) (hw : ∀ d ∈ tables_1, d.before a0 Z = true) (ws : List Jvm.Cond) (o : Addr) (zc : Int32) (h0 : Heap) (n0 : Nat) (Z0 : n0 ≤ h0.size) (O_ : Old Z n0 h0) (S_CS : Sta Z Z.heap "java/lang/String" "COMPACT_STRINGS" "Z" (.int zc)) (P_CS : ¬ zc = (0 : Int32)) (E_o : Exa Z h0 o "java/lang/StringBuilder") (Fv : Fld Z h0 o "java/lang/AbstractStringBuilder" "value" "[B" .null) (Fc : Fld Z h0 o "java/lang/AbstractStringBuilder" "coder" "B" (.int (0 : Int32))) (Fn : Fld Z h0 o "java/lang/AbstractStringBuilder" "count" "I" (.int (0 : Int32))) (g_o : n0 ≤ o) :
    MetFree l (⟨"java/lang/StringBuilder", "<init>", "()V"⟩ : MethodName) (head1 (Jvm.Cond.code (⟨"java/lang/StringBuilder", "<init>", "()V"⟩ : MethodName) jdk_67_method_1_code 1 none :: ws) ({ frames := 2, cells := 1, slots := 16, locals := 25 } : Room)) (fun as_ UU => as_ = #[(.ref o)] ∧ Z.Warmed39 UU.vm ∧ UU.heap = h0) (fun _ _ _ _ _ => True) (fun _ UU oo UU' => ∃ vv LL, oo = .returned vv ∧ (QsbI Z o zc h0 n0) vv UU'.heap LL ∧ FrameEnd UU oo UU' LL ({ frames := 2, cells := 1, slots := 16, locals := 25 } : Room).cells ({ frames := 2, cells := 1, slots := 16, locals := 25 } : Room).slots) := by
  refine own_met (plainFor_of_name pn_8) ?_
  intro p e s m below meth c s₁ X0 hx hby hml hret hlk hown hnm hZ e0
  have N0 := Fr.nil n0
  have Z_ := Z0
  refine OwnGo.cast (ef_sbI m o) ?_
  show OwnGo p e below s _ _ _ s₁ (mkF m 0 #[.val (.ref o)] [])
  have Kp : Keep h0 h0 [o] := Keep.refl h0 [o]
  refine OwnGo.st (fun _ kk => XS.aloadN X0.here hx rfl (hb hby d8_0) rfl rfl  kk) ?_
  show OwnGo p e below s _ _ _ s₁ (mkF m 1 #[.val (.ref o)] [(.ref o)])
  refine OwnGo.st (fun _ kk => XS.bipush X0.here hx rfl (hb hby d8_1) kk) ?_
  show OwnGo p e below s _ _ _ s₁ (mkF m 3 #[.val (.ref o)] [(.int (16 : Int32)), (.ref o)])
  obtain ⟨_, _, ⟨T21, L21, k21, n21⟩, -, X21, ⟨Lc21, hQ21, l21, y21, z21⟩, st21⟩ := X0.specialBack hx (y := (⟨"java/lang/AbstractStringBuilder", "<init>", "(I)V"⟩ : MethodName)) rfl hown (mvT hZ (hw _ (List.mem_of_getElem? (i := 42) rfl))) (mvT hZ (hw _ (List.mem_of_getElem? (i := 43) rfl))) (mvT hZ (hw _ (List.mem_of_getElem? (i := 47) rfl))) (by decide) (backOf (W := 0) (rmabI l Z a0 hw [] o zc h0 n0 Z_ O_ S_CS P_CS E_o Fv Fc Fn g_o) hZ (hw _ (List.mem_of_getElem? (i := 47) rfl)) (hw _ (List.mem_of_getElem? (i := 46) rfl)) (by decide) (by decide)) (g := (mkF m 3 #[.val (.ref o)] [(.int (16 : Int32)), (.ref o)])) rfl (by rw [hml]; rfl) (Steps.refl _) (a := o) (argsL := [(.int (16 : Int32))]) (rest := []) (lenOf pd_5 rfl) rfl (by show 2 * 0 + _ ≤ _; exact Nat.le_of_eq rfl) (hb hby d8_3) (fun _ _ => ⟨rfl, e0, (by decide : 0 + 1 ≤ _), (by decide : 0 + 16 ≤ _)⟩)
  dsimp only [Pt.U, Pt.locs, Pt.cells, Pt.slots] at X21 l21 y21 z21 st21 hQ21
  subst l21 y21 z21
  obtain ⟨rfl, N21q, K21, Eo21, Fc21, Fn21, d21, kd21, Fv21, V21, zd21⟩ := hQ21
  have N21 := Fr.app N0 N21q
  have Z_ : n0 ≤ T21.heap.size := Nat.le_trans Z_ K21.1
  have E_o := E_o.keep K21
  have O_ := O_.keep K21 (allS g_o all0)
  have Kp := Kp.trans K21 (allS (Or.inl (List.mem_of_getElem? (i := 0) rfl)) all0)
  refine OwnGo.st (fun _ kk => st21.trans kk) ?_
  show OwnGo p e below s _ _ _ T21 (mkF m 6 #[.val (.ref o)] [])
  exact OwnGo.retV X21 hx hret hlk (hb hby d8_6) (by show QsbI Z o zc h0 n0 _ T21.heap _; exact ⟨rfl, N21, Kp, Eo21, Fc21, Fn21, d21, kd21, Fv21, V21, Nat.le_trans (Nat.le_refl _) zd21⟩) (by decide) (by decide)
def QensC (Z : State) (o : Addr) (d : Addr) (kd : ClassId) (vs : List Value) (z : Int32) (h0 : Heap) (n0 : Nat) (v : Option Value) (h : Heap) (L : List Loc) : Prop := v = none ∧ Fr n0 L ∧ h = h0
set_option maxRecDepth 65536 in
set_option maxHeartbeats 40000000 in
theorem rmensC (l : Launch) (Z : State) (a0 : Array Value) (hw : ∀ d ∈ tables_1, d.before a0 Z = true) (ws : List Jvm.Cond) (o : Addr) (d : Addr) (kd : ClassId) (vs : List Value) (z : Int32) (h0 : Heap) (n0 : Nat) (Z0 : n0 ≤ h0.size) (Fv : Fld Z h0 o "java/lang/AbstractStringBuilder" "value" "[B" (.ref d)) (Fc : Fld Z h0 o "java/lang/AbstractStringBuilder" "coder" "B" (.int (0 : Int32))) (V_d : Arv Z h0 d kd .byte (16 : Int32) vs (.int (0 : Int32))) (hz : ¬ (0 : Int32) < z - (16 : Int32)) :
    MetFree l (⟨"java/lang/AbstractStringBuilder", "ensureCapacityInternal", "(I)V"⟩ : MethodName) (head1 (Jvm.Cond.code (⟨"java/lang/AbstractStringBuilder", "ensureCapacityInternal", "(I)V"⟩ : MethodName) jdk_68_method_9_code 3 none :: ws) ({ frames := 0, cells := 0, slots := 0, locals := 0 } : Room)) (fun as_ UU => as_ = #[(.ref o), (.int z)] ∧ Z.Warmed39 UU.vm ∧ UU.heap = h0) (fun _ _ _ _ _ => True) (fun _ UU oo UU' => ∃ vv LL, oo = .returned vv ∧ (QensC Z o d kd vs z h0 n0) vv UU'.heap LL ∧ FrameEnd UU oo UU' LL ({ frames := 0, cells := 0, slots := 0, locals := 0 } : Room).cells ({ frames := 0, cells := 0, slots := 0, locals := 0 } : Room).slots) := by
  refine own_met (plainFor_of_name pn_9) ?_
  intro p e s m below meth c s₁ X0 hx hby hml hret hlk hown hnm hZ e0
  have N0 := Fr.nil n0
  have Z_ := Z0
  refine OwnGo.cast (ef_ensC m o z) ?_
  show OwnGo p e below s _ _ _ s₁ (mkF m 0 #[.val (.ref o), .val (.int z), .unset] [])
  refine OwnGo.st (fun _ kk => XS.aloadN X0.here hx rfl (hb hby d14_0) rfl rfl  kk) ?_
  show OwnGo p e below s _ _ _ s₁ (mkF m 1 #[.val (.ref o), .val (.int z), .unset] [(.ref o)])
  obtain ⟨T22, X22, e22, st22⟩ := getF X0 hx hZ hown (host := "") (Or.inl (hw _ (List.mem_of_getElem? (i := 50) rfl))) Via.refl e0 Fv (g := (mkF m 1 #[.val (.ref o), .val (.int z), .unset] [(.ref o)])) rfl rfl (hb hby d14_1)
  refine OwnGo.st st22 ?_
  show OwnGo p e below s _ _ _ T22 (mkF m 4 #[.val (.ref o), .val (.int z), .unset] [(.ref d)])
  obtain ⟨cl23, Ar23, -, S23, N23, -, -⟩ := id V_d
  refine OwnGo.st (fun _ kk => own_len hZ (len_of S23 N23) Ar23 X22 e22 hx (g := (mkF m 4 #[.val (.ref o), .val (.int z), .unset] [(.ref d)])) rfl rfl (hb hby d14_4) _ kk) ?_
  show OwnGo p e below s _ _ _ T22 (mkF m 5 #[.val (.ref o), .val (.int z), .unset] [(.int (16 : Int32))])
  refine OwnGo.st (fun _ kk => XS.aloadN X22.here hx rfl (hb hby d14_5) rfl rfl  kk) ?_
  show OwnGo p e below s _ _ _ T22 (mkF m 6 #[.val (.ref o), .val (.int z), .unset] [(.ref o), (.int (16 : Int32))])
  obtain ⟨T24, X24, e24, st24⟩ := getF X22 hx hZ hown (host := "") (Or.inl (hw _ (List.mem_of_getElem? (i := 52) rfl))) Via.refl e22 Fc (g := (mkF m 6 #[.val (.ref o), .val (.int z), .unset] [(.ref o), (.int (16 : Int32))])) rfl rfl (hb hby d14_6)
  refine OwnGo.st st24 ?_
  show OwnGo p e below s _ _ _ T24 (mkF m 9 #[.val (.ref o), .val (.int z), .unset] [(.int (0 : Int32)), (.int (16 : Int32))])
  refine OwnGo.st (fun _ kk => XS.ishr X24.here hx rfl (hb hby d14_9) rfl kk) ?_
  show OwnGo p e below s _ _ _ T24 (mkF m 10 #[.val (.ref o), .val (.int z), .unset] [(.int ((16 : Int32) >>> ((0 : Int32) &&& 31)))])
  rw [own_sh0]
  show OwnGo p e below s _ _ _ T24 (mkF m 10 #[.val (.ref o), .val (.int z), .unset] [(.int (16 : Int32))])
  refine OwnGo.st (fun _ kk => XS.istoreN X24.here hx rfl (hb hby d14_10) rfl (l' := #[.val (.ref o), .val (.int z), .val (.int (16 : Int32))]) rfl kk) ?_
  show OwnGo p e below s _ _ _ T24 (mkF m 11 #[.val (.ref o), .val (.int z), .val (.int (16 : Int32))] [])
  refine OwnGo.st (fun _ kk => XS.iloadN X24.here hx rfl (hb hby d14_11) rfl  kk) ?_
  show OwnGo p e below s _ _ _ T24 (mkF m 12 #[.val (.ref o), .val (.int z), .val (.int (16 : Int32))] [(.int z)])
  refine OwnGo.st (fun _ kk => XS.iloadN X24.here hx rfl (hb hby d14_12) rfl  kk) ?_
  show OwnGo p e below s _ _ _ T24 (mkF m 13 #[.val (.ref o), .val (.int z), .val (.int (16 : Int32))] [(.int (16 : Int32)), (.int z)])
  refine OwnGo.st (fun _ kk => XS.isub X24.here hx rfl (hb hby d14_13) rfl kk) ?_
  show OwnGo p e below s _ _ _ T24 (mkF m 14 #[.val (.ref o), .val (.int z), .val (.int (16 : Int32))] [(.int (z - (16 : Int32)))])
  refine OwnGo.st (fun _ kk => XS.ifYes X24.here hx rfl (pc0 := 14) (pc' := 38) rfl (hb hby d14_14) rfl ((if0 _ _).trans (flt (hz : ¬ ((0 : Int32) < (z - (16 : Int32))))).2.2.2) (by decide) (by decide) kk) ?_
  show OwnGo p e below s _ _ _ T24 (mkF m 38 #[.val (.ref o), .val (.int z), .val (.int (16 : Int32))] [])
  exact OwnGo.retV X24 hx hret hlk (hb hby d14_38) (by show QensC Z o d kd vs z h0 n0 _ T24.heap _; rw [e24]; exact ⟨rfl, N0, rfl⟩) (by decide) (by decide)
def Qinfl (Z : State) (o : Addr) (a : Addr) (zc : Int32) (h0 : Heap) (n0 : Nat) (v : Option Value) (h : Heap) (L : List Loc) : Prop := v = none ∧ Fr n0 L ∧ h = h0
set_option maxRecDepth 65536 in
set_option maxHeartbeats 40000000 in
theorem rminfl (l : Launch) (Z : State) (a0 : Array Value) (hw : ∀ d ∈ tables_1, d.before a0 Z = true) (ws : List Jvm.Cond) (o : Addr) (a : Addr) (zc : Int32) (h0 : Heap) (n0 : Nat) (Z0 : n0 ≤ h0.size) (O_ : Old Z n0 h0) (S_CS : Sta Z Z.heap "java/lang/String" "COMPACT_STRINGS" "Z" (.int zc)) (P_CS : ¬ zc = (0 : Int32)) (Fc : Fld Z h0 o "java/lang/AbstractStringBuilder" "coder" "B" (.int (0 : Int32))) (E_a : Exa Z h0 a "java/lang/String") (Fa : Fld Z h0 a "java/lang/String" "coder" "B" (.int (0 : Int32))) :
    MetFree l (⟨"java/lang/AbstractStringBuilder", "inflateIfNeededFor", "(Ljava/lang/String;)V"⟩ : MethodName) (head1 (Jvm.Cond.code (⟨"java/lang/AbstractStringBuilder", "inflateIfNeededFor", "(Ljava/lang/String;)V"⟩ : MethodName) jdk_68_method_71_code 2 none :: ws) ({ frames := 1, cells := 0, slots := 0, locals := 13 } : Room)) (fun as_ UU => as_ = #[(.ref o), (.ref a)] ∧ Z.Warmed39 UU.vm ∧ UU.heap = h0) (fun _ _ _ _ _ => True) (fun _ UU oo UU' => ∃ vv LL, oo = .returned vv ∧ (Qinfl Z o a zc h0 n0) vv UU'.heap LL ∧ FrameEnd UU oo UU' LL ({ frames := 1, cells := 0, slots := 0, locals := 13 } : Room).cells ({ frames := 1, cells := 0, slots := 0, locals := 13 } : Room).slots) := by
  refine own_met (plainFor_of_name pn_9) ?_
  intro p e s m below meth c s₁ X0 hx hby hml hret hlk hown hnm hZ e0
  have N0 := Fr.nil n0
  have Z_ := Z0
  refine OwnGo.cast (ef_infl m o a) ?_
  show OwnGo p e below s _ _ _ s₁ (mkF m 0 #[.val (.ref o), .val (.ref a)] [])
  obtain ⟨T25, X25, e25, st25⟩ := getS2 X0 hx hZ hown (host := "") (Or.inl (hw _ (List.mem_of_getElem? (i := 49) rfl))) Via.refl e0 (S_CS.ext O_.2) (g := (mkF m 0 #[.val (.ref o), .val (.ref a)] [])) rfl (hb hby d16_0)
  refine OwnGo.st st25 ?_
  show OwnGo p e below s _ _ _ T25 (mkF m 3 #[.val (.ref o), .val (.ref a)] [(.int zc)])
  refine OwnGo.st (fun _ kk => XS.ifNo X25.here hx rfl (hb hby d16_3) rfl ((if0 _ _).trans (feq (P_CS : ¬ (zc = (0 : Int32)))).1) kk) ?_
  show OwnGo p e below s _ _ _ T25 (mkF m 6 #[.val (.ref o), .val (.ref a)] [])
  refine OwnGo.st (fun _ kk => XS.aloadN X25.here hx rfl (hb hby d16_6) rfl rfl  kk) ?_
  show OwnGo p e below s _ _ _ T25 (mkF m 7 #[.val (.ref o), .val (.ref a)] [(.ref o)])
  obtain ⟨T26, X26, e26, st26⟩ := getF X25 hx hZ hown (host := "") (Or.inl (hw _ (List.mem_of_getElem? (i := 52) rfl))) Via.refl e25 Fc (g := (mkF m 7 #[.val (.ref o), .val (.ref a)] [(.ref o)])) rfl rfl (hb hby d16_7)
  refine OwnGo.st st26 ?_
  show OwnGo p e below s _ _ _ T26 (mkF m 10 #[.val (.ref o), .val (.ref a)] [(.int (0 : Int32))])
  refine OwnGo.st (fun _ kk => XS.aloadN X26.here hx rfl (hb hby d16_10) rfl rfl  kk) ?_
  show OwnGo p e below s _ _ _ T26 (mkF m 11 #[.val (.ref o), .val (.ref a)] [(.ref a), (.int (0 : Int32))])
  obtain ⟨cq27, kq27, q27a, q27b, q27c⟩ := isOf hZ e26 E_a
  obtain ⟨_, _, ⟨T27, L27, k27, n27⟩, -, X27, ⟨Lc27, hQ27, l27, y27, z27⟩, st27⟩ := X26.virtualBack hx (y := (⟨"java/lang/String", "coder", "()B"⟩ : MethodName)) (z := (⟨"java/lang/String", "coder", "()B"⟩ : MethodName)) hown (mvT hZ (hw _ (List.mem_of_getElem? (i := 91) rfl))) (mvT hZ (hw _ (List.mem_of_getElem? (i := 70) rfl))) (notFace_of_selects (args := #[]) (mvT hZ (hw _ (List.mem_of_getElem? (i := 72) rfl)))) (mvT hZ (hw _ (List.mem_of_getElem? (i := 72) rfl))) (mvT hZ (hw _ (List.mem_of_getElem? (i := 71) rfl))) (by decide) (backOf (W := 1) (rmcoder l Z a0 hw [] a zc h0 n0 Z_ O_ S_CS P_CS Fa) hZ (hw _ (List.mem_of_getElem? (i := 73) rfl)) (hw _ (List.mem_of_getElem? (i := 3) rfl)) (by decide) (by decide)) q27a q27c (g := (mkF m 11 #[.val (.ref o), .val (.ref a)] [(.ref a), (.int (0 : Int32))])) rfl (by rw [hml]; rfl) (Steps.refl _) (argsL := []) (rest := [(.int (0 : Int32))]) (lenOf pd_0 rfl) rfl (by show 2 * 0 + _ ≤ _; exact Nat.le_of_eq rfl) (hb hby d16_11) (fun _ _ => ⟨rfl, e26, (by decide : 0 + 0 ≤ _), (by decide : 0 + 0 ≤ _)⟩)
  dsimp only [Pt.U, Pt.locs, Pt.cells, Pt.slots] at X27 l27 y27 z27 st27 hQ27
  subst l27 y27 z27
  obtain ⟨rfl, N27q, e27⟩ := hQ27
  have N27 := Fr.app N0 N27q
  refine OwnGo.st (fun _ kk => st27.trans kk) ?_
  show OwnGo p e below s _ _ _ T27 (mkF m 14 #[.val (.ref o), .val (.ref a)] [(.int (0 : Int32)), (.int (0 : Int32))])
  refine OwnGo.st (fun _ kk => XS.icmpYes X27.here hx rfl (pc0 := 14) (pc' := 21) rfl (hb hby d16_14) rfl (teq ((by decide) : (0 : Int32) = (0 : Int32))).1 (by decide) (by decide) kk) ?_
  show OwnGo p e below s _ _ _ T27 (mkF m 21 #[.val (.ref o), .val (.ref a)] [])
  exact OwnGo.retV X27 hx hret hlk (hb hby d16_21) (by show Qinfl Z o a zc h0 n0 _ T27.heap _; rw [e27]; exact ⟨rfl, N27, rfl⟩) (by decide) (by decide)
def QgetB (Z : State) (a : Addr) (t : Addr) (kc : ClassId) (z : Int32) (us : List Value) (d : Addr) (kd : ClassId) (vs : List Value) (vw : List Value) (i : Int32) (zc : Int32) (h0 : Heap) (n0 : Nat) (v : Option Value) (h : Heap) (L : List Loc) : Prop := v = none ∧ Fr n0 L ∧ Keep h0 h [d] ∧ Arv Z h d kd .byte (16 : Int32) vw (.int (0 : Int32))
set_option maxRecDepth 65536 in
set_option maxHeartbeats 40000000 in
theorem rmgetB (l : Launch) (Z : State) (a0 : Array Value) (hw : ∀ d ∈ tables_1, d.before a0 Z = true) (ws : List Jvm.Cond) (a : Addr) (t : Addr) (kc : ClassId) (z : Int32) (us : List Value) (d : Addr) (kd : ClassId) (vs : List Value) (vw : List Value) (i : Int32) (zc : Int32) (h0 : Heap) (n0 : Nat) (Z0 : n0 ≤ h0.size) (O_ : Old Z n0 h0) (S_CS : Sta Z Z.heap "java/lang/String" "COMPACT_STRINGS" "Z" (.int zc)) (P_CS : ¬ zc = (0 : Int32)) (E_a : Exa Z h0 a "java/lang/String") (Fa : Fld Z h0 a "java/lang/String" "coder" "B" (.int (0 : Int32))) (Fw : Fld Z h0 a "java/lang/String" "value" "[B" (.ref t)) (V_t : Arv Z h0 t kc .byte z us (.int (0 : Int32))) (V_d : Arv Z h0 d kd .byte (16 : Int32) vs (.int (0 : Int32))) (hi : ¬ i < (0 : Int32)) (hz : i.toNatClampNeg + z.toNatClampNeg ≤ 16) (hus : ∀ j, j < 16 → vw.getD j (.int (0 : Int32)) = if i.toNatClampNeg ≤ j ∧ j < i.toNatClampNeg + z.toNatClampNeg then us.getD (j - i.toNatClampNeg) (.int (0 : Int32)) else vs.getD j (.int (0 : Int32))) (g_d : n0 ≤ d) :
    MetFree l (⟨"java/lang/String", "getBytes", "([BIB)V"⟩ : MethodName) (head1 (Jvm.Cond.code (⟨"java/lang/String", "getBytes", "([BIB)V"⟩ : MethodName) jdk_42_method_147_code 4 none :: ws) ({ frames := 1, cells := 0, slots := 0, locals := 18 } : Room)) (fun as_ UU => as_ = #[(.ref a), (.ref d), (.int i), (.int (0 : Int32))] ∧ Z.Warmed39 UU.vm ∧ UU.heap = h0) (fun _ _ _ _ _ => True) (fun _ UU oo UU' => ∃ vv LL, oo = .returned vv ∧ (QgetB Z a t kc z us d kd vs vw i zc h0 n0) vv UU'.heap LL ∧ FrameEnd UU oo UU' LL ({ frames := 1, cells := 0, slots := 0, locals := 18 } : Room).cells ({ frames := 1, cells := 0, slots := 0, locals := 18 } : Room).slots) := by
  refine own_met (plainFor_of_name pn_13) ?_
  intro p e s m below meth c s₁ X0 hx hby hml hret hlk hown hnm hZ e0
  have N0 := Fr.nil n0
  have Z_ := Z0
  refine OwnGo.cast (ef_getB m a d i (0 : Int32)) ?_
  show OwnGo p e below s _ _ _ s₁ (mkF m 0 #[.val (.ref a), .val (.ref d), .val (.int i), .val (.int (0 : Int32))] [])
  have Kp : Keep h0 h0 [d] := Keep.refl h0 [d]
  refine OwnGo.st (fun _ kk => XS.aloadN X0.here hx rfl (hb hby d17_0) rfl rfl  kk) ?_
  show OwnGo p e below s _ _ _ s₁ (mkF m 1 #[.val (.ref a), .val (.ref d), .val (.int i), .val (.int (0 : Int32))] [(.ref a)])
  obtain ⟨cq28, kq28, q28a, q28b, q28c⟩ := isOf hZ e0 E_a
  obtain ⟨_, _, ⟨T28, L28, k28, n28⟩, -, X28, ⟨Lc28, hQ28, l28, y28, z28⟩, st28⟩ := X0.virtualBack hx (y := (⟨"java/lang/String", "coder", "()B"⟩ : MethodName)) (z := (⟨"java/lang/String", "coder", "()B"⟩ : MethodName)) hown (mvT hZ (hw _ (List.mem_of_getElem? (i := 69) rfl))) (mvT hZ (hw _ (List.mem_of_getElem? (i := 70) rfl))) (notFace_of_selects (args := #[]) (mvT hZ (hw _ (List.mem_of_getElem? (i := 72) rfl)))) (mvT hZ (hw _ (List.mem_of_getElem? (i := 72) rfl))) (mvT hZ (hw _ (List.mem_of_getElem? (i := 71) rfl))) (by decide) (backOf (W := 0) (rmcoder l Z a0 hw [] a zc h0 n0 Z_ O_ S_CS P_CS Fa) hZ (hw _ (List.mem_of_getElem? (i := 73) rfl)) (hw _ (List.mem_of_getElem? (i := 3) rfl)) (by decide) (by decide)) q28a q28c (g := (mkF m 1 #[.val (.ref a), .val (.ref d), .val (.int i), .val (.int (0 : Int32))] [(.ref a)])) rfl (by rw [hml]; rfl) (Steps.refl _) (argsL := []) (rest := []) (lenOf pd_0 rfl) rfl (by show 2 * 0 + _ ≤ _; exact Nat.le_of_eq rfl) (hb hby d17_1) (fun _ _ => ⟨rfl, e0, (by decide : 0 + 0 ≤ _), (by decide : 0 + 0 ≤ _)⟩)
  dsimp only [Pt.U, Pt.locs, Pt.cells, Pt.slots] at X28 l28 y28 z28 st28 hQ28
  subst l28 y28 z28
  obtain ⟨rfl, N28q, e28⟩ := hQ28
  have N28 := Fr.app N0 N28q
  refine OwnGo.st (fun _ kk => st28.trans kk) ?_
  show OwnGo p e below s _ _ _ T28 (mkF m 4 #[.val (.ref a), .val (.ref d), .val (.int i), .val (.int (0 : Int32))] [(.int (0 : Int32))])
  refine OwnGo.st (fun _ kk => XS.iloadN X28.here hx rfl (hb hby d17_4) rfl  kk) ?_
  show OwnGo p e below s _ _ _ T28 (mkF m 5 #[.val (.ref a), .val (.ref d), .val (.int i), .val (.int (0 : Int32))] [(.int (0 : Int32)), (.int (0 : Int32))])
  refine OwnGo.st (fun _ kk => XS.icmpNo X28.here hx rfl (hb hby d17_5) rfl (teq ((by decide) : (0 : Int32) = (0 : Int32))).2 kk) ?_
  show OwnGo p e below s _ _ _ T28 (mkF m 8 #[.val (.ref a), .val (.ref d), .val (.int i), .val (.int (0 : Int32))] [])
  refine OwnGo.st (fun _ kk => XS.aloadN X28.here hx rfl (hb hby d17_8) rfl rfl  kk) ?_
  show OwnGo p e below s _ _ _ T28 (mkF m 9 #[.val (.ref a), .val (.ref d), .val (.int i), .val (.int (0 : Int32))] [(.ref a)])
  obtain ⟨T29, X29, e29, st29⟩ := getF X28 hx hZ hown (host := "") (Or.inl (hw _ (List.mem_of_getElem? (i := 28) rfl))) Via.refl e28 Fw (g := (mkF m 9 #[.val (.ref a), .val (.ref d), .val (.int i), .val (.int (0 : Int32))] [(.ref a)])) rfl rfl (hb hby d17_9)
  refine OwnGo.st st29 ?_
  show OwnGo p e below s _ _ _ T29 (mkF m 12 #[.val (.ref a), .val (.ref d), .val (.int i), .val (.int (0 : Int32))] [(.ref t)])
  refine OwnGo.st (fun _ kk => XS.iconst X29.here hx rfl (hb hby d17_12) kk) ?_
  show OwnGo p e below s _ _ _ T29 (mkF m 13 #[.val (.ref a), .val (.ref d), .val (.int i), .val (.int (0 : Int32))] [(.int (0 : Int32)), (.ref t)])
  refine OwnGo.st (fun _ kk => XS.aloadN X29.here hx rfl (hb hby d17_13) rfl rfl  kk) ?_
  show OwnGo p e below s _ _ _ T29 (mkF m 14 #[.val (.ref a), .val (.ref d), .val (.int i), .val (.int (0 : Int32))] [(.ref d), (.int (0 : Int32)), (.ref t)])
  refine OwnGo.st (fun _ kk => XS.iloadN X29.here hx rfl (hb hby d17_14) rfl  kk) ?_
  show OwnGo p e below s _ _ _ T29 (mkF m 15 #[.val (.ref a), .val (.ref d), .val (.int i), .val (.int (0 : Int32))] [(.int i), (.ref d), (.int (0 : Int32)), (.ref t)])
  refine OwnGo.st (fun _ kk => XS.iloadN X29.here hx rfl (hb hby d17_15) rfl  kk) ?_
  show OwnGo p e below s _ _ _ T29 (mkF m 16 #[.val (.ref a), .val (.ref d), .val (.int i), .val (.int (0 : Int32))] [(.int (0 : Int32)), (.int i), (.ref d), (.int (0 : Int32)), (.ref t)])
  refine OwnGo.st (fun _ kk => XS.ishl X29.here hx rfl (hb hby d17_16) rfl kk) ?_
  show OwnGo p e below s _ _ _ T29 (mkF m 17 #[.val (.ref a), .val (.ref d), .val (.int i), .val (.int (0 : Int32))] [(.int (i <<< ((0 : Int32) &&& 31))), (.ref d), (.int (0 : Int32)), (.ref t)])
  rw [own_shl0]
  show OwnGo p e below s _ _ _ T29 (mkF m 17 #[.val (.ref a), .val (.ref d), .val (.int i), .val (.int (0 : Int32))] [(.int i), (.ref d), (.int (0 : Int32)), (.ref t)])
  refine OwnGo.st (fun _ kk => XS.aloadN X29.here hx rfl (hb hby d17_17) rfl rfl  kk) ?_
  show OwnGo p e below s _ _ _ T29 (mkF m 18 #[.val (.ref a), .val (.ref d), .val (.int i), .val (.int (0 : Int32))] [(.ref a), (.int i), (.ref d), (.int (0 : Int32)), (.ref t)])
  obtain ⟨T30, X30, e30, st30⟩ := getF X29 hx hZ hown (host := "") (Or.inl (hw _ (List.mem_of_getElem? (i := 28) rfl))) Via.refl e29 Fw (g := (mkF m 18 #[.val (.ref a), .val (.ref d), .val (.int i), .val (.int (0 : Int32))] [(.ref a), (.int i), (.ref d), (.int (0 : Int32)), (.ref t)])) rfl rfl (hb hby d17_18)
  refine OwnGo.st st30 ?_
  show OwnGo p e below s _ _ _ T30 (mkF m 21 #[.val (.ref a), .val (.ref d), .val (.int i), .val (.int (0 : Int32))] [(.ref t), (.int i), (.ref d), (.int (0 : Int32)), (.ref t)])
  obtain ⟨cl31, Ar31, -, S31, N31, -, -⟩ := id V_t
  refine OwnGo.st (fun _ kk => own_len hZ (len_of S31 N31) Ar31 X30 e30 hx (g := (mkF m 21 #[.val (.ref a), .val (.ref d), .val (.int i), .val (.int (0 : Int32))] [(.ref t), (.int i), (.ref d), (.int (0 : Int32)), (.ref t)])) rfl rfl (hb hby d17_21) _ kk) ?_
  show OwnGo p e below s _ _ _ T30 (mkF m 22 #[.val (.ref a), .val (.ref d), .val (.int i), .val (.int (0 : Int32))] [(.int z), (.int i), (.ref d), (.int (0 : Int32)), (.ref t)])
  have nz := own_arvn V_t
  obtain ⟨T32, h32, Lc32, X32, e32, K32, V32', Fq32, st32⟩ := own_copy X30 hx hZ hown (hw _ (List.mem_of_getElem? (i := 97) rfl)) (hw _ (List.mem_of_getElem? (i := 100) rfl)) (hw _ (List.mem_of_getElem? (i := 98) rfl)) (hw _ (List.mem_of_getElem? (i := 99) rfl)) e30 V_t V_d (us := vw) (by decide) hi nz (by show 0 + _ ≤ _; omega) hz (fun j hj => by show _ = if _ then us.getD (0 + _) _ else _; rw [Nat.zero_add]; exact hus j hj) (g := (mkF m 22 #[.val (.ref a), .val (.ref d), .val (.int i), .val (.int (0 : Int32))] [(.int z), (.int i), (.ref d), (.int (0 : Int32)), (.ref t)])) rfl (by rw [hml]; rfl) rfl (hb hby d17_22) (by decide) (W := 0) (by show 2 * 0 + _ ≤ _; exact Nat.le_of_eq rfl) (by decide)
  have N32 := Fr.app N28 (Fq32 n0 g_d)
  have Z_ : n0 ≤ h32.size := Nat.le_trans Z_ K32.1
  have O_ := O_.keep K32 (allS g_d all0)
  have Kp := Kp.trans K32 (allS (Or.inl (List.mem_of_getElem? (i := 0) rfl)) all0)
  have V_d := V32'
  refine OwnGo.st st32 ?_
  show OwnGo p e below s _ _ _ T32 (mkF m 25 #[.val (.ref a), .val (.ref d), .val (.int i), .val (.int (0 : Int32))] [])
  refine OwnGo.st (fun _ kk => XS.goto X32.here hx rfl (pc0 := 25) (pc' := 43) rfl (hb hby d17_25) (by decide) (by decide) kk) ?_
  show OwnGo p e below s _ _ _ T32 (mkF m 43 #[.val (.ref a), .val (.ref d), .val (.int i), .val (.int (0 : Int32))] [])
  exact OwnGo.retV X32 hx hret hlk (hb hby d17_43) (by show QgetB Z a t kc z us d kd vs vw i zc h0 n0 _ T32.heap _; rw [e32]; exact ⟨rfl, N32, Kp, V_d⟩) (by decide) (by decide)
def QputS (Z : State) (o : Addr) (a : Addr) (t : Addr) (kc : ClassId) (z : Int32) (us : List Value) (d : Addr) (kd : ClassId) (vs : List Value) (vw : List Value) (i : Int32) (zc : Int32) (h0 : Heap) (n0 : Nat) (v : Option Value) (h : Heap) (L : List Loc) : Prop := v = none ∧ Fr n0 L ∧ Keep h0 h [d] ∧ Arv Z h d kd .byte (16 : Int32) vw (.int (0 : Int32))
set_option maxRecDepth 65536 in
set_option maxHeartbeats 40000000 in
theorem rmputS (l : Launch) (Z : State) (a0 : Array Value) (hw : ∀ d ∈ tables_1, d.before a0 Z = true) (ws : List Jvm.Cond) (o : Addr) (a : Addr) (t : Addr) (kc : ClassId) (z : Int32) (us : List Value) (d : Addr) (kd : ClassId) (vs : List Value) (vw : List Value) (i : Int32) (zc : Int32) (h0 : Heap) (n0 : Nat) (Z0 : n0 ≤ h0.size) (O_ : Old Z n0 h0) (S_CS : Sta Z Z.heap "java/lang/String" "COMPACT_STRINGS" "Z" (.int zc)) (P_CS : ¬ zc = (0 : Int32)) (E_o : Exa Z h0 o "java/lang/StringBuilder") (Fv : Fld Z h0 o "java/lang/AbstractStringBuilder" "value" "[B" (.ref d)) (Fc : Fld Z h0 o "java/lang/AbstractStringBuilder" "coder" "B" (.int (0 : Int32))) (V_d : Arv Z h0 d kd .byte (16 : Int32) vs (.int (0 : Int32))) (E_a : Exa Z h0 a "java/lang/String") (Fa : Fld Z h0 a "java/lang/String" "coder" "B" (.int (0 : Int32))) (Fw : Fld Z h0 a "java/lang/String" "value" "[B" (.ref t)) (V_t : Arv Z h0 t kc .byte z us (.int (0 : Int32))) (hi : ¬ i < (0 : Int32)) (hz : i.toNatClampNeg + z.toNatClampNeg ≤ 16) (hus : ∀ j, j < 16 → vw.getD j (.int (0 : Int32)) = if i.toNatClampNeg ≤ j ∧ j < i.toNatClampNeg + z.toNatClampNeg then us.getD (j - i.toNatClampNeg) (.int (0 : Int32)) else vs.getD j (.int (0 : Int32))) (g_d : n0 ≤ d) :
    MetFree l (⟨"java/lang/AbstractStringBuilder", "putStringAt", "(ILjava/lang/String;)V"⟩ : MethodName) (head1 (Jvm.Cond.code (⟨"java/lang/AbstractStringBuilder", "putStringAt", "(ILjava/lang/String;)V"⟩ : MethodName) jdk_68_method_73_code 3 none :: ws) ({ frames := 2, cells := 0, slots := 0, locals := 33 } : Room)) (fun as_ UU => as_ = #[(.ref o), (.int i), (.ref a)] ∧ Z.Warmed39 UU.vm ∧ UU.heap = h0) (fun _ _ _ _ _ => True) (fun _ UU oo UU' => ∃ vv LL, oo = .returned vv ∧ (QputS Z o a t kc z us d kd vs vw i zc h0 n0) vv UU'.heap LL ∧ FrameEnd UU oo UU' LL ({ frames := 2, cells := 0, slots := 0, locals := 33 } : Room).cells ({ frames := 2, cells := 0, slots := 0, locals := 33 } : Room).slots) := by
  refine own_met (plainFor_of_name pn_9) ?_
  intro p e s m below meth c s₁ X0 hx hby hml hret hlk hown hnm hZ e0
  have N0 := Fr.nil n0
  have Z_ := Z0
  refine OwnGo.cast (ef_putS m o i a) ?_
  show OwnGo p e below s _ _ _ s₁ (mkF m 0 #[.val (.ref o), .val (.int i), .val (.ref a)] [])
  refine OwnGo.st (fun _ kk => XS.aloadN X0.here hx rfl (hb hby d15_0) rfl rfl  kk) ?_
  show OwnGo p e below s _ _ _ s₁ (mkF m 1 #[.val (.ref o), .val (.int i), .val (.ref a)] [(.ref o)])
  refine OwnGo.st (fun _ kk => XS.aloadN X0.here hx rfl (hb hby d15_1) rfl rfl  kk) ?_
  show OwnGo p e below s _ _ _ s₁ (mkF m 2 #[.val (.ref o), .val (.int i), .val (.ref a)] [(.ref a), (.ref o)])
  obtain ⟨cq33, q33, q33'⟩ := E_o.cell
  obtain ⟨_, _, ⟨T33, L33, k33, n33⟩, -, X33, ⟨Lc33, hQ33, l33, y33, z33⟩, st33⟩ := X0.privateBack hx (y := (⟨"java/lang/AbstractStringBuilder", "inflateIfNeededFor", "(Ljava/lang/String;)V"⟩ : MethodName)) hown (mvT hZ (hw _ (List.mem_of_getElem? (i := 86) rfl))) (mvT hZ (hw _ (List.mem_of_getElem? (i := 87) rfl))) (own_selp (z := (⟨"java/lang/AbstractStringBuilder", "ensureCapacityInternal", "(I)V"⟩ : MethodName)) (mvT hZ (hw _ (List.mem_of_getElem? (i := 79) rfl))) rfl (Cond.privateMethod_at (mvP hZ (hw _ (List.mem_of_getElem? (i := 88) rfl)) (args := #[]))) (mvT hZ (hw _ (List.mem_of_getElem? (i := 87) rfl))) (by decide)) (Cond.privateMethod_at (mvP hZ (hw _ (List.mem_of_getElem? (i := 88) rfl)) (args := #[]))) (mvT hZ (hw _ (List.mem_of_getElem? (i := 90) rfl))) (by decide) (backOf (W := 0) (rminfl l Z a0 hw [] o a zc h0 n0 Z_ O_ S_CS P_CS Fc E_a Fa) hZ (hw _ (List.mem_of_getElem? (i := 90) rfl)) (hw _ (List.mem_of_getElem? (i := 46) rfl)) (by decide) (by decide)) (g := (mkF m 2 #[.val (.ref o), .val (.int i), .val (.ref a)] [(.ref a), (.ref o)])) rfl (by rw [hml]; rfl) (Steps.refl _) (a := o) (by rw [e0]; exact q33) q33' (argsL := [(.ref a)]) (rest := []) (lenOf pd_6 rfl) rfl (by show 2 * 0 + _ ≤ _; exact Nat.le_of_eq rfl) (hb hby d15_2) (fun _ _ => ⟨rfl, e0, (by decide : 0 + 0 ≤ _), (by decide : 0 + 0 ≤ _)⟩)
  dsimp only [Pt.U, Pt.locs, Pt.cells, Pt.slots] at X33 l33 y33 z33 st33 hQ33
  subst l33 y33 z33
  obtain ⟨rfl, N33q, e33⟩ := hQ33
  have N33 := Fr.app N0 N33q
  refine OwnGo.st (fun _ kk => st33.trans kk) ?_
  show OwnGo p e below s _ _ _ T33 (mkF m 5 #[.val (.ref o), .val (.int i), .val (.ref a)] [])
  refine OwnGo.st (fun _ kk => XS.aloadN X33.here hx rfl (hb hby d15_5) rfl rfl  kk) ?_
  show OwnGo p e below s _ _ _ T33 (mkF m 6 #[.val (.ref o), .val (.int i), .val (.ref a)] [(.ref a)])
  refine OwnGo.st (fun _ kk => XS.aloadN X33.here hx rfl (hb hby d15_6) rfl rfl  kk) ?_
  show OwnGo p e below s _ _ _ T33 (mkF m 7 #[.val (.ref o), .val (.int i), .val (.ref a)] [(.ref o), (.ref a)])
  obtain ⟨T34, X34, e34, st34⟩ := getF X33 hx hZ hown (host := "") (Or.inl (hw _ (List.mem_of_getElem? (i := 50) rfl))) Via.refl e33 Fv (g := (mkF m 7 #[.val (.ref o), .val (.int i), .val (.ref a)] [(.ref o), (.ref a)])) rfl rfl (hb hby d15_7)
  refine OwnGo.st st34 ?_
  show OwnGo p e below s _ _ _ T34 (mkF m 10 #[.val (.ref o), .val (.int i), .val (.ref a)] [(.ref d), (.ref a)])
  refine OwnGo.st (fun _ kk => XS.iloadN X34.here hx rfl (hb hby d15_10) rfl  kk) ?_
  show OwnGo p e below s _ _ _ T34 (mkF m 11 #[.val (.ref o), .val (.int i), .val (.ref a)] [(.int i), (.ref d), (.ref a)])
  refine OwnGo.st (fun _ kk => XS.aloadN X34.here hx rfl (hb hby d15_11) rfl rfl  kk) ?_
  show OwnGo p e below s _ _ _ T34 (mkF m 12 #[.val (.ref o), .val (.int i), .val (.ref a)] [(.ref o), (.int i), (.ref d), (.ref a)])
  obtain ⟨T35, X35, e35, st35⟩ := getF X34 hx hZ hown (host := "") (Or.inl (hw _ (List.mem_of_getElem? (i := 52) rfl))) Via.refl e34 Fc (g := (mkF m 12 #[.val (.ref o), .val (.int i), .val (.ref a)] [(.ref o), (.int i), (.ref d), (.ref a)])) rfl rfl (hb hby d15_12)
  refine OwnGo.st st35 ?_
  show OwnGo p e below s _ _ _ T35 (mkF m 15 #[.val (.ref o), .val (.int i), .val (.ref a)] [(.int (0 : Int32)), (.int i), (.ref d), (.ref a)])
  obtain ⟨cq36, kq36, q36a, q36b, q36c⟩ := isOf hZ e35 E_a
  obtain ⟨_, _, ⟨T36, L36, k36, n36⟩, -, X36, ⟨Lc36, hQ36, l36, y36, z36⟩, st36⟩ := X35.virtualBack hx (y := (⟨"java/lang/String", "getBytes", "([BIB)V"⟩ : MethodName)) (z := (⟨"java/lang/String", "getBytes", "([BIB)V"⟩ : MethodName)) hown (mvT hZ (hw _ (List.mem_of_getElem? (i := 92) rfl))) (mvT hZ (hw _ (List.mem_of_getElem? (i := 93) rfl))) (notFace_of_selects (args := #[]) (mvT hZ (hw _ (List.mem_of_getElem? (i := 95) rfl)))) (mvT hZ (hw _ (List.mem_of_getElem? (i := 95) rfl))) (mvT hZ (hw _ (List.mem_of_getElem? (i := 94) rfl))) (by decide) (backOf (W := 0) (rmgetB l Z a0 hw [] a t kc z us d kd vs vw i zc h0 n0 Z_ O_ S_CS P_CS E_a Fa Fw V_t V_d hi hz hus g_d) hZ (hw _ (List.mem_of_getElem? (i := 96) rfl)) (hw _ (List.mem_of_getElem? (i := 3) rfl)) (by decide) (by decide)) q36a q36c (g := (mkF m 15 #[.val (.ref o), .val (.int i), .val (.ref a)] [(.int (0 : Int32)), (.int i), (.ref d), (.ref a)])) rfl (by rw [hml]; rfl) (Steps.refl _) (argsL := [(.ref d), (.int i), (.int (0 : Int32))]) (rest := []) (lenOf pd_7 rfl) rfl (by show 2 * 0 + _ ≤ _; exact Nat.le_of_eq rfl) (hb hby d15_15) (fun _ _ => ⟨rfl, e35, (by decide : 0 + 0 ≤ _), (by decide : 0 + 0 ≤ _)⟩)
  dsimp only [Pt.U, Pt.locs, Pt.cells, Pt.slots] at X36 l36 y36 z36 st36 hQ36
  subst l36 y36 z36
  obtain ⟨rfl, N36q, K36, V36⟩ := hQ36
  have N36 := Fr.app N33 N36q
  have Z_ : n0 ≤ T36.heap.size := Nat.le_trans Z_ K36.1
  have E_a := E_a.keep K36
  have O_ := O_.keep K36 (allS g_d all0)
  refine OwnGo.st (fun _ kk => st36.trans kk) ?_
  show OwnGo p e below s _ _ _ T36 (mkF m 18 #[.val (.ref o), .val (.int i), .val (.ref a)] [])
  exact OwnGo.retV X36 hx hret hlk (hb hby d15_18) (by show QputS Z o a t kc z us d kd vs vw i zc h0 n0 _ T36.heap _; exact ⟨rfl, N36, K36, V36⟩) (by decide) (by decide)
def QabA (Z : State) (o : Addr) (a : Addr) (t : Addr) (kc : ClassId) (z : Int32) (us : List Value) (d : Addr) (kd : ClassId) (vs : List Value) (vw : List Value) (i : Int32) (zc : Int32) (h0 : Heap) (n0 : Nat) (v : Option Value) (h : Heap) (L : List Loc) : Prop := v = some (.ref o) ∧ Fr n0 L ∧ Keep h0 h [o, d] ∧ Exa Z h o "java/lang/StringBuilder" ∧ Fld Z h o "java/lang/AbstractStringBuilder" "value" "[B" (.ref d) ∧ Fld Z h o "java/lang/AbstractStringBuilder" "coder" "B" (.int (0 : Int32)) ∧ Fld Z h o "java/lang/AbstractStringBuilder" "count" "I" (.int (i + z)) ∧ Arv Z h d kd .byte (16 : Int32) vw (.int (0 : Int32))
set_option maxRecDepth 65536 in
set_option maxHeartbeats 40000000 in
theorem rmabA (l : Launch) (Z : State) (a0 : Array Value) (hw : ∀ d ∈ tables_1, d.before a0 Z = true) (ws : List Jvm.Cond) (o : Addr) (a : Addr) (t : Addr) (kc : ClassId) (z : Int32) (us : List Value) (d : Addr) (kd : ClassId) (vs : List Value) (vw : List Value) (i : Int32) (zc : Int32) (h0 : Heap) (n0 : Nat) (Z0 : n0 ≤ h0.size) (O_ : Old Z n0 h0) (S_CS : Sta Z Z.heap "java/lang/String" "COMPACT_STRINGS" "Z" (.int zc)) (P_CS : ¬ zc = (0 : Int32)) (E_o : Exa Z h0 o "java/lang/StringBuilder") (Fv : Fld Z h0 o "java/lang/AbstractStringBuilder" "value" "[B" (.ref d)) (Fc : Fld Z h0 o "java/lang/AbstractStringBuilder" "coder" "B" (.int (0 : Int32))) (Fn : Fld Z h0 o "java/lang/AbstractStringBuilder" "count" "I" (.int i)) (V_d : Arv Z h0 d kd .byte (16 : Int32) vs (.int (0 : Int32))) (E_a : Exa Z h0 a "java/lang/String") (Fa : Fld Z h0 a "java/lang/String" "coder" "B" (.int (0 : Int32))) (Fw : Fld Z h0 a "java/lang/String" "value" "[B" (.ref t)) (V_t : Arv Z h0 t kc .byte z us (.int (0 : Int32))) (hi : ¬ i < (0 : Int32)) (hz : i.toNatClampNeg + z.toNatClampNeg ≤ 16) (hus : ∀ j, j < 16 → vw.getD j (.int (0 : Int32)) = if i.toNatClampNeg ≤ j ∧ j < i.toNatClampNeg + z.toNatClampNeg then us.getD (j - i.toNatClampNeg) (.int (0 : Int32)) else vs.getD j (.int (0 : Int32))) (hcap : ¬ (0 : Int32) < (i + z) - (16 : Int32)) (g_o : n0 ≤ o) (g_d : n0 ≤ d) (ne_o_d : o ≠ d) :
    MetFree l (⟨"java/lang/AbstractStringBuilder", "append", "(Ljava/lang/String;)Ljava/lang/AbstractStringBuilder;"⟩ : MethodName) (head1 (Jvm.Cond.code (⟨"java/lang/AbstractStringBuilder", "append", "(Ljava/lang/String;)Ljava/lang/AbstractStringBuilder;"⟩ : MethodName) jdk_68_method_22_code 3 (some (.object "java/lang/AbstractStringBuilder")) :: ws) ({ frames := 3, cells := 0, slots := 0, locals := 47 } : Room)) (fun as_ UU => as_ = #[(.ref o), (.ref a)] ∧ Z.Warmed39 UU.vm ∧ UU.heap = h0) (fun _ _ _ _ _ => True) (fun _ UU oo UU' => ∃ vv LL, oo = .returned vv ∧ (QabA Z o a t kc z us d kd vs vw i zc h0 n0) vv UU'.heap LL ∧ FrameEnd UU oo UU' LL ({ frames := 3, cells := 0, slots := 0, locals := 47 } : Room).cells ({ frames := 3, cells := 0, slots := 0, locals := 47 } : Room).slots) := by
  refine own_met (plainFor_of_name pn_9) ?_
  intro p e s m below meth c s₁ X0 hx hby hml hret hlk hown hnm hZ e0
  have N0 := Fr.nil n0
  have Z_ := Z0
  refine OwnGo.cast (ef_abA m o a) ?_
  show OwnGo p e below s _ _ _ s₁ (mkF m 0 #[.val (.ref o), .val (.ref a), .unset] [])
  have Kp : Keep h0 h0 [o, d] := Keep.refl h0 [o, d]
  refine OwnGo.st (fun _ kk => XS.aloadN X0.here hx rfl (hb hby d11_0) rfl rfl  kk) ?_
  show OwnGo p e below s _ _ _ s₁ (mkF m 1 #[.val (.ref o), .val (.ref a), .unset] [(.ref a)])
  refine OwnGo.st (fun _ kk => XS.ifnonnullYes X0.here hx rfl (pc0 := 1) (pc' := 9) rfl (hb hby d11_1) rfl (by decide) (by decide) kk) ?_
  show OwnGo p e below s _ _ _ s₁ (mkF m 9 #[.val (.ref o), .val (.ref a), .unset] [])
  refine OwnGo.st (fun _ kk => XS.aloadN X0.here hx rfl (hb hby d11_9) rfl rfl  kk) ?_
  show OwnGo p e below s _ _ _ s₁ (mkF m 10 #[.val (.ref o), .val (.ref a), .unset] [(.ref a)])
  obtain ⟨cq37, kq37, q37a, q37b, q37c⟩ := isOf hZ e0 E_a
  obtain ⟨_, _, ⟨T37, L37, k37, n37⟩, -, X37, ⟨Lc37, hQ37, l37, y37, z37⟩, st37⟩ := X0.virtualBack hx (y := (⟨"java/lang/String", "length", "()I"⟩ : MethodName)) (z := (⟨"java/lang/String", "length", "()I"⟩ : MethodName)) hown (mvT hZ (hw _ (List.mem_of_getElem? (i := 64) rfl))) (mvT hZ (hw _ (List.mem_of_getElem? (i := 65) rfl))) (notFace_of_selects (args := #[]) (mvT hZ (hw _ (List.mem_of_getElem? (i := 67) rfl)))) (mvT hZ (hw _ (List.mem_of_getElem? (i := 67) rfl))) (mvT hZ (hw _ (List.mem_of_getElem? (i := 66) rfl))) (by decide) (backOf (W := 0) (rmlength l Z a0 hw [] a t kc z us zc h0 n0 Z_ O_ S_CS P_CS E_a Fa Fw V_t) hZ (hw _ (List.mem_of_getElem? (i := 68) rfl)) (hw _ (List.mem_of_getElem? (i := 3) rfl)) (by decide) (by decide)) q37a q37c (g := (mkF m 10 #[.val (.ref o), .val (.ref a), .unset] [(.ref a)])) rfl (by rw [hml]; rfl) (Steps.refl _) (argsL := []) (rest := []) (lenOf pd_8 rfl) rfl (by show 2 * 0 + _ ≤ _; exact Nat.le_of_eq rfl) (hb hby d11_10) (fun _ _ => ⟨rfl, e0, (by decide : 0 + 0 ≤ _), (by decide : 0 + 0 ≤ _)⟩)
  dsimp only [Pt.U, Pt.locs, Pt.cells, Pt.slots] at X37 l37 y37 z37 st37 hQ37
  subst l37 y37 z37
  obtain ⟨rfl, N37q, e37⟩ := hQ37
  have N37 := Fr.app N0 N37q
  refine OwnGo.st (fun _ kk => st37.trans kk) ?_
  show OwnGo p e below s _ _ _ T37 (mkF m 13 #[.val (.ref o), .val (.ref a), .unset] [(.int z)])
  refine OwnGo.st (fun _ kk => XS.istoreN X37.here hx rfl (hb hby d11_13) rfl (l' := #[.val (.ref o), .val (.ref a), .val (.int z)]) rfl kk) ?_
  show OwnGo p e below s _ _ _ T37 (mkF m 14 #[.val (.ref o), .val (.ref a), .val (.int z)] [])
  refine OwnGo.st (fun _ kk => XS.aloadN X37.here hx rfl (hb hby d11_14) rfl rfl  kk) ?_
  show OwnGo p e below s _ _ _ T37 (mkF m 15 #[.val (.ref o), .val (.ref a), .val (.int z)] [(.ref o)])
  refine OwnGo.st (fun _ kk => XS.aloadN X37.here hx rfl (hb hby d11_15) rfl rfl  kk) ?_
  show OwnGo p e below s _ _ _ T37 (mkF m 16 #[.val (.ref o), .val (.ref a), .val (.int z)] [(.ref o), (.ref o)])
  obtain ⟨T38, X38, e38, st38⟩ := getF X37 hx hZ hown (host := "") (Or.inl (hw _ (List.mem_of_getElem? (i := 74) rfl))) Via.refl e37 Fn (g := (mkF m 16 #[.val (.ref o), .val (.ref a), .val (.int z)] [(.ref o), (.ref o)])) rfl rfl (hb hby d11_16)
  refine OwnGo.st st38 ?_
  show OwnGo p e below s _ _ _ T38 (mkF m 19 #[.val (.ref o), .val (.ref a), .val (.int z)] [(.int i), (.ref o)])
  refine OwnGo.st (fun _ kk => XS.iloadN X38.here hx rfl (hb hby d11_19) rfl  kk) ?_
  show OwnGo p e below s _ _ _ T38 (mkF m 20 #[.val (.ref o), .val (.ref a), .val (.int z)] [(.int z), (.int i), (.ref o)])
  refine OwnGo.st (fun _ kk => XS.iadd X38.here hx rfl (hb hby d11_20) rfl kk) ?_
  show OwnGo p e below s _ _ _ T38 (mkF m 21 #[.val (.ref o), .val (.ref a), .val (.int z)] [(.int (i + z)), (.ref o)])
  obtain ⟨cq39, q39, q39'⟩ := E_o.cell
  obtain ⟨_, _, ⟨T39, L39, k39, n39⟩, -, X39, ⟨Lc39, hQ39, l39, y39, z39⟩, st39⟩ := X38.privateBack hx (y := (⟨"java/lang/AbstractStringBuilder", "ensureCapacityInternal", "(I)V"⟩ : MethodName)) hown (mvT hZ (hw _ (List.mem_of_getElem? (i := 76) rfl))) (mvT hZ (hw _ (List.mem_of_getElem? (i := 77) rfl))) (own_selp (z := (⟨"java/lang/AbstractStringBuilder", "ensureCapacityInternal", "(I)V"⟩ : MethodName)) (mvT hZ (hw _ (List.mem_of_getElem? (i := 79) rfl))) rfl (Cond.privateMethod_at (mvP hZ (hw _ (List.mem_of_getElem? (i := 78) rfl)) (args := #[]))) (mvT hZ (hw _ (List.mem_of_getElem? (i := 77) rfl))) (by decide)) (Cond.privateMethod_at (mvP hZ (hw _ (List.mem_of_getElem? (i := 78) rfl)) (args := #[]))) (mvT hZ (hw _ (List.mem_of_getElem? (i := 80) rfl))) (by decide) (backOf (W := 0) (rmensC l Z a0 hw [] o d kd vs (i + z) h0 n0 Z_ Fv Fc V_d hcap) hZ (hw _ (List.mem_of_getElem? (i := 80) rfl)) (hw _ (List.mem_of_getElem? (i := 46) rfl)) (by decide) (by decide)) (g := (mkF m 21 #[.val (.ref o), .val (.ref a), .val (.int z)] [(.int (i + z)), (.ref o)])) rfl (by rw [hml]; rfl) (Steps.refl _) (a := o) (by rw [e38]; exact q39) q39' (argsL := [(.int (i + z))]) (rest := []) (lenOf pd_5 rfl) rfl (by show 2 * 0 + _ ≤ _; exact Nat.le_of_eq rfl) (hb hby d11_21) (fun _ _ => ⟨rfl, e38, (by decide : 0 + 0 ≤ _), (by decide : 0 + 0 ≤ _)⟩)
  dsimp only [Pt.U, Pt.locs, Pt.cells, Pt.slots] at X39 l39 y39 z39 st39 hQ39
  subst l39 y39 z39
  obtain ⟨rfl, N39q, e39⟩ := hQ39
  have N39 := Fr.app N37 N39q
  refine OwnGo.st (fun _ kk => st39.trans kk) ?_
  show OwnGo p e below s _ _ _ T39 (mkF m 24 #[.val (.ref o), .val (.ref a), .val (.int z)] [])
  refine OwnGo.st (fun _ kk => XS.aloadN X39.here hx rfl (hb hby d11_24) rfl rfl  kk) ?_
  show OwnGo p e below s _ _ _ T39 (mkF m 25 #[.val (.ref o), .val (.ref a), .val (.int z)] [(.ref o)])
  refine OwnGo.st (fun _ kk => XS.aloadN X39.here hx rfl (hb hby d11_25) rfl rfl  kk) ?_
  show OwnGo p e below s _ _ _ T39 (mkF m 26 #[.val (.ref o), .val (.ref a), .val (.int z)] [(.ref o), (.ref o)])
  obtain ⟨T40, X40, e40, st40⟩ := getF X39 hx hZ hown (host := "") (Or.inl (hw _ (List.mem_of_getElem? (i := 74) rfl))) Via.refl e39 Fn (g := (mkF m 26 #[.val (.ref o), .val (.ref a), .val (.int z)] [(.ref o), (.ref o)])) rfl rfl (hb hby d11_26)
  refine OwnGo.st st40 ?_
  show OwnGo p e below s _ _ _ T40 (mkF m 29 #[.val (.ref o), .val (.ref a), .val (.int z)] [(.int i), (.ref o)])
  refine OwnGo.st (fun _ kk => XS.aloadN X40.here hx rfl (hb hby d11_29) rfl rfl  kk) ?_
  show OwnGo p e below s _ _ _ T40 (mkF m 30 #[.val (.ref o), .val (.ref a), .val (.int z)] [(.ref a), (.int i), (.ref o)])
  obtain ⟨cq41, q41, q41'⟩ := E_o.cell
  obtain ⟨_, _, ⟨T41, L41, k41, n41⟩, -, X41, ⟨Lc41, hQ41, l41, y41, z41⟩, st41⟩ := X40.privateBack hx (y := (⟨"java/lang/AbstractStringBuilder", "putStringAt", "(ILjava/lang/String;)V"⟩ : MethodName)) hown (mvT hZ (hw _ (List.mem_of_getElem? (i := 81) rfl))) (mvT hZ (hw _ (List.mem_of_getElem? (i := 82) rfl))) (own_selp (z := (⟨"java/lang/AbstractStringBuilder", "ensureCapacityInternal", "(I)V"⟩ : MethodName)) (mvT hZ (hw _ (List.mem_of_getElem? (i := 79) rfl))) rfl (Cond.privateMethod_at (mvP hZ (hw _ (List.mem_of_getElem? (i := 83) rfl)) (args := #[]))) (mvT hZ (hw _ (List.mem_of_getElem? (i := 82) rfl))) (by decide)) (Cond.privateMethod_at (mvP hZ (hw _ (List.mem_of_getElem? (i := 83) rfl)) (args := #[]))) (mvT hZ (hw _ (List.mem_of_getElem? (i := 85) rfl))) (by decide) (backOf (W := 0) (rmputS l Z a0 hw [] o a t kc z us d kd vs vw i zc h0 n0 Z_ O_ S_CS P_CS E_o Fv Fc V_d E_a Fa Fw V_t hi hz hus g_d) hZ (hw _ (List.mem_of_getElem? (i := 85) rfl)) (hw _ (List.mem_of_getElem? (i := 46) rfl)) (by decide) (by decide)) (g := (mkF m 30 #[.val (.ref o), .val (.ref a), .val (.int z)] [(.ref a), (.int i), (.ref o)])) rfl (by rw [hml]; rfl) (Steps.refl _) (a := o) (by rw [e40]; exact q41) q41' (argsL := [(.int i), (.ref a)]) (rest := []) (lenOf pd_9 rfl) rfl (by show 2 * 0 + _ ≤ _; exact Nat.le_of_eq rfl) (hb hby d11_30) (fun _ _ => ⟨rfl, e40, (by decide : 0 + 0 ≤ _), (by decide : 0 + 0 ≤ _)⟩)
  dsimp only [Pt.U, Pt.locs, Pt.cells, Pt.slots] at X41 l41 y41 z41 st41 hQ41
  subst l41 y41 z41
  obtain ⟨rfl, N41q, K41, V41⟩ := hQ41
  have N41 := Fr.app N39 N41q
  have Z_ : n0 ≤ T41.heap.size := Nat.le_trans Z_ K41.1
  have Fv := Fv.keep K41 (ninS ne_o_d nin0)
  have Fc := Fc.keep K41 (ninS ne_o_d nin0)
  have E_o := E_o.keep K41
  have Fn := Fn.keep K41 (ninS ne_o_d nin0)
  have O_ := O_.keep K41 (allS g_d all0)
  have Kp := Kp.trans K41 (allS (Or.inl (List.mem_of_getElem? (i := 1) rfl)) all0)
  refine OwnGo.st (fun _ kk => st41.trans kk) ?_
  show OwnGo p e below s _ _ _ T41 (mkF m 33 #[.val (.ref o), .val (.ref a), .val (.int z)] [])
  refine OwnGo.st (fun _ kk => XS.aloadN X41.here hx rfl (hb hby d11_33) rfl rfl  kk) ?_
  show OwnGo p e below s _ _ _ T41 (mkF m 34 #[.val (.ref o), .val (.ref a), .val (.int z)] [(.ref o)])
  refine OwnGo.st (fun _ kk => XS.dup X41.here hx rfl (hb hby d11_34) rfl rfl kk) ?_
  show OwnGo p e below s _ _ _ T41 (mkF m 35 #[.val (.ref o), .val (.ref a), .val (.int z)] [(.ref o), (.ref o)])
  obtain ⟨T42, X42, e42, st42⟩ := getF X41 hx hZ hown (host := "") (Or.inl (hw _ (List.mem_of_getElem? (i := 74) rfl))) Via.refl rfl Fn (g := (mkF m 35 #[.val (.ref o), .val (.ref a), .val (.int z)] [(.ref o), (.ref o)])) rfl rfl (hb hby d11_35)
  refine OwnGo.st st42 ?_
  show OwnGo p e below s _ _ _ T42 (mkF m 38 #[.val (.ref o), .val (.ref a), .val (.int z)] [(.int i), (.ref o)])
  refine OwnGo.st (fun _ kk => XS.iloadN X42.here hx rfl (hb hby d11_38) rfl  kk) ?_
  show OwnGo p e below s _ _ _ T42 (mkF m 39 #[.val (.ref o), .val (.ref a), .val (.int z)] [(.int z), (.int i), (.ref o)])
  refine OwnGo.st (fun _ kk => XS.iadd X42.here hx rfl (hb hby d11_39) rfl kk) ?_
  show OwnGo p e below s _ _ _ T42 (mkF m 40 #[.val (.ref o), .val (.ref a), .val (.int z)] [(.int (i + z)), (.ref o)])
  obtain ⟨T43, h43, X43, e43, W43, st43⟩ := putF X42 hx hZ hown (host := "") (Or.inl (hw _ (List.mem_of_getElem? (i := 74) rfl))) Via.refl e42 Fn E_o (Or.inl (hw _ (List.mem_of_getElem? (i := 75) rfl))) (hw _ (List.mem_of_getElem? (i := 37) rfl)) (ty := .int) (by decide) rfl rfl (g := (mkF m 40 #[.val (.ref o), .val (.ref a), .val (.int z)] [(.int (i + z)), (.ref o)])) rfl rfl (hb hby d11_40)
  have Fv := Fv.other W43 (Or.inr (slot_ne (Or.inl (hw _ (List.mem_of_getElem? (i := 51) rfl))) (Or.inl (hw _ (List.mem_of_getElem? (i := 75) rfl))) (by decide) (t := (.array .byte)) (t' := .int) (by decide) (by decide)))
  have Fc := Fc.other W43 (Or.inr (slot_ne (Or.inl (hw _ (List.mem_of_getElem? (i := 53) rfl))) (Or.inl (hw _ (List.mem_of_getElem? (i := 75) rfl))) (by decide) (t := .byte) (t' := .int) (by decide) (by decide)))
  have E_o := E_o.wr W43
  have Fn := Fn.same W43
  have V41 := V41.other W43 (Ne.symm ne_o_d)
  have O_ := O_.wr W43 g_o
  have Kp := Kp.wr W43 (Or.inl (List.mem_of_getElem? (i := 0) rfl))
  have N43 := Fr.snoc X43 N41 g_o
  have Z_ : n0 ≤ h43.size := by rw [W43.size]; exact Z_
  refine OwnGo.st st43 ?_
  show OwnGo p e below s _ _ _ T43 (mkF m 43 #[.val (.ref o), .val (.ref a), .val (.int z)] [])
  refine OwnGo.st (fun _ kk => XS.aloadN X43.here hx rfl (hb hby d11_43) rfl rfl  kk) ?_
  show OwnGo p e below s _ _ _ T43 (mkF m 44 #[.val (.ref o), .val (.ref a), .val (.int z)] [(.ref o)])
  exact OwnGo.ret X43 hx hret hlk rfl (Or.inr (Or.inr (Or.inr (Or.inr ⟨rfl, rfl, rfl⟩)))) (hb hby d11_44) (by show QabA Z o a t kc z us d kd vs vw i zc h0 n0 _ T43.heap _; rw [e43]; exact ⟨rfl, N43, Kp, E_o, Fv, Fc, Fn, V41⟩) (by decide) (by decide)
def QsbA (Z : State) (o : Addr) (a : Addr) (t : Addr) (kc : ClassId) (z : Int32) (us : List Value) (d : Addr) (kd : ClassId) (vs : List Value) (vw : List Value) (i : Int32) (zc : Int32) (h0 : Heap) (n0 : Nat) (v : Option Value) (h : Heap) (L : List Loc) : Prop := v = some (.ref o) ∧ Fr n0 L ∧ Keep h0 h [o, d] ∧ Exa Z h o "java/lang/StringBuilder" ∧ Fld Z h o "java/lang/AbstractStringBuilder" "value" "[B" (.ref d) ∧ Fld Z h o "java/lang/AbstractStringBuilder" "coder" "B" (.int (0 : Int32)) ∧ Fld Z h o "java/lang/AbstractStringBuilder" "count" "I" (.int (i + z)) ∧ Arv Z h d kd .byte (16 : Int32) vw (.int (0 : Int32))
set_option maxRecDepth 65536 in
set_option maxHeartbeats 40000000 in
theorem rmsbA (l : Launch) (Z : State) (a0 : Array Value) (hw : ∀ d ∈ tables_1, d.before a0 Z = true) (ws : List Jvm.Cond) (o : Addr) (a : Addr) (t : Addr) (kc : ClassId) (z : Int32) (us : List Value) (d : Addr) (kd : ClassId) (vs : List Value) (vw : List Value) (i : Int32) (zc : Int32) (h0 : Heap) (n0 : Nat) (Z0 : n0 ≤ h0.size) (O_ : Old Z n0 h0) (S_CS : Sta Z Z.heap "java/lang/String" "COMPACT_STRINGS" "Z" (.int zc)) (P_CS : ¬ zc = (0 : Int32)) (E_o : Exa Z h0 o "java/lang/StringBuilder") (Fv : Fld Z h0 o "java/lang/AbstractStringBuilder" "value" "[B" (.ref d)) (Fc : Fld Z h0 o "java/lang/AbstractStringBuilder" "coder" "B" (.int (0 : Int32))) (Fn : Fld Z h0 o "java/lang/AbstractStringBuilder" "count" "I" (.int i)) (V_d : Arv Z h0 d kd .byte (16 : Int32) vs (.int (0 : Int32))) (E_a : Exa Z h0 a "java/lang/String") (Fa : Fld Z h0 a "java/lang/String" "coder" "B" (.int (0 : Int32))) (Fw : Fld Z h0 a "java/lang/String" "value" "[B" (.ref t)) (V_t : Arv Z h0 t kc .byte z us (.int (0 : Int32))) (hi : ¬ i < (0 : Int32)) (hz : i.toNatClampNeg + z.toNatClampNeg ≤ 16) (hus : ∀ j, j < 16 → vw.getD j (.int (0 : Int32)) = if i.toNatClampNeg ≤ j ∧ j < i.toNatClampNeg + z.toNatClampNeg then us.getD (j - i.toNatClampNeg) (.int (0 : Int32)) else vs.getD j (.int (0 : Int32))) (hcap : ¬ (0 : Int32) < (i + z) - (16 : Int32)) (g_o : n0 ≤ o) (g_d : n0 ≤ d) (ne_o_d : o ≠ d) :
    MetFree l (⟨"java/lang/StringBuilder", "append", "(Ljava/lang/String;)Ljava/lang/StringBuilder;"⟩ : MethodName) (head1 (Jvm.Cond.code (⟨"java/lang/StringBuilder", "append", "(Ljava/lang/String;)Ljava/lang/StringBuilder;"⟩ : MethodName) jdk_67_method_7_code 2 (some (.object "java/lang/StringBuilder")) :: ws) ({ frames := 4, cells := 0, slots := 0, locals := 61 } : Room)) (fun as_ UU => as_ = #[(.ref o), (.ref a)] ∧ Z.Warmed39 UU.vm ∧ UU.heap = h0) (fun _ _ _ _ _ => True) (fun _ UU oo UU' => ∃ vv LL, oo = .returned vv ∧ (QsbA Z o a t kc z us d kd vs vw i zc h0 n0) vv UU'.heap LL ∧ FrameEnd UU oo UU' LL ({ frames := 4, cells := 0, slots := 0, locals := 61 } : Room).cells ({ frames := 4, cells := 0, slots := 0, locals := 61 } : Room).slots) := by
  refine own_met (plainFor_of_name pn_8) ?_
  intro p e s m below meth c s₁ X0 hx hby hml hret hlk hown hnm hZ e0
  have N0 := Fr.nil n0
  have Z_ := Z0
  refine OwnGo.cast (ef_sbA m o a) ?_
  show OwnGo p e below s _ _ _ s₁ (mkF m 0 #[.val (.ref o), .val (.ref a)] [])
  have Kp : Keep h0 h0 [o, d] := Keep.refl h0 [o, d]
  refine OwnGo.st (fun _ kk => XS.aloadN X0.here hx rfl (hb hby d10_0) rfl rfl  kk) ?_
  show OwnGo p e below s _ _ _ s₁ (mkF m 1 #[.val (.ref o), .val (.ref a)] [(.ref o)])
  refine OwnGo.st (fun _ kk => XS.aloadN X0.here hx rfl (hb hby d10_1) rfl rfl  kk) ?_
  show OwnGo p e below s _ _ _ s₁ (mkF m 2 #[.val (.ref o), .val (.ref a)] [(.ref a), (.ref o)])
  obtain ⟨_, _, ⟨T44, L44, k44, n44⟩, -, X44, ⟨Lc44, hQ44, l44, y44, z44⟩, st44⟩ := superBack X0 hx hZ (y := (⟨"java/lang/AbstractStringBuilder", "append", "(Ljava/lang/String;)Ljava/lang/AbstractStringBuilder;"⟩ : MethodName)) hown (hw _ (List.mem_of_getElem? (i := 59) rfl)) (own_same (z := (⟨"java/lang/AbstractStringBuilder", "ensureCapacityInternal", "(I)V"⟩ : MethodName)) (hw _ (List.mem_of_getElem? (i := 79) rfl)) rfl (hw _ (List.mem_of_getElem? (i := 60) rfl)) (by decide)) (hw _ (List.mem_of_getElem? (i := 60) rfl)) (hw _ (List.mem_of_getElem? (i := 61) rfl)) (by decide) (backOf (W := 0) (rmabA l Z a0 hw [] o a t kc z us d kd vs vw i zc h0 n0 Z_ O_ S_CS P_CS E_o Fv Fc Fn V_d E_a Fa Fw V_t hi hz hus hcap g_o g_d ne_o_d) hZ (hw _ (List.mem_of_getElem? (i := 63) rfl)) (hw _ (List.mem_of_getElem? (i := 46) rfl)) (by decide) (by decide)) e0 (Ins.self E_o) (g := (mkF m 2 #[.val (.ref o), .val (.ref a)] [(.ref a), (.ref o)])) rfl (by rw [hml]; rfl) (hw _ (List.mem_of_getElem? (i := 63) rfl)) (argsL := [(.ref a)]) (rest := []) (lenOf pd_10 rfl) rfl (by show 2 * 0 + _ ≤ _; exact Nat.le_of_eq rfl) (hb hby d10_2) (fun _ _ => ⟨rfl, e0, (by decide : 0 + 0 ≤ _), (by decide : 0 + 0 ≤ _)⟩)
  dsimp only [Pt.U, Pt.locs, Pt.cells, Pt.slots] at X44 l44 y44 z44 st44 hQ44
  subst l44 y44 z44
  obtain ⟨rfl, N44q, K44, Eo44, Fv44, Fc44, Fn44, V44⟩ := hQ44
  have N44 := Fr.app N0 N44q
  have Z_ : n0 ≤ T44.heap.size := Nat.le_trans Z_ K44.1
  have E_o := E_o.keep K44
  have O_ := O_.keep K44 (allS g_o (allS g_d all0))
  have Kp := Kp.trans K44 (allS (Or.inl (List.mem_of_getElem? (i := 0) rfl)) (allS (Or.inl (List.mem_of_getElem? (i := 1) rfl)) all0))
  refine OwnGo.st (fun _ kk => st44.trans kk) ?_
  show OwnGo p e below s _ _ _ T44 (mkF m 5 #[.val (.ref o), .val (.ref a)] [(.ref o)])
  refine OwnGo.st (fun _ kk => XS.pop X44.here hx rfl (hb hby d10_5) rfl rfl kk) ?_
  show OwnGo p e below s _ _ _ T44 (mkF m 6 #[.val (.ref o), .val (.ref a)] [])
  refine OwnGo.st (fun _ kk => XS.aloadN X44.here hx rfl (hb hby d10_6) rfl rfl  kk) ?_
  show OwnGo p e below s _ _ _ T44 (mkF m 7 #[.val (.ref o), .val (.ref a)] [(.ref o)])
  exact OwnGo.ret X44 hx hret hlk rfl (Or.inr (Or.inr (Or.inr (Or.inr ⟨rfl, rfl, rfl⟩)))) (hb hby d10_7) (by show QsbA Z o a t kc z us d kd vs vw i zc h0 n0 _ T44.heap _; exact ⟨rfl, N44, Kp, Eo44, Fv44, Fc44, Fn44, V44⟩) (by decide) (by decide)
def QchkL (Z : State) (z : Int32) (h0 : Heap) (n0 : Nat) (v : Option Value) (h : Heap) (L : List Loc) : Prop := v = none ∧ Fr n0 L ∧ h = h0
set_option maxRecDepth 65536 in
set_option maxHeartbeats 40000000 in
theorem rmchkL (l : Launch) (Z : State) (a0 : Array Value) (hw : ∀ d ∈ tables_1, d.before a0 Z = true) (ws : List Jvm.Cond) (z : Int32) (h0 : Heap) (n0 : Nat) (Z0 : n0 ≤ h0.size) (hz : ¬ z < (0 : Int32)) :
    MetFree l (⟨"java/util/Arrays", "checkLength", "(II)V"⟩ : MethodName) (head1 (Jvm.Cond.code (⟨"java/util/Arrays", "checkLength", "(II)V"⟩ : MethodName) jdk_65_method_131_code 2 none :: ws) ({ frames := 0, cells := 0, slots := 0, locals := 0 } : Room)) (fun as_ UU => as_ = #[(.int (0 : Int32)), (.int z)] ∧ Z.Warmed39 UU.vm ∧ UU.heap = h0) (fun _ _ _ _ _ => True) (fun _ UU oo UU' => ∃ vv LL, oo = .returned vv ∧ (QchkL Z z h0 n0) vv UU'.heap LL ∧ FrameEnd UU oo UU' LL ({ frames := 0, cells := 0, slots := 0, locals := 0 } : Room).cells ({ frames := 0, cells := 0, slots := 0, locals := 0 } : Room).slots) := by
  refine own_met (plainFor_of_name pn_27) ?_
  intro p e s m below meth c s₁ X0 hx hby hml hret hlk hown hnm hZ e0
  have N0 := Fr.nil n0
  have Z_ := Z0
  refine OwnGo.cast (ef_chkL m (0 : Int32) z) ?_
  show OwnGo p e below s _ _ _ s₁ (mkF m 0 #[.val (.int (0 : Int32)), .val (.int z)] [])
  refine OwnGo.st (fun _ kk => XS.iloadN X0.here hx rfl (hb hby d27_0) rfl  kk) ?_
  show OwnGo p e below s _ _ _ s₁ (mkF m 1 #[.val (.int (0 : Int32)), .val (.int z)] [(.int z)])
  refine OwnGo.st (fun _ kk => XS.iloadN X0.here hx rfl (hb hby d27_1) rfl  kk) ?_
  show OwnGo p e below s _ _ _ s₁ (mkF m 2 #[.val (.int (0 : Int32)), .val (.int z)] [(.int (0 : Int32)), (.int z)])
  refine OwnGo.st (fun _ kk => XS.icmpYes X0.here hx rfl (pc0 := 2) (pc' := 37) rfl (hb hby d27_2) rfl (flt (hz : ¬ (z < (0 : Int32)))).2.1 (by decide) (by decide) kk) ?_
  show OwnGo p e below s _ _ _ s₁ (mkF m 37 #[.val (.int (0 : Int32)), .val (.int z)] [])
  exact OwnGo.retV X0 hx hret hlk (hb hby d27_37) (by show QchkL Z z h0 n0 _ s₁.heap _; rw [e0]; exact ⟨rfl, N0, rfl⟩) (by decide) (by decide)
def Qmin (Z : State) (z : Int32) (h0 : Heap) (n0 : Nat) (v : Option Value) (h : Heap) (L : List Loc) : Prop := v = some (.int z) ∧ Fr n0 L ∧ h = h0
set_option maxRecDepth 65536 in
set_option maxHeartbeats 40000000 in
theorem rmmin (l : Launch) (Z : State) (a0 : Array Value) (hw : ∀ d ∈ tables_1, d.before a0 Z = true) (ws : List Jvm.Cond) (z : Int32) (h0 : Heap) (n0 : Nat) (Z0 : n0 ≤ h0.size) (hz : z < (16 : Int32)) :
    MetFree l (⟨"java/lang/Math", "min", "(II)I"⟩ : MethodName) (head1 (Jvm.Cond.code (⟨"java/lang/Math", "min", "(II)I"⟩ : MethodName) jdk_29_method_69_code 2 (some .int) :: ws) ({ frames := 0, cells := 0, slots := 0, locals := 0 } : Room)) (fun as_ UU => as_ = #[(.int (16 : Int32)), (.int z)] ∧ Z.Warmed39 UU.vm ∧ UU.heap = h0) (fun _ _ _ _ _ => True) (fun _ UU oo UU' => ∃ vv LL, oo = .returned vv ∧ (Qmin Z z h0 n0) vv UU'.heap LL ∧ FrameEnd UU oo UU' LL ({ frames := 0, cells := 0, slots := 0, locals := 0 } : Room).cells ({ frames := 0, cells := 0, slots := 0, locals := 0 } : Room).slots) := by
  refine own_met pf_28 ?_
  intro p e s m below meth c s₁ X0 hx hby hml hret hlk hown hnm hZ e0
  have N0 := Fr.nil n0
  have Z_ := Z0
  refine OwnGo.cast (ef_min m (16 : Int32) z) ?_
  show OwnGo p e below s _ _ _ s₁ (mkF m 0 #[.val (.int (16 : Int32)), .val (.int z)] [])
  refine OwnGo.st (fun _ kk => XS.iloadN X0.here hx rfl (hb hby d28_0) rfl  kk) ?_
  show OwnGo p e below s _ _ _ s₁ (mkF m 1 #[.val (.int (16 : Int32)), .val (.int z)] [(.int (16 : Int32))])
  refine OwnGo.st (fun _ kk => XS.iloadN X0.here hx rfl (hb hby d28_1) rfl  kk) ?_
  show OwnGo p e below s _ _ _ s₁ (mkF m 2 #[.val (.int (16 : Int32)), .val (.int z)] [(.int z), (.int (16 : Int32))])
  refine OwnGo.st (fun _ kk => XS.icmpYes X0.here hx rfl (pc0 := 2) (pc' := 9) rfl (hb hby d28_2) rfl (tlt (hz : z < (16 : Int32))).2.2.1 (by decide) (by decide) kk) ?_
  show OwnGo p e below s _ _ _ s₁ (mkF m 9 #[.val (.int (16 : Int32)), .val (.int z)] [])
  refine OwnGo.st (fun _ kk => XS.iloadN X0.here hx rfl (hb hby d28_9) rfl  kk) ?_
  show OwnGo p e below s _ _ _ s₁ (mkF m 10 #[.val (.int (16 : Int32)), .val (.int z)] [(.int z)])
  exact OwnGo.ret X0 hx hret hlk rfl (Or.inl ⟨rfl, Or.inl rfl, _, rfl⟩) (hb hby d28_10) (by show Qmin Z z h0 n0 _ s₁.heap _; rw [e0]; exact ⟨rfl, N0, rfl⟩) (by decide) (by decide)
def QgetV (Z : State) (o : Addr) (d : Addr) (h0 : Heap) (n0 : Nat) (v : Option Value) (h : Heap) (L : List Loc) : Prop := v = some (.ref d) ∧ Fr n0 L ∧ h = h0
set_option maxRecDepth 65536 in
set_option maxHeartbeats 40000000 in
theorem rmgetV (l : Launch) (Z : State) (a0 : Array Value) (hw : ∀ d ∈ tables_1, d.before a0 Z = true) (ws : List Jvm.Cond) (o : Addr) (d : Addr) (h0 : Heap) (n0 : Nat) (Z0 : n0 ≤ h0.size) (Fv : Fld Z h0 o "java/lang/AbstractStringBuilder" "value" "[B" (.ref d)) :
    MetFree l (⟨"java/lang/AbstractStringBuilder", "getValue", "()[B"⟩ : MethodName) (head1 (Jvm.Cond.code (⟨"java/lang/AbstractStringBuilder", "getValue", "()[B"⟩ : MethodName) jdk_68_method_64_code 1 (some (.array .byte)) :: ws) ({ frames := 0, cells := 0, slots := 0, locals := 0 } : Room)) (fun as_ UU => as_ = #[(.ref o)] ∧ Z.Warmed39 UU.vm ∧ UU.heap = h0) (fun _ _ _ _ _ => True) (fun _ UU oo UU' => ∃ vv LL, oo = .returned vv ∧ (QgetV Z o d h0 n0) vv UU'.heap LL ∧ FrameEnd UU oo UU' LL ({ frames := 0, cells := 0, slots := 0, locals := 0 } : Room).cells ({ frames := 0, cells := 0, slots := 0, locals := 0 } : Room).slots) := by
  refine own_met (plainFor_of_name pn_9) ?_
  intro p e s m below meth c s₁ X0 hx hby hml hret hlk hown hnm hZ e0
  have N0 := Fr.nil n0
  have Z_ := Z0
  refine OwnGo.cast (ef_getV m o) ?_
  show OwnGo p e below s _ _ _ s₁ (mkF m 0 #[.val (.ref o)] [])
  refine OwnGo.st (fun _ kk => XS.aloadN X0.here hx rfl (hb hby d21_0) rfl rfl  kk) ?_
  show OwnGo p e below s _ _ _ s₁ (mkF m 1 #[.val (.ref o)] [(.ref o)])
  obtain ⟨T45, X45, e45, st45⟩ := getF X0 hx hZ hown (host := "") (Or.inl (hw _ (List.mem_of_getElem? (i := 50) rfl))) Via.refl e0 Fv (g := (mkF m 1 #[.val (.ref o)] [(.ref o)])) rfl rfl (hb hby d21_1)
  refine OwnGo.st st45 ?_
  show OwnGo p e below s _ _ _ T45 (mkF m 4 #[.val (.ref o)] [(.ref d)])
  exact OwnGo.ret X45 hx hret hlk rfl (Or.inr (Or.inr (Or.inr (Or.inr ⟨rfl, rfl, rfl⟩)))) (hb hby d21_4) (by show QgetV Z o d h0 n0 _ T45.heap _; rw [e45]; exact ⟨rfl, N0, rfl⟩) (by decide) (by decide)
def QabL (Z : State) (o : Addr) (i : Int32) (h0 : Heap) (n0 : Nat) (v : Option Value) (h : Heap) (L : List Loc) : Prop := v = some (.int i) ∧ Fr n0 L ∧ h = h0
set_option maxRecDepth 65536 in
set_option maxHeartbeats 40000000 in
theorem rmabL (l : Launch) (Z : State) (a0 : Array Value) (hw : ∀ d ∈ tables_1, d.before a0 Z = true) (ws : List Jvm.Cond) (o : Addr) (i : Int32) (h0 : Heap) (n0 : Nat) (Z0 : n0 ≤ h0.size) (Fn : Fld Z h0 o "java/lang/AbstractStringBuilder" "count" "I" (.int i)) :
    MetFree l (⟨"java/lang/AbstractStringBuilder", "length", "()I"⟩ : MethodName) (head1 (Jvm.Cond.code (⟨"java/lang/AbstractStringBuilder", "length", "()I"⟩ : MethodName) jdk_68_method_6_code 1 (some .int) :: ws) ({ frames := 0, cells := 0, slots := 0, locals := 0 } : Room)) (fun as_ UU => as_ = #[(.ref o)] ∧ Z.Warmed39 UU.vm ∧ UU.heap = h0) (fun _ _ _ _ _ => True) (fun _ UU oo UU' => ∃ vv LL, oo = .returned vv ∧ (QabL Z o i h0 n0) vv UU'.heap LL ∧ FrameEnd UU oo UU' LL ({ frames := 0, cells := 0, slots := 0, locals := 0 } : Room).cells ({ frames := 0, cells := 0, slots := 0, locals := 0 } : Room).slots) := by
  refine own_met (plainFor_of_name pn_9) ?_
  intro p e s m below meth c s₁ X0 hx hby hml hret hlk hown hnm hZ e0
  have N0 := Fr.nil n0
  have Z_ := Z0
  refine OwnGo.cast (ef_abL m o) ?_
  show OwnGo p e below s _ _ _ s₁ (mkF m 0 #[.val (.ref o)] [])
  refine OwnGo.st (fun _ kk => XS.aloadN X0.here hx rfl (hb hby d23_0) rfl rfl  kk) ?_
  show OwnGo p e below s _ _ _ s₁ (mkF m 1 #[.val (.ref o)] [(.ref o)])
  obtain ⟨T46, X46, e46, st46⟩ := getF X0 hx hZ hown (host := "") (Or.inl (hw _ (List.mem_of_getElem? (i := 74) rfl))) Via.refl e0 Fn (g := (mkF m 1 #[.val (.ref o)] [(.ref o)])) rfl rfl (hb hby d23_1)
  refine OwnGo.st st46 ?_
  show OwnGo p e below s _ _ _ T46 (mkF m 4 #[.val (.ref o)] [(.int i)])
  exact OwnGo.ret X46 hx hret hlk rfl (Or.inl ⟨rfl, Or.inl rfl, _, rfl⟩) (hb hby d23_4) (by show QabL Z o i h0 n0 _ T46.heap _; rw [e46]; exact ⟨rfl, N0, rfl⟩) (by decide) (by decide)
def QsbL (Z : State) (o : Addr) (i : Int32) (h0 : Heap) (n0 : Nat) (v : Option Value) (h : Heap) (L : List Loc) : Prop := v = some (.int i) ∧ Fr n0 L ∧ h = h0
set_option maxRecDepth 65536 in
set_option maxHeartbeats 40000000 in
theorem rmsbL (l : Launch) (Z : State) (a0 : Array Value) (hw : ∀ d ∈ tables_1, d.before a0 Z = true) (ws : List Jvm.Cond) (o : Addr) (i : Int32) (h0 : Heap) (n0 : Nat) (Z0 : n0 ≤ h0.size) (E_o : Exa Z h0 o "java/lang/StringBuilder") (Fn : Fld Z h0 o "java/lang/AbstractStringBuilder" "count" "I" (.int i)) :
    MetFree l (⟨"java/lang/StringBuilder", "length", "()I"⟩ : MethodName) (head1 (Jvm.Cond.code (⟨"java/lang/StringBuilder", "length", "()I"⟩ : MethodName) jdk_67_method_93_code 1 (some .int) :: ws) ({ frames := 1, cells := 0, slots := 0, locals := 12 } : Room)) (fun as_ UU => as_ = #[(.ref o)] ∧ Z.Warmed39 UU.vm ∧ UU.heap = h0) (fun _ _ _ _ _ => True) (fun _ UU oo UU' => ∃ vv LL, oo = .returned vv ∧ (QsbL Z o i h0 n0) vv UU'.heap LL ∧ FrameEnd UU oo UU' LL ({ frames := 1, cells := 0, slots := 0, locals := 12 } : Room).cells ({ frames := 1, cells := 0, slots := 0, locals := 12 } : Room).slots) := by
  refine own_met (plainFor_of_name pn_8) ?_
  intro p e s m below meth c s₁ X0 hx hby hml hret hlk hown hnm hZ e0
  have N0 := Fr.nil n0
  have Z_ := Z0
  refine OwnGo.cast (ef_sbL m o) ?_
  show OwnGo p e below s _ _ _ s₁ (mkF m 0 #[.val (.ref o)] [])
  refine OwnGo.st (fun _ kk => XS.aloadN X0.here hx rfl (hb hby d22_0) rfl rfl  kk) ?_
  show OwnGo p e below s _ _ _ s₁ (mkF m 1 #[.val (.ref o)] [(.ref o)])
  obtain ⟨_, _, ⟨T47, L47, k47, n47⟩, -, X47, ⟨Lc47, hQ47, l47, y47, z47⟩, st47⟩ := superBack X0 hx hZ (y := (⟨"java/lang/AbstractStringBuilder", "length", "()I"⟩ : MethodName)) hown (hw _ (List.mem_of_getElem? (i := 127) rfl)) (own_same (z := (⟨"java/lang/AbstractStringBuilder", "ensureCapacityInternal", "(I)V"⟩ : MethodName)) (hw _ (List.mem_of_getElem? (i := 79) rfl)) rfl (hw _ (List.mem_of_getElem? (i := 123) rfl)) (by decide)) (hw _ (List.mem_of_getElem? (i := 123) rfl)) (hw _ (List.mem_of_getElem? (i := 61) rfl)) (by decide) (backOf (W := 0) (rmabL l Z a0 hw [] o i h0 n0 Z_ Fn) hZ (hw _ (List.mem_of_getElem? (i := 128) rfl)) (hw _ (List.mem_of_getElem? (i := 46) rfl)) (by decide) (by decide)) e0 (Ins.self E_o) (g := (mkF m 1 #[.val (.ref o)] [(.ref o)])) rfl (by rw [hml]; rfl) (hw _ (List.mem_of_getElem? (i := 128) rfl)) (argsL := []) (rest := []) (lenOf pd_8 rfl) rfl (by show 2 * 0 + _ ≤ _; exact Nat.le_of_eq rfl) (hb hby d22_1) (fun _ _ => ⟨rfl, e0, (by decide : 0 + 0 ≤ _), (by decide : 0 + 0 ≤ _)⟩)
  dsimp only [Pt.U, Pt.locs, Pt.cells, Pt.slots] at X47 l47 y47 z47 st47 hQ47
  subst l47 y47 z47
  obtain ⟨rfl, N47q, e47⟩ := hQ47
  have N47 := Fr.app N0 N47q
  refine OwnGo.st (fun _ kk => st47.trans kk) ?_
  show OwnGo p e below s _ _ _ T47 (mkF m 4 #[.val (.ref o)] [(.int i)])
  exact OwnGo.ret X47 hx hret hlk rfl (Or.inl ⟨rfl, Or.inl rfl, _, rfl⟩) (hb hby d22_4) (by show QsbL Z o i h0 n0 _ T47.heap _; rw [e47]; exact ⟨rfl, N47, rfl⟩) (by decide) (by decide)
def QabZ (Z : State) (o : Addr) (zc : Int32) (h0 : Heap) (n0 : Nat) (v : Option Value) (h : Heap) (L : List Loc) : Prop := v = some (.int (1 : Int32)) ∧ Fr n0 L ∧ h = h0
set_option maxRecDepth 65536 in
set_option maxHeartbeats 40000000 in
theorem rmabZ (l : Launch) (Z : State) (a0 : Array Value) (hw : ∀ d ∈ tables_1, d.before a0 Z = true) (ws : List Jvm.Cond) (o : Addr) (zc : Int32) (h0 : Heap) (n0 : Nat) (Z0 : n0 ≤ h0.size) (O_ : Old Z n0 h0) (S_CS : Sta Z Z.heap "java/lang/String" "COMPACT_STRINGS" "Z" (.int zc)) (P_CS : ¬ zc = (0 : Int32)) (Fc : Fld Z h0 o "java/lang/AbstractStringBuilder" "coder" "B" (.int (0 : Int32))) :
    MetFree l (⟨"java/lang/AbstractStringBuilder", "isLatin1", "()Z"⟩ : MethodName) (head1 (Jvm.Cond.code (⟨"java/lang/AbstractStringBuilder", "isLatin1", "()Z"⟩ : MethodName) jdk_68_method_68_code 1 (some .boolean) :: ws) ({ frames := 0, cells := 0, slots := 0, locals := 0 } : Room)) (fun as_ UU => as_ = #[(.ref o)] ∧ Z.Warmed39 UU.vm ∧ UU.heap = h0) (fun _ _ _ _ _ => True) (fun _ UU oo UU' => ∃ vv LL, oo = .returned vv ∧ (QabZ Z o zc h0 n0) vv UU'.heap LL ∧ FrameEnd UU oo UU' LL ({ frames := 0, cells := 0, slots := 0, locals := 0 } : Room).cells ({ frames := 0, cells := 0, slots := 0, locals := 0 } : Room).slots) := by
  refine own_met (plainFor_of_name pn_9) ?_
  intro p e s m below meth c s₁ X0 hx hby hml hret hlk hown hnm hZ e0
  have N0 := Fr.nil n0
  have Z_ := Z0
  refine OwnGo.cast (ef_abZ m o) ?_
  show OwnGo p e below s _ _ _ s₁ (mkF m 0 #[.val (.ref o)] [])
  obtain ⟨T48, X48, e48, st48⟩ := getS2 X0 hx hZ hown (host := "") (Or.inl (hw _ (List.mem_of_getElem? (i := 49) rfl))) Via.refl e0 (S_CS.ext O_.2) (g := (mkF m 0 #[.val (.ref o)] [])) rfl (hb hby d24_0)
  refine OwnGo.st st48 ?_
  show OwnGo p e below s _ _ _ T48 (mkF m 3 #[.val (.ref o)] [(.int zc)])
  refine OwnGo.st (fun _ kk => XS.ifNo X48.here hx rfl (hb hby d24_3) rfl ((if0 _ _).trans (feq (P_CS : ¬ (zc = (0 : Int32)))).1) kk) ?_
  show OwnGo p e below s _ _ _ T48 (mkF m 6 #[.val (.ref o)] [])
  refine OwnGo.st (fun _ kk => XS.aloadN X48.here hx rfl (hb hby d24_6) rfl rfl  kk) ?_
  show OwnGo p e below s _ _ _ T48 (mkF m 7 #[.val (.ref o)] [(.ref o)])
  obtain ⟨T49, X49, e49, st49⟩ := getF X48 hx hZ hown (host := "") (Or.inl (hw _ (List.mem_of_getElem? (i := 52) rfl))) Via.refl e48 Fc (g := (mkF m 7 #[.val (.ref o)] [(.ref o)])) rfl rfl (hb hby d24_7)
  refine OwnGo.st st49 ?_
  show OwnGo p e below s _ _ _ T49 (mkF m 10 #[.val (.ref o)] [(.int (0 : Int32))])
  refine OwnGo.st (fun _ kk => XS.ifNo X49.here hx rfl (hb hby d24_10) rfl ((if0 _ _).trans (teq ((by decide) : (0 : Int32) = (0 : Int32))).2) kk) ?_
  show OwnGo p e below s _ _ _ T49 (mkF m 13 #[.val (.ref o)] [])
  refine OwnGo.st (fun _ kk => XS.iconst X49.here hx rfl (hb hby d24_13) kk) ?_
  show OwnGo p e below s _ _ _ T49 (mkF m 14 #[.val (.ref o)] [(.int (1 : Int32))])
  refine OwnGo.st (fun _ kk => XS.goto X49.here hx rfl (pc0 := 14) (pc' := 18) rfl (hb hby d24_14) (by decide) (by decide) kk) ?_
  show OwnGo p e below s _ _ _ T49 (mkF m 18 #[.val (.ref o)] [(.int (1 : Int32))])
  exact OwnGo.retN X49 hx (t := .boolean) hret hlk (by simp) (hb hby d24_18) (by show QabZ Z o zc h0 n0 _ T49.heap _; rw [e49]; exact ⟨rfl, N0, rfl⟩) (by decide) (by decide)
def QcorB3 (Z : State) (d : Addr) (kd : ClassId) (vs : List Value) (us : List Value) (h0 : Heap) (n0 : Nat) (v : Option Value) (h : Heap) (L : List Loc) : Prop := ∃ (t : Addr) (kb : ClassId), v = some (.ref t) ∧ Fr n0 L ∧ Keep h0 h [] ∧ Arv Z h t kb .byte (3 : Int32) us (.int (0 : Int32)) ∧ h0.size ≤ t
set_option maxRecDepth 65536 in
set_option maxHeartbeats 40000000 in
theorem rmcorB3 (l : Launch) (Z : State) (a0 : Array Value) (hw : ∀ d ∈ tables_1, d.before a0 Z = true) (ws : List Jvm.Cond) (d : Addr) (kd : ClassId) (vs : List Value) (us : List Value) (h0 : Heap) (n0 : Nat) (Z0 : n0 ≤ h0.size) (V_d : Arv Z h0 d kd .byte (16 : Int32) vs (.int (0 : Int32))) (hus : ∀ j, j < 3 → us.getD j (.int (0 : Int32)) = vs.getD j (.int (0 : Int32))) :
    MetFree l (⟨"java/util/Arrays", "copyOfRangeByte", "([BII)[B"⟩ : MethodName) (head1 (Jvm.Cond.code (⟨"java/util/Arrays", "copyOfRangeByte", "([BII)[B"⟩ : MethodName) jdk_65_method_133_code 5 (some (.array .byte)) :: ws) ({ frames := 1, cells := 1, slots := 3, locals := 18 } : Room)) (fun as_ UU => as_ = #[(.ref d), (.int (0 : Int32)), (.int (3 : Int32))] ∧ Z.Warmed39 UU.vm ∧ UU.heap = h0) (fun _ _ _ _ _ => True) (fun _ UU oo UU' => ∃ vv LL, oo = .returned vv ∧ (QcorB3 Z d kd vs us h0 n0) vv UU'.heap LL ∧ FrameEnd UU oo UU' LL ({ frames := 1, cells := 1, slots := 3, locals := 18 } : Room).cells ({ frames := 1, cells := 1, slots := 3, locals := 18 } : Room).slots) := by
  refine own_met (plainFor_of_name pn_27) ?_
  intro p e s m below meth c s₁ X0 hx hby hml hret hlk hown hnm hZ e0
  have N0 := Fr.nil n0
  have Z_ := Z0
  refine OwnGo.cast (ef_corB3 m d (0 : Int32) (3 : Int32)) ?_
  show OwnGo p e below s _ _ _ s₁ (mkF m 0 #[.val (.ref d), .val (.int (0 : Int32)), .val (.int (3 : Int32)), .unset, .unset] [])
  have Kp : Keep h0 h0 [] := Keep.refl h0 []
  refine OwnGo.st (fun _ kk => XS.iloadN X0.here hx rfl (hb hby d26_0) rfl  kk) ?_
  show OwnGo p e below s _ _ _ s₁ (mkF m 1 #[.val (.ref d), .val (.int (0 : Int32)), .val (.int (3 : Int32)), .unset, .unset] [(.int (0 : Int32))])
  refine OwnGo.st (fun _ kk => XS.iloadN X0.here hx rfl (hb hby d26_1) rfl  kk) ?_
  show OwnGo p e below s _ _ _ s₁ (mkF m 2 #[.val (.ref d), .val (.int (0 : Int32)), .val (.int (3 : Int32)), .unset, .unset] [(.int (3 : Int32)), (.int (0 : Int32))])
  obtain ⟨_, _, ⟨T50, L50, k50, n50⟩, -, X50, ⟨Lc50, hQ50, l50, y50, z50⟩, st50⟩ := Jvm.LawKit.callS X0 hx (y := (⟨"java/util/Arrays", "checkLength", "(II)V"⟩ : MethodName)) hown (mvT hZ (hw _ (List.mem_of_getElem? (i := 141) rfl))) (mvT hZ (hw _ (List.mem_of_getElem? (i := 142) rfl))) (mvT hZ (hw _ (List.mem_of_getElem? (i := 136) rfl))) (mvT hZ (hw _ (List.mem_of_getElem? (i := 143) rfl))) (by decide) (backOf (W := 0) (rmchkL l Z a0 hw [] (3 : Int32) h0 n0 Z_ (by decide)) hZ (hw _ (List.mem_of_getElem? (i := 143) rfl)) (hw _ (List.mem_of_getElem? (i := 136) rfl)) (by decide) (by decide)) (g := (mkF m 2 #[.val (.ref d), .val (.int (0 : Int32)), .val (.int (3 : Int32)), .unset, .unset] [(.int (3 : Int32)), (.int (0 : Int32))])) rfl (by rw [hml]; rfl) (argsL := [(.int (0 : Int32)), (.int (3 : Int32))]) (rest := []) (lenOf pd_2 rfl) rfl (by show 2 * 0 + _ ≤ _; exact Nat.le_of_eq rfl) (hb hby d26_2) (fun _ _ => ⟨rfl, e0, (by decide : 0 + 0 ≤ _), (by decide : 0 + 0 ≤ _)⟩)
  dsimp only [Pt.U, Pt.locs, Pt.cells, Pt.slots] at X50 l50 y50 z50 st50 hQ50
  subst l50 y50 z50
  obtain ⟨rfl, N50q, e50⟩ := hQ50
  have N50 := Fr.app N0 N50q
  refine OwnGo.st st50 ?_
  show OwnGo p e below s _ _ _ T50 (mkF m 5 #[.val (.ref d), .val (.int (0 : Int32)), .val (.int (3 : Int32)), .unset, .unset] [])
  refine OwnGo.st (fun _ kk => XS.iloadN X50.here hx rfl (hb hby d26_5) rfl  kk) ?_
  show OwnGo p e below s _ _ _ T50 (mkF m 6 #[.val (.ref d), .val (.int (0 : Int32)), .val (.int (3 : Int32)), .unset, .unset] [(.int (3 : Int32))])
  refine OwnGo.st (fun _ kk => XS.iloadN X50.here hx rfl (hb hby d26_6) rfl  kk) ?_
  show OwnGo p e below s _ _ _ T50 (mkF m 7 #[.val (.ref d), .val (.int (0 : Int32)), .val (.int (3 : Int32)), .unset, .unset] [(.int (0 : Int32)), (.int (3 : Int32))])
  refine OwnGo.st (fun _ kk => XS.isub X50.here hx rfl (hb hby d26_7) rfl kk) ?_
  show OwnGo p e below s _ _ _ T50 (mkF m 8 #[.val (.ref d), .val (.int (0 : Int32)), .val (.int (3 : Int32)), .unset, .unset] [(.int (3 : Int32))])
  refine OwnGo.st (fun _ kk => XS.istoreN X50.here hx rfl (hb hby d26_8) rfl (l' := #[.val (.ref d), .val (.int (0 : Int32)), .val (.int (3 : Int32)), .val (.int (3 : Int32)), .unset]) rfl kk) ?_
  show OwnGo p e below s _ _ _ T50 (mkF m 9 #[.val (.ref d), .val (.int (0 : Int32)), .val (.int (3 : Int32)), .val (.int (3 : Int32)), .unset] [])
  refine OwnGo.st (fun _ kk => XS.iloadN X50.here hx rfl (hb hby d26_9) rfl  kk) ?_
  show OwnGo p e below s _ _ _ T50 (mkF m 10 #[.val (.ref d), .val (.int (0 : Int32)), .val (.int (3 : Int32)), .val (.int (3 : Int32)), .unset] [(.int (3 : Int32))])
  obtain ⟨T51, h51, k51, X51, e51, E51, A51, Ex51, st51⟩ := newPE X50 hx hZ (hw _ (List.mem_of_getElem? (i := 19) rfl)) e50 (g := (mkF m 10 #[.val (.ref d), .val (.int (0 : Int32)), .val (.int (3 : Int32)), .val (.int (3 : Int32)), .unset] [(.int (3 : Int32))])) rfl (hb hby d26_10) rfl (by decide) (cap := 3) (by decide) (by decide) (by decide) (by decide) (ad := "[B") (by decide)
  obtain ⟨b51, g51⟩ : ∃ z, z = h0.size := ⟨_, rfl⟩
  rw [← g51] at A51 Ex51 st51
  have ne_d_b51 : d ≠ b51 := Nat.ne_of_lt (Nat.lt_of_lt_of_le V_d.lt (Nat.le_of_eq g51.symm))
  have g_b51 : n0 ≤ b51 := Nat.le_trans Z_ (Nat.le_of_eq g51.symm)
  have sz_b51 : h0.size ≤ b51 := Nat.le_trans Kp.1 (Nat.le_of_eq g51.symm)
  have V_d := V_d.ext E51
  have Kp := Kp.ext E51
  have Z_ : n0 ≤ h51.size := Nat.le_trans Z_ E51.1
  have V_b51 : Arv Z h51 b51 k51 .byte (3 : Int32) [] (.int (0 : Int32)) := Arv.new A51 (by decide)
  have E_b51 := Ex51
  refine OwnGo.st st51 ?_
  show OwnGo p e below s _ _ _ T51 (mkF m 12 #[.val (.ref d), .val (.int (0 : Int32)), .val (.int (3 : Int32)), .val (.int (3 : Int32)), .unset] [(.ref b51)])
  refine OwnGo.st (fun _ kk => XS.astore X51.here hx rfl (hb hby d26_12) rfl rfl (l' := #[.val (.ref d), .val (.int (0 : Int32)), .val (.int (3 : Int32)), .val (.int (3 : Int32)), .val (.ref b51)]) rfl kk) ?_
  show OwnGo p e below s _ _ _ T51 (mkF m 14 #[.val (.ref d), .val (.int (0 : Int32)), .val (.int (3 : Int32)), .val (.int (3 : Int32)), .val (.ref b51)] [])
  refine OwnGo.st (fun _ kk => XS.aloadN X51.here hx rfl (hb hby d26_14) rfl rfl  kk) ?_
  show OwnGo p e below s _ _ _ T51 (mkF m 15 #[.val (.ref d), .val (.int (0 : Int32)), .val (.int (3 : Int32)), .val (.int (3 : Int32)), .val (.ref b51)] [(.ref d)])
  refine OwnGo.st (fun _ kk => XS.iloadN X51.here hx rfl (hb hby d26_15) rfl  kk) ?_
  show OwnGo p e below s _ _ _ T51 (mkF m 16 #[.val (.ref d), .val (.int (0 : Int32)), .val (.int (3 : Int32)), .val (.int (3 : Int32)), .val (.ref b51)] [(.int (0 : Int32)), (.ref d)])
  refine OwnGo.st (fun _ kk => XS.aload X51.here hx rfl (hb hby d26_16) rfl rfl  kk) ?_
  show OwnGo p e below s _ _ _ T51 (mkF m 18 #[.val (.ref d), .val (.int (0 : Int32)), .val (.int (3 : Int32)), .val (.int (3 : Int32)), .val (.ref b51)] [(.ref b51), (.int (0 : Int32)), (.ref d)])
  refine OwnGo.st (fun _ kk => XS.iconst X51.here hx rfl (hb hby d26_18) kk) ?_
  show OwnGo p e below s _ _ _ T51 (mkF m 19 #[.val (.ref d), .val (.int (0 : Int32)), .val (.int (3 : Int32)), .val (.int (3 : Int32)), .val (.ref b51)] [(.int (0 : Int32)), (.ref b51), (.int (0 : Int32)), (.ref d)])
  refine OwnGo.st (fun _ kk => XS.aloadN X51.here hx rfl (hb hby d26_19) rfl rfl  kk) ?_
  show OwnGo p e below s _ _ _ T51 (mkF m 20 #[.val (.ref d), .val (.int (0 : Int32)), .val (.int (3 : Int32)), .val (.int (3 : Int32)), .val (.ref b51)] [(.ref d), (.int (0 : Int32)), (.ref b51), (.int (0 : Int32)), (.ref d)])
  obtain ⟨cl52, Ar52, -, S52, N52, -, -⟩ := id V_d
  refine OwnGo.st (fun _ kk => own_len hZ (len_of S52 N52) Ar52 X51 e51 hx (g := (mkF m 20 #[.val (.ref d), .val (.int (0 : Int32)), .val (.int (3 : Int32)), .val (.int (3 : Int32)), .val (.ref b51)] [(.ref d), (.int (0 : Int32)), (.ref b51), (.int (0 : Int32)), (.ref d)])) rfl rfl (hb hby d26_20) _ kk) ?_
  show OwnGo p e below s _ _ _ T51 (mkF m 21 #[.val (.ref d), .val (.int (0 : Int32)), .val (.int (3 : Int32)), .val (.int (3 : Int32)), .val (.ref b51)] [(.int (16 : Int32)), (.int (0 : Int32)), (.ref b51), (.int (0 : Int32)), (.ref d)])
  refine OwnGo.st (fun _ kk => XS.iloadN X51.here hx rfl (hb hby d26_21) rfl  kk) ?_
  show OwnGo p e below s _ _ _ T51 (mkF m 22 #[.val (.ref d), .val (.int (0 : Int32)), .val (.int (3 : Int32)), .val (.int (3 : Int32)), .val (.ref b51)] [(.int (0 : Int32)), (.int (16 : Int32)), (.int (0 : Int32)), (.ref b51), (.int (0 : Int32)), (.ref d)])
  refine OwnGo.st (fun _ kk => XS.isub X51.here hx rfl (hb hby d26_22) rfl kk) ?_
  show OwnGo p e below s _ _ _ T51 (mkF m 23 #[.val (.ref d), .val (.int (0 : Int32)), .val (.int (3 : Int32)), .val (.int (3 : Int32)), .val (.ref b51)] [(.int (16 : Int32)), (.int (0 : Int32)), (.ref b51), (.int (0 : Int32)), (.ref d)])
  refine OwnGo.st (fun _ kk => XS.iloadN X51.here hx rfl (hb hby d26_23) rfl  kk) ?_
  show OwnGo p e below s _ _ _ T51 (mkF m 24 #[.val (.ref d), .val (.int (0 : Int32)), .val (.int (3 : Int32)), .val (.int (3 : Int32)), .val (.ref b51)] [(.int (3 : Int32)), (.int (16 : Int32)), (.int (0 : Int32)), (.ref b51), (.int (0 : Int32)), (.ref d)])
  obtain ⟨_, _, ⟨T53, L53, k53, n53⟩, -, X53, ⟨Lc53, hQ53, l53, y53, z53⟩, st53⟩ := Jvm.LawKit.callS X51 hx (y := (⟨"java/lang/Math", "min", "(II)I"⟩ : MethodName)) hown (mvT hZ (hw _ (List.mem_of_getElem? (i := 144) rfl))) (mvT hZ (hw _ (List.mem_of_getElem? (i := 145) rfl))) (mvT hZ (hw _ (List.mem_of_getElem? (i := 146) rfl))) (mvT hZ (hw _ (List.mem_of_getElem? (i := 147) rfl))) (by decide) (backOf (W := 4) (rmmin l Z a0 hw [] (3 : Int32) h51 n0 Z_ (by decide)) hZ (hw _ (List.mem_of_getElem? (i := 147) rfl)) (hw _ (List.mem_of_getElem? (i := 146) rfl)) (by decide) (by decide)) (g := (mkF m 24 #[.val (.ref d), .val (.int (0 : Int32)), .val (.int (3 : Int32)), .val (.int (3 : Int32)), .val (.ref b51)] [(.int (3 : Int32)), (.int (16 : Int32)), (.int (0 : Int32)), (.ref b51), (.int (0 : Int32)), (.ref d)])) rfl (by rw [hml]; rfl) (argsL := [(.int (16 : Int32)), (.int (3 : Int32))]) (rest := [(.int (0 : Int32)), (.ref b51), (.int (0 : Int32)), (.ref d)]) (lenOf pd_11 rfl) rfl (by show 2 * 0 + _ ≤ _; exact Nat.le_of_eq rfl) (hb hby d26_24) (fun _ _ => ⟨rfl, e51, (by decide : 1 + 0 ≤ _), (by decide : 3 + 0 ≤ _)⟩)
  dsimp only [Pt.U, Pt.locs, Pt.cells, Pt.slots] at X53 l53 y53 z53 st53 hQ53
  subst l53 y53 z53
  obtain ⟨rfl, N53q, e53⟩ := hQ53
  have N53 := Fr.app N50 N53q
  refine OwnGo.st st53 ?_
  show OwnGo p e below s _ _ _ T53 (mkF m 27 #[.val (.ref d), .val (.int (0 : Int32)), .val (.int (3 : Int32)), .val (.int (3 : Int32)), .val (.ref b51)] [(.int (3 : Int32)), (.int (0 : Int32)), (.ref b51), (.int (0 : Int32)), (.ref d)])
  obtain ⟨T54, h54, Lc54, X54, e54, K54, V54', Fq54, st54⟩ := own_copy X53 hx hZ hown (hw _ (List.mem_of_getElem? (i := 148) rfl)) (hw _ (List.mem_of_getElem? (i := 100) rfl)) (hw _ (List.mem_of_getElem? (i := 98) rfl)) (hw _ (List.mem_of_getElem? (i := 99) rfl)) e53 V_d V_b51 (us := us) (by decide) (by decide) (by decide) (by decide) (by decide) (fun j hj => by rw [if_pos ⟨Nat.zero_le _, by show j < 0 + 3; have := (show j < 3 from hj); omega⟩]; show _ = vs.getD (0 + (j - 0)) _; rw [Nat.zero_add, Nat.sub_zero]; exact hus j hj) (g := (mkF m 27 #[.val (.ref d), .val (.int (0 : Int32)), .val (.int (3 : Int32)), .val (.int (3 : Int32)), .val (.ref b51)] [(.int (3 : Int32)), (.int (0 : Int32)), (.ref b51), (.int (0 : Int32)), (.ref d)])) rfl (by rw [hml]; rfl) rfl (hb hby d26_27) (by decide) (W := 0) (by show 2 * 0 + _ ≤ _; exact Nat.le_of_eq rfl) (by decide)
  have N54 := Fr.app N53 (Fq54 n0 g_b51)
  have Z_ : n0 ≤ h54.size := Nat.le_trans Z_ K54.1
  have V_d := V_d.keep K54 (ninS ne_d_b51 nin0)
  have E_b51 := E_b51.keep K54
  have Kp := Kp.trans K54 (allS (Or.inr sz_b51) all0)
  have V_b51 := V54'
  refine OwnGo.st st54 ?_
  show OwnGo p e below s _ _ _ T54 (mkF m 30 #[.val (.ref d), .val (.int (0 : Int32)), .val (.int (3 : Int32)), .val (.int (3 : Int32)), .val (.ref b51)] [])
  refine OwnGo.st (fun _ kk => XS.aload X54.here hx rfl (hb hby d26_30) rfl rfl  kk) ?_
  show OwnGo p e below s _ _ _ T54 (mkF m 32 #[.val (.ref d), .val (.int (0 : Int32)), .val (.int (3 : Int32)), .val (.int (3 : Int32)), .val (.ref b51)] [(.ref b51)])
  exact OwnGo.ret X54 hx hret hlk rfl (Or.inr (Or.inr (Or.inr (Or.inr ⟨rfl, rfl, rfl⟩)))) (hb hby d26_32) (by show QcorB3 Z d kd vs us h0 n0 _ T54.heap _; rw [e54]; exact ⟨b51, k51, rfl, N54, Kp, V_b51, sz_b51⟩) (by decide) (by decide)
def Qcor3 (Z : State) (d : Addr) (kd : ClassId) (vs : List Value) (us : List Value) (h0 : Heap) (n0 : Nat) (v : Option Value) (h : Heap) (L : List Loc) : Prop := ∃ (t : Addr) (kb : ClassId), v = some (.ref t) ∧ Fr n0 L ∧ Keep h0 h [] ∧ Arv Z h t kb .byte (3 : Int32) us (.int (0 : Int32)) ∧ h0.size ≤ t
set_option maxRecDepth 65536 in
set_option maxHeartbeats 40000000 in
theorem rmcor3 (l : Launch) (Z : State) (a0 : Array Value) (hw : ∀ d ∈ tables_1, d.before a0 Z = true) (ws : List Jvm.Cond) (d : Addr) (kd : ClassId) (vs : List Value) (us : List Value) (h0 : Heap) (n0 : Nat) (Z0 : n0 ≤ h0.size) (V_d : Arv Z h0 d kd .byte (16 : Int32) vs (.int (0 : Int32))) (hus : ∀ j, j < 3 → us.getD j (.int (0 : Int32)) = vs.getD j (.int (0 : Int32))) :
    MetFree l (⟨"java/util/Arrays", "copyOfRange", "([BII)[B"⟩ : MethodName) (head1 (Jvm.Cond.code (⟨"java/util/Arrays", "copyOfRange", "([BII)[B"⟩ : MethodName) jdk_65_method_132_code 3 (some (.array .byte)) :: ws) ({ frames := 2, cells := 1, slots := 3, locals := 34 } : Room)) (fun as_ UU => as_ = #[(.ref d), (.int (0 : Int32)), (.int (3 : Int32))] ∧ Z.Warmed39 UU.vm ∧ UU.heap = h0) (fun _ _ _ _ _ => True) (fun _ UU oo UU' => ∃ vv LL, oo = .returned vv ∧ (Qcor3 Z d kd vs us h0 n0) vv UU'.heap LL ∧ FrameEnd UU oo UU' LL ({ frames := 2, cells := 1, slots := 3, locals := 34 } : Room).cells ({ frames := 2, cells := 1, slots := 3, locals := 34 } : Room).slots) := by
  refine own_met (plainFor_of_name pn_27) ?_
  intro p e s m below meth c s₁ X0 hx hby hml hret hlk hown hnm hZ e0
  have N0 := Fr.nil n0
  have Z_ := Z0
  refine OwnGo.cast (ef_cor3 m d (0 : Int32) (3 : Int32)) ?_
  show OwnGo p e below s _ _ _ s₁ (mkF m 0 #[.val (.ref d), .val (.int (0 : Int32)), .val (.int (3 : Int32))] [])
  refine OwnGo.st (fun _ kk => XS.iloadN X0.here hx rfl (hb hby d25_0) rfl  kk) ?_
  show OwnGo p e below s _ _ _ s₁ (mkF m 1 #[.val (.ref d), .val (.int (0 : Int32)), .val (.int (3 : Int32))] [(.int (0 : Int32))])
  refine OwnGo.st (fun _ kk => XS.ifNo X0.here hx rfl (hb hby d25_1) rfl ((if0 _ _).trans (teq ((by decide) : (0 : Int32) = (0 : Int32))).2) kk) ?_
  show OwnGo p e below s _ _ _ s₁ (mkF m 4 #[.val (.ref d), .val (.int (0 : Int32)), .val (.int (3 : Int32))] [])
  refine OwnGo.st (fun _ kk => XS.iloadN X0.here hx rfl (hb hby d25_4) rfl  kk) ?_
  show OwnGo p e below s _ _ _ s₁ (mkF m 5 #[.val (.ref d), .val (.int (0 : Int32)), .val (.int (3 : Int32))] [(.int (3 : Int32))])
  refine OwnGo.st (fun _ kk => XS.aloadN X0.here hx rfl (hb hby d25_5) rfl rfl  kk) ?_
  show OwnGo p e below s _ _ _ s₁ (mkF m 6 #[.val (.ref d), .val (.int (0 : Int32)), .val (.int (3 : Int32))] [(.ref d), (.int (3 : Int32))])
  obtain ⟨cl55, Ar55, -, S55, N55, -, -⟩ := id V_d
  refine OwnGo.st (fun _ kk => own_len hZ (len_of S55 N55) Ar55 X0 e0 hx (g := (mkF m 6 #[.val (.ref d), .val (.int (0 : Int32)), .val (.int (3 : Int32))] [(.ref d), (.int (3 : Int32))])) rfl rfl (hb hby d25_6) _ kk) ?_
  show OwnGo p e below s _ _ _ s₁ (mkF m 7 #[.val (.ref d), .val (.int (0 : Int32)), .val (.int (3 : Int32))] [(.int (16 : Int32)), (.int (3 : Int32))])
  refine OwnGo.st (fun _ kk => XS.icmpNo X0.here hx rfl (hb hby d25_7) rfl (feq ((by decide) : ¬ ((3 : Int32) = (16 : Int32)))).1 kk) ?_
  show OwnGo p e below s _ _ _ s₁ (mkF m 10 #[.val (.ref d), .val (.int (0 : Int32)), .val (.int (3 : Int32))] [])
  refine OwnGo.st (fun _ kk => XS.aloadN X0.here hx rfl (hb hby d25_10) rfl rfl  kk) ?_
  show OwnGo p e below s _ _ _ s₁ (mkF m 11 #[.val (.ref d), .val (.int (0 : Int32)), .val (.int (3 : Int32))] [(.ref d)])
  refine OwnGo.st (fun _ kk => XS.iloadN X0.here hx rfl (hb hby d25_11) rfl  kk) ?_
  show OwnGo p e below s _ _ _ s₁ (mkF m 12 #[.val (.ref d), .val (.int (0 : Int32)), .val (.int (3 : Int32))] [(.int (0 : Int32)), (.ref d)])
  refine OwnGo.st (fun _ kk => XS.iloadN X0.here hx rfl (hb hby d25_12) rfl  kk) ?_
  show OwnGo p e below s _ _ _ s₁ (mkF m 13 #[.val (.ref d), .val (.int (0 : Int32)), .val (.int (3 : Int32))] [(.int (3 : Int32)), (.int (0 : Int32)), (.ref d)])
  obtain ⟨_, _, ⟨T56, L56, k56, n56⟩, -, X56, ⟨Lc56, hQ56, l56, y56, z56⟩, st56⟩ := Jvm.LawKit.callS X0 hx (y := (⟨"java/util/Arrays", "copyOfRangeByte", "([BII)[B"⟩ : MethodName)) hown (mvT hZ (hw _ (List.mem_of_getElem? (i := 138) rfl))) (mvT hZ (hw _ (List.mem_of_getElem? (i := 139) rfl))) (mvT hZ (hw _ (List.mem_of_getElem? (i := 136) rfl))) (mvT hZ (hw _ (List.mem_of_getElem? (i := 140) rfl))) (by decide) (backOf (W := 0) (rmcorB3 l Z a0 hw [] d kd vs us h0 n0 Z_ V_d hus) hZ (hw _ (List.mem_of_getElem? (i := 140) rfl)) (hw _ (List.mem_of_getElem? (i := 136) rfl)) (by decide) (by decide)) (g := (mkF m 13 #[.val (.ref d), .val (.int (0 : Int32)), .val (.int (3 : Int32))] [(.int (3 : Int32)), (.int (0 : Int32)), (.ref d)])) rfl (by rw [hml]; rfl) (argsL := [(.ref d), (.int (0 : Int32)), (.int (3 : Int32))]) (rest := []) (lenOf pd_12 rfl) rfl (by show 2 * 0 + _ ≤ _; exact Nat.le_of_eq rfl) (hb hby d25_13) (fun _ _ => ⟨rfl, e0, (by decide : 0 + 1 ≤ _), (by decide : 0 + 3 ≤ _)⟩)
  dsimp only [Pt.U, Pt.locs, Pt.cells, Pt.slots] at X56 l56 y56 z56 st56 hQ56
  subst l56 y56 z56
  obtain ⟨t56, kb56, rfl, N56q, K56, V56, zt56⟩ := hQ56
  have N56 := Fr.app N0 N56q
  have ne_d_t56 : d ≠ t56 := Nat.ne_of_lt (Nat.lt_of_lt_of_le V_d.lt zt56)
  have g_t56 : n0 ≤ t56 := Nat.le_trans Z_ zt56
  have Z_ : n0 ≤ T56.heap.size := Nat.le_trans Z_ K56.1
  have V_d := V_d.keep K56 nin0
  refine OwnGo.st st56 ?_
  show OwnGo p e below s _ _ _ T56 (mkF m 16 #[.val (.ref d), .val (.int (0 : Int32)), .val (.int (3 : Int32))] [(.ref t56)])
  exact OwnGo.ret X56 hx hret hlk rfl (Or.inr (Or.inr (Or.inr (Or.inr ⟨rfl, rfl, rfl⟩)))) (hb hby d25_16) (by show Qcor3 Z d kd vs us h0 n0 _ T56.heap _; exact ⟨t56, kb56, rfl, N56, K56, V56, zt56⟩) (by decide) (by decide)
def QstrV3 (Z : State) (x : Addr) (o : Addr) (d : Addr) (kd : ClassId) (vs : List Value) (us : List Value) (zc : Int32) (h0 : Heap) (n0 : Nat) (v : Option Value) (h : Heap) (L : List Loc) : Prop := v = none ∧ Fr n0 L ∧ Keep h0 h [x] ∧ Exa Z h x "java/lang/String" ∧ Fld Z h x "java/lang/String" "coder" "B" (.int (0 : Int32)) ∧ ∃ (t : Addr) (kb : ClassId), Fld Z h x "java/lang/String" "value" "[B" (.ref t) ∧ Arv Z h t kb .byte (3 : Int32) us (.int (0 : Int32)) ∧ h0.size ≤ t
set_option maxRecDepth 65536 in
set_option maxHeartbeats 40000000 in
theorem rmstrV3 (l : Launch) (Z : State) (a0 : Array Value) (hw : ∀ d ∈ tables_1, d.before a0 Z = true) (ws : List Jvm.Cond) (x : Addr) (o : Addr) (d : Addr) (kd : ClassId) (vs : List Value) (us : List Value) (zc : Int32) (h0 : Heap) (n0 : Nat) (Z0 : n0 ≤ h0.size) (O_ : Old Z n0 h0) (S_CS : Sta Z Z.heap "java/lang/String" "COMPACT_STRINGS" "Z" (.int zc)) (P_CS : ¬ zc = (0 : Int32)) (E_x : Exa Z h0 x "java/lang/String") (Fxv : Fld Z h0 x "java/lang/String" "value" "[B" .null) (Fxc : Fld Z h0 x "java/lang/String" "coder" "B" (.int (0 : Int32))) (g_x : n0 ≤ x) (E_o : Exa Z h0 o "java/lang/StringBuilder") (Fv : Fld Z h0 o "java/lang/AbstractStringBuilder" "value" "[B" (.ref d)) (Fc : Fld Z h0 o "java/lang/AbstractStringBuilder" "coder" "B" (.int (0 : Int32))) (Fn : Fld Z h0 o "java/lang/AbstractStringBuilder" "count" "I" (.int (3 : Int32))) (V_d : Arv Z h0 d kd .byte (16 : Int32) vs (.int (0 : Int32))) (hus : ∀ j, j < 3 → us.getD j (.int (0 : Int32)) = vs.getD j (.int (0 : Int32))) (ne_x_d : x ≠ d) :
    MetFree l (⟨"java/lang/String", "<init>", "(Ljava/lang/AbstractStringBuilder;Ljava/lang/Void;)V"⟩ : MethodName) (head1 (Jvm.Cond.code (⟨"java/lang/String", "<init>", "(Ljava/lang/AbstractStringBuilder;Ljava/lang/Void;)V"⟩ : MethodName) jdk_42_method_150_code 5 none :: ws) ({ frames := 3, cells := 1, slots := 3, locals := 49 } : Room)) (fun as_ UU => as_ = #[(.ref x), (.ref o), .null] ∧ Z.Warmed39 UU.vm ∧ UU.heap = h0) (fun _ _ _ _ _ => True) (fun _ UU oo UU' => ∃ vv LL, oo = .returned vv ∧ (QstrV3 Z x o d kd vs us zc h0 n0) vv UU'.heap LL ∧ FrameEnd UU oo UU' LL ({ frames := 3, cells := 1, slots := 3, locals := 49 } : Room).cells ({ frames := 3, cells := 1, slots := 3, locals := 49 } : Room).slots) := by
  refine own_met (plainFor_of_name pn_13) ?_
  intro p e s m below meth c s₁ X0 hx hby hml hret hlk hown hnm hZ e0
  have N0 := Fr.nil n0
  have Z_ := Z0
  refine OwnGo.cast (ef_strV3 m x o) ?_
  show OwnGo p e below s _ _ _ s₁ (mkF m 0 #[.val (.ref x), .val (.ref o), .val .null, .unset, .unset] [])
  have Kp : Keep h0 h0 [x] := Keep.refl h0 [x]
  refine OwnGo.st (fun _ kk => XS.aloadN X0.here hx rfl (hb hby d20_0) rfl rfl  kk) ?_
  show OwnGo p e below s _ _ _ s₁ (mkF m 1 #[.val (.ref x), .val (.ref o), .val .null, .unset, .unset] [(.ref x)])
  obtain ⟨T57, X57, e57, st57⟩ := initO X0 hx hZ hown (hw _ (List.mem_of_getElem? (i := 11) rfl)) (hw _ (List.mem_of_getElem? (i := 12) rfl)) (hw _ (List.mem_of_getElem? (i := 13) rfl)) e0 (g := (mkF m 1 #[.val (.ref x), .val (.ref o), .val .null, .unset, .unset] [(.ref x)])) rfl (by rw [hml]; rfl) rfl (hb hby d20_1) (by decide) (W := 0) (by show 2 * 0 + _ ≤ _; exact Nat.le_of_eq rfl) (by decide)
  refine OwnGo.st st57 ?_
  show OwnGo p e below s _ _ _ T57 (mkF m 4 #[.val (.ref x), .val (.ref o), .val .null, .unset, .unset] [])
  refine OwnGo.st (fun _ kk => XS.aloadN X57.here hx rfl (hb hby d20_4) rfl rfl  kk) ?_
  show OwnGo p e below s _ _ _ T57 (mkF m 5 #[.val (.ref x), .val (.ref o), .val .null, .unset, .unset] [(.ref o)])
  obtain ⟨cq58, kq58, q58a, q58b, q58c⟩ := isOf hZ e57 E_o
  obtain ⟨_, _, ⟨T58, L58, k58, n58⟩, -, X58, ⟨Lc58, hQ58, l58, y58, z58⟩, st58⟩ := X57.virtualBack hx (y := (⟨"java/lang/AbstractStringBuilder", "getValue", "()[B"⟩ : MethodName)) (z := (⟨"java/lang/AbstractStringBuilder", "getValue", "()[B"⟩ : MethodName)) hown (mvT hZ (hw _ (List.mem_of_getElem? (i := 116) rfl))) (mvT hZ (hw _ (List.mem_of_getElem? (i := 117) rfl))) (notFace_of_selects (args := #[]) (mvT hZ (hw _ (List.mem_of_getElem? (i := 119) rfl)))) (mvT hZ (hw _ (List.mem_of_getElem? (i := 119) rfl))) (mvT hZ (hw _ (List.mem_of_getElem? (i := 118) rfl))) (by decide) (backOf (W := 0) (rmgetV l Z a0 hw [] o d h0 n0 Z_ Fv) hZ (hw _ (List.mem_of_getElem? (i := 120) rfl)) (hw _ (List.mem_of_getElem? (i := 46) rfl)) (by decide) (by decide)) q58a q58c (g := (mkF m 5 #[.val (.ref x), .val (.ref o), .val .null, .unset, .unset] [(.ref o)])) rfl (by rw [hml]; rfl) (Steps.refl _) (argsL := []) (rest := []) (lenOf pd_13 rfl) rfl (by show 2 * 0 + _ ≤ _; exact Nat.le_of_eq rfl) (hb hby d20_5) (fun _ _ => ⟨rfl, e57, (by decide : 0 + 0 ≤ _), (by decide : 0 + 0 ≤ _)⟩)
  dsimp only [Pt.U, Pt.locs, Pt.cells, Pt.slots] at X58 l58 y58 z58 st58 hQ58
  subst l58 y58 z58
  obtain ⟨rfl, N58q, e58⟩ := hQ58
  have N58 := Fr.app N0 N58q
  refine OwnGo.st (fun _ kk => st58.trans kk) ?_
  show OwnGo p e below s _ _ _ T58 (mkF m 8 #[.val (.ref x), .val (.ref o), .val .null, .unset, .unset] [(.ref d)])
  refine OwnGo.st (fun _ kk => XS.astoreN X58.here hx rfl (hb hby d20_8) rfl rfl (l' := #[.val (.ref x), .val (.ref o), .val .null, .val (.ref d), .unset]) rfl kk) ?_
  show OwnGo p e below s _ _ _ T58 (mkF m 9 #[.val (.ref x), .val (.ref o), .val .null, .val (.ref d), .unset] [])
  refine OwnGo.st (fun _ kk => XS.aloadN X58.here hx rfl (hb hby d20_9) rfl rfl  kk) ?_
  show OwnGo p e below s _ _ _ T58 (mkF m 10 #[.val (.ref x), .val (.ref o), .val .null, .val (.ref d), .unset] [(.ref o)])
  obtain ⟨cq59, kq59, q59a, q59b, q59c⟩ := isOf hZ e58 E_o
  obtain ⟨_, _, ⟨T59, L59, k59, n59⟩, -, X59, ⟨Lc59, hQ59, l59, y59, z59⟩, st59⟩ := X58.virtualBack hx (y := (⟨"java/lang/AbstractStringBuilder", "length", "()I"⟩ : MethodName)) (z := (⟨"java/lang/StringBuilder", "length", "()I"⟩ : MethodName)) hown (mvT hZ (hw _ (List.mem_of_getElem? (i := 121) rfl))) (mvT hZ (hw _ (List.mem_of_getElem? (i := 122) rfl))) (own_nface (args := #[]) (z := (⟨"java/lang/AbstractStringBuilder", "ensureCapacityInternal", "(I)V"⟩ : MethodName)) (mvT hZ (hw _ (List.mem_of_getElem? (i := 79) rfl))) rfl) (mvT hZ (hw _ (List.mem_of_getElem? (i := 124) rfl))) (mvT hZ (hw _ (List.mem_of_getElem? (i := 125) rfl))) (by decide) (backOf (W := 0) (rmsbL l Z a0 hw [] o (3 : Int32) h0 n0 Z_ E_o Fn) hZ (hw _ (List.mem_of_getElem? (i := 126) rfl)) (hw _ (List.mem_of_getElem? (i := 38) rfl)) (by decide) (by decide)) q59a q59c (g := (mkF m 10 #[.val (.ref x), .val (.ref o), .val .null, .val (.ref d), .unset] [(.ref o)])) rfl (by rw [hml]; rfl) (Steps.refl _) (argsL := []) (rest := []) (lenOf pd_8 rfl) rfl (by show 2 * 0 + _ ≤ _; exact Nat.le_of_eq rfl) (hb hby d20_10) (fun _ _ => ⟨rfl, e58, (by decide : 0 + 0 ≤ _), (by decide : 0 + 0 ≤ _)⟩)
  dsimp only [Pt.U, Pt.locs, Pt.cells, Pt.slots] at X59 l59 y59 z59 st59 hQ59
  subst l59 y59 z59
  obtain ⟨rfl, N59q, e59⟩ := hQ59
  have N59 := Fr.app N58 N59q
  refine OwnGo.st (fun _ kk => st59.trans kk) ?_
  show OwnGo p e below s _ _ _ T59 (mkF m 13 #[.val (.ref x), .val (.ref o), .val .null, .val (.ref d), .unset] [(.int (3 : Int32))])
  refine OwnGo.st (fun _ kk => XS.istore X59.here hx rfl (hb hby d20_13) rfl (l' := #[.val (.ref x), .val (.ref o), .val .null, .val (.ref d), .val (.int (3 : Int32))]) rfl kk) ?_
  show OwnGo p e below s _ _ _ T59 (mkF m 15 #[.val (.ref x), .val (.ref o), .val .null, .val (.ref d), .val (.int (3 : Int32))] [])
  refine OwnGo.st (fun _ kk => XS.aloadN X59.here hx rfl (hb hby d20_15) rfl rfl  kk) ?_
  show OwnGo p e below s _ _ _ T59 (mkF m 16 #[.val (.ref x), .val (.ref o), .val .null, .val (.ref d), .val (.int (3 : Int32))] [(.ref o)])
  obtain ⟨cq60, kq60, q60a, q60b, q60c⟩ := isOf hZ e59 E_o
  obtain ⟨_, _, ⟨T60, L60, k60, n60⟩, -, X60, ⟨Lc60, hQ60, l60, y60, z60⟩, st60⟩ := X59.virtualBack hx (y := (⟨"java/lang/AbstractStringBuilder", "isLatin1", "()Z"⟩ : MethodName)) (z := (⟨"java/lang/AbstractStringBuilder", "isLatin1", "()Z"⟩ : MethodName)) hown (mvT hZ (hw _ (List.mem_of_getElem? (i := 129) rfl))) (mvT hZ (hw _ (List.mem_of_getElem? (i := 130) rfl))) (notFace_of_selects (args := #[]) (mvT hZ (hw _ (List.mem_of_getElem? (i := 132) rfl)))) (mvT hZ (hw _ (List.mem_of_getElem? (i := 132) rfl))) (mvT hZ (hw _ (List.mem_of_getElem? (i := 131) rfl))) (by decide) (backOf (W := 0) (rmabZ l Z a0 hw [] o zc h0 n0 Z_ O_ S_CS P_CS Fc) hZ (hw _ (List.mem_of_getElem? (i := 133) rfl)) (hw _ (List.mem_of_getElem? (i := 46) rfl)) (by decide) (by decide)) q60a q60c (g := (mkF m 16 #[.val (.ref x), .val (.ref o), .val .null, .val (.ref d), .val (.int (3 : Int32))] [(.ref o)])) rfl (by rw [hml]; rfl) (Steps.refl _) (argsL := []) (rest := []) (lenOf pd_3 rfl) rfl (by show 2 * 0 + _ ≤ _; exact Nat.le_of_eq rfl) (hb hby d20_16) (fun _ _ => ⟨rfl, e59, (by decide : 0 + 0 ≤ _), (by decide : 0 + 0 ≤ _)⟩)
  dsimp only [Pt.U, Pt.locs, Pt.cells, Pt.slots] at X60 l60 y60 z60 st60 hQ60
  subst l60 y60 z60
  obtain ⟨rfl, N60q, e60⟩ := hQ60
  have N60 := Fr.app N59 N60q
  refine OwnGo.st (fun _ kk => st60.trans kk) ?_
  show OwnGo p e below s _ _ _ T60 (mkF m 19 #[.val (.ref x), .val (.ref o), .val .null, .val (.ref d), .val (.int (3 : Int32))] [(.int (1 : Int32))])
  refine OwnGo.st (fun _ kk => XS.ifNo X60.here hx rfl (hb hby d20_19) rfl ((if0 _ _).trans (feq ((by decide) : ¬ ((1 : Int32) = (0 : Int32)))).1) kk) ?_
  show OwnGo p e below s _ _ _ T60 (mkF m 22 #[.val (.ref x), .val (.ref o), .val .null, .val (.ref d), .val (.int (3 : Int32))] [])
  refine OwnGo.st (fun _ kk => XS.aloadN X60.here hx rfl (hb hby d20_22) rfl rfl  kk) ?_
  show OwnGo p e below s _ _ _ T60 (mkF m 23 #[.val (.ref x), .val (.ref o), .val .null, .val (.ref d), .val (.int (3 : Int32))] [(.ref x)])
  refine OwnGo.st (fun _ kk => XS.iconst X60.here hx rfl (hb hby d20_23) kk) ?_
  show OwnGo p e below s _ _ _ T60 (mkF m 24 #[.val (.ref x), .val (.ref o), .val .null, .val (.ref d), .val (.int (3 : Int32))] [(.int (0 : Int32)), (.ref x)])
  obtain ⟨T61, h61, X61, e61, W61, st61⟩ := putFN X60 hx hZ hown (hw _ (List.mem_of_getElem? (i := 26) rfl)) Via.refl e60 Fxc E_x (Or.inr ⟨(hw _ (List.mem_of_getElem? (i := 27) rfl)), rfl, hnm⟩) (hw _ (List.mem_of_getElem? (i := 2) rfl)) (ty := .byte) (v' := (.int (0 : Int32))) (by decide) rfl (by decide) (g := (mkF m 24 #[.val (.ref x), .val (.ref o), .val .null, .val (.ref d), .val (.int (3 : Int32))] [(.int (0 : Int32)), (.ref x)])) rfl rfl (hb hby d20_24)
  have E_x := E_x.wr W61
  have Fxv := Fxv.other W61 (Or.inr (slot_ne (Or.inr (hw _ (List.mem_of_getElem? (i := 29) rfl))) (Or.inr (hw _ (List.mem_of_getElem? (i := 27) rfl))) (by decide) (t := (.array .byte)) (t' := .byte) (by decide) (by decide)))
  have Fxc := Fxc.same W61
  have V_d := V_d.other W61 (Ne.symm ne_x_d)
  have O_ := O_.wr W61 g_x
  have Kp := Kp.wr W61 (Or.inl (List.mem_of_getElem? (i := 0) rfl))
  have N61 := Fr.snoc X61 N60 g_x
  have Z_ : n0 ≤ h61.size := by rw [W61.size]; exact Z_
  refine OwnGo.st st61 ?_
  show OwnGo p e below s _ _ _ T61 (mkF m 27 #[.val (.ref x), .val (.ref o), .val .null, .val (.ref d), .val (.int (3 : Int32))] [])
  refine OwnGo.st (fun _ kk => XS.aloadN X61.here hx rfl (hb hby d20_27) rfl rfl  kk) ?_
  show OwnGo p e below s _ _ _ T61 (mkF m 28 #[.val (.ref x), .val (.ref o), .val .null, .val (.ref d), .val (.int (3 : Int32))] [(.ref x)])
  refine OwnGo.st (fun _ kk => XS.aloadN X61.here hx rfl (hb hby d20_28) rfl rfl  kk) ?_
  show OwnGo p e below s _ _ _ T61 (mkF m 29 #[.val (.ref x), .val (.ref o), .val .null, .val (.ref d), .val (.int (3 : Int32))] [(.ref d), (.ref x)])
  refine OwnGo.st (fun _ kk => XS.iconst X61.here hx rfl (hb hby d20_29) kk) ?_
  show OwnGo p e below s _ _ _ T61 (mkF m 30 #[.val (.ref x), .val (.ref o), .val .null, .val (.ref d), .val (.int (3 : Int32))] [(.int (0 : Int32)), (.ref d), (.ref x)])
  refine OwnGo.st (fun _ kk => XS.iload X61.here hx rfl (hb hby d20_30) rfl  kk) ?_
  show OwnGo p e below s _ _ _ T61 (mkF m 32 #[.val (.ref x), .val (.ref o), .val .null, .val (.ref d), .val (.int (3 : Int32))] [(.int (3 : Int32)), (.int (0 : Int32)), (.ref d), (.ref x)])
  obtain ⟨_, _, ⟨T62, L62, k62, n62⟩, -, X62, ⟨Lc62, hQ62, l62, y62, z62⟩, st62⟩ := Jvm.LawKit.callS X61 hx (y := (⟨"java/util/Arrays", "copyOfRange", "([BII)[B"⟩ : MethodName)) hown (mvT hZ (hw _ (List.mem_of_getElem? (i := 134) rfl))) (mvT hZ (hw _ (List.mem_of_getElem? (i := 135) rfl))) (mvT hZ (hw _ (List.mem_of_getElem? (i := 136) rfl))) (mvT hZ (hw _ (List.mem_of_getElem? (i := 137) rfl))) (by decide) (backOf (W := 1) (rmcor3 l Z a0 hw [] d kd vs us h61 n0 Z_ V_d hus) hZ (hw _ (List.mem_of_getElem? (i := 137) rfl)) (hw _ (List.mem_of_getElem? (i := 136) rfl)) (by decide) (by decide)) (g := (mkF m 32 #[.val (.ref x), .val (.ref o), .val .null, .val (.ref d), .val (.int (3 : Int32))] [(.int (3 : Int32)), (.int (0 : Int32)), (.ref d), (.ref x)])) rfl (by rw [hml]; rfl) (argsL := [(.ref d), (.int (0 : Int32)), (.int (3 : Int32))]) (rest := [(.ref x)]) (lenOf pd_12 rfl) rfl (by show 2 * 0 + _ ≤ _; exact Nat.le_of_eq rfl) (hb hby d20_32) (fun _ _ => ⟨rfl, e61, (by decide : 0 + 1 ≤ _), (by decide : 0 + 3 ≤ _)⟩)
  dsimp only [Pt.U, Pt.locs, Pt.cells, Pt.slots] at X62 l62 y62 z62 st62 hQ62
  subst l62 y62 z62
  obtain ⟨t62, kb62, rfl, N62q, K62, V62, zt62⟩ := hQ62
  have N62 := Fr.app N61 N62q
  have ne_x_t62 : x ≠ t62 := Nat.ne_of_lt (Nat.lt_of_lt_of_le E_x.lt zt62)
  have ne_d_t62 : d ≠ t62 := Nat.ne_of_lt (Nat.lt_of_lt_of_le V_d.lt zt62)
  have g_t62 : n0 ≤ t62 := Nat.le_trans Z_ zt62
  have sz_t62 : h0.size ≤ t62 := Nat.le_trans Kp.1 zt62
  have Z_ : n0 ≤ T62.heap.size := Nat.le_trans Z_ K62.1
  have E_x := E_x.keep K62
  have Fxv := Fxv.keep K62 nin0
  have Fxc := Fxc.keep K62 nin0
  have V_d := V_d.keep K62 nin0
  have O_ := O_.keep K62 all0
  have Kp := Kp.trans K62 all0
  refine OwnGo.st st62 ?_
  show OwnGo p e below s _ _ _ T62 (mkF m 35 #[.val (.ref x), .val (.ref o), .val .null, .val (.ref d), .val (.int (3 : Int32))] [(.ref t62), (.ref x)])
  obtain ⟨T63, h63, X63, e63, W63, st63⟩ := putF X62 hx hZ hown (host := "") (Or.inl (hw _ (List.mem_of_getElem? (i := 28) rfl))) Via.refl rfl Fxv E_x (Or.inr ⟨(hw _ (List.mem_of_getElem? (i := 29) rfl)), rfl, hnm⟩) (hw _ (List.mem_of_getElem? (i := 2) rfl)) (ty := (.array .byte)) (by decide) rfl rfl (g := (mkF m 35 #[.val (.ref x), .val (.ref o), .val .null, .val (.ref d), .val (.int (3 : Int32))] [(.ref t62), (.ref x)])) rfl rfl (hb hby d20_35)
  have E_x := E_x.wr W63
  have Fxv := Fxv.same W63
  have Fxc := Fxc.other W63 (Or.inr (slot_ne (Or.inr (hw _ (List.mem_of_getElem? (i := 27) rfl))) (Or.inr (hw _ (List.mem_of_getElem? (i := 29) rfl))) (by decide) (t := .byte) (t' := (.array .byte)) (by decide) (by decide)))
  have V_d := V_d.other W63 (Ne.symm ne_x_d)
  have V62 := V62.other W63 (Ne.symm ne_x_t62)
  have O_ := O_.wr W63 g_x
  have Kp := Kp.wr W63 (Or.inl (List.mem_of_getElem? (i := 0) rfl))
  have N63 := Fr.snoc X63 N62 g_x
  have Z_ : n0 ≤ h63.size := by rw [W63.size]; exact Z_
  refine OwnGo.st st63 ?_
  show OwnGo p e below s _ _ _ T63 (mkF m 38 #[.val (.ref x), .val (.ref o), .val .null, .val (.ref d), .val (.int (3 : Int32))] [])
  refine OwnGo.st (fun _ kk => XS.goto X63.here hx rfl (pc0 := 38) (pc' := 97) rfl (hb hby d20_38) (by decide) (by decide) kk) ?_
  show OwnGo p e below s _ _ _ T63 (mkF m 97 #[.val (.ref x), .val (.ref o), .val .null, .val (.ref d), .val (.int (3 : Int32))] [])
  exact OwnGo.retV X63 hx hret hlk (hb hby d20_97) (by show QstrV3 Z x o d kd vs us zc h0 n0 _ T63.heap _; rw [e63]; exact ⟨rfl, N63, Kp, E_x, Fxc, t62, kb62, Fxv, V62, sz_t62⟩) (by decide) (by decide)
def QstrB3 (Z : State) (x : Addr) (o : Addr) (d : Addr) (kd : ClassId) (vs : List Value) (us : List Value) (zc : Int32) (h0 : Heap) (n0 : Nat) (v : Option Value) (h : Heap) (L : List Loc) : Prop := v = none ∧ Fr n0 L ∧ Keep h0 h [x] ∧ Exa Z h x "java/lang/String" ∧ Fld Z h x "java/lang/String" "coder" "B" (.int (0 : Int32)) ∧ ∃ (t : Addr) (kb : ClassId), Fld Z h x "java/lang/String" "value" "[B" (.ref t) ∧ Arv Z h t kb .byte (3 : Int32) us (.int (0 : Int32)) ∧ h0.size ≤ t
set_option maxRecDepth 65536 in
set_option maxHeartbeats 40000000 in
theorem rmstrB3 (l : Launch) (Z : State) (a0 : Array Value) (hw : ∀ d ∈ tables_1, d.before a0 Z = true) (ws : List Jvm.Cond) (x : Addr) (o : Addr) (d : Addr) (kd : ClassId) (vs : List Value) (us : List Value) (zc : Int32) (h0 : Heap) (n0 : Nat) (Z0 : n0 ≤ h0.size) (O_ : Old Z n0 h0) (S_CS : Sta Z Z.heap "java/lang/String" "COMPACT_STRINGS" "Z" (.int zc)) (P_CS : ¬ zc = (0 : Int32)) (E_x : Exa Z h0 x "java/lang/String") (Fxv : Fld Z h0 x "java/lang/String" "value" "[B" .null) (Fxc : Fld Z h0 x "java/lang/String" "coder" "B" (.int (0 : Int32))) (g_x : n0 ≤ x) (E_o : Exa Z h0 o "java/lang/StringBuilder") (Fv : Fld Z h0 o "java/lang/AbstractStringBuilder" "value" "[B" (.ref d)) (Fc : Fld Z h0 o "java/lang/AbstractStringBuilder" "coder" "B" (.int (0 : Int32))) (Fn : Fld Z h0 o "java/lang/AbstractStringBuilder" "count" "I" (.int (3 : Int32))) (V_d : Arv Z h0 d kd .byte (16 : Int32) vs (.int (0 : Int32))) (hus : ∀ j, j < 3 → us.getD j (.int (0 : Int32)) = vs.getD j (.int (0 : Int32))) (ne_x_d : x ≠ d) :
    MetFree l (⟨"java/lang/String", "<init>", "(Ljava/lang/StringBuilder;)V"⟩ : MethodName) (head1 (Jvm.Cond.code (⟨"java/lang/String", "<init>", "(Ljava/lang/StringBuilder;)V"⟩ : MethodName) jdk_42_method_53_code 2 none :: ws) ({ frames := 4, cells := 1, slots := 3, locals := 65 } : Room)) (fun as_ UU => as_ = #[(.ref x), (.ref o)] ∧ Z.Warmed39 UU.vm ∧ UU.heap = h0) (fun _ _ _ _ _ => True) (fun _ UU oo UU' => ∃ vv LL, oo = .returned vv ∧ (QstrB3 Z x o d kd vs us zc h0 n0) vv UU'.heap LL ∧ FrameEnd UU oo UU' LL ({ frames := 4, cells := 1, slots := 3, locals := 65 } : Room).cells ({ frames := 4, cells := 1, slots := 3, locals := 65 } : Room).slots) := by
  refine own_met (plainFor_of_name pn_13) ?_
  intro p e s m below meth c s₁ X0 hx hby hml hret hlk hown hnm hZ e0
  have N0 := Fr.nil n0
  have Z_ := Z0
  refine OwnGo.cast (ef_strB3 m x o) ?_
  show OwnGo p e below s _ _ _ s₁ (mkF m 0 #[.val (.ref x), .val (.ref o)] [])
  refine OwnGo.st (fun _ kk => XS.aloadN X0.here hx rfl (hb hby d19_0) rfl rfl  kk) ?_
  show OwnGo p e below s _ _ _ s₁ (mkF m 1 #[.val (.ref x), .val (.ref o)] [(.ref x)])
  refine OwnGo.st (fun _ kk => XS.aloadN X0.here hx rfl (hb hby d19_1) rfl rfl  kk) ?_
  show OwnGo p e below s _ _ _ s₁ (mkF m 2 #[.val (.ref x), .val (.ref o)] [(.ref o), (.ref x)])
  refine OwnGo.st (fun _ kk => XS.aconstNull X0.here hx rfl (hb hby d19_2) kk) ?_
  show OwnGo p e below s _ _ _ s₁ (mkF m 3 #[.val (.ref x), .val (.ref o)] [.null, (.ref o), (.ref x)])
  obtain ⟨_, _, ⟨T64, L64, k64, n64⟩, -, X64, ⟨Lc64, hQ64, l64, y64, z64⟩, st64⟩ := X0.specialBack hx (y := (⟨"java/lang/String", "<init>", "(Ljava/lang/AbstractStringBuilder;Ljava/lang/Void;)V"⟩ : MethodName)) rfl hown (mvT hZ (hw _ (List.mem_of_getElem? (i := 113) rfl))) (mvT hZ (hw _ (List.mem_of_getElem? (i := 114) rfl))) (mvT hZ (hw _ (List.mem_of_getElem? (i := 115) rfl))) (by decide) (backOf (W := 0) (rmstrV3 l Z a0 hw [] x o d kd vs us zc h0 n0 Z_ O_ S_CS P_CS E_x Fxv Fxc g_x E_o Fv Fc Fn V_d hus ne_x_d) hZ (hw _ (List.mem_of_getElem? (i := 115) rfl)) (hw _ (List.mem_of_getElem? (i := 3) rfl)) (by decide) (by decide)) (g := (mkF m 3 #[.val (.ref x), .val (.ref o)] [.null, (.ref o), (.ref x)])) rfl (by rw [hml]; rfl) (Steps.refl _) (a := x) (argsL := [(.ref o), .null]) (rest := []) (lenOf pd_14 rfl) rfl (by show 2 * 0 + _ ≤ _; exact Nat.le_of_eq rfl) (hb hby d19_3) (fun _ _ => ⟨rfl, e0, (by decide : 0 + 1 ≤ _), (by decide : 0 + 3 ≤ _)⟩)
  dsimp only [Pt.U, Pt.locs, Pt.cells, Pt.slots] at X64 l64 y64 z64 st64 hQ64
  subst l64 y64 z64
  obtain ⟨rfl, N64q, K64, Ex64, Fxc64, t64, kb64, Fxv64, V64, zt64⟩ := hQ64
  have N64 := Fr.app N0 N64q
  have ne_x_t64 : x ≠ t64 := Nat.ne_of_lt (Nat.lt_of_lt_of_le E_x.lt zt64)
  have g_t64 : n0 ≤ t64 := Nat.le_trans Z_ zt64
  have Z_ : n0 ≤ T64.heap.size := Nat.le_trans Z_ K64.1
  have E_x := E_x.keep K64
  have O_ := O_.keep K64 (allS g_x all0)
  refine OwnGo.st (fun _ kk => st64.trans kk) ?_
  show OwnGo p e below s _ _ _ T64 (mkF m 6 #[.val (.ref x), .val (.ref o)] [])
  exact OwnGo.retV X64 hx hret hlk (hb hby d19_6) (by show QstrB3 Z x o d kd vs us zc h0 n0 _ T64.heap _; exact ⟨rfl, N64, K64, Ex64, Fxc64, t64, kb64, Fxv64, V64, zt64⟩) (by decide) (by decide)
def QtoS3 (Z : State) (o : Addr) (d : Addr) (kd : ClassId) (vs : List Value) (us : List Value) (zc : Int32) (h0 : Heap) (n0 : Nat) (v : Option Value) (h : Heap) (L : List Loc) : Prop := ∃ (x t : Addr) (kb : ClassId), v = some (.ref x) ∧ Fr n0 L ∧ Keep h0 h [] ∧ Exa Z h x "java/lang/String" ∧ Fld Z h x "java/lang/String" "coder" "B" (.int (0 : Int32)) ∧ Fld Z h x "java/lang/String" "value" "[B" (.ref t) ∧ Arv Z h t kb .byte (3 : Int32) us (.int (0 : Int32)) ∧ h0.size ≤ x ∧ h0.size ≤ t
set_option maxRecDepth 65536 in
set_option maxHeartbeats 40000000 in
theorem rmtoS3 (l : Launch) (Z : State) (a0 : Array Value) (hw : ∀ d ∈ tables_1, d.before a0 Z = true) (ws : List Jvm.Cond) (o : Addr) (d : Addr) (kd : ClassId) (vs : List Value) (us : List Value) (zc : Int32) (h0 : Heap) (n0 : Nat) (Z0 : n0 ≤ h0.size) (O_ : Old Z n0 h0) (S_CS : Sta Z Z.heap "java/lang/String" "COMPACT_STRINGS" "Z" (.int zc)) (P_CS : ¬ zc = (0 : Int32)) (E_o : Exa Z h0 o "java/lang/StringBuilder") (Fv : Fld Z h0 o "java/lang/AbstractStringBuilder" "value" "[B" (.ref d)) (Fc : Fld Z h0 o "java/lang/AbstractStringBuilder" "coder" "B" (.int (0 : Int32))) (Fn : Fld Z h0 o "java/lang/AbstractStringBuilder" "count" "I" (.int (3 : Int32))) (V_d : Arv Z h0 d kd .byte (16 : Int32) vs (.int (0 : Int32))) (hus : ∀ j, j < 3 → us.getD j (.int (0 : Int32)) = vs.getD j (.int (0 : Int32))) :
    MetFree l (⟨"java/lang/StringBuilder", "toString", "()Ljava/lang/String;"⟩ : MethodName) (head1 (Jvm.Cond.code (⟨"java/lang/StringBuilder", "toString", "()Ljava/lang/String;"⟩ : MethodName) jdk_67_method_42_code 1 (some (.object "java/lang/String")) :: ws) ({ frames := 5, cells := 2, slots := 7, locals := 79 } : Room)) (fun as_ UU => as_ = #[(.ref o)] ∧ Z.Warmed39 UU.vm ∧ UU.heap = h0) (fun _ _ _ _ _ => True) (fun _ UU oo UU' => ∃ vv LL, oo = .returned vv ∧ (QtoS3 Z o d kd vs us zc h0 n0) vv UU'.heap LL ∧ FrameEnd UU oo UU' LL ({ frames := 5, cells := 2, slots := 7, locals := 79 } : Room).cells ({ frames := 5, cells := 2, slots := 7, locals := 79 } : Room).slots) := by
  refine own_met (plainFor_of_name pn_8) ?_
  intro p e s m below meth c s₁ X0 hx hby hml hret hlk hown hnm hZ e0
  have N0 := Fr.nil n0
  have Z_ := Z0
  refine OwnGo.cast (ef_toS3 m o) ?_
  show OwnGo p e below s _ _ _ s₁ (mkF m 0 #[.val (.ref o)] [])
  have Kp : Keep h0 h0 [] := Keep.refl h0 []
  obtain ⟨T65, h65, X65, e65, E65, A65, D65, -, st65⟩ := newO X0 hx hZ hown (hw _ (List.mem_of_getElem? (i := 109) rfl)) (hw _ (List.mem_of_getElem? (i := 2) rfl)) (hw _ (List.mem_of_getElem? (i := 3) rfl)) e0 (g := (mkF m 0 #[.val (.ref o)] [])) rfl (hb hby d18_0) (by decide) (by decide)
  obtain ⟨b65, g65⟩ : ∃ z, z = h0.size := ⟨_, rfl⟩
  rw [← g65] at A65 D65 st65
  have ne_o_b65 : o ≠ b65 := Nat.ne_of_lt (Nat.lt_of_lt_of_le Fv.lt (Nat.le_of_eq g65.symm))
  have ne_d_b65 : d ≠ b65 := Nat.ne_of_lt (Nat.lt_of_lt_of_le V_d.lt (Nat.le_of_eq g65.symm))
  have g_b65 : n0 ≤ b65 := Nat.le_trans Z_ (Nat.le_of_eq g65.symm)
  have sz_b65 : h0.size ≤ b65 := Nat.le_trans Kp.1 (Nat.le_of_eq g65.symm)
  have Fv := Fv.ext E65
  have Fc := Fc.ext E65
  have V_d := V_d.ext E65
  have E_o := E_o.ext E65
  have Fn := Fn.ext E65
  have O_ := O_.ext E65
  have Kp := Kp.ext E65
  have Z_ : n0 ≤ h65.size := Nat.le_trans Z_ E65.1
  have E_b65 := A65
  have F_coder_b65 : Fld Z h65 b65 "java/lang/String" "coder" "B" (.int (0 : Int32)) := D65 (Or.inr (hw _ (List.mem_of_getElem? (i := 27) rfl))) (ty := .byte) (by decide)
  have F_value_b65 : Fld Z h65 b65 "java/lang/String" "value" "[B" .null := D65 (Or.inr (hw _ (List.mem_of_getElem? (i := 29) rfl))) (ty := (.array .byte)) (by decide)
  refine OwnGo.st st65 ?_
  show OwnGo p e below s _ _ _ T65 (mkF m 3 #[.val (.ref o)] [(.ref b65)])
  refine OwnGo.st (fun _ kk => XS.dup X65.here hx rfl (hb hby d18_3) rfl rfl kk) ?_
  show OwnGo p e below s _ _ _ T65 (mkF m 4 #[.val (.ref o)] [(.ref b65), (.ref b65)])
  refine OwnGo.st (fun _ kk => XS.aloadN X65.here hx rfl (hb hby d18_4) rfl rfl  kk) ?_
  show OwnGo p e below s _ _ _ T65 (mkF m 5 #[.val (.ref o)] [(.ref o), (.ref b65), (.ref b65)])
  obtain ⟨_, _, ⟨T66, L66, k66, n66⟩, -, X66, ⟨Lc66, hQ66, l66, y66, z66⟩, st66⟩ := X65.specialBack hx (y := (⟨"java/lang/String", "<init>", "(Ljava/lang/StringBuilder;)V"⟩ : MethodName)) rfl hown (mvT hZ (hw _ (List.mem_of_getElem? (i := 110) rfl))) (mvT hZ (hw _ (List.mem_of_getElem? (i := 111) rfl))) (mvT hZ (hw _ (List.mem_of_getElem? (i := 112) rfl))) (by decide) (backOf (W := 1) (rmstrB3 l Z a0 hw [] b65 o d kd vs us zc h65 n0 Z_ O_ S_CS P_CS E_b65 F_value_b65 F_coder_b65 g_b65 E_o Fv Fc Fn V_d hus (Ne.symm ne_d_b65)) hZ (hw _ (List.mem_of_getElem? (i := 112) rfl)) (hw _ (List.mem_of_getElem? (i := 3) rfl)) (by decide) (by decide)) (g := (mkF m 5 #[.val (.ref o)] [(.ref o), (.ref b65), (.ref b65)])) rfl (by rw [hml]; rfl) (Steps.refl _) (a := b65) (argsL := [(.ref o)]) (rest := [(.ref b65)]) (lenOf pd_15 rfl) rfl (by show 2 * 0 + _ ≤ _; exact Nat.le_of_eq rfl) (hb hby d18_5) (fun _ _ => ⟨rfl, e65, (by decide : 1 + 1 ≤ _), (by decide : 4 + 3 ≤ _)⟩)
  dsimp only [Pt.U, Pt.locs, Pt.cells, Pt.slots] at X66 l66 y66 z66 st66 hQ66
  subst l66 y66 z66
  obtain ⟨rfl, N66q, K66, Ex66, Fxc66, t66, kb66, Fxv66, V66, zt66⟩ := hQ66
  have N66 := Fr.app N0 N66q
  have ne_o_t66 : o ≠ t66 := Nat.ne_of_lt (Nat.lt_of_lt_of_le Fv.lt zt66)
  have ne_d_t66 : d ≠ t66 := Nat.ne_of_lt (Nat.lt_of_lt_of_le V_d.lt zt66)
  have ne_b65_t66 : b65 ≠ t66 := Nat.ne_of_lt (Nat.lt_of_lt_of_le E_b65.lt zt66)
  have g_t66 : n0 ≤ t66 := Nat.le_trans Z_ zt66
  have sz_t66 : h0.size ≤ t66 := Nat.le_trans Kp.1 zt66
  have Z_ : n0 ≤ T66.heap.size := Nat.le_trans Z_ K66.1
  have Fv := Fv.keep K66 (ninS ne_o_b65 nin0)
  have Fc := Fc.keep K66 (ninS ne_o_b65 nin0)
  have V_d := V_d.keep K66 (ninS ne_d_b65 nin0)
  have E_o := E_o.keep K66
  have Fn := Fn.keep K66 (ninS ne_o_b65 nin0)
  have E_b65 := E_b65.keep K66
  have O_ := O_.keep K66 (allS g_b65 all0)
  have Kp := Kp.trans K66 (allS (Or.inr sz_b65) all0)
  refine OwnGo.st (fun _ kk => st66.trans kk) ?_
  show OwnGo p e below s _ _ _ T66 (mkF m 8 #[.val (.ref o)] [(.ref b65)])
  exact OwnGo.ret X66 hx hret hlk rfl (Or.inr (Or.inr (Or.inr (Or.inr ⟨rfl, rfl, rfl⟩)))) (hb hby d18_8) (by show QtoS3 Z o d kd vs us zc h0 n0 _ T66.heap _; exact ⟨b65, t66, kb66, rfl, N66, Kp, Ex66, Fxc66, Fxv66, V66, sz_b65, sz_t66⟩) (by decide) (by decide)
def QcorB4 (Z : State) (d : Addr) (kd : ClassId) (vs : List Value) (us : List Value) (h0 : Heap) (n0 : Nat) (v : Option Value) (h : Heap) (L : List Loc) : Prop := ∃ (t : Addr) (kb : ClassId), v = some (.ref t) ∧ Fr n0 L ∧ Keep h0 h [] ∧ Arv Z h t kb .byte (4 : Int32) us (.int (0 : Int32)) ∧ h0.size ≤ t
set_option maxRecDepth 65536 in
set_option maxHeartbeats 40000000 in
theorem rmcorB4 (l : Launch) (Z : State) (a0 : Array Value) (hw : ∀ d ∈ tables_1, d.before a0 Z = true) (ws : List Jvm.Cond) (d : Addr) (kd : ClassId) (vs : List Value) (us : List Value) (h0 : Heap) (n0 : Nat) (Z0 : n0 ≤ h0.size) (V_d : Arv Z h0 d kd .byte (16 : Int32) vs (.int (0 : Int32))) (hus : ∀ j, j < 4 → us.getD j (.int (0 : Int32)) = vs.getD j (.int (0 : Int32))) :
    MetFree l (⟨"java/util/Arrays", "copyOfRangeByte", "([BII)[B"⟩ : MethodName) (head1 (Jvm.Cond.code (⟨"java/util/Arrays", "copyOfRangeByte", "([BII)[B"⟩ : MethodName) jdk_65_method_133_code 5 (some (.array .byte)) :: ws) ({ frames := 1, cells := 1, slots := 4, locals := 18 } : Room)) (fun as_ UU => as_ = #[(.ref d), (.int (0 : Int32)), (.int (4 : Int32))] ∧ Z.Warmed39 UU.vm ∧ UU.heap = h0) (fun _ _ _ _ _ => True) (fun _ UU oo UU' => ∃ vv LL, oo = .returned vv ∧ (QcorB4 Z d kd vs us h0 n0) vv UU'.heap LL ∧ FrameEnd UU oo UU' LL ({ frames := 1, cells := 1, slots := 4, locals := 18 } : Room).cells ({ frames := 1, cells := 1, slots := 4, locals := 18 } : Room).slots) := by
  refine own_met (plainFor_of_name pn_27) ?_
  intro p e s m below meth c s₁ X0 hx hby hml hret hlk hown hnm hZ e0
  have N0 := Fr.nil n0
  have Z_ := Z0
  refine OwnGo.cast (ef_corB4 m d (0 : Int32) (4 : Int32)) ?_
  show OwnGo p e below s _ _ _ s₁ (mkF m 0 #[.val (.ref d), .val (.int (0 : Int32)), .val (.int (4 : Int32)), .unset, .unset] [])
  have Kp : Keep h0 h0 [] := Keep.refl h0 []
  refine OwnGo.st (fun _ kk => XS.iloadN X0.here hx rfl (hb hby d26_0) rfl  kk) ?_
  show OwnGo p e below s _ _ _ s₁ (mkF m 1 #[.val (.ref d), .val (.int (0 : Int32)), .val (.int (4 : Int32)), .unset, .unset] [(.int (0 : Int32))])
  refine OwnGo.st (fun _ kk => XS.iloadN X0.here hx rfl (hb hby d26_1) rfl  kk) ?_
  show OwnGo p e below s _ _ _ s₁ (mkF m 2 #[.val (.ref d), .val (.int (0 : Int32)), .val (.int (4 : Int32)), .unset, .unset] [(.int (4 : Int32)), (.int (0 : Int32))])
  obtain ⟨_, _, ⟨T67, L67, k67, n67⟩, -, X67, ⟨Lc67, hQ67, l67, y67, z67⟩, st67⟩ := Jvm.LawKit.callS X0 hx (y := (⟨"java/util/Arrays", "checkLength", "(II)V"⟩ : MethodName)) hown (mvT hZ (hw _ (List.mem_of_getElem? (i := 141) rfl))) (mvT hZ (hw _ (List.mem_of_getElem? (i := 142) rfl))) (mvT hZ (hw _ (List.mem_of_getElem? (i := 136) rfl))) (mvT hZ (hw _ (List.mem_of_getElem? (i := 143) rfl))) (by decide) (backOf (W := 0) (rmchkL l Z a0 hw [] (4 : Int32) h0 n0 Z_ (by decide)) hZ (hw _ (List.mem_of_getElem? (i := 143) rfl)) (hw _ (List.mem_of_getElem? (i := 136) rfl)) (by decide) (by decide)) (g := (mkF m 2 #[.val (.ref d), .val (.int (0 : Int32)), .val (.int (4 : Int32)), .unset, .unset] [(.int (4 : Int32)), (.int (0 : Int32))])) rfl (by rw [hml]; rfl) (argsL := [(.int (0 : Int32)), (.int (4 : Int32))]) (rest := []) (lenOf pd_2 rfl) rfl (by show 2 * 0 + _ ≤ _; exact Nat.le_of_eq rfl) (hb hby d26_2) (fun _ _ => ⟨rfl, e0, (by decide : 0 + 0 ≤ _), (by decide : 0 + 0 ≤ _)⟩)
  dsimp only [Pt.U, Pt.locs, Pt.cells, Pt.slots] at X67 l67 y67 z67 st67 hQ67
  subst l67 y67 z67
  obtain ⟨rfl, N67q, e67⟩ := hQ67
  have N67 := Fr.app N0 N67q
  refine OwnGo.st st67 ?_
  show OwnGo p e below s _ _ _ T67 (mkF m 5 #[.val (.ref d), .val (.int (0 : Int32)), .val (.int (4 : Int32)), .unset, .unset] [])
  refine OwnGo.st (fun _ kk => XS.iloadN X67.here hx rfl (hb hby d26_5) rfl  kk) ?_
  show OwnGo p e below s _ _ _ T67 (mkF m 6 #[.val (.ref d), .val (.int (0 : Int32)), .val (.int (4 : Int32)), .unset, .unset] [(.int (4 : Int32))])
  refine OwnGo.st (fun _ kk => XS.iloadN X67.here hx rfl (hb hby d26_6) rfl  kk) ?_
  show OwnGo p e below s _ _ _ T67 (mkF m 7 #[.val (.ref d), .val (.int (0 : Int32)), .val (.int (4 : Int32)), .unset, .unset] [(.int (0 : Int32)), (.int (4 : Int32))])
  refine OwnGo.st (fun _ kk => XS.isub X67.here hx rfl (hb hby d26_7) rfl kk) ?_
  show OwnGo p e below s _ _ _ T67 (mkF m 8 #[.val (.ref d), .val (.int (0 : Int32)), .val (.int (4 : Int32)), .unset, .unset] [(.int (4 : Int32))])
  refine OwnGo.st (fun _ kk => XS.istoreN X67.here hx rfl (hb hby d26_8) rfl (l' := #[.val (.ref d), .val (.int (0 : Int32)), .val (.int (4 : Int32)), .val (.int (4 : Int32)), .unset]) rfl kk) ?_
  show OwnGo p e below s _ _ _ T67 (mkF m 9 #[.val (.ref d), .val (.int (0 : Int32)), .val (.int (4 : Int32)), .val (.int (4 : Int32)), .unset] [])
  refine OwnGo.st (fun _ kk => XS.iloadN X67.here hx rfl (hb hby d26_9) rfl  kk) ?_
  show OwnGo p e below s _ _ _ T67 (mkF m 10 #[.val (.ref d), .val (.int (0 : Int32)), .val (.int (4 : Int32)), .val (.int (4 : Int32)), .unset] [(.int (4 : Int32))])
  obtain ⟨T68, h68, k68, X68, e68, E68, A68, Ex68, st68⟩ := newPE X67 hx hZ (hw _ (List.mem_of_getElem? (i := 19) rfl)) e67 (g := (mkF m 10 #[.val (.ref d), .val (.int (0 : Int32)), .val (.int (4 : Int32)), .val (.int (4 : Int32)), .unset] [(.int (4 : Int32))])) rfl (hb hby d26_10) rfl (by decide) (cap := 4) (by decide) (by decide) (by decide) (by decide) (ad := "[B") (by decide)
  obtain ⟨b68, g68⟩ : ∃ z, z = h0.size := ⟨_, rfl⟩
  rw [← g68] at A68 Ex68 st68
  have ne_d_b68 : d ≠ b68 := Nat.ne_of_lt (Nat.lt_of_lt_of_le V_d.lt (Nat.le_of_eq g68.symm))
  have g_b68 : n0 ≤ b68 := Nat.le_trans Z_ (Nat.le_of_eq g68.symm)
  have sz_b68 : h0.size ≤ b68 := Nat.le_trans Kp.1 (Nat.le_of_eq g68.symm)
  have V_d := V_d.ext E68
  have Kp := Kp.ext E68
  have Z_ : n0 ≤ h68.size := Nat.le_trans Z_ E68.1
  have V_b68 : Arv Z h68 b68 k68 .byte (4 : Int32) [] (.int (0 : Int32)) := Arv.new A68 (by decide)
  have E_b68 := Ex68
  refine OwnGo.st st68 ?_
  show OwnGo p e below s _ _ _ T68 (mkF m 12 #[.val (.ref d), .val (.int (0 : Int32)), .val (.int (4 : Int32)), .val (.int (4 : Int32)), .unset] [(.ref b68)])
  refine OwnGo.st (fun _ kk => XS.astore X68.here hx rfl (hb hby d26_12) rfl rfl (l' := #[.val (.ref d), .val (.int (0 : Int32)), .val (.int (4 : Int32)), .val (.int (4 : Int32)), .val (.ref b68)]) rfl kk) ?_
  show OwnGo p e below s _ _ _ T68 (mkF m 14 #[.val (.ref d), .val (.int (0 : Int32)), .val (.int (4 : Int32)), .val (.int (4 : Int32)), .val (.ref b68)] [])
  refine OwnGo.st (fun _ kk => XS.aloadN X68.here hx rfl (hb hby d26_14) rfl rfl  kk) ?_
  show OwnGo p e below s _ _ _ T68 (mkF m 15 #[.val (.ref d), .val (.int (0 : Int32)), .val (.int (4 : Int32)), .val (.int (4 : Int32)), .val (.ref b68)] [(.ref d)])
  refine OwnGo.st (fun _ kk => XS.iloadN X68.here hx rfl (hb hby d26_15) rfl  kk) ?_
  show OwnGo p e below s _ _ _ T68 (mkF m 16 #[.val (.ref d), .val (.int (0 : Int32)), .val (.int (4 : Int32)), .val (.int (4 : Int32)), .val (.ref b68)] [(.int (0 : Int32)), (.ref d)])
  refine OwnGo.st (fun _ kk => XS.aload X68.here hx rfl (hb hby d26_16) rfl rfl  kk) ?_
  show OwnGo p e below s _ _ _ T68 (mkF m 18 #[.val (.ref d), .val (.int (0 : Int32)), .val (.int (4 : Int32)), .val (.int (4 : Int32)), .val (.ref b68)] [(.ref b68), (.int (0 : Int32)), (.ref d)])
  refine OwnGo.st (fun _ kk => XS.iconst X68.here hx rfl (hb hby d26_18) kk) ?_
  show OwnGo p e below s _ _ _ T68 (mkF m 19 #[.val (.ref d), .val (.int (0 : Int32)), .val (.int (4 : Int32)), .val (.int (4 : Int32)), .val (.ref b68)] [(.int (0 : Int32)), (.ref b68), (.int (0 : Int32)), (.ref d)])
  refine OwnGo.st (fun _ kk => XS.aloadN X68.here hx rfl (hb hby d26_19) rfl rfl  kk) ?_
  show OwnGo p e below s _ _ _ T68 (mkF m 20 #[.val (.ref d), .val (.int (0 : Int32)), .val (.int (4 : Int32)), .val (.int (4 : Int32)), .val (.ref b68)] [(.ref d), (.int (0 : Int32)), (.ref b68), (.int (0 : Int32)), (.ref d)])
  obtain ⟨cl69, Ar69, -, S69, N69, -, -⟩ := id V_d
  refine OwnGo.st (fun _ kk => own_len hZ (len_of S69 N69) Ar69 X68 e68 hx (g := (mkF m 20 #[.val (.ref d), .val (.int (0 : Int32)), .val (.int (4 : Int32)), .val (.int (4 : Int32)), .val (.ref b68)] [(.ref d), (.int (0 : Int32)), (.ref b68), (.int (0 : Int32)), (.ref d)])) rfl rfl (hb hby d26_20) _ kk) ?_
  show OwnGo p e below s _ _ _ T68 (mkF m 21 #[.val (.ref d), .val (.int (0 : Int32)), .val (.int (4 : Int32)), .val (.int (4 : Int32)), .val (.ref b68)] [(.int (16 : Int32)), (.int (0 : Int32)), (.ref b68), (.int (0 : Int32)), (.ref d)])
  refine OwnGo.st (fun _ kk => XS.iloadN X68.here hx rfl (hb hby d26_21) rfl  kk) ?_
  show OwnGo p e below s _ _ _ T68 (mkF m 22 #[.val (.ref d), .val (.int (0 : Int32)), .val (.int (4 : Int32)), .val (.int (4 : Int32)), .val (.ref b68)] [(.int (0 : Int32)), (.int (16 : Int32)), (.int (0 : Int32)), (.ref b68), (.int (0 : Int32)), (.ref d)])
  refine OwnGo.st (fun _ kk => XS.isub X68.here hx rfl (hb hby d26_22) rfl kk) ?_
  show OwnGo p e below s _ _ _ T68 (mkF m 23 #[.val (.ref d), .val (.int (0 : Int32)), .val (.int (4 : Int32)), .val (.int (4 : Int32)), .val (.ref b68)] [(.int (16 : Int32)), (.int (0 : Int32)), (.ref b68), (.int (0 : Int32)), (.ref d)])
  refine OwnGo.st (fun _ kk => XS.iloadN X68.here hx rfl (hb hby d26_23) rfl  kk) ?_
  show OwnGo p e below s _ _ _ T68 (mkF m 24 #[.val (.ref d), .val (.int (0 : Int32)), .val (.int (4 : Int32)), .val (.int (4 : Int32)), .val (.ref b68)] [(.int (4 : Int32)), (.int (16 : Int32)), (.int (0 : Int32)), (.ref b68), (.int (0 : Int32)), (.ref d)])
  obtain ⟨_, _, ⟨T70, L70, k70, n70⟩, -, X70, ⟨Lc70, hQ70, l70, y70, z70⟩, st70⟩ := Jvm.LawKit.callS X68 hx (y := (⟨"java/lang/Math", "min", "(II)I"⟩ : MethodName)) hown (mvT hZ (hw _ (List.mem_of_getElem? (i := 144) rfl))) (mvT hZ (hw _ (List.mem_of_getElem? (i := 145) rfl))) (mvT hZ (hw _ (List.mem_of_getElem? (i := 146) rfl))) (mvT hZ (hw _ (List.mem_of_getElem? (i := 147) rfl))) (by decide) (backOf (W := 4) (rmmin l Z a0 hw [] (4 : Int32) h68 n0 Z_ (by decide)) hZ (hw _ (List.mem_of_getElem? (i := 147) rfl)) (hw _ (List.mem_of_getElem? (i := 146) rfl)) (by decide) (by decide)) (g := (mkF m 24 #[.val (.ref d), .val (.int (0 : Int32)), .val (.int (4 : Int32)), .val (.int (4 : Int32)), .val (.ref b68)] [(.int (4 : Int32)), (.int (16 : Int32)), (.int (0 : Int32)), (.ref b68), (.int (0 : Int32)), (.ref d)])) rfl (by rw [hml]; rfl) (argsL := [(.int (16 : Int32)), (.int (4 : Int32))]) (rest := [(.int (0 : Int32)), (.ref b68), (.int (0 : Int32)), (.ref d)]) (lenOf pd_11 rfl) rfl (by show 2 * 0 + _ ≤ _; exact Nat.le_of_eq rfl) (hb hby d26_24) (fun _ _ => ⟨rfl, e68, (by decide : 1 + 0 ≤ _), (by decide : 4 + 0 ≤ _)⟩)
  dsimp only [Pt.U, Pt.locs, Pt.cells, Pt.slots] at X70 l70 y70 z70 st70 hQ70
  subst l70 y70 z70
  obtain ⟨rfl, N70q, e70⟩ := hQ70
  have N70 := Fr.app N67 N70q
  refine OwnGo.st st70 ?_
  show OwnGo p e below s _ _ _ T70 (mkF m 27 #[.val (.ref d), .val (.int (0 : Int32)), .val (.int (4 : Int32)), .val (.int (4 : Int32)), .val (.ref b68)] [(.int (4 : Int32)), (.int (0 : Int32)), (.ref b68), (.int (0 : Int32)), (.ref d)])
  obtain ⟨T71, h71, Lc71, X71, e71, K71, V71', Fq71, st71⟩ := own_copy X70 hx hZ hown (hw _ (List.mem_of_getElem? (i := 148) rfl)) (hw _ (List.mem_of_getElem? (i := 100) rfl)) (hw _ (List.mem_of_getElem? (i := 98) rfl)) (hw _ (List.mem_of_getElem? (i := 99) rfl)) e70 V_d V_b68 (us := us) (by decide) (by decide) (by decide) (by decide) (by decide) (fun j hj => by rw [if_pos ⟨Nat.zero_le _, by show j < 0 + 4; have := (show j < 4 from hj); omega⟩]; show _ = vs.getD (0 + (j - 0)) _; rw [Nat.zero_add, Nat.sub_zero]; exact hus j hj) (g := (mkF m 27 #[.val (.ref d), .val (.int (0 : Int32)), .val (.int (4 : Int32)), .val (.int (4 : Int32)), .val (.ref b68)] [(.int (4 : Int32)), (.int (0 : Int32)), (.ref b68), (.int (0 : Int32)), (.ref d)])) rfl (by rw [hml]; rfl) rfl (hb hby d26_27) (by decide) (W := 0) (by show 2 * 0 + _ ≤ _; exact Nat.le_of_eq rfl) (by decide)
  have N71 := Fr.app N70 (Fq71 n0 g_b68)
  have Z_ : n0 ≤ h71.size := Nat.le_trans Z_ K71.1
  have V_d := V_d.keep K71 (ninS ne_d_b68 nin0)
  have E_b68 := E_b68.keep K71
  have Kp := Kp.trans K71 (allS (Or.inr sz_b68) all0)
  have V_b68 := V71'
  refine OwnGo.st st71 ?_
  show OwnGo p e below s _ _ _ T71 (mkF m 30 #[.val (.ref d), .val (.int (0 : Int32)), .val (.int (4 : Int32)), .val (.int (4 : Int32)), .val (.ref b68)] [])
  refine OwnGo.st (fun _ kk => XS.aload X71.here hx rfl (hb hby d26_30) rfl rfl  kk) ?_
  show OwnGo p e below s _ _ _ T71 (mkF m 32 #[.val (.ref d), .val (.int (0 : Int32)), .val (.int (4 : Int32)), .val (.int (4 : Int32)), .val (.ref b68)] [(.ref b68)])
  exact OwnGo.ret X71 hx hret hlk rfl (Or.inr (Or.inr (Or.inr (Or.inr ⟨rfl, rfl, rfl⟩)))) (hb hby d26_32) (by show QcorB4 Z d kd vs us h0 n0 _ T71.heap _; rw [e71]; exact ⟨b68, k68, rfl, N71, Kp, V_b68, sz_b68⟩) (by decide) (by decide)
def Qcor4 (Z : State) (d : Addr) (kd : ClassId) (vs : List Value) (us : List Value) (h0 : Heap) (n0 : Nat) (v : Option Value) (h : Heap) (L : List Loc) : Prop := ∃ (t : Addr) (kb : ClassId), v = some (.ref t) ∧ Fr n0 L ∧ Keep h0 h [] ∧ Arv Z h t kb .byte (4 : Int32) us (.int (0 : Int32)) ∧ h0.size ≤ t
set_option maxRecDepth 65536 in
set_option maxHeartbeats 40000000 in
theorem rmcor4 (l : Launch) (Z : State) (a0 : Array Value) (hw : ∀ d ∈ tables_1, d.before a0 Z = true) (ws : List Jvm.Cond) (d : Addr) (kd : ClassId) (vs : List Value) (us : List Value) (h0 : Heap) (n0 : Nat) (Z0 : n0 ≤ h0.size) (V_d : Arv Z h0 d kd .byte (16 : Int32) vs (.int (0 : Int32))) (hus : ∀ j, j < 4 → us.getD j (.int (0 : Int32)) = vs.getD j (.int (0 : Int32))) :
    MetFree l (⟨"java/util/Arrays", "copyOfRange", "([BII)[B"⟩ : MethodName) (head1 (Jvm.Cond.code (⟨"java/util/Arrays", "copyOfRange", "([BII)[B"⟩ : MethodName) jdk_65_method_132_code 3 (some (.array .byte)) :: ws) ({ frames := 2, cells := 1, slots := 4, locals := 34 } : Room)) (fun as_ UU => as_ = #[(.ref d), (.int (0 : Int32)), (.int (4 : Int32))] ∧ Z.Warmed39 UU.vm ∧ UU.heap = h0) (fun _ _ _ _ _ => True) (fun _ UU oo UU' => ∃ vv LL, oo = .returned vv ∧ (Qcor4 Z d kd vs us h0 n0) vv UU'.heap LL ∧ FrameEnd UU oo UU' LL ({ frames := 2, cells := 1, slots := 4, locals := 34 } : Room).cells ({ frames := 2, cells := 1, slots := 4, locals := 34 } : Room).slots) := by
  refine own_met (plainFor_of_name pn_27) ?_
  intro p e s m below meth c s₁ X0 hx hby hml hret hlk hown hnm hZ e0
  have N0 := Fr.nil n0
  have Z_ := Z0
  refine OwnGo.cast (ef_cor4 m d (0 : Int32) (4 : Int32)) ?_
  show OwnGo p e below s _ _ _ s₁ (mkF m 0 #[.val (.ref d), .val (.int (0 : Int32)), .val (.int (4 : Int32))] [])
  refine OwnGo.st (fun _ kk => XS.iloadN X0.here hx rfl (hb hby d25_0) rfl  kk) ?_
  show OwnGo p e below s _ _ _ s₁ (mkF m 1 #[.val (.ref d), .val (.int (0 : Int32)), .val (.int (4 : Int32))] [(.int (0 : Int32))])
  refine OwnGo.st (fun _ kk => XS.ifNo X0.here hx rfl (hb hby d25_1) rfl ((if0 _ _).trans (teq ((by decide) : (0 : Int32) = (0 : Int32))).2) kk) ?_
  show OwnGo p e below s _ _ _ s₁ (mkF m 4 #[.val (.ref d), .val (.int (0 : Int32)), .val (.int (4 : Int32))] [])
  refine OwnGo.st (fun _ kk => XS.iloadN X0.here hx rfl (hb hby d25_4) rfl  kk) ?_
  show OwnGo p e below s _ _ _ s₁ (mkF m 5 #[.val (.ref d), .val (.int (0 : Int32)), .val (.int (4 : Int32))] [(.int (4 : Int32))])
  refine OwnGo.st (fun _ kk => XS.aloadN X0.here hx rfl (hb hby d25_5) rfl rfl  kk) ?_
  show OwnGo p e below s _ _ _ s₁ (mkF m 6 #[.val (.ref d), .val (.int (0 : Int32)), .val (.int (4 : Int32))] [(.ref d), (.int (4 : Int32))])
  obtain ⟨cl72, Ar72, -, S72, N72, -, -⟩ := id V_d
  refine OwnGo.st (fun _ kk => own_len hZ (len_of S72 N72) Ar72 X0 e0 hx (g := (mkF m 6 #[.val (.ref d), .val (.int (0 : Int32)), .val (.int (4 : Int32))] [(.ref d), (.int (4 : Int32))])) rfl rfl (hb hby d25_6) _ kk) ?_
  show OwnGo p e below s _ _ _ s₁ (mkF m 7 #[.val (.ref d), .val (.int (0 : Int32)), .val (.int (4 : Int32))] [(.int (16 : Int32)), (.int (4 : Int32))])
  refine OwnGo.st (fun _ kk => XS.icmpNo X0.here hx rfl (hb hby d25_7) rfl (feq ((by decide) : ¬ ((4 : Int32) = (16 : Int32)))).1 kk) ?_
  show OwnGo p e below s _ _ _ s₁ (mkF m 10 #[.val (.ref d), .val (.int (0 : Int32)), .val (.int (4 : Int32))] [])
  refine OwnGo.st (fun _ kk => XS.aloadN X0.here hx rfl (hb hby d25_10) rfl rfl  kk) ?_
  show OwnGo p e below s _ _ _ s₁ (mkF m 11 #[.val (.ref d), .val (.int (0 : Int32)), .val (.int (4 : Int32))] [(.ref d)])
  refine OwnGo.st (fun _ kk => XS.iloadN X0.here hx rfl (hb hby d25_11) rfl  kk) ?_
  show OwnGo p e below s _ _ _ s₁ (mkF m 12 #[.val (.ref d), .val (.int (0 : Int32)), .val (.int (4 : Int32))] [(.int (0 : Int32)), (.ref d)])
  refine OwnGo.st (fun _ kk => XS.iloadN X0.here hx rfl (hb hby d25_12) rfl  kk) ?_
  show OwnGo p e below s _ _ _ s₁ (mkF m 13 #[.val (.ref d), .val (.int (0 : Int32)), .val (.int (4 : Int32))] [(.int (4 : Int32)), (.int (0 : Int32)), (.ref d)])
  obtain ⟨_, _, ⟨T73, L73, k73, n73⟩, -, X73, ⟨Lc73, hQ73, l73, y73, z73⟩, st73⟩ := Jvm.LawKit.callS X0 hx (y := (⟨"java/util/Arrays", "copyOfRangeByte", "([BII)[B"⟩ : MethodName)) hown (mvT hZ (hw _ (List.mem_of_getElem? (i := 138) rfl))) (mvT hZ (hw _ (List.mem_of_getElem? (i := 139) rfl))) (mvT hZ (hw _ (List.mem_of_getElem? (i := 136) rfl))) (mvT hZ (hw _ (List.mem_of_getElem? (i := 140) rfl))) (by decide) (backOf (W := 0) (rmcorB4 l Z a0 hw [] d kd vs us h0 n0 Z_ V_d hus) hZ (hw _ (List.mem_of_getElem? (i := 140) rfl)) (hw _ (List.mem_of_getElem? (i := 136) rfl)) (by decide) (by decide)) (g := (mkF m 13 #[.val (.ref d), .val (.int (0 : Int32)), .val (.int (4 : Int32))] [(.int (4 : Int32)), (.int (0 : Int32)), (.ref d)])) rfl (by rw [hml]; rfl) (argsL := [(.ref d), (.int (0 : Int32)), (.int (4 : Int32))]) (rest := []) (lenOf pd_12 rfl) rfl (by show 2 * 0 + _ ≤ _; exact Nat.le_of_eq rfl) (hb hby d25_13) (fun _ _ => ⟨rfl, e0, (by decide : 0 + 1 ≤ _), (by decide : 0 + 4 ≤ _)⟩)
  dsimp only [Pt.U, Pt.locs, Pt.cells, Pt.slots] at X73 l73 y73 z73 st73 hQ73
  subst l73 y73 z73
  obtain ⟨t73, kb73, rfl, N73q, K73, V73, zt73⟩ := hQ73
  have N73 := Fr.app N0 N73q
  have ne_d_t73 : d ≠ t73 := Nat.ne_of_lt (Nat.lt_of_lt_of_le V_d.lt zt73)
  have g_t73 : n0 ≤ t73 := Nat.le_trans Z_ zt73
  have Z_ : n0 ≤ T73.heap.size := Nat.le_trans Z_ K73.1
  have V_d := V_d.keep K73 nin0
  refine OwnGo.st st73 ?_
  show OwnGo p e below s _ _ _ T73 (mkF m 16 #[.val (.ref d), .val (.int (0 : Int32)), .val (.int (4 : Int32))] [(.ref t73)])
  exact OwnGo.ret X73 hx hret hlk rfl (Or.inr (Or.inr (Or.inr (Or.inr ⟨rfl, rfl, rfl⟩)))) (hb hby d25_16) (by show Qcor4 Z d kd vs us h0 n0 _ T73.heap _; exact ⟨t73, kb73, rfl, N73, K73, V73, zt73⟩) (by decide) (by decide)
def QstrV4 (Z : State) (x : Addr) (o : Addr) (d : Addr) (kd : ClassId) (vs : List Value) (us : List Value) (zc : Int32) (h0 : Heap) (n0 : Nat) (v : Option Value) (h : Heap) (L : List Loc) : Prop := v = none ∧ Fr n0 L ∧ Keep h0 h [x] ∧ Exa Z h x "java/lang/String" ∧ Fld Z h x "java/lang/String" "coder" "B" (.int (0 : Int32)) ∧ ∃ (t : Addr) (kb : ClassId), Fld Z h x "java/lang/String" "value" "[B" (.ref t) ∧ Arv Z h t kb .byte (4 : Int32) us (.int (0 : Int32)) ∧ h0.size ≤ t
set_option maxRecDepth 65536 in
set_option maxHeartbeats 40000000 in
theorem rmstrV4 (l : Launch) (Z : State) (a0 : Array Value) (hw : ∀ d ∈ tables_1, d.before a0 Z = true) (ws : List Jvm.Cond) (x : Addr) (o : Addr) (d : Addr) (kd : ClassId) (vs : List Value) (us : List Value) (zc : Int32) (h0 : Heap) (n0 : Nat) (Z0 : n0 ≤ h0.size) (O_ : Old Z n0 h0) (S_CS : Sta Z Z.heap "java/lang/String" "COMPACT_STRINGS" "Z" (.int zc)) (P_CS : ¬ zc = (0 : Int32)) (E_x : Exa Z h0 x "java/lang/String") (Fxv : Fld Z h0 x "java/lang/String" "value" "[B" .null) (Fxc : Fld Z h0 x "java/lang/String" "coder" "B" (.int (0 : Int32))) (g_x : n0 ≤ x) (E_o : Exa Z h0 o "java/lang/StringBuilder") (Fv : Fld Z h0 o "java/lang/AbstractStringBuilder" "value" "[B" (.ref d)) (Fc : Fld Z h0 o "java/lang/AbstractStringBuilder" "coder" "B" (.int (0 : Int32))) (Fn : Fld Z h0 o "java/lang/AbstractStringBuilder" "count" "I" (.int (4 : Int32))) (V_d : Arv Z h0 d kd .byte (16 : Int32) vs (.int (0 : Int32))) (hus : ∀ j, j < 4 → us.getD j (.int (0 : Int32)) = vs.getD j (.int (0 : Int32))) (ne_x_d : x ≠ d) :
    MetFree l (⟨"java/lang/String", "<init>", "(Ljava/lang/AbstractStringBuilder;Ljava/lang/Void;)V"⟩ : MethodName) (head1 (Jvm.Cond.code (⟨"java/lang/String", "<init>", "(Ljava/lang/AbstractStringBuilder;Ljava/lang/Void;)V"⟩ : MethodName) jdk_42_method_150_code 5 none :: ws) ({ frames := 3, cells := 1, slots := 4, locals := 49 } : Room)) (fun as_ UU => as_ = #[(.ref x), (.ref o), .null] ∧ Z.Warmed39 UU.vm ∧ UU.heap = h0) (fun _ _ _ _ _ => True) (fun _ UU oo UU' => ∃ vv LL, oo = .returned vv ∧ (QstrV4 Z x o d kd vs us zc h0 n0) vv UU'.heap LL ∧ FrameEnd UU oo UU' LL ({ frames := 3, cells := 1, slots := 4, locals := 49 } : Room).cells ({ frames := 3, cells := 1, slots := 4, locals := 49 } : Room).slots) := by
  refine own_met (plainFor_of_name pn_13) ?_
  intro p e s m below meth c s₁ X0 hx hby hml hret hlk hown hnm hZ e0
  have N0 := Fr.nil n0
  have Z_ := Z0
  refine OwnGo.cast (ef_strV4 m x o) ?_
  show OwnGo p e below s _ _ _ s₁ (mkF m 0 #[.val (.ref x), .val (.ref o), .val .null, .unset, .unset] [])
  have Kp : Keep h0 h0 [x] := Keep.refl h0 [x]
  refine OwnGo.st (fun _ kk => XS.aloadN X0.here hx rfl (hb hby d20_0) rfl rfl  kk) ?_
  show OwnGo p e below s _ _ _ s₁ (mkF m 1 #[.val (.ref x), .val (.ref o), .val .null, .unset, .unset] [(.ref x)])
  obtain ⟨T74, X74, e74, st74⟩ := initO X0 hx hZ hown (hw _ (List.mem_of_getElem? (i := 11) rfl)) (hw _ (List.mem_of_getElem? (i := 12) rfl)) (hw _ (List.mem_of_getElem? (i := 13) rfl)) e0 (g := (mkF m 1 #[.val (.ref x), .val (.ref o), .val .null, .unset, .unset] [(.ref x)])) rfl (by rw [hml]; rfl) rfl (hb hby d20_1) (by decide) (W := 0) (by show 2 * 0 + _ ≤ _; exact Nat.le_of_eq rfl) (by decide)
  refine OwnGo.st st74 ?_
  show OwnGo p e below s _ _ _ T74 (mkF m 4 #[.val (.ref x), .val (.ref o), .val .null, .unset, .unset] [])
  refine OwnGo.st (fun _ kk => XS.aloadN X74.here hx rfl (hb hby d20_4) rfl rfl  kk) ?_
  show OwnGo p e below s _ _ _ T74 (mkF m 5 #[.val (.ref x), .val (.ref o), .val .null, .unset, .unset] [(.ref o)])
  obtain ⟨cq75, kq75, q75a, q75b, q75c⟩ := isOf hZ e74 E_o
  obtain ⟨_, _, ⟨T75, L75, k75, n75⟩, -, X75, ⟨Lc75, hQ75, l75, y75, z75⟩, st75⟩ := X74.virtualBack hx (y := (⟨"java/lang/AbstractStringBuilder", "getValue", "()[B"⟩ : MethodName)) (z := (⟨"java/lang/AbstractStringBuilder", "getValue", "()[B"⟩ : MethodName)) hown (mvT hZ (hw _ (List.mem_of_getElem? (i := 116) rfl))) (mvT hZ (hw _ (List.mem_of_getElem? (i := 117) rfl))) (notFace_of_selects (args := #[]) (mvT hZ (hw _ (List.mem_of_getElem? (i := 119) rfl)))) (mvT hZ (hw _ (List.mem_of_getElem? (i := 119) rfl))) (mvT hZ (hw _ (List.mem_of_getElem? (i := 118) rfl))) (by decide) (backOf (W := 0) (rmgetV l Z a0 hw [] o d h0 n0 Z_ Fv) hZ (hw _ (List.mem_of_getElem? (i := 120) rfl)) (hw _ (List.mem_of_getElem? (i := 46) rfl)) (by decide) (by decide)) q75a q75c (g := (mkF m 5 #[.val (.ref x), .val (.ref o), .val .null, .unset, .unset] [(.ref o)])) rfl (by rw [hml]; rfl) (Steps.refl _) (argsL := []) (rest := []) (lenOf pd_13 rfl) rfl (by show 2 * 0 + _ ≤ _; exact Nat.le_of_eq rfl) (hb hby d20_5) (fun _ _ => ⟨rfl, e74, (by decide : 0 + 0 ≤ _), (by decide : 0 + 0 ≤ _)⟩)
  dsimp only [Pt.U, Pt.locs, Pt.cells, Pt.slots] at X75 l75 y75 z75 st75 hQ75
  subst l75 y75 z75
  obtain ⟨rfl, N75q, e75⟩ := hQ75
  have N75 := Fr.app N0 N75q
  refine OwnGo.st (fun _ kk => st75.trans kk) ?_
  show OwnGo p e below s _ _ _ T75 (mkF m 8 #[.val (.ref x), .val (.ref o), .val .null, .unset, .unset] [(.ref d)])
  refine OwnGo.st (fun _ kk => XS.astoreN X75.here hx rfl (hb hby d20_8) rfl rfl (l' := #[.val (.ref x), .val (.ref o), .val .null, .val (.ref d), .unset]) rfl kk) ?_
  show OwnGo p e below s _ _ _ T75 (mkF m 9 #[.val (.ref x), .val (.ref o), .val .null, .val (.ref d), .unset] [])
  refine OwnGo.st (fun _ kk => XS.aloadN X75.here hx rfl (hb hby d20_9) rfl rfl  kk) ?_
  show OwnGo p e below s _ _ _ T75 (mkF m 10 #[.val (.ref x), .val (.ref o), .val .null, .val (.ref d), .unset] [(.ref o)])
  obtain ⟨cq76, kq76, q76a, q76b, q76c⟩ := isOf hZ e75 E_o
  obtain ⟨_, _, ⟨T76, L76, k76, n76⟩, -, X76, ⟨Lc76, hQ76, l76, y76, z76⟩, st76⟩ := X75.virtualBack hx (y := (⟨"java/lang/AbstractStringBuilder", "length", "()I"⟩ : MethodName)) (z := (⟨"java/lang/StringBuilder", "length", "()I"⟩ : MethodName)) hown (mvT hZ (hw _ (List.mem_of_getElem? (i := 121) rfl))) (mvT hZ (hw _ (List.mem_of_getElem? (i := 122) rfl))) (own_nface (args := #[]) (z := (⟨"java/lang/AbstractStringBuilder", "ensureCapacityInternal", "(I)V"⟩ : MethodName)) (mvT hZ (hw _ (List.mem_of_getElem? (i := 79) rfl))) rfl) (mvT hZ (hw _ (List.mem_of_getElem? (i := 124) rfl))) (mvT hZ (hw _ (List.mem_of_getElem? (i := 125) rfl))) (by decide) (backOf (W := 0) (rmsbL l Z a0 hw [] o (4 : Int32) h0 n0 Z_ E_o Fn) hZ (hw _ (List.mem_of_getElem? (i := 126) rfl)) (hw _ (List.mem_of_getElem? (i := 38) rfl)) (by decide) (by decide)) q76a q76c (g := (mkF m 10 #[.val (.ref x), .val (.ref o), .val .null, .val (.ref d), .unset] [(.ref o)])) rfl (by rw [hml]; rfl) (Steps.refl _) (argsL := []) (rest := []) (lenOf pd_8 rfl) rfl (by show 2 * 0 + _ ≤ _; exact Nat.le_of_eq rfl) (hb hby d20_10) (fun _ _ => ⟨rfl, e75, (by decide : 0 + 0 ≤ _), (by decide : 0 + 0 ≤ _)⟩)
  dsimp only [Pt.U, Pt.locs, Pt.cells, Pt.slots] at X76 l76 y76 z76 st76 hQ76
  subst l76 y76 z76
  obtain ⟨rfl, N76q, e76⟩ := hQ76
  have N76 := Fr.app N75 N76q
  refine OwnGo.st (fun _ kk => st76.trans kk) ?_
  show OwnGo p e below s _ _ _ T76 (mkF m 13 #[.val (.ref x), .val (.ref o), .val .null, .val (.ref d), .unset] [(.int (4 : Int32))])
  refine OwnGo.st (fun _ kk => XS.istore X76.here hx rfl (hb hby d20_13) rfl (l' := #[.val (.ref x), .val (.ref o), .val .null, .val (.ref d), .val (.int (4 : Int32))]) rfl kk) ?_
  show OwnGo p e below s _ _ _ T76 (mkF m 15 #[.val (.ref x), .val (.ref o), .val .null, .val (.ref d), .val (.int (4 : Int32))] [])
  refine OwnGo.st (fun _ kk => XS.aloadN X76.here hx rfl (hb hby d20_15) rfl rfl  kk) ?_
  show OwnGo p e below s _ _ _ T76 (mkF m 16 #[.val (.ref x), .val (.ref o), .val .null, .val (.ref d), .val (.int (4 : Int32))] [(.ref o)])
  obtain ⟨cq77, kq77, q77a, q77b, q77c⟩ := isOf hZ e76 E_o
  obtain ⟨_, _, ⟨T77, L77, k77, n77⟩, -, X77, ⟨Lc77, hQ77, l77, y77, z77⟩, st77⟩ := X76.virtualBack hx (y := (⟨"java/lang/AbstractStringBuilder", "isLatin1", "()Z"⟩ : MethodName)) (z := (⟨"java/lang/AbstractStringBuilder", "isLatin1", "()Z"⟩ : MethodName)) hown (mvT hZ (hw _ (List.mem_of_getElem? (i := 129) rfl))) (mvT hZ (hw _ (List.mem_of_getElem? (i := 130) rfl))) (notFace_of_selects (args := #[]) (mvT hZ (hw _ (List.mem_of_getElem? (i := 132) rfl)))) (mvT hZ (hw _ (List.mem_of_getElem? (i := 132) rfl))) (mvT hZ (hw _ (List.mem_of_getElem? (i := 131) rfl))) (by decide) (backOf (W := 0) (rmabZ l Z a0 hw [] o zc h0 n0 Z_ O_ S_CS P_CS Fc) hZ (hw _ (List.mem_of_getElem? (i := 133) rfl)) (hw _ (List.mem_of_getElem? (i := 46) rfl)) (by decide) (by decide)) q77a q77c (g := (mkF m 16 #[.val (.ref x), .val (.ref o), .val .null, .val (.ref d), .val (.int (4 : Int32))] [(.ref o)])) rfl (by rw [hml]; rfl) (Steps.refl _) (argsL := []) (rest := []) (lenOf pd_3 rfl) rfl (by show 2 * 0 + _ ≤ _; exact Nat.le_of_eq rfl) (hb hby d20_16) (fun _ _ => ⟨rfl, e76, (by decide : 0 + 0 ≤ _), (by decide : 0 + 0 ≤ _)⟩)
  dsimp only [Pt.U, Pt.locs, Pt.cells, Pt.slots] at X77 l77 y77 z77 st77 hQ77
  subst l77 y77 z77
  obtain ⟨rfl, N77q, e77⟩ := hQ77
  have N77 := Fr.app N76 N77q
  refine OwnGo.st (fun _ kk => st77.trans kk) ?_
  show OwnGo p e below s _ _ _ T77 (mkF m 19 #[.val (.ref x), .val (.ref o), .val .null, .val (.ref d), .val (.int (4 : Int32))] [(.int (1 : Int32))])
  refine OwnGo.st (fun _ kk => XS.ifNo X77.here hx rfl (hb hby d20_19) rfl ((if0 _ _).trans (feq ((by decide) : ¬ ((1 : Int32) = (0 : Int32)))).1) kk) ?_
  show OwnGo p e below s _ _ _ T77 (mkF m 22 #[.val (.ref x), .val (.ref o), .val .null, .val (.ref d), .val (.int (4 : Int32))] [])
  refine OwnGo.st (fun _ kk => XS.aloadN X77.here hx rfl (hb hby d20_22) rfl rfl  kk) ?_
  show OwnGo p e below s _ _ _ T77 (mkF m 23 #[.val (.ref x), .val (.ref o), .val .null, .val (.ref d), .val (.int (4 : Int32))] [(.ref x)])
  refine OwnGo.st (fun _ kk => XS.iconst X77.here hx rfl (hb hby d20_23) kk) ?_
  show OwnGo p e below s _ _ _ T77 (mkF m 24 #[.val (.ref x), .val (.ref o), .val .null, .val (.ref d), .val (.int (4 : Int32))] [(.int (0 : Int32)), (.ref x)])
  obtain ⟨T78, h78, X78, e78, W78, st78⟩ := putFN X77 hx hZ hown (hw _ (List.mem_of_getElem? (i := 26) rfl)) Via.refl e77 Fxc E_x (Or.inr ⟨(hw _ (List.mem_of_getElem? (i := 27) rfl)), rfl, hnm⟩) (hw _ (List.mem_of_getElem? (i := 2) rfl)) (ty := .byte) (v' := (.int (0 : Int32))) (by decide) rfl (by decide) (g := (mkF m 24 #[.val (.ref x), .val (.ref o), .val .null, .val (.ref d), .val (.int (4 : Int32))] [(.int (0 : Int32)), (.ref x)])) rfl rfl (hb hby d20_24)
  have E_x := E_x.wr W78
  have Fxv := Fxv.other W78 (Or.inr (slot_ne (Or.inr (hw _ (List.mem_of_getElem? (i := 29) rfl))) (Or.inr (hw _ (List.mem_of_getElem? (i := 27) rfl))) (by decide) (t := (.array .byte)) (t' := .byte) (by decide) (by decide)))
  have Fxc := Fxc.same W78
  have V_d := V_d.other W78 (Ne.symm ne_x_d)
  have O_ := O_.wr W78 g_x
  have Kp := Kp.wr W78 (Or.inl (List.mem_of_getElem? (i := 0) rfl))
  have N78 := Fr.snoc X78 N77 g_x
  have Z_ : n0 ≤ h78.size := by rw [W78.size]; exact Z_
  refine OwnGo.st st78 ?_
  show OwnGo p e below s _ _ _ T78 (mkF m 27 #[.val (.ref x), .val (.ref o), .val .null, .val (.ref d), .val (.int (4 : Int32))] [])
  refine OwnGo.st (fun _ kk => XS.aloadN X78.here hx rfl (hb hby d20_27) rfl rfl  kk) ?_
  show OwnGo p e below s _ _ _ T78 (mkF m 28 #[.val (.ref x), .val (.ref o), .val .null, .val (.ref d), .val (.int (4 : Int32))] [(.ref x)])
  refine OwnGo.st (fun _ kk => XS.aloadN X78.here hx rfl (hb hby d20_28) rfl rfl  kk) ?_
  show OwnGo p e below s _ _ _ T78 (mkF m 29 #[.val (.ref x), .val (.ref o), .val .null, .val (.ref d), .val (.int (4 : Int32))] [(.ref d), (.ref x)])
  refine OwnGo.st (fun _ kk => XS.iconst X78.here hx rfl (hb hby d20_29) kk) ?_
  show OwnGo p e below s _ _ _ T78 (mkF m 30 #[.val (.ref x), .val (.ref o), .val .null, .val (.ref d), .val (.int (4 : Int32))] [(.int (0 : Int32)), (.ref d), (.ref x)])
  refine OwnGo.st (fun _ kk => XS.iload X78.here hx rfl (hb hby d20_30) rfl  kk) ?_
  show OwnGo p e below s _ _ _ T78 (mkF m 32 #[.val (.ref x), .val (.ref o), .val .null, .val (.ref d), .val (.int (4 : Int32))] [(.int (4 : Int32)), (.int (0 : Int32)), (.ref d), (.ref x)])
  obtain ⟨_, _, ⟨T79, L79, k79, n79⟩, -, X79, ⟨Lc79, hQ79, l79, y79, z79⟩, st79⟩ := Jvm.LawKit.callS X78 hx (y := (⟨"java/util/Arrays", "copyOfRange", "([BII)[B"⟩ : MethodName)) hown (mvT hZ (hw _ (List.mem_of_getElem? (i := 134) rfl))) (mvT hZ (hw _ (List.mem_of_getElem? (i := 135) rfl))) (mvT hZ (hw _ (List.mem_of_getElem? (i := 136) rfl))) (mvT hZ (hw _ (List.mem_of_getElem? (i := 137) rfl))) (by decide) (backOf (W := 1) (rmcor4 l Z a0 hw [] d kd vs us h78 n0 Z_ V_d hus) hZ (hw _ (List.mem_of_getElem? (i := 137) rfl)) (hw _ (List.mem_of_getElem? (i := 136) rfl)) (by decide) (by decide)) (g := (mkF m 32 #[.val (.ref x), .val (.ref o), .val .null, .val (.ref d), .val (.int (4 : Int32))] [(.int (4 : Int32)), (.int (0 : Int32)), (.ref d), (.ref x)])) rfl (by rw [hml]; rfl) (argsL := [(.ref d), (.int (0 : Int32)), (.int (4 : Int32))]) (rest := [(.ref x)]) (lenOf pd_12 rfl) rfl (by show 2 * 0 + _ ≤ _; exact Nat.le_of_eq rfl) (hb hby d20_32) (fun _ _ => ⟨rfl, e78, (by decide : 0 + 1 ≤ _), (by decide : 0 + 4 ≤ _)⟩)
  dsimp only [Pt.U, Pt.locs, Pt.cells, Pt.slots] at X79 l79 y79 z79 st79 hQ79
  subst l79 y79 z79
  obtain ⟨t79, kb79, rfl, N79q, K79, V79, zt79⟩ := hQ79
  have N79 := Fr.app N78 N79q
  have ne_x_t79 : x ≠ t79 := Nat.ne_of_lt (Nat.lt_of_lt_of_le E_x.lt zt79)
  have ne_d_t79 : d ≠ t79 := Nat.ne_of_lt (Nat.lt_of_lt_of_le V_d.lt zt79)
  have g_t79 : n0 ≤ t79 := Nat.le_trans Z_ zt79
  have sz_t79 : h0.size ≤ t79 := Nat.le_trans Kp.1 zt79
  have Z_ : n0 ≤ T79.heap.size := Nat.le_trans Z_ K79.1
  have E_x := E_x.keep K79
  have Fxv := Fxv.keep K79 nin0
  have Fxc := Fxc.keep K79 nin0
  have V_d := V_d.keep K79 nin0
  have O_ := O_.keep K79 all0
  have Kp := Kp.trans K79 all0
  refine OwnGo.st st79 ?_
  show OwnGo p e below s _ _ _ T79 (mkF m 35 #[.val (.ref x), .val (.ref o), .val .null, .val (.ref d), .val (.int (4 : Int32))] [(.ref t79), (.ref x)])
  obtain ⟨T80, h80, X80, e80, W80, st80⟩ := putF X79 hx hZ hown (host := "") (Or.inl (hw _ (List.mem_of_getElem? (i := 28) rfl))) Via.refl rfl Fxv E_x (Or.inr ⟨(hw _ (List.mem_of_getElem? (i := 29) rfl)), rfl, hnm⟩) (hw _ (List.mem_of_getElem? (i := 2) rfl)) (ty := (.array .byte)) (by decide) rfl rfl (g := (mkF m 35 #[.val (.ref x), .val (.ref o), .val .null, .val (.ref d), .val (.int (4 : Int32))] [(.ref t79), (.ref x)])) rfl rfl (hb hby d20_35)
  have E_x := E_x.wr W80
  have Fxv := Fxv.same W80
  have Fxc := Fxc.other W80 (Or.inr (slot_ne (Or.inr (hw _ (List.mem_of_getElem? (i := 27) rfl))) (Or.inr (hw _ (List.mem_of_getElem? (i := 29) rfl))) (by decide) (t := .byte) (t' := (.array .byte)) (by decide) (by decide)))
  have V_d := V_d.other W80 (Ne.symm ne_x_d)
  have V79 := V79.other W80 (Ne.symm ne_x_t79)
  have O_ := O_.wr W80 g_x
  have Kp := Kp.wr W80 (Or.inl (List.mem_of_getElem? (i := 0) rfl))
  have N80 := Fr.snoc X80 N79 g_x
  have Z_ : n0 ≤ h80.size := by rw [W80.size]; exact Z_
  refine OwnGo.st st80 ?_
  show OwnGo p e below s _ _ _ T80 (mkF m 38 #[.val (.ref x), .val (.ref o), .val .null, .val (.ref d), .val (.int (4 : Int32))] [])
  refine OwnGo.st (fun _ kk => XS.goto X80.here hx rfl (pc0 := 38) (pc' := 97) rfl (hb hby d20_38) (by decide) (by decide) kk) ?_
  show OwnGo p e below s _ _ _ T80 (mkF m 97 #[.val (.ref x), .val (.ref o), .val .null, .val (.ref d), .val (.int (4 : Int32))] [])
  exact OwnGo.retV X80 hx hret hlk (hb hby d20_97) (by show QstrV4 Z x o d kd vs us zc h0 n0 _ T80.heap _; rw [e80]; exact ⟨rfl, N80, Kp, E_x, Fxc, t79, kb79, Fxv, V79, sz_t79⟩) (by decide) (by decide)
def QstrB4 (Z : State) (x : Addr) (o : Addr) (d : Addr) (kd : ClassId) (vs : List Value) (us : List Value) (zc : Int32) (h0 : Heap) (n0 : Nat) (v : Option Value) (h : Heap) (L : List Loc) : Prop := v = none ∧ Fr n0 L ∧ Keep h0 h [x] ∧ Exa Z h x "java/lang/String" ∧ Fld Z h x "java/lang/String" "coder" "B" (.int (0 : Int32)) ∧ ∃ (t : Addr) (kb : ClassId), Fld Z h x "java/lang/String" "value" "[B" (.ref t) ∧ Arv Z h t kb .byte (4 : Int32) us (.int (0 : Int32)) ∧ h0.size ≤ t
set_option maxRecDepth 65536 in
set_option maxHeartbeats 40000000 in
theorem rmstrB4 (l : Launch) (Z : State) (a0 : Array Value) (hw : ∀ d ∈ tables_1, d.before a0 Z = true) (ws : List Jvm.Cond) (x : Addr) (o : Addr) (d : Addr) (kd : ClassId) (vs : List Value) (us : List Value) (zc : Int32) (h0 : Heap) (n0 : Nat) (Z0 : n0 ≤ h0.size) (O_ : Old Z n0 h0) (S_CS : Sta Z Z.heap "java/lang/String" "COMPACT_STRINGS" "Z" (.int zc)) (P_CS : ¬ zc = (0 : Int32)) (E_x : Exa Z h0 x "java/lang/String") (Fxv : Fld Z h0 x "java/lang/String" "value" "[B" .null) (Fxc : Fld Z h0 x "java/lang/String" "coder" "B" (.int (0 : Int32))) (g_x : n0 ≤ x) (E_o : Exa Z h0 o "java/lang/StringBuilder") (Fv : Fld Z h0 o "java/lang/AbstractStringBuilder" "value" "[B" (.ref d)) (Fc : Fld Z h0 o "java/lang/AbstractStringBuilder" "coder" "B" (.int (0 : Int32))) (Fn : Fld Z h0 o "java/lang/AbstractStringBuilder" "count" "I" (.int (4 : Int32))) (V_d : Arv Z h0 d kd .byte (16 : Int32) vs (.int (0 : Int32))) (hus : ∀ j, j < 4 → us.getD j (.int (0 : Int32)) = vs.getD j (.int (0 : Int32))) (ne_x_d : x ≠ d) :
    MetFree l (⟨"java/lang/String", "<init>", "(Ljava/lang/StringBuilder;)V"⟩ : MethodName) (head1 (Jvm.Cond.code (⟨"java/lang/String", "<init>", "(Ljava/lang/StringBuilder;)V"⟩ : MethodName) jdk_42_method_53_code 2 none :: ws) ({ frames := 4, cells := 1, slots := 4, locals := 65 } : Room)) (fun as_ UU => as_ = #[(.ref x), (.ref o)] ∧ Z.Warmed39 UU.vm ∧ UU.heap = h0) (fun _ _ _ _ _ => True) (fun _ UU oo UU' => ∃ vv LL, oo = .returned vv ∧ (QstrB4 Z x o d kd vs us zc h0 n0) vv UU'.heap LL ∧ FrameEnd UU oo UU' LL ({ frames := 4, cells := 1, slots := 4, locals := 65 } : Room).cells ({ frames := 4, cells := 1, slots := 4, locals := 65 } : Room).slots) := by
  refine own_met (plainFor_of_name pn_13) ?_
  intro p e s m below meth c s₁ X0 hx hby hml hret hlk hown hnm hZ e0
  have N0 := Fr.nil n0
  have Z_ := Z0
  refine OwnGo.cast (ef_strB4 m x o) ?_
  show OwnGo p e below s _ _ _ s₁ (mkF m 0 #[.val (.ref x), .val (.ref o)] [])
  refine OwnGo.st (fun _ kk => XS.aloadN X0.here hx rfl (hb hby d19_0) rfl rfl  kk) ?_
  show OwnGo p e below s _ _ _ s₁ (mkF m 1 #[.val (.ref x), .val (.ref o)] [(.ref x)])
  refine OwnGo.st (fun _ kk => XS.aloadN X0.here hx rfl (hb hby d19_1) rfl rfl  kk) ?_
  show OwnGo p e below s _ _ _ s₁ (mkF m 2 #[.val (.ref x), .val (.ref o)] [(.ref o), (.ref x)])
  refine OwnGo.st (fun _ kk => XS.aconstNull X0.here hx rfl (hb hby d19_2) kk) ?_
  show OwnGo p e below s _ _ _ s₁ (mkF m 3 #[.val (.ref x), .val (.ref o)] [.null, (.ref o), (.ref x)])
  obtain ⟨_, _, ⟨T81, L81, k81, n81⟩, -, X81, ⟨Lc81, hQ81, l81, y81, z81⟩, st81⟩ := X0.specialBack hx (y := (⟨"java/lang/String", "<init>", "(Ljava/lang/AbstractStringBuilder;Ljava/lang/Void;)V"⟩ : MethodName)) rfl hown (mvT hZ (hw _ (List.mem_of_getElem? (i := 113) rfl))) (mvT hZ (hw _ (List.mem_of_getElem? (i := 114) rfl))) (mvT hZ (hw _ (List.mem_of_getElem? (i := 115) rfl))) (by decide) (backOf (W := 0) (rmstrV4 l Z a0 hw [] x o d kd vs us zc h0 n0 Z_ O_ S_CS P_CS E_x Fxv Fxc g_x E_o Fv Fc Fn V_d hus ne_x_d) hZ (hw _ (List.mem_of_getElem? (i := 115) rfl)) (hw _ (List.mem_of_getElem? (i := 3) rfl)) (by decide) (by decide)) (g := (mkF m 3 #[.val (.ref x), .val (.ref o)] [.null, (.ref o), (.ref x)])) rfl (by rw [hml]; rfl) (Steps.refl _) (a := x) (argsL := [(.ref o), .null]) (rest := []) (lenOf pd_14 rfl) rfl (by show 2 * 0 + _ ≤ _; exact Nat.le_of_eq rfl) (hb hby d19_3) (fun _ _ => ⟨rfl, e0, (by decide : 0 + 1 ≤ _), (by decide : 0 + 4 ≤ _)⟩)
  dsimp only [Pt.U, Pt.locs, Pt.cells, Pt.slots] at X81 l81 y81 z81 st81 hQ81
  subst l81 y81 z81
  obtain ⟨rfl, N81q, K81, Ex81, Fxc81, t81, kb81, Fxv81, V81, zt81⟩ := hQ81
  have N81 := Fr.app N0 N81q
  have ne_x_t81 : x ≠ t81 := Nat.ne_of_lt (Nat.lt_of_lt_of_le E_x.lt zt81)
  have g_t81 : n0 ≤ t81 := Nat.le_trans Z_ zt81
  have Z_ : n0 ≤ T81.heap.size := Nat.le_trans Z_ K81.1
  have E_x := E_x.keep K81
  have O_ := O_.keep K81 (allS g_x all0)
  refine OwnGo.st (fun _ kk => st81.trans kk) ?_
  show OwnGo p e below s _ _ _ T81 (mkF m 6 #[.val (.ref x), .val (.ref o)] [])
  exact OwnGo.retV X81 hx hret hlk (hb hby d19_6) (by show QstrB4 Z x o d kd vs us zc h0 n0 _ T81.heap _; exact ⟨rfl, N81, K81, Ex81, Fxc81, t81, kb81, Fxv81, V81, zt81⟩) (by decide) (by decide)
def QtoS4 (Z : State) (o : Addr) (d : Addr) (kd : ClassId) (vs : List Value) (us : List Value) (zc : Int32) (h0 : Heap) (n0 : Nat) (v : Option Value) (h : Heap) (L : List Loc) : Prop := ∃ (x t : Addr) (kb : ClassId), v = some (.ref x) ∧ Fr n0 L ∧ Keep h0 h [] ∧ Exa Z h x "java/lang/String" ∧ Fld Z h x "java/lang/String" "coder" "B" (.int (0 : Int32)) ∧ Fld Z h x "java/lang/String" "value" "[B" (.ref t) ∧ Arv Z h t kb .byte (4 : Int32) us (.int (0 : Int32)) ∧ h0.size ≤ x ∧ h0.size ≤ t
set_option maxRecDepth 65536 in
set_option maxHeartbeats 40000000 in
theorem rmtoS4 (l : Launch) (Z : State) (a0 : Array Value) (hw : ∀ d ∈ tables_1, d.before a0 Z = true) (ws : List Jvm.Cond) (o : Addr) (d : Addr) (kd : ClassId) (vs : List Value) (us : List Value) (zc : Int32) (h0 : Heap) (n0 : Nat) (Z0 : n0 ≤ h0.size) (O_ : Old Z n0 h0) (S_CS : Sta Z Z.heap "java/lang/String" "COMPACT_STRINGS" "Z" (.int zc)) (P_CS : ¬ zc = (0 : Int32)) (E_o : Exa Z h0 o "java/lang/StringBuilder") (Fv : Fld Z h0 o "java/lang/AbstractStringBuilder" "value" "[B" (.ref d)) (Fc : Fld Z h0 o "java/lang/AbstractStringBuilder" "coder" "B" (.int (0 : Int32))) (Fn : Fld Z h0 o "java/lang/AbstractStringBuilder" "count" "I" (.int (4 : Int32))) (V_d : Arv Z h0 d kd .byte (16 : Int32) vs (.int (0 : Int32))) (hus : ∀ j, j < 4 → us.getD j (.int (0 : Int32)) = vs.getD j (.int (0 : Int32))) :
    MetFree l (⟨"java/lang/StringBuilder", "toString", "()Ljava/lang/String;"⟩ : MethodName) (head1 (Jvm.Cond.code (⟨"java/lang/StringBuilder", "toString", "()Ljava/lang/String;"⟩ : MethodName) jdk_67_method_42_code 1 (some (.object "java/lang/String")) :: ws) ({ frames := 5, cells := 2, slots := 8, locals := 79 } : Room)) (fun as_ UU => as_ = #[(.ref o)] ∧ Z.Warmed39 UU.vm ∧ UU.heap = h0) (fun _ _ _ _ _ => True) (fun _ UU oo UU' => ∃ vv LL, oo = .returned vv ∧ (QtoS4 Z o d kd vs us zc h0 n0) vv UU'.heap LL ∧ FrameEnd UU oo UU' LL ({ frames := 5, cells := 2, slots := 8, locals := 79 } : Room).cells ({ frames := 5, cells := 2, slots := 8, locals := 79 } : Room).slots) := by
  refine own_met (plainFor_of_name pn_8) ?_
  intro p e s m below meth c s₁ X0 hx hby hml hret hlk hown hnm hZ e0
  have N0 := Fr.nil n0
  have Z_ := Z0
  refine OwnGo.cast (ef_toS4 m o) ?_
  show OwnGo p e below s _ _ _ s₁ (mkF m 0 #[.val (.ref o)] [])
  have Kp : Keep h0 h0 [] := Keep.refl h0 []
  obtain ⟨T82, h82, X82, e82, E82, A82, D82, -, st82⟩ := newO X0 hx hZ hown (hw _ (List.mem_of_getElem? (i := 109) rfl)) (hw _ (List.mem_of_getElem? (i := 2) rfl)) (hw _ (List.mem_of_getElem? (i := 3) rfl)) e0 (g := (mkF m 0 #[.val (.ref o)] [])) rfl (hb hby d18_0) (by decide) (by decide)
  obtain ⟨b82, g82⟩ : ∃ z, z = h0.size := ⟨_, rfl⟩
  rw [← g82] at A82 D82 st82
  have ne_o_b82 : o ≠ b82 := Nat.ne_of_lt (Nat.lt_of_lt_of_le Fv.lt (Nat.le_of_eq g82.symm))
  have ne_d_b82 : d ≠ b82 := Nat.ne_of_lt (Nat.lt_of_lt_of_le V_d.lt (Nat.le_of_eq g82.symm))
  have g_b82 : n0 ≤ b82 := Nat.le_trans Z_ (Nat.le_of_eq g82.symm)
  have sz_b82 : h0.size ≤ b82 := Nat.le_trans Kp.1 (Nat.le_of_eq g82.symm)
  have Fv := Fv.ext E82
  have Fc := Fc.ext E82
  have V_d := V_d.ext E82
  have E_o := E_o.ext E82
  have Fn := Fn.ext E82
  have O_ := O_.ext E82
  have Kp := Kp.ext E82
  have Z_ : n0 ≤ h82.size := Nat.le_trans Z_ E82.1
  have E_b82 := A82
  have F_coder_b82 : Fld Z h82 b82 "java/lang/String" "coder" "B" (.int (0 : Int32)) := D82 (Or.inr (hw _ (List.mem_of_getElem? (i := 27) rfl))) (ty := .byte) (by decide)
  have F_value_b82 : Fld Z h82 b82 "java/lang/String" "value" "[B" .null := D82 (Or.inr (hw _ (List.mem_of_getElem? (i := 29) rfl))) (ty := (.array .byte)) (by decide)
  refine OwnGo.st st82 ?_
  show OwnGo p e below s _ _ _ T82 (mkF m 3 #[.val (.ref o)] [(.ref b82)])
  refine OwnGo.st (fun _ kk => XS.dup X82.here hx rfl (hb hby d18_3) rfl rfl kk) ?_
  show OwnGo p e below s _ _ _ T82 (mkF m 4 #[.val (.ref o)] [(.ref b82), (.ref b82)])
  refine OwnGo.st (fun _ kk => XS.aloadN X82.here hx rfl (hb hby d18_4) rfl rfl  kk) ?_
  show OwnGo p e below s _ _ _ T82 (mkF m 5 #[.val (.ref o)] [(.ref o), (.ref b82), (.ref b82)])
  obtain ⟨_, _, ⟨T83, L83, k83, n83⟩, -, X83, ⟨Lc83, hQ83, l83, y83, z83⟩, st83⟩ := X82.specialBack hx (y := (⟨"java/lang/String", "<init>", "(Ljava/lang/StringBuilder;)V"⟩ : MethodName)) rfl hown (mvT hZ (hw _ (List.mem_of_getElem? (i := 110) rfl))) (mvT hZ (hw _ (List.mem_of_getElem? (i := 111) rfl))) (mvT hZ (hw _ (List.mem_of_getElem? (i := 112) rfl))) (by decide) (backOf (W := 1) (rmstrB4 l Z a0 hw [] b82 o d kd vs us zc h82 n0 Z_ O_ S_CS P_CS E_b82 F_value_b82 F_coder_b82 g_b82 E_o Fv Fc Fn V_d hus (Ne.symm ne_d_b82)) hZ (hw _ (List.mem_of_getElem? (i := 112) rfl)) (hw _ (List.mem_of_getElem? (i := 3) rfl)) (by decide) (by decide)) (g := (mkF m 5 #[.val (.ref o)] [(.ref o), (.ref b82), (.ref b82)])) rfl (by rw [hml]; rfl) (Steps.refl _) (a := b82) (argsL := [(.ref o)]) (rest := [(.ref b82)]) (lenOf pd_15 rfl) rfl (by show 2 * 0 + _ ≤ _; exact Nat.le_of_eq rfl) (hb hby d18_5) (fun _ _ => ⟨rfl, e82, (by decide : 1 + 1 ≤ _), (by decide : 4 + 4 ≤ _)⟩)
  dsimp only [Pt.U, Pt.locs, Pt.cells, Pt.slots] at X83 l83 y83 z83 st83 hQ83
  subst l83 y83 z83
  obtain ⟨rfl, N83q, K83, Ex83, Fxc83, t83, kb83, Fxv83, V83, zt83⟩ := hQ83
  have N83 := Fr.app N0 N83q
  have ne_o_t83 : o ≠ t83 := Nat.ne_of_lt (Nat.lt_of_lt_of_le Fv.lt zt83)
  have ne_d_t83 : d ≠ t83 := Nat.ne_of_lt (Nat.lt_of_lt_of_le V_d.lt zt83)
  have ne_b82_t83 : b82 ≠ t83 := Nat.ne_of_lt (Nat.lt_of_lt_of_le E_b82.lt zt83)
  have g_t83 : n0 ≤ t83 := Nat.le_trans Z_ zt83
  have sz_t83 : h0.size ≤ t83 := Nat.le_trans Kp.1 zt83
  have Z_ : n0 ≤ T83.heap.size := Nat.le_trans Z_ K83.1
  have Fv := Fv.keep K83 (ninS ne_o_b82 nin0)
  have Fc := Fc.keep K83 (ninS ne_o_b82 nin0)
  have V_d := V_d.keep K83 (ninS ne_d_b82 nin0)
  have E_o := E_o.keep K83
  have Fn := Fn.keep K83 (ninS ne_o_b82 nin0)
  have E_b82 := E_b82.keep K83
  have O_ := O_.keep K83 (allS g_b82 all0)
  have Kp := Kp.trans K83 (allS (Or.inr sz_b82) all0)
  refine OwnGo.st (fun _ kk => st83.trans kk) ?_
  show OwnGo p e below s _ _ _ T83 (mkF m 8 #[.val (.ref o)] [(.ref b82)])
  exact OwnGo.ret X83 hx hret hlk rfl (Or.inr (Or.inr (Or.inr (Or.inr ⟨rfl, rfl, rfl⟩)))) (hb hby d18_8) (by show QtoS4 Z o d kd vs us zc h0 n0 _ T83.heap _; exact ⟨b82, t83, kb83, rfl, N83, Kp, Ex83, Fxc83, Fxv83, V83, sz_b82, sz_t83⟩) (by decide) (by decide)
def Qrp3 (Z : State) (o : Addr) (a : Addr) (t : Addr) (kc : ClassId) (u0 : Int32) (u1 : Int32) (r : Addr) (q : Addr) (zc : Int32) (fmv : Value) (h0 : Heap) (n0 : Nat) (v : Option Value) (h : Heap) (L : List Loc) : Prop := v = none ∧ Fr n0 L ∧ Keep h0 h [o] ∧ Exa Z h o "com/example/thorough_factfind/thoroughfactfind/foundation/section/RecordPath" ∧ Fld Z h o "com/example/thorough_factfind/thoroughfactfind/foundation/section/RecordPath" "_parameter" "Ljava/lang/String;" (.ref q)
set_option maxRecDepth 65536 in
set_option maxHeartbeats 40000000 in
theorem rmrp3 (l : Launch) (Z : State) (a0 : Array Value) (hw : ∀ d ∈ tables_1, d.before a0 Z = true) (ws : List Jvm.Cond) (o : Addr) (a : Addr) (t : Addr) (kc : ClassId) (u0 : Int32) (u1 : Int32) (r : Addr) (q : Addr) (zc : Int32) (fmv : Value) (h0 : Heap) (n0 : Nat) (Z0 : n0 ≤ h0.size) (O_ : Old Z n0 h0) (S_CS : Sta Z Z.heap "java/lang/String" "COMPACT_STRINGS" "Z" (.int zc)) (P_CS : ¬ zc = (0 : Int32)) (S_SF : Sta Z Z.heap "jdk/internal/util/Preconditions" "SIOOBE_FORMATTER" "Ljava/util/function/BiFunction;" fmv) (rf_fmv : fmv.isRef = true) (E_o : Exa Z h0 o "com/example/thorough_factfind/thoroughfactfind/foundation/section/RecordPath") (F0 : Fld Z h0 o "com/example/thorough_factfind/thoroughfactfind/foundation/section/RecordPath" "_segment" "Ljava/lang/String;" .null) (F1 : Fld Z h0 o "com/example/thorough_factfind/thoroughfactfind/foundation/section/RecordPath" "_record" "Ljava/lang/String;" .null) (F2 : Fld Z h0 o "com/example/thorough_factfind/thoroughfactfind/foundation/section/RecordPath" "_parameter" "Ljava/lang/String;" .null) (g_o : n0 ≤ o) (E_a : Exa Z h0 a "java/lang/String") (Fc_a : Fld Z h0 a "java/lang/String" "coder" "B" (.int (0 : Int32))) (Fv_a : Fld Z h0 a "java/lang/String" "value" "[B" (.ref t)) (V_t : Arv Z h0 t kc .byte (2 : Int32) [(.int u0), (.int u1)] (.int (0 : Int32))) :
    MetFree l (⟨"com/example/thorough_factfind/thoroughfactfind/foundation/section/RecordPath", "<init>", "(Ljava/lang/String;Ljava/lang/String;Ljava/lang/String;)V"⟩ : MethodName) (head1 (Jvm.Cond.code (⟨"com/example/thorough_factfind/thoroughfactfind/foundation/section/RecordPath", "<init>", "(Ljava/lang/String;Ljava/lang/String;Ljava/lang/String;)V"⟩ : MethodName) prog_35_method_2_code 4 none :: ws) ({ frames := 6, cells := 20, slots := 200, locals := 92 } : Room)) (fun as_ UU => as_ = #[(.ref o), (.ref a), (.ref r), (.ref q)] ∧ Z.Warmed39 UU.vm ∧ UU.heap = h0 ∧ CHv Z own_EL UU.vm h0) (fun _ _ _ _ _ => True) (fun _ UU oo UU' => ∃ vv LL, oo = .returned vv ∧ (Qrp3 Z o a t kc u0 u1 r q zc fmv h0 n0) vv UU'.heap LL ∧ CHr Z own_EL UU.vm UU.heap UU'.vm UU'.heap ∧ ReturnedEndW UU oo UU' LL ({ frames := 6, cells := 20, slots := 200, locals := 92 } : Room).cells ({ frames := 6, cells := 20, slots := 200, locals := 92 } : Room).slots) := by
  refine own_metW (EL := own_EL) (plainFor_of_name pn_29) ?_
  intro p e s m below meth c s₁ X0 hx hby hml hret hlk hown hnm hZ e0 hS_ CR
  have hk_ := Nat.le_refl h0.size
  have N0 := Fr.nil n0
  have Z_ := Z0
  refine OwnGoW.cast (ef_rp3 m o a r q) ?_
  show OwnGoW p e below s Z own_EL _ _ _ s₁ (mkF m 0 #[.val (.ref o), .val (.ref a), .val (.ref r), .val (.ref q)] [])
  have sf_o : Safe Z own_EL s.vm h0 o := Safe.exa hZ.alike E_o (by decide) (by decide)
  have Kp : Keep h0 h0 [o] := Keep.refl h0 [o]
  refine OwnGoW.st (fun _ kk => XS.aloadN X0.here hx rfl (hb hby d29_0) rfl rfl  kk) ?_
  show OwnGoW p e below s Z own_EL _ _ _ s₁ (mkF m 1 #[.val (.ref o), .val (.ref a), .val (.ref r), .val (.ref q)] [(.ref o)])
  obtain ⟨T84, X84, e84, st84⟩ := initO X0 hx hZ hown (hw _ (List.mem_of_getElem? (i := 152) rfl)) (hw _ (List.mem_of_getElem? (i := 12) rfl)) (hw _ (List.mem_of_getElem? (i := 13) rfl)) e0 (g := (mkF m 1 #[.val (.ref o), .val (.ref a), .val (.ref r), .val (.ref q)] [(.ref o)])) rfl (by rw [hml]; rfl) rfl (hb hby d29_1) (by decide) (W := 0) (by show 2 * 0 + _ ≤ _; exact Nat.le_of_eq rfl) (by decide)
  refine OwnGoW.st st84 ?_
  show OwnGoW p e below s Z own_EL _ _ _ T84 (mkF m 4 #[.val (.ref o), .val (.ref a), .val (.ref r), .val (.ref q)] [])
  refine OwnGoW.st (fun _ kk => XS.aloadN X84.here hx rfl (hb hby d29_4) rfl rfl  kk) ?_
  show OwnGoW p e below s Z own_EL _ _ _ T84 (mkF m 5 #[.val (.ref o), .val (.ref a), .val (.ref r), .val (.ref q)] [(.ref o)])
  obtain ⟨T85, h85, X85, e85, E85, A85, D85, -, st85⟩ := newO X84 hx hZ hown (hw _ (List.mem_of_getElem? (i := 36) rfl)) (hw _ (List.mem_of_getElem? (i := 37) rfl)) (hw _ (List.mem_of_getElem? (i := 38) rfl)) e84 (g := (mkF m 5 #[.val (.ref o), .val (.ref a), .val (.ref r), .val (.ref q)] [(.ref o)])) rfl (hb hby d29_5) (by decide) (by decide)
  obtain ⟨b85, g85⟩ : ∃ z, z = h0.size := ⟨_, rfl⟩
  rw [← g85] at A85 D85 st85
  have ne_o_b85 : o ≠ b85 := Nat.ne_of_lt (Nat.lt_of_lt_of_le E_o.lt (Nat.le_of_eq g85.symm))
  have ne_a_b85 : a ≠ b85 := Nat.ne_of_lt (Nat.lt_of_lt_of_le E_a.lt (Nat.le_of_eq g85.symm))
  have ne_t_b85 : t ≠ b85 := Nat.ne_of_lt (Nat.lt_of_lt_of_le V_t.lt (Nat.le_of_eq g85.symm))
  have g_b85 : n0 ≤ b85 := Nat.le_trans Z_ (Nat.le_of_eq g85.symm)
  have sf_b85 : Safe Z own_EL s.vm h0 b85 := Safe.new (Nat.le_of_eq g85.symm)
  have sz_b85 : h0.size ≤ b85 := Nat.le_trans Kp.1 (Nat.le_of_eq g85.symm)
  have E_o := E_o.ext E85
  have F0 := F0.ext E85
  have F1 := F1.ext E85
  have F2 := F2.ext E85
  have E_a := E_a.ext E85
  have Fc_a := Fc_a.ext E85
  have Fv_a := Fv_a.ext E85
  have V_t := V_t.ext E85
  have O_ := O_.ext E85
  have Kp := Kp.ext E85
  have sf_o := Safe.ext E85 CR.1 sf_o
  have sf_b85 := Safe.ext E85 CR.1 sf_b85
  have CR := CR.trans (CHr.ext E85 CR.1)
  have hk_ := Nat.le_trans hk_ E85.1
  have Z_ : n0 ≤ h85.size := Nat.le_trans Z_ E85.1
  have E_b85 := A85
  have F_value_b85 : Fld Z h85 b85 "java/lang/AbstractStringBuilder" "value" "[B" .null := D85 (Or.inl (hw _ (List.mem_of_getElem? (i := 51) rfl))) (ty := (.array .byte)) (by decide)
  have F_coder_b85 : Fld Z h85 b85 "java/lang/AbstractStringBuilder" "coder" "B" (.int (0 : Int32)) := D85 (Or.inl (hw _ (List.mem_of_getElem? (i := 53) rfl))) (ty := .byte) (by decide)
  have F_count_b85 : Fld Z h85 b85 "java/lang/AbstractStringBuilder" "count" "I" (.int (0 : Int32)) := D85 (Or.inl (hw _ (List.mem_of_getElem? (i := 75) rfl))) (ty := .int) (by decide)
  refine OwnGoW.st st85 ?_
  show OwnGoW p e below s Z own_EL _ _ _ T85 (mkF m 8 #[.val (.ref o), .val (.ref a), .val (.ref r), .val (.ref q)] [(.ref b85), (.ref o)])
  refine OwnGoW.st (fun _ kk => XS.dup X85.here hx rfl (hb hby d29_8) rfl rfl kk) ?_
  show OwnGoW p e below s Z own_EL _ _ _ T85 (mkF m 9 #[.val (.ref o), .val (.ref a), .val (.ref r), .val (.ref q)] [(.ref b85), (.ref b85), (.ref o)])
  obtain ⟨_, _, ⟨T86, L86, k86, n86⟩, -, X86, ⟨Lc86, hQ86, l86, y86, z86⟩, st86⟩ := X85.specialBack hx (y := (⟨"java/lang/StringBuilder", "<init>", "()V"⟩ : MethodName)) rfl hown (mvT hZ (hw _ (List.mem_of_getElem? (i := 39) rfl))) (mvT hZ (hw _ (List.mem_of_getElem? (i := 40) rfl))) (mvT hZ (hw _ (List.mem_of_getElem? (i := 41) rfl))) (by decide) (backOf (W := 2) (rmsbI l Z a0 hw [] b85 zc h85 n0 Z_ O_ S_CS P_CS E_b85 F_value_b85 F_coder_b85 F_count_b85 g_b85) hZ (hw _ (List.mem_of_getElem? (i := 41) rfl)) (hw _ (List.mem_of_getElem? (i := 38) rfl)) (by decide) (by decide)) (g := (mkF m 9 #[.val (.ref o), .val (.ref a), .val (.ref r), .val (.ref q)] [(.ref b85), (.ref b85), (.ref o)])) rfl (by rw [hml]; rfl) (Steps.refl _) (a := b85) (argsL := []) (rest := [(.ref b85), (.ref o)]) (lenOf pd_16 rfl) rfl (by show 2 * 0 + _ ≤ _; exact Nat.le_of_eq rfl) (hb hby d29_9) (fun _ _ => ⟨rfl, e85, (by decide : 1 + 1 ≤ _), (by decide : 4 + 16 ≤ _)⟩)
  dsimp only [Pt.U, Pt.locs, Pt.cells, Pt.slots] at X86 l86 y86 z86 st86 hQ86
  subst l86 y86 z86
  obtain ⟨rfl, N86q, K86, Eo86, Fc86, Fn86, d86, kd86, Fv86, V86, zd86⟩ := hQ86
  have N86 := Fr.app N0 N86q
  have ne_o_d86 : o ≠ d86 := Nat.ne_of_lt (Nat.lt_of_lt_of_le E_o.lt zd86)
  have ne_a_d86 : a ≠ d86 := Nat.ne_of_lt (Nat.lt_of_lt_of_le E_a.lt zd86)
  have ne_t_d86 : t ≠ d86 := Nat.ne_of_lt (Nat.lt_of_lt_of_le V_t.lt zd86)
  have ne_b85_d86 : b85 ≠ d86 := Nat.ne_of_lt (Nat.lt_of_lt_of_le E_b85.lt zd86)
  have g_d86 : n0 ≤ d86 := Nat.le_trans Z_ zd86
  have sz_d86 : h0.size ≤ d86 := Nat.le_trans Kp.1 zd86
  have sf_d86 : Safe Z own_EL s.vm h85 d86 := Safe.new zd86
  have Z_ : n0 ≤ T86.heap.size := Nat.le_trans Z_ K86.1
  have E_o := E_o.keep K86
  have F0 := F0.keep K86 (ninS ne_o_b85 nin0)
  have F1 := F1.keep K86 (ninS ne_o_b85 nin0)
  have F2 := F2.keep K86 (ninS ne_o_b85 nin0)
  have E_a := E_a.keep K86
  have Fc_a := Fc_a.keep K86 (ninS ne_a_b85 nin0)
  have Fv_a := Fv_a.keep K86 (ninS ne_a_b85 nin0)
  have V_t := V_t.keep K86 (ninS ne_t_b85 nin0)
  have E_b85 := E_b85.keep K86
  have O_ := O_.keep K86 (allS g_b85 all0)
  have Kp := Kp.trans K86 (allS (Or.inr sz_b85) all0)
  have sf_o' := Safe.keep K86 (sfS sf_b85 sf0) CR.1 sf_o
  have sf_d86' := Safe.keep K86 (sfS sf_b85 sf0) CR.1 sf_d86
  have sf_b85' := Safe.keep K86 (sfS sf_b85 sf0) CR.1 sf_b85
  have CR := CR.trans (CHr.keep K86 (sfS sf_b85 sf0) CR.1)
  have hk_ := Nat.le_trans hk_ K86.1
  have sf_o := sf_o'
  have sf_b85 := sf_b85'
  have sf_d86 := sf_d86'
  refine OwnGoW.st (fun _ kk => st86.trans kk) ?_
  show OwnGoW p e below s Z own_EL _ _ _ T86 (mkF m 12 #[.val (.ref o), .val (.ref a), .val (.ref r), .val (.ref q)] [(.ref b85), (.ref o)])
  obtain ⟨a87, T87, h87, k1_87, b87, kc87, X87, e87, E87, hS_, hkN, hZ, hown, Ea, Fc, Fv, Vb, -, -, CN, -, sN, st87⟩ := ldcCH (s := s) (vm0 := s.vm) X86 hx hZ hown (hw _ (List.mem_of_getElem? (i := 153) rfl)) (own_wS hw) rfl hS_ hk_ (own_hEL hw) (by decide) CR.1 (vs := [(.int (47 : Int32))]) (z := (1 : Int32)) ⟨by decide, rfl⟩ (by decide) (by decide) (g := (mkF m 12 #[.val (.ref o), .val (.ref a), .val (.ref r), .val (.ref q)] [(.ref b85), (.ref o)])) rfl (hb hby d29_12) (n := 4) (by decide) (by decide) (by decide) (by decide)
  have lt_o : o < T86.heap.size := E_o.lt
  have lt_b85 : b85 < T86.heap.size := E_b85.lt
  have lt_d86 : d86 < T86.heap.size := V86.lt
  have E_o := E_o.ext E87
  have F0 := F0.ext E87
  have F1 := F1.ext E87
  have F2 := F2.ext E87
  have E_a := E_a.ext E87
  have Fc_a := Fc_a.ext E87
  have Fv_a := Fv_a.ext E87
  have V_t := V_t.ext E87
  have E_b85 := E_b85.ext E87
  have Fv86 := Fv86.ext E87
  have Fc86 := Fc86.ext E87
  have Fn86 := Fn86.ext E87
  have V86 := V86.ext E87
  have O_ := O_.ext E87
  have Kp := Kp.ext E87
  have sf_o := CN.safe lt_o sf_o
  have sf_b85 := CN.safe lt_b85 sf_b85
  have sf_d86 := CN.safe lt_d86 sf_d86
  have CR := CR.trans CN
  have hk_ := hkN
  have Z_ : n0 ≤ h87.size := Nat.le_trans Z_ E87.1
  have ne_o_a87 := (sN _ sf_o).1
  have ne_o_b87 := (sN _ sf_o).2
  have ne_b85_a87 := (sN _ sf_b85).1
  have ne_b85_b87 := (sN _ sf_b85).2
  have ne_d86_a87 := (sN _ sf_d86).1
  have ne_d86_b87 := (sN _ sf_d86).2
  have E_a87 := Ea
  have Fc_a87 := Fc
  have Fv_a87 := Fv
  have V_b87 := Vb
  refine OwnGoW.st st87 ?_
  show OwnGoW p e below s Z own_EL _ _ _ T87 (mkF m 14 #[.val (.ref o), .val (.ref a), .val (.ref r), .val (.ref q)] [(.ref a87), (.ref b85), (.ref o)])
  obtain ⟨cq88, kq88, q88a, q88b, q88c⟩ := isOf hZ e87 E_b85
  obtain ⟨_, _, ⟨T88, L88, k88, n88⟩, -, X88, ⟨Lc88, hQ88, l88, y88, z88⟩, st88⟩ := X87.virtualBack hx (y := (⟨"java/lang/StringBuilder", "append", "(Ljava/lang/String;)Ljava/lang/StringBuilder;"⟩ : MethodName)) (z := (⟨"java/lang/StringBuilder", "append", "(Ljava/lang/String;)Ljava/lang/StringBuilder;"⟩ : MethodName)) hown (mvT hZ (hw _ (List.mem_of_getElem? (i := 54) rfl))) (mvT hZ (hw _ (List.mem_of_getElem? (i := 55) rfl))) (notFace_of_selects (args := #[]) (mvT hZ (hw _ (List.mem_of_getElem? (i := 57) rfl)))) (mvT hZ (hw _ (List.mem_of_getElem? (i := 57) rfl))) (mvT hZ (hw _ (List.mem_of_getElem? (i := 56) rfl))) (by decide) (backOf (W := 1) (rmsbA l Z a0 hw [] b85 a87 b87 kc87 (1 : Int32) [(.int (47 : Int32))] d86 kd86 [] [(.int (47 : Int32))] (0 : Int32) zc h87 n0 Z_ O_ S_CS P_CS E_b85 Fv86 Fc86 Fn86 V86 E_a87 Fc_a87 Fv_a87 V_b87 (by decide) (by decide) (fun j hj => by match j, hj with | 0, _ => rfl | 1, _ => rfl | 2, _ => rfl | 3, _ => rfl | 4, _ => rfl | 5, _ => rfl | 6, _ => rfl | 7, _ => rfl | 8, _ => rfl | 9, _ => rfl | 10, _ => rfl | 11, _ => rfl | 12, _ => rfl | 13, _ => rfl | 14, _ => rfl | 15, _ => rfl | _ + 16, h => exact absurd h (by omega)) (by decide) g_b85 g_d86 ne_b85_d86) hZ (hw _ (List.mem_of_getElem? (i := 58) rfl)) (hw _ (List.mem_of_getElem? (i := 38) rfl)) (by decide) (by decide)) q88a q88c (g := (mkF m 14 #[.val (.ref o), .val (.ref a), .val (.ref r), .val (.ref q)] [(.ref a87), (.ref b85), (.ref o)])) rfl (by rw [hml]; rfl) (Steps.refl _) (argsL := [(.ref a87)]) (rest := [(.ref o)]) (lenOf pd_17 rfl) rfl (by show 2 * 0 + _ ≤ _; exact Nat.le_of_eq rfl) (hb hby d29_14) (fun _ _ => ⟨rfl, e87, (by decide : 4 + 0 ≤ _), (by decide : 28 + 0 ≤ _)⟩)
  dsimp only [Pt.U, Pt.locs, Pt.cells, Pt.slots] at X88 l88 y88 z88 st88 hQ88
  subst l88 y88 z88
  obtain ⟨rfl, N88q, K88, Eo88, Fv88, Fc88, Fn88, V88⟩ := hQ88
  have N88 := Fr.app N86 N88q
  have Z_ : n0 ≤ T88.heap.size := Nat.le_trans Z_ K88.1
  have E_o := E_o.keep K88
  have F0 := F0.keep K88 (ninS ne_o_b85 (ninS ne_o_d86 nin0))
  have F1 := F1.keep K88 (ninS ne_o_b85 (ninS ne_o_d86 nin0))
  have F2 := F2.keep K88 (ninS ne_o_b85 (ninS ne_o_d86 nin0))
  have E_a := E_a.keep K88
  have Fc_a := Fc_a.keep K88 (ninS ne_a_b85 (ninS ne_a_d86 nin0))
  have Fv_a := Fv_a.keep K88 (ninS ne_a_b85 (ninS ne_a_d86 nin0))
  have V_t := V_t.keep K88 (ninS ne_t_b85 (ninS ne_t_d86 nin0))
  have E_b85 := E_b85.keep K88
  have E_a87 := E_a87.keep K88
  have Fc_a87 := Fc_a87.keep K88 (ninS (Ne.symm ne_b85_a87) (ninS (Ne.symm ne_d86_a87) nin0))
  have Fv_a87 := Fv_a87.keep K88 (ninS (Ne.symm ne_b85_a87) (ninS (Ne.symm ne_d86_a87) nin0))
  have V_b87 := V_b87.keep K88 (ninS (Ne.symm ne_b85_b87) (ninS (Ne.symm ne_d86_b87) nin0))
  have O_ := O_.keep K88 (allS g_b85 (allS g_d86 all0))
  have Kp := Kp.trans K88 (allS (Or.inr sz_b85) (allS (Or.inr sz_d86) all0))
  have sf_o' := Safe.keep K88 (sfS sf_b85 (sfS sf_d86 sf0)) CR.1 sf_o
  have sf_b85' := Safe.keep K88 (sfS sf_b85 (sfS sf_d86 sf0)) CR.1 sf_b85
  have sf_d86' := Safe.keep K88 (sfS sf_b85 (sfS sf_d86 sf0)) CR.1 sf_d86
  have CR := CR.trans (CHr.keep K88 (sfS sf_b85 (sfS sf_d86 sf0)) CR.1)
  have hk_ := Nat.le_trans hk_ K88.1
  have sf_o := sf_o'
  have sf_b85 := sf_b85'
  have sf_d86 := sf_d86'
  refine OwnGoW.st (fun _ kk => st88.trans kk) ?_
  show OwnGoW p e below s Z own_EL _ _ _ T88 (mkF m 17 #[.val (.ref o), .val (.ref a), .val (.ref r), .val (.ref q)] [(.ref b85), (.ref o)])
  have Fn88 : Fld Z T88.heap b85 "java/lang/AbstractStringBuilder" "count" "I" (.int (1 : Int32)) := Fn88
  refine OwnGoW.st (fun _ kk => XS.aloadN X88.here hx rfl (hb hby d29_17) rfl rfl  kk) ?_
  show OwnGoW p e below s Z own_EL _ _ _ T88 (mkF m 18 #[.val (.ref o), .val (.ref a), .val (.ref r), .val (.ref q)] [(.ref a), (.ref b85), (.ref o)])
  obtain ⟨cq89, kq89, q89a, q89b, q89c⟩ := isOf hZ rfl E_b85
  obtain ⟨_, _, ⟨T89, L89, k89, n89⟩, -, X89, ⟨Lc89, hQ89, l89, y89, z89⟩, st89⟩ := X88.virtualBack hx (y := (⟨"java/lang/StringBuilder", "append", "(Ljava/lang/String;)Ljava/lang/StringBuilder;"⟩ : MethodName)) (z := (⟨"java/lang/StringBuilder", "append", "(Ljava/lang/String;)Ljava/lang/StringBuilder;"⟩ : MethodName)) hown (mvT hZ (hw _ (List.mem_of_getElem? (i := 54) rfl))) (mvT hZ (hw _ (List.mem_of_getElem? (i := 55) rfl))) (notFace_of_selects (args := #[]) (mvT hZ (hw _ (List.mem_of_getElem? (i := 57) rfl)))) (mvT hZ (hw _ (List.mem_of_getElem? (i := 57) rfl))) (mvT hZ (hw _ (List.mem_of_getElem? (i := 56) rfl))) (by decide) (backOf (W := 1) (rmsbA l Z a0 hw [] b85 a t kc (2 : Int32) [(.int u0), (.int u1)] d86 kd86 [(.int (47 : Int32))] [(.int (47 : Int32)), (.int u0), (.int u1)] (1 : Int32) zc T88.heap n0 Z_ O_ S_CS P_CS E_b85 Fv88 Fc88 Fn88 V88 E_a Fc_a Fv_a V_t (by decide) (by decide) (fun j hj => by match j, hj with | 0, _ => rfl | 1, _ => rfl | 2, _ => rfl | 3, _ => rfl | 4, _ => rfl | 5, _ => rfl | 6, _ => rfl | 7, _ => rfl | 8, _ => rfl | 9, _ => rfl | 10, _ => rfl | 11, _ => rfl | 12, _ => rfl | 13, _ => rfl | 14, _ => rfl | 15, _ => rfl | _ + 16, h => exact absurd h (by omega)) (by decide) g_b85 g_d86 ne_b85_d86) hZ (hw _ (List.mem_of_getElem? (i := 58) rfl)) (hw _ (List.mem_of_getElem? (i := 38) rfl)) (by decide) (by decide)) q89a q89c (g := (mkF m 18 #[.val (.ref o), .val (.ref a), .val (.ref r), .val (.ref q)] [(.ref a), (.ref b85), (.ref o)])) rfl (by rw [hml]; rfl) (Steps.refl _) (argsL := [(.ref a)]) (rest := [(.ref o)]) (lenOf pd_17 rfl) rfl (by show 2 * 0 + _ ≤ _; exact Nat.le_of_eq rfl) (hb hby d29_18) (fun _ _ => ⟨rfl, rfl, (by decide : 4 + 0 ≤ _), (by decide : 28 + 0 ≤ _)⟩)
  dsimp only [Pt.U, Pt.locs, Pt.cells, Pt.slots] at X89 l89 y89 z89 st89 hQ89
  subst l89 y89 z89
  obtain ⟨rfl, N89q, K89, Eo89, Fv89, Fc89, Fn89, V89⟩ := hQ89
  have N89 := Fr.app N88 N89q
  have Z_ : n0 ≤ T89.heap.size := Nat.le_trans Z_ K89.1
  have E_o := E_o.keep K89
  have F0 := F0.keep K89 (ninS ne_o_b85 (ninS ne_o_d86 nin0))
  have F1 := F1.keep K89 (ninS ne_o_b85 (ninS ne_o_d86 nin0))
  have F2 := F2.keep K89 (ninS ne_o_b85 (ninS ne_o_d86 nin0))
  have E_a := E_a.keep K89
  have Fc_a := Fc_a.keep K89 (ninS ne_a_b85 (ninS ne_a_d86 nin0))
  have Fv_a := Fv_a.keep K89 (ninS ne_a_b85 (ninS ne_a_d86 nin0))
  have V_t := V_t.keep K89 (ninS ne_t_b85 (ninS ne_t_d86 nin0))
  have E_b85 := E_b85.keep K89
  have E_a87 := E_a87.keep K89
  have Fc_a87 := Fc_a87.keep K89 (ninS (Ne.symm ne_b85_a87) (ninS (Ne.symm ne_d86_a87) nin0))
  have Fv_a87 := Fv_a87.keep K89 (ninS (Ne.symm ne_b85_a87) (ninS (Ne.symm ne_d86_a87) nin0))
  have V_b87 := V_b87.keep K89 (ninS (Ne.symm ne_b85_b87) (ninS (Ne.symm ne_d86_b87) nin0))
  have O_ := O_.keep K89 (allS g_b85 (allS g_d86 all0))
  have Kp := Kp.trans K89 (allS (Or.inr sz_b85) (allS (Or.inr sz_d86) all0))
  have sf_o' := Safe.keep K89 (sfS sf_b85 (sfS sf_d86 sf0)) CR.1 sf_o
  have sf_b85' := Safe.keep K89 (sfS sf_b85 (sfS sf_d86 sf0)) CR.1 sf_b85
  have sf_d86' := Safe.keep K89 (sfS sf_b85 (sfS sf_d86 sf0)) CR.1 sf_d86
  have CR := CR.trans (CHr.keep K89 (sfS sf_b85 (sfS sf_d86 sf0)) CR.1)
  have hk_ := Nat.le_trans hk_ K89.1
  have sf_o := sf_o'
  have sf_b85 := sf_b85'
  have sf_d86 := sf_d86'
  refine OwnGoW.st (fun _ kk => st89.trans kk) ?_
  show OwnGoW p e below s Z own_EL _ _ _ T89 (mkF m 21 #[.val (.ref o), .val (.ref a), .val (.ref r), .val (.ref q)] [(.ref b85), (.ref o)])
  have Fn89 : Fld Z T89.heap b85 "java/lang/AbstractStringBuilder" "count" "I" (.int (3 : Int32)) := Fn89
  obtain ⟨cq90, kq90, q90a, q90b, q90c⟩ := isOf hZ rfl E_b85
  obtain ⟨_, _, ⟨T90, L90, k90, n90⟩, -, X90, ⟨Lc90, hQ90, l90, y90, z90⟩, st90⟩ := X89.virtualBack hx (y := (⟨"java/lang/StringBuilder", "toString", "()Ljava/lang/String;"⟩ : MethodName)) (z := (⟨"java/lang/StringBuilder", "toString", "()Ljava/lang/String;"⟩ : MethodName)) hown (mvT hZ (hw _ (List.mem_of_getElem? (i := 104) rfl))) (mvT hZ (hw _ (List.mem_of_getElem? (i := 105) rfl))) (notFace_of_selects (args := #[]) (mvT hZ (hw _ (List.mem_of_getElem? (i := 107) rfl)))) (mvT hZ (hw _ (List.mem_of_getElem? (i := 107) rfl))) (mvT hZ (hw _ (List.mem_of_getElem? (i := 106) rfl))) (by decide) (backOf (W := 1) (rmtoS3 l Z a0 hw [] b85 d86 kd86 [(.int (47 : Int32)), (.int u0), (.int u1)] [(.int (47 : Int32)), (.int u0), (.int u1)] zc T89.heap n0 Z_ O_ S_CS P_CS E_b85 Fv89 Fc89 Fn89 V89 (fun _ _ => rfl)) hZ (hw _ (List.mem_of_getElem? (i := 108) rfl)) (hw _ (List.mem_of_getElem? (i := 38) rfl)) (by decide) (by decide)) q90a q90c (g := (mkF m 21 #[.val (.ref o), .val (.ref a), .val (.ref r), .val (.ref q)] [(.ref b85), (.ref o)])) rfl (by rw [hml]; rfl) (Steps.refl _) (argsL := []) (rest := [(.ref o)]) (lenOf pd_18 rfl) rfl (by show 2 * 0 + _ ≤ _; exact Nat.le_of_eq rfl) (hb hby d29_21) (fun _ _ => ⟨rfl, rfl, (by decide : 4 + 2 ≤ _), (by decide : 28 + 7 ≤ _)⟩)
  dsimp only [Pt.U, Pt.locs, Pt.cells, Pt.slots] at X90 l90 y90 z90 st90 hQ90
  subst l90 y90 z90
  obtain ⟨x90, t90, kb90, rfl, N90q, K90, Ex90, Fxc90, Fxv90, V90, zx90, zt90⟩ := hQ90
  have N90 := Fr.app N89 N90q
  have ne_o_x90 : o ≠ x90 := Nat.ne_of_lt (Nat.lt_of_lt_of_le E_o.lt zx90)
  have ne_a_x90 : a ≠ x90 := Nat.ne_of_lt (Nat.lt_of_lt_of_le E_a.lt zx90)
  have ne_t_x90 : t ≠ x90 := Nat.ne_of_lt (Nat.lt_of_lt_of_le V_t.lt zx90)
  have ne_b85_x90 : b85 ≠ x90 := Nat.ne_of_lt (Nat.lt_of_lt_of_le E_b85.lt zx90)
  have ne_a87_x90 : a87 ≠ x90 := Nat.ne_of_lt (Nat.lt_of_lt_of_le E_a87.lt zx90)
  have ne_b87_x90 : b87 ≠ x90 := Nat.ne_of_lt (Nat.lt_of_lt_of_le V_b87.lt zx90)
  have ne_d86_x90 : d86 ≠ x90 := Nat.ne_of_lt (Nat.lt_of_lt_of_le V89.lt zx90)
  have g_x90 : n0 ≤ x90 := Nat.le_trans Z_ zx90
  have sz_x90 : h0.size ≤ x90 := Nat.le_trans Kp.1 zx90
  have ne_o_t90 : o ≠ t90 := Nat.ne_of_lt (Nat.lt_of_lt_of_le E_o.lt zt90)
  have ne_a_t90 : a ≠ t90 := Nat.ne_of_lt (Nat.lt_of_lt_of_le E_a.lt zt90)
  have ne_t_t90 : t ≠ t90 := Nat.ne_of_lt (Nat.lt_of_lt_of_le V_t.lt zt90)
  have ne_b85_t90 : b85 ≠ t90 := Nat.ne_of_lt (Nat.lt_of_lt_of_le E_b85.lt zt90)
  have ne_a87_t90 : a87 ≠ t90 := Nat.ne_of_lt (Nat.lt_of_lt_of_le E_a87.lt zt90)
  have ne_b87_t90 : b87 ≠ t90 := Nat.ne_of_lt (Nat.lt_of_lt_of_le V_b87.lt zt90)
  have ne_d86_t90 : d86 ≠ t90 := Nat.ne_of_lt (Nat.lt_of_lt_of_le V89.lt zt90)
  have g_t90 : n0 ≤ t90 := Nat.le_trans Z_ zt90
  have sz_t90 : h0.size ≤ t90 := Nat.le_trans Kp.1 zt90
  have Z_ : n0 ≤ T90.heap.size := Nat.le_trans Z_ K90.1
  have E_o := E_o.keep K90
  have F0 := F0.keep K90 nin0
  have F1 := F1.keep K90 nin0
  have F2 := F2.keep K90 nin0
  have E_a := E_a.keep K90
  have Fc_a := Fc_a.keep K90 nin0
  have Fv_a := Fv_a.keep K90 nin0
  have V_t := V_t.keep K90 nin0
  have E_b85 := E_b85.keep K90
  have E_a87 := E_a87.keep K90
  have Fc_a87 := Fc_a87.keep K90 nin0
  have Fv_a87 := Fv_a87.keep K90 nin0
  have V_b87 := V_b87.keep K90 nin0
  have Fv89 := Fv89.keep K90 nin0
  have Fc89 := Fc89.keep K90 nin0
  have Fn89 := Fn89.keep K90 nin0
  have V89 := V89.keep K90 nin0
  have O_ := O_.keep K90 all0
  have Kp := Kp.trans K90 all0
  have sf_o' := Safe.keep K90 sf0 CR.1 sf_o
  have sf_b85' := Safe.keep K90 sf0 CR.1 sf_b85
  have sf_d86' := Safe.keep K90 sf0 CR.1 sf_d86
  have CR := CR.trans (CHr.keep K90 sf0 CR.1)
  have hk_ := Nat.le_trans hk_ K90.1
  have sf_o := sf_o'
  have sf_b85 := sf_b85'
  have sf_d86 := sf_d86'
  refine OwnGoW.st (fun _ kk => st90.trans kk) ?_
  show OwnGoW p e below s Z own_EL _ _ _ T90 (mkF m 24 #[.val (.ref o), .val (.ref a), .val (.ref r), .val (.ref q)] [(.ref x90), (.ref o)])
  obtain ⟨T91, h91, X91, e91, W91, st91⟩ := putF X90 hx hZ hown (host := "") (Or.inl (hw _ (List.mem_of_getElem? (i := 154) rfl))) Via.refl rfl F0 E_o (Or.inr ⟨(hw _ (List.mem_of_getElem? (i := 155) rfl)), rfl, hnm⟩) (hw _ (List.mem_of_getElem? (i := 31) rfl)) (ty := (.object "java/lang/String")) (by decide) rfl rfl (g := (mkF m 24 #[.val (.ref o), .val (.ref a), .val (.ref r), .val (.ref q)] [(.ref x90), (.ref o)])) rfl rfl (hb hby d29_24)
  have E_o := E_o.wr W91
  have F0 := F0.same W91
  have F1 := F1.other W91 (Or.inr (slot_ne (Or.inr (hw _ (List.mem_of_getElem? (i := 157) rfl))) (Or.inr (hw _ (List.mem_of_getElem? (i := 155) rfl))) (by decide) (t := (.object "java/lang/String")) (t' := (.object "java/lang/String")) (by decide) (by decide)))
  have F2 := F2.other W91 (Or.inr (slot_ne (Or.inr (hw _ (List.mem_of_getElem? (i := 159) rfl))) (Or.inr (hw _ (List.mem_of_getElem? (i := 155) rfl))) (by decide) (t := (.object "java/lang/String")) (t' := (.object "java/lang/String")) (by decide) (by decide)))
  have O_ := O_.wr W91 g_o
  have Kp := Kp.wr W91 (Or.inl (List.mem_of_getElem? (i := 0) rfl))
  have sf_ := sf_o
  have CR0 := CR.1
  have CR := CR.trans (CHr.wr W91 sf_ CR.1)
  have sf_o := Safe.wr W91 sf_ CR0 sf_o
  have hk_ := Nat.le_trans hk_ (Nat.le_of_eq W91.size.symm)
  have N91 := Fr.snoc X91 N90 g_o
  have Z_ : n0 ≤ h91.size := by rw [W91.size]; exact Z_
  refine OwnGoW.st st91 ?_
  show OwnGoW p e below s Z own_EL _ _ _ T91 (mkF m 27 #[.val (.ref o), .val (.ref a), .val (.ref r), .val (.ref q)] [])
  refine OwnGoW.st (fun _ kk => XS.aloadN X91.here hx rfl (hb hby d29_27) rfl rfl  kk) ?_
  show OwnGoW p e below s Z own_EL _ _ _ T91 (mkF m 28 #[.val (.ref o), .val (.ref a), .val (.ref r), .val (.ref q)] [(.ref o)])
  refine OwnGoW.st (fun _ kk => XS.aloadN X91.here hx rfl (hb hby d29_28) rfl rfl  kk) ?_
  show OwnGoW p e below s Z own_EL _ _ _ T91 (mkF m 29 #[.val (.ref o), .val (.ref a), .val (.ref r), .val (.ref q)] [(.ref r), (.ref o)])
  obtain ⟨T92, h92, X92, e92, W92, st92⟩ := putF X91 hx hZ hown (host := "") (Or.inl (hw _ (List.mem_of_getElem? (i := 156) rfl))) Via.refl e91 F1 E_o (Or.inr ⟨(hw _ (List.mem_of_getElem? (i := 157) rfl)), rfl, hnm⟩) (hw _ (List.mem_of_getElem? (i := 31) rfl)) (ty := (.object "java/lang/String")) (by decide) rfl rfl (g := (mkF m 29 #[.val (.ref o), .val (.ref a), .val (.ref r), .val (.ref q)] [(.ref r), (.ref o)])) rfl rfl (hb hby d29_29)
  have E_o := E_o.wr W92
  have F0 := F0.other W92 (Or.inr (slot_ne (Or.inr (hw _ (List.mem_of_getElem? (i := 155) rfl))) (Or.inr (hw _ (List.mem_of_getElem? (i := 157) rfl))) (by decide) (t := (.object "java/lang/String")) (t' := (.object "java/lang/String")) (by decide) (by decide)))
  have F1 := F1.same W92
  have F2 := F2.other W92 (Or.inr (slot_ne (Or.inr (hw _ (List.mem_of_getElem? (i := 159) rfl))) (Or.inr (hw _ (List.mem_of_getElem? (i := 157) rfl))) (by decide) (t := (.object "java/lang/String")) (t' := (.object "java/lang/String")) (by decide) (by decide)))
  have O_ := O_.wr W92 g_o
  have Kp := Kp.wr W92 (Or.inl (List.mem_of_getElem? (i := 0) rfl))
  have sf_ := sf_o
  have CR0 := CR.1
  have CR := CR.trans (CHr.wr W92 sf_ CR.1)
  have sf_o := Safe.wr W92 sf_ CR0 sf_o
  have hk_ := Nat.le_trans hk_ (Nat.le_of_eq W92.size.symm)
  have N92 := Fr.snoc X92 N91 g_o
  have Z_ : n0 ≤ h92.size := by rw [W92.size]; exact Z_
  refine OwnGoW.st st92 ?_
  show OwnGoW p e below s Z own_EL _ _ _ T92 (mkF m 32 #[.val (.ref o), .val (.ref a), .val (.ref r), .val (.ref q)] [])
  refine OwnGoW.st (fun _ kk => XS.aloadN X92.here hx rfl (hb hby d29_32) rfl rfl  kk) ?_
  show OwnGoW p e below s Z own_EL _ _ _ T92 (mkF m 33 #[.val (.ref o), .val (.ref a), .val (.ref r), .val (.ref q)] [(.ref o)])
  refine OwnGoW.st (fun _ kk => XS.aloadN X92.here hx rfl (hb hby d29_33) rfl rfl  kk) ?_
  show OwnGoW p e below s Z own_EL _ _ _ T92 (mkF m 34 #[.val (.ref o), .val (.ref a), .val (.ref r), .val (.ref q)] [(.ref q), (.ref o)])
  obtain ⟨T93, h93, X93, e93, W93, st93⟩ := putF X92 hx hZ hown (host := "") (Or.inl (hw _ (List.mem_of_getElem? (i := 158) rfl))) Via.refl e92 F2 E_o (Or.inr ⟨(hw _ (List.mem_of_getElem? (i := 159) rfl)), rfl, hnm⟩) (hw _ (List.mem_of_getElem? (i := 31) rfl)) (ty := (.object "java/lang/String")) (by decide) rfl rfl (g := (mkF m 34 #[.val (.ref o), .val (.ref a), .val (.ref r), .val (.ref q)] [(.ref q), (.ref o)])) rfl rfl (hb hby d29_34)
  have E_o := E_o.wr W93
  have F0 := F0.other W93 (Or.inr (slot_ne (Or.inr (hw _ (List.mem_of_getElem? (i := 155) rfl))) (Or.inr (hw _ (List.mem_of_getElem? (i := 159) rfl))) (by decide) (t := (.object "java/lang/String")) (t' := (.object "java/lang/String")) (by decide) (by decide)))
  have F1 := F1.other W93 (Or.inr (slot_ne (Or.inr (hw _ (List.mem_of_getElem? (i := 157) rfl))) (Or.inr (hw _ (List.mem_of_getElem? (i := 159) rfl))) (by decide) (t := (.object "java/lang/String")) (t' := (.object "java/lang/String")) (by decide) (by decide)))
  have F2 := F2.same W93
  have O_ := O_.wr W93 g_o
  have Kp := Kp.wr W93 (Or.inl (List.mem_of_getElem? (i := 0) rfl))
  have sf_ := sf_o
  have CR0 := CR.1
  have CR := CR.trans (CHr.wr W93 sf_ CR.1)
  have sf_o := Safe.wr W93 sf_ CR0 sf_o
  have hk_ := Nat.le_trans hk_ (Nat.le_of_eq W93.size.symm)
  have N93 := Fr.snoc X93 N92 g_o
  have Z_ : n0 ≤ h93.size := by rw [W93.size]; exact Z_
  refine OwnGoW.st st93 ?_
  show OwnGoW p e below s Z own_EL _ _ _ T93 (mkF m 37 #[.val (.ref o), .val (.ref a), .val (.ref r), .val (.ref q)] [])
  exact OwnGoW.retV (s := s) (vm0 := T87.vm) X93 hS_ hk_ e93 hZ (own_hEL hw) CR hx hret hlk (hb hby d29_37) (by show Qrp3 Z o a t kc u0 u1 r q zc fmv h0 n0 _ T93.heap _; rw [e93]; exact ⟨rfl, N93, Kp, E_o, F2⟩) (by decide) (by decide)
def Qrp2 (Z : State) (o : Addr) (a : Addr) (t : Addr) (kc : ClassId) (u0 : Int32) (u1 : Int32) (r : Addr) (tr : Addr) (kr : ClassId) (x0 : Int32) (x1 : Int32) (zc : Int32) (fmv : Value) (h0 : Heap) (n0 : Nat) (v : Option Value) (h : Heap) (L : List Loc) : Prop := v = none ∧ Fr n0 L ∧ Keep h0 h [o] ∧ Exa Z h o "com/example/thorough_factfind/thoroughfactfind/foundation/section/RecordPath" ∧ ∃ (x y : Addr) (kb : ClassId), Fld Z h o "com/example/thorough_factfind/thoroughfactfind/foundation/section/RecordPath" "_parameter" "Ljava/lang/String;" (.ref x) ∧ Exa Z h x "java/lang/String" ∧ Fld Z h x "java/lang/String" "coder" "B" (.int (0 : Int32)) ∧ Fld Z h x "java/lang/String" "value" "[B" (.ref y) ∧ Arv Z h y kb .byte (4 : Int32) [(.int x0), (.int x1), (.int (73 : Int32)), (.int (100 : Int32))] (.int (0 : Int32)) ∧ h0.size ≤ x ∧ h0.size ≤ y
set_option maxRecDepth 65536 in
set_option maxHeartbeats 40000000 in
theorem rmrp2 (l : Launch) (Z : State) (a0 : Array Value) (hw : ∀ d ∈ tables_1, d.before a0 Z = true) (ws : List Jvm.Cond) (o : Addr) (a : Addr) (t : Addr) (kc : ClassId) (u0 : Int32) (u1 : Int32) (r : Addr) (tr : Addr) (kr : ClassId) (x0 : Int32) (x1 : Int32) (zc : Int32) (fmv : Value) (h0 : Heap) (n0 : Nat) (Z0 : n0 ≤ h0.size) (O_ : Old Z n0 h0) (S_CS : Sta Z Z.heap "java/lang/String" "COMPACT_STRINGS" "Z" (.int zc)) (P_CS : ¬ zc = (0 : Int32)) (S_SF : Sta Z Z.heap "jdk/internal/util/Preconditions" "SIOOBE_FORMATTER" "Ljava/util/function/BiFunction;" fmv) (rf_fmv : fmv.isRef = true) (E_o : Exa Z h0 o "com/example/thorough_factfind/thoroughfactfind/foundation/section/RecordPath") (F0 : Fld Z h0 o "com/example/thorough_factfind/thoroughfactfind/foundation/section/RecordPath" "_segment" "Ljava/lang/String;" .null) (F1 : Fld Z h0 o "com/example/thorough_factfind/thoroughfactfind/foundation/section/RecordPath" "_record" "Ljava/lang/String;" .null) (F2 : Fld Z h0 o "com/example/thorough_factfind/thoroughfactfind/foundation/section/RecordPath" "_parameter" "Ljava/lang/String;" .null) (g_o : n0 ≤ o) (E_a : Exa Z h0 a "java/lang/String") (Fc_a : Fld Z h0 a "java/lang/String" "coder" "B" (.int (0 : Int32))) (Fv_a : Fld Z h0 a "java/lang/String" "value" "[B" (.ref t)) (V_t : Arv Z h0 t kc .byte (2 : Int32) [(.int u0), (.int u1)] (.int (0 : Int32))) (E_r : Exa Z h0 r "java/lang/String") (Fc_r : Fld Z h0 r "java/lang/String" "coder" "B" (.int (0 : Int32))) (Fv_r : Fld Z h0 r "java/lang/String" "value" "[B" (.ref tr)) (V_tr : Arv Z h0 tr kr .byte (2 : Int32) [(.int x0), (.int x1)] (.int (0 : Int32))) (ne_a_o : a ≠ o) (ne_t_o : t ≠ o) (ne_r_o : r ≠ o) (ne_tr_o : tr ≠ o) :
    MetFree l (⟨"com/example/thorough_factfind/thoroughfactfind/foundation/section/RecordPath", "<init>", "(Ljava/lang/String;Ljava/lang/String;)V"⟩ : MethodName) (head1 (Jvm.Cond.code (⟨"com/example/thorough_factfind/thoroughfactfind/foundation/section/RecordPath", "<init>", "(Ljava/lang/String;Ljava/lang/String;)V"⟩ : MethodName) prog_35_method_1_code 3 none :: ws) ({ frames := 7, cells := 40, slots := 400, locals := 107 } : Room)) (fun as_ UU => as_ = #[(.ref o), (.ref a), (.ref r)] ∧ Z.Warmed39 UU.vm ∧ UU.heap = h0 ∧ CHv Z own_EL UU.vm h0) (fun _ _ _ _ _ => True) (fun _ UU oo UU' => ∃ vv LL, oo = .returned vv ∧ (Qrp2 Z o a t kc u0 u1 r tr kr x0 x1 zc fmv h0 n0) vv UU'.heap LL ∧ CHr Z own_EL UU.vm UU.heap UU'.vm UU'.heap ∧ ReturnedEndW UU oo UU' LL ({ frames := 7, cells := 40, slots := 400, locals := 107 } : Room).cells ({ frames := 7, cells := 40, slots := 400, locals := 107 } : Room).slots) := by
  refine own_metW (EL := own_EL) (plainFor_of_name pn_29) ?_
  intro p e s m below meth c s₁ X0 hx hby hml hret hlk hown hnm hZ e0 hS_ CR
  have hk_ := Nat.le_refl h0.size
  have N0 := Fr.nil n0
  have Z_ := Z0
  refine OwnGoW.cast (ef_rp2 m o a r) ?_
  show OwnGoW p e below s Z own_EL _ _ _ s₁ (mkF m 0 #[.val (.ref o), .val (.ref a), .val (.ref r)] [])
  have sf_o : Safe Z own_EL s.vm h0 o := Safe.exa hZ.alike E_o (by decide) (by decide)
  have Kp : Keep h0 h0 [o] := Keep.refl h0 [o]
  refine OwnGoW.st (fun _ kk => XS.aloadN X0.here hx rfl (hb hby d7_0) rfl rfl  kk) ?_
  show OwnGoW p e below s Z own_EL _ _ _ s₁ (mkF m 1 #[.val (.ref o), .val (.ref a), .val (.ref r)] [(.ref o)])
  refine OwnGoW.st (fun _ kk => XS.aloadN X0.here hx rfl (hb hby d7_1) rfl rfl  kk) ?_
  show OwnGoW p e below s Z own_EL _ _ _ s₁ (mkF m 2 #[.val (.ref o), .val (.ref a), .val (.ref r)] [(.ref a), (.ref o)])
  refine OwnGoW.st (fun _ kk => XS.aloadN X0.here hx rfl (hb hby d7_2) rfl rfl  kk) ?_
  show OwnGoW p e below s Z own_EL _ _ _ s₁ (mkF m 3 #[.val (.ref o), .val (.ref a), .val (.ref r)] [(.ref r), (.ref a), (.ref o)])
  obtain ⟨T94, h94, X94, e94, E94, A94, D94, -, st94⟩ := newO X0 hx hZ hown (hw _ (List.mem_of_getElem? (i := 36) rfl)) (hw _ (List.mem_of_getElem? (i := 37) rfl)) (hw _ (List.mem_of_getElem? (i := 38) rfl)) e0 (g := (mkF m 3 #[.val (.ref o), .val (.ref a), .val (.ref r)] [(.ref r), (.ref a), (.ref o)])) rfl (hb hby d7_3) (by decide) (by decide)
  obtain ⟨b94, g94⟩ : ∃ z, z = h0.size := ⟨_, rfl⟩
  rw [← g94] at A94 D94 st94
  have ne_o_b94 : o ≠ b94 := Nat.ne_of_lt (Nat.lt_of_lt_of_le E_o.lt (Nat.le_of_eq g94.symm))
  have ne_a_b94 : a ≠ b94 := Nat.ne_of_lt (Nat.lt_of_lt_of_le E_a.lt (Nat.le_of_eq g94.symm))
  have ne_t_b94 : t ≠ b94 := Nat.ne_of_lt (Nat.lt_of_lt_of_le V_t.lt (Nat.le_of_eq g94.symm))
  have ne_r_b94 : r ≠ b94 := Nat.ne_of_lt (Nat.lt_of_lt_of_le E_r.lt (Nat.le_of_eq g94.symm))
  have ne_tr_b94 : tr ≠ b94 := Nat.ne_of_lt (Nat.lt_of_lt_of_le V_tr.lt (Nat.le_of_eq g94.symm))
  have g_b94 : n0 ≤ b94 := Nat.le_trans Z_ (Nat.le_of_eq g94.symm)
  have sf_b94 : Safe Z own_EL s.vm h0 b94 := Safe.new (Nat.le_of_eq g94.symm)
  have sz_b94 : h0.size ≤ b94 := Nat.le_trans Kp.1 (Nat.le_of_eq g94.symm)
  have E_o := E_o.ext E94
  have F0 := F0.ext E94
  have F1 := F1.ext E94
  have F2 := F2.ext E94
  have E_a := E_a.ext E94
  have Fc_a := Fc_a.ext E94
  have Fv_a := Fv_a.ext E94
  have V_t := V_t.ext E94
  have E_r := E_r.ext E94
  have Fc_r := Fc_r.ext E94
  have Fv_r := Fv_r.ext E94
  have V_tr := V_tr.ext E94
  have O_ := O_.ext E94
  have Kp := Kp.ext E94
  have sf_o := Safe.ext E94 CR.1 sf_o
  have sf_b94 := Safe.ext E94 CR.1 sf_b94
  have CR := CR.trans (CHr.ext E94 CR.1)
  have hk_ := Nat.le_trans hk_ E94.1
  have Z_ : n0 ≤ h94.size := Nat.le_trans Z_ E94.1
  have E_b94 := A94
  have F_value_b94 : Fld Z h94 b94 "java/lang/AbstractStringBuilder" "value" "[B" .null := D94 (Or.inl (hw _ (List.mem_of_getElem? (i := 51) rfl))) (ty := (.array .byte)) (by decide)
  have F_coder_b94 : Fld Z h94 b94 "java/lang/AbstractStringBuilder" "coder" "B" (.int (0 : Int32)) := D94 (Or.inl (hw _ (List.mem_of_getElem? (i := 53) rfl))) (ty := .byte) (by decide)
  have F_count_b94 : Fld Z h94 b94 "java/lang/AbstractStringBuilder" "count" "I" (.int (0 : Int32)) := D94 (Or.inl (hw _ (List.mem_of_getElem? (i := 75) rfl))) (ty := .int) (by decide)
  refine OwnGoW.st st94 ?_
  show OwnGoW p e below s Z own_EL _ _ _ T94 (mkF m 6 #[.val (.ref o), .val (.ref a), .val (.ref r)] [(.ref b94), (.ref r), (.ref a), (.ref o)])
  refine OwnGoW.st (fun _ kk => XS.dup X94.here hx rfl (hb hby d7_6) rfl rfl kk) ?_
  show OwnGoW p e below s Z own_EL _ _ _ T94 (mkF m 7 #[.val (.ref o), .val (.ref a), .val (.ref r)] [(.ref b94), (.ref b94), (.ref r), (.ref a), (.ref o)])
  obtain ⟨_, _, ⟨T95, L95, k95, n95⟩, -, X95, ⟨Lc95, hQ95, l95, y95, z95⟩, st95⟩ := X94.specialBack hx (y := (⟨"java/lang/StringBuilder", "<init>", "()V"⟩ : MethodName)) rfl hown (mvT hZ (hw _ (List.mem_of_getElem? (i := 39) rfl))) (mvT hZ (hw _ (List.mem_of_getElem? (i := 40) rfl))) (mvT hZ (hw _ (List.mem_of_getElem? (i := 41) rfl))) (by decide) (backOf (W := 4) (rmsbI l Z a0 hw [] b94 zc h94 n0 Z_ O_ S_CS P_CS E_b94 F_value_b94 F_coder_b94 F_count_b94 g_b94) hZ (hw _ (List.mem_of_getElem? (i := 41) rfl)) (hw _ (List.mem_of_getElem? (i := 38) rfl)) (by decide) (by decide)) (g := (mkF m 7 #[.val (.ref o), .val (.ref a), .val (.ref r)] [(.ref b94), (.ref b94), (.ref r), (.ref a), (.ref o)])) rfl (by rw [hml]; rfl) (Steps.refl _) (a := b94) (argsL := []) (rest := [(.ref b94), (.ref r), (.ref a), (.ref o)]) (lenOf pd_16 rfl) rfl (by show 2 * 0 + _ ≤ _; exact Nat.le_of_eq rfl) (hb hby d7_7) (fun _ _ => ⟨rfl, e94, (by decide : 1 + 1 ≤ _), (by decide : 4 + 16 ≤ _)⟩)
  dsimp only [Pt.U, Pt.locs, Pt.cells, Pt.slots] at X95 l95 y95 z95 st95 hQ95
  subst l95 y95 z95
  obtain ⟨rfl, N95q, K95, Eo95, Fc95, Fn95, d95, kd95, Fv95, V95, zd95⟩ := hQ95
  have N95 := Fr.app N0 N95q
  have ne_o_d95 : o ≠ d95 := Nat.ne_of_lt (Nat.lt_of_lt_of_le E_o.lt zd95)
  have ne_a_d95 : a ≠ d95 := Nat.ne_of_lt (Nat.lt_of_lt_of_le E_a.lt zd95)
  have ne_t_d95 : t ≠ d95 := Nat.ne_of_lt (Nat.lt_of_lt_of_le V_t.lt zd95)
  have ne_r_d95 : r ≠ d95 := Nat.ne_of_lt (Nat.lt_of_lt_of_le E_r.lt zd95)
  have ne_tr_d95 : tr ≠ d95 := Nat.ne_of_lt (Nat.lt_of_lt_of_le V_tr.lt zd95)
  have ne_b94_d95 : b94 ≠ d95 := Nat.ne_of_lt (Nat.lt_of_lt_of_le E_b94.lt zd95)
  have g_d95 : n0 ≤ d95 := Nat.le_trans Z_ zd95
  have sz_d95 : h0.size ≤ d95 := Nat.le_trans Kp.1 zd95
  have sf_d95 : Safe Z own_EL s.vm h94 d95 := Safe.new zd95
  have Z_ : n0 ≤ T95.heap.size := Nat.le_trans Z_ K95.1
  have E_o := E_o.keep K95
  have F0 := F0.keep K95 (ninS ne_o_b94 nin0)
  have F1 := F1.keep K95 (ninS ne_o_b94 nin0)
  have F2 := F2.keep K95 (ninS ne_o_b94 nin0)
  have E_a := E_a.keep K95
  have Fc_a := Fc_a.keep K95 (ninS ne_a_b94 nin0)
  have Fv_a := Fv_a.keep K95 (ninS ne_a_b94 nin0)
  have V_t := V_t.keep K95 (ninS ne_t_b94 nin0)
  have E_r := E_r.keep K95
  have Fc_r := Fc_r.keep K95 (ninS ne_r_b94 nin0)
  have Fv_r := Fv_r.keep K95 (ninS ne_r_b94 nin0)
  have V_tr := V_tr.keep K95 (ninS ne_tr_b94 nin0)
  have E_b94 := E_b94.keep K95
  have O_ := O_.keep K95 (allS g_b94 all0)
  have Kp := Kp.trans K95 (allS (Or.inr sz_b94) all0)
  have sf_o' := Safe.keep K95 (sfS sf_b94 sf0) CR.1 sf_o
  have sf_d95' := Safe.keep K95 (sfS sf_b94 sf0) CR.1 sf_d95
  have sf_b94' := Safe.keep K95 (sfS sf_b94 sf0) CR.1 sf_b94
  have CR := CR.trans (CHr.keep K95 (sfS sf_b94 sf0) CR.1)
  have hk_ := Nat.le_trans hk_ K95.1
  have sf_o := sf_o'
  have sf_b94 := sf_b94'
  have sf_d95 := sf_d95'
  refine OwnGoW.st (fun _ kk => st95.trans kk) ?_
  show OwnGoW p e below s Z own_EL _ _ _ T95 (mkF m 10 #[.val (.ref o), .val (.ref a), .val (.ref r)] [(.ref b94), (.ref r), (.ref a), (.ref o)])
  refine OwnGoW.st (fun _ kk => XS.aloadN X95.here hx rfl (hb hby d7_10) rfl rfl  kk) ?_
  show OwnGoW p e below s Z own_EL _ _ _ T95 (mkF m 11 #[.val (.ref o), .val (.ref a), .val (.ref r)] [(.ref r), (.ref b94), (.ref r), (.ref a), (.ref o)])
  obtain ⟨cq96, kq96, q96a, q96b, q96c⟩ := isOf hZ rfl E_b94
  obtain ⟨_, _, ⟨T96, L96, k96, n96⟩, -, X96, ⟨Lc96, hQ96, l96, y96, z96⟩, st96⟩ := X95.virtualBack hx (y := (⟨"java/lang/StringBuilder", "append", "(Ljava/lang/String;)Ljava/lang/StringBuilder;"⟩ : MethodName)) (z := (⟨"java/lang/StringBuilder", "append", "(Ljava/lang/String;)Ljava/lang/StringBuilder;"⟩ : MethodName)) hown (mvT hZ (hw _ (List.mem_of_getElem? (i := 54) rfl))) (mvT hZ (hw _ (List.mem_of_getElem? (i := 55) rfl))) (notFace_of_selects (args := #[]) (mvT hZ (hw _ (List.mem_of_getElem? (i := 57) rfl)))) (mvT hZ (hw _ (List.mem_of_getElem? (i := 57) rfl))) (mvT hZ (hw _ (List.mem_of_getElem? (i := 56) rfl))) (by decide) (backOf (W := 3) (rmsbA l Z a0 hw [] b94 r tr kr (2 : Int32) [(.int x0), (.int x1)] d95 kd95 [] [(.int x0), (.int x1)] (0 : Int32) zc T95.heap n0 Z_ O_ S_CS P_CS E_b94 Fv95 Fc95 Fn95 V95 E_r Fc_r Fv_r V_tr (by decide) (by decide) (fun j hj => by match j, hj with | 0, _ => rfl | 1, _ => rfl | 2, _ => rfl | 3, _ => rfl | 4, _ => rfl | 5, _ => rfl | 6, _ => rfl | 7, _ => rfl | 8, _ => rfl | 9, _ => rfl | 10, _ => rfl | 11, _ => rfl | 12, _ => rfl | 13, _ => rfl | 14, _ => rfl | 15, _ => rfl | _ + 16, h => exact absurd h (by omega)) (by decide) g_b94 g_d95 ne_b94_d95) hZ (hw _ (List.mem_of_getElem? (i := 58) rfl)) (hw _ (List.mem_of_getElem? (i := 38) rfl)) (by decide) (by decide)) q96a q96c (g := (mkF m 11 #[.val (.ref o), .val (.ref a), .val (.ref r)] [(.ref r), (.ref b94), (.ref r), (.ref a), (.ref o)])) rfl (by rw [hml]; rfl) (Steps.refl _) (argsL := [(.ref r)]) (rest := [(.ref r), (.ref a), (.ref o)]) (lenOf pd_17 rfl) rfl (by show 2 * 0 + _ ≤ _; exact Nat.le_of_eq rfl) (hb hby d7_11) (fun _ _ => ⟨rfl, rfl, (by decide : 2 + 0 ≤ _), (by decide : 20 + 0 ≤ _)⟩)
  dsimp only [Pt.U, Pt.locs, Pt.cells, Pt.slots] at X96 l96 y96 z96 st96 hQ96
  subst l96 y96 z96
  obtain ⟨rfl, N96q, K96, Eo96, Fv96, Fc96, Fn96, V96⟩ := hQ96
  have N96 := Fr.app N95 N96q
  have Z_ : n0 ≤ T96.heap.size := Nat.le_trans Z_ K96.1
  have E_o := E_o.keep K96
  have F0 := F0.keep K96 (ninS ne_o_b94 (ninS ne_o_d95 nin0))
  have F1 := F1.keep K96 (ninS ne_o_b94 (ninS ne_o_d95 nin0))
  have F2 := F2.keep K96 (ninS ne_o_b94 (ninS ne_o_d95 nin0))
  have E_a := E_a.keep K96
  have Fc_a := Fc_a.keep K96 (ninS ne_a_b94 (ninS ne_a_d95 nin0))
  have Fv_a := Fv_a.keep K96 (ninS ne_a_b94 (ninS ne_a_d95 nin0))
  have V_t := V_t.keep K96 (ninS ne_t_b94 (ninS ne_t_d95 nin0))
  have E_r := E_r.keep K96
  have Fc_r := Fc_r.keep K96 (ninS ne_r_b94 (ninS ne_r_d95 nin0))
  have Fv_r := Fv_r.keep K96 (ninS ne_r_b94 (ninS ne_r_d95 nin0))
  have V_tr := V_tr.keep K96 (ninS ne_tr_b94 (ninS ne_tr_d95 nin0))
  have E_b94 := E_b94.keep K96
  have O_ := O_.keep K96 (allS g_b94 (allS g_d95 all0))
  have Kp := Kp.trans K96 (allS (Or.inr sz_b94) (allS (Or.inr sz_d95) all0))
  have sf_o' := Safe.keep K96 (sfS sf_b94 (sfS sf_d95 sf0)) CR.1 sf_o
  have sf_b94' := Safe.keep K96 (sfS sf_b94 (sfS sf_d95 sf0)) CR.1 sf_b94
  have sf_d95' := Safe.keep K96 (sfS sf_b94 (sfS sf_d95 sf0)) CR.1 sf_d95
  have CR := CR.trans (CHr.keep K96 (sfS sf_b94 (sfS sf_d95 sf0)) CR.1)
  have hk_ := Nat.le_trans hk_ K96.1
  have sf_o := sf_o'
  have sf_b94 := sf_b94'
  have sf_d95 := sf_d95'
  refine OwnGoW.st (fun _ kk => st96.trans kk) ?_
  show OwnGoW p e below s Z own_EL _ _ _ T96 (mkF m 14 #[.val (.ref o), .val (.ref a), .val (.ref r)] [(.ref b94), (.ref r), (.ref a), (.ref o)])
  have Fn96 : Fld Z T96.heap b94 "java/lang/AbstractStringBuilder" "count" "I" (.int (2 : Int32)) := Fn96
  obtain ⟨a97, T97, h97, k1_97, b97, kc97, X97, e97, E97, hS_, hkN, hZ, hown, Ea, Fc, Fv, Vb, -, -, CN, -, sN, st97⟩ := ldcCH (s := s) (vm0 := s.vm) X96 hx hZ hown (hw _ (List.mem_of_getElem? (i := 101) rfl)) (own_wS hw) rfl hS_ hk_ (own_hEL hw) (by decide) CR.1 (vs := [(.int (73 : Int32)), (.int (100 : Int32))]) (z := (2 : Int32)) ⟨by decide, rfl⟩ (by decide) (by decide) (g := (mkF m 14 #[.val (.ref o), .val (.ref a), .val (.ref r)] [(.ref b94), (.ref r), (.ref a), (.ref o)])) rfl (hb hby d7_14) (n := 8) (by decide) (by decide) (by decide) (by decide)
  have lt_o : o < T96.heap.size := E_o.lt
  have lt_b94 : b94 < T96.heap.size := E_b94.lt
  have lt_d95 : d95 < T96.heap.size := V96.lt
  have E_o := E_o.ext E97
  have F0 := F0.ext E97
  have F1 := F1.ext E97
  have F2 := F2.ext E97
  have E_a := E_a.ext E97
  have Fc_a := Fc_a.ext E97
  have Fv_a := Fv_a.ext E97
  have V_t := V_t.ext E97
  have E_r := E_r.ext E97
  have Fc_r := Fc_r.ext E97
  have Fv_r := Fv_r.ext E97
  have V_tr := V_tr.ext E97
  have E_b94 := E_b94.ext E97
  have Fv96 := Fv96.ext E97
  have Fc96 := Fc96.ext E97
  have Fn96 := Fn96.ext E97
  have V96 := V96.ext E97
  have O_ := O_.ext E97
  have Kp := Kp.ext E97
  have sf_o := CN.safe lt_o sf_o
  have sf_b94 := CN.safe lt_b94 sf_b94
  have sf_d95 := CN.safe lt_d95 sf_d95
  have CR := CR.trans CN
  have hk_ := hkN
  have Z_ : n0 ≤ h97.size := Nat.le_trans Z_ E97.1
  have ne_o_a97 := (sN _ sf_o).1
  have ne_o_b97 := (sN _ sf_o).2
  have ne_b94_a97 := (sN _ sf_b94).1
  have ne_b94_b97 := (sN _ sf_b94).2
  have ne_d95_a97 := (sN _ sf_d95).1
  have ne_d95_b97 := (sN _ sf_d95).2
  have E_a97 := Ea
  have Fc_a97 := Fc
  have Fv_a97 := Fv
  have V_b97 := Vb
  refine OwnGoW.st st97 ?_
  show OwnGoW p e below s Z own_EL _ _ _ T97 (mkF m 16 #[.val (.ref o), .val (.ref a), .val (.ref r)] [(.ref a97), (.ref b94), (.ref r), (.ref a), (.ref o)])
  obtain ⟨cq98, kq98, q98a, q98b, q98c⟩ := isOf hZ e97 E_b94
  obtain ⟨_, _, ⟨T98, L98, k98, n98⟩, -, X98, ⟨Lc98, hQ98, l98, y98, z98⟩, st98⟩ := X97.virtualBack hx (y := (⟨"java/lang/StringBuilder", "append", "(Ljava/lang/String;)Ljava/lang/StringBuilder;"⟩ : MethodName)) (z := (⟨"java/lang/StringBuilder", "append", "(Ljava/lang/String;)Ljava/lang/StringBuilder;"⟩ : MethodName)) hown (mvT hZ (hw _ (List.mem_of_getElem? (i := 54) rfl))) (mvT hZ (hw _ (List.mem_of_getElem? (i := 55) rfl))) (notFace_of_selects (args := #[]) (mvT hZ (hw _ (List.mem_of_getElem? (i := 57) rfl)))) (mvT hZ (hw _ (List.mem_of_getElem? (i := 57) rfl))) (mvT hZ (hw _ (List.mem_of_getElem? (i := 56) rfl))) (by decide) (backOf (W := 3) (rmsbA l Z a0 hw [] b94 a97 b97 kc97 (2 : Int32) [(.int (73 : Int32)), (.int (100 : Int32))] d95 kd95 [(.int x0), (.int x1)] [(.int x0), (.int x1), (.int (73 : Int32)), (.int (100 : Int32))] (2 : Int32) zc h97 n0 Z_ O_ S_CS P_CS E_b94 Fv96 Fc96 Fn96 V96 E_a97 Fc_a97 Fv_a97 V_b97 (by decide) (by decide) (fun j hj => by match j, hj with | 0, _ => rfl | 1, _ => rfl | 2, _ => rfl | 3, _ => rfl | 4, _ => rfl | 5, _ => rfl | 6, _ => rfl | 7, _ => rfl | 8, _ => rfl | 9, _ => rfl | 10, _ => rfl | 11, _ => rfl | 12, _ => rfl | 13, _ => rfl | 14, _ => rfl | 15, _ => rfl | _ + 16, h => exact absurd h (by omega)) (by decide) g_b94 g_d95 ne_b94_d95) hZ (hw _ (List.mem_of_getElem? (i := 58) rfl)) (hw _ (List.mem_of_getElem? (i := 38) rfl)) (by decide) (by decide)) q98a q98c (g := (mkF m 16 #[.val (.ref o), .val (.ref a), .val (.ref r)] [(.ref a97), (.ref b94), (.ref r), (.ref a), (.ref o)])) rfl (by rw [hml]; rfl) (Steps.refl _) (argsL := [(.ref a97)]) (rest := [(.ref r), (.ref a), (.ref o)]) (lenOf pd_17 rfl) rfl (by show 2 * 0 + _ ≤ _; exact Nat.le_of_eq rfl) (hb hby d7_16) (fun _ _ => ⟨rfl, e97, (by decide : 4 + 0 ≤ _), (by decide : 32 + 0 ≤ _)⟩)
  dsimp only [Pt.U, Pt.locs, Pt.cells, Pt.slots] at X98 l98 y98 z98 st98 hQ98
  subst l98 y98 z98
  obtain ⟨rfl, N98q, K98, Eo98, Fv98, Fc98, Fn98, V98⟩ := hQ98
  have N98 := Fr.app N96 N98q
  have Z_ : n0 ≤ T98.heap.size := Nat.le_trans Z_ K98.1
  have E_o := E_o.keep K98
  have F0 := F0.keep K98 (ninS ne_o_b94 (ninS ne_o_d95 nin0))
  have F1 := F1.keep K98 (ninS ne_o_b94 (ninS ne_o_d95 nin0))
  have F2 := F2.keep K98 (ninS ne_o_b94 (ninS ne_o_d95 nin0))
  have E_a := E_a.keep K98
  have Fc_a := Fc_a.keep K98 (ninS ne_a_b94 (ninS ne_a_d95 nin0))
  have Fv_a := Fv_a.keep K98 (ninS ne_a_b94 (ninS ne_a_d95 nin0))
  have V_t := V_t.keep K98 (ninS ne_t_b94 (ninS ne_t_d95 nin0))
  have E_r := E_r.keep K98
  have Fc_r := Fc_r.keep K98 (ninS ne_r_b94 (ninS ne_r_d95 nin0))
  have Fv_r := Fv_r.keep K98 (ninS ne_r_b94 (ninS ne_r_d95 nin0))
  have V_tr := V_tr.keep K98 (ninS ne_tr_b94 (ninS ne_tr_d95 nin0))
  have E_b94 := E_b94.keep K98
  have E_a97 := E_a97.keep K98
  have Fc_a97 := Fc_a97.keep K98 (ninS (Ne.symm ne_b94_a97) (ninS (Ne.symm ne_d95_a97) nin0))
  have Fv_a97 := Fv_a97.keep K98 (ninS (Ne.symm ne_b94_a97) (ninS (Ne.symm ne_d95_a97) nin0))
  have V_b97 := V_b97.keep K98 (ninS (Ne.symm ne_b94_b97) (ninS (Ne.symm ne_d95_b97) nin0))
  have O_ := O_.keep K98 (allS g_b94 (allS g_d95 all0))
  have Kp := Kp.trans K98 (allS (Or.inr sz_b94) (allS (Or.inr sz_d95) all0))
  have sf_o' := Safe.keep K98 (sfS sf_b94 (sfS sf_d95 sf0)) CR.1 sf_o
  have sf_b94' := Safe.keep K98 (sfS sf_b94 (sfS sf_d95 sf0)) CR.1 sf_b94
  have sf_d95' := Safe.keep K98 (sfS sf_b94 (sfS sf_d95 sf0)) CR.1 sf_d95
  have CR := CR.trans (CHr.keep K98 (sfS sf_b94 (sfS sf_d95 sf0)) CR.1)
  have hk_ := Nat.le_trans hk_ K98.1
  have sf_o := sf_o'
  have sf_b94 := sf_b94'
  have sf_d95 := sf_d95'
  refine OwnGoW.st (fun _ kk => st98.trans kk) ?_
  show OwnGoW p e below s Z own_EL _ _ _ T98 (mkF m 19 #[.val (.ref o), .val (.ref a), .val (.ref r)] [(.ref b94), (.ref r), (.ref a), (.ref o)])
  have Fn98 : Fld Z T98.heap b94 "java/lang/AbstractStringBuilder" "count" "I" (.int (4 : Int32)) := Fn98
  obtain ⟨cq99, kq99, q99a, q99b, q99c⟩ := isOf hZ rfl E_b94
  obtain ⟨_, _, ⟨T99, L99, k99, n99⟩, -, X99, ⟨Lc99, hQ99, l99, y99, z99⟩, st99⟩ := X98.virtualBack hx (y := (⟨"java/lang/StringBuilder", "toString", "()Ljava/lang/String;"⟩ : MethodName)) (z := (⟨"java/lang/StringBuilder", "toString", "()Ljava/lang/String;"⟩ : MethodName)) hown (mvT hZ (hw _ (List.mem_of_getElem? (i := 104) rfl))) (mvT hZ (hw _ (List.mem_of_getElem? (i := 105) rfl))) (notFace_of_selects (args := #[]) (mvT hZ (hw _ (List.mem_of_getElem? (i := 107) rfl)))) (mvT hZ (hw _ (List.mem_of_getElem? (i := 107) rfl))) (mvT hZ (hw _ (List.mem_of_getElem? (i := 106) rfl))) (by decide) (backOf (W := 3) (rmtoS4 l Z a0 hw [] b94 d95 kd95 [(.int x0), (.int x1), (.int (73 : Int32)), (.int (100 : Int32))] [(.int x0), (.int x1), (.int (73 : Int32)), (.int (100 : Int32))] zc T98.heap n0 Z_ O_ S_CS P_CS E_b94 Fv98 Fc98 Fn98 V98 (fun _ _ => rfl)) hZ (hw _ (List.mem_of_getElem? (i := 108) rfl)) (hw _ (List.mem_of_getElem? (i := 38) rfl)) (by decide) (by decide)) q99a q99c (g := (mkF m 19 #[.val (.ref o), .val (.ref a), .val (.ref r)] [(.ref b94), (.ref r), (.ref a), (.ref o)])) rfl (by rw [hml]; rfl) (Steps.refl _) (argsL := []) (rest := [(.ref r), (.ref a), (.ref o)]) (lenOf pd_18 rfl) rfl (by show 2 * 0 + _ ≤ _; exact Nat.le_of_eq rfl) (hb hby d7_19) (fun _ _ => ⟨rfl, rfl, (by decide : 4 + 2 ≤ _), (by decide : 32 + 8 ≤ _)⟩)
  dsimp only [Pt.U, Pt.locs, Pt.cells, Pt.slots] at X99 l99 y99 z99 st99 hQ99
  subst l99 y99 z99
  obtain ⟨x99, t99, kb99, rfl, N99q, K99, Ex99, Fxc99, Fxv99, V99, zx99, zt99⟩ := hQ99
  have N99 := Fr.app N98 N99q
  have ne_o_x99 : o ≠ x99 := Nat.ne_of_lt (Nat.lt_of_lt_of_le E_o.lt zx99)
  have ne_a_x99 : a ≠ x99 := Nat.ne_of_lt (Nat.lt_of_lt_of_le E_a.lt zx99)
  have ne_t_x99 : t ≠ x99 := Nat.ne_of_lt (Nat.lt_of_lt_of_le V_t.lt zx99)
  have ne_r_x99 : r ≠ x99 := Nat.ne_of_lt (Nat.lt_of_lt_of_le E_r.lt zx99)
  have ne_tr_x99 : tr ≠ x99 := Nat.ne_of_lt (Nat.lt_of_lt_of_le V_tr.lt zx99)
  have ne_b94_x99 : b94 ≠ x99 := Nat.ne_of_lt (Nat.lt_of_lt_of_le E_b94.lt zx99)
  have ne_a97_x99 : a97 ≠ x99 := Nat.ne_of_lt (Nat.lt_of_lt_of_le E_a97.lt zx99)
  have ne_b97_x99 : b97 ≠ x99 := Nat.ne_of_lt (Nat.lt_of_lt_of_le V_b97.lt zx99)
  have ne_d95_x99 : d95 ≠ x99 := Nat.ne_of_lt (Nat.lt_of_lt_of_le V98.lt zx99)
  have g_x99 : n0 ≤ x99 := Nat.le_trans Z_ zx99
  have sz_x99 : h0.size ≤ x99 := Nat.le_trans Kp.1 zx99
  have ne_o_t99 : o ≠ t99 := Nat.ne_of_lt (Nat.lt_of_lt_of_le E_o.lt zt99)
  have ne_a_t99 : a ≠ t99 := Nat.ne_of_lt (Nat.lt_of_lt_of_le E_a.lt zt99)
  have ne_t_t99 : t ≠ t99 := Nat.ne_of_lt (Nat.lt_of_lt_of_le V_t.lt zt99)
  have ne_r_t99 : r ≠ t99 := Nat.ne_of_lt (Nat.lt_of_lt_of_le E_r.lt zt99)
  have ne_tr_t99 : tr ≠ t99 := Nat.ne_of_lt (Nat.lt_of_lt_of_le V_tr.lt zt99)
  have ne_b94_t99 : b94 ≠ t99 := Nat.ne_of_lt (Nat.lt_of_lt_of_le E_b94.lt zt99)
  have ne_a97_t99 : a97 ≠ t99 := Nat.ne_of_lt (Nat.lt_of_lt_of_le E_a97.lt zt99)
  have ne_b97_t99 : b97 ≠ t99 := Nat.ne_of_lt (Nat.lt_of_lt_of_le V_b97.lt zt99)
  have ne_d95_t99 : d95 ≠ t99 := Nat.ne_of_lt (Nat.lt_of_lt_of_le V98.lt zt99)
  have g_t99 : n0 ≤ t99 := Nat.le_trans Z_ zt99
  have sz_t99 : h0.size ≤ t99 := Nat.le_trans Kp.1 zt99
  have Z_ : n0 ≤ T99.heap.size := Nat.le_trans Z_ K99.1
  have E_o := E_o.keep K99
  have F0 := F0.keep K99 nin0
  have F1 := F1.keep K99 nin0
  have F2 := F2.keep K99 nin0
  have E_a := E_a.keep K99
  have Fc_a := Fc_a.keep K99 nin0
  have Fv_a := Fv_a.keep K99 nin0
  have V_t := V_t.keep K99 nin0
  have E_r := E_r.keep K99
  have Fc_r := Fc_r.keep K99 nin0
  have Fv_r := Fv_r.keep K99 nin0
  have V_tr := V_tr.keep K99 nin0
  have E_b94 := E_b94.keep K99
  have E_a97 := E_a97.keep K99
  have Fc_a97 := Fc_a97.keep K99 nin0
  have Fv_a97 := Fv_a97.keep K99 nin0
  have V_b97 := V_b97.keep K99 nin0
  have Fv98 := Fv98.keep K99 nin0
  have Fc98 := Fc98.keep K99 nin0
  have Fn98 := Fn98.keep K99 nin0
  have V98 := V98.keep K99 nin0
  have O_ := O_.keep K99 all0
  have Kp := Kp.trans K99 all0
  have sf_o' := Safe.keep K99 sf0 CR.1 sf_o
  have sf_b94' := Safe.keep K99 sf0 CR.1 sf_b94
  have sf_d95' := Safe.keep K99 sf0 CR.1 sf_d95
  have CR := CR.trans (CHr.keep K99 sf0 CR.1)
  have hk_ := Nat.le_trans hk_ K99.1
  have sf_o := sf_o'
  have sf_b94 := sf_b94'
  have sf_d95 := sf_d95'
  refine OwnGoW.st (fun _ kk => st99.trans kk) ?_
  show OwnGoW p e below s Z own_EL _ _ _ T99 (mkF m 22 #[.val (.ref o), .val (.ref a), .val (.ref r)] [(.ref x99), (.ref r), (.ref a), (.ref o)])
  obtain ⟨_, _, ⟨T100, L100, k100, n100⟩, -, X100, hS100, hg100, ⟨Lc100, hQ100, l100, y100, z100, CN100⟩, st100⟩ := Stand.specialBackS (s := s.setVm T97.vm) X99 hx (y := (⟨"com/example/thorough_factfind/thoroughfactfind/foundation/section/RecordPath", "<init>", "(Ljava/lang/String;Ljava/lang/String;Ljava/lang/String;)V"⟩ : MethodName)) rfl hown (mvT hZ (hw _ (List.mem_of_getElem? (i := 149) rfl))) (mvT hZ (hw _ (List.mem_of_getElem? (i := 150) rfl))) (mvT hZ (hw _ (List.mem_of_getElem? (i := 151) rfl))) (by decide) (backOfSH (s := s) (vm0 := T97.vm) (W := 0) (rmrp3 l Z a0 hw [] o a t kc u0 u1 r x99 zc fmv T99.heap n0 Z_ O_ S_CS P_CS S_SF rf_fmv E_o F0 F1 F2 g_o E_a Fc_a Fv_a V_t) hZ (hw _ (List.mem_of_getElem? (i := 151) rfl)) (hw _ (List.mem_of_getElem? (i := 32) rfl)) (by decide) (by decide) (own_hEL hw) CR.1) (g := (mkF m 22 #[.val (.ref o), .val (.ref a), .val (.ref r)] [(.ref x99), (.ref r), (.ref a), (.ref o)])) rfl (by rw [hml]; rfl) (Steps.refl _) (a := o) (argsL := [(.ref a), (.ref r), (.ref x99)]) (rest := []) (lenOf pd_19 rfl) rfl (by show 2 * 0 + _ ≤ _; exact Nat.le_of_eq rfl) (hb hby d7_22) (fun _ _ => ⟨rfl, rfl, (by decide : 6 + 20 ≤ _), (by decide : 40 + 200 ≤ _)⟩)
  dsimp only [Pt.U, Pt.locs, Pt.cells, Pt.slots] at X100 hS100 hg100 l100 y100 z100 CN100 st100 hQ100
  subst l100 y100 z100
  obtain ⟨X100, hS_, hZ, hown⟩ := rebS hS_ (show _ ≤ T99.heap.size by rw [(rfl : T99.heap = T99.heap)]; exact hk_) X100 hS100 hg100 hZ hown
  obtain ⟨rfl, N100q, K100, Eo100, Fp100⟩ := hQ100
  have N100 := Fr.app N99 N100q
  have lt_o : o < T99.heap.size := E_o.lt
  have Z_ : n0 ≤ T100.heap.size := Nat.le_trans Z_ K100.1
  have E_o := E_o.keep K100
  have E_a := E_a.keep K100
  have Fc_a := Fc_a.keep K100 (ninS ne_a_o nin0)
  have Fv_a := Fv_a.keep K100 (ninS ne_a_o nin0)
  have V_t := V_t.keep K100 (ninS ne_t_o nin0)
  have E_r := E_r.keep K100
  have Fc_r := Fc_r.keep K100 (ninS ne_r_o nin0)
  have Fv_r := Fv_r.keep K100 (ninS ne_r_o nin0)
  have V_tr := V_tr.keep K100 (ninS ne_tr_o nin0)
  have E_b94 := E_b94.keep K100
  have E_a97 := E_a97.keep K100
  have Fc_a97 := Fc_a97.keep K100 (ninS (Ne.symm ne_o_a97) nin0)
  have Fv_a97 := Fv_a97.keep K100 (ninS (Ne.symm ne_o_a97) nin0)
  have V_b97 := V_b97.keep K100 (ninS (Ne.symm ne_o_b97) nin0)
  have Fv98 := Fv98.keep K100 (ninS (Ne.symm ne_o_b94) nin0)
  have Fc98 := Fc98.keep K100 (ninS (Ne.symm ne_o_b94) nin0)
  have Fn98 := Fn98.keep K100 (ninS (Ne.symm ne_o_b94) nin0)
  have V98 := V98.keep K100 (ninS (Ne.symm ne_o_d95) nin0)
  have Ex99 := Ex99.keep K100
  have Fxc99 := Fxc99.keep K100 (ninS (Ne.symm ne_o_x99) nin0)
  have Fxv99 := Fxv99.keep K100 (ninS (Ne.symm ne_o_x99) nin0)
  have V99 := V99.keep K100 (ninS (Ne.symm ne_o_t99) nin0)
  have O_ := O_.keep K100 (allS g_o all0)
  have Kp := Kp.trans K100 (allS (Or.inl (List.mem_of_getElem? (i := 0) rfl)) all0)
  have sf_o := CN100.safe lt_o sf_o
  have CR := CR.trans CN100
  have hk_ := Nat.le_refl T100.heap.size
  refine OwnGoW.st (fun _ kk => st100.trans kk) ?_
  show OwnGoW p e below s Z own_EL _ _ _ T100 (mkF m 25 #[.val (.ref o), .val (.ref a), .val (.ref r)] [])
  exact OwnGoW.retV (s := s) (vm0 := T100.vm) X100 hS_ hk_ rfl hZ (own_hEL hw) CR hx hret hlk (hb hby d7_25) (by show Qrp2 Z o a t kc u0 u1 r tr kr x0 x1 zc fmv h0 n0 _ T100.heap _; exact ⟨rfl, N100, Kp, Eo100, x99, t99, kb99, Fp100, Ex99, Fxc99, Fxv99, V99, sz_x99, sz_t99⟩) (by decide) (by decide)
def Qpar (Z : State) (o : Addr) (q : Addr) (h0 : Heap) (n0 : Nat) (v : Option Value) (h : Heap) (L : List Loc) : Prop := v = some (.ref q) ∧ Fr n0 L ∧ h = h0
set_option maxRecDepth 65536 in
set_option maxHeartbeats 40000000 in
theorem rmpar (l : Launch) (Z : State) (a0 : Array Value) (hw : ∀ d ∈ tables_1, d.before a0 Z = true) (ws : List Jvm.Cond) (o : Addr) (q : Addr) (h0 : Heap) (n0 : Nat) (Z0 : n0 ≤ h0.size) (F : Fld Z h0 o "com/example/thorough_factfind/thoroughfactfind/foundation/section/RecordPath" "_parameter" "Ljava/lang/String;" (.ref q)) :
    MetFree l (⟨"com/example/thorough_factfind/thoroughfactfind/foundation/section/RecordPath", "parameter", "()Ljava/lang/String;"⟩ : MethodName) (head1 (Jvm.Cond.code (⟨"com/example/thorough_factfind/thoroughfactfind/foundation/section/RecordPath", "parameter", "()Ljava/lang/String;"⟩ : MethodName) prog_35_method_10_code 1 (some (.object "java/lang/String")) :: ws) ({ frames := 0, cells := 0, slots := 0, locals := 0 } : Room)) (fun as_ UU => as_ = #[(.ref o)] ∧ Z.Warmed39 UU.vm ∧ UU.heap = h0) (fun _ _ _ _ _ => True) (fun _ UU oo UU' => ∃ vv LL, oo = .returned vv ∧ (Qpar Z o q h0 n0) vv UU'.heap LL ∧ FrameEnd UU oo UU' LL ({ frames := 0, cells := 0, slots := 0, locals := 0 } : Room).cells ({ frames := 0, cells := 0, slots := 0, locals := 0 } : Room).slots) := by
  refine own_met (plainFor_of_name pn_29) ?_
  intro p e s m below meth c s₁ X0 hx hby hml hret hlk hown hnm hZ e0
  have N0 := Fr.nil n0
  have Z_ := Z0
  refine OwnGo.cast (ef_par m o) ?_
  show OwnGo p e below s _ _ _ s₁ (mkF m 0 #[.val (.ref o)] [])
  refine OwnGo.st (fun _ kk => XS.aloadN X0.here hx rfl (hb hby d30_0) rfl rfl  kk) ?_
  show OwnGo p e below s _ _ _ s₁ (mkF m 1 #[.val (.ref o)] [(.ref o)])
  obtain ⟨T101, X101, e101, st101⟩ := getF X0 hx hZ hown (host := "") (Or.inl (hw _ (List.mem_of_getElem? (i := 158) rfl))) Via.refl e0 F (g := (mkF m 1 #[.val (.ref o)] [(.ref o)])) rfl rfl (hb hby d30_1)
  refine OwnGo.st st101 ?_
  show OwnGo p e below s _ _ _ T101 (mkF m 4 #[.val (.ref o)] [(.ref q)])
  refine OwnGo.st (fun _ kk => XS.ifnonnullYes X101.here hx rfl (pc0 := 4) (pc' := 37) rfl (hb hby d30_4) rfl (by decide) (by decide) kk) ?_
  show OwnGo p e below s _ _ _ T101 (mkF m 37 #[.val (.ref o)] [])
  refine OwnGo.st (fun _ kk => XS.aloadN X101.here hx rfl (hb hby d30_37) rfl rfl  kk) ?_
  show OwnGo p e below s _ _ _ T101 (mkF m 38 #[.val (.ref o)] [(.ref o)])
  obtain ⟨T102, X102, e102, st102⟩ := getF X101 hx hZ hown (host := "") (Or.inl (hw _ (List.mem_of_getElem? (i := 158) rfl))) Via.refl e101 F (g := (mkF m 38 #[.val (.ref o)] [(.ref o)])) rfl rfl (hb hby d30_38)
  refine OwnGo.st st102 ?_
  show OwnGo p e below s _ _ _ T102 (mkF m 41 #[.val (.ref o)] [(.ref q)])
  exact OwnGo.ret X102 hx hret hlk rfl (Or.inr (Or.inr (Or.inr (Or.inr ⟨rfl, rfl, rfl⟩)))) (hb hby d30_41) (by show Qpar Z o q h0 n0 _ T102.heap _; rw [e102]; exact ⟨rfl, N0, rfl⟩) (by decide) (by decide)
def Qeq (Z : State) (q : Addr) (h0 : Heap) (n0 : Nat) (v : Option Value) (h : Heap) (L : List Loc) : Prop := v = some (.int (1 : Int32)) ∧ Fr n0 L ∧ h = h0
set_option maxRecDepth 65536 in
set_option maxHeartbeats 40000000 in
theorem rmeq (l : Launch) (Z : State) (a0 : Array Value) (hw : ∀ d ∈ tables_1, d.before a0 Z = true) (ws : List Jvm.Cond) (q : Addr) (h0 : Heap) (n0 : Nat) (Z0 : n0 ≤ h0.size) :
    MetFree l (⟨"java/lang/String", "equals", "(Ljava/lang/Object;)Z"⟩ : MethodName) (head1 (Jvm.Cond.code (⟨"java/lang/String", "equals", "(Ljava/lang/Object;)Z"⟩ : MethodName) jdk_42_method_66_code 3 (some .boolean) :: ws) ({ frames := 0, cells := 0, slots := 0, locals := 0 } : Room)) (fun as_ UU => as_ = #[(.ref q), (.ref q)] ∧ Z.Warmed39 UU.vm ∧ UU.heap = h0) (fun _ _ _ _ _ => True) (fun _ UU oo UU' => ∃ vv LL, oo = .returned vv ∧ (Qeq Z q h0 n0) vv UU'.heap LL ∧ FrameEnd UU oo UU' LL ({ frames := 0, cells := 0, slots := 0, locals := 0 } : Room).cells ({ frames := 0, cells := 0, slots := 0, locals := 0 } : Room).slots) := by
  refine own_met (plainFor_of_name pn_13) ?_
  intro p e s m below meth c s₁ X0 hx hby hml hret hlk hown hnm hZ e0
  have N0 := Fr.nil n0
  have Z_ := Z0
  refine OwnGo.cast (ef_eq m q q) ?_
  show OwnGo p e below s _ _ _ s₁ (mkF m 0 #[.val (.ref q), .val (.ref q), .unset] [])
  refine OwnGo.st (fun _ kk => XS.aloadN X0.here hx rfl (hb hby d36_0) rfl rfl  kk) ?_
  show OwnGo p e below s _ _ _ s₁ (mkF m 1 #[.val (.ref q), .val (.ref q), .unset] [(.ref q)])
  refine OwnGo.st (fun _ kk => XS.aloadN X0.here hx rfl (hb hby d36_1) rfl rfl  kk) ?_
  show OwnGo p e below s _ _ _ s₁ (mkF m 2 #[.val (.ref q), .val (.ref q), .unset] [(.ref q), (.ref q)])
  refine OwnGo.st (fun _ kk => Jvm.RoadKit.acmp (g := (mkF m 2 #[.val (.ref q), .val (.ref q), .unset] [(.ref q), (.ref q)])) X0 hx rfl rfl rfl (pc0 := 2) (pc' := 5) (same := true) rfl (hb hby d36_2) rfl (decide_eq_true rfl) (by decide) (by decide) kk) ?_
  show OwnGo p e below s _ _ _ s₁ (mkF m 5 #[.val (.ref q), .val (.ref q), .unset] [])
  refine OwnGo.st (fun _ kk => XS.iconst X0.here hx rfl (hb hby d36_5) kk) ?_
  show OwnGo p e below s _ _ _ s₁ (mkF m 6 #[.val (.ref q), .val (.ref q), .unset] [(.int (1 : Int32))])
  exact OwnGo.retN X0 hx (t := .boolean) hret hlk (by simp) (hb hby d36_6) (by show Qeq Z q h0 n0 _ s₁.heap _; rw [e0]; exact ⟨rfl, N0, rfl⟩) (by decide) (by decide)
def Q0 (Z : State) (p1 : Int32) (p2 : Int32) (p3 : Int32) (p4 : Int32) (zc : Int32) (fmv : Value) (h0 : Heap) (n0 : Nat) (v : Option Value) (h : Heap) (L : List Loc) : Prop := v = some (.int (1 : Int32)) ∧ Fr n0 L
set_option maxRecDepth 65536 in
set_option maxHeartbeats 40000000 in
theorem rm0 (l : Launch) (Z : State) (a0 : Array Value) (hw : ∀ d ∈ tables_1, d.before a0 Z = true) (ws : List Jvm.Cond) (p1 : Int32) (p2 : Int32) (p3 : Int32) (p4 : Int32) (zc : Int32) (fmv : Value) (h0 : Heap) (n0 : Nat) (Z0 : n0 ≤ h0.size) (O_ : Old Z n0 h0) (S_CS : Sta Z Z.heap "java/lang/String" "COMPACT_STRINGS" "Z" (.int zc)) (P_CS : ¬ zc = (0 : Int32)) (S_SF : Sta Z Z.heap "jdk/internal/util/Preconditions" "SIOOBE_FORMATTER" "Ljava/util/function/BiFunction;" fmv) (rf_fmv : fmv.isRef = true) :
    MetFree l x (head1 (Jvm.Cond.code x code maxLocals ret :: ws) room_1) (fun as_ UU => as_ = #[(.int p1), (.int p2), (.int p3), (.int p4)] ∧ Z.Warmed39 UU.vm ∧ UU.heap = h0 ∧ CHv Z own_EL UU.vm h0) (fun _ _ _ _ _ => True) (fun _ UU oo UU' => ∃ vv LL, oo = .returned vv ∧ (Q0 Z p1 p2 p3 p4 zc fmv h0 n0) vv UU'.heap LL ∧ CHr Z own_EL UU.vm UU.heap UU'.vm UU'.heap ∧ ReturnedEndW UU oo UU' LL room_1.cells room_1.slots) := by
  refine own_metW (EL := own_EL) (plainFor_of_name pn_0) ?_
  intro p e s m below meth c s₁ X0 hx hby hml hret hlk hown hnm hZ e0 hS_ CR
  have hk_ := Nat.le_refl h0.size
  have N0 := Fr.nil n0
  have Z_ := Z0
  refine OwnGoW.cast (ef_0 m p1 p2 p3 p4) ?_
  have hml : c.maxLocals = 13 := hml
  show OwnGoW p e below s Z own_EL _ _ _ s₁ (mkF m 0 #[.val (.int p1), .val (.int p2), .val (.int p3), .val (.int p4), .unset, .unset, .unset, .unset, .unset, .unset, .unset, .unset, .unset] [])
  refine OwnGoW.st (fun _ kk => XS.iconst X0.here hx rfl (hb hby at_0) kk) ?_
  show OwnGoW p e below s Z own_EL _ _ _ s₁ (mkF m 1 #[.val (.int p1), .val (.int p2), .val (.int p3), .val (.int p4), .unset, .unset, .unset, .unset, .unset, .unset, .unset, .unset, .unset] [(.int (2 : Int32))])
  obtain ⟨T103, h103, k103, X103, e103, E103, A103, Ex103, st103⟩ := newPE X0 hx hZ (hw _ (List.mem_of_getElem? (i := 0) rfl)) e0 (g := (mkF m 1 #[.val (.int p1), .val (.int p2), .val (.int p3), .val (.int p4), .unset, .unset, .unset, .unset, .unset, .unset, .unset, .unset, .unset] [(.int (2 : Int32))])) rfl (hb hby at_1) rfl (by decide) (cap := 2) (by decide) (by decide) (by decide) (by decide) (ad := "[C") (by decide)
  obtain ⟨b103, g103⟩ : ∃ z, z = h0.size := ⟨_, rfl⟩
  rw [← g103] at A103 Ex103 st103
  have g_b103 : n0 ≤ b103 := Nat.le_trans Z_ (Nat.le_of_eq g103.symm)
  have sf_b103 : Safe Z own_EL s.vm h0 b103 := Safe.new (Nat.le_of_eq g103.symm)
  have O_ := O_.ext E103
  have sf_b103 := Safe.ext E103 CR.1 sf_b103
  have CR := CR.trans (CHr.ext E103 CR.1)
  have hk_ := Nat.le_trans hk_ E103.1
  have Z_ : n0 ≤ h103.size := Nat.le_trans Z_ E103.1
  have V_b103 : Arv Z h103 b103 k103 .char (2 : Int32) [(.int (0 : Int32)), (.int (0 : Int32))] (.int (0 : Int32)) := (Arv.new A103 (by decide)).pad (pad_rep [] (.int (0 : Int32)) 2)
  have E_b103 := Ex103
  refine OwnGoW.st st103 ?_
  show OwnGoW p e below s Z own_EL _ _ _ T103 (mkF m 3 #[.val (.int p1), .val (.int p2), .val (.int p3), .val (.int p4), .unset, .unset, .unset, .unset, .unset, .unset, .unset, .unset, .unset] [(.ref b103)])
  refine OwnGoW.st (fun _ kk => XS.astore X103.here hx rfl (hb hby at_3) rfl rfl (l' := #[.val (.int p1), .val (.int p2), .val (.int p3), .val (.int p4), .val (.ref b103), .unset, .unset, .unset, .unset, .unset, .unset, .unset, .unset]) rfl kk) ?_
  show OwnGoW p e below s Z own_EL _ _ _ T103 (mkF m 5 #[.val (.int p1), .val (.int p2), .val (.int p3), .val (.int p4), .val (.ref b103), .unset, .unset, .unset, .unset, .unset, .unset, .unset, .unset] [])
  refine OwnGoW.st (fun _ kk => XS.aload X103.here hx rfl (hb hby at_5) rfl rfl  kk) ?_
  show OwnGoW p e below s Z own_EL _ _ _ T103 (mkF m 7 #[.val (.int p1), .val (.int p2), .val (.int p3), .val (.int p4), .val (.ref b103), .unset, .unset, .unset, .unset, .unset, .unset, .unset, .unset] [(.ref b103)])
  refine OwnGoW.st (fun _ kk => XS.iconst X103.here hx rfl (hb hby at_7) kk) ?_
  show OwnGoW p e below s Z own_EL _ _ _ T103 (mkF m 8 #[.val (.int p1), .val (.int p2), .val (.int p3), .val (.int p4), .val (.ref b103), .unset, .unset, .unset, .unset, .unset, .unset, .unset, .unset] [(.int (0 : Int32)), (.ref b103)])
  refine OwnGoW.st (fun _ kk => XS.iloadN X103.here hx rfl (hb hby at_8) rfl  kk) ?_
  show OwnGoW p e below s Z own_EL _ _ _ T103 (mkF m 9 #[.val (.int p1), .val (.int p2), .val (.int p3), .val (.int p4), .val (.ref b103), .unset, .unset, .unset, .unset, .unset, .unset, .unset, .unset] [(.int p1), (.int (0 : Int32)), (.ref b103)])
  refine OwnGoW.st (fun _ kk => XS.sipush X103.here hx rfl (hb hby at_9) kk) ?_
  show OwnGoW p e below s Z own_EL _ _ _ T103 (mkF m 12 #[.val (.int p1), .val (.int p2), .val (.int p3), .val (.int p4), .val (.ref b103), .unset, .unset, .unset, .unset, .unset, .unset, .unset, .unset] [(.int (255 : Int32)), (.int p1), (.int (0 : Int32)), (.ref b103)])
  refine OwnGoW.st (fun _ kk => XS.iand X103.here hx rfl (hb hby at_12) rfl kk) ?_
  show OwnGoW p e below s Z own_EL _ _ _ T103 (mkF m 13 #[.val (.int p1), .val (.int p2), .val (.int p3), .val (.int p4), .val (.ref b103), .unset, .unset, .unset, .unset, .unset, .unset, .unset, .unset] [(.int (p1 &&& (255 : Int32))), (.int (0 : Int32)), (.ref b103)])
  refine OwnGoW.st (fun _ kk => XS.i2c X103.here hx rfl (hb hby at_13) rfl kk) ?_
  show OwnGoW p e below s Z own_EL _ _ _ T103 (mkF m 14 #[.val (.int p1), .val (.int p2), .val (.int p3), .val (.int p4), .val (.ref b103), .unset, .unset, .unset, .unset, .unset, .unset, .unset, .unset] [(.int ((p1 &&& (255 : Int32)).toUInt32.toUInt16.toUInt32.toInt32)), (.int (0 : Int32)), (.ref b103)])
  obtain ⟨sc0, hsc0⟩ : ∃ z : Int32, z = ((p1 &&& (255 : Int32)).toUInt32.toUInt16.toUInt32.toInt32) := ⟨_, rfl⟩
  rw [← hsc0]
  show OwnGoW p e below s Z own_EL _ _ _ T103 (mkF m 14 #[.val (.int p1), .val (.int p2), .val (.int p3), .val (.int p4), .val (.ref b103), .unset, .unset, .unset, .unset, .unset, .unset, .unset, .unset] [(.int sc0), (.int (0 : Int32)), (.ref b103)])
  have hp_sc0 : ¬ sc0 < 0 ∧ ¬ (255 : Int32) < sc0 := hsc0 ▸ own_lmk _
  obtain ⟨cl104, Ar104, q104, S104, N104, H104, G104⟩ := id V_b103
  have hin104 : ¬ ((0 : Int32) < 0 ∨ cl104.slots.size ≤ ((0 : Int32)).toNatClampNeg) := inb_of S104 ⟨by decide, by decide⟩
  obtain ⟨T104, h104, X104, e104, W104, st104⟩ := stC X103 hx hZ e103 Ar104 (j := (0 : Int32)) hin104 (g := (mkF m 14 #[.val (.int p1), .val (.int p2), .val (.int p3), .val (.int p4), .val (.ref b103), .unset, .unset, .unset, .unset, .unset, .unset, .unset, .unset] [(.int sc0), (.int (0 : Int32)), (.ref b103)])) rfl rfl (hb hby at_14)
  have V_b103 : Arv Z h104 b103 k103 .char (2 : Int32) [(.int (nar .char sc0)), (.int (0 : Int32))] (.int (0 : Int32)) := Arv.set Ar104 q104 S104 N104 H104 G104 (fits_nar_char _) W104 0 rfl (Nat.le_of_ble_eq_true rfl)
  rw [show nar .char sc0 = sc0 from (own_lnc hp_sc0)] at V_b103
  have E_b103 := E_b103.wr W104
  have O_ := O_.wr W104 g_b103
  have sf_ := sf_b103
  have CR0 := CR.1
  have CR := CR.trans (CHr.wr W104 sf_ CR.1)
  have sf_b103 := Safe.wr W104 sf_ CR0 sf_b103
  have hk_ := Nat.le_trans hk_ (Nat.le_of_eq W104.size.symm)
  have N104 := Fr.snoc X104 N0 g_b103
  have Z_ : n0 ≤ h104.size := by rw [W104.size]; exact Z_
  refine OwnGoW.st st104 ?_
  show OwnGoW p e below s Z own_EL _ _ _ T104 (mkF m 15 #[.val (.int p1), .val (.int p2), .val (.int p3), .val (.int p4), .val (.ref b103), .unset, .unset, .unset, .unset, .unset, .unset, .unset, .unset] [])
  refine OwnGoW.st (fun _ kk => XS.aload X104.here hx rfl (hb hby at_15) rfl rfl  kk) ?_
  show OwnGoW p e below s Z own_EL _ _ _ T104 (mkF m 17 #[.val (.int p1), .val (.int p2), .val (.int p3), .val (.int p4), .val (.ref b103), .unset, .unset, .unset, .unset, .unset, .unset, .unset, .unset] [(.ref b103)])
  refine OwnGoW.st (fun _ kk => XS.iconst X104.here hx rfl (hb hby at_17) kk) ?_
  show OwnGoW p e below s Z own_EL _ _ _ T104 (mkF m 18 #[.val (.int p1), .val (.int p2), .val (.int p3), .val (.int p4), .val (.ref b103), .unset, .unset, .unset, .unset, .unset, .unset, .unset, .unset] [(.int (1 : Int32)), (.ref b103)])
  refine OwnGoW.st (fun _ kk => XS.iloadN X104.here hx rfl (hb hby at_18) rfl  kk) ?_
  show OwnGoW p e below s Z own_EL _ _ _ T104 (mkF m 19 #[.val (.int p1), .val (.int p2), .val (.int p3), .val (.int p4), .val (.ref b103), .unset, .unset, .unset, .unset, .unset, .unset, .unset, .unset] [(.int p1), (.int (1 : Int32)), (.ref b103)])
  refine OwnGoW.st (fun _ kk => XS.bipush X104.here hx rfl (hb hby at_19) kk) ?_
  show OwnGoW p e below s Z own_EL _ _ _ T104 (mkF m 21 #[.val (.int p1), .val (.int p2), .val (.int p3), .val (.int p4), .val (.ref b103), .unset, .unset, .unset, .unset, .unset, .unset, .unset, .unset] [(.int (8 : Int32)), (.int p1), (.int (1 : Int32)), (.ref b103)])
  refine OwnGoW.st (fun _ kk => XS.iushr X104.here hx rfl (hb hby at_21) rfl kk) ?_
  show OwnGoW p e below s Z own_EL _ _ _ T104 (mkF m 22 #[.val (.int p1), .val (.int p2), .val (.int p3), .val (.int p4), .val (.ref b103), .unset, .unset, .unset, .unset, .unset, .unset, .unset, .unset] [(.int ((p1.toUInt32 >>> ((8 : Int32) &&& 31).toUInt32).toInt32)), (.int (1 : Int32)), (.ref b103)])
  refine OwnGoW.st (fun _ kk => XS.sipush X104.here hx rfl (hb hby at_22) kk) ?_
  show OwnGoW p e below s Z own_EL _ _ _ T104 (mkF m 25 #[.val (.int p1), .val (.int p2), .val (.int p3), .val (.int p4), .val (.ref b103), .unset, .unset, .unset, .unset, .unset, .unset, .unset, .unset] [(.int (255 : Int32)), (.int ((p1.toUInt32 >>> ((8 : Int32) &&& 31).toUInt32).toInt32)), (.int (1 : Int32)), (.ref b103)])
  refine OwnGoW.st (fun _ kk => XS.iand X104.here hx rfl (hb hby at_25) rfl kk) ?_
  show OwnGoW p e below s Z own_EL _ _ _ T104 (mkF m 26 #[.val (.int p1), .val (.int p2), .val (.int p3), .val (.int p4), .val (.ref b103), .unset, .unset, .unset, .unset, .unset, .unset, .unset, .unset] [(.int (((p1.toUInt32 >>> ((8 : Int32) &&& 31).toUInt32).toInt32) &&& (255 : Int32))), (.int (1 : Int32)), (.ref b103)])
  refine OwnGoW.st (fun _ kk => XS.i2c X104.here hx rfl (hb hby at_26) rfl kk) ?_
  show OwnGoW p e below s Z own_EL _ _ _ T104 (mkF m 27 #[.val (.int p1), .val (.int p2), .val (.int p3), .val (.int p4), .val (.ref b103), .unset, .unset, .unset, .unset, .unset, .unset, .unset, .unset] [(.int ((((p1.toUInt32 >>> ((8 : Int32) &&& 31).toUInt32).toInt32) &&& (255 : Int32)).toUInt32.toUInt16.toUInt32.toInt32)), (.int (1 : Int32)), (.ref b103)])
  obtain ⟨sc1, hsc1⟩ : ∃ z : Int32, z = ((((p1.toUInt32 >>> ((8 : Int32) &&& 31).toUInt32).toInt32) &&& (255 : Int32)).toUInt32.toUInt16.toUInt32.toInt32) := ⟨_, rfl⟩
  rw [← hsc1]
  show OwnGoW p e below s Z own_EL _ _ _ T104 (mkF m 27 #[.val (.int p1), .val (.int p2), .val (.int p3), .val (.int p4), .val (.ref b103), .unset, .unset, .unset, .unset, .unset, .unset, .unset, .unset] [(.int sc1), (.int (1 : Int32)), (.ref b103)])
  have hp_sc1 : ¬ sc1 < 0 ∧ ¬ (255 : Int32) < sc1 := hsc1 ▸ own_lmk _
  obtain ⟨cl105, Ar105, q105, S105, N105, H105, G105⟩ := id V_b103
  have hin105 : ¬ ((1 : Int32) < 0 ∨ cl105.slots.size ≤ ((1 : Int32)).toNatClampNeg) := inb_of S105 ⟨by decide, by decide⟩
  obtain ⟨T105, h105, X105, e105, W105, st105⟩ := stC X104 hx hZ e104 Ar105 (j := (1 : Int32)) hin105 (g := (mkF m 27 #[.val (.int p1), .val (.int p2), .val (.int p3), .val (.int p4), .val (.ref b103), .unset, .unset, .unset, .unset, .unset, .unset, .unset, .unset] [(.int sc1), (.int (1 : Int32)), (.ref b103)])) rfl rfl (hb hby at_27)
  have V_b103 : Arv Z h105 b103 k103 .char (2 : Int32) [(.int sc0), (.int (nar .char sc1))] (.int (0 : Int32)) := Arv.set Ar105 q105 S105 N105 H105 G105 (fits_nar_char _) W105 1 rfl (Nat.le_of_ble_eq_true rfl)
  rw [show nar .char sc1 = sc1 from (own_lnc hp_sc1)] at V_b103
  have E_b103 := E_b103.wr W105
  have O_ := O_.wr W105 g_b103
  have sf_ := sf_b103
  have CR0 := CR.1
  have CR := CR.trans (CHr.wr W105 sf_ CR.1)
  have sf_b103 := Safe.wr W105 sf_ CR0 sf_b103
  have hk_ := Nat.le_trans hk_ (Nat.le_of_eq W105.size.symm)
  have N105 := Fr.snoc X105 N104 g_b103
  have Z_ : n0 ≤ h105.size := by rw [W105.size]; exact Z_
  refine OwnGoW.st st105 ?_
  show OwnGoW p e below s Z own_EL _ _ _ T105 (mkF m 28 #[.val (.int p1), .val (.int p2), .val (.int p3), .val (.int p4), .val (.ref b103), .unset, .unset, .unset, .unset, .unset, .unset, .unset, .unset] [])
  refine OwnGoW.st (fun _ kk => XS.iconst X105.here hx rfl (hb hby at_28) kk) ?_
  show OwnGoW p e below s Z own_EL _ _ _ T105 (mkF m 29 #[.val (.int p1), .val (.int p2), .val (.int p3), .val (.int p4), .val (.ref b103), .unset, .unset, .unset, .unset, .unset, .unset, .unset, .unset] [(.int (2 : Int32))])
  obtain ⟨T106, h106, k106, X106, e106, E106, A106, Ex106, st106⟩ := newPE X105 hx hZ (hw _ (List.mem_of_getElem? (i := 0) rfl)) e105 (g := (mkF m 29 #[.val (.int p1), .val (.int p2), .val (.int p3), .val (.int p4), .val (.ref b103), .unset, .unset, .unset, .unset, .unset, .unset, .unset, .unset] [(.int (2 : Int32))])) rfl (hb hby at_29) rfl (by decide) (cap := 2) (by decide) (by decide) (by decide) (by decide) (ad := "[C") (by decide)
  obtain ⟨b106, g106⟩ : ∃ z, z = h105.size := ⟨_, rfl⟩
  rw [← g106] at A106 Ex106 st106
  have ne_b103_b106 : b103 ≠ b106 := Nat.ne_of_lt (Nat.lt_of_lt_of_le V_b103.lt (Nat.le_of_eq g106.symm))
  have g_b106 : n0 ≤ b106 := Nat.le_trans Z_ (Nat.le_of_eq g106.symm)
  have sf_b106 : Safe Z own_EL s.vm h105 b106 := Safe.new (Nat.le_of_eq g106.symm)
  have V_b103 := V_b103.ext E106
  have E_b103 := E_b103.ext E106
  have O_ := O_.ext E106
  have sf_b103 := Safe.ext E106 CR.1 sf_b103
  have sf_b106 := Safe.ext E106 CR.1 sf_b106
  have CR := CR.trans (CHr.ext E106 CR.1)
  have hk_ := Nat.le_trans hk_ E106.1
  have Z_ : n0 ≤ h106.size := Nat.le_trans Z_ E106.1
  have V_b106 : Arv Z h106 b106 k106 .char (2 : Int32) [(.int (0 : Int32)), (.int (0 : Int32))] (.int (0 : Int32)) := (Arv.new A106 (by decide)).pad (pad_rep [] (.int (0 : Int32)) 2)
  have E_b106 := Ex106
  refine OwnGoW.st st106 ?_
  show OwnGoW p e below s Z own_EL _ _ _ T106 (mkF m 31 #[.val (.int p1), .val (.int p2), .val (.int p3), .val (.int p4), .val (.ref b103), .unset, .unset, .unset, .unset, .unset, .unset, .unset, .unset] [(.ref b106)])
  refine OwnGoW.st (fun _ kk => XS.astore X106.here hx rfl (hb hby at_31) rfl rfl (l' := #[.val (.int p1), .val (.int p2), .val (.int p3), .val (.int p4), .val (.ref b103), .val (.ref b106), .unset, .unset, .unset, .unset, .unset, .unset, .unset]) rfl kk) ?_
  show OwnGoW p e below s Z own_EL _ _ _ T106 (mkF m 33 #[.val (.int p1), .val (.int p2), .val (.int p3), .val (.int p4), .val (.ref b103), .val (.ref b106), .unset, .unset, .unset, .unset, .unset, .unset, .unset] [])
  refine OwnGoW.st (fun _ kk => XS.aload X106.here hx rfl (hb hby at_33) rfl rfl  kk) ?_
  show OwnGoW p e below s Z own_EL _ _ _ T106 (mkF m 35 #[.val (.int p1), .val (.int p2), .val (.int p3), .val (.int p4), .val (.ref b103), .val (.ref b106), .unset, .unset, .unset, .unset, .unset, .unset, .unset] [(.ref b106)])
  refine OwnGoW.st (fun _ kk => XS.iconst X106.here hx rfl (hb hby at_35) kk) ?_
  show OwnGoW p e below s Z own_EL _ _ _ T106 (mkF m 36 #[.val (.int p1), .val (.int p2), .val (.int p3), .val (.int p4), .val (.ref b103), .val (.ref b106), .unset, .unset, .unset, .unset, .unset, .unset, .unset] [(.int (0 : Int32)), (.ref b106)])
  refine OwnGoW.st (fun _ kk => XS.iloadN X106.here hx rfl (hb hby at_36) rfl  kk) ?_
  show OwnGoW p e below s Z own_EL _ _ _ T106 (mkF m 37 #[.val (.int p1), .val (.int p2), .val (.int p3), .val (.int p4), .val (.ref b103), .val (.ref b106), .unset, .unset, .unset, .unset, .unset, .unset, .unset] [(.int p2), (.int (0 : Int32)), (.ref b106)])
  refine OwnGoW.st (fun _ kk => XS.sipush X106.here hx rfl (hb hby at_37) kk) ?_
  show OwnGoW p e below s Z own_EL _ _ _ T106 (mkF m 40 #[.val (.int p1), .val (.int p2), .val (.int p3), .val (.int p4), .val (.ref b103), .val (.ref b106), .unset, .unset, .unset, .unset, .unset, .unset, .unset] [(.int (255 : Int32)), (.int p2), (.int (0 : Int32)), (.ref b106)])
  refine OwnGoW.st (fun _ kk => XS.iand X106.here hx rfl (hb hby at_40) rfl kk) ?_
  show OwnGoW p e below s Z own_EL _ _ _ T106 (mkF m 41 #[.val (.int p1), .val (.int p2), .val (.int p3), .val (.int p4), .val (.ref b103), .val (.ref b106), .unset, .unset, .unset, .unset, .unset, .unset, .unset] [(.int (p2 &&& (255 : Int32))), (.int (0 : Int32)), (.ref b106)])
  refine OwnGoW.st (fun _ kk => XS.i2c X106.here hx rfl (hb hby at_41) rfl kk) ?_
  show OwnGoW p e below s Z own_EL _ _ _ T106 (mkF m 42 #[.val (.int p1), .val (.int p2), .val (.int p3), .val (.int p4), .val (.ref b103), .val (.ref b106), .unset, .unset, .unset, .unset, .unset, .unset, .unset] [(.int ((p2 &&& (255 : Int32)).toUInt32.toUInt16.toUInt32.toInt32)), (.int (0 : Int32)), (.ref b106)])
  obtain ⟨rc0, hrc0⟩ : ∃ z : Int32, z = ((p2 &&& (255 : Int32)).toUInt32.toUInt16.toUInt32.toInt32) := ⟨_, rfl⟩
  rw [← hrc0]
  show OwnGoW p e below s Z own_EL _ _ _ T106 (mkF m 42 #[.val (.int p1), .val (.int p2), .val (.int p3), .val (.int p4), .val (.ref b103), .val (.ref b106), .unset, .unset, .unset, .unset, .unset, .unset, .unset] [(.int rc0), (.int (0 : Int32)), (.ref b106)])
  have hp_rc0 : ¬ rc0 < 0 ∧ ¬ (255 : Int32) < rc0 := hrc0 ▸ own_lmk _
  obtain ⟨cl107, Ar107, q107, S107, N107, H107, G107⟩ := id V_b106
  have hin107 : ¬ ((0 : Int32) < 0 ∨ cl107.slots.size ≤ ((0 : Int32)).toNatClampNeg) := inb_of S107 ⟨by decide, by decide⟩
  obtain ⟨T107, h107, X107, e107, W107, st107⟩ := stC X106 hx hZ e106 Ar107 (j := (0 : Int32)) hin107 (g := (mkF m 42 #[.val (.int p1), .val (.int p2), .val (.int p3), .val (.int p4), .val (.ref b103), .val (.ref b106), .unset, .unset, .unset, .unset, .unset, .unset, .unset] [(.int rc0), (.int (0 : Int32)), (.ref b106)])) rfl rfl (hb hby at_42)
  have V_b106 : Arv Z h107 b106 k106 .char (2 : Int32) [(.int (nar .char rc0)), (.int (0 : Int32))] (.int (0 : Int32)) := Arv.set Ar107 q107 S107 N107 H107 G107 (fits_nar_char _) W107 0 rfl (Nat.le_of_ble_eq_true rfl)
  rw [show nar .char rc0 = rc0 from (own_lnc hp_rc0)] at V_b106
  have V_b103 := V_b103.other W107 ne_b103_b106
  have E_b103 := E_b103.wr W107
  have E_b106 := E_b106.wr W107
  have O_ := O_.wr W107 g_b106
  have sf_ := sf_b106
  have CR0 := CR.1
  have CR := CR.trans (CHr.wr W107 sf_ CR.1)
  have sf_b103 := Safe.wr W107 sf_ CR0 sf_b103
  have sf_b106 := Safe.wr W107 sf_ CR0 sf_b106
  have hk_ := Nat.le_trans hk_ (Nat.le_of_eq W107.size.symm)
  have N107 := Fr.snoc X107 N105 g_b106
  have Z_ : n0 ≤ h107.size := by rw [W107.size]; exact Z_
  refine OwnGoW.st st107 ?_
  show OwnGoW p e below s Z own_EL _ _ _ T107 (mkF m 43 #[.val (.int p1), .val (.int p2), .val (.int p3), .val (.int p4), .val (.ref b103), .val (.ref b106), .unset, .unset, .unset, .unset, .unset, .unset, .unset] [])
  refine OwnGoW.st (fun _ kk => XS.aload X107.here hx rfl (hb hby at_43) rfl rfl  kk) ?_
  show OwnGoW p e below s Z own_EL _ _ _ T107 (mkF m 45 #[.val (.int p1), .val (.int p2), .val (.int p3), .val (.int p4), .val (.ref b103), .val (.ref b106), .unset, .unset, .unset, .unset, .unset, .unset, .unset] [(.ref b106)])
  refine OwnGoW.st (fun _ kk => XS.iconst X107.here hx rfl (hb hby at_45) kk) ?_
  show OwnGoW p e below s Z own_EL _ _ _ T107 (mkF m 46 #[.val (.int p1), .val (.int p2), .val (.int p3), .val (.int p4), .val (.ref b103), .val (.ref b106), .unset, .unset, .unset, .unset, .unset, .unset, .unset] [(.int (1 : Int32)), (.ref b106)])
  refine OwnGoW.st (fun _ kk => XS.iloadN X107.here hx rfl (hb hby at_46) rfl  kk) ?_
  show OwnGoW p e below s Z own_EL _ _ _ T107 (mkF m 47 #[.val (.int p1), .val (.int p2), .val (.int p3), .val (.int p4), .val (.ref b103), .val (.ref b106), .unset, .unset, .unset, .unset, .unset, .unset, .unset] [(.int p2), (.int (1 : Int32)), (.ref b106)])
  refine OwnGoW.st (fun _ kk => XS.bipush X107.here hx rfl (hb hby at_47) kk) ?_
  show OwnGoW p e below s Z own_EL _ _ _ T107 (mkF m 49 #[.val (.int p1), .val (.int p2), .val (.int p3), .val (.int p4), .val (.ref b103), .val (.ref b106), .unset, .unset, .unset, .unset, .unset, .unset, .unset] [(.int (8 : Int32)), (.int p2), (.int (1 : Int32)), (.ref b106)])
  refine OwnGoW.st (fun _ kk => XS.iushr X107.here hx rfl (hb hby at_49) rfl kk) ?_
  show OwnGoW p e below s Z own_EL _ _ _ T107 (mkF m 50 #[.val (.int p1), .val (.int p2), .val (.int p3), .val (.int p4), .val (.ref b103), .val (.ref b106), .unset, .unset, .unset, .unset, .unset, .unset, .unset] [(.int ((p2.toUInt32 >>> ((8 : Int32) &&& 31).toUInt32).toInt32)), (.int (1 : Int32)), (.ref b106)])
  refine OwnGoW.st (fun _ kk => XS.sipush X107.here hx rfl (hb hby at_50) kk) ?_
  show OwnGoW p e below s Z own_EL _ _ _ T107 (mkF m 53 #[.val (.int p1), .val (.int p2), .val (.int p3), .val (.int p4), .val (.ref b103), .val (.ref b106), .unset, .unset, .unset, .unset, .unset, .unset, .unset] [(.int (255 : Int32)), (.int ((p2.toUInt32 >>> ((8 : Int32) &&& 31).toUInt32).toInt32)), (.int (1 : Int32)), (.ref b106)])
  refine OwnGoW.st (fun _ kk => XS.iand X107.here hx rfl (hb hby at_53) rfl kk) ?_
  show OwnGoW p e below s Z own_EL _ _ _ T107 (mkF m 54 #[.val (.int p1), .val (.int p2), .val (.int p3), .val (.int p4), .val (.ref b103), .val (.ref b106), .unset, .unset, .unset, .unset, .unset, .unset, .unset] [(.int (((p2.toUInt32 >>> ((8 : Int32) &&& 31).toUInt32).toInt32) &&& (255 : Int32))), (.int (1 : Int32)), (.ref b106)])
  refine OwnGoW.st (fun _ kk => XS.i2c X107.here hx rfl (hb hby at_54) rfl kk) ?_
  show OwnGoW p e below s Z own_EL _ _ _ T107 (mkF m 55 #[.val (.int p1), .val (.int p2), .val (.int p3), .val (.int p4), .val (.ref b103), .val (.ref b106), .unset, .unset, .unset, .unset, .unset, .unset, .unset] [(.int ((((p2.toUInt32 >>> ((8 : Int32) &&& 31).toUInt32).toInt32) &&& (255 : Int32)).toUInt32.toUInt16.toUInt32.toInt32)), (.int (1 : Int32)), (.ref b106)])
  obtain ⟨rc1, hrc1⟩ : ∃ z : Int32, z = ((((p2.toUInt32 >>> ((8 : Int32) &&& 31).toUInt32).toInt32) &&& (255 : Int32)).toUInt32.toUInt16.toUInt32.toInt32) := ⟨_, rfl⟩
  rw [← hrc1]
  show OwnGoW p e below s Z own_EL _ _ _ T107 (mkF m 55 #[.val (.int p1), .val (.int p2), .val (.int p3), .val (.int p4), .val (.ref b103), .val (.ref b106), .unset, .unset, .unset, .unset, .unset, .unset, .unset] [(.int rc1), (.int (1 : Int32)), (.ref b106)])
  have hp_rc1 : ¬ rc1 < 0 ∧ ¬ (255 : Int32) < rc1 := hrc1 ▸ own_lmk _
  obtain ⟨cl108, Ar108, q108, S108, N108, H108, G108⟩ := id V_b106
  have hin108 : ¬ ((1 : Int32) < 0 ∨ cl108.slots.size ≤ ((1 : Int32)).toNatClampNeg) := inb_of S108 ⟨by decide, by decide⟩
  obtain ⟨T108, h108, X108, e108, W108, st108⟩ := stC X107 hx hZ e107 Ar108 (j := (1 : Int32)) hin108 (g := (mkF m 55 #[.val (.int p1), .val (.int p2), .val (.int p3), .val (.int p4), .val (.ref b103), .val (.ref b106), .unset, .unset, .unset, .unset, .unset, .unset, .unset] [(.int rc1), (.int (1 : Int32)), (.ref b106)])) rfl rfl (hb hby at_55)
  have V_b106 : Arv Z h108 b106 k106 .char (2 : Int32) [(.int rc0), (.int (nar .char rc1))] (.int (0 : Int32)) := Arv.set Ar108 q108 S108 N108 H108 G108 (fits_nar_char _) W108 1 rfl (Nat.le_of_ble_eq_true rfl)
  rw [show nar .char rc1 = rc1 from (own_lnc hp_rc1)] at V_b106
  have V_b103 := V_b103.other W108 ne_b103_b106
  have E_b103 := E_b103.wr W108
  have E_b106 := E_b106.wr W108
  have O_ := O_.wr W108 g_b106
  have sf_ := sf_b106
  have CR0 := CR.1
  have CR := CR.trans (CHr.wr W108 sf_ CR.1)
  have sf_b103 := Safe.wr W108 sf_ CR0 sf_b103
  have sf_b106 := Safe.wr W108 sf_ CR0 sf_b106
  have hk_ := Nat.le_trans hk_ (Nat.le_of_eq W108.size.symm)
  have N108 := Fr.snoc X108 N107 g_b106
  have Z_ : n0 ≤ h108.size := by rw [W108.size]; exact Z_
  refine OwnGoW.st st108 ?_
  show OwnGoW p e below s Z own_EL _ _ _ T108 (mkF m 56 #[.val (.int p1), .val (.int p2), .val (.int p3), .val (.int p4), .val (.ref b103), .val (.ref b106), .unset, .unset, .unset, .unset, .unset, .unset, .unset] [])
  refine OwnGoW.st (fun _ kk => XS.iconst X108.here hx rfl (hb hby at_56) kk) ?_
  show OwnGoW p e below s Z own_EL _ _ _ T108 (mkF m 57 #[.val (.int p1), .val (.int p2), .val (.int p3), .val (.int p4), .val (.ref b103), .val (.ref b106), .unset, .unset, .unset, .unset, .unset, .unset, .unset] [(.int (2 : Int32))])
  obtain ⟨T109, h109, k109, X109, e109, E109, A109, Ex109, st109⟩ := newPE X108 hx hZ (hw _ (List.mem_of_getElem? (i := 0) rfl)) e108 (g := (mkF m 57 #[.val (.int p1), .val (.int p2), .val (.int p3), .val (.int p4), .val (.ref b103), .val (.ref b106), .unset, .unset, .unset, .unset, .unset, .unset, .unset] [(.int (2 : Int32))])) rfl (hb hby at_57) rfl (by decide) (cap := 2) (by decide) (by decide) (by decide) (by decide) (ad := "[C") (by decide)
  obtain ⟨b109, g109⟩ : ∃ z, z = h108.size := ⟨_, rfl⟩
  rw [← g109] at A109 Ex109 st109
  have ne_b103_b109 : b103 ≠ b109 := Nat.ne_of_lt (Nat.lt_of_lt_of_le V_b103.lt (Nat.le_of_eq g109.symm))
  have ne_b106_b109 : b106 ≠ b109 := Nat.ne_of_lt (Nat.lt_of_lt_of_le V_b106.lt (Nat.le_of_eq g109.symm))
  have g_b109 : n0 ≤ b109 := Nat.le_trans Z_ (Nat.le_of_eq g109.symm)
  have sf_b109 : Safe Z own_EL s.vm h108 b109 := Safe.new (Nat.le_of_eq g109.symm)
  have V_b103 := V_b103.ext E109
  have E_b103 := E_b103.ext E109
  have V_b106 := V_b106.ext E109
  have E_b106 := E_b106.ext E109
  have O_ := O_.ext E109
  have sf_b103 := Safe.ext E109 CR.1 sf_b103
  have sf_b106 := Safe.ext E109 CR.1 sf_b106
  have sf_b109 := Safe.ext E109 CR.1 sf_b109
  have CR := CR.trans (CHr.ext E109 CR.1)
  have hk_ := Nat.le_trans hk_ E109.1
  have Z_ : n0 ≤ h109.size := Nat.le_trans Z_ E109.1
  have V_b109 : Arv Z h109 b109 k109 .char (2 : Int32) [(.int (0 : Int32)), (.int (0 : Int32))] (.int (0 : Int32)) := (Arv.new A109 (by decide)).pad (pad_rep [] (.int (0 : Int32)) 2)
  have E_b109 := Ex109
  refine OwnGoW.st st109 ?_
  show OwnGoW p e below s Z own_EL _ _ _ T109 (mkF m 59 #[.val (.int p1), .val (.int p2), .val (.int p3), .val (.int p4), .val (.ref b103), .val (.ref b106), .unset, .unset, .unset, .unset, .unset, .unset, .unset] [(.ref b109)])
  refine OwnGoW.st (fun _ kk => XS.astore X109.here hx rfl (hb hby at_59) rfl rfl (l' := #[.val (.int p1), .val (.int p2), .val (.int p3), .val (.int p4), .val (.ref b103), .val (.ref b106), .val (.ref b109), .unset, .unset, .unset, .unset, .unset, .unset]) rfl kk) ?_
  show OwnGoW p e below s Z own_EL _ _ _ T109 (mkF m 61 #[.val (.int p1), .val (.int p2), .val (.int p3), .val (.int p4), .val (.ref b103), .val (.ref b106), .val (.ref b109), .unset, .unset, .unset, .unset, .unset, .unset] [])
  refine OwnGoW.st (fun _ kk => XS.aload X109.here hx rfl (hb hby at_61) rfl rfl  kk) ?_
  show OwnGoW p e below s Z own_EL _ _ _ T109 (mkF m 63 #[.val (.int p1), .val (.int p2), .val (.int p3), .val (.int p4), .val (.ref b103), .val (.ref b106), .val (.ref b109), .unset, .unset, .unset, .unset, .unset, .unset] [(.ref b109)])
  refine OwnGoW.st (fun _ kk => XS.iconst X109.here hx rfl (hb hby at_63) kk) ?_
  show OwnGoW p e below s Z own_EL _ _ _ T109 (mkF m 64 #[.val (.int p1), .val (.int p2), .val (.int p3), .val (.int p4), .val (.ref b103), .val (.ref b106), .val (.ref b109), .unset, .unset, .unset, .unset, .unset, .unset] [(.int (0 : Int32)), (.ref b109)])
  refine OwnGoW.st (fun _ kk => XS.iloadN X109.here hx rfl (hb hby at_64) rfl  kk) ?_
  show OwnGoW p e below s Z own_EL _ _ _ T109 (mkF m 65 #[.val (.int p1), .val (.int p2), .val (.int p3), .val (.int p4), .val (.ref b103), .val (.ref b106), .val (.ref b109), .unset, .unset, .unset, .unset, .unset, .unset] [(.int p3), (.int (0 : Int32)), (.ref b109)])
  refine OwnGoW.st (fun _ kk => XS.sipush X109.here hx rfl (hb hby at_65) kk) ?_
  show OwnGoW p e below s Z own_EL _ _ _ T109 (mkF m 68 #[.val (.int p1), .val (.int p2), .val (.int p3), .val (.int p4), .val (.ref b103), .val (.ref b106), .val (.ref b109), .unset, .unset, .unset, .unset, .unset, .unset] [(.int (255 : Int32)), (.int p3), (.int (0 : Int32)), (.ref b109)])
  refine OwnGoW.st (fun _ kk => XS.iand X109.here hx rfl (hb hby at_68) rfl kk) ?_
  show OwnGoW p e below s Z own_EL _ _ _ T109 (mkF m 69 #[.val (.int p1), .val (.int p2), .val (.int p3), .val (.int p4), .val (.ref b103), .val (.ref b106), .val (.ref b109), .unset, .unset, .unset, .unset, .unset, .unset] [(.int (p3 &&& (255 : Int32))), (.int (0 : Int32)), (.ref b109)])
  refine OwnGoW.st (fun _ kk => XS.i2c X109.here hx rfl (hb hby at_69) rfl kk) ?_
  show OwnGoW p e below s Z own_EL _ _ _ T109 (mkF m 70 #[.val (.int p1), .val (.int p2), .val (.int p3), .val (.int p4), .val (.ref b103), .val (.ref b106), .val (.ref b109), .unset, .unset, .unset, .unset, .unset, .unset] [(.int ((p3 &&& (255 : Int32)).toUInt32.toUInt16.toUInt32.toInt32)), (.int (0 : Int32)), (.ref b109)])
  obtain ⟨pc0, hpc0⟩ : ∃ z : Int32, z = ((p3 &&& (255 : Int32)).toUInt32.toUInt16.toUInt32.toInt32) := ⟨_, rfl⟩
  rw [← hpc0]
  show OwnGoW p e below s Z own_EL _ _ _ T109 (mkF m 70 #[.val (.int p1), .val (.int p2), .val (.int p3), .val (.int p4), .val (.ref b103), .val (.ref b106), .val (.ref b109), .unset, .unset, .unset, .unset, .unset, .unset] [(.int pc0), (.int (0 : Int32)), (.ref b109)])
  have hp_pc0 : ¬ pc0 < 0 ∧ ¬ (255 : Int32) < pc0 := hpc0 ▸ own_lmk _
  obtain ⟨cl110, Ar110, q110, S110, N110, H110, G110⟩ := id V_b109
  have hin110 : ¬ ((0 : Int32) < 0 ∨ cl110.slots.size ≤ ((0 : Int32)).toNatClampNeg) := inb_of S110 ⟨by decide, by decide⟩
  obtain ⟨T110, h110, X110, e110, W110, st110⟩ := stC X109 hx hZ e109 Ar110 (j := (0 : Int32)) hin110 (g := (mkF m 70 #[.val (.int p1), .val (.int p2), .val (.int p3), .val (.int p4), .val (.ref b103), .val (.ref b106), .val (.ref b109), .unset, .unset, .unset, .unset, .unset, .unset] [(.int pc0), (.int (0 : Int32)), (.ref b109)])) rfl rfl (hb hby at_70)
  have V_b109 : Arv Z h110 b109 k109 .char (2 : Int32) [(.int (nar .char pc0)), (.int (0 : Int32))] (.int (0 : Int32)) := Arv.set Ar110 q110 S110 N110 H110 G110 (fits_nar_char _) W110 0 rfl (Nat.le_of_ble_eq_true rfl)
  rw [show nar .char pc0 = pc0 from (own_lnc hp_pc0)] at V_b109
  have V_b103 := V_b103.other W110 ne_b103_b109
  have E_b103 := E_b103.wr W110
  have V_b106 := V_b106.other W110 ne_b106_b109
  have E_b106 := E_b106.wr W110
  have E_b109 := E_b109.wr W110
  have O_ := O_.wr W110 g_b109
  have sf_ := sf_b109
  have CR0 := CR.1
  have CR := CR.trans (CHr.wr W110 sf_ CR.1)
  have sf_b103 := Safe.wr W110 sf_ CR0 sf_b103
  have sf_b106 := Safe.wr W110 sf_ CR0 sf_b106
  have sf_b109 := Safe.wr W110 sf_ CR0 sf_b109
  have hk_ := Nat.le_trans hk_ (Nat.le_of_eq W110.size.symm)
  have N110 := Fr.snoc X110 N108 g_b109
  have Z_ : n0 ≤ h110.size := by rw [W110.size]; exact Z_
  refine OwnGoW.st st110 ?_
  show OwnGoW p e below s Z own_EL _ _ _ T110 (mkF m 71 #[.val (.int p1), .val (.int p2), .val (.int p3), .val (.int p4), .val (.ref b103), .val (.ref b106), .val (.ref b109), .unset, .unset, .unset, .unset, .unset, .unset] [])
  refine OwnGoW.st (fun _ kk => XS.aload X110.here hx rfl (hb hby at_71) rfl rfl  kk) ?_
  show OwnGoW p e below s Z own_EL _ _ _ T110 (mkF m 73 #[.val (.int p1), .val (.int p2), .val (.int p3), .val (.int p4), .val (.ref b103), .val (.ref b106), .val (.ref b109), .unset, .unset, .unset, .unset, .unset, .unset] [(.ref b109)])
  refine OwnGoW.st (fun _ kk => XS.iconst X110.here hx rfl (hb hby at_73) kk) ?_
  show OwnGoW p e below s Z own_EL _ _ _ T110 (mkF m 74 #[.val (.int p1), .val (.int p2), .val (.int p3), .val (.int p4), .val (.ref b103), .val (.ref b106), .val (.ref b109), .unset, .unset, .unset, .unset, .unset, .unset] [(.int (1 : Int32)), (.ref b109)])
  refine OwnGoW.st (fun _ kk => XS.iloadN X110.here hx rfl (hb hby at_74) rfl  kk) ?_
  show OwnGoW p e below s Z own_EL _ _ _ T110 (mkF m 75 #[.val (.int p1), .val (.int p2), .val (.int p3), .val (.int p4), .val (.ref b103), .val (.ref b106), .val (.ref b109), .unset, .unset, .unset, .unset, .unset, .unset] [(.int p3), (.int (1 : Int32)), (.ref b109)])
  refine OwnGoW.st (fun _ kk => XS.bipush X110.here hx rfl (hb hby at_75) kk) ?_
  show OwnGoW p e below s Z own_EL _ _ _ T110 (mkF m 77 #[.val (.int p1), .val (.int p2), .val (.int p3), .val (.int p4), .val (.ref b103), .val (.ref b106), .val (.ref b109), .unset, .unset, .unset, .unset, .unset, .unset] [(.int (8 : Int32)), (.int p3), (.int (1 : Int32)), (.ref b109)])
  refine OwnGoW.st (fun _ kk => XS.iushr X110.here hx rfl (hb hby at_77) rfl kk) ?_
  show OwnGoW p e below s Z own_EL _ _ _ T110 (mkF m 78 #[.val (.int p1), .val (.int p2), .val (.int p3), .val (.int p4), .val (.ref b103), .val (.ref b106), .val (.ref b109), .unset, .unset, .unset, .unset, .unset, .unset] [(.int ((p3.toUInt32 >>> ((8 : Int32) &&& 31).toUInt32).toInt32)), (.int (1 : Int32)), (.ref b109)])
  refine OwnGoW.st (fun _ kk => XS.sipush X110.here hx rfl (hb hby at_78) kk) ?_
  show OwnGoW p e below s Z own_EL _ _ _ T110 (mkF m 81 #[.val (.int p1), .val (.int p2), .val (.int p3), .val (.int p4), .val (.ref b103), .val (.ref b106), .val (.ref b109), .unset, .unset, .unset, .unset, .unset, .unset] [(.int (255 : Int32)), (.int ((p3.toUInt32 >>> ((8 : Int32) &&& 31).toUInt32).toInt32)), (.int (1 : Int32)), (.ref b109)])
  refine OwnGoW.st (fun _ kk => XS.iand X110.here hx rfl (hb hby at_81) rfl kk) ?_
  show OwnGoW p e below s Z own_EL _ _ _ T110 (mkF m 82 #[.val (.int p1), .val (.int p2), .val (.int p3), .val (.int p4), .val (.ref b103), .val (.ref b106), .val (.ref b109), .unset, .unset, .unset, .unset, .unset, .unset] [(.int (((p3.toUInt32 >>> ((8 : Int32) &&& 31).toUInt32).toInt32) &&& (255 : Int32))), (.int (1 : Int32)), (.ref b109)])
  refine OwnGoW.st (fun _ kk => XS.i2c X110.here hx rfl (hb hby at_82) rfl kk) ?_
  show OwnGoW p e below s Z own_EL _ _ _ T110 (mkF m 83 #[.val (.int p1), .val (.int p2), .val (.int p3), .val (.int p4), .val (.ref b103), .val (.ref b106), .val (.ref b109), .unset, .unset, .unset, .unset, .unset, .unset] [(.int ((((p3.toUInt32 >>> ((8 : Int32) &&& 31).toUInt32).toInt32) &&& (255 : Int32)).toUInt32.toUInt16.toUInt32.toInt32)), (.int (1 : Int32)), (.ref b109)])
  obtain ⟨pc1, hpc1⟩ : ∃ z : Int32, z = ((((p3.toUInt32 >>> ((8 : Int32) &&& 31).toUInt32).toInt32) &&& (255 : Int32)).toUInt32.toUInt16.toUInt32.toInt32) := ⟨_, rfl⟩
  rw [← hpc1]
  show OwnGoW p e below s Z own_EL _ _ _ T110 (mkF m 83 #[.val (.int p1), .val (.int p2), .val (.int p3), .val (.int p4), .val (.ref b103), .val (.ref b106), .val (.ref b109), .unset, .unset, .unset, .unset, .unset, .unset] [(.int pc1), (.int (1 : Int32)), (.ref b109)])
  have hp_pc1 : ¬ pc1 < 0 ∧ ¬ (255 : Int32) < pc1 := hpc1 ▸ own_lmk _
  obtain ⟨cl111, Ar111, q111, S111, N111, H111, G111⟩ := id V_b109
  have hin111 : ¬ ((1 : Int32) < 0 ∨ cl111.slots.size ≤ ((1 : Int32)).toNatClampNeg) := inb_of S111 ⟨by decide, by decide⟩
  obtain ⟨T111, h111, X111, e111, W111, st111⟩ := stC X110 hx hZ e110 Ar111 (j := (1 : Int32)) hin111 (g := (mkF m 83 #[.val (.int p1), .val (.int p2), .val (.int p3), .val (.int p4), .val (.ref b103), .val (.ref b106), .val (.ref b109), .unset, .unset, .unset, .unset, .unset, .unset] [(.int pc1), (.int (1 : Int32)), (.ref b109)])) rfl rfl (hb hby at_83)
  have V_b109 : Arv Z h111 b109 k109 .char (2 : Int32) [(.int pc0), (.int (nar .char pc1))] (.int (0 : Int32)) := Arv.set Ar111 q111 S111 N111 H111 G111 (fits_nar_char _) W111 1 rfl (Nat.le_of_ble_eq_true rfl)
  rw [show nar .char pc1 = pc1 from (own_lnc hp_pc1)] at V_b109
  have V_b103 := V_b103.other W111 ne_b103_b109
  have E_b103 := E_b103.wr W111
  have V_b106 := V_b106.other W111 ne_b106_b109
  have E_b106 := E_b106.wr W111
  have E_b109 := E_b109.wr W111
  have O_ := O_.wr W111 g_b109
  have sf_ := sf_b109
  have CR0 := CR.1
  have CR := CR.trans (CHr.wr W111 sf_ CR.1)
  have sf_b103 := Safe.wr W111 sf_ CR0 sf_b103
  have sf_b106 := Safe.wr W111 sf_ CR0 sf_b106
  have sf_b109 := Safe.wr W111 sf_ CR0 sf_b109
  have hk_ := Nat.le_trans hk_ (Nat.le_of_eq W111.size.symm)
  have N111 := Fr.snoc X111 N110 g_b109
  have Z_ : n0 ≤ h111.size := by rw [W111.size]; exact Z_
  refine OwnGoW.st st111 ?_
  show OwnGoW p e below s Z own_EL _ _ _ T111 (mkF m 84 #[.val (.int p1), .val (.int p2), .val (.int p3), .val (.int p4), .val (.ref b103), .val (.ref b106), .val (.ref b109), .unset, .unset, .unset, .unset, .unset, .unset] [])
  obtain ⟨T112, h112, X112, e112, E112, A112, D112, -, st112⟩ := newO X111 hx hZ hown (hw _ (List.mem_of_getElem? (i := 1) rfl)) (hw _ (List.mem_of_getElem? (i := 2) rfl)) (hw _ (List.mem_of_getElem? (i := 3) rfl)) e111 (g := (mkF m 84 #[.val (.int p1), .val (.int p2), .val (.int p3), .val (.int p4), .val (.ref b103), .val (.ref b106), .val (.ref b109), .unset, .unset, .unset, .unset, .unset, .unset] [])) rfl (hb hby at_84) (by decide) (by decide)
  obtain ⟨b112, g112⟩ : ∃ z, z = h111.size := ⟨_, rfl⟩
  rw [← g112] at A112 D112 st112
  have ne_b103_b112 : b103 ≠ b112 := Nat.ne_of_lt (Nat.lt_of_lt_of_le V_b103.lt (Nat.le_of_eq g112.symm))
  have ne_b106_b112 : b106 ≠ b112 := Nat.ne_of_lt (Nat.lt_of_lt_of_le V_b106.lt (Nat.le_of_eq g112.symm))
  have ne_b109_b112 : b109 ≠ b112 := Nat.ne_of_lt (Nat.lt_of_lt_of_le V_b109.lt (Nat.le_of_eq g112.symm))
  have g_b112 : n0 ≤ b112 := Nat.le_trans Z_ (Nat.le_of_eq g112.symm)
  have sf_b112 : Safe Z own_EL s.vm h111 b112 := Safe.new (Nat.le_of_eq g112.symm)
  have V_b103 := V_b103.ext E112
  have E_b103 := E_b103.ext E112
  have V_b106 := V_b106.ext E112
  have E_b106 := E_b106.ext E112
  have V_b109 := V_b109.ext E112
  have E_b109 := E_b109.ext E112
  have O_ := O_.ext E112
  have sf_b103 := Safe.ext E112 CR.1 sf_b103
  have sf_b106 := Safe.ext E112 CR.1 sf_b106
  have sf_b109 := Safe.ext E112 CR.1 sf_b109
  have sf_b112 := Safe.ext E112 CR.1 sf_b112
  have CR := CR.trans (CHr.ext E112 CR.1)
  have hk_ := Nat.le_trans hk_ E112.1
  have Z_ : n0 ≤ h112.size := Nat.le_trans Z_ E112.1
  have E_b112 := A112
  have F_coder_b112 : Fld Z h112 b112 "java/lang/String" "coder" "B" (.int (0 : Int32)) := D112 (Or.inr (hw _ (List.mem_of_getElem? (i := 27) rfl))) (ty := .byte) (by decide)
  have F_value_b112 : Fld Z h112 b112 "java/lang/String" "value" "[B" .null := D112 (Or.inr (hw _ (List.mem_of_getElem? (i := 29) rfl))) (ty := (.array .byte)) (by decide)
  refine OwnGoW.st st112 ?_
  show OwnGoW p e below s Z own_EL _ _ _ T112 (mkF m 87 #[.val (.int p1), .val (.int p2), .val (.int p3), .val (.int p4), .val (.ref b103), .val (.ref b106), .val (.ref b109), .unset, .unset, .unset, .unset, .unset, .unset] [(.ref b112)])
  refine OwnGoW.st (fun _ kk => XS.dup X112.here hx rfl (hb hby at_87) rfl rfl kk) ?_
  show OwnGoW p e below s Z own_EL _ _ _ T112 (mkF m 88 #[.val (.int p1), .val (.int p2), .val (.int p3), .val (.int p4), .val (.ref b103), .val (.ref b106), .val (.ref b109), .unset, .unset, .unset, .unset, .unset, .unset] [(.ref b112), (.ref b112)])
  refine OwnGoW.st (fun _ kk => XS.aload X112.here hx rfl (hb hby at_88) rfl rfl  kk) ?_
  show OwnGoW p e below s Z own_EL _ _ _ T112 (mkF m 90 #[.val (.int p1), .val (.int p2), .val (.int p3), .val (.int p4), .val (.ref b103), .val (.ref b106), .val (.ref b109), .unset, .unset, .unset, .unset, .unset, .unset] [(.ref b103), (.ref b112), (.ref b112)])
  have hp113 : ∀ c ∈ ([sc0, sc1] : List Int32), ¬ c < 0 ∧ ¬ (255 : Int32) < c := by
    intro c hc
    simp only [List.mem_cons, List.not_mem_nil, or_false] at hc
    rcases hc with rfl | rfl
    · exact hp_sc0
    · exact hp_sc1
  obtain ⟨_, _, ⟨T114, L114, k114, n114⟩, -, X114, ⟨Lc114, hQ114, l114, y114, z114⟩, st114⟩ := X112.specialBack hx (y := (⟨"java/lang/String", "<init>", "([C)V"⟩ : MethodName)) rfl hown (mvT hZ (hw _ (List.mem_of_getElem? (i := 4) rfl))) (mvT hZ (hw _ (List.mem_of_getElem? (i := 5) rfl))) (mvT hZ (hw _ (List.mem_of_getElem? (i := 6) rfl))) (by decide) (StrChars.Road.backV (W := 1) hZ (own_ws hw) (kI := 4) (hw _ (List.mem_of_getElem? (i := 2) rfl)) (cs := ([sc0, sc1] : List Int32)) (bs := ([sc0, sc1] : List Int32).map (fun c => c.toInt8.toInt32)) (n := 2) g_b112 Z_ E_b112 F_value_b112 F_coder_b112 V_b103 (S_CS.ext O_.2) P_CS rfl rfl (by decide) (by decide) hp113 rfl (by decide) (by decide)) (g := (mkF m 90 #[.val (.int p1), .val (.int p2), .val (.int p3), .val (.int p4), .val (.ref b103), .val (.ref b106), .val (.ref b109), .unset, .unset, .unset, .unset, .unset, .unset] [(.ref b103), (.ref b112), (.ref b112)])) rfl (by rw [hml]; rfl) (Steps.refl _) (a := b112) (argsL := [(.ref b103)]) (rest := [(.ref b112)]) (lenOf pd_20 rfl) rfl (by show 2 * 0 + _ ≤ _; exact Nat.le_of_eq rfl) (hb hby at_90) (fun _ _ => ⟨rfl, e112, (by decide : 4 + 1 ≤ _), (by decide : 10 + 2 ≤ _)⟩)
  dsimp only [Pt.U, Pt.locs, Pt.cells, Pt.slots] at X114 l114 y114 z114 st114 hQ114
  subst l114 y114 z114
  obtain ⟨rfl, N114q, K114, Ex114, Fc_b112, t114, kb114, gt114, zz114, nt114, Fv_b112, V114⟩ := hQ114
  have N114 := Fr.app N111 N114q
  have zt114 : h112.size ≤ t114 := zz114
  have ne_b103_t114 : b103 ≠ t114 := Nat.ne_of_lt (Nat.lt_of_lt_of_le V_b103.lt zt114)
  have ne_b106_t114 : b106 ≠ t114 := Nat.ne_of_lt (Nat.lt_of_lt_of_le V_b106.lt zt114)
  have ne_b109_t114 : b109 ≠ t114 := Nat.ne_of_lt (Nat.lt_of_lt_of_le V_b109.lt zt114)
  have ne_b112_t114 : b112 ≠ t114 := Nat.ne_of_lt (Nat.lt_of_lt_of_le E_b112.lt zt114)
  have g_t114 : n0 ≤ t114 := Nat.le_trans Z_ zt114
  have V114 : Arv Z T114.heap t114 kb114 .byte (2 : Int32) [(.int sc0.toInt8.toInt32), (.int sc1.toInt8.toInt32)] (.int (0 : Int32)) := V114
  have Z_ : n0 ≤ T114.heap.size := Nat.le_trans Z_ K114.1
  have V_b103 := V_b103.keep K114 (ninS ne_b103_b112 nin0)
  have E_b103 := E_b103.keep K114
  have V_b106 := V_b106.keep K114 (ninS ne_b106_b112 nin0)
  have E_b106 := E_b106.keep K114
  have V_b109 := V_b109.keep K114 (ninS ne_b109_b112 nin0)
  have E_b109 := E_b109.keep K114
  have E_b112 := E_b112.keep K114
  have O_ := O_.keep K114 (allS g_b112 all0)
  have sf_b103' := Safe.keep K114 (sfS sf_b112 sf0) CR.1 sf_b103
  have sf_b106' := Safe.keep K114 (sfS sf_b112 sf0) CR.1 sf_b106
  have sf_b109' := Safe.keep K114 (sfS sf_b112 sf0) CR.1 sf_b109
  have sf_b112' := Safe.keep K114 (sfS sf_b112 sf0) CR.1 sf_b112
  have CR := CR.trans (CHr.keep K114 (sfS sf_b112 sf0) CR.1)
  have hk_ := Nat.le_trans hk_ K114.1
  have sf_b103 := sf_b103'
  have sf_b106 := sf_b106'
  have sf_b109 := sf_b109'
  have sf_b112 := sf_b112'
  refine OwnGoW.st (fun _ kk => st114.trans kk) ?_
  show OwnGoW p e below s Z own_EL _ _ _ T114 (mkF m 93 #[.val (.int p1), .val (.int p2), .val (.int p3), .val (.int p4), .val (.ref b103), .val (.ref b106), .val (.ref b109), .unset, .unset, .unset, .unset, .unset, .unset] [(.ref b112)])
  refine OwnGoW.st (fun _ kk => XS.astore X114.here hx rfl (hb hby at_93) rfl rfl (l' := #[.val (.int p1), .val (.int p2), .val (.int p3), .val (.int p4), .val (.ref b103), .val (.ref b106), .val (.ref b109), .val (.ref b112), .unset, .unset, .unset, .unset, .unset]) rfl kk) ?_
  show OwnGoW p e below s Z own_EL _ _ _ T114 (mkF m 95 #[.val (.int p1), .val (.int p2), .val (.int p3), .val (.int p4), .val (.ref b103), .val (.ref b106), .val (.ref b109), .val (.ref b112), .unset, .unset, .unset, .unset, .unset] [])
  obtain ⟨T115, h115, X115, e115, E115, A115, D115, -, st115⟩ := newO X114 hx hZ hown (hw _ (List.mem_of_getElem? (i := 1) rfl)) (hw _ (List.mem_of_getElem? (i := 2) rfl)) (hw _ (List.mem_of_getElem? (i := 3) rfl)) rfl (g := (mkF m 95 #[.val (.int p1), .val (.int p2), .val (.int p3), .val (.int p4), .val (.ref b103), .val (.ref b106), .val (.ref b109), .val (.ref b112), .unset, .unset, .unset, .unset, .unset] [])) rfl (hb hby at_95) (by decide) (by decide)
  obtain ⟨b115, g115⟩ : ∃ z, z = T114.heap.size := ⟨_, rfl⟩
  rw [← g115] at A115 D115 st115
  have ne_b103_b115 : b103 ≠ b115 := Nat.ne_of_lt (Nat.lt_of_lt_of_le V_b103.lt (Nat.le_of_eq g115.symm))
  have ne_b106_b115 : b106 ≠ b115 := Nat.ne_of_lt (Nat.lt_of_lt_of_le V_b106.lt (Nat.le_of_eq g115.symm))
  have ne_b109_b115 : b109 ≠ b115 := Nat.ne_of_lt (Nat.lt_of_lt_of_le V_b109.lt (Nat.le_of_eq g115.symm))
  have ne_b112_b115 : b112 ≠ b115 := Nat.ne_of_lt (Nat.lt_of_lt_of_le E_b112.lt (Nat.le_of_eq g115.symm))
  have ne_t114_b115 : t114 ≠ b115 := Nat.ne_of_lt (Nat.lt_of_lt_of_le V114.lt (Nat.le_of_eq g115.symm))
  have g_b115 : n0 ≤ b115 := Nat.le_trans Z_ (Nat.le_of_eq g115.symm)
  have sf_b115 : Safe Z own_EL s.vm T114.heap b115 := Safe.new (Nat.le_of_eq g115.symm)
  have V_b103 := V_b103.ext E115
  have E_b103 := E_b103.ext E115
  have V_b106 := V_b106.ext E115
  have E_b106 := E_b106.ext E115
  have V_b109 := V_b109.ext E115
  have E_b109 := E_b109.ext E115
  have E_b112 := E_b112.ext E115
  have Fc_b112 := Fc_b112.ext E115
  have Fv_b112 := Fv_b112.ext E115
  have V114 := V114.ext E115
  have O_ := O_.ext E115
  have sf_b103 := Safe.ext E115 CR.1 sf_b103
  have sf_b106 := Safe.ext E115 CR.1 sf_b106
  have sf_b109 := Safe.ext E115 CR.1 sf_b109
  have sf_b112 := Safe.ext E115 CR.1 sf_b112
  have sf_b115 := Safe.ext E115 CR.1 sf_b115
  have CR := CR.trans (CHr.ext E115 CR.1)
  have hk_ := Nat.le_trans hk_ E115.1
  have Z_ : n0 ≤ h115.size := Nat.le_trans Z_ E115.1
  have E_b115 := A115
  have F_coder_b115 : Fld Z h115 b115 "java/lang/String" "coder" "B" (.int (0 : Int32)) := D115 (Or.inr (hw _ (List.mem_of_getElem? (i := 27) rfl))) (ty := .byte) (by decide)
  have F_value_b115 : Fld Z h115 b115 "java/lang/String" "value" "[B" .null := D115 (Or.inr (hw _ (List.mem_of_getElem? (i := 29) rfl))) (ty := (.array .byte)) (by decide)
  refine OwnGoW.st st115 ?_
  show OwnGoW p e below s Z own_EL _ _ _ T115 (mkF m 98 #[.val (.int p1), .val (.int p2), .val (.int p3), .val (.int p4), .val (.ref b103), .val (.ref b106), .val (.ref b109), .val (.ref b112), .unset, .unset, .unset, .unset, .unset] [(.ref b115)])
  refine OwnGoW.st (fun _ kk => XS.dup X115.here hx rfl (hb hby at_98) rfl rfl kk) ?_
  show OwnGoW p e below s Z own_EL _ _ _ T115 (mkF m 99 #[.val (.int p1), .val (.int p2), .val (.int p3), .val (.int p4), .val (.ref b103), .val (.ref b106), .val (.ref b109), .val (.ref b112), .unset, .unset, .unset, .unset, .unset] [(.ref b115), (.ref b115)])
  refine OwnGoW.st (fun _ kk => XS.aload X115.here hx rfl (hb hby at_99) rfl rfl  kk) ?_
  show OwnGoW p e below s Z own_EL _ _ _ T115 (mkF m 101 #[.val (.int p1), .val (.int p2), .val (.int p3), .val (.int p4), .val (.ref b103), .val (.ref b106), .val (.ref b109), .val (.ref b112), .unset, .unset, .unset, .unset, .unset] [(.ref b106), (.ref b115), (.ref b115)])
  have hp116 : ∀ c ∈ ([rc0, rc1] : List Int32), ¬ c < 0 ∧ ¬ (255 : Int32) < c := by
    intro c hc
    simp only [List.mem_cons, List.not_mem_nil, or_false] at hc
    rcases hc with rfl | rfl
    · exact hp_rc0
    · exact hp_rc1
  obtain ⟨_, _, ⟨T117, L117, k117, n117⟩, -, X117, ⟨Lc117, hQ117, l117, y117, z117⟩, st117⟩ := X115.specialBack hx (y := (⟨"java/lang/String", "<init>", "([C)V"⟩ : MethodName)) rfl hown (mvT hZ (hw _ (List.mem_of_getElem? (i := 4) rfl))) (mvT hZ (hw _ (List.mem_of_getElem? (i := 5) rfl))) (mvT hZ (hw _ (List.mem_of_getElem? (i := 6) rfl))) (by decide) (StrChars.Road.backV (W := 1) hZ (own_ws hw) (kI := 4) (hw _ (List.mem_of_getElem? (i := 2) rfl)) (cs := ([rc0, rc1] : List Int32)) (bs := ([rc0, rc1] : List Int32).map (fun c => c.toInt8.toInt32)) (n := 2) g_b115 Z_ E_b115 F_value_b115 F_coder_b115 V_b106 (S_CS.ext O_.2) P_CS rfl rfl (by decide) (by decide) hp116 rfl (by decide) (by decide)) (g := (mkF m 101 #[.val (.int p1), .val (.int p2), .val (.int p3), .val (.int p4), .val (.ref b103), .val (.ref b106), .val (.ref b109), .val (.ref b112), .unset, .unset, .unset, .unset, .unset] [(.ref b106), (.ref b115), (.ref b115)])) rfl (by rw [hml]; rfl) (Steps.refl _) (a := b115) (argsL := [(.ref b106)]) (rest := [(.ref b115)]) (lenOf pd_20 rfl) rfl (by show 2 * 0 + _ ≤ _; exact Nat.le_of_eq rfl) (hb hby at_101) (fun _ _ => ⟨rfl, e115, (by decide : 6 + 1 ≤ _), (by decide : 16 + 2 ≤ _)⟩)
  dsimp only [Pt.U, Pt.locs, Pt.cells, Pt.slots] at X117 l117 y117 z117 st117 hQ117
  subst l117 y117 z117
  obtain ⟨rfl, N117q, K117, Ex117, Fc_b115, t117, kb117, gt117, zz117, nt117, Fv_b115, V117⟩ := hQ117
  have N117 := Fr.app N114 N117q
  have zt117 : h115.size ≤ t117 := zz117
  have ne_b103_t117 : b103 ≠ t117 := Nat.ne_of_lt (Nat.lt_of_lt_of_le V_b103.lt zt117)
  have ne_b106_t117 : b106 ≠ t117 := Nat.ne_of_lt (Nat.lt_of_lt_of_le V_b106.lt zt117)
  have ne_b109_t117 : b109 ≠ t117 := Nat.ne_of_lt (Nat.lt_of_lt_of_le V_b109.lt zt117)
  have ne_b112_t117 : b112 ≠ t117 := Nat.ne_of_lt (Nat.lt_of_lt_of_le E_b112.lt zt117)
  have ne_t114_t117 : t114 ≠ t117 := Nat.ne_of_lt (Nat.lt_of_lt_of_le V114.lt zt117)
  have ne_b115_t117 : b115 ≠ t117 := Nat.ne_of_lt (Nat.lt_of_lt_of_le E_b115.lt zt117)
  have g_t117 : n0 ≤ t117 := Nat.le_trans Z_ zt117
  have V117 : Arv Z T117.heap t117 kb117 .byte (2 : Int32) [(.int rc0.toInt8.toInt32), (.int rc1.toInt8.toInt32)] (.int (0 : Int32)) := V117
  have Z_ : n0 ≤ T117.heap.size := Nat.le_trans Z_ K117.1
  have V_b103 := V_b103.keep K117 (ninS ne_b103_b115 nin0)
  have E_b103 := E_b103.keep K117
  have V_b106 := V_b106.keep K117 (ninS ne_b106_b115 nin0)
  have E_b106 := E_b106.keep K117
  have V_b109 := V_b109.keep K117 (ninS ne_b109_b115 nin0)
  have E_b109 := E_b109.keep K117
  have E_b112 := E_b112.keep K117
  have Fc_b112 := Fc_b112.keep K117 (ninS ne_b112_b115 nin0)
  have Fv_b112 := Fv_b112.keep K117 (ninS ne_b112_b115 nin0)
  have V114 := V114.keep K117 (ninS ne_t114_b115 nin0)
  have E_b115 := E_b115.keep K117
  have O_ := O_.keep K117 (allS g_b115 all0)
  have sf_b103' := Safe.keep K117 (sfS sf_b115 sf0) CR.1 sf_b103
  have sf_b106' := Safe.keep K117 (sfS sf_b115 sf0) CR.1 sf_b106
  have sf_b109' := Safe.keep K117 (sfS sf_b115 sf0) CR.1 sf_b109
  have sf_b112' := Safe.keep K117 (sfS sf_b115 sf0) CR.1 sf_b112
  have sf_b115' := Safe.keep K117 (sfS sf_b115 sf0) CR.1 sf_b115
  have CR := CR.trans (CHr.keep K117 (sfS sf_b115 sf0) CR.1)
  have hk_ := Nat.le_trans hk_ K117.1
  have sf_b103 := sf_b103'
  have sf_b106 := sf_b106'
  have sf_b109 := sf_b109'
  have sf_b112 := sf_b112'
  have sf_b115 := sf_b115'
  refine OwnGoW.st (fun _ kk => st117.trans kk) ?_
  show OwnGoW p e below s Z own_EL _ _ _ T117 (mkF m 104 #[.val (.int p1), .val (.int p2), .val (.int p3), .val (.int p4), .val (.ref b103), .val (.ref b106), .val (.ref b109), .val (.ref b112), .unset, .unset, .unset, .unset, .unset] [(.ref b115)])
  refine OwnGoW.st (fun _ kk => XS.astore X117.here hx rfl (hb hby at_104) rfl rfl (l' := #[.val (.int p1), .val (.int p2), .val (.int p3), .val (.int p4), .val (.ref b103), .val (.ref b106), .val (.ref b109), .val (.ref b112), .val (.ref b115), .unset, .unset, .unset, .unset]) rfl kk) ?_
  show OwnGoW p e below s Z own_EL _ _ _ T117 (mkF m 106 #[.val (.int p1), .val (.int p2), .val (.int p3), .val (.int p4), .val (.ref b103), .val (.ref b106), .val (.ref b109), .val (.ref b112), .val (.ref b115), .unset, .unset, .unset, .unset] [])
  obtain ⟨T118, h118, X118, e118, E118, A118, D118, -, st118⟩ := newO X117 hx hZ hown (hw _ (List.mem_of_getElem? (i := 1) rfl)) (hw _ (List.mem_of_getElem? (i := 2) rfl)) (hw _ (List.mem_of_getElem? (i := 3) rfl)) rfl (g := (mkF m 106 #[.val (.int p1), .val (.int p2), .val (.int p3), .val (.int p4), .val (.ref b103), .val (.ref b106), .val (.ref b109), .val (.ref b112), .val (.ref b115), .unset, .unset, .unset, .unset] [])) rfl (hb hby at_106) (by decide) (by decide)
  obtain ⟨b118, g118⟩ : ∃ z, z = T117.heap.size := ⟨_, rfl⟩
  rw [← g118] at A118 D118 st118
  have ne_b103_b118 : b103 ≠ b118 := Nat.ne_of_lt (Nat.lt_of_lt_of_le V_b103.lt (Nat.le_of_eq g118.symm))
  have ne_b106_b118 : b106 ≠ b118 := Nat.ne_of_lt (Nat.lt_of_lt_of_le V_b106.lt (Nat.le_of_eq g118.symm))
  have ne_b109_b118 : b109 ≠ b118 := Nat.ne_of_lt (Nat.lt_of_lt_of_le V_b109.lt (Nat.le_of_eq g118.symm))
  have ne_b112_b118 : b112 ≠ b118 := Nat.ne_of_lt (Nat.lt_of_lt_of_le E_b112.lt (Nat.le_of_eq g118.symm))
  have ne_t114_b118 : t114 ≠ b118 := Nat.ne_of_lt (Nat.lt_of_lt_of_le V114.lt (Nat.le_of_eq g118.symm))
  have ne_b115_b118 : b115 ≠ b118 := Nat.ne_of_lt (Nat.lt_of_lt_of_le E_b115.lt (Nat.le_of_eq g118.symm))
  have ne_t117_b118 : t117 ≠ b118 := Nat.ne_of_lt (Nat.lt_of_lt_of_le V117.lt (Nat.le_of_eq g118.symm))
  have g_b118 : n0 ≤ b118 := Nat.le_trans Z_ (Nat.le_of_eq g118.symm)
  have sf_b118 : Safe Z own_EL s.vm T117.heap b118 := Safe.new (Nat.le_of_eq g118.symm)
  have V_b103 := V_b103.ext E118
  have E_b103 := E_b103.ext E118
  have V_b106 := V_b106.ext E118
  have E_b106 := E_b106.ext E118
  have V_b109 := V_b109.ext E118
  have E_b109 := E_b109.ext E118
  have E_b112 := E_b112.ext E118
  have Fc_b112 := Fc_b112.ext E118
  have Fv_b112 := Fv_b112.ext E118
  have V114 := V114.ext E118
  have E_b115 := E_b115.ext E118
  have Fc_b115 := Fc_b115.ext E118
  have Fv_b115 := Fv_b115.ext E118
  have V117 := V117.ext E118
  have O_ := O_.ext E118
  have sf_b103 := Safe.ext E118 CR.1 sf_b103
  have sf_b106 := Safe.ext E118 CR.1 sf_b106
  have sf_b109 := Safe.ext E118 CR.1 sf_b109
  have sf_b112 := Safe.ext E118 CR.1 sf_b112
  have sf_b115 := Safe.ext E118 CR.1 sf_b115
  have sf_b118 := Safe.ext E118 CR.1 sf_b118
  have CR := CR.trans (CHr.ext E118 CR.1)
  have hk_ := Nat.le_trans hk_ E118.1
  have Z_ : n0 ≤ h118.size := Nat.le_trans Z_ E118.1
  have E_b118 := A118
  have F_coder_b118 : Fld Z h118 b118 "java/lang/String" "coder" "B" (.int (0 : Int32)) := D118 (Or.inr (hw _ (List.mem_of_getElem? (i := 27) rfl))) (ty := .byte) (by decide)
  have F_value_b118 : Fld Z h118 b118 "java/lang/String" "value" "[B" .null := D118 (Or.inr (hw _ (List.mem_of_getElem? (i := 29) rfl))) (ty := (.array .byte)) (by decide)
  refine OwnGoW.st st118 ?_
  show OwnGoW p e below s Z own_EL _ _ _ T118 (mkF m 109 #[.val (.int p1), .val (.int p2), .val (.int p3), .val (.int p4), .val (.ref b103), .val (.ref b106), .val (.ref b109), .val (.ref b112), .val (.ref b115), .unset, .unset, .unset, .unset] [(.ref b118)])
  refine OwnGoW.st (fun _ kk => XS.dup X118.here hx rfl (hb hby at_109) rfl rfl kk) ?_
  show OwnGoW p e below s Z own_EL _ _ _ T118 (mkF m 110 #[.val (.int p1), .val (.int p2), .val (.int p3), .val (.int p4), .val (.ref b103), .val (.ref b106), .val (.ref b109), .val (.ref b112), .val (.ref b115), .unset, .unset, .unset, .unset] [(.ref b118), (.ref b118)])
  refine OwnGoW.st (fun _ kk => XS.aload X118.here hx rfl (hb hby at_110) rfl rfl  kk) ?_
  show OwnGoW p e below s Z own_EL _ _ _ T118 (mkF m 112 #[.val (.int p1), .val (.int p2), .val (.int p3), .val (.int p4), .val (.ref b103), .val (.ref b106), .val (.ref b109), .val (.ref b112), .val (.ref b115), .unset, .unset, .unset, .unset] [(.ref b109), (.ref b118), (.ref b118)])
  have hp119 : ∀ c ∈ ([pc0, pc1] : List Int32), ¬ c < 0 ∧ ¬ (255 : Int32) < c := by
    intro c hc
    simp only [List.mem_cons, List.not_mem_nil, or_false] at hc
    rcases hc with rfl | rfl
    · exact hp_pc0
    · exact hp_pc1
  obtain ⟨_, _, ⟨T120, L120, k120, n120⟩, -, X120, ⟨Lc120, hQ120, l120, y120, z120⟩, st120⟩ := X118.specialBack hx (y := (⟨"java/lang/String", "<init>", "([C)V"⟩ : MethodName)) rfl hown (mvT hZ (hw _ (List.mem_of_getElem? (i := 4) rfl))) (mvT hZ (hw _ (List.mem_of_getElem? (i := 5) rfl))) (mvT hZ (hw _ (List.mem_of_getElem? (i := 6) rfl))) (by decide) (StrChars.Road.backV (W := 1) hZ (own_ws hw) (kI := 4) (hw _ (List.mem_of_getElem? (i := 2) rfl)) (cs := ([pc0, pc1] : List Int32)) (bs := ([pc0, pc1] : List Int32).map (fun c => c.toInt8.toInt32)) (n := 2) g_b118 Z_ E_b118 F_value_b118 F_coder_b118 V_b109 (S_CS.ext O_.2) P_CS rfl rfl (by decide) (by decide) hp119 rfl (by decide) (by decide)) (g := (mkF m 112 #[.val (.int p1), .val (.int p2), .val (.int p3), .val (.int p4), .val (.ref b103), .val (.ref b106), .val (.ref b109), .val (.ref b112), .val (.ref b115), .unset, .unset, .unset, .unset] [(.ref b109), (.ref b118), (.ref b118)])) rfl (by rw [hml]; rfl) (Steps.refl _) (a := b118) (argsL := [(.ref b109)]) (rest := [(.ref b118)]) (lenOf pd_20 rfl) rfl (by show 2 * 0 + _ ≤ _; exact Nat.le_of_eq rfl) (hb hby at_112) (fun _ _ => ⟨rfl, e118, (by decide : 8 + 1 ≤ _), (by decide : 22 + 2 ≤ _)⟩)
  dsimp only [Pt.U, Pt.locs, Pt.cells, Pt.slots] at X120 l120 y120 z120 st120 hQ120
  subst l120 y120 z120
  obtain ⟨rfl, N120q, K120, Ex120, Fc_b118, t120, kb120, gt120, zz120, nt120, Fv_b118, V120⟩ := hQ120
  have N120 := Fr.app N117 N120q
  have zt120 : h118.size ≤ t120 := zz120
  have ne_b103_t120 : b103 ≠ t120 := Nat.ne_of_lt (Nat.lt_of_lt_of_le V_b103.lt zt120)
  have ne_b106_t120 : b106 ≠ t120 := Nat.ne_of_lt (Nat.lt_of_lt_of_le V_b106.lt zt120)
  have ne_b109_t120 : b109 ≠ t120 := Nat.ne_of_lt (Nat.lt_of_lt_of_le V_b109.lt zt120)
  have ne_b112_t120 : b112 ≠ t120 := Nat.ne_of_lt (Nat.lt_of_lt_of_le E_b112.lt zt120)
  have ne_t114_t120 : t114 ≠ t120 := Nat.ne_of_lt (Nat.lt_of_lt_of_le V114.lt zt120)
  have ne_b115_t120 : b115 ≠ t120 := Nat.ne_of_lt (Nat.lt_of_lt_of_le E_b115.lt zt120)
  have ne_t117_t120 : t117 ≠ t120 := Nat.ne_of_lt (Nat.lt_of_lt_of_le V117.lt zt120)
  have ne_b118_t120 : b118 ≠ t120 := Nat.ne_of_lt (Nat.lt_of_lt_of_le E_b118.lt zt120)
  have g_t120 : n0 ≤ t120 := Nat.le_trans Z_ zt120
  have V120 : Arv Z T120.heap t120 kb120 .byte (2 : Int32) [(.int pc0.toInt8.toInt32), (.int pc1.toInt8.toInt32)] (.int (0 : Int32)) := V120
  have Z_ : n0 ≤ T120.heap.size := Nat.le_trans Z_ K120.1
  have V_b103 := V_b103.keep K120 (ninS ne_b103_b118 nin0)
  have E_b103 := E_b103.keep K120
  have V_b106 := V_b106.keep K120 (ninS ne_b106_b118 nin0)
  have E_b106 := E_b106.keep K120
  have V_b109 := V_b109.keep K120 (ninS ne_b109_b118 nin0)
  have E_b109 := E_b109.keep K120
  have E_b112 := E_b112.keep K120
  have Fc_b112 := Fc_b112.keep K120 (ninS ne_b112_b118 nin0)
  have Fv_b112 := Fv_b112.keep K120 (ninS ne_b112_b118 nin0)
  have V114 := V114.keep K120 (ninS ne_t114_b118 nin0)
  have E_b115 := E_b115.keep K120
  have Fc_b115 := Fc_b115.keep K120 (ninS ne_b115_b118 nin0)
  have Fv_b115 := Fv_b115.keep K120 (ninS ne_b115_b118 nin0)
  have V117 := V117.keep K120 (ninS ne_t117_b118 nin0)
  have E_b118 := E_b118.keep K120
  have O_ := O_.keep K120 (allS g_b118 all0)
  have sf_b103' := Safe.keep K120 (sfS sf_b118 sf0) CR.1 sf_b103
  have sf_b106' := Safe.keep K120 (sfS sf_b118 sf0) CR.1 sf_b106
  have sf_b109' := Safe.keep K120 (sfS sf_b118 sf0) CR.1 sf_b109
  have sf_b112' := Safe.keep K120 (sfS sf_b118 sf0) CR.1 sf_b112
  have sf_b115' := Safe.keep K120 (sfS sf_b118 sf0) CR.1 sf_b115
  have sf_b118' := Safe.keep K120 (sfS sf_b118 sf0) CR.1 sf_b118
  have CR := CR.trans (CHr.keep K120 (sfS sf_b118 sf0) CR.1)
  have hk_ := Nat.le_trans hk_ K120.1
  have sf_b103 := sf_b103'
  have sf_b106 := sf_b106'
  have sf_b109 := sf_b109'
  have sf_b112 := sf_b112'
  have sf_b115 := sf_b115'
  have sf_b118 := sf_b118'
  refine OwnGoW.st (fun _ kk => st120.trans kk) ?_
  show OwnGoW p e below s Z own_EL _ _ _ T120 (mkF m 115 #[.val (.int p1), .val (.int p2), .val (.int p3), .val (.int p4), .val (.ref b103), .val (.ref b106), .val (.ref b109), .val (.ref b112), .val (.ref b115), .unset, .unset, .unset, .unset] [(.ref b118)])
  refine OwnGoW.st (fun _ kk => XS.astore X120.here hx rfl (hb hby at_115) rfl rfl (l' := #[.val (.int p1), .val (.int p2), .val (.int p3), .val (.int p4), .val (.ref b103), .val (.ref b106), .val (.ref b109), .val (.ref b112), .val (.ref b115), .val (.ref b118), .unset, .unset, .unset]) rfl kk) ?_
  show OwnGoW p e below s Z own_EL _ _ _ T120 (mkF m 117 #[.val (.int p1), .val (.int p2), .val (.int p3), .val (.int p4), .val (.ref b103), .val (.ref b106), .val (.ref b109), .val (.ref b112), .val (.ref b115), .val (.ref b118), .unset, .unset, .unset] [])
  refine OwnGoW.st (fun _ kk => XS.iloadN X120.here hx rfl (hb hby at_117) rfl  kk) ?_
  show OwnGoW p e below s Z own_EL _ _ _ T120 (mkF m 118 #[.val (.int p1), .val (.int p2), .val (.int p3), .val (.int p4), .val (.ref b103), .val (.ref b106), .val (.ref b109), .val (.ref b112), .val (.ref b115), .val (.ref b118), .unset, .unset, .unset] [(.int p4)])
  refine OwnGoW.st (fun _ kk => XS.iconst X120.here hx rfl (hb hby at_118) kk) ?_
  show OwnGoW p e below s Z own_EL _ _ _ T120 (mkF m 119 #[.val (.int p1), .val (.int p2), .val (.int p3), .val (.int p4), .val (.ref b103), .val (.ref b106), .val (.ref b109), .val (.ref b112), .val (.ref b115), .val (.ref b118), .unset, .unset, .unset] [(.int (1 : Int32)), (.int p4)])
  refine OwnGoW.st (fun _ kk => XS.iand X120.here hx rfl (hb hby at_119) rfl kk) ?_
  show OwnGoW p e below s Z own_EL _ _ _ T120 (mkF m 120 #[.val (.int p1), .val (.int p2), .val (.int p3), .val (.int p4), .val (.ref b103), .val (.ref b106), .val (.ref b109), .val (.ref b112), .val (.ref b115), .val (.ref b118), .unset, .unset, .unset] [(.int (p4 &&& (1 : Int32)))])
  by_cases hm : (p4 &&& (1 : Int32)) = (0 : Int32)
  · refine OwnGoW.st (fun _ kk => XS.ifNo X120.here hx rfl (hb hby at_120) rfl ((if0 _ _).trans (teq (hm : (p4 &&& (1 : Int32)) = (0 : Int32))).2) kk) ?_
    show OwnGoW p e below s Z own_EL _ _ _ T120 (mkF m 123 #[.val (.int p1), .val (.int p2), .val (.int p3), .val (.int p4), .val (.ref b103), .val (.ref b106), .val (.ref b109), .val (.ref b112), .val (.ref b115), .val (.ref b118), .unset, .unset, .unset] [])
    refine OwnGoW.st (fun _ kk => XS.iloadN X120.here hx rfl (hb hby at_123) rfl  kk) ?_
    show OwnGoW p e below s Z own_EL _ _ _ T120 (mkF m 124 #[.val (.int p1), .val (.int p2), .val (.int p3), .val (.int p4), .val (.ref b103), .val (.ref b106), .val (.ref b109), .val (.ref b112), .val (.ref b115), .val (.ref b118), .unset, .unset, .unset] [(.int p4)])
    refine OwnGoW.st (fun _ kk => XS.iconst X120.here hx rfl (hb hby at_124) kk) ?_
    show OwnGoW p e below s Z own_EL _ _ _ T120 (mkF m 125 #[.val (.int p1), .val (.int p2), .val (.int p3), .val (.int p4), .val (.ref b103), .val (.ref b106), .val (.ref b109), .val (.ref b112), .val (.ref b115), .val (.ref b118), .unset, .unset, .unset] [(.int (2 : Int32)), (.int p4)])
    refine OwnGoW.st (fun _ kk => XS.iand X120.here hx rfl (hb hby at_125) rfl kk) ?_
    show OwnGoW p e below s Z own_EL _ _ _ T120 (mkF m 126 #[.val (.int p1), .val (.int p2), .val (.int p3), .val (.int p4), .val (.ref b103), .val (.ref b106), .val (.ref b109), .val (.ref b112), .val (.ref b115), .val (.ref b118), .unset, .unset, .unset] [(.int (p4 &&& (2 : Int32)))])
    by_cases hn : (p4 &&& (2 : Int32)) = (0 : Int32)
    · refine OwnGoW.st (fun _ kk => XS.ifYes X120.here hx rfl (pc0 := 126) (pc' := 134) rfl (hb hby at_126) rfl ((if0 _ _).trans (teq (hn : (p4 &&& (2 : Int32)) = (0 : Int32))).1) (by decide) (by decide) kk) ?_
      show OwnGoW p e below s Z own_EL _ _ _ T120 (mkF m 134 #[.val (.int p1), .val (.int p2), .val (.int p3), .val (.int p4), .val (.ref b103), .val (.ref b106), .val (.ref b109), .val (.ref b112), .val (.ref b115), .val (.ref b118), .unset, .unset, .unset] [])
      refine OwnGoW.st (fun _ kk => XS.aload X120.here hx rfl (hb hby at_134) rfl rfl  kk) ?_
      show OwnGoW p e below s Z own_EL _ _ _ T120 (mkF m 136 #[.val (.int p1), .val (.int p2), .val (.int p3), .val (.int p4), .val (.ref b103), .val (.ref b106), .val (.ref b109), .val (.ref b112), .val (.ref b115), .val (.ref b118), .unset, .unset, .unset] [(.ref b118)])
      refine OwnGoW.st (fun _ kk => XS.astore X120.here hx rfl (hb hby at_136) rfl rfl (l' := #[.val (.int p1), .val (.int p2), .val (.int p3), .val (.int p4), .val (.ref b103), .val (.ref b106), .val (.ref b109), .val (.ref b112), .val (.ref b115), .val (.ref b118), .val (.ref b118), .unset, .unset]) rfl kk) ?_
      show OwnGoW p e below s Z own_EL _ _ _ T120 (mkF m 138 #[.val (.int p1), .val (.int p2), .val (.int p3), .val (.int p4), .val (.ref b103), .val (.ref b106), .val (.ref b109), .val (.ref b112), .val (.ref b115), .val (.ref b118), .val (.ref b118), .unset, .unset] [])
      obtain ⟨T121, h121, X121, e121, E121, A121, D121, -, st121⟩ := newO X120 hx hZ hown (hw _ (List.mem_of_getElem? (i := 30) rfl)) (hw _ (List.mem_of_getElem? (i := 31) rfl)) (hw _ (List.mem_of_getElem? (i := 32) rfl)) rfl (g := (mkF m 138 #[.val (.int p1), .val (.int p2), .val (.int p3), .val (.int p4), .val (.ref b103), .val (.ref b106), .val (.ref b109), .val (.ref b112), .val (.ref b115), .val (.ref b118), .val (.ref b118), .unset, .unset] [])) rfl (hb hby at_138) (by decide) (by decide)
      obtain ⟨b121, g121⟩ : ∃ z, z = T120.heap.size := ⟨_, rfl⟩
      rw [← g121] at A121 D121 st121
      have ne_b103_b121 : b103 ≠ b121 := Nat.ne_of_lt (Nat.lt_of_lt_of_le V_b103.lt (Nat.le_of_eq g121.symm))
      have ne_b106_b121 : b106 ≠ b121 := Nat.ne_of_lt (Nat.lt_of_lt_of_le V_b106.lt (Nat.le_of_eq g121.symm))
      have ne_b109_b121 : b109 ≠ b121 := Nat.ne_of_lt (Nat.lt_of_lt_of_le V_b109.lt (Nat.le_of_eq g121.symm))
      have ne_b112_b121 : b112 ≠ b121 := Nat.ne_of_lt (Nat.lt_of_lt_of_le E_b112.lt (Nat.le_of_eq g121.symm))
      have ne_t114_b121 : t114 ≠ b121 := Nat.ne_of_lt (Nat.lt_of_lt_of_le V114.lt (Nat.le_of_eq g121.symm))
      have ne_b115_b121 : b115 ≠ b121 := Nat.ne_of_lt (Nat.lt_of_lt_of_le E_b115.lt (Nat.le_of_eq g121.symm))
      have ne_t117_b121 : t117 ≠ b121 := Nat.ne_of_lt (Nat.lt_of_lt_of_le V117.lt (Nat.le_of_eq g121.symm))
      have ne_b118_b121 : b118 ≠ b121 := Nat.ne_of_lt (Nat.lt_of_lt_of_le E_b118.lt (Nat.le_of_eq g121.symm))
      have ne_t120_b121 : t120 ≠ b121 := Nat.ne_of_lt (Nat.lt_of_lt_of_le V120.lt (Nat.le_of_eq g121.symm))
      have g_b121 : n0 ≤ b121 := Nat.le_trans Z_ (Nat.le_of_eq g121.symm)
      have sf_b121 : Safe Z own_EL s.vm T120.heap b121 := Safe.new (Nat.le_of_eq g121.symm)
      have V_b103 := V_b103.ext E121
      have E_b103 := E_b103.ext E121
      have V_b106 := V_b106.ext E121
      have E_b106 := E_b106.ext E121
      have V_b109 := V_b109.ext E121
      have E_b109 := E_b109.ext E121
      have E_b112 := E_b112.ext E121
      have Fc_b112 := Fc_b112.ext E121
      have Fv_b112 := Fv_b112.ext E121
      have V114 := V114.ext E121
      have E_b115 := E_b115.ext E121
      have Fc_b115 := Fc_b115.ext E121
      have Fv_b115 := Fv_b115.ext E121
      have V117 := V117.ext E121
      have E_b118 := E_b118.ext E121
      have Fc_b118 := Fc_b118.ext E121
      have Fv_b118 := Fv_b118.ext E121
      have V120 := V120.ext E121
      have O_ := O_.ext E121
      have sf_b103 := Safe.ext E121 CR.1 sf_b103
      have sf_b106 := Safe.ext E121 CR.1 sf_b106
      have sf_b109 := Safe.ext E121 CR.1 sf_b109
      have sf_b112 := Safe.ext E121 CR.1 sf_b112
      have sf_b115 := Safe.ext E121 CR.1 sf_b115
      have sf_b118 := Safe.ext E121 CR.1 sf_b118
      have sf_b121 := Safe.ext E121 CR.1 sf_b121
      have CR := CR.trans (CHr.ext E121 CR.1)
      have hk_ := Nat.le_trans hk_ E121.1
      have Z_ : n0 ≤ h121.size := Nat.le_trans Z_ E121.1
      have E_b121 := A121
      have F__segment_b121 : Fld Z h121 b121 "com/example/thorough_factfind/thoroughfactfind/foundation/section/RecordPath" "_segment" "Ljava/lang/String;" .null := D121 (Or.inr (hw _ (List.mem_of_getElem? (i := 155) rfl))) (ty := (.object "java/lang/String")) (by decide)
      have F__record_b121 : Fld Z h121 b121 "com/example/thorough_factfind/thoroughfactfind/foundation/section/RecordPath" "_record" "Ljava/lang/String;" .null := D121 (Or.inr (hw _ (List.mem_of_getElem? (i := 157) rfl))) (ty := (.object "java/lang/String")) (by decide)
      have F__parameter_b121 : Fld Z h121 b121 "com/example/thorough_factfind/thoroughfactfind/foundation/section/RecordPath" "_parameter" "Ljava/lang/String;" .null := D121 (Or.inr (hw _ (List.mem_of_getElem? (i := 159) rfl))) (ty := (.object "java/lang/String")) (by decide)
      refine OwnGoW.st st121 ?_
      show OwnGoW p e below s Z own_EL _ _ _ T121 (mkF m 141 #[.val (.int p1), .val (.int p2), .val (.int p3), .val (.int p4), .val (.ref b103), .val (.ref b106), .val (.ref b109), .val (.ref b112), .val (.ref b115), .val (.ref b118), .val (.ref b118), .unset, .unset] [(.ref b121)])
      refine OwnGoW.st (fun _ kk => XS.dup X121.here hx rfl (hb hby at_141) rfl rfl kk) ?_
      show OwnGoW p e below s Z own_EL _ _ _ T121 (mkF m 142 #[.val (.int p1), .val (.int p2), .val (.int p3), .val (.int p4), .val (.ref b103), .val (.ref b106), .val (.ref b109), .val (.ref b112), .val (.ref b115), .val (.ref b118), .val (.ref b118), .unset, .unset] [(.ref b121), (.ref b121)])
      refine OwnGoW.st (fun _ kk => XS.aload X121.here hx rfl (hb hby at_142) rfl rfl  kk) ?_
      show OwnGoW p e below s Z own_EL _ _ _ T121 (mkF m 144 #[.val (.int p1), .val (.int p2), .val (.int p3), .val (.int p4), .val (.ref b103), .val (.ref b106), .val (.ref b109), .val (.ref b112), .val (.ref b115), .val (.ref b118), .val (.ref b118), .unset, .unset] [(.ref b112), (.ref b121), (.ref b121)])
      refine OwnGoW.st (fun _ kk => XS.aload X121.here hx rfl (hb hby at_144) rfl rfl  kk) ?_
      show OwnGoW p e below s Z own_EL _ _ _ T121 (mkF m 146 #[.val (.int p1), .val (.int p2), .val (.int p3), .val (.int p4), .val (.ref b103), .val (.ref b106), .val (.ref b109), .val (.ref b112), .val (.ref b115), .val (.ref b118), .val (.ref b118), .unset, .unset] [(.ref b115), (.ref b112), (.ref b121), (.ref b121)])
      refine OwnGoW.st (fun _ kk => XS.aload X121.here hx rfl (hb hby at_146) rfl rfl  kk) ?_
      show OwnGoW p e below s Z own_EL _ _ _ T121 (mkF m 148 #[.val (.int p1), .val (.int p2), .val (.int p3), .val (.int p4), .val (.ref b103), .val (.ref b106), .val (.ref b109), .val (.ref b112), .val (.ref b115), .val (.ref b118), .val (.ref b118), .unset, .unset] [(.ref b118), (.ref b115), (.ref b112), (.ref b121), (.ref b121)])
      obtain ⟨_, _, ⟨T122, L122, k122, n122⟩, -, X122, hS122, hg122, ⟨Lc122, hQ122, l122, y122, z122, CN122⟩, st122⟩ := Stand.specialBackS (s := s.setVm s.vm) X121 hx (y := (⟨"com/example/thorough_factfind/thoroughfactfind/foundation/section/RecordPath", "<init>", "(Ljava/lang/String;Ljava/lang/String;Ljava/lang/String;)V"⟩ : MethodName)) rfl hown (mvT hZ (hw _ (List.mem_of_getElem? (i := 189) rfl))) (mvT hZ (hw _ (List.mem_of_getElem? (i := 150) rfl))) (mvT hZ (hw _ (List.mem_of_getElem? (i := 151) rfl))) (by decide) (backOfSH (s := s) (vm0 := s.vm) (W := 1) (rmrp3 l Z a0 hw [] b121 b112 t114 kb114 sc0.toInt8.toInt32 sc1.toInt8.toInt32 b115 b118 zc fmv h121 n0 Z_ O_ S_CS P_CS S_SF rf_fmv E_b121 F__segment_b121 F__record_b121 F__parameter_b121 g_b121 E_b112 Fc_b112 Fv_b112 V114) hZ (hw _ (List.mem_of_getElem? (i := 151) rfl)) (hw _ (List.mem_of_getElem? (i := 32) rfl)) (by decide) (by decide) (own_hEL hw) CR.1) (g := (mkF m 148 #[.val (.int p1), .val (.int p2), .val (.int p3), .val (.int p4), .val (.ref b103), .val (.ref b106), .val (.ref b109), .val (.ref b112), .val (.ref b115), .val (.ref b118), .val (.ref b118), .unset, .unset] [(.ref b118), (.ref b115), (.ref b112), (.ref b121), (.ref b121)])) rfl (by rw [hml]; rfl) (Steps.refl _) (a := b121) (argsL := [(.ref b112), (.ref b115), (.ref b118)]) (rest := [(.ref b121)]) (lenOf pd_19 rfl) rfl (by show 2 * 0 + _ ≤ _; exact Nat.le_of_eq rfl) (hb hby at_148) (fun _ _ => ⟨rfl, e121, (by decide : 10 + 20 ≤ _), (by decide : 27 + 200 ≤ _)⟩)
      dsimp only [Pt.U, Pt.locs, Pt.cells, Pt.slots] at X122 hS122 hg122 l122 y122 z122 CN122 st122 hQ122
      subst l122 y122 z122
      obtain ⟨X122, hS_, hZ, hown⟩ := rebS hS_ (show _ ≤ T121.heap.size by rw [(e121 : T121.heap = h121)]; exact hk_) X122 hS122 hg122 hZ hown
      obtain ⟨rfl, N122q, K122, Eo122, Fp122⟩ := hQ122
      have N122 := Fr.app N120 N122q
      have lt_b103 : b103 < h121.size := V_b103.lt
      have lt_b106 : b106 < h121.size := V_b106.lt
      have lt_b109 : b109 < h121.size := V_b109.lt
      have lt_b112 : b112 < h121.size := E_b112.lt
      have lt_b115 : b115 < h121.size := E_b115.lt
      have lt_b118 : b118 < h121.size := E_b118.lt
      have lt_b121 : b121 < h121.size := E_b121.lt
      have Z_ : n0 ≤ T122.heap.size := Nat.le_trans Z_ K122.1
      have V_b103 := V_b103.keep K122 (ninS ne_b103_b121 nin0)
      have E_b103 := E_b103.keep K122
      have V_b106 := V_b106.keep K122 (ninS ne_b106_b121 nin0)
      have E_b106 := E_b106.keep K122
      have V_b109 := V_b109.keep K122 (ninS ne_b109_b121 nin0)
      have E_b109 := E_b109.keep K122
      have E_b112 := E_b112.keep K122
      have Fc_b112 := Fc_b112.keep K122 (ninS ne_b112_b121 nin0)
      have Fv_b112 := Fv_b112.keep K122 (ninS ne_b112_b121 nin0)
      have V114 := V114.keep K122 (ninS ne_t114_b121 nin0)
      have E_b115 := E_b115.keep K122
      have Fc_b115 := Fc_b115.keep K122 (ninS ne_b115_b121 nin0)
      have Fv_b115 := Fv_b115.keep K122 (ninS ne_b115_b121 nin0)
      have V117 := V117.keep K122 (ninS ne_t117_b121 nin0)
      have E_b118 := E_b118.keep K122
      have Fc_b118 := Fc_b118.keep K122 (ninS ne_b118_b121 nin0)
      have Fv_b118 := Fv_b118.keep K122 (ninS ne_b118_b121 nin0)
      have V120 := V120.keep K122 (ninS ne_t120_b121 nin0)
      have E_b121 := E_b121.keep K122
      have O_ := O_.keep K122 (allS g_b121 all0)
      have sf_b103 := CN122.safe lt_b103 sf_b103
      have sf_b106 := CN122.safe lt_b106 sf_b106
      have sf_b109 := CN122.safe lt_b109 sf_b109
      have sf_b112 := CN122.safe lt_b112 sf_b112
      have sf_b115 := CN122.safe lt_b115 sf_b115
      have sf_b118 := CN122.safe lt_b118 sf_b118
      have sf_b121 := CN122.safe lt_b121 sf_b121
      have CR := CR.trans CN122
      have hk_ := Nat.le_refl T122.heap.size
      refine OwnGoW.st (fun _ kk => st122.trans kk) ?_
      show OwnGoW p e below s Z own_EL _ _ _ T122 (mkF m 151 #[.val (.int p1), .val (.int p2), .val (.int p3), .val (.int p4), .val (.ref b103), .val (.ref b106), .val (.ref b109), .val (.ref b112), .val (.ref b115), .val (.ref b118), .val (.ref b118), .unset, .unset] [(.ref b121)])
      refine OwnGoW.st (fun _ kk => XS.astore X122.here hx rfl (hb hby at_151) rfl rfl (l' := #[.val (.int p1), .val (.int p2), .val (.int p3), .val (.int p4), .val (.ref b103), .val (.ref b106), .val (.ref b109), .val (.ref b112), .val (.ref b115), .val (.ref b118), .val (.ref b118), .val (.ref b121), .unset]) rfl kk) ?_
      show OwnGoW p e below s Z own_EL _ _ _ T122 (mkF m 153 #[.val (.int p1), .val (.int p2), .val (.int p3), .val (.int p4), .val (.ref b103), .val (.ref b106), .val (.ref b109), .val (.ref b112), .val (.ref b115), .val (.ref b118), .val (.ref b118), .val (.ref b121), .unset] [])
      refine OwnGoW.st (fun _ kk => XS.aload X122.here hx rfl (hb hby at_153) rfl rfl  kk) ?_
      show OwnGoW p e below s Z own_EL _ _ _ T122 (mkF m 155 #[.val (.int p1), .val (.int p2), .val (.int p3), .val (.int p4), .val (.ref b103), .val (.ref b106), .val (.ref b109), .val (.ref b112), .val (.ref b115), .val (.ref b118), .val (.ref b118), .val (.ref b121), .unset] [(.ref b121)])
      obtain ⟨cq123, kq123, q123a, q123b, q123c⟩ := isOf hZ rfl E_b121
      obtain ⟨_, _, ⟨T123, L123, k123, n123⟩, -, X123, ⟨Lc123, hQ123, l123, y123, z123⟩, st123⟩ := X122.virtualBack hx (y := (⟨"com/example/thorough_factfind/thoroughfactfind/foundation/section/RecordPath", "parameter", "()Ljava/lang/String;"⟩ : MethodName)) (z := (⟨"com/example/thorough_factfind/thoroughfactfind/foundation/section/RecordPath", "parameter", "()Ljava/lang/String;"⟩ : MethodName)) hown (mvT hZ (hw _ (List.mem_of_getElem? (i := 160) rfl))) (mvT hZ (hw _ (List.mem_of_getElem? (i := 161) rfl))) (notFace_of_selects (args := #[]) (mvT hZ (hw _ (List.mem_of_getElem? (i := 163) rfl)))) (mvT hZ (hw _ (List.mem_of_getElem? (i := 163) rfl))) (mvT hZ (hw _ (List.mem_of_getElem? (i := 162) rfl))) (by decide) (backOf (W := 0) (rmpar l Z a0 hw [] b121 b118 T122.heap n0 Z_ Fp122) hZ (hw _ (List.mem_of_getElem? (i := 164) rfl)) (hw _ (List.mem_of_getElem? (i := 32) rfl)) (by decide) (by decide)) q123a q123c (g := (mkF m 155 #[.val (.int p1), .val (.int p2), .val (.int p3), .val (.int p4), .val (.ref b103), .val (.ref b106), .val (.ref b109), .val (.ref b112), .val (.ref b115), .val (.ref b118), .val (.ref b118), .val (.ref b121), .unset] [(.ref b121)])) rfl (by rw [hml]; rfl) (Steps.refl _) (argsL := []) (rest := []) (lenOf pd_18 rfl) rfl (by show 2 * 0 + _ ≤ _; exact Nat.le_of_eq rfl) (hb hby at_155) (fun _ _ => ⟨rfl, rfl, (by decide : 30 + 0 ≤ _), (by decide : 227 + 0 ≤ _)⟩)
      dsimp only [Pt.U, Pt.locs, Pt.cells, Pt.slots] at X123 l123 y123 z123 st123 hQ123
      subst l123 y123 z123
      obtain ⟨rfl, N123q, e123⟩ := hQ123
      have N123 := Fr.app N122 N123q
      refine OwnGoW.st (fun _ kk => st123.trans kk) ?_
      show OwnGoW p e below s Z own_EL _ _ _ T123 (mkF m 158 #[.val (.int p1), .val (.int p2), .val (.int p3), .val (.int p4), .val (.ref b103), .val (.ref b106), .val (.ref b109), .val (.ref b112), .val (.ref b115), .val (.ref b118), .val (.ref b118), .val (.ref b121), .unset] [(.ref b118)])
      refine OwnGoW.st (fun _ kk => XS.astore X123.here hx rfl (hb hby at_158) rfl rfl (l' := #[.val (.int p1), .val (.int p2), .val (.int p3), .val (.int p4), .val (.ref b103), .val (.ref b106), .val (.ref b109), .val (.ref b112), .val (.ref b115), .val (.ref b118), .val (.ref b118), .val (.ref b121), .val (.ref b118)]) rfl kk) ?_
      show OwnGoW p e below s Z own_EL _ _ _ T123 (mkF m 160 #[.val (.int p1), .val (.int p2), .val (.int p3), .val (.int p4), .val (.ref b103), .val (.ref b106), .val (.ref b109), .val (.ref b112), .val (.ref b115), .val (.ref b118), .val (.ref b118), .val (.ref b121), .val (.ref b118)] [])
      refine OwnGoW.st (fun _ kk => XS.aload X123.here hx rfl (hb hby at_160) rfl rfl  kk) ?_
      show OwnGoW p e below s Z own_EL _ _ _ T123 (mkF m 162 #[.val (.int p1), .val (.int p2), .val (.int p3), .val (.int p4), .val (.ref b103), .val (.ref b106), .val (.ref b109), .val (.ref b112), .val (.ref b115), .val (.ref b118), .val (.ref b118), .val (.ref b121), .val (.ref b118)] [(.ref b118)])
      refine OwnGoW.st (fun _ kk => XS.ifnullNo X123.here hx rfl (hb hby at_162) rfl kk) ?_
      show OwnGoW p e below s Z own_EL _ _ _ T123 (mkF m 165 #[.val (.int p1), .val (.int p2), .val (.int p3), .val (.int p4), .val (.ref b103), .val (.ref b106), .val (.ref b109), .val (.ref b112), .val (.ref b115), .val (.ref b118), .val (.ref b118), .val (.ref b121), .val (.ref b118)] [])
      refine OwnGoW.st (fun _ kk => XS.aload X123.here hx rfl (hb hby at_165) rfl rfl  kk) ?_
      show OwnGoW p e below s Z own_EL _ _ _ T123 (mkF m 167 #[.val (.int p1), .val (.int p2), .val (.int p3), .val (.int p4), .val (.ref b103), .val (.ref b106), .val (.ref b109), .val (.ref b112), .val (.ref b115), .val (.ref b118), .val (.ref b118), .val (.ref b121), .val (.ref b118)] [(.ref b118)])
      refine OwnGoW.st (fun _ kk => XS.aload X123.here hx rfl (hb hby at_167) rfl rfl  kk) ?_
      show OwnGoW p e below s Z own_EL _ _ _ T123 (mkF m 169 #[.val (.int p1), .val (.int p2), .val (.int p3), .val (.int p4), .val (.ref b103), .val (.ref b106), .val (.ref b109), .val (.ref b112), .val (.ref b115), .val (.ref b118), .val (.ref b118), .val (.ref b121), .val (.ref b118)] [(.ref b118), (.ref b118)])
      obtain ⟨cq124, kq124, q124a, q124b, q124c⟩ := isOf hZ e123 E_b118
      obtain ⟨_, _, ⟨T124, L124, k124, n124⟩, -, X124, ⟨Lc124, hQ124, l124, y124, z124⟩, st124⟩ := X123.virtualBack hx (y := (⟨"java/lang/String", "equals", "(Ljava/lang/Object;)Z"⟩ : MethodName)) (z := (⟨"java/lang/String", "equals", "(Ljava/lang/Object;)Z"⟩ : MethodName)) hown (mvT hZ (hw _ (List.mem_of_getElem? (i := 190) rfl))) (mvT hZ (hw _ (List.mem_of_getElem? (i := 191) rfl))) (notFace_of_selects (args := #[]) (mvT hZ (hw _ (List.mem_of_getElem? (i := 193) rfl)))) (mvT hZ (hw _ (List.mem_of_getElem? (i := 193) rfl))) (mvT hZ (hw _ (List.mem_of_getElem? (i := 192) rfl))) (by decide) (backOf (W := 0) (rmeq l Z a0 hw [] b118 T122.heap n0 Z_ ) hZ (hw _ (List.mem_of_getElem? (i := 194) rfl)) (hw _ (List.mem_of_getElem? (i := 3) rfl)) (by decide) (by decide)) q124a q124c (g := (mkF m 169 #[.val (.int p1), .val (.int p2), .val (.int p3), .val (.int p4), .val (.ref b103), .val (.ref b106), .val (.ref b109), .val (.ref b112), .val (.ref b115), .val (.ref b118), .val (.ref b118), .val (.ref b121), .val (.ref b118)] [(.ref b118), (.ref b118)])) rfl (by rw [hml]; rfl) (Steps.refl _) (argsL := [(.ref b118)]) (rest := []) (lenOf pd_21 rfl) rfl (by show 2 * 0 + _ ≤ _; exact Nat.le_of_eq rfl) (hb hby at_169) (fun _ _ => ⟨rfl, e123, (by decide : 30 + 0 ≤ _), (by decide : 227 + 0 ≤ _)⟩)
      dsimp only [Pt.U, Pt.locs, Pt.cells, Pt.slots] at X124 l124 y124 z124 st124 hQ124
      subst l124 y124 z124
      obtain ⟨rfl, N124q, e124⟩ := hQ124
      have N124 := Fr.app N123 N124q
      refine OwnGoW.st (fun _ kk => st124.trans kk) ?_
      show OwnGoW p e below s Z own_EL _ _ _ T124 (mkF m 172 #[.val (.int p1), .val (.int p2), .val (.int p3), .val (.int p4), .val (.ref b103), .val (.ref b106), .val (.ref b109), .val (.ref b112), .val (.ref b115), .val (.ref b118), .val (.ref b118), .val (.ref b121), .val (.ref b118)] [(.int (1 : Int32))])
      refine OwnGoW.st (fun _ kk => XS.ifNo X124.here hx rfl (hb hby at_172) rfl ((if0 _ _).trans (feq ((by decide) : ¬ ((1 : Int32) = (0 : Int32)))).1) kk) ?_
      show OwnGoW p e below s Z own_EL _ _ _ T124 (mkF m 175 #[.val (.int p1), .val (.int p2), .val (.int p3), .val (.int p4), .val (.ref b103), .val (.ref b106), .val (.ref b109), .val (.ref b112), .val (.ref b115), .val (.ref b118), .val (.ref b118), .val (.ref b121), .val (.ref b118)] [])
      refine OwnGoW.st (fun _ kk => XS.iconst X124.here hx rfl (hb hby at_175) kk) ?_
      show OwnGoW p e below s Z own_EL _ _ _ T124 (mkF m 176 #[.val (.int p1), .val (.int p2), .val (.int p3), .val (.int p4), .val (.ref b103), .val (.ref b106), .val (.ref b109), .val (.ref b112), .val (.ref b115), .val (.ref b118), .val (.ref b118), .val (.ref b121), .val (.ref b118)] [(.int (1 : Int32))])
      refine OwnGoW.st (fun _ kk => XS.goto X124.here hx rfl (pc0 := 176) (pc' := 180) rfl (hb hby at_176) (by decide) (by decide) kk) ?_
      show OwnGoW p e below s Z own_EL _ _ _ T124 (mkF m 180 #[.val (.int p1), .val (.int p2), .val (.int p3), .val (.int p4), .val (.ref b103), .val (.ref b106), .val (.ref b109), .val (.ref b112), .val (.ref b115), .val (.ref b118), .val (.ref b118), .val (.ref b121), .val (.ref b118)] [(.int (1 : Int32))])
      exact OwnGoW.retN (s := s) (vm0 := T122.vm) X124 hS_ hk_ e124 hZ (own_hEL hw) CR hx (t := .boolean) hret hlk (by simp) (hb hby at_180) (by show Q0 Z p1 p2 p3 p4 zc fmv h0 n0 _ T124.heap _; rw [e124]; exact ⟨rfl, N124⟩) (by decide) (by decide)
    · refine OwnGoW.st (fun _ kk => XS.ifNo X120.here hx rfl (hb hby at_126) rfl ((if0 _ _).trans (feq (hn : ¬ ((p4 &&& (2 : Int32)) = (0 : Int32)))).1) kk) ?_
      show OwnGoW p e below s Z own_EL _ _ _ T120 (mkF m 129 #[.val (.int p1), .val (.int p2), .val (.int p3), .val (.int p4), .val (.ref b103), .val (.ref b106), .val (.ref b109), .val (.ref b112), .val (.ref b115), .val (.ref b118), .unset, .unset, .unset] [])
      obtain ⟨a125, T125, h125, k1_125, b125, kc125, X125, e125, E125, hS_, hkN, hZ, hown, Ea, Fc, Fv, Vb, -, -, CN, -, sN, st125⟩ := ldcCH (s := s) (vm0 := s.vm) X120 hx hZ hown (hw _ (List.mem_of_getElem? (i := 188) rfl)) (own_wS hw) rfl hS_ hk_ (own_hEL hw) (by decide) CR.1 (vs := []) (z := (0 : Int32)) ⟨by decide, rfl⟩ (by decide) (by decide) (g := (mkF m 129 #[.val (.int p1), .val (.int p2), .val (.int p3), .val (.int p4), .val (.ref b103), .val (.ref b106), .val (.ref b109), .val (.ref b112), .val (.ref b115), .val (.ref b118), .unset, .unset, .unset] [])) rfl (hb hby at_129) (n := 0) (by decide) (by decide) (by decide) (by decide)
      have lt_b103 : b103 < T120.heap.size := V_b103.lt
      have lt_b106 : b106 < T120.heap.size := V_b106.lt
      have lt_b109 : b109 < T120.heap.size := V_b109.lt
      have lt_b112 : b112 < T120.heap.size := E_b112.lt
      have lt_b115 : b115 < T120.heap.size := E_b115.lt
      have lt_b118 : b118 < T120.heap.size := E_b118.lt
      have V_b103 := V_b103.ext E125
      have E_b103 := E_b103.ext E125
      have V_b106 := V_b106.ext E125
      have E_b106 := E_b106.ext E125
      have V_b109 := V_b109.ext E125
      have E_b109 := E_b109.ext E125
      have E_b112 := E_b112.ext E125
      have Fc_b112 := Fc_b112.ext E125
      have Fv_b112 := Fv_b112.ext E125
      have V114 := V114.ext E125
      have E_b115 := E_b115.ext E125
      have Fc_b115 := Fc_b115.ext E125
      have Fv_b115 := Fv_b115.ext E125
      have V117 := V117.ext E125
      have E_b118 := E_b118.ext E125
      have Fc_b118 := Fc_b118.ext E125
      have Fv_b118 := Fv_b118.ext E125
      have V120 := V120.ext E125
      have O_ := O_.ext E125
      have sf_b103 := CN.safe lt_b103 sf_b103
      have sf_b106 := CN.safe lt_b106 sf_b106
      have sf_b109 := CN.safe lt_b109 sf_b109
      have sf_b112 := CN.safe lt_b112 sf_b112
      have sf_b115 := CN.safe lt_b115 sf_b115
      have sf_b118 := CN.safe lt_b118 sf_b118
      have CR := CR.trans CN
      have hk_ := hkN
      have Z_ : n0 ≤ h125.size := Nat.le_trans Z_ E125.1
      have ne_b103_a125 := (sN _ sf_b103).1
      have ne_b103_b125 := (sN _ sf_b103).2
      have ne_b106_a125 := (sN _ sf_b106).1
      have ne_b106_b125 := (sN _ sf_b106).2
      have ne_b109_a125 := (sN _ sf_b109).1
      have ne_b109_b125 := (sN _ sf_b109).2
      have ne_b112_a125 := (sN _ sf_b112).1
      have ne_b112_b125 := (sN _ sf_b112).2
      have ne_b115_a125 := (sN _ sf_b115).1
      have ne_b115_b125 := (sN _ sf_b115).2
      have ne_b118_a125 := (sN _ sf_b118).1
      have ne_b118_b125 := (sN _ sf_b118).2
      have E_a125 := Ea
      have Fc_a125 := Fc
      have Fv_a125 := Fv
      have V_b125 := Vb
      refine OwnGoW.st st125 ?_
      show OwnGoW p e below s Z own_EL _ _ _ T125 (mkF m 131 #[.val (.int p1), .val (.int p2), .val (.int p3), .val (.int p4), .val (.ref b103), .val (.ref b106), .val (.ref b109), .val (.ref b112), .val (.ref b115), .val (.ref b118), .unset, .unset, .unset] [(.ref a125)])
      refine OwnGoW.st (fun _ kk => XS.goto X125.here hx rfl (pc0 := 131) (pc' := 136) rfl (hb hby at_131) (by decide) (by decide) kk) ?_
      show OwnGoW p e below s Z own_EL _ _ _ T125 (mkF m 136 #[.val (.int p1), .val (.int p2), .val (.int p3), .val (.int p4), .val (.ref b103), .val (.ref b106), .val (.ref b109), .val (.ref b112), .val (.ref b115), .val (.ref b118), .unset, .unset, .unset] [(.ref a125)])
      refine OwnGoW.st (fun _ kk => XS.astore X125.here hx rfl (hb hby at_136) rfl rfl (l' := #[.val (.int p1), .val (.int p2), .val (.int p3), .val (.int p4), .val (.ref b103), .val (.ref b106), .val (.ref b109), .val (.ref b112), .val (.ref b115), .val (.ref b118), .val (.ref a125), .unset, .unset]) rfl kk) ?_
      show OwnGoW p e below s Z own_EL _ _ _ T125 (mkF m 138 #[.val (.int p1), .val (.int p2), .val (.int p3), .val (.int p4), .val (.ref b103), .val (.ref b106), .val (.ref b109), .val (.ref b112), .val (.ref b115), .val (.ref b118), .val (.ref a125), .unset, .unset] [])
      obtain ⟨T126, h126, X126, e126, E126, A126, D126, -, st126⟩ := newO X125 hx hZ hown (hw _ (List.mem_of_getElem? (i := 30) rfl)) (hw _ (List.mem_of_getElem? (i := 31) rfl)) (hw _ (List.mem_of_getElem? (i := 32) rfl)) e125 (g := (mkF m 138 #[.val (.int p1), .val (.int p2), .val (.int p3), .val (.int p4), .val (.ref b103), .val (.ref b106), .val (.ref b109), .val (.ref b112), .val (.ref b115), .val (.ref b118), .val (.ref a125), .unset, .unset] [])) rfl (hb hby at_138) (by decide) (by decide)
      obtain ⟨b126, g126⟩ : ∃ z, z = h125.size := ⟨_, rfl⟩
      rw [← g126] at A126 D126 st126
      have ne_b103_b126 : b103 ≠ b126 := Nat.ne_of_lt (Nat.lt_of_lt_of_le V_b103.lt (Nat.le_of_eq g126.symm))
      have ne_b106_b126 : b106 ≠ b126 := Nat.ne_of_lt (Nat.lt_of_lt_of_le V_b106.lt (Nat.le_of_eq g126.symm))
      have ne_b109_b126 : b109 ≠ b126 := Nat.ne_of_lt (Nat.lt_of_lt_of_le V_b109.lt (Nat.le_of_eq g126.symm))
      have ne_b112_b126 : b112 ≠ b126 := Nat.ne_of_lt (Nat.lt_of_lt_of_le E_b112.lt (Nat.le_of_eq g126.symm))
      have ne_t114_b126 : t114 ≠ b126 := Nat.ne_of_lt (Nat.lt_of_lt_of_le V114.lt (Nat.le_of_eq g126.symm))
      have ne_b115_b126 : b115 ≠ b126 := Nat.ne_of_lt (Nat.lt_of_lt_of_le E_b115.lt (Nat.le_of_eq g126.symm))
      have ne_t117_b126 : t117 ≠ b126 := Nat.ne_of_lt (Nat.lt_of_lt_of_le V117.lt (Nat.le_of_eq g126.symm))
      have ne_b118_b126 : b118 ≠ b126 := Nat.ne_of_lt (Nat.lt_of_lt_of_le E_b118.lt (Nat.le_of_eq g126.symm))
      have ne_t120_b126 : t120 ≠ b126 := Nat.ne_of_lt (Nat.lt_of_lt_of_le V120.lt (Nat.le_of_eq g126.symm))
      have ne_a125_b126 : a125 ≠ b126 := Nat.ne_of_lt (Nat.lt_of_lt_of_le E_a125.lt (Nat.le_of_eq g126.symm))
      have ne_b125_b126 : b125 ≠ b126 := Nat.ne_of_lt (Nat.lt_of_lt_of_le V_b125.lt (Nat.le_of_eq g126.symm))
      have g_b126 : n0 ≤ b126 := Nat.le_trans Z_ (Nat.le_of_eq g126.symm)
      have sf_b126 : Safe Z own_EL T125.vm h125 b126 := Safe.new (Nat.le_of_eq g126.symm)
      have V_b103 := V_b103.ext E126
      have E_b103 := E_b103.ext E126
      have V_b106 := V_b106.ext E126
      have E_b106 := E_b106.ext E126
      have V_b109 := V_b109.ext E126
      have E_b109 := E_b109.ext E126
      have E_b112 := E_b112.ext E126
      have Fc_b112 := Fc_b112.ext E126
      have Fv_b112 := Fv_b112.ext E126
      have V114 := V114.ext E126
      have E_b115 := E_b115.ext E126
      have Fc_b115 := Fc_b115.ext E126
      have Fv_b115 := Fv_b115.ext E126
      have V117 := V117.ext E126
      have E_b118 := E_b118.ext E126
      have Fc_b118 := Fc_b118.ext E126
      have Fv_b118 := Fv_b118.ext E126
      have V120 := V120.ext E126
      have E_a125 := E_a125.ext E126
      have Fc_a125 := Fc_a125.ext E126
      have Fv_a125 := Fv_a125.ext E126
      have V_b125 := V_b125.ext E126
      have O_ := O_.ext E126
      have sf_b103 := Safe.ext E126 CR.1 sf_b103
      have sf_b106 := Safe.ext E126 CR.1 sf_b106
      have sf_b109 := Safe.ext E126 CR.1 sf_b109
      have sf_b112 := Safe.ext E126 CR.1 sf_b112
      have sf_b115 := Safe.ext E126 CR.1 sf_b115
      have sf_b118 := Safe.ext E126 CR.1 sf_b118
      have sf_b126 := Safe.ext E126 CR.1 sf_b126
      have CR := CR.trans (CHr.ext E126 CR.1)
      have hk_ := Nat.le_trans hk_ E126.1
      have Z_ : n0 ≤ h126.size := Nat.le_trans Z_ E126.1
      have E_b126 := A126
      have F__segment_b126 : Fld Z h126 b126 "com/example/thorough_factfind/thoroughfactfind/foundation/section/RecordPath" "_segment" "Ljava/lang/String;" .null := D126 (Or.inr (hw _ (List.mem_of_getElem? (i := 155) rfl))) (ty := (.object "java/lang/String")) (by decide)
      have F__record_b126 : Fld Z h126 b126 "com/example/thorough_factfind/thoroughfactfind/foundation/section/RecordPath" "_record" "Ljava/lang/String;" .null := D126 (Or.inr (hw _ (List.mem_of_getElem? (i := 157) rfl))) (ty := (.object "java/lang/String")) (by decide)
      have F__parameter_b126 : Fld Z h126 b126 "com/example/thorough_factfind/thoroughfactfind/foundation/section/RecordPath" "_parameter" "Ljava/lang/String;" .null := D126 (Or.inr (hw _ (List.mem_of_getElem? (i := 159) rfl))) (ty := (.object "java/lang/String")) (by decide)
      refine OwnGoW.st st126 ?_
      show OwnGoW p e below s Z own_EL _ _ _ T126 (mkF m 141 #[.val (.int p1), .val (.int p2), .val (.int p3), .val (.int p4), .val (.ref b103), .val (.ref b106), .val (.ref b109), .val (.ref b112), .val (.ref b115), .val (.ref b118), .val (.ref a125), .unset, .unset] [(.ref b126)])
      refine OwnGoW.st (fun _ kk => XS.dup X126.here hx rfl (hb hby at_141) rfl rfl kk) ?_
      show OwnGoW p e below s Z own_EL _ _ _ T126 (mkF m 142 #[.val (.int p1), .val (.int p2), .val (.int p3), .val (.int p4), .val (.ref b103), .val (.ref b106), .val (.ref b109), .val (.ref b112), .val (.ref b115), .val (.ref b118), .val (.ref a125), .unset, .unset] [(.ref b126), (.ref b126)])
      refine OwnGoW.st (fun _ kk => XS.aload X126.here hx rfl (hb hby at_142) rfl rfl  kk) ?_
      show OwnGoW p e below s Z own_EL _ _ _ T126 (mkF m 144 #[.val (.int p1), .val (.int p2), .val (.int p3), .val (.int p4), .val (.ref b103), .val (.ref b106), .val (.ref b109), .val (.ref b112), .val (.ref b115), .val (.ref b118), .val (.ref a125), .unset, .unset] [(.ref b112), (.ref b126), (.ref b126)])
      refine OwnGoW.st (fun _ kk => XS.aload X126.here hx rfl (hb hby at_144) rfl rfl  kk) ?_
      show OwnGoW p e below s Z own_EL _ _ _ T126 (mkF m 146 #[.val (.int p1), .val (.int p2), .val (.int p3), .val (.int p4), .val (.ref b103), .val (.ref b106), .val (.ref b109), .val (.ref b112), .val (.ref b115), .val (.ref b118), .val (.ref a125), .unset, .unset] [(.ref b115), (.ref b112), (.ref b126), (.ref b126)])
      refine OwnGoW.st (fun _ kk => XS.aload X126.here hx rfl (hb hby at_146) rfl rfl  kk) ?_
      show OwnGoW p e below s Z own_EL _ _ _ T126 (mkF m 148 #[.val (.int p1), .val (.int p2), .val (.int p3), .val (.int p4), .val (.ref b103), .val (.ref b106), .val (.ref b109), .val (.ref b112), .val (.ref b115), .val (.ref b118), .val (.ref a125), .unset, .unset] [(.ref a125), (.ref b115), (.ref b112), (.ref b126), (.ref b126)])
      obtain ⟨_, _, ⟨T127, L127, k127, n127⟩, -, X127, hS127, hg127, ⟨Lc127, hQ127, l127, y127, z127, CN127⟩, st127⟩ := Stand.specialBackS (s := s.setVm T125.vm) X126 hx (y := (⟨"com/example/thorough_factfind/thoroughfactfind/foundation/section/RecordPath", "<init>", "(Ljava/lang/String;Ljava/lang/String;Ljava/lang/String;)V"⟩ : MethodName)) rfl hown (mvT hZ (hw _ (List.mem_of_getElem? (i := 189) rfl))) (mvT hZ (hw _ (List.mem_of_getElem? (i := 150) rfl))) (mvT hZ (hw _ (List.mem_of_getElem? (i := 151) rfl))) (by decide) (backOfSH (s := s) (vm0 := T125.vm) (W := 1) (rmrp3 l Z a0 hw [] b126 b112 t114 kb114 sc0.toInt8.toInt32 sc1.toInt8.toInt32 b115 a125 zc fmv h126 n0 Z_ O_ S_CS P_CS S_SF rf_fmv E_b126 F__segment_b126 F__record_b126 F__parameter_b126 g_b126 E_b112 Fc_b112 Fv_b112 V114) hZ (hw _ (List.mem_of_getElem? (i := 151) rfl)) (hw _ (List.mem_of_getElem? (i := 32) rfl)) (by decide) (by decide) (own_hEL hw) CR.1) (g := (mkF m 148 #[.val (.int p1), .val (.int p2), .val (.int p3), .val (.int p4), .val (.ref b103), .val (.ref b106), .val (.ref b109), .val (.ref b112), .val (.ref b115), .val (.ref b118), .val (.ref a125), .unset, .unset] [(.ref a125), (.ref b115), (.ref b112), (.ref b126), (.ref b126)])) rfl (by rw [hml]; rfl) (Steps.refl _) (a := b126) (argsL := [(.ref b112), (.ref b115), (.ref a125)]) (rest := [(.ref b126)]) (lenOf pd_19 rfl) rfl (by show 2 * 0 + _ ≤ _; exact Nat.le_of_eq rfl) (hb hby at_148) (fun _ _ => ⟨rfl, e126, (by decide : 12 + 20 ≤ _), (by decide : 31 + 200 ≤ _)⟩)
      dsimp only [Pt.U, Pt.locs, Pt.cells, Pt.slots] at X127 hS127 hg127 l127 y127 z127 CN127 st127 hQ127
      subst l127 y127 z127
      obtain ⟨X127, hS_, hZ, hown⟩ := rebS hS_ (show _ ≤ T126.heap.size by rw [(e126 : T126.heap = h126)]; exact hk_) X127 hS127 hg127 hZ hown
      obtain ⟨rfl, N127q, K127, Eo127, Fp127⟩ := hQ127
      have N127 := Fr.app N120 N127q
      have lt_b103 : b103 < h126.size := V_b103.lt
      have lt_b106 : b106 < h126.size := V_b106.lt
      have lt_b109 : b109 < h126.size := V_b109.lt
      have lt_b112 : b112 < h126.size := E_b112.lt
      have lt_b115 : b115 < h126.size := E_b115.lt
      have lt_b118 : b118 < h126.size := E_b118.lt
      have lt_b126 : b126 < h126.size := E_b126.lt
      have Z_ : n0 ≤ T127.heap.size := Nat.le_trans Z_ K127.1
      have V_b103 := V_b103.keep K127 (ninS ne_b103_b126 nin0)
      have E_b103 := E_b103.keep K127
      have V_b106 := V_b106.keep K127 (ninS ne_b106_b126 nin0)
      have E_b106 := E_b106.keep K127
      have V_b109 := V_b109.keep K127 (ninS ne_b109_b126 nin0)
      have E_b109 := E_b109.keep K127
      have E_b112 := E_b112.keep K127
      have Fc_b112 := Fc_b112.keep K127 (ninS ne_b112_b126 nin0)
      have Fv_b112 := Fv_b112.keep K127 (ninS ne_b112_b126 nin0)
      have V114 := V114.keep K127 (ninS ne_t114_b126 nin0)
      have E_b115 := E_b115.keep K127
      have Fc_b115 := Fc_b115.keep K127 (ninS ne_b115_b126 nin0)
      have Fv_b115 := Fv_b115.keep K127 (ninS ne_b115_b126 nin0)
      have V117 := V117.keep K127 (ninS ne_t117_b126 nin0)
      have E_b118 := E_b118.keep K127
      have Fc_b118 := Fc_b118.keep K127 (ninS ne_b118_b126 nin0)
      have Fv_b118 := Fv_b118.keep K127 (ninS ne_b118_b126 nin0)
      have V120 := V120.keep K127 (ninS ne_t120_b126 nin0)
      have E_a125 := E_a125.keep K127
      have Fc_a125 := Fc_a125.keep K127 (ninS ne_a125_b126 nin0)
      have Fv_a125 := Fv_a125.keep K127 (ninS ne_a125_b126 nin0)
      have V_b125 := V_b125.keep K127 (ninS ne_b125_b126 nin0)
      have E_b126 := E_b126.keep K127
      have O_ := O_.keep K127 (allS g_b126 all0)
      have sf_b103 := CN127.safe lt_b103 sf_b103
      have sf_b106 := CN127.safe lt_b106 sf_b106
      have sf_b109 := CN127.safe lt_b109 sf_b109
      have sf_b112 := CN127.safe lt_b112 sf_b112
      have sf_b115 := CN127.safe lt_b115 sf_b115
      have sf_b118 := CN127.safe lt_b118 sf_b118
      have sf_b126 := CN127.safe lt_b126 sf_b126
      have CR := CR.trans CN127
      have hk_ := Nat.le_refl T127.heap.size
      refine OwnGoW.st (fun _ kk => st127.trans kk) ?_
      show OwnGoW p e below s Z own_EL _ _ _ T127 (mkF m 151 #[.val (.int p1), .val (.int p2), .val (.int p3), .val (.int p4), .val (.ref b103), .val (.ref b106), .val (.ref b109), .val (.ref b112), .val (.ref b115), .val (.ref b118), .val (.ref a125), .unset, .unset] [(.ref b126)])
      refine OwnGoW.st (fun _ kk => XS.astore X127.here hx rfl (hb hby at_151) rfl rfl (l' := #[.val (.int p1), .val (.int p2), .val (.int p3), .val (.int p4), .val (.ref b103), .val (.ref b106), .val (.ref b109), .val (.ref b112), .val (.ref b115), .val (.ref b118), .val (.ref a125), .val (.ref b126), .unset]) rfl kk) ?_
      show OwnGoW p e below s Z own_EL _ _ _ T127 (mkF m 153 #[.val (.int p1), .val (.int p2), .val (.int p3), .val (.int p4), .val (.ref b103), .val (.ref b106), .val (.ref b109), .val (.ref b112), .val (.ref b115), .val (.ref b118), .val (.ref a125), .val (.ref b126), .unset] [])
      refine OwnGoW.st (fun _ kk => XS.aload X127.here hx rfl (hb hby at_153) rfl rfl  kk) ?_
      show OwnGoW p e below s Z own_EL _ _ _ T127 (mkF m 155 #[.val (.int p1), .val (.int p2), .val (.int p3), .val (.int p4), .val (.ref b103), .val (.ref b106), .val (.ref b109), .val (.ref b112), .val (.ref b115), .val (.ref b118), .val (.ref a125), .val (.ref b126), .unset] [(.ref b126)])
      obtain ⟨cq128, kq128, q128a, q128b, q128c⟩ := isOf hZ rfl E_b126
      obtain ⟨_, _, ⟨T128, L128, k128, n128⟩, -, X128, ⟨Lc128, hQ128, l128, y128, z128⟩, st128⟩ := X127.virtualBack hx (y := (⟨"com/example/thorough_factfind/thoroughfactfind/foundation/section/RecordPath", "parameter", "()Ljava/lang/String;"⟩ : MethodName)) (z := (⟨"com/example/thorough_factfind/thoroughfactfind/foundation/section/RecordPath", "parameter", "()Ljava/lang/String;"⟩ : MethodName)) hown (mvT hZ (hw _ (List.mem_of_getElem? (i := 160) rfl))) (mvT hZ (hw _ (List.mem_of_getElem? (i := 161) rfl))) (notFace_of_selects (args := #[]) (mvT hZ (hw _ (List.mem_of_getElem? (i := 163) rfl)))) (mvT hZ (hw _ (List.mem_of_getElem? (i := 163) rfl))) (mvT hZ (hw _ (List.mem_of_getElem? (i := 162) rfl))) (by decide) (backOf (W := 0) (rmpar l Z a0 hw [] b126 a125 T127.heap n0 Z_ Fp127) hZ (hw _ (List.mem_of_getElem? (i := 164) rfl)) (hw _ (List.mem_of_getElem? (i := 32) rfl)) (by decide) (by decide)) q128a q128c (g := (mkF m 155 #[.val (.int p1), .val (.int p2), .val (.int p3), .val (.int p4), .val (.ref b103), .val (.ref b106), .val (.ref b109), .val (.ref b112), .val (.ref b115), .val (.ref b118), .val (.ref a125), .val (.ref b126), .unset] [(.ref b126)])) rfl (by rw [hml]; rfl) (Steps.refl _) (argsL := []) (rest := []) (lenOf pd_18 rfl) rfl (by show 2 * 0 + _ ≤ _; exact Nat.le_of_eq rfl) (hb hby at_155) (fun _ _ => ⟨rfl, rfl, (by decide : 32 + 0 ≤ _), (by decide : 231 + 0 ≤ _)⟩)
      dsimp only [Pt.U, Pt.locs, Pt.cells, Pt.slots] at X128 l128 y128 z128 st128 hQ128
      subst l128 y128 z128
      obtain ⟨rfl, N128q, e128⟩ := hQ128
      have N128 := Fr.app N127 N128q
      refine OwnGoW.st (fun _ kk => st128.trans kk) ?_
      show OwnGoW p e below s Z own_EL _ _ _ T128 (mkF m 158 #[.val (.int p1), .val (.int p2), .val (.int p3), .val (.int p4), .val (.ref b103), .val (.ref b106), .val (.ref b109), .val (.ref b112), .val (.ref b115), .val (.ref b118), .val (.ref a125), .val (.ref b126), .unset] [(.ref a125)])
      refine OwnGoW.st (fun _ kk => XS.astore X128.here hx rfl (hb hby at_158) rfl rfl (l' := #[.val (.int p1), .val (.int p2), .val (.int p3), .val (.int p4), .val (.ref b103), .val (.ref b106), .val (.ref b109), .val (.ref b112), .val (.ref b115), .val (.ref b118), .val (.ref a125), .val (.ref b126), .val (.ref a125)]) rfl kk) ?_
      show OwnGoW p e below s Z own_EL _ _ _ T128 (mkF m 160 #[.val (.int p1), .val (.int p2), .val (.int p3), .val (.int p4), .val (.ref b103), .val (.ref b106), .val (.ref b109), .val (.ref b112), .val (.ref b115), .val (.ref b118), .val (.ref a125), .val (.ref b126), .val (.ref a125)] [])
      refine OwnGoW.st (fun _ kk => XS.aload X128.here hx rfl (hb hby at_160) rfl rfl  kk) ?_
      show OwnGoW p e below s Z own_EL _ _ _ T128 (mkF m 162 #[.val (.int p1), .val (.int p2), .val (.int p3), .val (.int p4), .val (.ref b103), .val (.ref b106), .val (.ref b109), .val (.ref b112), .val (.ref b115), .val (.ref b118), .val (.ref a125), .val (.ref b126), .val (.ref a125)] [(.ref a125)])
      refine OwnGoW.st (fun _ kk => XS.ifnullNo X128.here hx rfl (hb hby at_162) rfl kk) ?_
      show OwnGoW p e below s Z own_EL _ _ _ T128 (mkF m 165 #[.val (.int p1), .val (.int p2), .val (.int p3), .val (.int p4), .val (.ref b103), .val (.ref b106), .val (.ref b109), .val (.ref b112), .val (.ref b115), .val (.ref b118), .val (.ref a125), .val (.ref b126), .val (.ref a125)] [])
      refine OwnGoW.st (fun _ kk => XS.aload X128.here hx rfl (hb hby at_165) rfl rfl  kk) ?_
      show OwnGoW p e below s Z own_EL _ _ _ T128 (mkF m 167 #[.val (.int p1), .val (.int p2), .val (.int p3), .val (.int p4), .val (.ref b103), .val (.ref b106), .val (.ref b109), .val (.ref b112), .val (.ref b115), .val (.ref b118), .val (.ref a125), .val (.ref b126), .val (.ref a125)] [(.ref a125)])
      refine OwnGoW.st (fun _ kk => XS.aload X128.here hx rfl (hb hby at_167) rfl rfl  kk) ?_
      show OwnGoW p e below s Z own_EL _ _ _ T128 (mkF m 169 #[.val (.int p1), .val (.int p2), .val (.int p3), .val (.int p4), .val (.ref b103), .val (.ref b106), .val (.ref b109), .val (.ref b112), .val (.ref b115), .val (.ref b118), .val (.ref a125), .val (.ref b126), .val (.ref a125)] [(.ref a125), (.ref a125)])
      obtain ⟨cq129, kq129, q129a, q129b, q129c⟩ := isOf hZ e128 E_a125
      obtain ⟨_, _, ⟨T129, L129, k129, n129⟩, -, X129, ⟨Lc129, hQ129, l129, y129, z129⟩, st129⟩ := X128.virtualBack hx (y := (⟨"java/lang/String", "equals", "(Ljava/lang/Object;)Z"⟩ : MethodName)) (z := (⟨"java/lang/String", "equals", "(Ljava/lang/Object;)Z"⟩ : MethodName)) hown (mvT hZ (hw _ (List.mem_of_getElem? (i := 190) rfl))) (mvT hZ (hw _ (List.mem_of_getElem? (i := 191) rfl))) (notFace_of_selects (args := #[]) (mvT hZ (hw _ (List.mem_of_getElem? (i := 193) rfl)))) (mvT hZ (hw _ (List.mem_of_getElem? (i := 193) rfl))) (mvT hZ (hw _ (List.mem_of_getElem? (i := 192) rfl))) (by decide) (backOf (W := 0) (rmeq l Z a0 hw [] a125 T127.heap n0 Z_ ) hZ (hw _ (List.mem_of_getElem? (i := 194) rfl)) (hw _ (List.mem_of_getElem? (i := 3) rfl)) (by decide) (by decide)) q129a q129c (g := (mkF m 169 #[.val (.int p1), .val (.int p2), .val (.int p3), .val (.int p4), .val (.ref b103), .val (.ref b106), .val (.ref b109), .val (.ref b112), .val (.ref b115), .val (.ref b118), .val (.ref a125), .val (.ref b126), .val (.ref a125)] [(.ref a125), (.ref a125)])) rfl (by rw [hml]; rfl) (Steps.refl _) (argsL := [(.ref a125)]) (rest := []) (lenOf pd_21 rfl) rfl (by show 2 * 0 + _ ≤ _; exact Nat.le_of_eq rfl) (hb hby at_169) (fun _ _ => ⟨rfl, e128, (by decide : 32 + 0 ≤ _), (by decide : 231 + 0 ≤ _)⟩)
      dsimp only [Pt.U, Pt.locs, Pt.cells, Pt.slots] at X129 l129 y129 z129 st129 hQ129
      subst l129 y129 z129
      obtain ⟨rfl, N129q, e129⟩ := hQ129
      have N129 := Fr.app N128 N129q
      refine OwnGoW.st (fun _ kk => st129.trans kk) ?_
      show OwnGoW p e below s Z own_EL _ _ _ T129 (mkF m 172 #[.val (.int p1), .val (.int p2), .val (.int p3), .val (.int p4), .val (.ref b103), .val (.ref b106), .val (.ref b109), .val (.ref b112), .val (.ref b115), .val (.ref b118), .val (.ref a125), .val (.ref b126), .val (.ref a125)] [(.int (1 : Int32))])
      refine OwnGoW.st (fun _ kk => XS.ifNo X129.here hx rfl (hb hby at_172) rfl ((if0 _ _).trans (feq ((by decide) : ¬ ((1 : Int32) = (0 : Int32)))).1) kk) ?_
      show OwnGoW p e below s Z own_EL _ _ _ T129 (mkF m 175 #[.val (.int p1), .val (.int p2), .val (.int p3), .val (.int p4), .val (.ref b103), .val (.ref b106), .val (.ref b109), .val (.ref b112), .val (.ref b115), .val (.ref b118), .val (.ref a125), .val (.ref b126), .val (.ref a125)] [])
      refine OwnGoW.st (fun _ kk => XS.iconst X129.here hx rfl (hb hby at_175) kk) ?_
      show OwnGoW p e below s Z own_EL _ _ _ T129 (mkF m 176 #[.val (.int p1), .val (.int p2), .val (.int p3), .val (.int p4), .val (.ref b103), .val (.ref b106), .val (.ref b109), .val (.ref b112), .val (.ref b115), .val (.ref b118), .val (.ref a125), .val (.ref b126), .val (.ref a125)] [(.int (1 : Int32))])
      refine OwnGoW.st (fun _ kk => XS.goto X129.here hx rfl (pc0 := 176) (pc' := 180) rfl (hb hby at_176) (by decide) (by decide) kk) ?_
      show OwnGoW p e below s Z own_EL _ _ _ T129 (mkF m 180 #[.val (.int p1), .val (.int p2), .val (.int p3), .val (.int p4), .val (.ref b103), .val (.ref b106), .val (.ref b109), .val (.ref b112), .val (.ref b115), .val (.ref b118), .val (.ref a125), .val (.ref b126), .val (.ref a125)] [(.int (1 : Int32))])
      exact OwnGoW.retN (s := s) (vm0 := T127.vm) X129 hS_ hk_ e129 hZ (own_hEL hw) CR hx (t := .boolean) hret hlk (by simp) (hb hby at_180) (by show Q0 Z p1 p2 p3 p4 zc fmv h0 n0 _ T129.heap _; rw [e129]; exact ⟨rfl, N129⟩) (by decide) (by decide)
  · refine OwnGoW.st (fun _ kk => XS.ifYes X120.here hx rfl (pc0 := 120) (pc' := 181) rfl (hb hby at_120) rfl ((if0 _ _).trans (feq (hm : ¬ ((p4 &&& (1 : Int32)) = (0 : Int32)))).2) (by decide) (by decide) kk) ?_
    show OwnGoW p e below s Z own_EL _ _ _ T120 (mkF m 181 #[.val (.int p1), .val (.int p2), .val (.int p3), .val (.int p4), .val (.ref b103), .val (.ref b106), .val (.ref b109), .val (.ref b112), .val (.ref b115), .val (.ref b118), .unset, .unset, .unset] [])
    obtain ⟨T130, h130, X130, e130, E130, A130, D130, -, st130⟩ := newO X120 hx hZ hown (hw _ (List.mem_of_getElem? (i := 30) rfl)) (hw _ (List.mem_of_getElem? (i := 31) rfl)) (hw _ (List.mem_of_getElem? (i := 32) rfl)) rfl (g := (mkF m 181 #[.val (.int p1), .val (.int p2), .val (.int p3), .val (.int p4), .val (.ref b103), .val (.ref b106), .val (.ref b109), .val (.ref b112), .val (.ref b115), .val (.ref b118), .unset, .unset, .unset] [])) rfl (hb hby at_181) (by decide) (by decide)
    obtain ⟨b130, g130⟩ : ∃ z, z = T120.heap.size := ⟨_, rfl⟩
    rw [← g130] at A130 D130 st130
    have ne_b103_b130 : b103 ≠ b130 := Nat.ne_of_lt (Nat.lt_of_lt_of_le V_b103.lt (Nat.le_of_eq g130.symm))
    have ne_b106_b130 : b106 ≠ b130 := Nat.ne_of_lt (Nat.lt_of_lt_of_le V_b106.lt (Nat.le_of_eq g130.symm))
    have ne_b109_b130 : b109 ≠ b130 := Nat.ne_of_lt (Nat.lt_of_lt_of_le V_b109.lt (Nat.le_of_eq g130.symm))
    have ne_b112_b130 : b112 ≠ b130 := Nat.ne_of_lt (Nat.lt_of_lt_of_le E_b112.lt (Nat.le_of_eq g130.symm))
    have ne_t114_b130 : t114 ≠ b130 := Nat.ne_of_lt (Nat.lt_of_lt_of_le V114.lt (Nat.le_of_eq g130.symm))
    have ne_b115_b130 : b115 ≠ b130 := Nat.ne_of_lt (Nat.lt_of_lt_of_le E_b115.lt (Nat.le_of_eq g130.symm))
    have ne_t117_b130 : t117 ≠ b130 := Nat.ne_of_lt (Nat.lt_of_lt_of_le V117.lt (Nat.le_of_eq g130.symm))
    have ne_b118_b130 : b118 ≠ b130 := Nat.ne_of_lt (Nat.lt_of_lt_of_le E_b118.lt (Nat.le_of_eq g130.symm))
    have ne_t120_b130 : t120 ≠ b130 := Nat.ne_of_lt (Nat.lt_of_lt_of_le V120.lt (Nat.le_of_eq g130.symm))
    have g_b130 : n0 ≤ b130 := Nat.le_trans Z_ (Nat.le_of_eq g130.symm)
    have sf_b130 : Safe Z own_EL s.vm T120.heap b130 := Safe.new (Nat.le_of_eq g130.symm)
    have V_b103 := V_b103.ext E130
    have E_b103 := E_b103.ext E130
    have V_b106 := V_b106.ext E130
    have E_b106 := E_b106.ext E130
    have V_b109 := V_b109.ext E130
    have E_b109 := E_b109.ext E130
    have E_b112 := E_b112.ext E130
    have Fc_b112 := Fc_b112.ext E130
    have Fv_b112 := Fv_b112.ext E130
    have V114 := V114.ext E130
    have E_b115 := E_b115.ext E130
    have Fc_b115 := Fc_b115.ext E130
    have Fv_b115 := Fv_b115.ext E130
    have V117 := V117.ext E130
    have E_b118 := E_b118.ext E130
    have Fc_b118 := Fc_b118.ext E130
    have Fv_b118 := Fv_b118.ext E130
    have V120 := V120.ext E130
    have O_ := O_.ext E130
    have sf_b103 := Safe.ext E130 CR.1 sf_b103
    have sf_b106 := Safe.ext E130 CR.1 sf_b106
    have sf_b109 := Safe.ext E130 CR.1 sf_b109
    have sf_b112 := Safe.ext E130 CR.1 sf_b112
    have sf_b115 := Safe.ext E130 CR.1 sf_b115
    have sf_b118 := Safe.ext E130 CR.1 sf_b118
    have sf_b130 := Safe.ext E130 CR.1 sf_b130
    have CR := CR.trans (CHr.ext E130 CR.1)
    have hk_ := Nat.le_trans hk_ E130.1
    have Z_ : n0 ≤ h130.size := Nat.le_trans Z_ E130.1
    have E_b130 := A130
    have F__segment_b130 : Fld Z h130 b130 "com/example/thorough_factfind/thoroughfactfind/foundation/section/RecordPath" "_segment" "Ljava/lang/String;" .null := D130 (Or.inr (hw _ (List.mem_of_getElem? (i := 155) rfl))) (ty := (.object "java/lang/String")) (by decide)
    have F__record_b130 : Fld Z h130 b130 "com/example/thorough_factfind/thoroughfactfind/foundation/section/RecordPath" "_record" "Ljava/lang/String;" .null := D130 (Or.inr (hw _ (List.mem_of_getElem? (i := 157) rfl))) (ty := (.object "java/lang/String")) (by decide)
    have F__parameter_b130 : Fld Z h130 b130 "com/example/thorough_factfind/thoroughfactfind/foundation/section/RecordPath" "_parameter" "Ljava/lang/String;" .null := D130 (Or.inr (hw _ (List.mem_of_getElem? (i := 159) rfl))) (ty := (.object "java/lang/String")) (by decide)
    refine OwnGoW.st st130 ?_
    show OwnGoW p e below s Z own_EL _ _ _ T130 (mkF m 184 #[.val (.int p1), .val (.int p2), .val (.int p3), .val (.int p4), .val (.ref b103), .val (.ref b106), .val (.ref b109), .val (.ref b112), .val (.ref b115), .val (.ref b118), .unset, .unset, .unset] [(.ref b130)])
    refine OwnGoW.st (fun _ kk => XS.dup X130.here hx rfl (hb hby at_184) rfl rfl kk) ?_
    show OwnGoW p e below s Z own_EL _ _ _ T130 (mkF m 185 #[.val (.int p1), .val (.int p2), .val (.int p3), .val (.int p4), .val (.ref b103), .val (.ref b106), .val (.ref b109), .val (.ref b112), .val (.ref b115), .val (.ref b118), .unset, .unset, .unset] [(.ref b130), (.ref b130)])
    refine OwnGoW.st (fun _ kk => XS.aload X130.here hx rfl (hb hby at_185) rfl rfl  kk) ?_
    show OwnGoW p e below s Z own_EL _ _ _ T130 (mkF m 187 #[.val (.int p1), .val (.int p2), .val (.int p3), .val (.int p4), .val (.ref b103), .val (.ref b106), .val (.ref b109), .val (.ref b112), .val (.ref b115), .val (.ref b118), .unset, .unset, .unset] [(.ref b112), (.ref b130), (.ref b130)])
    refine OwnGoW.st (fun _ kk => XS.aload X130.here hx rfl (hb hby at_187) rfl rfl  kk) ?_
    show OwnGoW p e below s Z own_EL _ _ _ T130 (mkF m 189 #[.val (.int p1), .val (.int p2), .val (.int p3), .val (.int p4), .val (.ref b103), .val (.ref b106), .val (.ref b109), .val (.ref b112), .val (.ref b115), .val (.ref b118), .unset, .unset, .unset] [(.ref b115), (.ref b112), (.ref b130), (.ref b130)])
    obtain ⟨_, _, ⟨T131, L131, k131, n131⟩, -, X131, hS131, hg131, ⟨Lc131, hQ131, l131, y131, z131, CN131⟩, st131⟩ := Stand.specialBackS (s := s.setVm s.vm) X130 hx (y := (⟨"com/example/thorough_factfind/thoroughfactfind/foundation/section/RecordPath", "<init>", "(Ljava/lang/String;Ljava/lang/String;)V"⟩ : MethodName)) rfl hown (mvT hZ (hw _ (List.mem_of_getElem? (i := 33) rfl))) (mvT hZ (hw _ (List.mem_of_getElem? (i := 34) rfl))) (mvT hZ (hw _ (List.mem_of_getElem? (i := 35) rfl))) (by decide) (backOfSH (s := s) (vm0 := s.vm) (W := 1) (rmrp2 l Z a0 hw [] b130 b112 t114 kb114 sc0.toInt8.toInt32 sc1.toInt8.toInt32 b115 t117 kb117 rc0.toInt8.toInt32 rc1.toInt8.toInt32 zc fmv h130 n0 Z_ O_ S_CS P_CS S_SF rf_fmv E_b130 F__segment_b130 F__record_b130 F__parameter_b130 g_b130 E_b112 Fc_b112 Fv_b112 V114 E_b115 Fc_b115 Fv_b115 V117 ne_b112_b130 ne_t114_b130 ne_b115_b130 ne_t117_b130) hZ (hw _ (List.mem_of_getElem? (i := 35) rfl)) (hw _ (List.mem_of_getElem? (i := 32) rfl)) (by decide) (by decide) (own_hEL hw) CR.1) (g := (mkF m 189 #[.val (.int p1), .val (.int p2), .val (.int p3), .val (.int p4), .val (.ref b103), .val (.ref b106), .val (.ref b109), .val (.ref b112), .val (.ref b115), .val (.ref b118), .unset, .unset, .unset] [(.ref b115), (.ref b112), (.ref b130), (.ref b130)])) rfl (by rw [hml]; rfl) (Steps.refl _) (a := b130) (argsL := [(.ref b112), (.ref b115)]) (rest := [(.ref b130)]) (lenOf pd_22 rfl) rfl (by show 2 * 0 + _ ≤ _; exact Nat.le_of_eq rfl) (hb hby at_189) (fun _ _ => ⟨rfl, e130, (by decide : 10 + 40 ≤ _), (by decide : 27 + 400 ≤ _)⟩)
    dsimp only [Pt.U, Pt.locs, Pt.cells, Pt.slots] at X131 hS131 hg131 l131 y131 z131 CN131 st131 hQ131
    subst l131 y131 z131
    obtain ⟨X131, hS_, hZ, hown⟩ := rebS hS_ (show _ ≤ T130.heap.size by rw [(e130 : T130.heap = h130)]; exact hk_) X131 hS131 hg131 hZ hown
    obtain ⟨rfl, N131q, K131, Eo131, x131, y131, kb131, Fp131, Ex131, Fc131, Fv131, V131, zx131, zy131⟩ := hQ131
    have N131 := Fr.app N120 N131q
    have ne_b103_x131 : b103 ≠ x131 := Nat.ne_of_lt (Nat.lt_of_lt_of_le V_b103.lt zx131)
    have ne_b106_x131 : b106 ≠ x131 := Nat.ne_of_lt (Nat.lt_of_lt_of_le V_b106.lt zx131)
    have ne_b109_x131 : b109 ≠ x131 := Nat.ne_of_lt (Nat.lt_of_lt_of_le V_b109.lt zx131)
    have ne_b112_x131 : b112 ≠ x131 := Nat.ne_of_lt (Nat.lt_of_lt_of_le E_b112.lt zx131)
    have ne_t114_x131 : t114 ≠ x131 := Nat.ne_of_lt (Nat.lt_of_lt_of_le V114.lt zx131)
    have ne_b115_x131 : b115 ≠ x131 := Nat.ne_of_lt (Nat.lt_of_lt_of_le E_b115.lt zx131)
    have ne_t117_x131 : t117 ≠ x131 := Nat.ne_of_lt (Nat.lt_of_lt_of_le V117.lt zx131)
    have ne_b118_x131 : b118 ≠ x131 := Nat.ne_of_lt (Nat.lt_of_lt_of_le E_b118.lt zx131)
    have ne_t120_x131 : t120 ≠ x131 := Nat.ne_of_lt (Nat.lt_of_lt_of_le V120.lt zx131)
    have ne_b130_x131 : b130 ≠ x131 := Nat.ne_of_lt (Nat.lt_of_lt_of_le E_b130.lt zx131)
    have g_x131 : n0 ≤ x131 := Nat.le_trans Z_ zx131
    have ne_b103_y131 : b103 ≠ y131 := Nat.ne_of_lt (Nat.lt_of_lt_of_le V_b103.lt zy131)
    have ne_b106_y131 : b106 ≠ y131 := Nat.ne_of_lt (Nat.lt_of_lt_of_le V_b106.lt zy131)
    have ne_b109_y131 : b109 ≠ y131 := Nat.ne_of_lt (Nat.lt_of_lt_of_le V_b109.lt zy131)
    have ne_b112_y131 : b112 ≠ y131 := Nat.ne_of_lt (Nat.lt_of_lt_of_le E_b112.lt zy131)
    have ne_t114_y131 : t114 ≠ y131 := Nat.ne_of_lt (Nat.lt_of_lt_of_le V114.lt zy131)
    have ne_b115_y131 : b115 ≠ y131 := Nat.ne_of_lt (Nat.lt_of_lt_of_le E_b115.lt zy131)
    have ne_t117_y131 : t117 ≠ y131 := Nat.ne_of_lt (Nat.lt_of_lt_of_le V117.lt zy131)
    have ne_b118_y131 : b118 ≠ y131 := Nat.ne_of_lt (Nat.lt_of_lt_of_le E_b118.lt zy131)
    have ne_t120_y131 : t120 ≠ y131 := Nat.ne_of_lt (Nat.lt_of_lt_of_le V120.lt zy131)
    have ne_b130_y131 : b130 ≠ y131 := Nat.ne_of_lt (Nat.lt_of_lt_of_le E_b130.lt zy131)
    have g_y131 : n0 ≤ y131 := Nat.le_trans Z_ zy131
    have lt_b103 : b103 < h130.size := V_b103.lt
    have lt_b106 : b106 < h130.size := V_b106.lt
    have lt_b109 : b109 < h130.size := V_b109.lt
    have lt_b112 : b112 < h130.size := E_b112.lt
    have lt_b115 : b115 < h130.size := E_b115.lt
    have lt_b118 : b118 < h130.size := E_b118.lt
    have lt_b130 : b130 < h130.size := E_b130.lt
    have Z_ : n0 ≤ T131.heap.size := Nat.le_trans Z_ K131.1
    have V_b103 := V_b103.keep K131 (ninS ne_b103_b130 nin0)
    have E_b103 := E_b103.keep K131
    have V_b106 := V_b106.keep K131 (ninS ne_b106_b130 nin0)
    have E_b106 := E_b106.keep K131
    have V_b109 := V_b109.keep K131 (ninS ne_b109_b130 nin0)
    have E_b109 := E_b109.keep K131
    have E_b112 := E_b112.keep K131
    have Fc_b112 := Fc_b112.keep K131 (ninS ne_b112_b130 nin0)
    have Fv_b112 := Fv_b112.keep K131 (ninS ne_b112_b130 nin0)
    have V114 := V114.keep K131 (ninS ne_t114_b130 nin0)
    have E_b115 := E_b115.keep K131
    have Fc_b115 := Fc_b115.keep K131 (ninS ne_b115_b130 nin0)
    have Fv_b115 := Fv_b115.keep K131 (ninS ne_b115_b130 nin0)
    have V117 := V117.keep K131 (ninS ne_t117_b130 nin0)
    have E_b118 := E_b118.keep K131
    have Fc_b118 := Fc_b118.keep K131 (ninS ne_b118_b130 nin0)
    have Fv_b118 := Fv_b118.keep K131 (ninS ne_b118_b130 nin0)
    have V120 := V120.keep K131 (ninS ne_t120_b130 nin0)
    have E_b130 := E_b130.keep K131
    have O_ := O_.keep K131 (allS g_b130 all0)
    have sf_b103 := CN131.safe lt_b103 sf_b103
    have sf_b106 := CN131.safe lt_b106 sf_b106
    have sf_b109 := CN131.safe lt_b109 sf_b109
    have sf_b112 := CN131.safe lt_b112 sf_b112
    have sf_b115 := CN131.safe lt_b115 sf_b115
    have sf_b118 := CN131.safe lt_b118 sf_b118
    have sf_b130 := CN131.safe lt_b130 sf_b130
    have CR := CR.trans CN131
    have hk_ := Nat.le_refl T131.heap.size
    refine OwnGoW.st (fun _ kk => st131.trans kk) ?_
    show OwnGoW p e below s Z own_EL _ _ _ T131 (mkF m 192 #[.val (.int p1), .val (.int p2), .val (.int p3), .val (.int p4), .val (.ref b103), .val (.ref b106), .val (.ref b109), .val (.ref b112), .val (.ref b115), .val (.ref b118), .unset, .unset, .unset] [(.ref b130)])
    refine OwnGoW.st (fun _ kk => XS.astore X131.here hx rfl (hb hby at_192) rfl rfl (l' := #[.val (.int p1), .val (.int p2), .val (.int p3), .val (.int p4), .val (.ref b103), .val (.ref b106), .val (.ref b109), .val (.ref b112), .val (.ref b115), .val (.ref b118), .val (.ref b130), .unset, .unset]) rfl kk) ?_
    show OwnGoW p e below s Z own_EL _ _ _ T131 (mkF m 194 #[.val (.int p1), .val (.int p2), .val (.int p3), .val (.int p4), .val (.ref b103), .val (.ref b106), .val (.ref b109), .val (.ref b112), .val (.ref b115), .val (.ref b118), .val (.ref b130), .unset, .unset] [])
    refine OwnGoW.st (fun _ kk => XS.aload X131.here hx rfl (hb hby at_194) rfl rfl  kk) ?_
    show OwnGoW p e below s Z own_EL _ _ _ T131 (mkF m 196 #[.val (.int p1), .val (.int p2), .val (.int p3), .val (.int p4), .val (.ref b103), .val (.ref b106), .val (.ref b109), .val (.ref b112), .val (.ref b115), .val (.ref b118), .val (.ref b130), .unset, .unset] [(.ref b130)])
    obtain ⟨cq132, kq132, q132a, q132b, q132c⟩ := isOf hZ rfl E_b130
    obtain ⟨_, _, ⟨T132, L132, k132, n132⟩, -, X132, ⟨Lc132, hQ132, l132, y132, z132⟩, st132⟩ := X131.virtualBack hx (y := (⟨"com/example/thorough_factfind/thoroughfactfind/foundation/section/RecordPath", "parameter", "()Ljava/lang/String;"⟩ : MethodName)) (z := (⟨"com/example/thorough_factfind/thoroughfactfind/foundation/section/RecordPath", "parameter", "()Ljava/lang/String;"⟩ : MethodName)) hown (mvT hZ (hw _ (List.mem_of_getElem? (i := 160) rfl))) (mvT hZ (hw _ (List.mem_of_getElem? (i := 161) rfl))) (notFace_of_selects (args := #[]) (mvT hZ (hw _ (List.mem_of_getElem? (i := 163) rfl)))) (mvT hZ (hw _ (List.mem_of_getElem? (i := 163) rfl))) (mvT hZ (hw _ (List.mem_of_getElem? (i := 162) rfl))) (by decide) (backOf (W := 0) (rmpar l Z a0 hw [] b130 x131 T131.heap n0 Z_ Fp131) hZ (hw _ (List.mem_of_getElem? (i := 164) rfl)) (hw _ (List.mem_of_getElem? (i := 32) rfl)) (by decide) (by decide)) q132a q132c (g := (mkF m 196 #[.val (.int p1), .val (.int p2), .val (.int p3), .val (.int p4), .val (.ref b103), .val (.ref b106), .val (.ref b109), .val (.ref b112), .val (.ref b115), .val (.ref b118), .val (.ref b130), .unset, .unset] [(.ref b130)])) rfl (by rw [hml]; rfl) (Steps.refl _) (argsL := []) (rest := []) (lenOf pd_18 rfl) rfl (by show 2 * 0 + _ ≤ _; exact Nat.le_of_eq rfl) (hb hby at_196) (fun _ _ => ⟨rfl, rfl, (by decide : 50 + 0 ≤ _), (by decide : 427 + 0 ≤ _)⟩)
    dsimp only [Pt.U, Pt.locs, Pt.cells, Pt.slots] at X132 l132 y132 z132 st132 hQ132
    subst l132 y132 z132
    obtain ⟨rfl, N132q, e132⟩ := hQ132
    have N132 := Fr.app N131 N132q
    refine OwnGoW.st (fun _ kk => st132.trans kk) ?_
    show OwnGoW p e below s Z own_EL _ _ _ T132 (mkF m 199 #[.val (.int p1), .val (.int p2), .val (.int p3), .val (.int p4), .val (.ref b103), .val (.ref b106), .val (.ref b109), .val (.ref b112), .val (.ref b115), .val (.ref b118), .val (.ref b130), .unset, .unset] [(.ref x131)])
    refine OwnGoW.st (fun _ kk => XS.astore X132.here hx rfl (hb hby at_199) rfl rfl (l' := #[.val (.int p1), .val (.int p2), .val (.int p3), .val (.int p4), .val (.ref b103), .val (.ref b106), .val (.ref b109), .val (.ref b112), .val (.ref b115), .val (.ref b118), .val (.ref b130), .val (.ref x131), .unset]) rfl kk) ?_
    show OwnGoW p e below s Z own_EL _ _ _ T132 (mkF m 201 #[.val (.int p1), .val (.int p2), .val (.int p3), .val (.int p4), .val (.ref b103), .val (.ref b106), .val (.ref b109), .val (.ref b112), .val (.ref b115), .val (.ref b118), .val (.ref b130), .val (.ref x131), .unset] [])
    refine OwnGoW.st (fun _ kk => XS.aload X132.here hx rfl (hb hby at_201) rfl rfl  kk) ?_
    show OwnGoW p e below s Z own_EL _ _ _ T132 (mkF m 203 #[.val (.int p1), .val (.int p2), .val (.int p3), .val (.int p4), .val (.ref b103), .val (.ref b106), .val (.ref b109), .val (.ref b112), .val (.ref b115), .val (.ref b118), .val (.ref b130), .val (.ref x131), .unset] [(.ref x131)])
    refine OwnGoW.st (fun _ kk => XS.ifnullNo X132.here hx rfl (hb hby at_203) rfl kk) ?_
    show OwnGoW p e below s Z own_EL _ _ _ T132 (mkF m 206 #[.val (.int p1), .val (.int p2), .val (.int p3), .val (.int p4), .val (.ref b103), .val (.ref b106), .val (.ref b109), .val (.ref b112), .val (.ref b115), .val (.ref b118), .val (.ref b130), .val (.ref x131), .unset] [])
    refine OwnGoW.st (fun _ kk => XS.aload X132.here hx rfl (hb hby at_206) rfl rfl  kk) ?_
    show OwnGoW p e below s Z own_EL _ _ _ T132 (mkF m 208 #[.val (.int p1), .val (.int p2), .val (.int p3), .val (.int p4), .val (.ref b103), .val (.ref b106), .val (.ref b109), .val (.ref b112), .val (.ref b115), .val (.ref b118), .val (.ref b130), .val (.ref x131), .unset] [(.ref x131)])
    obtain ⟨cq133, kq133, q133a, q133b, q133c⟩ := isOf hZ e132 Ex131
    obtain ⟨_, _, ⟨T133, L133, k133, n133⟩, -, X133, ⟨Lc133, hQ133, l133, y133, z133⟩, st133⟩ := X132.virtualBack hx (y := (⟨"java/lang/String", "length", "()I"⟩ : MethodName)) (z := (⟨"java/lang/String", "length", "()I"⟩ : MethodName)) hown (mvT hZ (hw _ (List.mem_of_getElem? (i := 165) rfl))) (mvT hZ (hw _ (List.mem_of_getElem? (i := 65) rfl))) (notFace_of_selects (args := #[]) (mvT hZ (hw _ (List.mem_of_getElem? (i := 67) rfl)))) (mvT hZ (hw _ (List.mem_of_getElem? (i := 67) rfl))) (mvT hZ (hw _ (List.mem_of_getElem? (i := 66) rfl))) (by decide) (backOf (W := 0) (rmlength l Z a0 hw [] x131 y131 kb131 (4 : Int32) [(.int rc0.toInt8.toInt32), (.int rc1.toInt8.toInt32), (.int (73 : Int32)), (.int (100 : Int32))] zc T131.heap n0 Z_ O_ S_CS P_CS Ex131 Fc131 Fv131 V131) hZ (hw _ (List.mem_of_getElem? (i := 68) rfl)) (hw _ (List.mem_of_getElem? (i := 3) rfl)) (by decide) (by decide)) q133a q133c (g := (mkF m 208 #[.val (.int p1), .val (.int p2), .val (.int p3), .val (.int p4), .val (.ref b103), .val (.ref b106), .val (.ref b109), .val (.ref b112), .val (.ref b115), .val (.ref b118), .val (.ref b130), .val (.ref x131), .unset] [(.ref x131)])) rfl (by rw [hml]; rfl) (Steps.refl _) (argsL := []) (rest := []) (lenOf pd_8 rfl) rfl (by show 2 * 0 + _ ≤ _; exact Nat.le_of_eq rfl) (hb hby at_208) (fun _ _ => ⟨rfl, e132, (by decide : 50 + 0 ≤ _), (by decide : 427 + 0 ≤ _)⟩)
    dsimp only [Pt.U, Pt.locs, Pt.cells, Pt.slots] at X133 l133 y133 z133 st133 hQ133
    subst l133 y133 z133
    obtain ⟨rfl, N133q, e133⟩ := hQ133
    have N133 := Fr.app N132 N133q
    refine OwnGoW.st (fun _ kk => st133.trans kk) ?_
    show OwnGoW p e below s Z own_EL _ _ _ T133 (mkF m 211 #[.val (.int p1), .val (.int p2), .val (.int p3), .val (.int p4), .val (.ref b103), .val (.ref b106), .val (.ref b109), .val (.ref b112), .val (.ref b115), .val (.ref b118), .val (.ref b130), .val (.ref x131), .unset] [(.int (4 : Int32))])
    refine OwnGoW.st (fun _ kk => XS.iconst X133.here hx rfl (hb hby at_211) kk) ?_
    show OwnGoW p e below s Z own_EL _ _ _ T133 (mkF m 212 #[.val (.int p1), .val (.int p2), .val (.int p3), .val (.int p4), .val (.ref b103), .val (.ref b106), .val (.ref b109), .val (.ref b112), .val (.ref b115), .val (.ref b118), .val (.ref b130), .val (.ref x131), .unset] [(.int (4 : Int32)), (.int (4 : Int32))])
    refine OwnGoW.st (fun _ kk => XS.icmpNo X133.here hx rfl (hb hby at_212) rfl (teq ((by decide) : (4 : Int32) = (4 : Int32))).2 kk) ?_
    show OwnGoW p e below s Z own_EL _ _ _ T133 (mkF m 215 #[.val (.int p1), .val (.int p2), .val (.int p3), .val (.int p4), .val (.ref b103), .val (.ref b106), .val (.ref b109), .val (.ref b112), .val (.ref b115), .val (.ref b118), .val (.ref b130), .val (.ref x131), .unset] [])
    refine OwnGoW.st (fun _ kk => XS.aload X133.here hx rfl (hb hby at_215) rfl rfl  kk) ?_
    show OwnGoW p e below s Z own_EL _ _ _ T133 (mkF m 217 #[.val (.int p1), .val (.int p2), .val (.int p3), .val (.int p4), .val (.ref b103), .val (.ref b106), .val (.ref b109), .val (.ref b112), .val (.ref b115), .val (.ref b118), .val (.ref b130), .val (.ref x131), .unset] [(.ref x131)])
    refine OwnGoW.st (fun _ kk => XS.iconst X133.here hx rfl (hb hby at_217) kk) ?_
    show OwnGoW p e below s Z own_EL _ _ _ T133 (mkF m 218 #[.val (.int p1), .val (.int p2), .val (.int p3), .val (.int p4), .val (.ref b103), .val (.ref b106), .val (.ref b109), .val (.ref b112), .val (.ref b115), .val (.ref b118), .val (.ref b130), .val (.ref x131), .unset] [(.int (0 : Int32)), (.ref x131)])
    obtain ⟨cq134, kq134, q134a, q134b, q134c⟩ := isOf hZ e133 Ex131
    obtain ⟨_, _, ⟨T134, L134, k134, n134⟩, -, X134, ⟨Lc134, hQ134, l134, y134, z134⟩, st134⟩ := X133.virtualBack hx (y := (⟨"java/lang/String", "charAt", "(I)C"⟩ : MethodName)) (z := (⟨"java/lang/String", "charAt", "(I)C"⟩ : MethodName)) hown (mvT hZ (hw _ (List.mem_of_getElem? (i := 166) rfl))) (mvT hZ (hw _ (List.mem_of_getElem? (i := 167) rfl))) (notFace_of_selects (args := #[]) (mvT hZ (hw _ (List.mem_of_getElem? (i := 169) rfl)))) (mvT hZ (hw _ (List.mem_of_getElem? (i := 169) rfl))) (mvT hZ (hw _ (List.mem_of_getElem? (i := 168) rfl))) (by decide) (backOf (W := 0) (rmcharAt l Z a0 hw [] x131 y131 kb131 (4 : Int32) [(.int rc0.toInt8.toInt32), (.int rc1.toInt8.toInt32), (.int (73 : Int32)), (.int (100 : Int32))] (0 : Int32) rc0.toInt8.toInt32 rc0 zc fmv T131.heap n0 Z_ O_ S_CS P_CS S_SF rf_fmv Ex131 Fc131 Fv131 V131 ⟨by decide, by decide⟩ rfl (own_lch hp_rc0) (own_lnc hp_rc0)) hZ (hw _ (List.mem_of_getElem? (i := 170) rfl)) (hw _ (List.mem_of_getElem? (i := 3) rfl)) (by decide) (by decide)) q134a q134c (g := (mkF m 218 #[.val (.int p1), .val (.int p2), .val (.int p3), .val (.int p4), .val (.ref b103), .val (.ref b106), .val (.ref b109), .val (.ref b112), .val (.ref b115), .val (.ref b118), .val (.ref b130), .val (.ref x131), .unset] [(.int (0 : Int32)), (.ref x131)])) rfl (by rw [hml]; rfl) (Steps.refl _) (argsL := [(.int (0 : Int32))]) (rest := []) (lenOf pd_23 rfl) rfl (by show 2 * 0 + _ ≤ _; exact Nat.le_of_eq rfl) (hb hby at_218) (fun _ _ => ⟨rfl, e133, (by decide : 50 + 0 ≤ _), (by decide : 427 + 0 ≤ _)⟩)
    dsimp only [Pt.U, Pt.locs, Pt.cells, Pt.slots] at X134 l134 y134 z134 st134 hQ134
    subst l134 y134 z134
    obtain ⟨rfl, N134q, e134⟩ := hQ134
    have N134 := Fr.app N133 N134q
    refine OwnGoW.st (fun _ kk => st134.trans kk) ?_
    show OwnGoW p e below s Z own_EL _ _ _ T134 (mkF m 221 #[.val (.int p1), .val (.int p2), .val (.int p3), .val (.int p4), .val (.ref b103), .val (.ref b106), .val (.ref b109), .val (.ref b112), .val (.ref b115), .val (.ref b118), .val (.ref b130), .val (.ref x131), .unset] [(.int rc0)])
    refine OwnGoW.st (fun _ kk => XS.aload X134.here hx rfl (hb hby at_221) rfl rfl  kk) ?_
    show OwnGoW p e below s Z own_EL _ _ _ T134 (mkF m 223 #[.val (.int p1), .val (.int p2), .val (.int p3), .val (.int p4), .val (.ref b103), .val (.ref b106), .val (.ref b109), .val (.ref b112), .val (.ref b115), .val (.ref b118), .val (.ref b130), .val (.ref x131), .unset] [(.ref b106), (.int rc0)])
    refine OwnGoW.st (fun _ kk => XS.iconst X134.here hx rfl (hb hby at_223) kk) ?_
    show OwnGoW p e below s Z own_EL _ _ _ T134 (mkF m 224 #[.val (.int p1), .val (.int p2), .val (.int p3), .val (.int p4), .val (.ref b103), .val (.ref b106), .val (.ref b109), .val (.ref b112), .val (.ref b115), .val (.ref b118), .val (.ref b130), .val (.ref x131), .unset] [(.int (0 : Int32)), (.ref b106), (.int rc0)])
    obtain ⟨cl135, Ar135, -, S135, -, H135, -⟩ := id V_b106
    have hin135 : ¬ ((0 : Int32) < 0 ∨ cl135.slots.size ≤ ((0 : Int32)).toNatClampNeg) := inb_of S135 ⟨by decide, by decide⟩
    refine OwnGoW.st (fun _ kk => X134.caload hx (j := (0 : Int32)) (v := (.int rc0)) (by first | exact Ar135.1 | (rw [e134]; exact Ar135.1)) (State.isArrayOf_alike hZ.alike Ar135.2.1) Ar135.2.2 hin135 (H135.at hin135 rfl) (g := (mkF m 224 #[.val (.int p1), .val (.int p2), .val (.int p3), .val (.int p4), .val (.ref b103), .val (.ref b106), .val (.ref b109), .val (.ref b112), .val (.ref b115), .val (.ref b118), .val (.ref b130), .val (.ref x131), .unset] [(.int (0 : Int32)), (.ref b106), (.int rc0)])) rfl rfl (hb hby at_224) _ kk) ?_
    show OwnGoW p e below s Z own_EL _ _ _ T134 (mkF m 225 #[.val (.int p1), .val (.int p2), .val (.int p3), .val (.int p4), .val (.ref b103), .val (.ref b106), .val (.ref b109), .val (.ref b112), .val (.ref b115), .val (.ref b118), .val (.ref b130), .val (.ref x131), .unset] [(.int rc0), (.int rc0)])
    refine OwnGoW.st (fun _ kk => XS.icmpNo X134.here hx rfl (hb hby at_225) rfl (teq (rfl : rc0 = rc0)).2 kk) ?_
    show OwnGoW p e below s Z own_EL _ _ _ T134 (mkF m 228 #[.val (.int p1), .val (.int p2), .val (.int p3), .val (.int p4), .val (.ref b103), .val (.ref b106), .val (.ref b109), .val (.ref b112), .val (.ref b115), .val (.ref b118), .val (.ref b130), .val (.ref x131), .unset] [])
    refine OwnGoW.st (fun _ kk => XS.aload X134.here hx rfl (hb hby at_228) rfl rfl  kk) ?_
    show OwnGoW p e below s Z own_EL _ _ _ T134 (mkF m 230 #[.val (.int p1), .val (.int p2), .val (.int p3), .val (.int p4), .val (.ref b103), .val (.ref b106), .val (.ref b109), .val (.ref b112), .val (.ref b115), .val (.ref b118), .val (.ref b130), .val (.ref x131), .unset] [(.ref x131)])
    refine OwnGoW.st (fun _ kk => XS.iconst X134.here hx rfl (hb hby at_230) kk) ?_
    show OwnGoW p e below s Z own_EL _ _ _ T134 (mkF m 231 #[.val (.int p1), .val (.int p2), .val (.int p3), .val (.int p4), .val (.ref b103), .val (.ref b106), .val (.ref b109), .val (.ref b112), .val (.ref b115), .val (.ref b118), .val (.ref b130), .val (.ref x131), .unset] [(.int (1 : Int32)), (.ref x131)])
    obtain ⟨cq136, kq136, q136a, q136b, q136c⟩ := isOf hZ e134 Ex131
    obtain ⟨_, _, ⟨T136, L136, k136, n136⟩, -, X136, ⟨Lc136, hQ136, l136, y136, z136⟩, st136⟩ := X134.virtualBack hx (y := (⟨"java/lang/String", "charAt", "(I)C"⟩ : MethodName)) (z := (⟨"java/lang/String", "charAt", "(I)C"⟩ : MethodName)) hown (mvT hZ (hw _ (List.mem_of_getElem? (i := 166) rfl))) (mvT hZ (hw _ (List.mem_of_getElem? (i := 167) rfl))) (notFace_of_selects (args := #[]) (mvT hZ (hw _ (List.mem_of_getElem? (i := 169) rfl)))) (mvT hZ (hw _ (List.mem_of_getElem? (i := 169) rfl))) (mvT hZ (hw _ (List.mem_of_getElem? (i := 168) rfl))) (by decide) (backOf (W := 0) (rmcharAt l Z a0 hw [] x131 y131 kb131 (4 : Int32) [(.int rc0.toInt8.toInt32), (.int rc1.toInt8.toInt32), (.int (73 : Int32)), (.int (100 : Int32))] (1 : Int32) rc1.toInt8.toInt32 rc1 zc fmv T131.heap n0 Z_ O_ S_CS P_CS S_SF rf_fmv Ex131 Fc131 Fv131 V131 ⟨by decide, by decide⟩ rfl (own_lch hp_rc1) (own_lnc hp_rc1)) hZ (hw _ (List.mem_of_getElem? (i := 170) rfl)) (hw _ (List.mem_of_getElem? (i := 3) rfl)) (by decide) (by decide)) q136a q136c (g := (mkF m 231 #[.val (.int p1), .val (.int p2), .val (.int p3), .val (.int p4), .val (.ref b103), .val (.ref b106), .val (.ref b109), .val (.ref b112), .val (.ref b115), .val (.ref b118), .val (.ref b130), .val (.ref x131), .unset] [(.int (1 : Int32)), (.ref x131)])) rfl (by rw [hml]; rfl) (Steps.refl _) (argsL := [(.int (1 : Int32))]) (rest := []) (lenOf pd_23 rfl) rfl (by show 2 * 0 + _ ≤ _; exact Nat.le_of_eq rfl) (hb hby at_231) (fun _ _ => ⟨rfl, e134, (by decide : 50 + 0 ≤ _), (by decide : 427 + 0 ≤ _)⟩)
    dsimp only [Pt.U, Pt.locs, Pt.cells, Pt.slots] at X136 l136 y136 z136 st136 hQ136
    subst l136 y136 z136
    obtain ⟨rfl, N136q, e136⟩ := hQ136
    have N136 := Fr.app N134 N136q
    refine OwnGoW.st (fun _ kk => st136.trans kk) ?_
    show OwnGoW p e below s Z own_EL _ _ _ T136 (mkF m 234 #[.val (.int p1), .val (.int p2), .val (.int p3), .val (.int p4), .val (.ref b103), .val (.ref b106), .val (.ref b109), .val (.ref b112), .val (.ref b115), .val (.ref b118), .val (.ref b130), .val (.ref x131), .unset] [(.int rc1)])
    refine OwnGoW.st (fun _ kk => XS.aload X136.here hx rfl (hb hby at_234) rfl rfl  kk) ?_
    show OwnGoW p e below s Z own_EL _ _ _ T136 (mkF m 236 #[.val (.int p1), .val (.int p2), .val (.int p3), .val (.int p4), .val (.ref b103), .val (.ref b106), .val (.ref b109), .val (.ref b112), .val (.ref b115), .val (.ref b118), .val (.ref b130), .val (.ref x131), .unset] [(.ref b106), (.int rc1)])
    refine OwnGoW.st (fun _ kk => XS.iconst X136.here hx rfl (hb hby at_236) kk) ?_
    show OwnGoW p e below s Z own_EL _ _ _ T136 (mkF m 237 #[.val (.int p1), .val (.int p2), .val (.int p3), .val (.int p4), .val (.ref b103), .val (.ref b106), .val (.ref b109), .val (.ref b112), .val (.ref b115), .val (.ref b118), .val (.ref b130), .val (.ref x131), .unset] [(.int (1 : Int32)), (.ref b106), (.int rc1)])
    obtain ⟨cl137, Ar137, -, S137, -, H137, -⟩ := id V_b106
    have hin137 : ¬ ((1 : Int32) < 0 ∨ cl137.slots.size ≤ ((1 : Int32)).toNatClampNeg) := inb_of S137 ⟨by decide, by decide⟩
    refine OwnGoW.st (fun _ kk => X136.caload hx (j := (1 : Int32)) (v := (.int rc1)) (by first | exact Ar137.1 | (rw [e136]; exact Ar137.1)) (State.isArrayOf_alike hZ.alike Ar137.2.1) Ar137.2.2 hin137 (H137.at hin137 rfl) (g := (mkF m 237 #[.val (.int p1), .val (.int p2), .val (.int p3), .val (.int p4), .val (.ref b103), .val (.ref b106), .val (.ref b109), .val (.ref b112), .val (.ref b115), .val (.ref b118), .val (.ref b130), .val (.ref x131), .unset] [(.int (1 : Int32)), (.ref b106), (.int rc1)])) rfl rfl (hb hby at_237) _ kk) ?_
    show OwnGoW p e below s Z own_EL _ _ _ T136 (mkF m 238 #[.val (.int p1), .val (.int p2), .val (.int p3), .val (.int p4), .val (.ref b103), .val (.ref b106), .val (.ref b109), .val (.ref b112), .val (.ref b115), .val (.ref b118), .val (.ref b130), .val (.ref x131), .unset] [(.int rc1), (.int rc1)])
    refine OwnGoW.st (fun _ kk => XS.icmpNo X136.here hx rfl (hb hby at_238) rfl (teq (rfl : rc1 = rc1)).2 kk) ?_
    show OwnGoW p e below s Z own_EL _ _ _ T136 (mkF m 241 #[.val (.int p1), .val (.int p2), .val (.int p3), .val (.int p4), .val (.ref b103), .val (.ref b106), .val (.ref b109), .val (.ref b112), .val (.ref b115), .val (.ref b118), .val (.ref b130), .val (.ref x131), .unset] [])
    refine OwnGoW.st (fun _ kk => XS.aload X136.here hx rfl (hb hby at_241) rfl rfl  kk) ?_
    show OwnGoW p e below s Z own_EL _ _ _ T136 (mkF m 243 #[.val (.int p1), .val (.int p2), .val (.int p3), .val (.int p4), .val (.ref b103), .val (.ref b106), .val (.ref b109), .val (.ref b112), .val (.ref b115), .val (.ref b118), .val (.ref b130), .val (.ref x131), .unset] [(.ref x131)])
    refine OwnGoW.st (fun _ kk => XS.iconst X136.here hx rfl (hb hby at_243) kk) ?_
    show OwnGoW p e below s Z own_EL _ _ _ T136 (mkF m 244 #[.val (.int p1), .val (.int p2), .val (.int p3), .val (.int p4), .val (.ref b103), .val (.ref b106), .val (.ref b109), .val (.ref b112), .val (.ref b115), .val (.ref b118), .val (.ref b130), .val (.ref x131), .unset] [(.int (2 : Int32)), (.ref x131)])
    obtain ⟨cq138, kq138, q138a, q138b, q138c⟩ := isOf hZ e136 Ex131
    obtain ⟨_, _, ⟨T138, L138, k138, n138⟩, -, X138, ⟨Lc138, hQ138, l138, y138, z138⟩, st138⟩ := X136.virtualBack hx (y := (⟨"java/lang/String", "charAt", "(I)C"⟩ : MethodName)) (z := (⟨"java/lang/String", "charAt", "(I)C"⟩ : MethodName)) hown (mvT hZ (hw _ (List.mem_of_getElem? (i := 166) rfl))) (mvT hZ (hw _ (List.mem_of_getElem? (i := 167) rfl))) (notFace_of_selects (args := #[]) (mvT hZ (hw _ (List.mem_of_getElem? (i := 169) rfl)))) (mvT hZ (hw _ (List.mem_of_getElem? (i := 169) rfl))) (mvT hZ (hw _ (List.mem_of_getElem? (i := 168) rfl))) (by decide) (backOf (W := 0) (rmcharAt l Z a0 hw [] x131 y131 kb131 (4 : Int32) [(.int rc0.toInt8.toInt32), (.int rc1.toInt8.toInt32), (.int (73 : Int32)), (.int (100 : Int32))] (2 : Int32) (73 : Int32) (73 : Int32) zc fmv T131.heap n0 Z_ O_ S_CS P_CS S_SF rf_fmv Ex131 Fc131 Fv131 V131 ⟨by decide, by decide⟩ rfl (by decide) (by decide)) hZ (hw _ (List.mem_of_getElem? (i := 170) rfl)) (hw _ (List.mem_of_getElem? (i := 3) rfl)) (by decide) (by decide)) q138a q138c (g := (mkF m 244 #[.val (.int p1), .val (.int p2), .val (.int p3), .val (.int p4), .val (.ref b103), .val (.ref b106), .val (.ref b109), .val (.ref b112), .val (.ref b115), .val (.ref b118), .val (.ref b130), .val (.ref x131), .unset] [(.int (2 : Int32)), (.ref x131)])) rfl (by rw [hml]; rfl) (Steps.refl _) (argsL := [(.int (2 : Int32))]) (rest := []) (lenOf pd_23 rfl) rfl (by show 2 * 0 + _ ≤ _; exact Nat.le_of_eq rfl) (hb hby at_244) (fun _ _ => ⟨rfl, e136, (by decide : 50 + 0 ≤ _), (by decide : 427 + 0 ≤ _)⟩)
    dsimp only [Pt.U, Pt.locs, Pt.cells, Pt.slots] at X138 l138 y138 z138 st138 hQ138
    subst l138 y138 z138
    obtain ⟨rfl, N138q, e138⟩ := hQ138
    have N138 := Fr.app N136 N138q
    refine OwnGoW.st (fun _ kk => st138.trans kk) ?_
    show OwnGoW p e below s Z own_EL _ _ _ T138 (mkF m 247 #[.val (.int p1), .val (.int p2), .val (.int p3), .val (.int p4), .val (.ref b103), .val (.ref b106), .val (.ref b109), .val (.ref b112), .val (.ref b115), .val (.ref b118), .val (.ref b130), .val (.ref x131), .unset] [(.int (73 : Int32))])
    refine OwnGoW.st (fun _ kk => XS.bipush X138.here hx rfl (hb hby at_247) kk) ?_
    show OwnGoW p e below s Z own_EL _ _ _ T138 (mkF m 249 #[.val (.int p1), .val (.int p2), .val (.int p3), .val (.int p4), .val (.ref b103), .val (.ref b106), .val (.ref b109), .val (.ref b112), .val (.ref b115), .val (.ref b118), .val (.ref b130), .val (.ref x131), .unset] [(.int (73 : Int32)), (.int (73 : Int32))])
    refine OwnGoW.st (fun _ kk => XS.icmpNo X138.here hx rfl (hb hby at_249) rfl (teq ((by decide) : (73 : Int32) = (73 : Int32))).2 kk) ?_
    show OwnGoW p e below s Z own_EL _ _ _ T138 (mkF m 252 #[.val (.int p1), .val (.int p2), .val (.int p3), .val (.int p4), .val (.ref b103), .val (.ref b106), .val (.ref b109), .val (.ref b112), .val (.ref b115), .val (.ref b118), .val (.ref b130), .val (.ref x131), .unset] [])
    refine OwnGoW.st (fun _ kk => XS.aload X138.here hx rfl (hb hby at_252) rfl rfl  kk) ?_
    show OwnGoW p e below s Z own_EL _ _ _ T138 (mkF m 254 #[.val (.int p1), .val (.int p2), .val (.int p3), .val (.int p4), .val (.ref b103), .val (.ref b106), .val (.ref b109), .val (.ref b112), .val (.ref b115), .val (.ref b118), .val (.ref b130), .val (.ref x131), .unset] [(.ref x131)])
    refine OwnGoW.st (fun _ kk => XS.iconst X138.here hx rfl (hb hby at_254) kk) ?_
    show OwnGoW p e below s Z own_EL _ _ _ T138 (mkF m 255 #[.val (.int p1), .val (.int p2), .val (.int p3), .val (.int p4), .val (.ref b103), .val (.ref b106), .val (.ref b109), .val (.ref b112), .val (.ref b115), .val (.ref b118), .val (.ref b130), .val (.ref x131), .unset] [(.int (3 : Int32)), (.ref x131)])
    obtain ⟨cq139, kq139, q139a, q139b, q139c⟩ := isOf hZ e138 Ex131
    obtain ⟨_, _, ⟨T139, L139, k139, n139⟩, -, X139, ⟨Lc139, hQ139, l139, y139, z139⟩, st139⟩ := X138.virtualBack hx (y := (⟨"java/lang/String", "charAt", "(I)C"⟩ : MethodName)) (z := (⟨"java/lang/String", "charAt", "(I)C"⟩ : MethodName)) hown (mvT hZ (hw _ (List.mem_of_getElem? (i := 166) rfl))) (mvT hZ (hw _ (List.mem_of_getElem? (i := 167) rfl))) (notFace_of_selects (args := #[]) (mvT hZ (hw _ (List.mem_of_getElem? (i := 169) rfl)))) (mvT hZ (hw _ (List.mem_of_getElem? (i := 169) rfl))) (mvT hZ (hw _ (List.mem_of_getElem? (i := 168) rfl))) (by decide) (backOf (W := 0) (rmcharAt l Z a0 hw [] x131 y131 kb131 (4 : Int32) [(.int rc0.toInt8.toInt32), (.int rc1.toInt8.toInt32), (.int (73 : Int32)), (.int (100 : Int32))] (3 : Int32) (100 : Int32) (100 : Int32) zc fmv T131.heap n0 Z_ O_ S_CS P_CS S_SF rf_fmv Ex131 Fc131 Fv131 V131 ⟨by decide, by decide⟩ rfl (by decide) (by decide)) hZ (hw _ (List.mem_of_getElem? (i := 170) rfl)) (hw _ (List.mem_of_getElem? (i := 3) rfl)) (by decide) (by decide)) q139a q139c (g := (mkF m 255 #[.val (.int p1), .val (.int p2), .val (.int p3), .val (.int p4), .val (.ref b103), .val (.ref b106), .val (.ref b109), .val (.ref b112), .val (.ref b115), .val (.ref b118), .val (.ref b130), .val (.ref x131), .unset] [(.int (3 : Int32)), (.ref x131)])) rfl (by rw [hml]; rfl) (Steps.refl _) (argsL := [(.int (3 : Int32))]) (rest := []) (lenOf pd_23 rfl) rfl (by show 2 * 0 + _ ≤ _; exact Nat.le_of_eq rfl) (hb hby at_255) (fun _ _ => ⟨rfl, e138, (by decide : 50 + 0 ≤ _), (by decide : 427 + 0 ≤ _)⟩)
    dsimp only [Pt.U, Pt.locs, Pt.cells, Pt.slots] at X139 l139 y139 z139 st139 hQ139
    subst l139 y139 z139
    obtain ⟨rfl, N139q, e139⟩ := hQ139
    have N139 := Fr.app N138 N139q
    refine OwnGoW.st (fun _ kk => st139.trans kk) ?_
    show OwnGoW p e below s Z own_EL _ _ _ T139 (mkF m 258 #[.val (.int p1), .val (.int p2), .val (.int p3), .val (.int p4), .val (.ref b103), .val (.ref b106), .val (.ref b109), .val (.ref b112), .val (.ref b115), .val (.ref b118), .val (.ref b130), .val (.ref x131), .unset] [(.int (100 : Int32))])
    refine OwnGoW.st (fun _ kk => XS.bipush X139.here hx rfl (hb hby at_258) kk) ?_
    show OwnGoW p e below s Z own_EL _ _ _ T139 (mkF m 260 #[.val (.int p1), .val (.int p2), .val (.int p3), .val (.int p4), .val (.ref b103), .val (.ref b106), .val (.ref b109), .val (.ref b112), .val (.ref b115), .val (.ref b118), .val (.ref b130), .val (.ref x131), .unset] [(.int (100 : Int32)), (.int (100 : Int32))])
    refine OwnGoW.st (fun _ kk => XS.icmpNo X139.here hx rfl (hb hby at_260) rfl (teq ((by decide) : (100 : Int32) = (100 : Int32))).2 kk) ?_
    show OwnGoW p e below s Z own_EL _ _ _ T139 (mkF m 263 #[.val (.int p1), .val (.int p2), .val (.int p3), .val (.int p4), .val (.ref b103), .val (.ref b106), .val (.ref b109), .val (.ref b112), .val (.ref b115), .val (.ref b118), .val (.ref b130), .val (.ref x131), .unset] [])
    refine OwnGoW.st (fun _ kk => XS.iconst X139.here hx rfl (hb hby at_263) kk) ?_
    show OwnGoW p e below s Z own_EL _ _ _ T139 (mkF m 264 #[.val (.int p1), .val (.int p2), .val (.int p3), .val (.int p4), .val (.ref b103), .val (.ref b106), .val (.ref b109), .val (.ref b112), .val (.ref b115), .val (.ref b118), .val (.ref b130), .val (.ref x131), .unset] [(.int (1 : Int32))])
    refine OwnGoW.st (fun _ kk => XS.goto X139.here hx rfl (pc0 := 264) (pc' := 268) rfl (hb hby at_264) (by decide) (by decide) kk) ?_
    show OwnGoW p e below s Z own_EL _ _ _ T139 (mkF m 268 #[.val (.int p1), .val (.int p2), .val (.int p3), .val (.int p4), .val (.ref b103), .val (.ref b106), .val (.ref b109), .val (.ref b112), .val (.ref b115), .val (.ref b118), .val (.ref b130), .val (.ref x131), .unset] [(.int (1 : Int32))])
    exact OwnGoW.retN (s := s) (vm0 := T131.vm) X139 hS_ hk_ e139 hZ (own_hEL hw) CR hx (t := .boolean) hret hlk (by simp) (hb hby at_268) (by show Q0 Z p1 p2 p3 p4 zc fmv h0 n0 _ T139.heap _; rw [e139]; exact ⟨rfl, N139⟩) (by decide) (by decide)
set_option maxRecDepth 65536 in
set_option maxHeartbeats 40000000 in
theorem comes_1 {Post : Tables → Env → Array Value → State → Outcome → State → Prop} (hpost : ∀ tb e args s v u, (limb_1_1.after args s (.returned v) u = true ∧ limb_1_2.after args s (.returned v) u = true ∧ True) → ReturnedEndW s (.returned v) u (Jvm.fieldLocs frame_1_writes args s ++ Jvm.arrayLocs frame_1_arrays args s ++ Jvm.staticLocs frame_1_statics s) 56 3328 → Post tb e args s (.returned v) u) :
    ArmFor flags0 classFile x code maxLocals ret World_1 tables_1 room_1 Calls_1 rest_1 Pre_1 Post := by
  intro l hfl _ _ p e ha hc hk s m args below hf hA hF happ hP
  obtain ⟨hcalls, hrest, hpre⟩ := hP
  obtain ⟨-, -, -, hnamed, -, -, -, hat⟩ := (Spec.applies_iff hf).mp happ
  obtain ⟨hg, hn⟩ := and_e (Cond.before_iff.mp (show (Jvm.Cond.and given_1 narrow_1).before args s = true from hpre))
  obtain ⟨hcnt, hg⟩ := and_e hg
  obtain ⟨hg0, hg⟩ := and_e hg
  obtain ⟨hg1, hg⟩ := and_e hg
  obtain ⟨hg2, hg⟩ := and_e hg
  have hg3 := hg
  obtain ⟨w0, w1, w2, w3, rfl⟩ : ∃ w0 w1 w2 w3 : Value, args = #[w0, w1, w2, w3] := by
    have hs : args.size = 4 := by simpa [Cond.value, given_1] using hcnt
    obtain ⟨L⟩ := args
    match L, hs with
    | [w0, w1, w2, w3], _ => exact ⟨w0, w1, w2, w3, rfl⟩
  have hw := fun d (hd : d ∈ tables_1) => atoms_spec (ws := Jvm.Cond.code x code maxLocals ret :: tables_1) hat d (List.mem_cons_of_mem _ hd)
  have hfit : Fit s := fun {y c} hc i hi => by
    obtain ⟨ha, rfl⟩ := Array.getElem?_eq_some_iff.mp hc
    have q := List.all_eq_true.mp ((Array.all_eq_true_iff_forall_mem.mp hF) _ (Array.getElem_mem ha)) i (List.mem_range.mpr hi)
    simpa [Array.getElem?_eq_getElem hi] using q
  obtain ⟨i0, ei0⟩ := is_v hg0
  obtain rfl : w0 = (.int i0) := Option.some.inj ei0
  obtain ⟨i1, ei1⟩ := is_v hg1
  obtain rfl : w1 = (.int i1) := Option.some.inj ei1
  obtain ⟨i2, ei2⟩ := is_v hg2
  obtain rfl : w2 = (.int i2) := Option.some.inj ei2
  obtain ⟨i3, ei3⟩ := is_v hg3
  obtain rfl : w3 = (.int i3) := Option.some.inj ei3
  obtain ⟨hsets, hown0⟩ := atoms_of _ (rest_1_c_eq ▸ (show rest_1_c.before _ s = true from hrest))
  obtain ⟨zc, ev_zc⟩ := is_v (Cond.before_iff.mp (hsets _ (List.mem_of_getElem? (i := 1) rfl)))
  have S_CS := Sta.start ev_zc (Or.inl (hsets _ (List.mem_of_getElem? (i := 0) rfl)))
  have P_CS : ¬ zc = (0 : Int32) := gotF (Cond.eq_ints ev_zc (Term.int_eval (0))) (not_v (Cond.before_iff.mp (hsets _ (List.mem_of_getElem? (i := 2) rfl))))
  obtain ⟨fmv, ev_fm, rf_fmv⟩ := isR_v (Cond.before_iff.mp (hsets _ (List.mem_of_getElem? (i := 8) rfl)))
  have S_SF := Sta.start ev_fm (Or.inl (hsets _ (List.mem_of_getElem? (i := 7) rfl)))
  obtain ⟨n, o, h1, h2, h3, _, L, rfl, ⟨rfl, N⟩, -, hq⟩ := rm0 l s _ hw tables_1 i0 i1 i2 i3 zc fmv s.heap s.heap.size (Nat.le_refl _) (Old.start s) S_CS P_CS S_SF rf_fmv  p e ha hc hk s m _ below hf ((Spec.applies_iff_loose hf).mp happ).1 ⟨rfl, State.Warmed39.refl s, rfl, (CHv.start (own_hEL hw) (fun q hq => (hcalls.1 : Jvm.Lit.constsHeld consts_1 s) q ((by decide : ∀ q ∈ own_EL, q ∈ consts_1) q hq)) (hsets _ (List.mem_of_getElem? (i := 2) rfl)) (hw _ (List.mem_of_getElem? (i := 19) rfl)) (hw _ (List.mem_of_getElem? (i := 2) rfl)))⟩ trivial
  refine ⟨n, _, h1, h2, h3, hpost _ _ _ _ _ _ ⟨Cond.after_iff.mpr rfl, Cond.after_iff.mpr (eq_i res_at (Term.int_eval (1)) rfl), trivial⟩ ⟨hq.1, hq.2.1, hq.2.2.1, (hq.2.2.2.sift fun y hy => Or.inr (N y hy)).mono (by decide) (by decide)⟩⟩
theorem main_1_1 : Claimed_1_1 := comes_1 fun _ _ _ _ _ _ h hF => ⟨h.1, hF⟩
theorem main_1_2 : Claimed_1_2 := comes_1 fun _ _ _ _ _ _ h hF => ⟨h.2.1, hF⟩
end Jvm.Pilot.@@N@@
namespace Jvm.Pilot.@@N@@
open Jvm Jvm.ClassFile Sem Op Lib Jvm.Free Jvm.Stand Jvm.Pilot.@@N@@.Jvm.D
/-! MADE BY PROGRAM (witnessworld.py) out of the Statement's table words and the real class files: 26 classes; the members and pool entries that the words name. The judged class is class 1, her method 1. -/
namespace start1
open Jvm.ClassFile
def u (s : String) : CpInfo := .utf8 (stringToUtf16 s)
/-- a pool by its gaps: so many unusable entries, then the entry; so many at the end -/
def gap : Nat → List CpInfo → List CpInfo
  | 0, r => r
  | n + 1, r => .unusable :: gap n r
def poolList (es : List (Nat × CpInfo)) (last : Nat) : List CpInfo := es.foldr (fun e r => gap e.1 (e.2 :: r)) (gap last [])
def pool (es : List (Nat × CpInfo)) (last : Nat) : Array CpInfo := ⟨poolList es last⟩
def fileOf (pool : Array CpInfo) (this : Nat) (attrs : Array Attribute := #[]) (ms : Array MethodInfo := #[]) (fl : Nat := 33) (sup : Nat := 0) (ifs : Array Nat := #[]) (fds : Array FieldInfo := #[]) : ClassFile where
  minorVersion := 0
  majorVersion := 65
  constantPool := pool
  accessFlags := fl
  thisClass := this
  superClass := sup
  interfaces := ifs
  fields := fds
  methods := ms
  attributes := attrs
def plain (name : String) (sup : Option ClassId) : Class where
  name := name
  kind := .ordinary
  loader := none
  accessFlags := 33
  super := sup
  interfaces := #[]
  cf := none
  fields := #[]
  methods := #[]
  instanceTypes := #[]
  staticTypes := #[]
  resolved := #[]
  callSites := []
  init := .initialized
  statics := none
  mirror := none

def pool0 : Array CpInfo := pool [(5, u "<init>"), (0, u "()V"), (1, .class_ 10), (1, u "java/lang/Object")] 113

def k0c0 : Code := { maxStack := 0, maxLocals := 1, code := object_method_1_code, exceptionTable := #[], attributes := #[] }
def k0m0 : Method := { name := "<init>", desc := "()V", sig := { parameters := [], returnType := none }, accessFlags := 1, code := some k0c0 }
/-- java/lang/Object -/
def k0 : Class := { plain "java/lang/Object" none with
  accessFlags := 33
  interfaces := #[]
  cf := some (fileOf pool0 8 #[] #[{ accessFlags := 1, nameIndex := 5, descriptorIndex := 6, attributes := #[] }] 33 0 #[] #[])
  fields := #[]
  methods := #[k0m0]
  instanceTypes := #[]
  staticTypes := #[]
  resolved := Array.replicate 124 none
  statics := none }

def pool1 : Array CpInfo := pool [(2, .class_ 4), (1, u "java/lang/Object"), (0, u "<init>"), (0, u "()V"), (0, .class_ 8), (0, u "java/lang/String"), (0, .methodref 7 10), (0, .nameAndType 5 11), (0, u "([C)V"), (0, .string 13), (0, u ""), (0, .class_ 15), (0, u "com/example/thorough_factfind/thoroughfactfind/foundation/section/RecordPath"), (0, .methodref 14 17), (0, .nameAndType 5 18), (0, u "(Ljava/lang/String;Ljava/lang/String;Ljava/lang/String;)V"), (0, .methodref 14 20), (0, .nameAndType 21 22), (0, u "parameter"), (0, u "()Ljava/lang/String;"), (0, .methodref 7 24), (0, .nameAndType 25 26), (0, u "equals"), (0, u "(Ljava/lang/Object;)Z"), (0, .methodref 14 28), (0, .nameAndType 5 29), (0, u "(Ljava/lang/String;Ljava/lang/String;)V"), (0, .methodref 7 31), (0, .nameAndType 32 33), (0, u "length"), (0, u "()I"), (0, .methodref 7 35), (0, .nameAndType 36 37), (0, u "charAt"), (0, u "(I)C"), (0, .class_ 39), (0, u "com/example/thorough_factfind/thoroughfactfind/foundation/section/RecordPathParameterPinLaw"), (2, u "law"), (0, u "(IIII)Z")] 5

def k1m0 : Method := { name := "<init>", desc := "()V", sig := { parameters := [], returnType := none }, accessFlags := 1, code := none }
def k1c1 : Code := { maxStack := 5, maxLocals := 13, code := code, exceptionTable := #[], attributes := #[] }
def k1m1 : Method := { name := "law", desc := "(IIII)Z", sig := { parameters := [.int, .int, .int, .int], returnType := some .boolean }, accessFlags := 9, code := some k1c1 }
/-- com/example/thorough_factfind/thoroughfactfind/foundation/section/RecordPathParameterPinLaw -/
def k1 : Class := { plain "com/example/thorough_factfind/thoroughfactfind/foundation/section/RecordPathParameterPinLaw" (some 0) with
  accessFlags := 49
  interfaces := #[]
  cf := some (fileOf pool1 38 #[] #[{ accessFlags := 1, nameIndex := 5, descriptorIndex := 6, attributes := #[] }, { accessFlags := 9, nameIndex := 42, descriptorIndex := 43, attributes := #[] }] 49 2 #[] #[])
  fields := #[]
  methods := #[k1m0, k1m1]
  instanceTypes := #[]
  staticTypes := #[]
  resolved := Array.replicate 49 none
  statics := none }

def pool2 : Array CpInfo := pool [(1, .class_ 2), (0, u "java/io/Serializable"), (0, .class_ 4), (0, u "java/lang/Object")] 2

/-- java/io/Serializable -/
def k2 : Class := { plain "java/io/Serializable" (some 0) with
  accessFlags := 1537
  interfaces := #[]
  cf := some (fileOf pool2 1 #[] #[] 1537 3 #[] #[])
  fields := #[]
  methods := #[]
  instanceTypes := #[]
  staticTypes := #[]
  resolved := Array.replicate 7 none
  statics := none }

def pool3 : Array CpInfo := pool [(1, .class_ 2), (0, u "java/lang/Comparable"), (0, .class_ 4), (0, u "java/lang/Object")] 7

/-- java/lang/Comparable -/
def k3 : Class := { plain "java/lang/Comparable" (some 0) with
  accessFlags := 1537
  interfaces := #[]
  cf := some (fileOf pool3 1 #[] #[] 1537 3 #[] #[])
  fields := #[]
  methods := #[]
  instanceTypes := #[]
  staticTypes := #[]
  resolved := Array.replicate 12 none
  statics := none }

def pool4 : Array CpInfo := pool [(2, .class_ 4), (1, u "java/lang/CharSequence"), (42, .class_ 48), (0, u "java/lang/CharSequence$1CodePointIterator"), (10, .class_ 60), (0, u "java/lang/CharSequence$1CharIterator"), (5, .class_ 67), (0, u "java/lang/Object")] 63

/-- java/lang/CharSequence -/
def k4 : Class := { plain "java/lang/CharSequence" (some 0) with
  accessFlags := 1537
  interfaces := #[]
  cf := some (fileOf pool4 2 #[.nestMembers #[47, 59]] #[] 1537 66 #[] #[])
  fields := #[]
  methods := #[]
  instanceTypes := #[]
  staticTypes := #[]
  resolved := Array.replicate 131 none
  statics := none }

def pool5 : Array CpInfo := pool [(1, .class_ 2), (0, u "java/lang/constant/Constable"), (0, .class_ 4), (0, u "java/lang/Object")] 6

/-- java/lang/constant/Constable -/
def k5 : Class := { plain "java/lang/constant/Constable" (some 0) with
  accessFlags := 1537
  interfaces := #[]
  cf := some (fileOf pool5 1 #[] #[] 1537 3 #[] #[])
  fields := #[]
  methods := #[]
  instanceTypes := #[]
  staticTypes := #[]
  resolved := Array.replicate 11 none
  statics := none }

def pool6 : Array CpInfo := pool [(1, .class_ 2), (0, u "java/lang/constant/ConstantDesc"), (0, .class_ 4), (0, u "java/lang/Object")] 32

/-- java/lang/constant/ConstantDesc -/
def k6 : Class := { plain "java/lang/constant/ConstantDesc" (some 0) with
  accessFlags := 1537
  interfaces := #[]
  cf := some (fileOf pool6 1 #[] #[] 1537 3 #[] #[])
  fields := #[]
  methods := #[]
  instanceTypes := #[]
  staticTypes := #[]
  resolved := Array.replicate 37 none
  statics := none }

def pool7 : Array CpInfo := pool [(1, .methodref 2 3), (0, .class_ 4), (0, .nameAndType 5 6), (0, u "java/lang/Object"), (0, u "<init>"), (0, u "()V"), (2, .fieldref 10 11), (0, .class_ 12), (0, .nameAndType 13 14), (0, u "java/lang/String"), (0, u "value"), (0, u "[B"), (0, .fieldref 10 16), (0, .nameAndType 17 18), (0, u "coder"), (0, u "B"), (2, u "hash"), (0, u "I"), (2, u "hashIsZero"), (0, u "Z"), (0, .methodref 10 28), (0, .nameAndType 5 29), (0, u "([CIILjava/lang/Void;)V"), (8, .fieldref 10 39), (0, .nameAndType 40 26), (0, u "COMPACT_STRINGS"), (1, .class_ 44), (1, u "java/lang/StringUTF16"), (0, u "compress"), (1, .methodref 42 48), (0, .nameAndType 49 50), (0, u "coderFromArrayLen"), (0, u "([BI)B"), (3, .methodref 55 56), (0, .class_ 57), (0, .nameAndType 58 59), (0, u "java/util/Arrays"), (0, u "copyOfRange"), (0, u "([BII)[B"), (47, .class_ 109), (1, u "java/lang/StringLatin1"), (32, u "()Z"), (34, .methodref 42 178), (0, .nameAndType 45 179), (0, u "([CII)[B"), (13, .class_ 195), (1, u "java/lang/System"), (16, .methodref 193 213), (0, .nameAndType 214 215), (0, u "arraycopy"), (0, u "(Ljava/lang/Object;ILjava/lang/Object;II)V"), (118, u "()I"), (0, .methodref 10 336), (0, .nameAndType 17 337), (0, u "()B"), (2, u "()[B"), (22, u "([BI)C"), (27, u "(II)V"), (35, u "(I)C"), (61, .methodref 10 490), (0, .nameAndType 5 491), (0, u "(Ljava/lang/AbstractStringBuilder;Ljava/lang/Void;)V"), (0, .methodref 10 493), (0, .nameAndType 494 142), (0, u "isLatin1"), (0, .methodref 107 496), (0, .nameAndType 497 363), (0, u "charAt"), (3, u "checkIndex"), (4, .nameAndType 507 334), (0, u "length"), (24, u "getBytes"), (10, u "equals"), (5, .methodref 550 506), (0, .class_ 551), (0, u "java/lang/AbstractStringBuilder"), (0, .methodref 550 553), (0, .nameAndType 554 340), (0, u "getValue"), (18, u "(Ljava/lang/Object;)Z"), (1, .class_ 576), (0, u "java/lang/CharSequence"), (22, u "CASE_INSENSITIVE_ORDER"), (0, u "Ljava/util/Comparator;"), (220, u "([BIB)V"), (188, u "([C)V"), (36, .methodref 550 493), (5, .fieldref 1054 1055), (0, .class_ 1056), (0, .nameAndType 1057 1058), (0, u "jdk/internal/util/Preconditions"), (0, u "SIOOBE_FORMATTER"), (0, u "Ljava/util/function/BiFunction;"), (0, .methodref 1054 1060), (0, .nameAndType 501 1061), (0, u "(IILjava/util/function/BiFunction;)I"), (39, u "serialPersistentFields"), (0, u "[Ljava/io/ObjectStreamField;"), (0, .class_ 1104), (0, u "java/lang/String$CaseInsensitiveComparator"), (1, .class_ 1107), (0, u "java/io/Serializable"), (0, .class_ 1109), (0, u "java/lang/Comparable"), (0, .class_ 1111), (0, u "java/lang/constant/Constable"), (0, .class_ 1113), (0, u "java/lang/constant/ConstantDesc"), (2, u "serialVersionUID"), (0, u "J"), (3, u "REPL"), (0, u "C"), (2, u "LATIN1"), (1, u "UTF16"), (105, u "(Ljava/lang/StringBuilder;)V")] 217

def k7m0 : Method := { name := "<init>", desc := "()V", sig := { parameters := [], returnType := none }, accessFlags := 1, code := none }
def k7c1 : Code := { maxStack := 5, maxLocals := 2, code := jdk_42_method_3_code, exceptionTable := #[], attributes := #[] }
def k7m1 : Method := { name := "<init>", desc := "([C)V", sig := { parameters := [(.array .char)], returnType := none }, accessFlags := 1, code := some k7c1 }
def k7c2 : Code := { maxStack := 3, maxLocals := 2, code := jdk_42_method_53_code, exceptionTable := #[], attributes := #[] }
def k7m2 : Method := { name := "<init>", desc := "(Ljava/lang/StringBuilder;)V", sig := { parameters := [(.object "java/lang/StringBuilder")], returnType := none }, accessFlags := 1, code := some k7c2 }
def k7c3 : Code := { maxStack := 2, maxLocals := 1, code := jdk_42_method_54_code, exceptionTable := #[], attributes := #[] }
def k7m3 : Method := { name := "length", desc := "()I", sig := { parameters := [], returnType := some .int }, accessFlags := 1, code := some k7c3 }
def k7c4 : Code := { maxStack := 2, maxLocals := 2, code := jdk_42_method_56_code, exceptionTable := #[], attributes := #[] }
def k7m4 : Method := { name := "charAt", desc := "(I)C", sig := { parameters := [.int], returnType := some .char }, accessFlags := 1, code := some k7c4 }
def k7c5 : Code := { maxStack := 2, maxLocals := 3, code := jdk_42_method_66_code, exceptionTable := #[], attributes := #[] }
def k7m5 : Method := { name := "equals", desc := "(Ljava/lang/Object;)Z", sig := { parameters := [(.object "java/lang/Object")], returnType := some .boolean }, accessFlags := 1, code := some k7c5 }
def k7c6 : Code := { maxStack := 5, maxLocals := 4, code := jdk_42_method_147_code, exceptionTable := #[], attributes := #[] }
def k7m6 : Method := { name := "getBytes", desc := "([BIB)V", sig := { parameters := [(.array .byte), .int, .byte], returnType := none }, accessFlags := 0, code := some k7c6 }
def k7c7 : Code := { maxStack := 4, maxLocals := 6, code := jdk_42_method_149_code, exceptionTable := #[], attributes := #[] }
def k7m7 : Method := { name := "<init>", desc := "([CIILjava/lang/Void;)V", sig := { parameters := [(.array .char), .int, .int, (.object "java/lang/Void")], returnType := none }, accessFlags := 2, code := some k7c7 }
def k7c8 : Code := { maxStack := 5, maxLocals := 5, code := jdk_42_method_150_code, exceptionTable := #[], attributes := #[] }
def k7m8 : Method := { name := "<init>", desc := "(Ljava/lang/AbstractStringBuilder;Ljava/lang/Void;)V", sig := { parameters := [(.object "java/lang/AbstractStringBuilder"), (.object "java/lang/Void")], returnType := none }, accessFlags := 0, code := some k7c8 }
def k7c9 : Code := { maxStack := 1, maxLocals := 1, code := jdk_42_method_152_code, exceptionTable := #[], attributes := #[] }
def k7m9 : Method := { name := "coder", desc := "()B", sig := { parameters := [], returnType := some .byte }, accessFlags := 0, code := some k7c9 }
def k7c10 : Code := { maxStack := 1, maxLocals := 1, code := jdk_42_method_154_code, exceptionTable := #[], attributes := #[] }
def k7m10 : Method := { name := "isLatin1", desc := "()Z", sig := { parameters := [], returnType := some .boolean }, accessFlags := 0, code := some k7c10 }
def k7c11 : Code := { maxStack := 3, maxLocals := 2, code := jdk_42_method_155_code, exceptionTable := #[], attributes := #[] }
def k7m11 : Method := { name := "checkIndex", desc := "(II)V", sig := { parameters := [.int, .int], returnType := none }, accessFlags := 8, code := some k7c11 }
/-- java/lang/String -/
def k7 : Class := { plain "java/lang/String" (some 0) with
  accessFlags := 49
  interfaces := #[2, 3, 4, 5, 6]
  cf := some (fileOf pool7 10 #[.nestMembers #[1103]] #[{ accessFlags := 1, nameIndex := 5, descriptorIndex := 6, attributes := #[] }, { accessFlags := 1, nameIndex := 5, descriptorIndex := 1010, attributes := #[] }, { accessFlags := 1, nameIndex := 5, descriptorIndex := 1233, attributes := #[] }, { accessFlags := 1, nameIndex := 507, descriptorIndex := 334, attributes := #[] }, { accessFlags := 1, nameIndex := 497, descriptorIndex := 427, attributes := #[] }, { accessFlags := 1, nameIndex := 543, descriptorIndex := 573, attributes := #[] }, { accessFlags := 0, nameIndex := 532, descriptorIndex := 821, attributes := #[] }, { accessFlags := 2, nameIndex := 5, descriptorIndex := 29, attributes := #[] }, { accessFlags := 0, nameIndex := 5, descriptorIndex := 491, attributes := #[] }, { accessFlags := 0, nameIndex := 17, descriptorIndex := 337, attributes := #[] }, { accessFlags := 0, nameIndex := 494, descriptorIndex := 142, attributes := #[] }, { accessFlags := 8, nameIndex := 501, descriptorIndex := 391, attributes := #[] }] 49 2 #[1106, 1108, 575, 1110, 1112] #[{ accessFlags := 18, nameIndex := 13, descriptorIndex := 14, attributes := #[] }, { accessFlags := 18, nameIndex := 17, descriptorIndex := 18, attributes := #[] }, { accessFlags := 2, nameIndex := 21, descriptorIndex := 22, attributes := #[] }, { accessFlags := 2, nameIndex := 25, descriptorIndex := 26, attributes := #[] }, { accessFlags := 26, nameIndex := 1116, descriptorIndex := 1117, attributes := #[] }, { accessFlags := 24, nameIndex := 40, descriptorIndex := 26, attributes := #[] }, { accessFlags := 26, nameIndex := 1101, descriptorIndex := 1102, attributes := #[] }, { accessFlags := 26, nameIndex := 1121, descriptorIndex := 1122, attributes := #[] }, { accessFlags := 25, nameIndex := 599, descriptorIndex := 600, attributes := #[] }, { accessFlags := 24, nameIndex := 1125, descriptorIndex := 18, attributes := #[] }, { accessFlags := 24, nameIndex := 1127, descriptorIndex := 18, attributes := #[] }])
  fields := #[{ name := "value", type := (.array .byte), accessFlags := 18, slot := 0, constantValue := 0 }, { name := "coder", type := .byte, accessFlags := 18, slot := 1, constantValue := 0 }, { name := "hash", type := .int, accessFlags := 2, slot := 2, constantValue := 0 }, { name := "hashIsZero", type := .boolean, accessFlags := 2, slot := 3, constantValue := 0 }, { name := "serialVersionUID", type := .long, accessFlags := 26, slot := 0, constantValue := 0 }, { name := "COMPACT_STRINGS", type := .boolean, accessFlags := 24, slot := 1, constantValue := 0 }, { name := "serialPersistentFields", type := (.array (.object "java/io/ObjectStreamField")), accessFlags := 26, slot := 2, constantValue := 0 }, { name := "REPL", type := .char, accessFlags := 26, slot := 3, constantValue := 0 }, { name := "CASE_INSENSITIVE_ORDER", type := (.object "java/util/Comparator"), accessFlags := 25, slot := 4, constantValue := 0 }, { name := "LATIN1", type := .byte, accessFlags := 24, slot := 5, constantValue := 0 }, { name := "UTF16", type := .byte, accessFlags := 24, slot := 6, constantValue := 0 }]
  methods := #[k7m0, k7m1, k7m2, k7m3, k7m4, k7m5, k7m6, k7m7, k7m8, k7m9, k7m10, k7m11]
  instanceTypes := #[(.array .byte), .byte, .int, .boolean]
  staticTypes := #[.long, .boolean, (.array (.object "java/io/ObjectStreamField")), .char, (.object "java/util/Comparator"), .byte, .byte]
  resolved := Array.replicate 1451 none
  statics := some 0 }

def pool8 : Array CpInfo := pool [(6, .class_ 8), (1, u "java/lang/Object"), (0, u "<init>"), (0, u "()V"), (1, .class_ 14), (1, u "java/lang/StringUTF16"), (31, u "$assertionsDisabled"), (0, u "Z"), (13, u "HI_BYTE_SHIFT"), (0, u "I"), (2, u "LO_BYTE_SHIFT"), (49, .methodref 12 116), (0, .nameAndType 117 118), (0, u "compress"), (0, u "([CI[BII)I"), (3, u "([CII)[B"), (138, u "coderFromArrayLen"), (0, u "([BI)B"), (106, .class_ 371), (1, u "java/lang/StringUTF16$LinesSpliterator"), (58, u "MAX_LENGTH"), (196, .class_ 628), (0, u "java/lang/StringUTF16$CodePointsSpliterator"), (0, .class_ 630), (0, u "java/lang/StringUTF16$CharsSpliterator")] 4

def k8m0 : Method := { name := "<init>", desc := "()V", sig := { parameters := [], returnType := none }, accessFlags := 0, code := none }
def k8c1 : Code := { maxStack := 2, maxLocals := 2, code := jdk_52_method_15_code, exceptionTable := #[], attributes := #[] }
def k8m1 : Method := { name := "coderFromArrayLen", desc := "([BI)B", sig := { parameters := [(.array .byte), .int], returnType := some .byte }, accessFlags := 8, code := some k8c1 }
def k8c2 : Code := { maxStack := 5, maxLocals := 6, code := jdk_52_method_16_code, exceptionTable := #[], attributes := #[] }
def k8m2 : Method := { name := "compress", desc := "([CII)[B", sig := { parameters := [(.array .char), .int, .int], returnType := some (.array .byte) }, accessFlags := 9, code := some k8c2 }
def k8c3 : Code := { maxStack := 3, maxLocals := 7, code := jdk_52_method_21_code, exceptionTable := #[], attributes := #[] }
def k8m3 : Method := { name := "compress", desc := "([CI[BII)I", sig := { parameters := [(.array .char), .int, (.array .byte), .int, .int], returnType := some .int }, accessFlags := 9, code := some k8c3 }
/-- java/lang/StringUTF16 -/
def k8 : Class := { plain "java/lang/StringUTF16" (some 0) with
  accessFlags := 48
  interfaces := #[]
  cf := some (fileOf pool8 12 #[.nestMembers #[627, 629, 369]] #[{ accessFlags := 0, nameIndex := 9, descriptorIndex := 10, attributes := #[] }, { accessFlags := 8, nameIndex := 261, descriptorIndex := 262, attributes := #[] }, { accessFlags := 9, nameIndex := 117, descriptorIndex := 122, attributes := #[] }, { accessFlags := 9, nameIndex := 117, descriptorIndex := 118, attributes := #[] }] 48 6 #[] #[{ accessFlags := 26, nameIndex := 61, descriptorIndex := 62, attributes := #[] }, { accessFlags := 26, nameIndex := 65, descriptorIndex := 62, attributes := #[] }, { accessFlags := 24, nameIndex := 430, descriptorIndex := 62, attributes := #[] }, { accessFlags := 4120, nameIndex := 46, descriptorIndex := 47, attributes := #[] }])
  fields := #[{ name := "HI_BYTE_SHIFT", type := .int, accessFlags := 26, slot := 0, constantValue := 0 }, { name := "LO_BYTE_SHIFT", type := .int, accessFlags := 26, slot := 1, constantValue := 0 }, { name := "MAX_LENGTH", type := .int, accessFlags := 24, slot := 2, constantValue := 0 }, { name := "$assertionsDisabled", type := .boolean, accessFlags := 4120, slot := 3, constantValue := 0 }]
  methods := #[k8m0, k8m1, k8m2, k8m3]
  instanceTypes := #[]
  staticTypes := #[.int, .int, .int, .boolean]
  resolved := Array.replicate 635 none
  statics := none }

def pool9 : Array CpInfo := pool [(3, .class_ 4), (0, u "com/example/thorough_factfind/thoroughfactfind/foundation/section/RecordPath"), (0, .class_ 6), (0, u "java/lang/StringBuilder"), (0, .methodref 5 8), (0, .nameAndType 9 10), (0, u "<init>"), (0, u "()V"), (0, .methodref 5 12), (0, .nameAndType 13 14), (0, u "append"), (0, u "(Ljava/lang/String;)Ljava/lang/StringBuilder;"), (0, .string 16), (0, u "Id"), (0, .methodref 5 18), (0, .nameAndType 19 20), (0, u "toString"), (0, u "()Ljava/lang/String;"), (0, .methodref 3 22), (0, .nameAndType 9 23), (0, u "(Ljava/lang/String;Ljava/lang/String;Ljava/lang/String;)V"), (0, .methodref 25 8), (0, .class_ 26), (0, u "java/lang/Object"), (0, .string 28), (0, u "/"), (0, .fieldref 3 30), (0, .nameAndType 31 32), (0, u "_segment"), (0, u "Ljava/lang/String;"), (0, .fieldref 3 34), (0, .nameAndType 35 32), (0, u "_record"), (0, .fieldref 3 37), (0, .nameAndType 38 32), (0, u "_parameter"), (9, u "parameter"), (47, u "CLIENT_PARAMETER"), (3, u "CLIENT_ROUTE"), (0, u "(Ljava/lang/String;Ljava/lang/String;)V")] 12

def k9c0 : Code := { maxStack := 5, maxLocals := 3, code := prog_35_method_1_code, exceptionTable := #[], attributes := #[] }
def k9m0 : Method := { name := "<init>", desc := "(Ljava/lang/String;Ljava/lang/String;)V", sig := { parameters := [(.object "java/lang/String"), (.object "java/lang/String")], returnType := none }, accessFlags := 1, code := some k9c0 }
def k9c1 : Code := { maxStack := 3, maxLocals := 4, code := prog_35_method_2_code, exceptionTable := #[], attributes := #[] }
def k9m1 : Method := { name := "<init>", desc := "(Ljava/lang/String;Ljava/lang/String;Ljava/lang/String;)V", sig := { parameters := [(.object "java/lang/String"), (.object "java/lang/String"), (.object "java/lang/String")], returnType := none }, accessFlags := 1, code := some k9c1 }
def k9c2 : Code := { maxStack := 4, maxLocals := 1, code := prog_35_method_10_code, exceptionTable := #[], attributes := #[] }
def k9m2 : Method := { name := "parameter", desc := "()Ljava/lang/String;", sig := { parameters := [], returnType := some (.object "java/lang/String") }, accessFlags := 0, code := some k9c2 }
/-- com/example/thorough_factfind/thoroughfactfind/foundation/section/RecordPath -/
def k9 : Class := { plain "com/example/thorough_factfind/thoroughfactfind/foundation/section/RecordPath" (some 0) with
  accessFlags := 49
  interfaces := #[]
  cf := some (fileOf pool9 3 #[] #[{ accessFlags := 1, nameIndex := 9, descriptorIndex := 101, attributes := #[] }, { accessFlags := 1, nameIndex := 9, descriptorIndex := 23, attributes := #[] }, { accessFlags := 0, nameIndex := 48, descriptorIndex := 20, attributes := #[] }] 49 25 #[] #[{ accessFlags := 18, nameIndex := 31, descriptorIndex := 32, attributes := #[] }, { accessFlags := 18, nameIndex := 35, descriptorIndex := 32, attributes := #[] }, { accessFlags := 18, nameIndex := 38, descriptorIndex := 32, attributes := #[] }, { accessFlags := 24, nameIndex := 96, descriptorIndex := 32, attributes := #[] }, { accessFlags := 25, nameIndex := 100, descriptorIndex := 32, attributes := #[] }])
  fields := #[{ name := "_segment", type := (.object "java/lang/String"), accessFlags := 18, slot := 0, constantValue := 0 }, { name := "_record", type := (.object "java/lang/String"), accessFlags := 18, slot := 1, constantValue := 0 }, { name := "_parameter", type := (.object "java/lang/String"), accessFlags := 18, slot := 2, constantValue := 0 }, { name := "CLIENT_PARAMETER", type := (.object "java/lang/String"), accessFlags := 24, slot := 0, constantValue := 0 }, { name := "CLIENT_ROUTE", type := (.object "java/lang/String"), accessFlags := 25, slot := 1, constantValue := 0 }]
  methods := #[k9m0, k9m1, k9m2]
  instanceTypes := #[(.object "java/lang/String"), (.object "java/lang/String"), (.object "java/lang/String")]
  staticTypes := #[(.object "java/lang/String"), (.object "java/lang/String")]
  resolved := Array.replicate 114 none
  statics := none }

def pool10 : Array CpInfo := pool [(1, .class_ 2), (0, u "java/lang/Appendable"), (0, .class_ 4), (0, u "java/lang/Object")] 9

/-- java/lang/Appendable -/
def k10 : Class := { plain "java/lang/Appendable" (some 0) with
  accessFlags := 1537
  interfaces := #[]
  cf := some (fileOf pool10 1 #[] #[] 1537 3 #[] #[])
  fields := #[]
  methods := #[]
  instanceTypes := #[]
  staticTypes := #[]
  resolved := Array.replicate 14 none
  statics := none }

def pool11 : Array CpInfo := pool [(1, .class_ 2), (0, u "java/lang/String"), (0, .methodref 4 5), (0, .class_ 6), (0, .nameAndType 7 8), (0, u "java/lang/Object"), (0, u "<init>"), (0, u "()V"), (1, .class_ 12), (1, u "java/lang/AbstractStringBuilder"), (0, u "EMPTYVALUE"), (0, u "[B"), (0, .fieldref 10 16), (0, .nameAndType 17 14), (0, u "value"), (0, .fieldref 1 19), (0, .nameAndType 20 21), (0, u "COMPACT_STRINGS"), (0, u "Z"), (0, .fieldref 10 23), (0, .nameAndType 24 25), (0, u "coder"), (0, u "B"), (6, .methodref 1 33), (0, .nameAndType 34 35), (0, u "length"), (0, u "()I"), (4, .methodref 1 41), (0, .nameAndType 24 42), (0, u "()B"), (2, u "append"), (0, u "(Ljava/lang/String;)Ljava/lang/AbstractStringBuilder;"), (1, .class_ 49), (0, u "java/lang/CharSequence"), (19, u "(Ljava/lang/String;)V"), (5, u "maybeLatin1"), (3, .fieldref 10 80), (0, .nameAndType 81 82), (0, u "count"), (0, u "I"), (2, u "isLatin1"), (0, u "()Z"), (13, .methodref 10 101), (0, .nameAndType 102 103), (0, u "ensureCapacityInternal"), (0, u "(I)V"), (104, .methodref 10 209), (0, .nameAndType 210 211), (0, u "putStringAt"), (0, u "(ILjava/lang/String;)V"), (5, u "inflateIfNeededFor"), (2, .nameAndType 221 222), (0, u "getBytes"), (0, u "([BIB)V"), (174, .methodref 10 398), (0, .nameAndType 217 69), (0, .methodref 1 220), (3, u "()[B"), (40, .class_ 445), (0, u "java/lang/Appendable"), (106, u "getValue")] 56

def k11m0 : Method := { name := "<init>", desc := "()V", sig := { parameters := [], returnType := none }, accessFlags := 0, code := none }
def k11c1 : Code := { maxStack := 2, maxLocals := 2, code := jdk_68_method_2_code, exceptionTable := #[], attributes := #[] }
def k11m1 : Method := { name := "<init>", desc := "(I)V", sig := { parameters := [.int], returnType := none }, accessFlags := 0, code := some k11c1 }
def k11c2 : Code := { maxStack := 1, maxLocals := 1, code := jdk_68_method_6_code, exceptionTable := #[], attributes := #[] }
def k11m2 : Method := { name := "length", desc := "()I", sig := { parameters := [], returnType := some .int }, accessFlags := 1, code := some k11c2 }
def k11c3 : Code := { maxStack := 4, maxLocals := 3, code := jdk_68_method_9_code, exceptionTable := #[], attributes := #[] }
def k11m3 : Method := { name := "ensureCapacityInternal", desc := "(I)V", sig := { parameters := [.int], returnType := none }, accessFlags := 2, code := some k11c3 }
def k11c4 : Code := { maxStack := 3, maxLocals := 3, code := jdk_68_method_22_code, exceptionTable := #[], attributes := #[] }
def k11m4 : Method := { name := "append", desc := "(Ljava/lang/String;)Ljava/lang/AbstractStringBuilder;", sig := { parameters := [(.object "java/lang/String")], returnType := some (.object "java/lang/AbstractStringBuilder") }, accessFlags := 1, code := some k11c4 }
def k11c5 : Code := { maxStack := 1, maxLocals := 1, code := jdk_68_method_64_code, exceptionTable := #[], attributes := #[] }
def k11m5 : Method := { name := "getValue", desc := "()[B", sig := { parameters := [], returnType := some (.array .byte) }, accessFlags := 16, code := some k11c5 }
def k11c6 : Code := { maxStack := 1, maxLocals := 1, code := jdk_68_method_68_code, exceptionTable := #[], attributes := #[] }
def k11m6 : Method := { name := "isLatin1", desc := "()Z", sig := { parameters := [], returnType := some .boolean }, accessFlags := 16, code := some k11c6 }
def k11c7 : Code := { maxStack := 2, maxLocals := 2, code := jdk_68_method_71_code, exceptionTable := #[], attributes := #[] }
def k11m7 : Method := { name := "inflateIfNeededFor", desc := "(Ljava/lang/String;)V", sig := { parameters := [(.object "java/lang/String")], returnType := none }, accessFlags := 2, code := some k11c7 }
def k11c8 : Code := { maxStack := 4, maxLocals := 3, code := jdk_68_method_73_code, exceptionTable := #[], attributes := #[] }
def k11m8 : Method := { name := "putStringAt", desc := "(ILjava/lang/String;)V", sig := { parameters := [.int, (.object "java/lang/String")], returnType := none }, accessFlags := 2, code := some k11c8 }
/-- java/lang/AbstractStringBuilder -/
def k11 : Class := { plain "java/lang/AbstractStringBuilder" (some 0) with
  accessFlags := 1056
  interfaces := #[10, 4]
  cf := some (fileOf pool11 10 #[] #[{ accessFlags := 0, nameIndex := 7, descriptorIndex := 8, attributes := #[] }, { accessFlags := 0, nameIndex := 7, descriptorIndex := 103, attributes := #[] }, { accessFlags := 1, nameIndex := 34, descriptorIndex := 35, attributes := #[] }, { accessFlags := 2, nameIndex := 102, descriptorIndex := 103, attributes := #[] }, { accessFlags := 1, nameIndex := 45, descriptorIndex := 46, attributes := #[] }, { accessFlags := 16, nameIndex := 552, descriptorIndex := 403, attributes := #[] }, { accessFlags := 16, nameIndex := 85, descriptorIndex := 86, attributes := #[] }, { accessFlags := 2, nameIndex := 217, descriptorIndex := 69, attributes := #[] }, { accessFlags := 2, nameIndex := 210, descriptorIndex := 211, attributes := #[] }] 1056 4 #[444, 48] #[{ accessFlags := 0, nameIndex := 17, descriptorIndex := 14, attributes := #[] }, { accessFlags := 0, nameIndex := 24, descriptorIndex := 25, attributes := #[] }, { accessFlags := 0, nameIndex := 75, descriptorIndex := 21, attributes := #[] }, { accessFlags := 0, nameIndex := 81, descriptorIndex := 82, attributes := #[] }, { accessFlags := 26, nameIndex := 13, descriptorIndex := 14, attributes := #[] }])
  fields := #[{ name := "value", type := (.array .byte), accessFlags := 0, slot := 0, constantValue := 0 }, { name := "coder", type := .byte, accessFlags := 0, slot := 1, constantValue := 0 }, { name := "maybeLatin1", type := .boolean, accessFlags := 0, slot := 2, constantValue := 0 }, { name := "count", type := .int, accessFlags := 0, slot := 3, constantValue := 0 }, { name := "EMPTYVALUE", type := (.array .byte), accessFlags := 26, slot := 0, constantValue := 0 }]
  methods := #[k11m0, k11m1, k11m2, k11m3, k11m4, k11m5, k11m6, k11m7, k11m8]
  instanceTypes := #[(.array .byte), .byte, .boolean, .int]
  staticTypes := #[(.array .byte)]
  resolved := Array.replicate 609 none
  statics := none }

def pool12 : Array CpInfo := pool [(1, .methodref 2 3), (0, .class_ 4), (0, .nameAndType 5 6), (0, u "java/lang/AbstractStringBuilder"), (0, u "<init>"), (0, u "(I)V"), (11, .class_ 20), (1, u "java/lang/String"), (3, .class_ 26), (1, u "java/lang/StringBuilder"), (0, u "append"), (0, u "(Ljava/lang/String;)Ljava/lang/StringBuilder;"), (0, .methodref 2 30), (0, .nameAndType 27 31), (0, u "(Ljava/lang/String;)Ljava/lang/AbstractStringBuilder;"), (105, .methodref 18 138), (0, .nameAndType 5 139), (0, u "(Ljava/lang/StringBuilder;)V"), (5, u "()V"), (10, u "()I"), (186, .methodref 2 344), (0, .nameAndType 345 156), (0, u "length"), (3, .class_ 350), (0, u "java/lang/Appendable"), (0, .class_ 352), (0, u "java/io/Serializable"), (0, .class_ 354), (0, u "java/lang/Comparable"), (0, .class_ 356), (0, u "java/lang/CharSequence"), (0, u "serialVersionUID"), (0, u "J"), (40, u "toString"), (0, u "()Ljava/lang/String;")] 21

def k12c0 : Code := { maxStack := 2, maxLocals := 1, code := jdk_67_method_1_code, exceptionTable := #[], attributes := #[] }
def k12m0 : Method := { name := "<init>", desc := "()V", sig := { parameters := [], returnType := none }, accessFlags := 1, code := some k12c0 }
def k12c1 : Code := { maxStack := 2, maxLocals := 2, code := jdk_67_method_7_code, exceptionTable := #[], attributes := #[] }
def k12m1 : Method := { name := "append", desc := "(Ljava/lang/String;)Ljava/lang/StringBuilder;", sig := { parameters := [(.object "java/lang/String")], returnType := some (.object "java/lang/StringBuilder") }, accessFlags := 1, code := some k12c1 }
def k12c2 : Code := { maxStack := 3, maxLocals := 1, code := jdk_67_method_42_code, exceptionTable := #[], attributes := #[] }
def k12m2 : Method := { name := "toString", desc := "()Ljava/lang/String;", sig := { parameters := [], returnType := some (.object "java/lang/String") }, accessFlags := 1, code := some k12c2 }
def k12c3 : Code := { maxStack := 1, maxLocals := 1, code := jdk_67_method_93_code, exceptionTable := #[], attributes := #[] }
def k12m3 : Method := { name := "length", desc := "()I", sig := { parameters := [], returnType := some .int }, accessFlags := 4161, code := some k12c3 }
/-- java/lang/StringBuilder -/
def k12 : Class := { plain "java/lang/StringBuilder" (some 11) with
  accessFlags := 49
  interfaces := #[10, 2, 3, 4]
  cf := some (fileOf pool12 24 #[] #[{ accessFlags := 1, nameIndex := 5, descriptorIndex := 145, attributes := #[] }, { accessFlags := 1, nameIndex := 27, descriptorIndex := 28, attributes := #[] }, { accessFlags := 1, nameIndex := 399, descriptorIndex := 400, attributes := #[] }, { accessFlags := 4161, nameIndex := 345, descriptorIndex := 156, attributes := #[] }] 49 2 #[349, 351, 353, 355] #[{ accessFlags := 24, nameIndex := 357, descriptorIndex := 358, attributes := #[] }])
  fields := #[{ name := "serialVersionUID", type := .long, accessFlags := 24, slot := 0, constantValue := 0 }]
  methods := #[k12m0, k12m1, k12m2, k12m3]
  instanceTypes := #[(.array .byte), .byte, .boolean, .int]
  staticTypes := #[.long]
  resolved := Array.replicate 422 none
  statics := none }

def pool13 : Array CpInfo := pool [(2, .class_ 4), (1, u "java/lang/Object"), (0, u "<init>"), (0, u "()V"), (1, .class_ 10), (1, u "java/lang/System"), (0, u "allowSecurityManager"), (0, u "I"), (16, u "cons"), (0, u "Ljava/io/Console;"), (77, .class_ 110), (1, u "java/lang/System$CallersHolder"), (43, u "initialErrStream"), (0, u "Ljava/io/PrintStream;"), (19, u "security"), (0, u "Ljava/lang/SecurityManager;"), (31, .class_ 209), (0, u "java/lang/System$1"), (7, u "props"), (0, u "Ljava/util/Properties;"), (2, u "lineSeparator"), (0, u "Ljava/lang/String;"), (96, .class_ 321), (1, u "java/lang/System$LoggerFinder"), (5, .class_ 328), (0, u "java/lang/System$Logger"), (67, u "err"), (2, u "out"), (91, u "notSupportedJnuEncoding"), (15, u "in"), (17, u "initialIn"), (0, u "Ljava/io/InputStream;"), (35, u "bootLayer"), (0, u "Ljava/lang/ModuleLayer;"), (99, .class_ 664), (0, u "java/lang/System$2"), (9, u "NEVER"), (2, u "MAYBE"), (49, u "arraycopy"), (0, u "(Ljava/lang/Object;ILjava/lang/Object;II)V"), (72, .class_ 802), (0, u "java/lang/System$Logger$Level")] 31

def k13m0 : Method := { name := "<init>", desc := "()V", sig := { parameters := [], returnType := none }, accessFlags := 2, code := none }
def k13m1 : Method := { name := "arraycopy", desc := "(Ljava/lang/Object;ILjava/lang/Object;II)V", sig := { parameters := [(.object "java/lang/Object"), .int, (.object "java/lang/Object"), .int, .int], returnType := none }, accessFlags := 265, code := none }
/-- java/lang/System -/
def k13 : Class := { plain "java/lang/System" (some 0) with
  accessFlags := 49
  interfaces := #[]
  cf := some (fileOf pool13 8 #[.nestMembers #[319, 327, 801, 108, 663, 208]] #[{ accessFlags := 2, nameIndex := 5, descriptorIndex := 6, attributes := #[] }, { accessFlags := 265, nameIndex := 727, descriptorIndex := 728, attributes := #[] }] 49 2 #[] #[{ accessFlags := 25, nameIndex := 507, descriptorIndex := 526, attributes := #[] }, { accessFlags := 25, nameIndex := 399, descriptorIndex := 155, attributes := #[] }, { accessFlags := 25, nameIndex := 396, descriptorIndex := 155, attributes := #[] }, { accessFlags := 10, nameIndex := 525, descriptorIndex := 526, attributes := #[] }, { accessFlags := 26, nameIndex := 674, descriptorIndex := 12, attributes := #[] }, { accessFlags := 26, nameIndex := 677, descriptorIndex := 12, attributes := #[] }, { accessFlags := 10, nameIndex := 11, descriptorIndex := 12, attributes := #[] }, { accessFlags := 74, nameIndex := 175, descriptorIndex := 176, attributes := #[] }, { accessFlags := 10, nameIndex := 491, descriptorIndex := 222, attributes := #[] }, { accessFlags := 74, nameIndex := 29, descriptorIndex := 30, attributes := #[] }, { accessFlags := 74, nameIndex := 154, descriptorIndex := 155, attributes := #[] }, { accessFlags := 10, nameIndex := 217, descriptorIndex := 218, attributes := #[] }, { accessFlags := 10, nameIndex := 221, descriptorIndex := 222, attributes := #[] }, { accessFlags := 8, nameIndex := 562, descriptorIndex := 563, attributes := #[] }])
  fields := #[{ name := "in", type := (.object "java/io/InputStream"), accessFlags := 25, slot := 0, constantValue := 0 }, { name := "out", type := (.object "java/io/PrintStream"), accessFlags := 25, slot := 1, constantValue := 0 }, { name := "err", type := (.object "java/io/PrintStream"), accessFlags := 25, slot := 2, constantValue := 0 }, { name := "initialIn", type := (.object "java/io/InputStream"), accessFlags := 10, slot := 3, constantValue := 0 }, { name := "NEVER", type := .int, accessFlags := 26, slot := 4, constantValue := 0 }, { name := "MAYBE", type := .int, accessFlags := 26, slot := 5, constantValue := 0 }, { name := "allowSecurityManager", type := .int, accessFlags := 10, slot := 6, constantValue := 0 }, { name := "security", type := (.object "java/lang/SecurityManager"), accessFlags := 74, slot := 7, constantValue := 0 }, { name := "notSupportedJnuEncoding", type := (.object "java/lang/String"), accessFlags := 10, slot := 8, constantValue := 0 }, { name := "cons", type := (.object "java/io/Console"), accessFlags := 74, slot := 9, constantValue := 0 }, { name := "initialErrStream", type := (.object "java/io/PrintStream"), accessFlags := 74, slot := 10, constantValue := 0 }, { name := "props", type := (.object "java/util/Properties"), accessFlags := 10, slot := 11, constantValue := 0 }, { name := "lineSeparator", type := (.object "java/lang/String"), accessFlags := 10, slot := 12, constantValue := 0 }, { name := "bootLayer", type := (.object "java/lang/ModuleLayer"), accessFlags := 8, slot := 13, constantValue := 0 }]
  methods := #[k13m0, k13m1]
  instanceTypes := #[]
  staticTypes := #[(.object "java/io/InputStream"), (.object "java/io/PrintStream"), (.object "java/io/PrintStream"), (.object "java/io/InputStream"), .int, .int, .int, (.object "java/lang/SecurityManager"), (.object "java/lang/String"), (.object "java/io/Console"), (.object "java/io/PrintStream"), (.object "java/util/Properties"), (.object "java/lang/String"), (.object "java/lang/ModuleLayer")]
  resolved := Array.replicate 834 none
  statics := none }

def pool14 : Array CpInfo := pool [(2, .class_ 4), (1, u "java/lang/Object"), (0, u "<init>"), (0, u "()V"), (7, .class_ 16), (1, u "java/util/Arrays"), (57, .class_ 76), (1, u "java/util/Arrays$NaturalOrder"), (36, .class_ 115), (1, u "java/util/Arrays$LegacyMergeSort"), (1, u "Z"), (21, u "copyOfRange"), (10, .methodref 151 152), (0, .class_ 153), (0, .nameAndType 154 155), (0, u "java/lang/System"), (0, u "arraycopy"), (0, u "(Ljava/lang/Object;ILjava/lang/Object;II)V"), (148, .methodref 305 306), (0, .class_ 307), (0, .nameAndType 308 309), (0, u "java/lang/Math"), (0, u "min"), (0, u "(II)I"), (29, .methodref 14 340), (0, .nameAndType 341 342), (0, u "copyOfRangeByte"), (0, u "([BII)[B"), (0, .methodref 14 344), (0, .nameAndType 345 346), (0, u "checkLength"), (0, u "(II)V"), (28, .class_ 376), (0, u "java/util/Arrays$ArrayList"), (68, u "$assertionsDisabled"), (269, u "MIN_ARRAY_SORT_GRAN"), (0, u "I"), (2, u "INSERTIONSORT_THRESHOLD"), (255, .class_ 976), (0, u "java/util/Arrays$ArrayItr")] 52

def k14m0 : Method := { name := "<init>", desc := "()V", sig := { parameters := [], returnType := none }, accessFlags := 2, code := none }
def k14c1 : Code := { maxStack := 4, maxLocals := 2, code := jdk_65_method_131_code, exceptionTable := #[], attributes := #[] }
def k14m1 : Method := { name := "checkLength", desc := "(II)V", sig := { parameters := [.int, .int], returnType := none }, accessFlags := 10, code := some k14c1 }
def k14c2 : Code := { maxStack := 3, maxLocals := 3, code := jdk_65_method_132_code, exceptionTable := #[], attributes := #[] }
def k14m2 : Method := { name := "copyOfRange", desc := "([BII)[B", sig := { parameters := [(.array .byte), .int, .int], returnType := some (.array .byte) }, accessFlags := 9, code := some k14c2 }
def k14c3 : Code := { maxStack := 6, maxLocals := 5, code := jdk_65_method_133_code, exceptionTable := #[], attributes := #[] }
def k14m3 : Method := { name := "copyOfRangeByte", desc := "([BII)[B", sig := { parameters := [(.array .byte), .int, .int], returnType := some (.array .byte) }, accessFlags := 10, code := some k14c3 }
/-- java/util/Arrays -/
def k14 : Class := { plain "java/util/Arrays" (some 0) with
  accessFlags := 49
  interfaces := #[]
  cf := some (fileOf pool14 14 #[.nestMembers #[975, 375, 113, 74]] #[{ accessFlags := 2, nameIndex := 5, descriptorIndex := 6, attributes := #[] }, { accessFlags := 10, nameIndex := 345, descriptorIndex := 346, attributes := #[] }, { accessFlags := 9, nameIndex := 139, descriptorIndex := 342, attributes := #[] }, { accessFlags := 10, nameIndex := 341, descriptorIndex := 342, attributes := #[] }] 49 2 #[] #[{ accessFlags := 26, nameIndex := 715, descriptorIndex := 716, attributes := #[] }, { accessFlags := 26, nameIndex := 719, descriptorIndex := 716, attributes := #[] }, { accessFlags := 4120, nameIndex := 445, descriptorIndex := 117, attributes := #[] }])
  fields := #[{ name := "MIN_ARRAY_SORT_GRAN", type := .int, accessFlags := 26, slot := 0, constantValue := 0 }, { name := "INSERTIONSORT_THRESHOLD", type := .int, accessFlags := 26, slot := 1, constantValue := 0 }, { name := "$assertionsDisabled", type := .boolean, accessFlags := 4120, slot := 2, constantValue := 0 }]
  methods := #[k14m0, k14m1, k14m2, k14m3]
  instanceTypes := #[]
  staticTypes := #[.int, .int, .boolean]
  resolved := Array.replicate 1029 none
  statics := none }

def pool15 : Array CpInfo := pool [(1, .class_ 2), (0, u "java/lang/Math"), (1, .class_ 6), (1, u "java/lang/Object"), (0, u "<init>"), (0, u "()V"), (89, .class_ 100), (1, u "java/lang/Math$RandomNumberGeneratorHolder"), (71, u "negativeZeroFloatBits"), (0, u "J"), (2, u "negativeZeroDoubleBits"), (24, u "min"), (43, u "$assertionsDisabled"), (0, u "Z"), (88, u "(II)I"), (2, u "twoToTheDoubleScaleDown"), (0, u "D"), (4, u "twoToTheDoubleScaleUp"), (9, u "E"), (3, u "PI"), (2, u "TAU"), (2, u "DEGREES_TO_RADIANS"), (0, u "RADIANS_TO_DEGREES")] 94

def k15m0 : Method := { name := "<init>", desc := "()V", sig := { parameters := [], returnType := none }, accessFlags := 2, code := none }
def k15c1 : Code := { maxStack := 2, maxLocals := 2, code := jdk_29_method_69_code, exceptionTable := #[], attributes := #[] }
def k15m1 : Method := { name := "min", desc := "(II)I", sig := { parameters := [.int, .int], returnType := some .int }, accessFlags := 9, code := some k15c1 }
/-- java/lang/Math -/
def k15 : Class := { plain "java/lang/Math" (some 0) with
  accessFlags := 49
  interfaces := #[]
  cf := some (fileOf pool15 1 #[.nestMembers #[98]] #[{ accessFlags := 2, nameIndex := 7, descriptorIndex := 8, attributes := #[] }, { accessFlags := 9, nameIndex := 201, descriptorIndex := 335, attributes := #[] }] 49 4 #[] #[{ accessFlags := 25, nameIndex := 354, descriptorIndex := 339, attributes := #[] }, { accessFlags := 25, nameIndex := 358, descriptorIndex := 339, attributes := #[] }, { accessFlags := 25, nameIndex := 361, descriptorIndex := 339, attributes := #[] }, { accessFlags := 26, nameIndex := 364, descriptorIndex := 339, attributes := #[] }, { accessFlags := 26, nameIndex := 365, descriptorIndex := 339, attributes := #[] }, { accessFlags := 26, nameIndex := 172, descriptorIndex := 173, attributes := #[] }, { accessFlags := 26, nameIndex := 176, descriptorIndex := 173, attributes := #[] }, { accessFlags := 8, nameIndex := 344, descriptorIndex := 339, attributes := #[] }, { accessFlags := 8, nameIndex := 338, descriptorIndex := 339, attributes := #[] }, { accessFlags := 4120, nameIndex := 245, descriptorIndex := 246, attributes := #[] }])
  fields := #[{ name := "E", type := .double, accessFlags := 25, slot := 0, constantValue := 0 }, { name := "PI", type := .double, accessFlags := 25, slot := 1, constantValue := 0 }, { name := "TAU", type := .double, accessFlags := 25, slot := 2, constantValue := 0 }, { name := "DEGREES_TO_RADIANS", type := .double, accessFlags := 26, slot := 3, constantValue := 0 }, { name := "RADIANS_TO_DEGREES", type := .double, accessFlags := 26, slot := 4, constantValue := 0 }, { name := "negativeZeroFloatBits", type := .long, accessFlags := 26, slot := 5, constantValue := 0 }, { name := "negativeZeroDoubleBits", type := .long, accessFlags := 26, slot := 6, constantValue := 0 }, { name := "twoToTheDoubleScaleUp", type := .double, accessFlags := 8, slot := 7, constantValue := 0 }, { name := "twoToTheDoubleScaleDown", type := .double, accessFlags := 8, slot := 8, constantValue := 0 }, { name := "$assertionsDisabled", type := .boolean, accessFlags := 4120, slot := 9, constantValue := 0 }]
  methods := #[k15m0, k15m1]
  instanceTypes := #[]
  staticTypes := #[.double, .double, .double, .double, .double, .long, .long, .double, .double, .boolean]
  resolved := Array.replicate 460 none
  statics := none }

def pool16 : Array CpInfo := pool [(1, .class_ 2), (0, u "java/lang/String"), (1, .class_ 6), (1, u "java/lang/Object"), (0, u "<init>"), (0, u "()V"), (0, .methodref 1 10), (0, .nameAndType 11 12), (0, u "checkIndex"), (0, u "(II)V"), (1, .class_ 16), (1, u "java/lang/StringLatin1"), (36, u "([BI)C"), (67, u "$assertionsDisabled"), (0, u "Z"), (98, .class_ 223), (1, u "java/lang/StringLatin1$LinesSpliterator"), (28, u "charAt"), (137, .class_ 391), (0, u "java/lang/StringLatin1$CharsSpliterator")] 3

def k16m0 : Method := { name := "<init>", desc := "()V", sig := { parameters := [], returnType := none }, accessFlags := 0, code := none }
def k16c1 : Code := { maxStack := 2, maxLocals := 2, code := jdk_43_method_2_code, exceptionTable := #[], attributes := #[] }
def k16m1 : Method := { name := "charAt", desc := "([BI)C", sig := { parameters := [(.array .byte), .int], returnType := some .char }, accessFlags := 9, code := some k16c1 }
/-- java/lang/StringLatin1 -/
def k16 : Class := { plain "java/lang/StringLatin1" (some 0) with
  accessFlags := 48
  interfaces := #[]
  cf := some (fileOf pool16 14 #[.nestMembers #[390, 221]] #[{ accessFlags := 0, nameIndex := 7, descriptorIndex := 8, attributes := #[] }, { accessFlags := 9, nameIndex := 252, descriptorIndex := 53, attributes := #[] }] 48 4 #[] #[{ accessFlags := 4120, nameIndex := 121, descriptorIndex := 122, attributes := #[] }])
  fields := #[{ name := "$assertionsDisabled", type := .boolean, accessFlags := 4120, slot := 0, constantValue := 0 }]
  methods := #[k16m0, k16m1]
  instanceTypes := #[]
  staticTypes := #[.boolean]
  resolved := Array.replicate 395 none
  statics := none }

def pool17 : Array CpInfo := pool [(2, .class_ 4), (1, u "java/lang/Object"), (0, u "<init>"), (0, u "()V"), (17, .class_ 26), (1, u "jdk/internal/util/Preconditions"), (6, u "checkIndex"), (21, .class_ 56), (0, u "jdk/internal/util/Preconditions$4"), (57, .class_ 115), (0, u "jdk/internal/util/Preconditions$1"), (7, u "SIOOBE_FORMATTER"), (0, u "Ljava/util/function/BiFunction;"), (0, .class_ 126), (0, u "jdk/internal/util/Preconditions$2"), (3, u "AIOOBE_FORMATTER"), (0, .class_ 132), (0, u "jdk/internal/util/Preconditions$3"), (3, u "IOOBE_FORMATTER"), (41, u "(IILjava/util/function/BiFunction;)I")] 15

def k17m0 : Method := { name := "<init>", desc := "()V", sig := { parameters := [], returnType := none }, accessFlags := 1, code := none }
def k17c1 : Code := { maxStack := 3, maxLocals := 3, code := jdk_41_method_11_code, exceptionTable := #[], attributes := #[] }
def k17m1 : Method := { name := "checkIndex", desc := "(IILjava/util/function/BiFunction;)I", sig := { parameters := [.int, .int, (.object "java/util/function/BiFunction")], returnType := some .int }, accessFlags := 9, code := some k17c1 }
/-- jdk/internal/util/Preconditions -/
def k17 : Class := { plain "jdk/internal/util/Preconditions" (some 0) with
  accessFlags := 33
  interfaces := #[]
  cf := some (fileOf pool17 24 #[.nestMembers #[55, 131, 125, 114]] #[{ accessFlags := 1, nameIndex := 5, descriptorIndex := 6, attributes := #[] }, { accessFlags := 9, nameIndex := 33, descriptorIndex := 178, attributes := #[] }] 33 2 #[] #[{ accessFlags := 25, nameIndex := 123, descriptorIndex := 124, attributes := #[] }, { accessFlags := 25, nameIndex := 130, descriptorIndex := 124, attributes := #[] }, { accessFlags := 25, nameIndex := 136, descriptorIndex := 124, attributes := #[] }])
  fields := #[{ name := "SIOOBE_FORMATTER", type := (.object "java/util/function/BiFunction"), accessFlags := 25, slot := 0, constantValue := 0 }, { name := "AIOOBE_FORMATTER", type := (.object "java/util/function/BiFunction"), accessFlags := 25, slot := 1, constantValue := 0 }, { name := "IOOBE_FORMATTER", type := (.object "java/util/function/BiFunction"), accessFlags := 25, slot := 2, constantValue := 0 }]
  methods := #[k17m0, k17m1]
  instanceTypes := #[]
  staticTypes := #[(.object "java/util/function/BiFunction"), (.object "java/util/function/BiFunction"), (.object "java/util/function/BiFunction")]
  resolved := Array.replicate 194 none
  statics := some 1 }

def pool18 : Array CpInfo := pool [(9, u "<init>"), (6, .class_ 18), (1, u "java/lang/Object"), (0, u "()V"), (1, .class_ 23), (1, u "jdk/internal/util/ArraysSupport"), (0, u "LOG2_ARRAY_LONG_INDEX_SCALE"), (0, u "I"), (2, u "U"), (0, u "Ljdk/internal/misc/Unsafe;"), (8, u "BIG_ENDIAN"), (0, u "Z"), (8, u "LOG2_BYTE_BIT_SIZE"), (4, u "LOG2_ARRAY_INT_INDEX_SCALE"), (54, u "JLA"), (0, u "Ljdk/internal/access/JavaLangAccess;"), (11, u "LOG2_ARRAY_BOOLEAN_INDEX_SCALE"), (9, u "LOG2_ARRAY_BYTE_INDEX_SCALE"), (5, u "LOG2_ARRAY_CHAR_INDEX_SCALE"), (5, u "LOG2_ARRAY_SHORT_INDEX_SCALE"), (18, u "LOG2_ARRAY_FLOAT_INDEX_SCALE"), (24, u "LOG2_ARRAY_DOUBLE_INDEX_SCALE"), (89, u "T_BOOLEAN"), (2, u "T_CHAR"), (1, u "T_FLOAT"), (1, u "T_DOUBLE"), (1, u "T_BYTE"), (1, u "T_SHORT"), (1, u "T_INT"), (1, u "T_LONG"), (1, u "SOFT_MAX_ARRAY_LENGTH")] 83

def k18m0 : Method := { name := "<init>", desc := "()V", sig := { parameters := [], returnType := none }, accessFlags := 2, code := none }
/-- jdk/internal/util/ArraysSupport -/
def k18 : Class := { plain "jdk/internal/util/ArraysSupport" (some 0) with
  accessFlags := 33
  interfaces := #[]
  cf := some (fileOf pool18 21 #[] #[{ accessFlags := 2, nameIndex := 9, descriptorIndex := 19, attributes := #[] }] 33 16 #[] #[{ accessFlags := 24, nameIndex := 28, descriptorIndex := 29, attributes := #[] }, { accessFlags := 26, nameIndex := 38, descriptorIndex := 39, attributes := #[] }, { accessFlags := 25, nameIndex := 121, descriptorIndex := 25, attributes := #[] }, { accessFlags := 25, nameIndex := 131, descriptorIndex := 25, attributes := #[] }, { accessFlags := 25, nameIndex := 137, descriptorIndex := 25, attributes := #[] }, { accessFlags := 25, nameIndex := 143, descriptorIndex := 25, attributes := #[] }, { accessFlags := 25, nameIndex := 53, descriptorIndex := 25, attributes := #[] }, { accessFlags := 25, nameIndex := 24, descriptorIndex := 25, attributes := #[] }, { accessFlags := 25, nameIndex := 162, descriptorIndex := 25, attributes := #[] }, { accessFlags := 25, nameIndex := 187, descriptorIndex := 25, attributes := #[] }, { accessFlags := 26, nameIndex := 48, descriptorIndex := 25, attributes := #[] }, { accessFlags := 25, nameIndex := 277, descriptorIndex := 25, attributes := #[] }, { accessFlags := 25, nameIndex := 280, descriptorIndex := 25, attributes := #[] }, { accessFlags := 25, nameIndex := 282, descriptorIndex := 25, attributes := #[] }, { accessFlags := 25, nameIndex := 284, descriptorIndex := 25, attributes := #[] }, { accessFlags := 25, nameIndex := 286, descriptorIndex := 25, attributes := #[] }, { accessFlags := 25, nameIndex := 288, descriptorIndex := 25, attributes := #[] }, { accessFlags := 25, nameIndex := 290, descriptorIndex := 25, attributes := #[] }, { accessFlags := 25, nameIndex := 292, descriptorIndex := 25, attributes := #[] }, { accessFlags := 26, nameIndex := 108, descriptorIndex := 109, attributes := #[] }, { accessFlags := 25, nameIndex := 294, descriptorIndex := 25, attributes := #[] }])
  fields := #[{ name := "U", type := (.object "jdk/internal/misc/Unsafe"), accessFlags := 24, slot := 0, constantValue := 0 }, { name := "BIG_ENDIAN", type := .boolean, accessFlags := 26, slot := 1, constantValue := 0 }, { name := "LOG2_ARRAY_BOOLEAN_INDEX_SCALE", type := .int, accessFlags := 25, slot := 2, constantValue := 0 }, { name := "LOG2_ARRAY_BYTE_INDEX_SCALE", type := .int, accessFlags := 25, slot := 3, constantValue := 0 }, { name := "LOG2_ARRAY_CHAR_INDEX_SCALE", type := .int, accessFlags := 25, slot := 4, constantValue := 0 }, { name := "LOG2_ARRAY_SHORT_INDEX_SCALE", type := .int, accessFlags := 25, slot := 5, constantValue := 0 }, { name := "LOG2_ARRAY_INT_INDEX_SCALE", type := .int, accessFlags := 25, slot := 6, constantValue := 0 }, { name := "LOG2_ARRAY_LONG_INDEX_SCALE", type := .int, accessFlags := 25, slot := 7, constantValue := 0 }, { name := "LOG2_ARRAY_FLOAT_INDEX_SCALE", type := .int, accessFlags := 25, slot := 8, constantValue := 0 }, { name := "LOG2_ARRAY_DOUBLE_INDEX_SCALE", type := .int, accessFlags := 25, slot := 9, constantValue := 0 }, { name := "LOG2_BYTE_BIT_SIZE", type := .int, accessFlags := 26, slot := 10, constantValue := 0 }, { name := "T_BOOLEAN", type := .int, accessFlags := 25, slot := 11, constantValue := 0 }, { name := "T_CHAR", type := .int, accessFlags := 25, slot := 12, constantValue := 0 }, { name := "T_FLOAT", type := .int, accessFlags := 25, slot := 13, constantValue := 0 }, { name := "T_DOUBLE", type := .int, accessFlags := 25, slot := 14, constantValue := 0 }, { name := "T_BYTE", type := .int, accessFlags := 25, slot := 15, constantValue := 0 }, { name := "T_SHORT", type := .int, accessFlags := 25, slot := 16, constantValue := 0 }, { name := "T_INT", type := .int, accessFlags := 25, slot := 17, constantValue := 0 }, { name := "T_LONG", type := .int, accessFlags := 25, slot := 18, constantValue := 0 }, { name := "JLA", type := (.object "jdk/internal/access/JavaLangAccess"), accessFlags := 26, slot := 19, constantValue := 0 }, { name := "SOFT_MAX_ARRAY_LENGTH", type := .int, accessFlags := 25, slot := 20, constantValue := 0 }]
  methods := #[k18m0]
  instanceTypes := #[]
  staticTypes := #[(.object "jdk/internal/misc/Unsafe"), .boolean, .int, .int, .int, .int, .int, .int, .int, .int, .int, .int, .int, .int, .int, .int, .int, .int, .int, (.object "jdk/internal/access/JavaLangAccess"), .int]
  resolved := Array.replicate 378 none
  statics := none }

def pool19 : Array CpInfo := pool [(1, u "java/lang/Cloneable"), (0, .class_ 1), (0, u "java/lang/Object"), (0, .class_ 3)] 3

/-- java/lang/Cloneable -/
def k19 : Class := { plain "java/lang/Cloneable" (some 0) with
  accessFlags := 1537
  interfaces := #[]
  cf := some (fileOf pool19 2 #[] #[] 1537 4 #[] #[])
  fields := #[]
  methods := #[]
  instanceTypes := #[]
  staticTypes := #[]
  resolved := Array.replicate 8 none
  statics := none }

/-- the primitive byte -/
def k20 : Class := { plain "byte" none with kind := .primitive 'B', accessFlags := 0x411 }
/-- [B -/
def k21 : Class := { plain "[B" (some 0) with kind := .array 20 .byte, interfaces := #[19, 2], accessFlags := 1041 }

/-- the primitive char -/
def k22 : Class := { plain "char" none with kind := .primitive 'C', accessFlags := 0x411 }
/-- [C -/
def k23 : Class := { plain "[C" (some 0) with kind := .array 22 .char, interfaces := #[19, 2], accessFlags := 1041 }

/-- the primitive int -/
def k24 : Class := { plain "int" none with kind := .primitive 'I', accessFlags := 0x411 }
/-- [I -/
def k25 : Class := { plain "[I" (some 0) with kind := .array 24 .int, interfaces := #[19, 2], accessFlags := 1041 }

def heap : Heap := #[{ cls := 7, slots := #[.long 0, .int 1, .null, .int 0, .null, .int 0, .int 0], vm := .statics 7 },
  { cls := 17, slots := #[.null, .null, .null], vm := .statics 17 }]
def classes : Array Class := #[k0, k1, k2, k3, k4, k5, k6, k7, k8, k9, k10, k11, k12, k13, k14, k15, k16, k17, k18, k19, k20, k21, k22, k23, k24, k25]
def interned : List (Array UInt16 × Addr) := []
def slotsUsed : Nat := 10
def theMethod : MethodId := ⟨1, 1⟩
def args0 : Array Value := #[.int 16961, .int 17475, .int 17989, .int 1]
def aboutOver (below : List Frame) : State where
  vm := { classes := classes, interned := interned.toArray }
  heap := heap
  slotsUsed := slotsUsed
  threads := #[{ frames := .invoking theMethod args0 :: below }]
def below0 : List Frame := [.native { method := ⟨0, 0⟩, args := #[] }]
def about1 : State := aboutOver below0
def p0 : Program := .bare "" "" ""
def e0 : Env := launch0.env 0 0 0
theorem w_frames : about1.frames = Frame.invoking theMethod args0 :: below0 := rfl
set_option maxRecDepth 65536 in
theorem w_args : argsFit about1.vm theMethod args0 = true := by decide +kernel
set_option maxRecDepth 65536 in
theorem w_heap : heapFits about1 = true := by decide +kernel
set_option maxRecDepth 65536 in
theorem w_runnable : about1.curStatus? = some .runnable := by decide +kernel
set_option maxRecDepth 65536 in
theorem w_alone : about1.alone = true := by decide +kernel
set_option maxRecDepth 65536 in
theorem w_named : about1.methodNamed? x = some theMethod := by decide +kernel
set_option maxRecDepth 65536 in
theorem w_hears : about1.hears theMethod below0 = true := by decide +kernel
set_option maxRecDepth 65536 in
theorem w_ripe : about1.ripe theMethod args0 below0 = true := by decide +kernel
theorem w_running : about1.status = .running := rfl
set_option maxRecDepth 65536 in
theorem w_room : about1.hasRoom e0.platform room_1 = true :=
  launch0.hasRoom_least _ room_1 (by decide +kernel) (by decide +kernel) (by decide +kernel) (by decide +kernel) (by decide +kernel) (by decide +kernel)
theorem allAtoms_all (ts : List Jvm.Cond) (a : Array Jvm.Value) (st : Jvm.State) : (allAtoms ts).before a st = ts.all (fun c => c.before a st) := by
  induction ts with
  | nil => rfl
  | cons c t ih =>
    show (Jvm.Cond.and c (allAtoms t)).before a st = _
    rw [Jvm.Cond.before_and, ih, List.all_cons]
def words1 : List Jvm.Cond := Jvm.Cond.code x code maxLocals ret :: tables_1
/-- a 'code' word, met by the world's own term for the bytes: nothing is compared byte by byte -/
theorem code_word {y : MethodName} {bytes : ByteArray} {mx : Nat} {rt : Option FieldType} {a : Array Value} {s : State} {m : MethodId} {meth : Method} {c : Code} (h1 : s.methodNamed? y = some m) (h2 : s.vm.method? m = some meth) (h3 : meth.code = some c) (h4 : c.code = bytes)
    (h5 : (c.maxLocals == mx && c.exceptionTable.isEmpty && decide (c.maxStack ≤ mostOperands) && decide (meth.sig.returnType = rt) && !meth.locks && decide (parseMethodDescriptor y.desc = some meth.sig)) = true) : (Jvm.Cond.code y bytes mx rt).before a s = true := by
  simp only [Bool.and_eq_true, beq_iff_eq, Bool.not_eq_true', decide_eq_true_eq] at h5
  obtain ⟨⟨⟨⟨⟨g1, g2⟩, g3⟩, g4⟩, g5⟩, g6⟩ := h5
  simp [Cond.before, Cond.holds, Cond.value, h1, h2, h3, h4, g1, g2, g3, g4, g5, g6]
def isCode : Jvm.Cond → Bool
  | .code _ _ _ _ => true
  | _ => false
theorem all_split {L : List Jvm.Cond} {P : Jvm.Cond → Bool} (h1 : L.all (fun c => isCode c || P c) = true) (h2 : ∀ c ∈ L.filter isCode, P c = true) : L.all P = true := by
  refine List.all_eq_true.mpr fun c hc => ?_
  have h := List.all_eq_true.mp h1 c hc
  rcases Bool.eq_false_or_eq_true (isCode c) with hi | hi
  · exact h2 c (List.mem_filter.mpr ⟨hc, hi⟩)
  · simpa [hi] using h
set_option maxRecDepth 65536 in
theorem w_c0 : (Jvm.Cond.code x code maxLocals ret).before args0 about1 = true := code_word (m := ⟨1, 1⟩) (meth := k1m1) (c := k1c1) (by decide +kernel) rfl rfl rfl (by decide +kernel)
set_option maxRecDepth 65536 in
theorem w_c1 : (Jvm.Cond.code ({ cls := "java/lang/String", name := "<init>", desc := "([C)V" } : Jvm.MethodName) jdk_42_method_3_code (2 : Nat) (Option.none : Option Jvm.ClassFile.FieldType)).before args0 about1 = true := code_word (m := ⟨7, 1⟩) (meth := k7m1) (c := k7c1) (by decide +kernel) rfl rfl rfl (by decide +kernel)
set_option maxRecDepth 65536 in
theorem w_c2 : (Jvm.Cond.code ({ cls := "java/lang/String", name := "<init>", desc := "([CIILjava/lang/Void;)V" } : Jvm.MethodName) jdk_42_method_149_code (6 : Nat) (Option.none : Option Jvm.ClassFile.FieldType)).before args0 about1 = true := code_word (m := ⟨7, 7⟩) (meth := k7m7) (c := k7c7) (by decide +kernel) rfl rfl rfl (by decide +kernel)
set_option maxRecDepth 65536 in
theorem w_c3 : (Jvm.Cond.code ({ cls := "java/lang/Object", name := "<init>", desc := "()V" } : Jvm.MethodName) object_method_1_code (1 : Nat) (Option.none : Option Jvm.ClassFile.FieldType)).before args0 about1 = true := code_word (m := ⟨0, 0⟩) (meth := k0m0) (c := k0c0) (by decide +kernel) rfl rfl rfl (by decide +kernel)
set_option maxRecDepth 65536 in
theorem w_c4 : (Jvm.Cond.code ({ cls := "java/lang/StringUTF16", name := "compress", desc := "([CII)[B" } : Jvm.MethodName) jdk_52_method_16_code (6 : Nat) (Option.some (Jvm.ClassFile.FieldType.array Jvm.ClassFile.FieldType.byte))).before args0 about1 = true := code_word (m := ⟨8, 2⟩) (meth := k8m2) (c := k8c2) (by decide +kernel) rfl rfl rfl (by decide +kernel)
set_option maxRecDepth 65536 in
theorem w_c5 : (Jvm.Cond.code ({ cls := "java/lang/StringUTF16", name := "compress", desc := "([CI[BII)I" } : Jvm.MethodName) jdk_52_method_21_code (7 : Nat) (Option.some Jvm.ClassFile.FieldType.int)).before args0 about1 = true := code_word (m := ⟨8, 3⟩) (meth := k8m3) (c := k8c3) (by decide +kernel) rfl rfl rfl (by decide +kernel)
set_option maxRecDepth 65536 in
theorem w_c6 : (Jvm.Cond.code ({ cls := "java/lang/StringUTF16", name := "coderFromArrayLen", desc := "([BI)B" } : Jvm.MethodName) jdk_52_method_15_code (2 : Nat) (Option.some Jvm.ClassFile.FieldType.byte)).before args0 about1 = true := code_word (m := ⟨8, 1⟩) (meth := k8m1) (c := k8c1) (by decide +kernel) rfl rfl rfl (by decide +kernel)
set_option maxRecDepth 65536 in
theorem w_c7 : (Jvm.Cond.code ({ cls := "com/example/thorough_factfind/thoroughfactfind/foundation/section/RecordPath", name := "<init>", desc := "(Ljava/lang/String;Ljava/lang/String;)V" } : Jvm.MethodName) prog_35_method_1_code (3 : Nat) (Option.none : Option Jvm.ClassFile.FieldType)).before args0 about1 = true := code_word (m := ⟨9, 0⟩) (meth := k9m0) (c := k9c0) (by decide +kernel) rfl rfl rfl (by decide +kernel)
set_option maxRecDepth 65536 in
theorem w_c8 : (Jvm.Cond.code ({ cls := "java/lang/StringBuilder", name := "<init>", desc := "()V" } : Jvm.MethodName) jdk_67_method_1_code (1 : Nat) (Option.none : Option Jvm.ClassFile.FieldType)).before args0 about1 = true := code_word (m := ⟨12, 0⟩) (meth := k12m0) (c := k12c0) (by decide +kernel) rfl rfl rfl (by decide +kernel)
set_option maxRecDepth 65536 in
theorem w_c9 : (Jvm.Cond.code ({ cls := "java/lang/AbstractStringBuilder", name := "<init>", desc := "(I)V" } : Jvm.MethodName) jdk_68_method_2_code (2 : Nat) (Option.none : Option Jvm.ClassFile.FieldType)).before args0 about1 = true := code_word (m := ⟨11, 1⟩) (meth := k11m1) (c := k11c1) (by decide +kernel) rfl rfl rfl (by decide +kernel)
set_option maxRecDepth 65536 in
theorem w_c10 : (Jvm.Cond.code ({ cls := "java/lang/StringBuilder", name := "append", desc := "(Ljava/lang/String;)Ljava/lang/StringBuilder;" } : Jvm.MethodName) jdk_67_method_7_code (2 : Nat) (Option.some (Jvm.ClassFile.FieldType.object "java/lang/StringBuilder"))).before args0 about1 = true := code_word (m := ⟨12, 1⟩) (meth := k12m1) (c := k12c1) (by decide +kernel) rfl rfl rfl (by decide +kernel)
set_option maxRecDepth 65536 in
theorem w_c11 : (Jvm.Cond.code ({ cls := "java/lang/AbstractStringBuilder", name := "append", desc := "(Ljava/lang/String;)Ljava/lang/AbstractStringBuilder;" } : Jvm.MethodName) jdk_68_method_22_code (3 : Nat) (Option.some (Jvm.ClassFile.FieldType.object "java/lang/AbstractStringBuilder"))).before args0 about1 = true := code_word (m := ⟨11, 4⟩) (meth := k11m4) (c := k11c4) (by decide +kernel) rfl rfl rfl (by decide +kernel)
set_option maxRecDepth 65536 in
theorem w_c12 : (Jvm.Cond.code ({ cls := "java/lang/String", name := "length", desc := "()I" } : Jvm.MethodName) jdk_42_method_54_code (1 : Nat) (Option.some Jvm.ClassFile.FieldType.int)).before args0 about1 = true := code_word (m := ⟨7, 3⟩) (meth := k7m3) (c := k7c3) (by decide +kernel) rfl rfl rfl (by decide +kernel)
set_option maxRecDepth 65536 in
theorem w_c13 : (Jvm.Cond.code ({ cls := "java/lang/String", name := "coder", desc := "()B" } : Jvm.MethodName) jdk_42_method_152_code (1 : Nat) (Option.some Jvm.ClassFile.FieldType.byte)).before args0 about1 = true := code_word (m := ⟨7, 9⟩) (meth := k7m9) (c := k7c9) (by decide +kernel) rfl rfl rfl (by decide +kernel)
set_option maxRecDepth 65536 in
theorem w_c14 : (Jvm.Cond.code ({ cls := "java/lang/AbstractStringBuilder", name := "ensureCapacityInternal", desc := "(I)V" } : Jvm.MethodName) jdk_68_method_9_code (3 : Nat) (Option.none : Option Jvm.ClassFile.FieldType)).before args0 about1 = true := code_word (m := ⟨11, 3⟩) (meth := k11m3) (c := k11c3) (by decide +kernel) rfl rfl rfl (by decide +kernel)
set_option maxRecDepth 65536 in
theorem w_c15 : (Jvm.Cond.code ({ cls := "java/lang/AbstractStringBuilder", name := "putStringAt", desc := "(ILjava/lang/String;)V" } : Jvm.MethodName) jdk_68_method_73_code (3 : Nat) (Option.none : Option Jvm.ClassFile.FieldType)).before args0 about1 = true := code_word (m := ⟨11, 8⟩) (meth := k11m8) (c := k11c8) (by decide +kernel) rfl rfl rfl (by decide +kernel)
set_option maxRecDepth 65536 in
theorem w_c16 : (Jvm.Cond.code ({ cls := "java/lang/AbstractStringBuilder", name := "inflateIfNeededFor", desc := "(Ljava/lang/String;)V" } : Jvm.MethodName) jdk_68_method_71_code (2 : Nat) (Option.none : Option Jvm.ClassFile.FieldType)).before args0 about1 = true := code_word (m := ⟨11, 7⟩) (meth := k11m7) (c := k11c7) (by decide +kernel) rfl rfl rfl (by decide +kernel)
set_option maxRecDepth 65536 in
theorem w_c17 : (Jvm.Cond.code ({ cls := "java/lang/String", name := "getBytes", desc := "([BIB)V" } : Jvm.MethodName) jdk_42_method_147_code (4 : Nat) (Option.none : Option Jvm.ClassFile.FieldType)).before args0 about1 = true := code_word (m := ⟨7, 6⟩) (meth := k7m6) (c := k7c6) (by decide +kernel) rfl rfl rfl (by decide +kernel)
set_option maxRecDepth 65536 in
theorem w_c18 : (Jvm.Cond.code ({ cls := "java/lang/StringBuilder", name := "toString", desc := "()Ljava/lang/String;" } : Jvm.MethodName) jdk_67_method_42_code (1 : Nat) (Option.some (Jvm.ClassFile.FieldType.object "java/lang/String"))).before args0 about1 = true := code_word (m := ⟨12, 2⟩) (meth := k12m2) (c := k12c2) (by decide +kernel) rfl rfl rfl (by decide +kernel)
set_option maxRecDepth 65536 in
theorem w_c19 : (Jvm.Cond.code ({ cls := "java/lang/String", name := "<init>", desc := "(Ljava/lang/StringBuilder;)V" } : Jvm.MethodName) jdk_42_method_53_code (2 : Nat) (Option.none : Option Jvm.ClassFile.FieldType)).before args0 about1 = true := code_word (m := ⟨7, 2⟩) (meth := k7m2) (c := k7c2) (by decide +kernel) rfl rfl rfl (by decide +kernel)
set_option maxRecDepth 65536 in
theorem w_c20 : (Jvm.Cond.code ({ cls := "java/lang/String", name := "<init>", desc := "(Ljava/lang/AbstractStringBuilder;Ljava/lang/Void;)V" } : Jvm.MethodName) jdk_42_method_150_code (5 : Nat) (Option.none : Option Jvm.ClassFile.FieldType)).before args0 about1 = true := code_word (m := ⟨7, 8⟩) (meth := k7m8) (c := k7c8) (by decide +kernel) rfl rfl rfl (by decide +kernel)
set_option maxRecDepth 65536 in
theorem w_c21 : (Jvm.Cond.code ({ cls := "java/lang/AbstractStringBuilder", name := "getValue", desc := "()[B" } : Jvm.MethodName) jdk_68_method_64_code (1 : Nat) (Option.some (Jvm.ClassFile.FieldType.array Jvm.ClassFile.FieldType.byte))).before args0 about1 = true := code_word (m := ⟨11, 5⟩) (meth := k11m5) (c := k11c5) (by decide +kernel) rfl rfl rfl (by decide +kernel)
set_option maxRecDepth 65536 in
theorem w_c22 : (Jvm.Cond.code ({ cls := "java/lang/StringBuilder", name := "length", desc := "()I" } : Jvm.MethodName) jdk_67_method_93_code (1 : Nat) (Option.some Jvm.ClassFile.FieldType.int)).before args0 about1 = true := code_word (m := ⟨12, 3⟩) (meth := k12m3) (c := k12c3) (by decide +kernel) rfl rfl rfl (by decide +kernel)
set_option maxRecDepth 65536 in
theorem w_c23 : (Jvm.Cond.code ({ cls := "java/lang/AbstractStringBuilder", name := "length", desc := "()I" } : Jvm.MethodName) jdk_68_method_6_code (1 : Nat) (Option.some Jvm.ClassFile.FieldType.int)).before args0 about1 = true := code_word (m := ⟨11, 2⟩) (meth := k11m2) (c := k11c2) (by decide +kernel) rfl rfl rfl (by decide +kernel)
set_option maxRecDepth 65536 in
theorem w_c24 : (Jvm.Cond.code ({ cls := "java/lang/AbstractStringBuilder", name := "isLatin1", desc := "()Z" } : Jvm.MethodName) jdk_68_method_68_code (1 : Nat) (Option.some Jvm.ClassFile.FieldType.boolean)).before args0 about1 = true := code_word (m := ⟨11, 6⟩) (meth := k11m6) (c := k11c6) (by decide +kernel) rfl rfl rfl (by decide +kernel)
set_option maxRecDepth 65536 in
theorem w_c25 : (Jvm.Cond.code ({ cls := "java/util/Arrays", name := "copyOfRange", desc := "([BII)[B" } : Jvm.MethodName) jdk_65_method_132_code (3 : Nat) (Option.some (Jvm.ClassFile.FieldType.array Jvm.ClassFile.FieldType.byte))).before args0 about1 = true := code_word (m := ⟨14, 2⟩) (meth := k14m2) (c := k14c2) (by decide +kernel) rfl rfl rfl (by decide +kernel)
set_option maxRecDepth 65536 in
theorem w_c26 : (Jvm.Cond.code ({ cls := "java/util/Arrays", name := "copyOfRangeByte", desc := "([BII)[B" } : Jvm.MethodName) jdk_65_method_133_code (5 : Nat) (Option.some (Jvm.ClassFile.FieldType.array Jvm.ClassFile.FieldType.byte))).before args0 about1 = true := code_word (m := ⟨14, 3⟩) (meth := k14m3) (c := k14c3) (by decide +kernel) rfl rfl rfl (by decide +kernel)
set_option maxRecDepth 65536 in
theorem w_c27 : (Jvm.Cond.code ({ cls := "java/util/Arrays", name := "checkLength", desc := "(II)V" } : Jvm.MethodName) jdk_65_method_131_code (2 : Nat) (Option.none : Option Jvm.ClassFile.FieldType)).before args0 about1 = true := code_word (m := ⟨14, 1⟩) (meth := k14m1) (c := k14c1) (by decide +kernel) rfl rfl rfl (by decide +kernel)
set_option maxRecDepth 65536 in
theorem w_c28 : (Jvm.Cond.code ({ cls := "java/lang/Math", name := "min", desc := "(II)I" } : Jvm.MethodName) jdk_29_method_69_code (2 : Nat) (Option.some Jvm.ClassFile.FieldType.int)).before args0 about1 = true := code_word (m := ⟨15, 1⟩) (meth := k15m1) (c := k15c1) (by decide +kernel) rfl rfl rfl (by decide +kernel)
set_option maxRecDepth 65536 in
theorem w_c29 : (Jvm.Cond.code ({ cls := "com/example/thorough_factfind/thoroughfactfind/foundation/section/RecordPath", name := "<init>", desc := "(Ljava/lang/String;Ljava/lang/String;Ljava/lang/String;)V" } : Jvm.MethodName) prog_35_method_2_code (4 : Nat) (Option.none : Option Jvm.ClassFile.FieldType)).before args0 about1 = true := code_word (m := ⟨9, 1⟩) (meth := k9m1) (c := k9c1) (by decide +kernel) rfl rfl rfl (by decide +kernel)
set_option maxRecDepth 65536 in
theorem w_c30 : (Jvm.Cond.code ({ cls := "com/example/thorough_factfind/thoroughfactfind/foundation/section/RecordPath", name := "parameter", desc := "()Ljava/lang/String;" } : Jvm.MethodName) prog_35_method_10_code (1 : Nat) (Option.some (Jvm.ClassFile.FieldType.object "java/lang/String"))).before args0 about1 = true := code_word (m := ⟨9, 2⟩) (meth := k9m2) (c := k9c2) (by decide +kernel) rfl rfl rfl (by decide +kernel)
set_option maxRecDepth 65536 in
theorem w_c31 : (Jvm.Cond.code ({ cls := "java/lang/String", name := "charAt", desc := "(I)C" } : Jvm.MethodName) jdk_42_method_56_code (2 : Nat) (Option.some Jvm.ClassFile.FieldType.char)).before args0 about1 = true := code_word (m := ⟨7, 4⟩) (meth := k7m4) (c := k7c4) (by decide +kernel) rfl rfl rfl (by decide +kernel)
set_option maxRecDepth 65536 in
theorem w_c32 : (Jvm.Cond.code ({ cls := "java/lang/String", name := "isLatin1", desc := "()Z" } : Jvm.MethodName) jdk_42_method_154_code (1 : Nat) (Option.some Jvm.ClassFile.FieldType.boolean)).before args0 about1 = true := code_word (m := ⟨7, 10⟩) (meth := k7m10) (c := k7c10) (by decide +kernel) rfl rfl rfl (by decide +kernel)
set_option maxRecDepth 65536 in
theorem w_c33 : (Jvm.Cond.code ({ cls := "java/lang/StringLatin1", name := "charAt", desc := "([BI)C" } : Jvm.MethodName) jdk_43_method_2_code (2 : Nat) (Option.some Jvm.ClassFile.FieldType.char)).before args0 about1 = true := code_word (m := ⟨16, 1⟩) (meth := k16m1) (c := k16c1) (by decide +kernel) rfl rfl rfl (by decide +kernel)
set_option maxRecDepth 65536 in
theorem w_c34 : (Jvm.Cond.code ({ cls := "java/lang/String", name := "checkIndex", desc := "(II)V" } : Jvm.MethodName) jdk_42_method_155_code (2 : Nat) (Option.none : Option Jvm.ClassFile.FieldType)).before args0 about1 = true := code_word (m := ⟨7, 11⟩) (meth := k7m11) (c := k7c11) (by decide +kernel) rfl rfl rfl (by decide +kernel)
set_option maxRecDepth 65536 in
theorem w_c35 : (Jvm.Cond.code ({ cls := "jdk/internal/util/Preconditions", name := "checkIndex", desc := "(IILjava/util/function/BiFunction;)I" } : Jvm.MethodName) jdk_41_method_11_code (3 : Nat) (Option.some Jvm.ClassFile.FieldType.int)).before args0 about1 = true := code_word (m := ⟨17, 1⟩) (meth := k17m1) (c := k17c1) (by decide +kernel) rfl rfl rfl (by decide +kernel)
set_option maxRecDepth 65536 in
theorem w_c36 : (Jvm.Cond.code ({ cls := "java/lang/String", name := "equals", desc := "(Ljava/lang/Object;)Z" } : Jvm.MethodName) jdk_42_method_66_code (3 : Nat) (Option.some Jvm.ClassFile.FieldType.boolean)).before args0 about1 = true := code_word (m := ⟨7, 5⟩) (meth := k7m5) (c := k7c5) (by decide +kernel) rfl rfl rfl (by decide +kernel)
def codes1 : List Jvm.Cond := [Jvm.Cond.code x code maxLocals ret, Jvm.Cond.code ({ cls := "java/lang/String", name := "<init>", desc := "([C)V" } : Jvm.MethodName) jdk_42_method_3_code (2 : Nat) (Option.none : Option Jvm.ClassFile.FieldType), Jvm.Cond.code ({ cls := "java/lang/String", name := "<init>", desc := "([CIILjava/lang/Void;)V" } : Jvm.MethodName) jdk_42_method_149_code (6 : Nat) (Option.none : Option Jvm.ClassFile.FieldType), Jvm.Cond.code ({ cls := "java/lang/Object", name := "<init>", desc := "()V" } : Jvm.MethodName) object_method_1_code (1 : Nat) (Option.none : Option Jvm.ClassFile.FieldType), Jvm.Cond.code ({ cls := "java/lang/StringUTF16", name := "compress", desc := "([CII)[B" } : Jvm.MethodName) jdk_52_method_16_code (6 : Nat) (Option.some (Jvm.ClassFile.FieldType.array Jvm.ClassFile.FieldType.byte)), Jvm.Cond.code ({ cls := "java/lang/StringUTF16", name := "compress", desc := "([CI[BII)I" } : Jvm.MethodName) jdk_52_method_21_code (7 : Nat) (Option.some Jvm.ClassFile.FieldType.int), Jvm.Cond.code ({ cls := "java/lang/StringUTF16", name := "coderFromArrayLen", desc := "([BI)B" } : Jvm.MethodName) jdk_52_method_15_code (2 : Nat) (Option.some Jvm.ClassFile.FieldType.byte), Jvm.Cond.code ({ cls := "com/example/thorough_factfind/thoroughfactfind/foundation/section/RecordPath", name := "<init>", desc := "(Ljava/lang/String;Ljava/lang/String;)V" } : Jvm.MethodName) prog_35_method_1_code (3 : Nat) (Option.none : Option Jvm.ClassFile.FieldType), Jvm.Cond.code ({ cls := "java/lang/StringBuilder", name := "<init>", desc := "()V" } : Jvm.MethodName) jdk_67_method_1_code (1 : Nat) (Option.none : Option Jvm.ClassFile.FieldType), Jvm.Cond.code ({ cls := "java/lang/AbstractStringBuilder", name := "<init>", desc := "(I)V" } : Jvm.MethodName) jdk_68_method_2_code (2 : Nat) (Option.none : Option Jvm.ClassFile.FieldType), Jvm.Cond.code ({ cls := "java/lang/StringBuilder", name := "append", desc := "(Ljava/lang/String;)Ljava/lang/StringBuilder;" } : Jvm.MethodName) jdk_67_method_7_code (2 : Nat) (Option.some (Jvm.ClassFile.FieldType.object "java/lang/StringBuilder")), Jvm.Cond.code ({ cls := "java/lang/AbstractStringBuilder", name := "append", desc := "(Ljava/lang/String;)Ljava/lang/AbstractStringBuilder;" } : Jvm.MethodName) jdk_68_method_22_code (3 : Nat) (Option.some (Jvm.ClassFile.FieldType.object "java/lang/AbstractStringBuilder")), Jvm.Cond.code ({ cls := "java/lang/String", name := "length", desc := "()I" } : Jvm.MethodName) jdk_42_method_54_code (1 : Nat) (Option.some Jvm.ClassFile.FieldType.int), Jvm.Cond.code ({ cls := "java/lang/String", name := "coder", desc := "()B" } : Jvm.MethodName) jdk_42_method_152_code (1 : Nat) (Option.some Jvm.ClassFile.FieldType.byte), Jvm.Cond.code ({ cls := "java/lang/AbstractStringBuilder", name := "ensureCapacityInternal", desc := "(I)V" } : Jvm.MethodName) jdk_68_method_9_code (3 : Nat) (Option.none : Option Jvm.ClassFile.FieldType), Jvm.Cond.code ({ cls := "java/lang/AbstractStringBuilder", name := "putStringAt", desc := "(ILjava/lang/String;)V" } : Jvm.MethodName) jdk_68_method_73_code (3 : Nat) (Option.none : Option Jvm.ClassFile.FieldType), Jvm.Cond.code ({ cls := "java/lang/AbstractStringBuilder", name := "inflateIfNeededFor", desc := "(Ljava/lang/String;)V" } : Jvm.MethodName) jdk_68_method_71_code (2 : Nat) (Option.none : Option Jvm.ClassFile.FieldType), Jvm.Cond.code ({ cls := "java/lang/String", name := "getBytes", desc := "([BIB)V" } : Jvm.MethodName) jdk_42_method_147_code (4 : Nat) (Option.none : Option Jvm.ClassFile.FieldType), Jvm.Cond.code ({ cls := "java/lang/StringBuilder", name := "toString", desc := "()Ljava/lang/String;" } : Jvm.MethodName) jdk_67_method_42_code (1 : Nat) (Option.some (Jvm.ClassFile.FieldType.object "java/lang/String")), Jvm.Cond.code ({ cls := "java/lang/String", name := "<init>", desc := "(Ljava/lang/StringBuilder;)V" } : Jvm.MethodName) jdk_42_method_53_code (2 : Nat) (Option.none : Option Jvm.ClassFile.FieldType), Jvm.Cond.code ({ cls := "java/lang/String", name := "<init>", desc := "(Ljava/lang/AbstractStringBuilder;Ljava/lang/Void;)V" } : Jvm.MethodName) jdk_42_method_150_code (5 : Nat) (Option.none : Option Jvm.ClassFile.FieldType), Jvm.Cond.code ({ cls := "java/lang/AbstractStringBuilder", name := "getValue", desc := "()[B" } : Jvm.MethodName) jdk_68_method_64_code (1 : Nat) (Option.some (Jvm.ClassFile.FieldType.array Jvm.ClassFile.FieldType.byte)), Jvm.Cond.code ({ cls := "java/lang/StringBuilder", name := "length", desc := "()I" } : Jvm.MethodName) jdk_67_method_93_code (1 : Nat) (Option.some Jvm.ClassFile.FieldType.int), Jvm.Cond.code ({ cls := "java/lang/AbstractStringBuilder", name := "length", desc := "()I" } : Jvm.MethodName) jdk_68_method_6_code (1 : Nat) (Option.some Jvm.ClassFile.FieldType.int), Jvm.Cond.code ({ cls := "java/lang/AbstractStringBuilder", name := "isLatin1", desc := "()Z" } : Jvm.MethodName) jdk_68_method_68_code (1 : Nat) (Option.some Jvm.ClassFile.FieldType.boolean), Jvm.Cond.code ({ cls := "java/util/Arrays", name := "copyOfRange", desc := "([BII)[B" } : Jvm.MethodName) jdk_65_method_132_code (3 : Nat) (Option.some (Jvm.ClassFile.FieldType.array Jvm.ClassFile.FieldType.byte)), Jvm.Cond.code ({ cls := "java/util/Arrays", name := "copyOfRangeByte", desc := "([BII)[B" } : Jvm.MethodName) jdk_65_method_133_code (5 : Nat) (Option.some (Jvm.ClassFile.FieldType.array Jvm.ClassFile.FieldType.byte)), Jvm.Cond.code ({ cls := "java/util/Arrays", name := "checkLength", desc := "(II)V" } : Jvm.MethodName) jdk_65_method_131_code (2 : Nat) (Option.none : Option Jvm.ClassFile.FieldType), Jvm.Cond.code ({ cls := "java/lang/Math", name := "min", desc := "(II)I" } : Jvm.MethodName) jdk_29_method_69_code (2 : Nat) (Option.some Jvm.ClassFile.FieldType.int), Jvm.Cond.code ({ cls := "com/example/thorough_factfind/thoroughfactfind/foundation/section/RecordPath", name := "<init>", desc := "(Ljava/lang/String;Ljava/lang/String;Ljava/lang/String;)V" } : Jvm.MethodName) prog_35_method_2_code (4 : Nat) (Option.none : Option Jvm.ClassFile.FieldType), Jvm.Cond.code ({ cls := "com/example/thorough_factfind/thoroughfactfind/foundation/section/RecordPath", name := "parameter", desc := "()Ljava/lang/String;" } : Jvm.MethodName) prog_35_method_10_code (1 : Nat) (Option.some (Jvm.ClassFile.FieldType.object "java/lang/String")), Jvm.Cond.code ({ cls := "java/lang/String", name := "charAt", desc := "(I)C" } : Jvm.MethodName) jdk_42_method_56_code (2 : Nat) (Option.some Jvm.ClassFile.FieldType.char), Jvm.Cond.code ({ cls := "java/lang/String", name := "isLatin1", desc := "()Z" } : Jvm.MethodName) jdk_42_method_154_code (1 : Nat) (Option.some Jvm.ClassFile.FieldType.boolean), Jvm.Cond.code ({ cls := "java/lang/StringLatin1", name := "charAt", desc := "([BI)C" } : Jvm.MethodName) jdk_43_method_2_code (2 : Nat) (Option.some Jvm.ClassFile.FieldType.char), Jvm.Cond.code ({ cls := "java/lang/String", name := "checkIndex", desc := "(II)V" } : Jvm.MethodName) jdk_42_method_155_code (2 : Nat) (Option.none : Option Jvm.ClassFile.FieldType), Jvm.Cond.code ({ cls := "jdk/internal/util/Preconditions", name := "checkIndex", desc := "(IILjava/util/function/BiFunction;)I" } : Jvm.MethodName) jdk_41_method_11_code (3 : Nat) (Option.some Jvm.ClassFile.FieldType.int), Jvm.Cond.code ({ cls := "java/lang/String", name := "equals", desc := "(Ljava/lang/Object;)Z" } : Jvm.MethodName) jdk_42_method_66_code (3 : Nat) (Option.some Jvm.ClassFile.FieldType.boolean)]
set_option maxRecDepth 65536 in
theorem codes_eq : words1.filter isCode = codes1 := rfl
theorem w_codes : ∀ c ∈ words1.filter isCode, c.before args0 about1 = true := by
  rw [codes_eq]
  intro c hc
  simp only [codes1, List.mem_cons, List.not_mem_nil, or_false] at hc
  rcases hc with rfl | rfl | rfl | rfl | rfl | rfl | rfl | rfl | rfl | rfl | rfl | rfl | rfl | rfl | rfl | rfl | rfl | rfl | rfl | rfl | rfl | rfl | rfl | rfl | rfl | rfl | rfl | rfl | rfl | rfl | rfl | rfl | rfl | rfl | rfl | rfl | rfl
  · exact w_c0
  · exact w_c1
  · exact w_c2
  · exact w_c3
  · exact w_c4
  · exact w_c5
  · exact w_c6
  · exact w_c7
  · exact w_c8
  · exact w_c9
  · exact w_c10
  · exact w_c11
  · exact w_c12
  · exact w_c13
  · exact w_c14
  · exact w_c15
  · exact w_c16
  · exact w_c17
  · exact w_c18
  · exact w_c19
  · exact w_c20
  · exact w_c21
  · exact w_c22
  · exact w_c23
  · exact w_c24
  · exact w_c25
  · exact w_c26
  · exact w_c27
  · exact w_c28
  · exact w_c29
  · exact w_c30
  · exact w_c31
  · exact w_c32
  · exact w_c33
  · exact w_c34
  · exact w_c35
  · exact w_c36
set_option maxRecDepth 65536 in
theorem w_t1 : (words1.take 24).all (fun c => isCode c || c.before args0 about1) = true := by decide +kernel
set_option maxRecDepth 65536 in
theorem w_t2 : ((words1.drop 24).take 24).all (fun c => isCode c || c.before args0 about1) = true := by decide +kernel
set_option maxRecDepth 65536 in
theorem w_t3 : (((words1.drop 24).drop 24).take 24).all (fun c => isCode c || c.before args0 about1) = true := by decide +kernel
set_option maxRecDepth 65536 in
theorem w_t4 : ((((words1.drop 24).drop 24).drop 24).take 24).all (fun c => isCode c || c.before args0 about1) = true := by decide +kernel
set_option maxRecDepth 65536 in
theorem w_t5 : (((((words1.drop 24).drop 24).drop 24).drop 24).take 24).all (fun c => isCode c || c.before args0 about1) = true := by decide +kernel
set_option maxRecDepth 65536 in
theorem w_t6 : ((((((words1.drop 24).drop 24).drop 24).drop 24).drop 24).take 24).all (fun c => isCode c || c.before args0 about1) = true := by decide +kernel
set_option maxRecDepth 65536 in
theorem w_t7 : (((((((words1.drop 24).drop 24).drop 24).drop 24).drop 24).drop 24).take 24).all (fun c => isCode c || c.before args0 about1) = true := by decide +kernel
set_option maxRecDepth 65536 in
theorem w_t8 : ((((((((words1.drop 24).drop 24).drop 24).drop 24).drop 24).drop 24).drop 24).take 24).all (fun c => isCode c || c.before args0 about1) = true := by decide +kernel
set_option maxRecDepth 65536 in
theorem w_t9 : ((((((((words1.drop 24).drop 24).drop 24).drop 24).drop 24).drop 24).drop 24).drop 24).all (fun c => isCode c || c.before args0 about1) = true := by decide +kernel
theorem w_tables : (allAtoms (Jvm.Cond.code x code maxLocals ret :: tables_1)).before args0 about1 = true := by
  rw [allAtoms_all]
  show words1.all (fun c => c.before args0 about1) = true
  refine all_split ?_ w_codes
  rw [← List.take_append_drop 24 words1, List.all_append, w_t1, ← List.take_append_drop 24 (words1.drop 24), List.all_append, w_t2, ← List.take_append_drop 24 ((words1.drop 24).drop 24), List.all_append, w_t3, ← List.take_append_drop 24 (((words1.drop 24).drop 24).drop 24), List.all_append, w_t4, ← List.take_append_drop 24 ((((words1.drop 24).drop 24).drop 24).drop 24), List.all_append, w_t5, ← List.take_append_drop 24 (((((words1.drop 24).drop 24).drop 24).drop 24).drop 24), List.all_append, w_t6, ← List.take_append_drop 24 ((((((words1.drop 24).drop 24).drop 24).drop 24).drop 24).drop 24), List.all_append, w_t7, ← List.take_append_drop 24 (((((((words1.drop 24).drop 24).drop 24).drop 24).drop 24).drop 24).drop 24), List.all_append, w_t8, w_t9]
  rfl
set_option maxRecDepth 65536 in
theorem w_rest : rest_1_c.before args0 about1 = true := by decide +kernel
set_option maxRecDepth 65536 in
theorem w_case : (Jvm.Cond.and given_1 narrow_1).before args0 about1 = true := by decide +kernel
set_option maxRecDepth 65536 in
theorem w_consts : constsHeld consts_1 about1 := Jvm.Lit.constsHeldB_iff.mp (by decide +kernel)
theorem w_applies : (headSpec (Jvm.Cond.code x code maxLocals ret :: tables_1) room_1).applies x e0.platform about1 = true :=
  (Spec.applies_iff w_frames).mpr ⟨w_running, w_runnable, w_alone, w_named, w_hears, w_ripe, w_room, w_tables⟩
theorem atStart : AtStart classFile x code maxLocals ret World_1 tables_1 room_1 Calls_1 rest_1 Pre_1 launch0 p0 e0 about1 theMethod args0 below0 :=
  ⟨lists_1, trivial, launch0.admits_env _ _ _, launch0.least_env, fairChoices_fair.cas, fairChoices_fair.clock, w_frames, w_args, w_heap, w_applies, ⟨w_consts, trivial⟩, w_rest, w_case⟩
end start1
theorem witness_1 : WitnessClaimed_1 := ⟨start1.p0, start1.e0, start1.about1, start1.theMethod, start1.args0, start1.below0, start1.atStart⟩
end Jvm.Pilot.@@N@@
