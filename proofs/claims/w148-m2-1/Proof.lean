import JvmDerived
import JvmDerived.Pilot.@@N@@Statement
import JvmDerived.Pilot.@@N@@Code
set_option linter.unusedVariables false
set_option linter.unusedSimpArgs false
namespace Jvm.RoadKit
open Sem ClassFile Op Lib Jvm.Stand Jvm.Free Jvm.LawKit
section Own
variable {p : Program} {l : Launch} {e : Env} {R : Room} {s : State} {m : MethodId} {args : Array Value} {below : List Frame} {meth : Method} {c : Code} {T T' : State} {locs : List Loc} {cells slots rc rs : Nat} {Q : Option Value → Heap → List Loc → Prop} {g g' : JFrame}
/-- from the state T with the top frame g the run ends in a return of which Q is true -/
def OwnGo (p : Program) (e : Env) (below : List Frame) (s : State) (rc rs : Nat) (Q : Option Value → Heap → List Loc → Prop) (T : State) (g : JFrame) : Prop :=
  ∃ (U : State) (o : Outcome), Steps p.tables e below (T.setTop g) U ∧ U.status = .running ∧ Ended U below o ∧ ∃ v L, o = .returned v ∧ Q v U.heap L ∧ FrameEnd s o U L rc rs
theorem OwnGo.st (k : ∀ target, Steps p.tables e below (T'.setTop g') target → Steps p.tables e below (T.setTop g) target) (h : OwnGo p e below s rc rs Q T' g') : OwnGo p e below s rc rs Q T g := by
  obtain ⟨U, o, h1, h2⟩ := h
  exact ⟨U, o, k _ h1, h2⟩
theorem OwnGo.cast (q : g = g') (h : OwnGo p e below s rc rs Q T g') : OwnGo p e below s rc rs Q T g := q ▸ h
theorem OwnGo.ret (X : Stand p l e R s m args below meth c T locs cells slots) (hx : p.tables.exec = Jvm.exec) {pc : Nat} {Ls : Array Slot} {w : Value} {t : FieldType} {i : Instr} {rest : List Value} (hret : meth.sig.returnType = some t) (hlk : meth.locks = false) (hn : narrow t w = w)
    (hi : (i = .ireturn ∧ (t = .int ∨ t = .boolean ∨ t = .byte ∨ t = .char ∨ t = .short) ∧ ∃ z, w = .int z) ∨ (i = .lreturn ∧ t = .long ∧ ∃ z, w = .long z) ∨ (i = .dreturn ∧ t = .double ∧ ∃ z, w = .double z) ∨ (i = .freturn ∧ t = .float ∧ ∃ z, w = .float z) ∨ (i = .areturn ∧ t.isReference = true ∧ w.isRef = true))
    (hd : decode c.code pc = .ok (i, 1)) (hQ : Q (some w) T.heap locs) (hc : cells ≤ rc) (hs : slots ≤ rs) : OwnGo p e below s rc rs Q T (mkF m pc Ls (w :: rest)) := by
  obtain ⟨fs, hr, hrun, hended, hW, hsame⟩ := X.leave (v := some w) (fun h => by rw [hret] at h; cases h) hlk
  exact ⟨_, _, retOut X hx hret hn hi hd hr, hrun, hended, _, _, rfl, hQ, ⟨_, rfl⟩, hW, hsame.mono hc hs⟩
theorem OwnGo.retN (X : Stand p l e R s m args below meth c T locs cells slots) (hx : p.tables.exec = Jvm.exec) {pc : Nat} {Ls : Array Slot} {z : Int32} {t : FieldType} {rest : List Value} (hret : meth.sig.returnType = some t) (hlk : meth.locks = false) (ht : t = .boolean ∨ t = .byte ∨ t = .char ∨ t = .short)
    (hd : decode c.code pc = .ok (.ireturn, 1)) (hQ : Q (some (.int (nar t z))) T.heap locs) (hc : cells ≤ rc) (hs : slots ≤ rs) : OwnGo p e below s rc rs Q T (mkF m pc Ls (.int z :: rest)) := by
  obtain ⟨fs, hr, hrun, hended, hW, hsame⟩ := X.leave (v := some (.int (nar t z))) (fun h => by rw [hret] at h; cases h) hlk
  exact ⟨_, _, Jvm.RoadKit.retN X hx hret ht hd hr, hrun, hended, _, _, rfl, hQ, ⟨_, rfl⟩, hW, hsame.mono hc hs⟩
theorem OwnGo.retV (X : Stand p l e R s m args below meth c T locs cells slots) (hx : p.tables.exec = Jvm.exec) {pc : Nat} {Ls : Array Slot} (hret : meth.sig.returnType = none) (hlk : meth.locks = false)
    (hd : decode c.code pc = .ok (.return_, 1)) (hQ : Q none T.heap locs) (hc : cells ≤ rc) (hs : slots ≤ rs) : OwnGo p e below s rc rs Q T (mkF m pc Ls []) := by
  obtain ⟨fs, hr, hrun, hended, hW, hsame⟩ := X.leave (v := none) (fun _ => rfl) hlk
  exact ⟨_, _, X.returnOut hx hret hd hr, hrun, hended, _, _, rfl, hQ, ⟨_, rfl⟩, hW, hsame.mono hc hs⟩
theorem own_met {y : MethodName} {bytes : ByteArray} {maxL : Nat} {ret : Option FieldType} {ws : List Jvm.Cond} {rm : Room} {Z : State} {as' : Array Value} {h0 : Heap} (hp : plainFor y = true)
    (body : ∀ (p : Program) (e : Env) (s : State) (m : MethodId) (below : List Frame) (meth : Method) (c : Code) (s₁ : State), Stand p l e rm s m as' below meth c s₁ [] 0 0 → p.tables.exec = Jvm.exec → c.code = bytes → c.maxLocals = maxL → meth.sig.returnType = ret → meth.locks = false → s.vm.findClass y.cls = some m.cls → meth.name = y.name → Z.Warmed39 s.vm → s₁.heap = h0 →
      OwnGo p e below s rm.cells rm.slots Q s₁ (entryFrame m as' maxL)) :
    MetFree l y (head1 (Jvm.Cond.code y bytes maxL ret :: ws) rm) (fun a U => a = as' ∧ Z.Warmed39 U.vm ∧ U.heap = h0) (fun _ _ _ _ _ => True) (fun _ U o U' => ∃ v L, o = .returned v ∧ Q v U'.heap L ∧ FrameEnd U o U' L rm.cells rm.slots) := by
  refine MetFree.of_bodySF hp hisR ?_
  intro p e s m args below meth c s₁ Bd hml0 hP hK
  obtain ⟨rfl, hZ, hh⟩ := hP
  exact body p e s m below meth c s₁ (Stand.of_body Bd) Bd.exec Bd.bytes hml0 Bd.returns Bd.notSynchronized (findClass_of_methodNamed Bd.named) (name_of_methodNamed Bd.named Bd.method).1 hZ (by rw [← hh, Bd.state]; rfl)
theorem own_len {Z : State} {h : Heap} {a : Addr} {cl : Cell} {ty : FieldType} {z : Int32} (hZ : Z.Warmed39 s.vm) (q : cl.slots.size.toInt32 = z) (A : Arr Z h a cl ty) (X : Stand p l e R s m args below meth c T locs cells slots) (eT : T.heap = h) (hx : p.tables.exec = Jvm.exec) {rest : List Value}
    (hg : g.method = m) (hst : g.stack = .ref a :: rest) (hd : decode c.code g.pc = .ok (.arraylength, 1)) (target : State) (k : Steps p.tables e below (T.setTop { g with pc := g.pc + 1, stack := .int z :: rest }) target) : Steps p.tables e below (T.setTop g) target := by
  refine X.arraylength hx (by rw [eT]; exact A.1) (State.isArrayOf_alike hZ.alike A.2.1) hg hst hd _ ?_
  rw [q]; exact k
theorem own_eqi {args : Array Value} {first U : State} {o : Option Outcome} {idx : List Nat} {a : Term} {k : Int32} (h : (Jvm.Cond.eq a (.int k)).value args first o U idx = some true) : a.eval args first o idx U = some (.int k) := Cond.eq_int (b := .int k) (by simp only [Cond.holds, h]; rfl) rfl
theorem own_eqv {args : Array Value} {first U : State} {o : Option Outcome} {idx : List Nat} {a b : Term} {v : Value} (h : (Jvm.Cond.eq a b).value args first o U idx = some true) (hb : b.eval args first o idx U = some v) (hv : v.isRef = true) : a.eval args first o idx U = some v := by
  obtain ⟨x, y, h1, h2, k1, k2⟩ := cmp_v (Or.inl h)
  cases h2.symm.trans hb
  have hx : x.isRef = true := by cases x <;> cases v <;> simp [Kin, Value.isRef] at k1 k2 hv ⊢
  rw [h1, gotT (eq_R h1 h2 hx hv) h]
theorem own_lenv {Z : State} {args : Array Value} {t : Term} {a : Addr} {cl : Cell} {ty : FieldType} {z : Int32} (ev : t.eval args Z none [] Z = some (.ref a)) (A : Arr Z Z.heap a cl ty) (h : (Jvm.Cond.eq (.length t) (.int z)).value args Z none Z [] = some true) : cl.slots.size < 2 ^ 31 ∧ cl.slots.size.toInt32 = z := by
  have e := own_eqi h
  have hA := A.fin (Vm.Alike.refl _)
  refine ⟨SBG.length_lt ev hA e, ?_⟩
  obtain ⟨a', c', e1, e2, e3⟩ := Term.length_spec e
  cases ev.symm.trans e1
  cases hA.symm.trans e2
  exact (Value.int.inj e3).symm
theorem own_elem {Z : State} {args : Array Value} {t : Term} {a : Addr} {cl : Cell} {ty : FieldType} {k : Int32} {v : Value} (ev : t.eval args Z none [] Z = some (.ref a)) (A : Arr Z Z.heap a cl ty) (h : (Term.elem t (.int k)).eval args Z none [] Z = some v) : cl.slots[k.toNatClampNeg]? = some v := (elem_in h ev rfl A.1).2
theorem own_narR {w : Value} {t : FieldType} (h : w.isRef = true) (ht : t.isReference = true) : narrow t w = w := by
  cases w <;> simp [Value.isRef] at h <;> cases t <;> simp [FieldType.isReference] at ht <;> rfl
theorem own_selp {y z : MethodName} (hz : (Jvm.Cond.selects z.cls z z).before args s = true) (hcls : z.cls = y.cls) (hpriv : s.PrivateAt y) (hinst : (Jvm.Cond.instanceMethod y).before args s = true) (hy : y.cls ≠ "java/lang/invoke/MethodHandle" ∧ y.cls ≠ "java/lang/invoke/VarHandle") : (Jvm.Cond.selects y.cls y y).before args s = true := by
  obtain ⟨c, r, mz, h1, h2, h3, h4, mk, h5, h6⟩ := Cond.selects_spec hz
  exact selects_self_of_private (by rw [← hcls]; exact findClass_of_methodNamed h3) h5 h6 hpriv hinst hy
theorem own_cat {w : Value} (h : w.isRef = true) : w.category = 1 := by cases w <;> simp [Value.isRef] at h <;> rfl
/-- an array of n places, whatever they hold -/
def OwnArr (Z : State) (h : Heap) (a : Addr) (ty : FieldType) (n : Nat) : Prop := ∃ cl : Cell, Arr Z h a cl ty ∧ cl.slots.size = n
theorem OwnArr.lt {Z : State} {h : Heap} {a : Addr} {ty : FieldType} {n : Nat} (F : OwnArr Z h a ty n) : a < h.size := by obtain ⟨_, A, -⟩ := F; exact A.lt
theorem OwnArr.ext {Z : State} {h h' : Heap} {a : Addr} {ty : FieldType} {n : Nat} (F : OwnArr Z h a ty n) (E : Ext h h') : OwnArr Z h' a ty n := by obtain ⟨c, A, S⟩ := F; exact ⟨c, A.ext E, S⟩
theorem OwnArr.keep {Z : State} {h h' : Heap} {a : Addr} {ty : FieldType} {n : Nat} {ws : List Addr} (F : OwnArr Z h a ty n) (K : Keep h h' ws) : OwnArr Z h' a ty n := by
  obtain ⟨c, ⟨A1, ⟨q1, q2⟩, A3⟩, S⟩ := F
  obtain ⟨c', e1, e2, e3, e4⟩ := K.2.2 _ _ A1
  exact ⟨c', ⟨e1, ⟨by rw [e3]; exact q1, by rw [e2]; exact q2⟩, by rw [e3]; exact A3⟩, e4.trans S⟩
theorem OwnArr.wr {Z : State} {h h' : Heap} {a b : Addr} {ty : FieldType} {n sl : Nat} {v : Value} (F : OwnArr Z h a ty n) (W : Wr h h' b sl v) : OwnArr Z h' a ty n := F.keep (Keep.of_wr W)
theorem OwnArr.of {Z : State} {h : Heap} {a : Addr} {k : ClassId} {ty : FieldType} {z : Int32} {vs : List Value} {d : Value} (F : Arv Z h a k ty z vs d) : OwnArr Z h a ty z.toNatClampNeg := by obtain ⟨c, A, -, S, -⟩ := F; exact ⟨c, A, S⟩
/-- an array of n ints (or bytes, chars, ..): place j holds f j -/
def OwnFn (Z : State) (h : Heap) (a : Addr) (ty : FieldType) (n : Nat) (f : Nat → Int32) : Prop := ∃ cl : Cell, Arr Z h a cl ty ∧ cl.slots.size = n ∧ ∀ j, j < n → cl.slots[j]? = some (.int (f j))
theorem OwnFn.lt {Z : State} {h : Heap} {a : Addr} {ty : FieldType} {n : Nat} {f : Nat → Int32} (F : OwnFn Z h a ty n f) : a < h.size := by obtain ⟨_, A, -⟩ := F; exact A.lt
theorem OwnFn.ext {Z : State} {h h' : Heap} {a : Addr} {ty : FieldType} {n : Nat} {f : Nat → Int32} (F : OwnFn Z h a ty n f) (E : Ext h h') : OwnFn Z h' a ty n f := by obtain ⟨c, A, r⟩ := F; exact ⟨c, A.ext E, r⟩
theorem OwnFn.keep {Z : State} {h h' : Heap} {a : Addr} {ty : FieldType} {n : Nat} {f : Nat → Int32} {ws : List Addr} (F : OwnFn Z h a ty n f) (K : Keep h h' ws) (q : a ∉ ws) : OwnFn Z h' a ty n f := by obtain ⟨c, A, r⟩ := F; exact ⟨c, ⟨K.2.1 a c A.1 q, A.2⟩, r⟩
theorem OwnFn.other {Z : State} {h h' : Heap} {a b : Addr} {ty : FieldType} {n sl : Nat} {f : Nat → Int32} {v : Value} (F : OwnFn Z h a ty n f) (W : Wr h h' b sl v) (q : a ≠ b) : OwnFn Z h' a ty n f := by obtain ⟨c, A, r⟩ := F; exact ⟨c, A.other W q, r⟩
theorem OwnFn.set {Z : State} {h h' : Heap} {a : Addr} {ty : FieldType} {n sl : Nat} {f : Nat → Int32} {v : Int32} (F : OwnFn Z h a ty n f) (W : Wr h h' a sl (.int v)) : OwnFn Z h' a ty n (fun j => if j = sl then v else f j) := by
  obtain ⟨c, A, S, H⟩ := F
  refine ⟨_, A.same W, by simp [Cell.setSlot, S], fun j hj => ?_⟩
  have e : (c.setSlot sl (.int v)).slots[j]? = if sl = j then some (.int v) else c.slots[j]? := by
    have hj' : j < c.slots.size := S ▸ hj
    simp only [Cell.setSlot, Array.getElem?_setIfInBounds]
    by_cases q : sl = j
    · subst q; simp [hj']
    · simp [q]
  rw [e]
  by_cases q : j = sl
  · subst q; simp
  · simp [q, Ne.symm q, H j hj]
theorem OwnFn.new {Z : State} {h : Heap} {a : Addr} {k : ClassId} {ty : FieldType} {z : Int32} (A : Arr Z h a (newA k ty z) ty) (hd : defaultValue ty = .int 0) : OwnFn Z h a ty z.toNatClampNeg (fun _ => 0) :=
  ⟨_, A, sz_new _ _ _, fun j hj => by simp [newA, hd, hj]⟩
theorem own_nb (x : Int32) : nar .byte x.toInt8.toInt32 = x.toInt8.toInt32 := by
  show (x.toInt8.toInt32).toInt8.toInt32 = _
  rw [Int8.toInt8_toInt32]
end Own
end Jvm.RoadKit
namespace Jvm.RoadKit
open Sem ClassFile Op Lib Jvm.Stand Jvm.Free Jvm.LawKit
section OwnW
variable {p : Program} {l : Launch} {e : Env} {R : Room} {s : State} {vm0 : Vm} {m : MethodId} {args : Array Value} {below : List Frame} {meth : Method} {c : Code} {T T' Z : State} {locs : List Loc} {cells slots rc rs k0 : Nat} {Q : Option Value → Heap → List Loc → Prop} {g g' : JFrame} {EL : List (String × Nat)} {a0 : Array Value} {h0 h : Heap}
/-- the same, where String constants may be loaded: the wide frame, and the booked constants' invariant -/
def OwnGoW (p : Program) (e : Env) (below : List Frame) (s Z : State) (EL : List (String × Nat)) (rc rs : Nat) (Q : Option Value → Heap → List Loc → Prop) (T : State) (g : JFrame) : Prop :=
  ∃ (U : State) (o : Outcome), Steps p.tables e below (T.setTop g) U ∧ U.status = .running ∧ Ended U below o ∧ ∃ v L, o = .returned v ∧ Q v U.heap L ∧ CHr Z EL s.vm s.heap U.vm U.heap ∧ ReturnedEndW s o U L rc rs
theorem OwnGoW.st (k : ∀ target, Steps p.tables e below (T'.setTop g') target → Steps p.tables e below (T.setTop g) target) (h : OwnGoW p e below s Z EL rc rs Q T' g') : OwnGoW p e below s Z EL rc rs Q T g := by
  obtain ⟨U, o, h1, h2⟩ := h
  exact ⟨U, o, k _ h1, h2⟩
theorem OwnGoW.cast (q : g = g') (h : OwnGoW p e below s Z EL rc rs Q T g') : OwnGoW p e below s Z EL rc rs Q T g := q ▸ h
theorem OwnGoW.ret (X : Stand p l e R (s.setVm vm0) m args below meth c T locs cells slots) (hS : s.Since vm0 k0) (hk : k0 ≤ h.size) (eT : T.heap = h) (hZ : Z.Warmed39 (s.setVm vm0).vm) (hEL : EW Z a0 EL) (CR : CHr Z EL s.vm s.heap vm0 h) (hx : p.tables.exec = Jvm.exec) {pc : Nat} {Ls : Array Slot} {w : Value} {t : FieldType} {i : Instr} {rest : List Value} (hret : meth.sig.returnType = some t) (hlk : meth.locks = false) (hn : narrow t w = w)
    (hi : (i = .ireturn ∧ (t = .int ∨ t = .boolean ∨ t = .byte ∨ t = .char ∨ t = .short) ∧ ∃ z, w = .int z) ∨ (i = .lreturn ∧ t = .long ∧ ∃ z, w = .long z) ∨ (i = .dreturn ∧ t = .double ∧ ∃ z, w = .double z) ∨ (i = .freturn ∧ t = .float ∧ ∃ z, w = .float z) ∨ (i = .areturn ∧ t.isReference = true ∧ w.isRef = true))
    (hd : decode c.code pc = .ok (i, 1)) (hQ : Q (some w) T.heap locs) (hc : cells ≤ rc) (hs : slots ≤ rs) : OwnGoW p e below s Z EL rc rs Q T (mkF m pc Ls (w :: rest)) := by
  subst eT
  have CX : CHr Z EL vm0 T.heap T.vm T.heap := CHv.at X hZ hEL CR.1
  obtain ⟨fs, hr, hrun, hended, e1, e2, e3, e4⟩ := X.leaveW (v := some w) hS hk (fun h => by rw [hret] at h; cases h) hlk
  exact ⟨_, _, retOut X hx hret hn hi hd hr, hrun, hended, _, _, rfl, hQ, CR.trans CX, e1, e2, e3, e4.mono hc hs⟩
theorem OwnGoW.retN (X : Stand p l e R (s.setVm vm0) m args below meth c T locs cells slots) (hS : s.Since vm0 k0) (hk : k0 ≤ h.size) (eT : T.heap = h) (hZ : Z.Warmed39 (s.setVm vm0).vm) (hEL : EW Z a0 EL) (CR : CHr Z EL s.vm s.heap vm0 h) (hx : p.tables.exec = Jvm.exec) {pc : Nat} {Ls : Array Slot} {z : Int32} {t : FieldType} {rest : List Value} (hret : meth.sig.returnType = some t) (hlk : meth.locks = false) (ht : t = .boolean ∨ t = .byte ∨ t = .char ∨ t = .short)
    (hd : decode c.code pc = .ok (.ireturn, 1)) (hQ : Q (some (.int (nar t z))) T.heap locs) (hc : cells ≤ rc) (hs : slots ≤ rs) : OwnGoW p e below s Z EL rc rs Q T (mkF m pc Ls (.int z :: rest)) := by
  subst eT
  have CX : CHr Z EL vm0 T.heap T.vm T.heap := CHv.at X hZ hEL CR.1
  obtain ⟨fs, hr, hrun, hended, e1, e2, e3, e4⟩ := X.leaveW (v := some (.int (nar t z))) hS hk (fun h => by rw [hret] at h; cases h) hlk
  exact ⟨_, _, Jvm.RoadKit.retN X hx hret ht hd hr, hrun, hended, _, _, rfl, hQ, CR.trans CX, e1, e2, e3, e4.mono hc hs⟩
theorem OwnGoW.retV (X : Stand p l e R (s.setVm vm0) m args below meth c T locs cells slots) (hS : s.Since vm0 k0) (hk : k0 ≤ h.size) (eT : T.heap = h) (hZ : Z.Warmed39 (s.setVm vm0).vm) (hEL : EW Z a0 EL) (CR : CHr Z EL s.vm s.heap vm0 h) (hx : p.tables.exec = Jvm.exec) {pc : Nat} {Ls : Array Slot} (hret : meth.sig.returnType = none) (hlk : meth.locks = false)
    (hd : decode c.code pc = .ok (.return_, 1)) (hQ : Q none T.heap locs) (hc : cells ≤ rc) (hs : slots ≤ rs) : OwnGoW p e below s Z EL rc rs Q T (mkF m pc Ls []) := by
  subst eT
  have CX : CHr Z EL vm0 T.heap T.vm T.heap := CHv.at X hZ hEL CR.1
  obtain ⟨fs, hr, hrun, hended, e1, e2, e3, e4⟩ := X.leaveW (v := none) hS hk (fun _ => rfl) hlk
  exact ⟨_, _, X.returnOut hx hret hd hr, hrun, hended, _, _, rfl, hQ, CR.trans CX, e1, e2, e3, e4.mono hc hs⟩
theorem own_metW {y : MethodName} {bytes : ByteArray} {maxL : Nat} {ret : Option FieldType} {ws : List Jvm.Cond} {rm : Room} {as' : Array Value} (hp : plainFor y = true)
    (body : ∀ (p : Program) (e : Env) (s : State) (m : MethodId) (below : List Frame) (meth : Method) (c : Code) (s₁ : State), Stand p l e rm (s.setVm s.vm) m as' below meth c s₁ [] 0 0 → p.tables.exec = Jvm.exec → c.code = bytes → c.maxLocals = maxL → meth.sig.returnType = ret → meth.locks = false → (s.setVm s.vm).vm.findClass y.cls = some m.cls → meth.name = y.name → Z.Warmed39 (s.setVm s.vm).vm → s₁.heap = h0 →
      s.Since s.vm h0.size → CHr Z EL s.vm s.heap s.vm h0 → OwnGoW p e below s Z EL rm.cells rm.slots Q s₁ (entryFrame m as' maxL)) :
    MetFree l y (head1 (Jvm.Cond.code y bytes maxL ret :: ws) rm) (fun a U => a = as' ∧ Z.Warmed39 U.vm ∧ U.heap = h0 ∧ CHv Z EL U.vm h0) (fun _ _ _ _ _ => True) (fun _ U o U' => ∃ v L, o = .returned v ∧ Q v U'.heap L ∧ CHr Z EL U.vm U.heap U'.vm U'.heap ∧ ReturnedEndW U o U' L rm.cells rm.slots) := by
  refine MetFree.of_bodySF hp hisR ?_
  intro p e s m args below meth c s₁ Bd hml0 hP hK
  obtain ⟨rfl, hZ, hh, hC⟩ := hP
  subst hh
  exact body p e s m below meth c s₁ (Stand.of_body Bd) Bd.exec Bd.bytes hml0 Bd.returns Bd.notSynchronized (findClass_of_methodNamed Bd.named) (name_of_methodNamed Bd.named Bd.method).1 hZ (by rw [Bd.state]; rfl) ((State.WarmedH.refl s).since _) (CHr.refl hC)
end OwnW
end Jvm.RoadKit
/- laws to paste: Road.backV (cut by pick.py; bodies as the Statement names them) -/
namespace Jvm.Pilot.@@N@@
namespace StrChars
open Jvm Sem ClassFile Op Lib Jvm.Stand Jvm.Free.XT Jvm.Free.ALB Jvm.Free.JM Jvm.Free
open Jvm.Lib.Cold (StaticIs)
/-- a char array whose places are chars -/
def Ch (a : Addr) (A : Cell) (U : State) : Prop := Arr .char a A U ∧ Typed .char A
theorem Ch.mv {a : Addr} {A : Cell} {U U' : State} (h : Ch a A U) (hal : U.vm.Alike U'.vm) (hh : U'.heap = U.heap) : Ch a A U' := ⟨h.1.mv hal hh, h.2⟩
theorem Ch.keep {a : Addr} {A : Cell} {U U' : State} (h : Ch a A U) (hal : U.vm.Alike U'.vm) (hk : U'.heap[a]? = some A) : Ch a A U' := ⟨h.1.keep hal hk, h.2⟩
/-- what place i of a char[]'s cell holds -/
def cv (A : Cell) (i : Nat) : Int32 := match A.slots[i]? with | some (.int x) => x | _ => 0
theorem Ch.get {a : Addr} {A : Cell} {U : State} (h : Ch a A U) {i : Nat} (hi : i < A.slots.size) : A.slots[i]? = some (.int (cv A i)) := by
  have e := Array.getElem?_eq_getElem hi
  have f := h.2 i _ e
  unfold cv; rw [e]
  generalize A.slots[i] = v at f
  cases v <;> simp [fits] at f ⊢
/-- the byte that i2b leaves of a char -/
def lo8 (x : Int32) : Int32 := x.toInt8.toInt32
theorem fits_lo8 (y : Int32) : fits .byte (.int (lo8 y)) = true := by
  have h1 := y.toInt8.le_toInt
  have h2 := y.toInt8.toInt_lt
  simp only [lo8, fits, Bool.and_eq_true, decide_eq_true_eq, Int32.le_iff_toInt_le, Int8.toInt_toInt32, show (-128 : Int32).toInt = -128 from by decide, show (127 : Int32).toInt = 127 from by decide]
  omega
/-- A' is A but that each place j of lo .. hi - 1 holds f j -/
def Laid (A A' : Cell) (lo hi : Nat) (f : Nat → Value) : Prop := A'.cls = A.cls ∧ A'.vm = A.vm ∧ A'.slots.size = A.slots.size ∧ ∀ i, A'.slots[i]? = if lo ≤ i ∧ i < hi then some (f i) else A.slots[i]?
theorem Laid.zero (A : Cell) (lo : Nat) (f : Nat → Value) : Laid A A lo (lo + 0) f := ⟨rfl, rfl, rfl, fun i => by rw [if_neg (by omega)]⟩
theorem Laid.step {A Ak : Cell} {lo k : Nat} {f : Nat → Value} {v : Value} (h : Laid A Ak lo k f) (hlo : lo ≤ k) (hk : k < Ak.slots.size) (hv : v = f k) : Laid A (Ak.setSlot k v) lo (k + 1) f := by
  refine ⟨h.1, h.2.1, by simpa [Cell.setSlot] using h.2.2.1, fun i => ?_⟩
  by_cases e : k = i
  · subst e; rw [Cell.slots_setSlot_self v hk, if_pos (by omega), hv]
  · rw [Cell.slots_setSlot_ne v e, h.2.2.2 i]
    by_cases q : lo ≤ i ∧ i < k
    · rw [if_pos q, if_pos (by omega)]
    · rw [if_neg q, if_neg (by omega)]
def U16 : String := "java/lang/StringUTF16"
namespace Cmp5
def yN : MethodName := ⟨"java/lang/StringUTF16", "compress", "([CI[BII)I"⟩
abbrev yB : ByteArray := jdk_52_method_21_code
theorem d0 : decode yB 0 = .ok (.iconst 0, 1) := by decide +kernel
theorem d1 : decode yB 1 = .ok (.istore 5, 2) := by decide +kernel
theorem d3 : decode yB 3 = .ok (.iload 5, 2) := by decide +kernel
theorem d5 : decode yB 5 = .ok (.iload 4, 2) := by decide +kernel
theorem d7 : decode yB 7 = .ok (.if_icmp (.ge) 37, 3) := by decide +kernel
theorem d10 : decode yB 10 = .ok (.aload_n 0, 1) := by decide +kernel
theorem d11 : decode yB 11 = .ok (.iload_n 1, 1) := by decide +kernel
theorem d12 : decode yB 12 = .ok (.caload, 1) := by decide +kernel
theorem d13 : decode yB 13 = .ok (.istore 6, 2) := by decide +kernel
theorem d15 : decode yB 15 = .ok (.iload 6, 2) := by decide +kernel
theorem d17 : decode yB 17 = .ok (.sipush 255, 3) := by decide +kernel
theorem d20 : decode yB 20 = .ok (.if_icmp (.le) 6, 3) := by decide +kernel
theorem d26 : decode yB 26 = .ok (.aload_n 2, 1) := by decide +kernel
theorem d27 : decode yB 27 = .ok (.iload_n 3, 1) := by decide +kernel
theorem d28 : decode yB 28 = .ok (.iload 6, 2) := by decide +kernel
theorem d30 : decode yB 30 = .ok (.i2b, 1) := by decide +kernel
theorem d31 : decode yB 31 = .ok (.bastore, 1) := by decide +kernel
theorem d32 : decode yB 32 = .ok (.iinc 1 1, 3) := by decide +kernel
theorem d35 : decode yB 35 = .ok (.iinc 3 1, 3) := by decide +kernel
theorem d38 : decode yB 38 = .ok (.iinc 5 1, 3) := by decide +kernel
theorem d41 : decode yB 41 = .ok (.goto (-38), 3) := by decide +kernel
theorem d44 : decode yB 44 = .ok (.iload 4, 2) := by decide +kernel
theorem d46 : decode yB 46 = .ok (.ireturn, 1) := by decide +kernel
def site : List Cond := []
def tab : Cond := tabOf yN yB 7 (some .int) site
def P (b : Addr) (A : Cell) (d : Addr) (B : Cell) (o q len : Nat) (args : Array Value) (s : State) : Prop := args = #[.ref b, .int (Int32.ofNat o), .ref d, .int (Int32.ofNat q), .int (Int32.ofNat len)] ∧ Ch b A s ∧ Arr .byte d B s ∧ b ≠ d ∧ o + len ≤ A.slots.size ∧ q + len ≤ B.slots.size ∧ ∀ i, i < len → ¬ 255 < cv A (o + i)
def E (b : Addr) (A : Cell) (d : Addr) (B : Cell) (o q len : Nat) (r : Option Value) (s u : State) : Prop := r = some (.int (Int32.ofNat len)) ∧ ∃ B', Put d B' s u ∧ Laid B B' q (q + len) (fun j => Value.int (lo8 (cv A (o + (j - q)))))
/-- no char of the range above 255: len; the places written hold each char's low byte -/
theorem law (l : Launch) (b : Addr) (A : Cell) (d : Addr) (B : Cell) (o q len : Nat) : Law l yN 5 5 0 0 yB 7 (some .int) site (P b A d B o q len) (E b A d B o q len) (copyLocs d q len) 0 0 := by
  refine Law.of_walk (plainFor_of_name (by decide +kernel)) (by decide +kernel) (by decide +kernel) (by decide) (fun _ _ h => by rw [h.1]; rfl) (fun _ U U' hal hh h => ⟨h.1, h.2.1.mv hal hh, h.2.2.1.mv hal hh, h.2.2.2⟩) (fun r U U' V V' h1 hal h2 h => ⟨h.1, h.2.elim fun B' q => ⟨B', q.1.mv h1 h2, q.2⟩⟩) ?_
  intro p e s m args below meth c s₁ X0 hexec hbytes hml hret hlk hnm hown hh0 W hP
  obtain ⟨rfl, hA, hB, hne, l1, l2, hp⟩ := hP
  have c1 : Steps p.tables e below (s₁.setTop (entryFrame m #[.ref b, .int (Int32.ofNat o), .ref d, .int (Int32.ofNat q), .int (Int32.ofNat len)] 7)) (s₁.setTop (mkF m 0 #[.val (.ref b), .val (.int (Int32.ofNat o)), .val (.ref d), .val (.int (Int32.ofNat q)), .val (.int (Int32.ofNat len)), .unset, .unset] [])) := entry rfl
  have hA0 := hA.1.mv X0.warmed.alike hh0
  have hB0 := hB.mv X0.warmed.alike hh0
  have a31 := hA.1.2.2.2
  have c2 : Steps p.tables e below (s₁.setTop (entryFrame m #[.ref b, .int (Int32.ofNat o), .ref d, .int (Int32.ofNat q), .int (Int32.ofNat len)] 7)) (s₁.setTop (mkF m 3 #[.val (.ref b), .val (.int (Int32.ofNat o)), .val (.ref d), .val (.int (Int32.ofNat q)), .val (.int (Int32.ofNat len)), .val (.int 0), .unset] [])) := c1.trans (by
    refine iconstV X0.here hexec rfl 0 (hb hbytes d0) (by decide) ?_
    refine XS.istore X0.here hexec rfl (hb hbytes d1) rfl rfl ?_
    exact Steps.refl _)
  have loop : ∀ (r i : Nat), i + r = len → ∀ (z : Slot), (z = .unset ∨ ∃ w, z = .val w ∧ w.category = 1) → ∀ (Tl : State) (Bk : Cell), Stand p l e { frames := 0, locals := 0, cells := 0, slots := 0 } s m #[.ref b, .int (Int32.ofNat o), .ref d, .int (Int32.ofNat q), .int (Int32.ofNat len)] below meth c Tl ([] ++ copyLocs d q i) 0 0 → Put d Bk s₁ Tl → Laid B Bk q (q + i) (fun j => Value.int (lo8 (cv A (o + (j - q))))) →
      Steps p.tables e below (s₁.setTop (entryFrame m #[.ref b, .int (Int32.ofNat o), .ref d, .int (Int32.ofNat q), .int (Int32.ofNat len)] 7)) (Tl.setTop (mkF m 3 #[.val (.ref b), .val (.int (Int32.ofNat (o + i))), .val (.ref d), .val (.int (Int32.ofNat (q + i))), .val (.int (Int32.ofNat len)), .val (.int (Int32.ofNat i)), z] [])) → ∃ (T' : State) (B' : Cell) (z' : Slot), Stand p l e { frames := 0, locals := 0, cells := 0, slots := 0 } s m #[.ref b, .int (Int32.ofNat o), .ref d, .int (Int32.ofNat q), .int (Int32.ofNat len)] below meth c T' ([] ++ copyLocs d q len) 0 0 ∧ Put d B' s₁ T' ∧ Laid B B' q (q + len) (fun j => Value.int (lo8 (cv A (o + (j - q))))) ∧
      Steps p.tables e below (s₁.setTop (entryFrame m #[.ref b, .int (Int32.ofNat o), .ref d, .int (Int32.ofNat q), .int (Int32.ofNat len)] 7)) (T'.setTop (mkF m 3 #[.val (.ref b), .val (.int (Int32.ofNat (o + len))), .val (.ref d), .val (.int (Int32.ofNat (q + len))), .val (.int (Int32.ofNat len)), .val (.int (Int32.ofNat len)), z'] [])) := by
    intro r
    induction r with
    | zero =>
      intro i hi z hz Tl Bk Xl pl fl cl
      have hil : i = len := by omega
      rw [hil] at Xl fl cl
      exact ⟨Tl, Bk, z, Xl, pl, fl, cl⟩
    | succ r ih =>
      intro i hi z hz Tl Bk Xl pl fl cl
      have all := X0.warmed.alike.symm.trans Xl.warmed.alike
      have hAl := hA0.keep all (pl.other hne hA0.1)
      have hBk := hB0.like all pl.1 fl.1 fl.2.1 fl.2.2.1
      have hlt : q + i < Bk.slots.size := by rw [fl.2.2.1]; omega
      have c3 : Steps p.tables e below (s₁.setTop (entryFrame m #[.ref b, .int (Int32.ofNat o), .ref d, .int (Int32.ofNat q), .int (Int32.ofNat len)] 7)) (Tl.setTop (mkF m 12 #[.val (.ref b), .val (.int (Int32.ofNat (o + i))), .val (.ref d), .val (.int (Int32.ofNat (q + i))), .val (.int (Int32.ofNat len)), .val (.int (Int32.ofNat i)), z] [.int (Int32.ofNat (o + i)), .ref b])) := cl.trans (by
        refine XS.iload Xl.here hexec rfl (hb hbytes d3) rfl ?_
        refine XS.iload Xl.here hexec rfl (hb hbytes d5) rfl ?_
        refine XS.icmpNo Xl.here hexec rfl (hb hbytes d7) rfl (ii_ge_f (lt32 (by omega) (by omega))) ?_
        refine XS.aloadN Xl.here hexec rfl (hb hbytes d10) rfl rfl ?_
        refine XS.iloadN Xl.here hexec rfl (hb hbytes d11) rfl ?_
        exact Steps.refl _)
      have c4 : Steps p.tables e below (s₁.setTop (entryFrame m #[.ref b, .int (Int32.ofNat o), .ref d, .int (Int32.ofNat q), .int (Int32.ofNat len)] 7)) (Tl.setTop (mkF m 13 #[.val (.ref b), .val (.int (Int32.ofNat (o + i))), .val (.ref d), .val (.int (Int32.ofNat (q + i))), .val (.int (Int32.ofNat len)), .val (.int (Int32.ofNat i)), z] [.int (cv A (o + i))])) := c3.trans (by
        refine Xl.aget hexec hAl rfl (hA.get (i := o + i) (by omega)) rfl rfl (hb hbytes d12) ?_
        exact Steps.refl _)
      have c5 : Steps p.tables e below (s₁.setTop (entryFrame m #[.ref b, .int (Int32.ofNat o), .ref d, .int (Int32.ofNat q), .int (Int32.ofNat len)] 7)) (Tl.setTop (mkF m 15 #[.val (.ref b), .val (.int (Int32.ofNat (o + i))), .val (.ref d), .val (.int (Int32.ofNat (q + i))), .val (.int (Int32.ofNat len)), .val (.int (Int32.ofNat i)), .val (.int (cv A (o + i)))] [])) := c4.trans (by
        refine XS.istoreS Xl.here hexec rfl (hb hbytes d13) rfl rfl hz ?_
        exact Steps.refl _)
      have c6 : Steps p.tables e below (s₁.setTop (entryFrame m #[.ref b, .int (Int32.ofNat o), .ref d, .int (Int32.ofNat q), .int (Int32.ofNat len)] 7)) (Tl.setTop (mkF m 31 #[.val (.ref b), .val (.int (Int32.ofNat (o + i))), .val (.ref d), .val (.int (Int32.ofNat (q + i))), .val (.int (Int32.ofNat len)), .val (.int (Int32.ofNat i)), .val (.int (cv A (o + i)))] [.int (lo8 (cv A (o + i))), .int (Int32.ofNat (q + i)), .ref d])) := c5.trans (by
        refine XS.iload Xl.here hexec rfl (hb hbytes d15) rfl ?_
        refine sipushV Xl.here hexec rfl 255 (hb hbytes d17) (by decide) ?_
        refine XS.icmpYes Xl.here hexec rfl (pc0 := 20) rfl (hb hbytes d20) rfl (ii_le_t (hp i (by omega))) (by decide) rfl ?_
        refine XS.aloadN Xl.here hexec rfl (hb hbytes d26) rfl rfl ?_
        refine XS.iloadN Xl.here hexec rfl (hb hbytes d27) rfl ?_
        refine XS.iload Xl.here hexec rfl (hb hbytes d28) rfl ?_
        refine i2b Xl.here hexec rfl (hb hbytes d30) rfl ?_
        exact Steps.refl _)
      obtain ⟨T7, X7, p7, st7⟩ := Xl.aput hexec hBk rfl hlt rfl (fits_lo8 (cv A (o + i))) (g := (mkF m 31 #[.val (.ref b), .val (.int (Int32.ofNat (o + i))), .val (.ref d), .val (.int (Int32.ofNat (q + i))), .val (.int (Int32.ofNat len)), .val (.int (Int32.ofNat i)), .val (.int (cv A (o + i)))] [.int (lo8 (cv A (o + i))), .int (Int32.ofNat (q + i)), .ref d])) rfl (rest := []) rfl (hb hbytes d31)
      have c8 : Steps p.tables e below (s₁.setTop (entryFrame m #[.ref b, .int (Int32.ofNat o), .ref d, .int (Int32.ofNat q), .int (Int32.ofNat len)] 7)) (T7.setTop (mkF m 32 #[.val (.ref b), .val (.int (Int32.ofNat (o + i))), .val (.ref d), .val (.int (Int32.ofNat (q + i))), .val (.int (Int32.ofNat len)), .val (.int (Int32.ofNat i)), .val (.int (cv A (o + i)))] [])) := c6.trans (st7 _ (Steps.refl _))
      have c9 : Steps p.tables e below (s₁.setTop (entryFrame m #[.ref b, .int (Int32.ofNat o), .ref d, .int (Int32.ofNat q), .int (Int32.ofNat len)] 7)) (T7.setTop (mkF m 3 #[.val (.ref b), .val (.int (Int32.ofNat (o + i) + 1)), .val (.ref d), .val (.int (Int32.ofNat (q + i) + 1)), .val (.int (Int32.ofNat len)), .val (.int (Int32.ofNat i + 1)), .val (.int (cv A (o + i)))] [])) := c8.trans (by
        refine iincV X7.here hexec rfl 1 (hb hbytes d32) (by decide) rfl rfl ?_
        refine iincV X7.here hexec rfl 1 (hb hbytes d35) (by decide) rfl rfl ?_
        refine iincV X7.here hexec rfl 1 (hb hbytes d38) (by decide) rfl rfl ?_
        refine XS.goto X7.here hexec rfl (pc0 := 41) rfl (hb hbytes d41) (by decide) rfl ?_
        exact Steps.refl _)
      have c10 : Steps p.tables e below (s₁.setTop (entryFrame m #[.ref b, .int (Int32.ofNat o), .ref d, .int (Int32.ofNat q), .int (Int32.ofNat len)] 7)) (T7.setTop (mkF m 3 #[.val (.ref b), .val (.int (Int32.ofNat (o + (i + 1)))), .val (.ref d), .val (.int (Int32.ofNat (q + (i + 1)))), .val (.int (Int32.ofNat len)), .val (.int (Int32.ofNat (i + 1))), .val (.int (cv A (o + i)))] [])) := by
        have := c9
        rw [succ32, succ32, succ32] at this
        exact this
      exact ih (i + 1) (by omega) _ (Or.inr ⟨_, rfl, rfl⟩) T7 _ (by rw [copyLocs_step, ← List.append_assoc]; exact X7) (pl.trans p7) (fl.step (by omega) hlt (by simp)) c10
  obtain ⟨T9, B9, z9, X9, p9, f9, g9⟩ := loop len 0 (by omega) .unset (Or.inl rfl) s₁ B (by simpa [copyLocs] using X0) ⟨hB0.1, fun _ _ => rfl, rfl⟩ (Laid.zero _ _ _) c2
  have c11 : Steps p.tables e below (s₁.setTop (entryFrame m #[.ref b, .int (Int32.ofNat o), .ref d, .int (Int32.ofNat q), .int (Int32.ofNat len)] 7)) (T9.setTop (mkF m 46 #[.val (.ref b), .val (.int (Int32.ofNat (o + len))), .val (.ref d), .val (.int (Int32.ofNat (q + len))), .val (.int (Int32.ofNat len)), .val (.int (Int32.ofNat len)), z9] [.int (Int32.ofNat len)])) := g9.trans (by
    refine XS.iload X9.here hexec rfl (hb hbytes d3) rfl ?_
    refine XS.iload X9.here hexec rfl (hb hbytes d5) rfl ?_
    refine XS.icmpYes X9.here hexec rfl (pc0 := 7) rfl (hb hbytes d7) rfl (ii_ge_t (nlt32 (by omega) (Nat.le_refl _))) (by decide) rfl ?_
    refine XS.iload X9.here hexec rfl (hb hbytes d44) rfl ?_
    exact Steps.refl _)
  exact ⟨T9, some (.int (Int32.ofNat len)), _, _, _, X9, by simp, rfl, rfl, (fun h => by cases h), ⟨rfl, B9, p9.from hh0, f9⟩, fun fs hl => c11.trans (X9.ireturnOut hexec hret rfl (Or.inl rfl) (hb hbytes d46) hl)⟩
end Cmp5
namespace Cmp3
def yN : MethodName := ⟨"java/lang/StringUTF16", "compress", "([CII)[B"⟩
abbrev yB : ByteArray := jdk_52_method_16_code
theorem d0 : decode yB 0 = .ok (.iload_n 2, 1) := by decide +kernel
theorem d1 : decode yB 1 = .ok (.newarray .byte, 2) := by decide +kernel
theorem d3 : decode yB 3 = .ok (.astore_n 3, 1) := by decide +kernel
theorem d4 : decode yB 4 = .ok (.aload_n 0, 1) := by decide +kernel
theorem d5 : decode yB 5 = .ok (.iload_n 1, 1) := by decide +kernel
theorem d6 : decode yB 6 = .ok (.aload_n 3, 1) := by decide +kernel
theorem d7 : decode yB 7 = .ok (.iconst 0, 1) := by decide +kernel
theorem d8 : decode yB 8 = .ok (.iload_n 2, 1) := by decide +kernel
theorem d9 : decode yB 9 = .ok (.invokestatic 115, 3) := by decide +kernel
theorem d12 : decode yB 12 = .ok (.istore 4, 2) := by decide +kernel
theorem d14 : decode yB 14 = .ok (.iload 4, 2) := by decide +kernel
theorem d16 : decode yB 16 = .ok (.iload_n 2, 1) := by decide +kernel
theorem d17 : decode yB 17 = .ok (.if_icmp (.eq) 40, 3) := by decide +kernel
theorem d57 : decode yB 57 = .ok (.aload_n 3, 1) := by decide +kernel
theorem d58 : decode yB 58 = .ok (.areturn, 1) := by decide +kernel
def site : List Cond := [.arrayClass .byte, Cmp5.tab] ++ staticW U16 115 Cmp5.yN
def tab : Cond := tabOf yN yB 6 (some (.array .byte)) site
def P (b : Addr) (A : Cell) (o len : Nat) (args : Array Value) (s : State) : Prop := args = #[.ref b, .int (Int32.ofNat o), .int (Int32.ofNat len)] ∧ Ch b A s ∧ o + len ≤ A.slots.size ∧ len ≤ 536870912 ∧ ∀ i, i < len → ¬ 255 < cv A (o + i)
def E (b : Addr) (A : Cell) (o len : Nat) (r : Option Value) (s u : State) : Prop := NewArr .byte "[B" len (fun j => .int (lo8 (cv A (o + j)))) r s u ∧ u.heap.size = s.heap.size + 1
/-- no char of the range above 255: a new byte[] of their low bytes -/
theorem law (l : Launch) (b : Addr) (A : Cell) (o len : Nat) : Law l yN 3 3 1 18 yB 6 (some (.array .byte)) site (P b A o len) (E b A o len) [] 1 len := by
  refine Law.of_walk (plainFor_of_name (by decide +kernel)) (by decide +kernel) (by decide +kernel) (by decide) (fun _ _ h => by rw [h.1]; rfl) (fun _ U U' hal hh h => ⟨h.1, h.2.1.mv hal hh, h.2.2⟩) (fun r U U' V V' h1 hal h2 h => ⟨NewArr.mv r U U' V V' h1 hal h2 h.1, by rw [h1, h2]; exact h.2⟩) ?_
  intro p e s m args below meth c s₁ X0 hexec hbytes hml hret hlk hnm hown hh0 W hP
  obtain ⟨rfl, hA, l1, l2, hp⟩ := hP
  have a31 := hA.1.2.2.2
  have c1 : Steps p.tables e below (s₁.setTop (entryFrame m #[.ref b, .int (Int32.ofNat o), .int (Int32.ofNat len)] 6)) (s₁.setTop (mkF m 0 #[.val (.ref b), .val (.int (Int32.ofNat o)), .val (.int (Int32.ofNat len)), .unset, .unset, .unset] [])) := entry rfl
  have c2 : Steps p.tables e below (s₁.setTop (entryFrame m #[.ref b, .int (Int32.ofNat o), .int (Int32.ofNat len)] 6)) (s₁.setTop (mkF m 1 #[.val (.ref b), .val (.int (Int32.ofNat o)), .val (.int (Int32.ofNat len)), .unset, .unset, .unset] [.int (Int32.ofNat len)])) := c1.trans (by
    refine XS.iloadN X0.here hexec rfl (hb hbytes d0) rfl ?_
    exact Steps.refl _)
  obtain ⟨T3, B3, X3, ba3, bs3, bv3, bh3, bf3, st3⟩ := X0.anew hexec (atype := .byte) (wk W (.arrayClass .byte)) rfl (by show len * 1 ≤ _; omega) (by omega) (g := (mkF m 1 #[.val (.ref b), .val (.int (Int32.ofNat o)), .val (.int (Int32.ofNat len)), .unset, .unset, .unset] [.int (Int32.ofNat len)])) rfl (hb hbytes d1) (rest := []) rfl (Nat.le_refl _) (by show 0 + len ≤ len; omega)
  rw [hh0] at ba3 st3
  have kp3 : XT.Kept s T3 := (XT.Kept.of_eq hh0).push bh3
  have hA3 := hA.keep X3.warmed.alike (kp3 _ _ hA.1.1)
  have hne : b ≠ s.heap.size := hA.1.ne
  have c4 : Steps p.tables e below (s₁.setTop (entryFrame m #[.ref b, .int (Int32.ofNat o), .int (Int32.ofNat len)] 6)) (T3.setTop (mkF m 3 #[.val (.ref b), .val (.int (Int32.ofNat o)), .val (.int (Int32.ofNat len)), .unset, .unset, .unset] [.ref s.heap.size])) := c2.trans (st3 _ (Steps.refl _))
  have c5 : Steps p.tables e below (s₁.setTop (entryFrame m #[.ref b, .int (Int32.ofNat o), .int (Int32.ofNat len)] 6)) (T3.setTop (mkF m 9 #[.val (.ref b), .val (.int (Int32.ofNat o)), .val (.int (Int32.ofNat len)), .val (.ref s.heap.size), .unset, .unset] [.int (Int32.ofNat len), .int 0, .ref s.heap.size, .int (Int32.ofNat o), .ref b])) := c4.trans (by
    refine XS.astoreN X3.here hexec rfl (hb hbytes d3) rfl rfl rfl ?_
    refine XS.aloadN X3.here hexec rfl (hb hbytes d4) rfl rfl ?_
    refine XS.iloadN X3.here hexec rfl (hb hbytes d5) rfl ?_
    refine XS.aloadN X3.here hexec rfl (hb hbytes d6) rfl rfl ?_
    refine iconstV X3.here hexec rfl 0 (hb hbytes d7) (by decide) ?_
    refine XS.iloadN X3.here hexec rfl (hb hbytes d8) rfl ?_
    exact Steps.refl _)
  obtain ⟨v6, T6, X6, E6, g6⟩ := X3.callS hexec (Cmp5.law l b A s.heap.size B3 o 0 len) hown (wks W (staticW U16 115 Cmp5.yN)) (wk W Cmp5.tab) (W := 0) (Nat.le_of_ble_eq_true rfl) (Nat.le_of_ble_eq_true rfl) (Nat.le_refl _) (by show 0 + len + 0 ≤ len; omega) (g := (mkF m 9 #[.val (.ref b), .val (.int (Int32.ofNat o)), .val (.int (Int32.ofNat len)), .val (.ref s.heap.size), .unset, .unset] [.int (Int32.ofNat len), .int (Int32.ofNat 0), .ref s.heap.size, .int (Int32.ofNat o), .ref b])) rfl (by rw [hml]; rfl) c5 (argsL := [.ref b, .int (Int32.ofNat o), .ref s.heap.size, .int (Int32.ofNat 0), .int (Int32.ofNat len)]) (rest := []) rfl rfl (by show 2 * 0 + 0 ≤ _; decide) (hb hbytes d9) (⟨rfl, hA3, ba3, hne, l1, by rw [bs3]; simp, hp⟩)
  obtain ⟨rfl, B6, p6, f6⟩ := E6
  have c7 : Steps p.tables e below (s₁.setTop (entryFrame m #[.ref b, .int (Int32.ofNat o), .int (Int32.ofNat len)] 6)) (T6.setTop (mkF m 12 #[.val (.ref b), .val (.int (Int32.ofNat o)), .val (.int (Int32.ofNat len)), .val (.ref s.heap.size), .unset, .unset] [.int (Int32.ofNat len)])) := g6
  have c8 : Steps p.tables e below (s₁.setTop (entryFrame m #[.ref b, .int (Int32.ofNat o), .int (Int32.ofNat len)] 6)) (T6.setTop (mkF m 58 #[.val (.ref b), .val (.int (Int32.ofNat o)), .val (.int (Int32.ofNat len)), .val (.ref s.heap.size), .val (.int (Int32.ofNat len)), .unset] [.ref s.heap.size])) := c7.trans (by
    refine XS.istore X6.here hexec rfl (hb hbytes d12) rfl rfl ?_
    refine XS.iload X6.here hexec rfl (hb hbytes d14) rfl ?_
    refine XS.iloadN X6.here hexec rfl (hb hbytes d16) rfl ?_
    refine XS.icmpYes X6.here hexec rfl (pc0 := 17) rfl (hb hbytes d17) rfl (ii_eq_t rfl) (by decide) rfl ?_
    refine XS.aloadN X6.here hexec rfl (hb hbytes d57) rfl rfl ?_
    exact Steps.refl _)
  have X8 := X6.wide (L' := []) (cells' := 1) (slots' := len) (fun x hx hlt => by
    simp only [List.nil_append, copyLocs, List.mem_map, List.mem_range] at hx
    obtain ⟨i, -, rfl⟩ := hx
    exact absurd hlt (Nat.lt_irrefl _)) (Nat.le_refl _) (by omega)
  exact ⟨T6, some (.ref s.heap.size), _, _, _, X8, rfl, rfl, rfl, (fun h => by cases h), ⟨⟨rfl, B6, ba3.like (X3.warmed.alike.symm.trans X6.warmed.alike) p6.1 f6.1 f6.2.1 f6.2.2.1, f6.2.1.trans bv3, by rw [X6.warmed.alike.findClass, f6.1]; exact bf3, by rw [f6.2.2.1, bs3]; simp, fun j hj => by rw [f6.2.2.2 j, if_pos (by omega)]; rfl, kp3.put p6 (Nat.le_refl _)⟩, by rw [p6.2.2, bh3, hh0]; simp⟩, fun fs hl => c8.trans (X8.areturnOut hexec rfl hret rfl (hb hbytes d58) hl)⟩
end Cmp3
namespace CodL
def yN : MethodName := ⟨"java/lang/StringUTF16", "coderFromArrayLen", "([BI)B"⟩
abbrev yB : ByteArray := jdk_52_method_15_code
theorem d0 : decode yB 0 = .ok (.iload_n 1, 1) := by decide +kernel
theorem d1 : decode yB 1 = .ok (.aload_n 0, 1) := by decide +kernel
theorem d2 : decode yB 2 = .ok (.arraylength, 1) := by decide +kernel
theorem d3 : decode yB 3 = .ok (.isub, 1) := by decide +kernel
theorem d4 : decode yB 4 = .ok (.bipush 31, 2) := by decide +kernel
theorem d6 : decode yB 6 = .ok (.iushr, 1) := by decide +kernel
theorem d7 : decode yB 7 = .ok (.i2b, 1) := by decide +kernel
theorem d8 : decode yB 8 = .ok (.ireturn, 1) := by decide +kernel
def site : List Cond := []
def tab : Cond := tabOf yN yB 2 (some .byte) site
def P (d : Addr) (B : Cell) (args : Array Value) (s : State) : Prop := args = #[.ref d, .int (Int32.ofNat B.slots.size)] ∧ Arr .byte d B s
def E (r : Option Value) (s u : State) : Prop := XT.PureE (some (.int 0)) r s u
/-- an array as long as the number of chars: LATIN1 -/
theorem law (l : Launch) (d : Addr) (B : Cell) : Law l yN 2 2 0 0 yB 2 (some .byte) site (P d B) E [] 0 0 := by
  refine Law.of_walk (plainFor_of_name (by decide +kernel)) (by decide +kernel) (by decide +kernel) (by decide) (fun _ _ h => by rw [h.1]; rfl) (fun _ U U' hal hh h => ⟨h.1, h.2.mv hal hh⟩) (fun r U U' V V' h1 hal h2 h => XT.PureE.mv r U U' V V' h1 hal h2 h) ?_
  intro p e s m args below meth c s₁ X0 hexec hbytes hml hret hlk hnm hown hh0 W hP
  obtain ⟨rfl, hB⟩ := hP
  have hB0 := hB.mv X0.warmed.alike hh0
  have c1 : Steps p.tables e below (s₁.setTop (entryFrame m #[.ref d, .int (Int32.ofNat B.slots.size)] 2)) (s₁.setTop (mkF m 0 #[.val (.ref d), .val (.int (Int32.ofNat B.slots.size))] [])) := entry rfl
  have c2 : Steps p.tables e below (s₁.setTop (entryFrame m #[.ref d, .int (Int32.ofNat B.slots.size)] 2)) (s₁.setTop (mkF m 2 #[.val (.ref d), .val (.int (Int32.ofNat B.slots.size))] [.ref d, .int (Int32.ofNat B.slots.size)])) := c1.trans (by
    refine XS.iloadN X0.here hexec rfl (hb hbytes d0) rfl ?_
    refine XS.aloadN X0.here hexec rfl (hb hbytes d1) rfl rfl ?_
    exact Steps.refl _)
  have c3 : Steps p.tables e below (s₁.setTop (entryFrame m #[.ref d, .int (Int32.ofNat B.slots.size)] 2)) (s₁.setTop (mkF m 8 #[.val (.ref d), .val (.int (Int32.ofNat B.slots.size))] [.int (lo8 (ushr (Int32.ofNat B.slots.size - Int32.ofNat B.slots.size) 31))])) := c2.trans (by
    refine X0.alen hexec hB0 rfl rfl (hb hbytes d2) ?_
    refine XS.isub X0.here hexec rfl (hb hbytes d3) rfl ?_
    refine bipushV X0.here hexec rfl 31 (hb hbytes d4) (by decide) ?_
    refine iushr X0.here hexec rfl (hb hbytes d6) rfl ?_
    refine i2b X0.here hexec rfl (hb hbytes d7) rfl ?_
    exact Steps.refl _)
  have e0 : lo8 (ushr (Int32.ofNat B.slots.size - Int32.ofNat B.slots.size) 31) = 0 := by rw [Int32.sub_self]; decide
  rw [e0] at c3
  exact ⟨s₁, some (.int 0), _, _, _, X0, rfl, rfl, rfl, (fun h => by cases h), ⟨rfl, hh0⟩, fun fs hl => c3.trans (X0.ireturnOut hexec hret rfl (Or.inr (Or.inr (Or.inl rfl))) (hb hbytes d8) hl)⟩
end CodL
/-- the String at a is Latin-1 over a new byte[] (the heap's one new cell): the low bytes of the len chars of A from o on; every cell but a is kept -/
def Got (a : Addr) (D : Cell) (fV fC : Field) (A : Cell) (o len : Nat) (r : Option Value) (s u : State) : Prop := r = none ∧ ∃ D' V : Cell, Blank "java/lang/String" a D' u ∧ Same D D' [fV.slot, fC.slot] ∧ D'.slots[fV.slot]? = some (.ref s.heap.size) ∧ D'.slots[fC.slot]? = some (.int 0) ∧ Arr .byte s.heap.size V u ∧ V.vm = .none ∧ u.vm.findClass "[B" = some V.cls ∧ V.slots.size = len ∧ (∀ j, j < len → V.slots[j]? = some (.int (lo8 (cv A (o + j))))) ∧ (∀ (y : Addr) (c : Cell), y ≠ a → s.heap[y]? = some c → u.heap[y]? = some c) ∧ u.heap.size = s.heap.size + 1
theorem Got.mv {a : Addr} {D A : Cell} {fV fC : Field} {o len : Nat} : ∀ r (U U' V V' : State), U'.heap = U.heap → V.vm.Alike V'.vm → V'.heap = V.heap → Got a D fV fC A o len r U V → Got a D fV fC A o len r U' V' :=
  fun r U U' V V' h1 hal h2 ⟨e0, D', X, a1, a2, a3, a4, a5, a6, a7, a8, a9, a10, a11⟩ => ⟨e0, D', X, a1.mv hal h2, a2, by rw [h1]; exact a3, a4, by rw [h1]; exact a5.mv hal h2, a6, by rw [hal.findClass]; exact a7, a8, a9, by rw [h1, h2]; exact a10, by rw [h1, h2]; exact a11⟩
namespace New4
def yN : MethodName := ⟨"java/lang/String", "<init>", "([CIILjava/lang/Void;)V"⟩
abbrev yB : ByteArray := jdk_42_method_149_code
theorem d0 : decode yB 0 = .ok (.aload_n 0, 1) := by decide +kernel
theorem d1 : decode yB 1 = .ok (.invokespecial 1, 3) := by decide +kernel
theorem d4 : decode yB 4 = .ok (.iload_n 3, 1) := by decide +kernel
theorem d5 : decode yB 5 = .ok (.ifCond (.ne) 22, 3) := by decide +kernel
theorem d27 : decode yB 27 = .ok (.getstatic 38, 3) := by decide +kernel
theorem d30 : decode yB 30 = .ok (.ifCond (.eq) 28, 3) := by decide +kernel
theorem d33 : decode yB 33 = .ok (.aload_n 1, 1) := by decide +kernel
theorem d34 : decode yB 34 = .ok (.iload_n 2, 1) := by decide +kernel
theorem d35 : decode yB 35 = .ok (.iload_n 3, 1) := by decide +kernel
theorem d36 : decode yB 36 = .ok (.invokestatic 177, 3) := by decide +kernel
theorem d39 : decode yB 39 = .ok (.astore 5, 2) := by decide +kernel
theorem d41 : decode yB 41 = .ok (.aload_n 0, 1) := by decide +kernel
theorem d42 : decode yB 42 = .ok (.aload 5, 2) := by decide +kernel
theorem d44 : decode yB 44 = .ok (.iload_n 3, 1) := by decide +kernel
theorem d45 : decode yB 45 = .ok (.invokestatic 47, 3) := by decide +kernel
theorem d48 : decode yB 48 = .ok (.putfield 15, 3) := by decide +kernel
theorem d51 : decode yB 51 = .ok (.aload_n 0, 1) := by decide +kernel
theorem d52 : decode yB 52 = .ok (.aload 5, 2) := by decide +kernel
theorem d54 : decode yB 54 = .ok (.putfield 9, 3) := by decide +kernel
theorem d57 : decode yB 57 = .ok (.return_, 1) := by decide +kernel
def site : List Cond := [.fieldLink "java/lang/String" 38 "java/lang/String" "COMPACT_STRINGS" "Z", Cmp3.tab, CodL.tab, .laysFinal "java/lang/String" "java/lang/String" "value" "[B", .fieldLink "java/lang/String" 9 "java/lang/String" "value" "[B", .laysFinal "java/lang/String" "java/lang/String" "coder" "B", .fieldLink "java/lang/String" 15 "java/lang/String" "coder" "B"] ++ objW "java/lang/String" 1 ++ staticW "java/lang/String" 177 Cmp3.yN ++ staticW "java/lang/String" 47 CodL.yN
def tab : Cond := tabOf yN yB 6 none site
def P (a : Addr) (D : Cell) (fV fC : Field) (b : Addr) (A : Cell) (z : Int32) (o len : Nat) (args : Array Value) (s : State) : Prop := args = #[.ref a, .ref b, .int (Int32.ofNat o), .int (Int32.ofNat len), .null] ∧ Blank "java/lang/String" a D s ∧ Found "java/lang/String" "value" "[B" fV s ∧ Found "java/lang/String" "coder" "B" fC s ∧ Ch b A s ∧ StaticIs s "java/lang/String" "COMPACT_STRINGS" "Z" (.int z) ∧ ¬ z = 0 ∧ 0 < len ∧ o + len ≤ A.slots.size ∧ len ≤ 536870912 ∧ ∀ i, i < len → ¬ 255 < cv A (o + i)
def E (a : Addr) (D : Cell) (fV fC : Field) (A : Cell) (o len : Nat) (r : Option Value) (s u : State) : Prop := Got a D fV fC A o len r s u
/-- len > 0, no char of the range above 255: a Latin-1 String of their low bytes -/
theorem law (l : Launch) (a : Addr) (D : Cell) (fV fC : Field) (b : Addr) (A : Cell) (z : Int32) (o len : Nat) : Law l yN 5 4 2 35 yB 6 none site (P a D fV fC b A z o len) (E a D fV fC A o len) [⟨a, fC.slot⟩, ⟨a, fV.slot⟩] 1 len := by
  refine Law.of_walk (plainFor_of_name (by decide +kernel)) (by decide +kernel) (by decide +kernel) (by decide) (fun _ _ h => by rw [h.1]; rfl) (fun _ U U' hal hh h => ⟨h.1, h.2.1.mv hal hh, h.2.2.1.al hal, h.2.2.2.1.al hal, h.2.2.2.2.1.mv hal hh, h.2.2.2.2.2.1.there hal hh, h.2.2.2.2.2.2⟩) (fun r U U' V V' h1 hal h2 h => Got.mv r U U' V V' h1 hal h2 h) ?_
  intro p e s m args below meth c s₁ X0 hexec hbytes hml hret hlk hnm hown hh0 W hP
  obtain ⟨rfl, hB, f1, f2, hA, s1, hz, l0, l1, l2, hp⟩ := hP
  have a31 := hA.1.2.2.2
  have c1 : Steps p.tables e below (s₁.setTop (entryFrame m #[.ref a, .ref b, .int (Int32.ofNat o), .int (Int32.ofNat len), .null] 6)) (s₁.setTop (mkF m 0 #[.val (.ref a), .val (.ref b), .val (.int (Int32.ofNat o)), .val (.int (Int32.ofNat len)), .val .null, .unset] [])) := entry rfl
  have c2 : Steps p.tables e below (s₁.setTop (entryFrame m #[.ref a, .ref b, .int (Int32.ofNat o), .int (Int32.ofNat len), .null] 6)) (s₁.setTop (mkF m 1 #[.val (.ref a), .val (.ref b), .val (.int (Int32.ofNat o)), .val (.int (Int32.ofNat len)), .val .null, .unset] [.ref a])) := c1.trans (by
    refine XS.aloadN X0.here hexec rfl (hb hbytes d0) rfl rfl ?_
    exact Steps.refl _)
  obtain ⟨T3, X3, q3, st3⟩ := X0.oinit hexec hown (wks W (objW "java/lang/String" 1)) (g := (mkF m 1 #[.val (.ref a), .val (.ref b), .val (.int (Int32.ofNat o)), .val (.int (Int32.ofNat len)), .val .null, .unset] [.ref a])) rfl (by rw [hml]; rfl) (rest := []) rfl (hb hbytes d1) (W := 0) (by show 2 * 0 + 0 ≤ _; decide) (Nat.le_of_ble_eq_true rfl) (Nat.le_of_ble_eq_true rfl)
  have hh3 := q3.trans hh0
  have c4 : Steps p.tables e below (s₁.setTop (entryFrame m #[.ref a, .ref b, .int (Int32.ofNat o), .int (Int32.ofNat len), .null] 6)) (T3.setTop (mkF m 27 #[.val (.ref a), .val (.ref b), .val (.int (Int32.ofNat o)), .val (.int (Int32.ofNat len)), .val .null, .unset] [])) := (c2.trans (st3 _ (Steps.refl _))).trans (by
    refine XS.iloadN X3.here hexec rfl (hb hbytes d4) rfl ?_
    refine XS.ifYes X3.here hexec rfl (pc0 := 5) rfl (hb hbytes d5) rfl (i0_ne_t (nz32 (by omega) l0)) (by decide) rfl ?_
    exact Steps.refl _)
  obtain ⟨T5, X5, q5, st5⟩ := X3.sget hexec hown (wk W (.fieldLink "java/lang/String" 38 "java/lang/String" "COMPACT_STRINGS" "Z")) s1 (fun _ _ h => by rw [hh3]; exact h) (g := (mkF m 27 #[.val (.ref a), .val (.ref b), .val (.int (Int32.ofNat o)), .val (.int (Int32.ofNat len)), .val .null, .unset] [])) rfl (hb hbytes d27)
  have hh5 := q5.trans hh3
  have c6 : Steps p.tables e below (s₁.setTop (entryFrame m #[.ref a, .ref b, .int (Int32.ofNat o), .int (Int32.ofNat len), .null] 6)) (T5.setTop (mkF m 30 #[.val (.ref a), .val (.ref b), .val (.int (Int32.ofNat o)), .val (.int (Int32.ofNat len)), .val .null, .unset] [.int z])) := c4.trans (st5 _ (Steps.refl _))
  have c7 : Steps p.tables e below (s₁.setTop (entryFrame m #[.ref a, .ref b, .int (Int32.ofNat o), .int (Int32.ofNat len), .null] 6)) (T5.setTop (mkF m 36 #[.val (.ref a), .val (.ref b), .val (.int (Int32.ofNat o)), .val (.int (Int32.ofNat len)), .val .null, .unset] [.int (Int32.ofNat len), .int (Int32.ofNat o), .ref b])) := c6.trans (by
    refine XS.ifNo X5.here hexec rfl (hb hbytes d30) rfl (i0_eq_f hz) ?_
    refine XS.aloadN X5.here hexec rfl (hb hbytes d33) rfl rfl ?_
    refine XS.iloadN X5.here hexec rfl (hb hbytes d34) rfl ?_
    refine XS.iloadN X5.here hexec rfl (hb hbytes d35) rfl ?_
    exact Steps.refl _)
  obtain ⟨v8, T8, X8, E8, g8⟩ := X5.callS hexec (Cmp3.law l b A o len) hown (wks W (staticW "java/lang/String" 177 Cmp3.yN)) (wk W Cmp3.tab) (W := 0) (Nat.le_of_ble_eq_true rfl) (Nat.le_of_ble_eq_true rfl) (Nat.le_refl _) (by show 0 + len ≤ len; omega) (g := (mkF m 36 #[.val (.ref a), .val (.ref b), .val (.int (Int32.ofNat o)), .val (.int (Int32.ofNat len)), .val .null, .unset] [.int (Int32.ofNat len), .int (Int32.ofNat o), .ref b])) rfl (by rw [hml]; rfl) c7 (argsL := [.ref b, .int (Int32.ofNat o), .int (Int32.ofNat len)]) (rest := []) rfl rfl (by show 2 * 0 + 0 ≤ _; decide) (hb hbytes d36) (⟨rfl, hA.mv X5.warmed.alike hh5, l1, l2, hp⟩)
  obtain ⟨e8, z8⟩ := E8
  obtain ⟨rfl, N, n1, n2, n3, n4, n5, n6⟩ := NewArr.mv _ T5 s _ _ hh5.symm (Vm.Alike.refl _) rfl e8
  rw [hh5] at z8
  have hB1 := hB.keep X8.warmed.alike (n6 _ _ hB.1)
  have hne : s.heap.size ≠ a := (Nat.ne_of_lt (Array.getElem?_eq_some_iff.mp hB.1).1).symm
  have c9 : Steps p.tables e below (s₁.setTop (entryFrame m #[.ref a, .ref b, .int (Int32.ofNat o), .int (Int32.ofNat len), .null] 6)) (T8.setTop (mkF m 39 #[.val (.ref a), .val (.ref b), .val (.int (Int32.ofNat o)), .val (.int (Int32.ofNat len)), .val .null, .unset] [.ref s.heap.size])) := g8
  have c10 : Steps p.tables e below (s₁.setTop (entryFrame m #[.ref a, .ref b, .int (Int32.ofNat o), .int (Int32.ofNat len), .null] 6)) (T8.setTop (mkF m 45 #[.val (.ref a), .val (.ref b), .val (.int (Int32.ofNat o)), .val (.int (Int32.ofNat len)), .val .null, .val (.ref s.heap.size)] [.int (Int32.ofNat N.slots.size), .ref s.heap.size, .ref a])) := by
    have hc : Steps p.tables e below (s₁.setTop (entryFrame m #[.ref a, .ref b, .int (Int32.ofNat o), .int (Int32.ofNat len), .null] 6)) (T8.setTop (mkF m 45 #[.val (.ref a), .val (.ref b), .val (.int (Int32.ofNat o)), .val (.int (Int32.ofNat len)), .val .null, .val (.ref s.heap.size)] [.int (Int32.ofNat len), .ref s.heap.size, .ref a])) := c9.trans (by
      refine XS.astore X8.here hexec rfl (hb hbytes d39) rfl rfl rfl ?_
      refine XS.aloadN X8.here hexec rfl (hb hbytes d41) rfl rfl ?_
      refine XS.aload X8.here hexec rfl (hb hbytes d42) rfl rfl ?_
      refine XS.iloadN X8.here hexec rfl (hb hbytes d44) rfl ?_
      exact Steps.refl _)
    rw [n4]; exact hc
  obtain ⟨v11, T11, X11, E11, g11⟩ := X8.callS hexec (CodL.law l s.heap.size N) hown (wks W (staticW "java/lang/String" 47 CodL.yN)) (wk W CodL.tab) (W := 1) (Nat.le_of_ble_eq_true rfl) (Nat.le_of_ble_eq_true rfl) (Nat.le_refl _) (by show 0 + len + 0 ≤ len; omega) (g := (mkF m 45 #[.val (.ref a), .val (.ref b), .val (.int (Int32.ofNat o)), .val (.int (Int32.ofNat len)), .val .null, .val (.ref s.heap.size)] [.int (Int32.ofNat N.slots.size), .ref s.heap.size, .ref a])) rfl (by rw [hml]; rfl) c10 (argsL := [.ref s.heap.size, .int (Int32.ofNat N.slots.size)]) (rest := [.ref a]) rfl rfl (by show 2 * 0 + (1 + 0) ≤ _; decide) (hb hbytes d45) (⟨rfl, n1⟩)
  obtain ⟨rfl, q11⟩ := E11
  have hB11 := hB1.mv (X8.warmed.alike.symm.trans X11.warmed.alike) q11
  have c12 : Steps p.tables e below (s₁.setTop (entryFrame m #[.ref a, .ref b, .int (Int32.ofNat o), .int (Int32.ofNat len), .null] 6)) (T11.setTop (mkF m 48 #[.val (.ref a), .val (.ref b), .val (.int (Int32.ofNat o)), .val (.int (Int32.ofNat len)), .val .null, .val (.ref s.heap.size)] [.int 0, .ref a])) := g11
  obtain ⟨T13, X13, p13, bl13, sl13, st13⟩ := X11.finit hexec hown (wk W (.fieldLink "java/lang/String" 15 "java/lang/String" "coder" "B")) (Or.inr ⟨_, (wk W (.laysFinal "java/lang/String" "java/lang/String" "coder" "B"))⟩) (Or.inl ⟨rfl, hnm⟩) f2 (Or.inl rfl) hB11 (t := .byte) (by decide +kernel) rfl (g := (mkF m 48 #[.val (.ref a), .val (.ref b), .val (.int (Int32.ofNat o)), .val (.int (Int32.ofNat len)), .val .null, .val (.ref s.heap.size)] [.int 0, .ref a])) rfl (rest := []) rfl (hb hbytes d48)
  have c14 : Steps p.tables e below (s₁.setTop (entryFrame m #[.ref a, .ref b, .int (Int32.ofNat o), .int (Int32.ofNat len), .null] 6)) (T13.setTop (mkF m 54 #[.val (.ref a), .val (.ref b), .val (.int (Int32.ofNat o)), .val (.int (Int32.ofNat len)), .val .null, .val (.ref s.heap.size)] [.ref s.heap.size, .ref a])) := (c12.trans (st13 _ (Steps.refl _))).trans (by
    refine XS.aloadN X13.here hexec rfl (hb hbytes d51) rfl rfl ?_
    refine XS.aload X13.here hexec rfl (hb hbytes d52) rfl rfl ?_
    exact Steps.refl _)
  obtain ⟨T15, X15, p15, bl15, sl15, st15⟩ := X13.finit hexec hown (wk W (.fieldLink "java/lang/String" 9 "java/lang/String" "value" "[B")) (Or.inr ⟨_, (wk W (.laysFinal "java/lang/String" "java/lang/String" "value" "[B"))⟩) (Or.inl ⟨rfl, hnm⟩) f1 (Or.inl rfl) bl13 (t := (.array .byte)) (by decide +kernel) rfl (g := (mkF m 54 #[.val (.ref a), .val (.ref b), .val (.int (Int32.ofNat o)), .val (.int (Int32.ofNat len)), .val .null, .val (.ref s.heap.size)] [.ref s.heap.size, .ref a])) rfl (rest := []) rfl (hb hbytes d54)
  have c16 : Steps p.tables e below (s₁.setTop (entryFrame m #[.ref a, .ref b, .int (Int32.ofNat o), .int (Int32.ofNat len), .null] 6)) (T15.setTop (mkF m 57 #[.val (.ref a), .val (.ref b), .val (.int (Int32.ofNat o)), .val (.int (Int32.ofNat len)), .val .null, .val (.ref s.heap.size)] [])) := c14.trans (st15 _ (Steps.refl _))
  have ap := apart (Or.inr ⟨_, (wk W (.laysFinal "java/lang/String" "java/lang/String" "value" "[B"))⟩) (Or.inr ⟨_, (wk W (.laysFinal "java/lang/String" "java/lang/String" "coder" "B"))⟩) f1 f2 (t₁ := .array .byte) (t₂ := .byte) (by decide +kernel) (by decide +kernel) (by decide)
  have al := X8.warmed.alike.symm.trans X15.warmed.alike
  have n7 : T11.heap[s.heap.size]? = some N := by rw [q11]; exact n1.1
  exact ⟨T15, none, _, _, _, X15, by simp, rfl, by omega, (fun _ => rfl), ⟨rfl, _, N, bl15, ((Same.refl D _).set _ (by simp)).set _ (by simp), sl15, (Cell.slots_setSlot_ne _ ap).trans sl13, n1.keep al (p15.other hne (p13.other hne n7)), n2, by rw [al.findClass]; exact n3, n4, n5, fun y c h1 h2 => p15.other h1 (p13.other h1 (by rw [q11]; exact n6 y c h2)), by rw [p15.2.2, p13.2.2, q11]; exact z8⟩, fun fs hl => c16.trans (X15.returnOut hexec hret (hb hbytes d57) hl)⟩
end New4
namespace New1
def yN : MethodName := ⟨"java/lang/String", "<init>", "([C)V"⟩
abbrev yB : ByteArray := jdk_42_method_3_code
theorem d0 : decode yB 0 = .ok (.aload_n 0, 1) := by decide +kernel
theorem d1 : decode yB 1 = .ok (.aload_n 1, 1) := by decide +kernel
theorem d2 : decode yB 2 = .ok (.iconst 0, 1) := by decide +kernel
theorem d3 : decode yB 3 = .ok (.aload_n 1, 1) := by decide +kernel
theorem d4 : decode yB 4 = .ok (.arraylength, 1) := by decide +kernel
theorem d5 : decode yB 5 = .ok (.aconst_null, 1) := by decide +kernel
theorem d6 : decode yB 6 = .ok (.invokespecial 27, 3) := by decide +kernel
theorem d9 : decode yB 9 = .ok (.return_, 1) := by decide +kernel
def site : List Cond := [New4.tab] ++ initW "java/lang/String" 27 New4.yN
def tab : Cond := tabOf yN yB 2 none site
def P (a : Addr) (D : Cell) (fV fC : Field) (b : Addr) (A : Cell) (z : Int32) (args : Array Value) (s : State) : Prop := args = #[.ref a, .ref b] ∧ Blank "java/lang/String" a D s ∧ Found "java/lang/String" "value" "[B" fV s ∧ Found "java/lang/String" "coder" "B" fC s ∧ Ch b A s ∧ StaticIs s "java/lang/String" "COMPACT_STRINGS" "Z" (.int z) ∧ ¬ z = 0 ∧ 0 < A.slots.size ∧ A.slots.size ≤ 536870912 ∧ ∀ i, i < A.slots.size → ¬ 255 < cv A i
def E (a : Addr) (D : Cell) (fV fC : Field) (A : Cell) (r : Option Value) (s u : State) : Prop := Got a D fV fC A 0 A.slots.size r s u
/-- new String(chars), not empty, no char above 255: a Latin-1 String of their low bytes -/
theorem law (l : Launch) (a : Addr) (D : Cell) (fV fC : Field) (b : Addr) (A : Cell) (z : Int32) : Law l yN 2 1 3 52 yB 2 none site (P a D fV fC b A z) (E a D fV fC A) [⟨a, fC.slot⟩, ⟨a, fV.slot⟩] 1 A.slots.size := by
  refine Law.of_walk (plainFor_of_name (by decide +kernel)) (by decide +kernel) (by decide +kernel) (by decide) (fun _ _ h => by rw [h.1]; rfl) (fun _ U U' hal hh h => ⟨h.1, h.2.1.mv hal hh, h.2.2.1.al hal, h.2.2.2.1.al hal, h.2.2.2.2.1.mv hal hh, h.2.2.2.2.2.1.there hal hh, h.2.2.2.2.2.2⟩) (fun r U U' V V' h1 hal h2 h => Got.mv r U U' V V' h1 hal h2 h) ?_
  intro p e s m args below meth c s₁ X0 hexec hbytes hml hret hlk hnm hown hh0 W hP
  obtain ⟨rfl, hB, f1, f2, hA, s1, hz, l0, l2, hp⟩ := hP
  have c1 : Steps p.tables e below (s₁.setTop (entryFrame m #[.ref a, .ref b] 2)) (s₁.setTop (mkF m 0 #[.val (.ref a), .val (.ref b)] [])) := entry rfl
  have c2 : Steps p.tables e below (s₁.setTop (entryFrame m #[.ref a, .ref b] 2)) (s₁.setTop (mkF m 6 #[.val (.ref a), .val (.ref b)] [.null, .int (Int32.ofNat A.slots.size), .int 0, .ref b, .ref a])) := c1.trans (by
    refine XS.aloadN X0.here hexec rfl (hb hbytes d0) rfl rfl ?_
    refine XS.aloadN X0.here hexec rfl (hb hbytes d1) rfl rfl ?_
    refine iconstV X0.here hexec rfl 0 (hb hbytes d2) (by decide) ?_
    refine XS.aloadN X0.here hexec rfl (hb hbytes d3) rfl rfl ?_
    refine X0.alen hexec (hA.1.mv X0.warmed.alike hh0) rfl rfl (hb hbytes d4) ?_
    refine XS.aconstNull X0.here hexec rfl (hb hbytes d5) ?_
    exact Steps.refl _)
  obtain ⟨v3, T3, X3, E3, g3⟩ := X0.callN hexec (New4.law l a D fV fC b A z 0 A.slots.size) rfl hown (wks W (initW "java/lang/String" 27 New4.yN)) (W New4.tab (by simp only [site, List.mem_cons, List.mem_append, true_or, or_true])) (W := 0) (Nat.le_of_ble_eq_true rfl) (Nat.le_of_ble_eq_true rfl) (Nat.le_refl _) (by show 0 + A.slots.size ≤ A.slots.size; omega) (g := (mkF m 6 #[.val (.ref a), .val (.ref b)] [.null, .int (Int32.ofNat A.slots.size), .int (Int32.ofNat 0), .ref b, .ref a])) rfl (by rw [hml]; rfl) c2 (argsL := [.ref b, .int (Int32.ofNat 0), .int (Int32.ofNat A.slots.size), .null]) (rest := []) rfl rfl (by show 2 * 0 + 0 ≤ _; decide) (hb hbytes d6) (⟨rfl, hB.mv X0.warmed.alike hh0, f1.al X0.warmed.alike, f2.al X0.warmed.alike, hA.mv X0.warmed.alike hh0, s1.there X0.warmed.alike hh0, hz, l0, by omega, l2, fun i hi => by rw [Nat.zero_add]; exact hp i hi⟩)
  have e0 := Got.mv _ s₁ s _ _ hh0.symm (Vm.Alike.refl _) rfl E3
  obtain rfl := e0.1
  have c4 : Steps p.tables e below (s₁.setTop (entryFrame m #[.ref a, .ref b] 2)) (T3.setTop (mkF m 9 #[.val (.ref a), .val (.ref b)] [])) := g3
  exact ⟨T3, none, _, _, _, X3, by simp, rfl, by omega, (fun _ => rfl), e0, fun fs hl => c4.trans (X3.returnOut hexec hret (hb hbytes d9) hl)⟩
theorem pays {l : Launch} {R : Room} {p : Program} {e : Env} {below : List Frame} {s : State} {sargs : Array Value} {len W : Nat} (a : Addr) (D : Cell) (fV fC : Field) (b : Addr) (A : Cell) (z : Int32) (htab : tab.before sargs s = true) (hfr : 4 ≤ R.frames) (hlo : W + 65 ≤ R.locals) :
    Back l R p e below s sargs yN len W (fun A₁ a₁ => A₁.cells + 1 ≤ R.cells ∧ A₁.slots + A.slots.size ≤ R.slots ∧ P a D fV fC b A z a₁ A₁.U) (fun A₁ _ v₁ B₁ => E a D fV fC A v₁ A₁.U B₁.U ∧ B₁.locs = A₁.locs ++ [⟨a, fC.slot⟩, ⟨a, fV.slot⟩] ∧ B₁.cells = A₁.cells + 1 ∧ B₁.slots = A₁.slots + A.slots.size) :=
  (law l a D fV fC b A z).pays htab hfr (by omega)
end New1
end StrChars
namespace StrChars.Road
open Jvm Sem ClassFile Op Lib Jvm.Stand Jvm.Free Jvm.Free.XT
open Jvm.Lib.Cold (StaticIs)
abbrev ST : String := "java/lang/String"
/-- every table word that New1's law asks, flat -/
abbrev words : List Jvm.Cond := [.code New1.yN New1.yB 2 none, .initialized ST, .methodLink ST 27 New4.yN, .instanceMethod New4.yN,
  .code New4.yN New4.yB 6 none, .fieldLink ST 38 ST "COMPACT_STRINGS" "Z", .laysFinal ST ST "value" "[B", .fieldLink ST 9 ST "value" "[B", .laysFinal ST ST "coder" "B", .fieldLink ST 15 ST "coder" "B",
  .methodLink ST 1 Lib.objectInit, .instanceMethod Lib.objectInit, .code Lib.objectInit ⟨#[0xb1]⟩ 1 none, .methodLink ST 177 Cmp3.yN, .static Cmp3.yN, .methodLink ST 47 CodL.yN, .static CodL.yN,
  .code Cmp3.yN Cmp3.yB 6 (some (.array .byte)), .initialized U16, .arrayClass .byte, .methodLink U16 115 Cmp5.yN, .static Cmp5.yN, .code Cmp5.yN Cmp5.yB 7 (some .int), .code CodL.yN CodL.yB 2 (some .byte)]
theorem tab_of {a : Array Value} {s : State} (h : ∀ w ∈ words, w.before a s = true) : New1.tab.before a s = true := by
  have h5 : Cmp5.tab.before a s = true := unparts (wk h (.code Cmp5.yN Cmp5.yB 7 (some .int))) (wks h (.initialized Cmp5.yN.cls :: Cmp5.site))
  have hc : CodL.tab.before a s = true := unparts (wk h (.code CodL.yN CodL.yB 2 (some .byte))) (wks h (.initialized CodL.yN.cls :: CodL.site))
  have q5 : ∀ w ∈ Cmp5.tab :: words, w.before a s = true := fun w hw => (List.mem_cons.mp hw).elim (fun e => e ▸ h5) (h w)
  have h3 : Cmp3.tab.before a s = true := unparts (wk q5 (.code Cmp3.yN Cmp3.yB 6 (some (.array .byte)))) (wks q5 (.initialized Cmp3.yN.cls :: Cmp3.site))
  have q3 : ∀ w ∈ Cmp3.tab :: CodL.tab :: words, w.before a s = true := fun w hw => (List.mem_cons.mp hw).elim (fun e => e ▸ h3) fun hw => (List.mem_cons.mp hw).elim (fun e => e ▸ hc) (h w)
  have h4 : New4.tab.before a s = true := unparts (wk q3 (.code New4.yN New4.yB 6 none)) (wks q3 (.initialized New4.yN.cls :: New4.site))
  have q4 : ∀ w ∈ New4.tab :: words, w.before a s = true := fun w hw => (List.mem_cons.mp hw).elim (fun e => e ▸ h4) (h w)
  exact unparts (wk q4 (.code New1.yN New1.yB 2 none)) (wks q4 (.initialized New1.yN.cls :: New1.site))
/-- the words ride from the start Z to the walk's own state -/
theorem moved {Z s : State} {a0 args : Array Value} (hZ : Z.Warmed39 s.vm) (hw : ∀ d ∈ words, d.before a0 Z = true) : ∀ d ∈ words, d.before args s = true := fun d hd => by
  have q := hw d hd
  have t : ∀ d ∈ words, d = .arrayClass .byte ∨ (d.onTables && d.keepsFace) = true := by decide +kernel
  rcases t d hd with rfl | t
  · exact RoadKit.mvA hZ q
  · exact RoadKit.mv hZ q t
/-- WHAT COMES BACK, over the tables of the start Z: h the heap at the call, h' behind it -/
def Q (Z : State) (x : Addr) (A : Cell) (h : Heap) (v : Option Value) (h' : Heap) (L : List Loc) : Prop := v = none ∧ (∀ y ∈ L, y.base = x) ∧ RoadKit.Keep h h' [x] ∧ h'.size = h.size + 1 ∧ RoadKit.Exa Z h' x ST ∧ RoadKit.Fld Z h' x ST "value" "[B" (.ref h.size) ∧ RoadKit.Fld Z h' x ST "coder" "B" (.int 0) ∧
  (∃ V : Cell, RoadKit.Arr Z h' h.size V .byte ∧ V.vm = .none ∧ Z.vm.findClass "[B" = some V.cls ∧ V.slots.size = A.slots.size ∧ ∀ j, j < A.slots.size → V.slots[j]? = some (.int (lo8 (cv A j)))) ∧
  ∀ (O n d : String) (w : Value), RoadKit.Fld Z h x O n d w → RoadKit.slotOf Z O n d ≠ RoadKit.slotOf Z ST "value" "[B" → RoadKit.slotOf Z O n d ≠ RoadKit.slotOf Z ST "coder" "B" → RoadKit.Fld Z h' x O n d w
/-- **new String(chars) AT A CALL, IN THE ROAD'S FORM**: for specialBack behind newO: x the fresh String, b the char[] with the cell A -/
theorem back {p : Program} {l : Launch} {e : Env} {R : Room} {s : State} {args : Array Value} {below : List Frame} {len W : Nat} {Z : State} {a0 : Array Value} {h : Heap} (hZ : Z.Warmed39 s.vm) (hw : ∀ d ∈ words, d.before a0 Z = true) {kI : Nat} (wi : (Jvm.Cond.instantiable ST kI).before a0 Z = true)
    {x b : Addr} {A : Cell} {z : Int32} {v0 c0 : Value} (E : RoadKit.Exa Z h x ST) (V : RoadKit.Fld Z h x ST "value" "[B" v0) (C : RoadKit.Fld Z h x ST "coder" "B" c0) (K : RoadKit.Arr Z h b A .char) (hty : Typed .char A) (S : RoadKit.Sta Z h ST "COMPACT_STRINGS" "Z" (.int z)) (hz : ¬ z = 0)
    (l0 : 0 < A.slots.size) (l2 : A.slots.size ≤ 536870912) (hp : ∀ i, i < A.slots.size → ¬ 255 < cv A i) (hfr : 4 ≤ R.frames) (hlo : W + 65 ≤ R.locals) :
    Back l R p e below s args New1.yN len W (fun P a => a = #[.ref x, .ref b] ∧ P.U.heap = h ∧ P.cells + 1 ≤ R.cells ∧ P.slots + A.slots.size ≤ R.slots)
      (fun P _ v B => ∃ L, Q Z x A h v B.U.heap L ∧ B.locs = P.locs ++ L ∧ B.cells = P.cells + 1 ∧ B.slots = P.slots + A.slots.size) := by
  intro m meth c P g ig mk a X hg hsize hdg hW hn hp'
  obtain ⟨rfl, rfl, r1, r2⟩ := hp'
  have al : Z.vm.Alike P.U.vm := hZ.alike.trans X.warmed.alike
  obtain ⟨D, cfV, kV, iV, fV, hD, gV, stV, knV, obV, asV, slV⟩ := id V
  obtain ⟨D', cfC, kC, iC, fC, hD', gC, stC, -, -, asC, slC⟩ := id C
  cases hD.symm.trans hD'
  obtain ⟨D2, kD, e1, e2, e3, e4, e5⟩ := id E
  cases hD.symm.trans e1
  obtain ⟨c2, k2, i1, i2, i3, -⟩ := Cond.instantiable_spec wi
  cases e2.symm.trans i1
  cases e3.symm.trans i2
  obtain ⟨kU, u1, u2⟩ := al.2.2 _ _ e3
  have hB : Blank ST x D P.U := ⟨hD, ⟨knV, fun q hq => by rw [hq] at obV; cases obV⟩, by rw [al.findClass]; exact e2, kU, u1, by rw [u2]; exact i3, by rw [u2]; exact e5 i3⟩
  have F1 : Found ST "value" "[B" fV P.U := ⟨SBG.found_only al ⟨cfV, kV, iV, gV⟩, stV⟩
  have F2 : Found ST "coder" "B" fC P.U := ⟨SBG.found_only al ⟨cfC, kC, iC, gC⟩, stC⟩
  have hA : Ch b A P.U := ⟨⟨K.1, State.isArrayOf_alike al K.2.1, K.2.2, by omega⟩, hty⟩
  have hS : StaticIs P.U ST "COMPACT_STRINGS" "Z" (.int z) := by
    obtain ⟨cfS, iS, kS, fS, st, cS, t1, t2, t3, t4, t5, t6, t7⟩ := S
    exact StaticIs.there (s := { Z with heap := P.U.heap }) ⟨cfS, iS, kS, fS, st, cS, t1, t2, t3, t4, t5, (fun q => by rw [q] at t6; cases t6), t7⟩ al rfl
  obtain ⟨v, B, X', ⟨⟨hv, E', V', q1, q2, q3, q4, q5, q6, q7, q8, q9, q10, q11⟩, hl, hc, hs⟩, st⟩ := New1.pays x D fV fC b A z (tab_of (moved hZ hw)) hfr hlo m meth c P g ig mk _ X hg hsize hdg hW hn ⟨r1, r2, rfl, hB, F1, F2, hA, hS, hz, l0, l2, hp⟩
  have al' : Z.vm.Alike B.U.vm := hZ.alike.trans X'.warmed.alike
  have hsz : E'.slots.size = D.slots.size := by
    obtain ⟨-, -, -, kB, w1, w2, w3⟩ := q1
    obtain ⟨kB', y1, y2⟩ := al'.2.2 _ _ e3
    rw [q2.2.1] at w1
    cases w1.symm.trans y1
    rw [w3, e5 i3, y2]
  refine ⟨v, B, X', ⟨_, ⟨hv, ?_, ⟨by omega, fun y cy hy hn' => q10 y cy (by simpa using hn') hy, fun y cy hy => ?_⟩, q11, ⟨E', _, q1.1, by rw [q2.2.1]; exact e2, by rw [q2.2.1]; exact e3, by rw [q2.1]; exact obV, fun _ => by rw [hsz]; exact e5 i3⟩,
    ⟨E', cfV, kV, iV, fV, q1.1, gV, stV, by rw [q2.1]; exact knV, by rw [q2.1]; exact obV, by rw [q2.2.1]; exact asV, q3⟩, ⟨E', cfC, kC, iC, fC, q1.1, gC, stC, by rw [q2.1]; exact knV, by rw [q2.1]; exact obV, by rw [q2.2.1]; exact asC, q4⟩,
    ⟨V', ⟨q5.1, State.isArrayOf_alike al'.symm q5.2.1, q5.2.2.1⟩, q6, by rw [← al'.findClass]; exact q7, q8, fun j hj => by have := q9 j hj; rwa [Nat.zero_add] at this⟩, fun O n d w F n1 n2 => ?_⟩, hl, hc, hs⟩, st⟩
  · intro y hy
    simp only [List.mem_cons, List.not_mem_nil, or_false] at hy
    rcases hy with rfl | rfl <;> rfl
  · by_cases q : y = x
    · subst q
      cases hD.symm.trans hy
      exact ⟨E', q1.1, q2.2.1, q2.1, hsz⟩
    · exact ⟨cy, q10 y cy q hy, rfl, rfl, rfl⟩
  · obtain ⟨D3, cf, k, i, f, g1, g2, g3, g4, g5, g6, g7⟩ := F
    cases hD.symm.trans g1
    simp only [RoadKit.slotOf, g2, gV, gC, Option.map_some, Option.getD_some] at n1 n2
    exact ⟨E', cf, k, i, f, q1.1, g2, g3, by rw [q2.1]; exact g4, by rw [q2.1]; exact g5, by rw [q2.2.1]; exact g6, by rw [q2.2.2 f.slot (by simp [n1, n2])]; exact g7⟩
end StrChars.Road
namespace StrChars.Road
open Jvm Sem ClassFile Op Lib Jvm.Stand Jvm.Free Jvm.Free.XT
/-- WHAT COMES BACK, the byte[] as a list of values -/
def QA (Z : State) (x : Addr) (zn : Int32) (cs : List Int32) (h : Heap) (v : Option Value) (h' : Heap) (L : List Loc) : Prop := v = none ∧ (∀ y ∈ L, y.base = x) ∧ RoadKit.Keep h h' [x] ∧ h'.size = h.size + 1 ∧ RoadKit.Exa Z h' x ST ∧ RoadKit.Fld Z h' x ST "value" "[B" (.ref h.size) ∧ RoadKit.Fld Z h' x ST "coder" "B" (.int 0) ∧
  (∃ kb, Z.vm.findClass "[B" = some kb ∧ RoadKit.Arv Z h' h.size kb .byte zn (cs.map fun c => .int (lo8 c)) (.int 0)) ∧
  ∀ (O n d : String) (w : Value), RoadKit.Fld Z h x O n d w → RoadKit.slotOf Z O n d ≠ RoadKit.slotOf Z ST "value" "[B" → RoadKit.slotOf Z O n d ≠ RoadKit.slotOf Z ST "coder" "B" → RoadKit.Fld Z h' x O n d w
/-- **new String(chars) AT A CALL, THE ARRAYS AS LISTS**: the char[] at b holds cs, not empty, no char above 255 -/
theorem backArv {p : Program} {l : Launch} {e : Env} {R : Room} {s : State} {args : Array Value} {below : List Frame} {len W : Nat} {Z : State} {a0 : Array Value} {h : Heap} (hZ : Z.Warmed39 s.vm) (hw : ∀ d ∈ words, d.before a0 Z = true) {kI : Nat} (wi : (Jvm.Cond.instantiable ST kI).before a0 Z = true)
    {x b : Addr} {k : ClassId} {zn z : Int32} {cs : List Int32} {dv v0 c0 : Value} (E : RoadKit.Exa Z h x ST) (V : RoadKit.Fld Z h x ST "value" "[B" v0) (C : RoadKit.Fld Z h x ST "coder" "B" c0) (K : RoadKit.Arv Z h b k .char zn (cs.map Value.int) dv) (S : RoadKit.Sta Z h ST "COMPACT_STRINGS" "Z" (.int z)) (hz : ¬ z = 0)
    (hlen : zn.toNatClampNeg = cs.length) (h0 : 0 < cs.length) (hbig : cs.length ≤ 536870912) (hall : ∀ c ∈ cs, ¬ 255 < c) (hfr : 4 ≤ R.frames) (hlo : W + 65 ≤ R.locals) :
    Back l R p e below s args New1.yN len W (fun P a => a = #[.ref x, .ref b] ∧ P.U.heap = h ∧ P.cells + 1 ≤ R.cells ∧ P.slots + cs.length ≤ R.slots)
      (fun P _ v B => ∃ L, QA Z x zn cs h v B.U.heap L ∧ B.locs = P.locs ++ L ∧ B.cells = P.cells + 1 ∧ B.slots = P.slots + cs.length) := by
  obtain ⟨A, K1, K2, K3, K4, K5, K6⟩ := K
  have e : A.slots.size = cs.length := K3.trans hlen
  have hat : ∀ (i : Nat) (hi : i < cs.length), A.slots[i]? = some (.int cs[i]) := fun i hi => by rw [K5 i (by omega)]; simp [List.getD_eq_getElem?_getD, hi]
  have hcv : ∀ (i : Nat) (hi : i < cs.length), cv A i = cs[i] := fun i hi => by unfold cv; rw [hat i hi]
  have hty : Typed .char A := fun i v hv => by
    have hi : i < A.slots.size := (Array.getElem?_eq_some_iff.mp hv).1
    have q := K5 i hi
    rw [hv] at q
    rw [Option.some.inj q]
    exact K6 i hi
  refine Back.mono (back hZ hw wi E V C K1 hty S hz (by omega) (by omega) (fun i hi => by rw [hcv i (by omega)]; exact hall _ (List.getElem_mem _)) hfr hlo) (fun P a hp => ⟨hp.1, hp.2.1, hp.2.2.1, by rw [e]; exact hp.2.2.2⟩) (fun P a v B hp hq => ?_)
  obtain ⟨L, ⟨q1, q2, q3, q4, q5, q6, q7, ⟨V', v1, v2, v3, v4, v5⟩, q9⟩, hl, hc, hs⟩ := hq
  refine ⟨L, ⟨q1, q2, q3, q4, q5, q6, q7, ⟨V'.cls, v3, V', v1, rfl, by rw [v4, e, hlen], K4, fun i hi => ?_, fun i hi => ?_⟩, q9⟩, hl, hc, by rw [hs, e]⟩
  · have hi' : i < cs.length := by omega
    rw [v5 i (by omega), hcv i hi']; simp [List.getD_eq_getElem?_getD, hi']
  · have hi' : i < cs.length := by omega
    simp only [List.getD_eq_getElem?_getD, List.getElem?_map, List.getElem?_eq_getElem hi', Option.map_some, Option.getD_some]
    exact fits_lo8 _
end StrChars.Road
namespace StrChars.Road
open Jvm Sem ClassFile Op Lib Jvm.Stand Jvm.Free Jvm.Free.XT
/-- WHAT COMES BACK, in the writer's own shape -/
def QV (Z : State) (x : Addr) (N : Int32) (bs : List Int32) (h : Heap) (n0 : Nat) (v : Option Value) (h' : Heap) (L : List Loc) : Prop := v = none ∧ RoadKit.Fr n0 L ∧ RoadKit.Keep h h' [x] ∧ RoadKit.Exa Z h' x ST ∧ RoadKit.Fld Z h' x ST "coder" "B" (.int 0) ∧
  ∃ (t : Addr) (kb : ClassId), n0 ≤ t ∧ h.size ≤ t ∧ ¬ t = x ∧ RoadKit.Fld Z h' x ST "value" "[B" (.ref t) ∧ RoadKit.Arv Z h' t kb .byte N (bs.map Value.int) (.int 0)
/-- **new String(chars) AT A CALL, FOR THE WRITER**: a char[] of n known ints, each 0 to 255 -/
theorem backV {p : Program} {l : Launch} {e : Env} {R : Room} {s : State} {args : Array Value} {below : List Frame} {len W : Nat} {Z : State} {a0 : Array Value} {h : Heap} (hZ : Z.Warmed39 s.vm) (hw : ∀ d ∈ words, d.before a0 Z = true) {kI : Nat} (wi : (Jvm.Cond.instantiable ST kI).before a0 Z = true)
    {x b : Addr} {kC : ClassId} {cs bs : List Int32} {d v0 c0 : Value} {z N : Int32} {n n0 : Nat} (hx0 : n0 ≤ x) (hh0 : n0 ≤ h.size) (E : RoadKit.Exa Z h x ST) (V : RoadKit.Fld Z h x ST "value" "[B" v0) (C : RoadKit.Fld Z h x ST "coder" "B" c0) (K : RoadKit.Arv Z h b kC .char N (cs.map Value.int) d) (S : RoadKit.Sta Z h ST "COMPACT_STRINGS" "Z" (.int z)) (hz : ¬ z = 0)
    (hn : cs.length = n) (hN : N = Int32.ofNat n) (l0 : 0 < n) (l2 : n ≤ 4000) (hp : ∀ c ∈ cs, ¬ c < 0 ∧ ¬ (255 : Int32) < c) (hb : bs = cs.map (fun c => c.toInt8.toInt32)) (hfr : 4 ≤ R.frames) (hlo : W + 65 ≤ R.locals) :
    Back l R p e below s args (⟨"java/lang/String", "<init>", "([C)V"⟩ : MethodName) len W (fun P a => a = #[.ref x, .ref b] ∧ P.U.heap = h ∧ P.cells + 1 ≤ R.cells ∧ P.slots + n ≤ R.slots)
      (fun P _ v B => ∃ L, QV Z x N bs h n0 v B.U.heap L ∧ B.locs = P.locs ++ L ∧ B.cells = P.cells + 1 ∧ B.slots = P.slots + n) := by
  subst hn hN hb
  refine Back.mono (backArv hZ hw wi E V C K S hz (n32 (by omega)) l0 (by omega) (fun c hc => (hp c hc).2) hfr hlo) (fun P a hp => hp) (fun P a v B hp hq => ?_)
  obtain ⟨L, ⟨q1, q2, q3, q4, q5, q6, q7, ⟨kb, v1, v2⟩, q9⟩, hl, hc, hs⟩ := hq
  exact ⟨L, ⟨q1, fun y hy => by rw [q2 y hy]; exact hx0, q3, q5, q7, h.size, kb, hh0, Nat.le_refl _, Nat.ne_of_gt E.lt, q6, by rw [List.map_map]; exact v2⟩, hl, hc, hs⟩
end StrChars.Road
end Jvm.Pilot.@@N@@

namespace Jvm.Pilot.@@N@@
open Jvm Jvm.ClassFile Sem Op Lib Jvm.Free Jvm.Stand Jvm.LawKit Jvm.RoadKit Bundle Jvm.Pilot.@@N@@.Jvm.D
def own_EL : List (String × Nat) := [("io/quintet/AlphabetContainsPinLaw", 7)]
theorem own_sAt : ∀ a ∈ Bundle.stringAtoms, a ∈ tables_1 := by decide +kernel
theorem own_wS {Z : State} {a0 : Array Value} (hw : ∀ d ∈ tables_1, d.before a0 Z = true) : ∀ a ∈ Bundle.stringAtoms, a.before a0 Z = true := fun a ha => hw a (own_sAt a ha)
theorem own_hEL {Z : State} {a0 : Array Value} (hw : ∀ d ∈ tables_1, d.before a0 Z = true) : EW Z a0 own_EL := (EW.cons (hw _ (List.mem_of_getElem? (i := 0) rfl)) (by decide) EW.nil)
theorem own_sh0 (z : Int32) : (z >>> ((0 : Int32) &&& 31)) = z := by
  apply Int32.toBitVec_inj.mp
  show BitVec.sshiftRight _ _ = _
  simp
theorem own_ws {Z : State} {a0 : Array Value} (hw : ∀ d ∈ tables_1, d.before a0 Z = true) : ∀ d ∈ StrChars.Road.words, d.before a0 Z = true := fun d hd => hw d ((by decide +kernel : ∀ d ∈ StrChars.Road.words, d ∈ tables_1) d hd)
theorem own_ofNat {n : Nat} (h : n < 2 ^ 31) : (Int32.ofNat n).toInt = n := Int32.toInt_ofNat_small h
theorem own_nlt {i n : Nat} (h : i = n) : ¬ (Int32.ofNat i < Int32.ofNat n) := by rw [h, Int32.lt_iff_toInt_lt]; omega
theorem own_lt {i n : Nat} (h : i < n) (hn : n < 2 ^ 31) : Int32.ofNat i < Int32.ofNat n := by rw [Int32.lt_iff_toInt_lt, own_ofNat hn, own_ofNat (Nat.lt_trans h hn)]; omega
theorem own_fnc {Z : State} {h : Heap} {a : Addr} {ty : FieldType} {n : Nat} {f g : Nat → Int32} (F : OwnFn Z h a ty n f) (e : ∀ j, j < n → f j = g j) : OwnFn Z h a ty n g := by
  obtain ⟨c, A, S, H⟩ := F
  exact ⟨c, A, S, fun j hj => by rw [H j hj, e j hj]⟩
theorem own_step_fn {i j : Nat} {x : Int32} : (if j = i then x else if j < i then x else (0 : Int32)) = if j < i + 1 then x else 0 := by
  by_cases h : j = i
  · rw [if_pos h, if_pos (by omega)]
  · rw [if_neg h]
    by_cases q : j < i
    · rw [if_pos q, if_pos (by omega)]
    · rw [if_neg q, if_neg (by omega)]
def own_asc (c : Int32) : Prop := ¬ c < (0 : Int32) ∧ c < (128 : Int32)
theorem own_asc_f {P : Int32 → Prop} (t : ∀ k : Fin 128, P (Int32.ofNat k.1)) {c : Int32} (h : own_asc c) : P c := by
  obtain ⟨h1, h2⟩ := h
  rw [Int32.lt_iff_toInt_lt] at h1 h2
  have e0 : (0 : Int32).toInt = 0 := by decide
  have e1 : (128 : Int32).toInt = 128 := by decide
  have e : c = Int32.ofNat c.toInt.toNat := by
    apply Int32.toInt_inj.mp
    rw [own_ofNat (by omega)]; omega
  rw [e]
  exact t ⟨c.toInt.toNat, by omega⟩
theorem own_a8 {c : Int32} (h : own_asc c) : c.toInt8.toInt32 = c := own_asc_f (P := fun c => c.toInt8.toInt32 = c) (by decide +kernel) h
theorem own_ach {c : Int32} (h : own_asc c) : (c &&& (255 : Int32)).toUInt32.toUInt16.toUInt32.toInt32 = c := own_asc_f (P := fun c => (c &&& (255 : Int32)).toUInt32.toUInt16.toUInt32.toInt32 = c) (by decide +kernel) h
theorem own_anc {c : Int32} (h : own_asc c) : nar .char c = c := own_asc_f (P := fun c => nar .char c = c) (by decide +kernel) h
theorem own_al {c : Int32} (h : own_asc c) : ¬ c < 0 ∧ ¬ (255 : Int32) < c := ⟨h.1, own_asc_f (P := fun c => ¬ (255 : Int32) < c) (by decide +kernel) h⟩
theorem own_c128 {c : Int32} (h1 : ¬ c < (0 : Int32)) (h2 : c < (128 : Int32)) : c.toNatClampNeg < 128 := own_asc_f (P := fun c => c.toNatClampNeg < 128) (by decide +kernel) ⟨h1, h2⟩
theorem own_ain {c : Int32} (h : own_asc c) : ¬ (c < 0 ∨ 128 ≤ c.toNatClampNeg) := fun q => q.elim h.1 (fun q => absurd (own_c128 h.1 h.2) (Nat.not_lt.mpr q))
theorem own_mk (p : Int32) : own_asc ((p &&& (127 : Int32)).toUInt32.toUInt16.toUInt32.toInt32) := by
  have h1 := c_and p 127 (by decide)
  have h2 := c_i2c (p &&& 127)
  have e1 : (127 : Int32).toInt = 127 := by decide
  constructor
  · rw [Int32.lt_iff_toInt_lt]; have e0 : (0 : Int32).toInt = 0 := by decide
    omega
  · rw [Int32.lt_iff_toInt_lt]; have e0 : (128 : Int32).toInt = 128 := by decide
    omega
theorem own_c0 (p : Int32) : ¬ (p.toUInt32.toUInt16.toUInt32.toInt32) < (0 : Int32) := by
  have h2 := c_i2c p
  rw [Int32.lt_iff_toInt_lt]; have e0 : (0 : Int32).toInt = 0 := by decide
  omega
theorem own_m4 (p n : Int32) (h : n = (p &&& (3 : Int32))) : n = (0 : Int32) ∨ n = (1 : Int32) ∨ n = (2 : Int32) ∨ n = (3 : Int32) := by
  have h1 := c_and p 3 (by decide)
  rw [← h] at h1
  simp only [← Int32.toInt_inj]
  have e0 : (0 : Int32).toInt = 0 := by decide
  have e1 : (1 : Int32).toInt = 1 := by decide
  have e2 : (2 : Int32).toInt = 2 := by decide
  have e3 : (3 : Int32).toInt = 3 := by decide
  rw [e3] at h1
  rw [e0, e1, e2, e3]
  omega
def own_tab : List (Int32 × Int32) → Nat → Int32
  | [], _ => -1
  | (c, i) :: r, j => if j = c.toNatClampNeg then i else own_tab r j
theorem own_tabY {l : List (Int32 × Int32)} {c c' i : Int32} (hm : (c', i) ∈ l) (he : c = c') (hi : ∀ q ∈ l, ¬ q.2 = (-1 : Int32)) : ¬ own_tab l c.toNatClampNeg = (-1 : Int32) := by
  subst he
  induction l with
  | nil => cases hm
  | cons q r ih =>
    obtain ⟨d, k⟩ := q
    show ¬ (if c.toNatClampNeg = d.toNatClampNeg then k else own_tab r c.toNatClampNeg) = -1
    by_cases h : c.toNatClampNeg = d.toNatClampNeg
    · rw [if_pos h]; exact hi (d, k) (List.mem_cons_self ..)
    · rw [if_neg h]
      rcases List.mem_cons.mp hm with e | e
      · cases e; exact absurd rfl h
      · exact ih (fun q hq => hi q (List.mem_cons_of_mem _ hq)) e
def own_neg (l : List Int32) : Prop := ∀ k ∈ l, ¬ k = (-1 : Int32)
instance {l : List Int32} : Decidable (own_neg l) := inferInstanceAs (Decidable (∀ k ∈ l, ¬ k = (-1 : Int32)))
theorem own_tabI {l : List (Int32 × Int32)} {js : List Int32} (e : l.map (·.2) = js) (h : own_neg js) : ∀ q ∈ l, ¬ q.2 = (-1 : Int32) := fun q hq => h _ (e ▸ List.mem_map.mpr ⟨q, hq, rfl⟩)
theorem own_nil {c : Int32} : ∀ q ∈ ([] : List (Int32 × Int32)), ¬ q.1 < (0 : Int32) ∧ ¬ c = q.1 := fun _ q => nomatch q
theorem own_cons {c d k : Int32} {l : List (Int32 × Int32)} (h0 : ¬ d < (0 : Int32)) (h1 : ¬ c = d) (r : ∀ q ∈ l, ¬ q.1 < (0 : Int32) ∧ ¬ c = q.1) : ∀ q ∈ (d, k) :: l, ¬ q.1 < (0 : Int32) ∧ ¬ c = q.1 := fun q hq => by
  rcases List.mem_cons.mp hq with rfl | e
  · exact ⟨h0, h1⟩
  · exact r q e
theorem own_natinj {c d : Int32} (h0 : ¬ c < (0 : Int32)) (h1 : ¬ d < (0 : Int32)) (h : c.toNatClampNeg = d.toNatClampNeg) : c = d := by
  rw [Int32.lt_iff_toInt_lt] at h0 h1
  have e0 : (0 : Int32).toInt = 0 := by decide
  apply Int32.toInt_inj.mp
  have h : c.toInt.toNat = d.toInt.toNat := h
  omega
theorem own_tabN {l : List (Int32 × Int32)} {c : Int32} (h0 : ¬ c < (0 : Int32)) (h : ∀ q ∈ l, ¬ q.1 < (0 : Int32) ∧ ¬ c = q.1) : own_tab l c.toNatClampNeg = (-1 : Int32) := by
  induction l with
  | nil => rfl
  | cons q r ih =>
    obtain ⟨d, k⟩ := q
    have hd := h (d, k) (List.mem_cons_self ..)
    show (if c.toNatClampNeg = d.toNatClampNeg then k else own_tab r c.toNatClampNeg) = -1
    rw [if_neg (fun e => hd.2 (own_natinj h0 hd.1 e))]
    exact ih (fun q hq => h q (List.mem_cons_of_mem _ hq))
theorem d1_0 : decode prog_1_method_1_code 0 = .ok (.aload_n 0, 1) := by decide +kernel
theorem d1_1 : decode prog_1_method_1_code 1 = .ok (.invokespecial 1, 3) := by decide +kernel
theorem d1_4 : decode prog_1_method_1_code 4 = .ok (.aload_n 0, 1) := by decide +kernel
theorem d1_5 : decode prog_1_method_1_code 5 = .ok (.sipush 128, 3) := by decide +kernel
theorem d1_8 : decode prog_1_method_1_code 8 = .ok (.newarray .byte, 2) := by decide +kernel
theorem d1_10 : decode prog_1_method_1_code 10 = .ok (.putfield 7, 3) := by decide +kernel
theorem d1_13 : decode prog_1_method_1_code 13 = .ok (.aload_n 0, 1) := by decide +kernel
theorem d1_14 : decode prog_1_method_1_code 14 = .ok (.iload_n 1, 1) := by decide +kernel
theorem d1_15 : decode prog_1_method_1_code 15 = .ok (.putfield 13, 3) := by decide +kernel
theorem d1_18 : decode prog_1_method_1_code 18 = .ok (.aload_n 0, 1) := by decide +kernel
theorem d1_19 : decode prog_1_method_1_code 19 = .ok (.aload_n 2, 1) := by decide +kernel
theorem d1_20 : decode prog_1_method_1_code 20 = .ok (.putfield 17, 3) := by decide +kernel
theorem d1_23 : decode prog_1_method_1_code 23 = .ok (.aload_n 0, 1) := by decide +kernel
theorem d1_24 : decode prog_1_method_1_code 24 = .ok (.getfield 7, 3) := by decide +kernel
theorem d1_27 : decode prog_1_method_1_code 27 = .ok (.iconst (-1), 1) := by decide +kernel
theorem d1_28 : decode prog_1_method_1_code 28 = .ok (.invokestatic 21, 3) := by decide +kernel
theorem d1_31 : decode prog_1_method_1_code 31 = .ok (.iconst 0, 1) := by decide +kernel
theorem d1_32 : decode prog_1_method_1_code 32 = .ok (.istore_n 3, 1) := by decide +kernel
theorem d1_33 : decode prog_1_method_1_code 33 = .ok (.iload_n 3, 1) := by decide +kernel
theorem d1_34 : decode prog_1_method_1_code 34 = .ok (.aload_n 2, 1) := by decide +kernel
theorem d1_35 : decode prog_1_method_1_code 35 = .ok (.invokevirtual 27, 3) := by decide +kernel
theorem d1_38 : decode prog_1_method_1_code 38 = .ok (.if_icmp .ge 21, 3) := by decide +kernel
theorem d1_41 : decode prog_1_method_1_code 41 = .ok (.aload_n 0, 1) := by decide +kernel
theorem d1_42 : decode prog_1_method_1_code 42 = .ok (.getfield 7, 3) := by decide +kernel
theorem d1_45 : decode prog_1_method_1_code 45 = .ok (.aload_n 2, 1) := by decide +kernel
theorem d1_46 : decode prog_1_method_1_code 46 = .ok (.iload_n 3, 1) := by decide +kernel
theorem d1_47 : decode prog_1_method_1_code 47 = .ok (.invokevirtual 33, 3) := by decide +kernel
theorem d1_50 : decode prog_1_method_1_code 50 = .ok (.iload_n 3, 1) := by decide +kernel
theorem d1_51 : decode prog_1_method_1_code 51 = .ok (.i2b, 1) := by decide +kernel
theorem d1_52 : decode prog_1_method_1_code 52 = .ok (.bastore, 1) := by decide +kernel
theorem d1_53 : decode prog_1_method_1_code 53 = .ok (.iinc 3 1, 3) := by decide +kernel
theorem d1_56 : decode prog_1_method_1_code 56 = .ok (.goto (-23), 3) := by decide +kernel
theorem d1_59 : decode prog_1_method_1_code 59 = .ok (.return_, 1) := by decide +kernel
theorem d3_0 : decode jdk_65_method_109_code 0 = .ok (.iconst 0, 1) := by decide +kernel
theorem d3_1 : decode jdk_65_method_109_code 1 = .ok (.istore_n 2, 1) := by decide +kernel
theorem d3_2 : decode jdk_65_method_109_code 2 = .ok (.aload_n 0, 1) := by decide +kernel
theorem d3_3 : decode jdk_65_method_109_code 3 = .ok (.arraylength, 1) := by decide +kernel
theorem d3_4 : decode jdk_65_method_109_code 4 = .ok (.istore_n 3, 1) := by decide +kernel
theorem d3_5 : decode jdk_65_method_109_code 5 = .ok (.iload_n 2, 1) := by decide +kernel
theorem d3_6 : decode jdk_65_method_109_code 6 = .ok (.iload_n 3, 1) := by decide +kernel
theorem d3_7 : decode jdk_65_method_109_code 7 = .ok (.if_icmp .ge 13, 3) := by decide +kernel
theorem d3_10 : decode jdk_65_method_109_code 10 = .ok (.aload_n 0, 1) := by decide +kernel
theorem d3_11 : decode jdk_65_method_109_code 11 = .ok (.iload_n 2, 1) := by decide +kernel
theorem d3_12 : decode jdk_65_method_109_code 12 = .ok (.iload_n 1, 1) := by decide +kernel
theorem d3_13 : decode jdk_65_method_109_code 13 = .ok (.bastore, 1) := by decide +kernel
theorem d3_14 : decode jdk_65_method_109_code 14 = .ok (.iinc 2 1, 3) := by decide +kernel
theorem d3_17 : decode jdk_65_method_109_code 17 = .ok (.goto (-12), 3) := by decide +kernel
theorem d3_20 : decode jdk_65_method_109_code 20 = .ok (.return_, 1) := by decide +kernel
theorem d4_0 : decode jdk_42_method_54_code 0 = .ok (.aload_n 0, 1) := by decide +kernel
theorem d4_1 : decode jdk_42_method_54_code 1 = .ok (.getfield 9, 3) := by decide +kernel
theorem d4_4 : decode jdk_42_method_54_code 4 = .ok (.arraylength, 1) := by decide +kernel
theorem d4_5 : decode jdk_42_method_54_code 5 = .ok (.aload_n 0, 1) := by decide +kernel
theorem d4_6 : decode jdk_42_method_54_code 6 = .ok (.invokevirtual 335, 3) := by decide +kernel
theorem d4_9 : decode jdk_42_method_54_code 9 = .ok (.ishr, 1) := by decide +kernel
theorem d4_10 : decode jdk_42_method_54_code 10 = .ok (.ireturn, 1) := by decide +kernel
theorem d5_0 : decode jdk_42_method_152_code 0 = .ok (.getstatic 38, 3) := by decide +kernel
theorem d5_3 : decode jdk_42_method_152_code 3 = .ok (.ifCond .eq 10, 3) := by decide +kernel
theorem d5_6 : decode jdk_42_method_152_code 6 = .ok (.aload_n 0, 1) := by decide +kernel
theorem d5_7 : decode jdk_42_method_152_code 7 = .ok (.getfield 15, 3) := by decide +kernel
theorem d5_10 : decode jdk_42_method_152_code 10 = .ok (.goto 4, 3) := by decide +kernel
theorem d5_14 : decode jdk_42_method_152_code 14 = .ok (.ireturn, 1) := by decide +kernel
theorem d6_0 : decode prog_1_method_3_code 0 = .ok (.iload_n 1, 1) := by decide +kernel
theorem d6_1 : decode prog_1_method_3_code 1 = .ok (.aload_n 0, 1) := by decide +kernel
theorem d6_2 : decode prog_1_method_3_code 2 = .ok (.getfield 7, 3) := by decide +kernel
theorem d6_5 : decode prog_1_method_3_code 5 = .ok (.arraylength, 1) := by decide +kernel
theorem d6_6 : decode prog_1_method_3_code 6 = .ok (.if_icmp .ge 17, 3) := by decide +kernel
theorem d6_9 : decode prog_1_method_3_code 9 = .ok (.aload_n 0, 1) := by decide +kernel
theorem d6_10 : decode prog_1_method_3_code 10 = .ok (.getfield 7, 3) := by decide +kernel
theorem d6_13 : decode prog_1_method_3_code 13 = .ok (.iload_n 1, 1) := by decide +kernel
theorem d6_14 : decode prog_1_method_3_code 14 = .ok (.baload, 1) := by decide +kernel
theorem d6_15 : decode prog_1_method_3_code 15 = .ok (.iconst (-1), 1) := by decide +kernel
theorem d6_16 : decode prog_1_method_3_code 16 = .ok (.if_icmp .eq 7, 3) := by decide +kernel
theorem d6_19 : decode prog_1_method_3_code 19 = .ok (.iconst 1, 1) := by decide +kernel
theorem d6_20 : decode prog_1_method_3_code 20 = .ok (.goto 4, 3) := by decide +kernel
theorem d6_23 : decode prog_1_method_3_code 23 = .ok (.iconst 0, 1) := by decide +kernel
theorem d6_24 : decode prog_1_method_3_code 24 = .ok (.ireturn, 1) := by decide +kernel
theorem d7_0 : decode jdk_42_method_139_code 0 = .ok (.getstatic 38, 3) := by decide +kernel
theorem d7_3 : decode jdk_42_method_139_code 3 = .ok (.ifCond .eq 23, 3) := by decide +kernel
theorem d7_6 : decode jdk_42_method_139_code 6 = .ok (.iload_n 0, 1) := by decide +kernel
theorem d7_7 : decode jdk_42_method_139_code 7 = .ok (.invokestatic 1015, 3) := by decide +kernel
theorem d7_10 : decode jdk_42_method_139_code 10 = .ok (.ifCond .eq 16, 3) := by decide +kernel
theorem d7_13 : decode jdk_42_method_139_code 13 = .ok (.new 10, 3) := by decide +kernel
theorem d7_16 : decode jdk_42_method_139_code 16 = .ok (.dup, 1) := by decide +kernel
theorem d7_17 : decode jdk_42_method_139_code 17 = .ok (.iload_n 0, 1) := by decide +kernel
theorem d7_18 : decode jdk_42_method_139_code 18 = .ok (.invokestatic 1018, 3) := by decide +kernel
theorem d7_21 : decode jdk_42_method_139_code 21 = .ok (.iconst 0, 1) := by decide +kernel
theorem d7_22 : decode jdk_42_method_139_code 22 = .ok (.invokespecial 209, 3) := by decide +kernel
theorem d7_25 : decode jdk_42_method_139_code 25 = .ok (.areturn, 1) := by decide +kernel
theorem d8_0 : decode jdk_43_method_3_code 0 = .ok (.iload_n 0, 1) := by decide +kernel
theorem d8_1 : decode jdk_43_method_3_code 1 = .ok (.sipush 255, 3) := by decide +kernel
theorem d8_4 : decode jdk_43_method_3_code 4 = .ok (.if_icmp .gt 7, 3) := by decide +kernel
theorem d8_7 : decode jdk_43_method_3_code 7 = .ok (.iconst 1, 1) := by decide +kernel
theorem d8_8 : decode jdk_43_method_3_code 8 = .ok (.goto 4, 3) := by decide +kernel
theorem d8_12 : decode jdk_43_method_3_code 12 = .ok (.ireturn, 1) := by decide +kernel
theorem d9_0 : decode jdk_43_method_46_code 0 = .ok (.iconst 1, 1) := by decide +kernel
theorem d9_1 : decode jdk_43_method_46_code 1 = .ok (.newarray .byte, 2) := by decide +kernel
theorem d9_3 : decode jdk_43_method_46_code 3 = .ok (.dup, 1) := by decide +kernel
theorem d9_4 : decode jdk_43_method_46_code 4 = .ok (.iconst 0, 1) := by decide +kernel
theorem d9_5 : decode jdk_43_method_46_code 5 = .ok (.iload_n 0, 1) := by decide +kernel
theorem d9_6 : decode jdk_43_method_46_code 6 = .ok (.i2b, 1) := by decide +kernel
theorem d9_7 : decode jdk_43_method_46_code 7 = .ok (.bastore, 1) := by decide +kernel
theorem d9_8 : decode jdk_43_method_46_code 8 = .ok (.areturn, 1) := by decide +kernel
theorem d10_0 : decode jdk_42_method_151_code 0 = .ok (.aload_n 0, 1) := by decide +kernel
theorem d10_1 : decode jdk_42_method_151_code 1 = .ok (.invokespecial 1, 3) := by decide +kernel
theorem d10_4 : decode jdk_42_method_151_code 4 = .ok (.aload_n 0, 1) := by decide +kernel
theorem d10_5 : decode jdk_42_method_151_code 5 = .ok (.aload_n 1, 1) := by decide +kernel
theorem d10_6 : decode jdk_42_method_151_code 6 = .ok (.putfield 9, 3) := by decide +kernel
theorem d10_9 : decode jdk_42_method_151_code 9 = .ok (.aload_n 0, 1) := by decide +kernel
theorem d10_10 : decode jdk_42_method_151_code 10 = .ok (.iload_n 2, 1) := by decide +kernel
theorem d10_11 : decode jdk_42_method_151_code 11 = .ok (.putfield 15, 3) := by decide +kernel
theorem d10_14 : decode jdk_42_method_151_code 14 = .ok (.return_, 1) := by decide +kernel
theorem d11_0 : decode jdk_42_method_56_code 0 = .ok (.aload_n 0, 1) := by decide +kernel
theorem d11_1 : decode jdk_42_method_56_code 1 = .ok (.invokevirtual 492, 3) := by decide +kernel
theorem d11_4 : decode jdk_42_method_56_code 4 = .ok (.ifCond .eq 12, 3) := by decide +kernel
theorem d11_7 : decode jdk_42_method_56_code 7 = .ok (.aload_n 0, 1) := by decide +kernel
theorem d11_8 : decode jdk_42_method_56_code 8 = .ok (.getfield 9, 3) := by decide +kernel
theorem d11_11 : decode jdk_42_method_56_code 11 = .ok (.iload_n 1, 1) := by decide +kernel
theorem d11_12 : decode jdk_42_method_56_code 12 = .ok (.invokestatic 495, 3) := by decide +kernel
theorem d11_15 : decode jdk_42_method_56_code 15 = .ok (.ireturn, 1) := by decide +kernel
theorem d12_0 : decode jdk_42_method_154_code 0 = .ok (.getstatic 38, 3) := by decide +kernel
theorem d12_3 : decode jdk_42_method_154_code 3 = .ok (.ifCond .eq 14, 3) := by decide +kernel
theorem d12_6 : decode jdk_42_method_154_code 6 = .ok (.aload_n 0, 1) := by decide +kernel
theorem d12_7 : decode jdk_42_method_154_code 7 = .ok (.getfield 15, 3) := by decide +kernel
theorem d12_10 : decode jdk_42_method_154_code 10 = .ok (.ifCond .ne 7, 3) := by decide +kernel
theorem d12_13 : decode jdk_42_method_154_code 13 = .ok (.iconst 1, 1) := by decide +kernel
theorem d12_14 : decode jdk_42_method_154_code 14 = .ok (.goto 4, 3) := by decide +kernel
theorem d12_18 : decode jdk_42_method_154_code 18 = .ok (.ireturn, 1) := by decide +kernel
theorem d13_0 : decode jdk_43_method_2_code 0 = .ok (.iload_n 1, 1) := by decide +kernel
theorem d13_1 : decode jdk_43_method_2_code 1 = .ok (.aload_n 0, 1) := by decide +kernel
theorem d13_2 : decode jdk_43_method_2_code 2 = .ok (.arraylength, 1) := by decide +kernel
theorem d13_3 : decode jdk_43_method_2_code 3 = .ok (.invokestatic 9, 3) := by decide +kernel
theorem d13_6 : decode jdk_43_method_2_code 6 = .ok (.aload_n 0, 1) := by decide +kernel
theorem d13_7 : decode jdk_43_method_2_code 7 = .ok (.iload_n 1, 1) := by decide +kernel
theorem d13_8 : decode jdk_43_method_2_code 8 = .ok (.baload, 1) := by decide +kernel
theorem d13_9 : decode jdk_43_method_2_code 9 = .ok (.sipush 255, 3) := by decide +kernel
theorem d13_12 : decode jdk_43_method_2_code 12 = .ok (.iand, 1) := by decide +kernel
theorem d13_13 : decode jdk_43_method_2_code 13 = .ok (.i2c, 1) := by decide +kernel
theorem d13_14 : decode jdk_43_method_2_code 14 = .ok (.ireturn, 1) := by decide +kernel
theorem d14_0 : decode jdk_42_method_155_code 0 = .ok (.iload_n 0, 1) := by decide +kernel
theorem d14_1 : decode jdk_42_method_155_code 1 = .ok (.iload_n 1, 1) := by decide +kernel
theorem d14_2 : decode jdk_42_method_155_code 2 = .ok (.getstatic 1053, 3) := by decide +kernel
theorem d14_5 : decode jdk_42_method_155_code 5 = .ok (.invokestatic 1059, 3) := by decide +kernel
theorem d14_8 : decode jdk_42_method_155_code 8 = .ok (.pop, 1) := by decide +kernel
theorem d14_9 : decode jdk_42_method_155_code 9 = .ok (.return_, 1) := by decide +kernel
theorem d15_0 : decode jdk_41_method_11_code 0 = .ok (.iload_n 0, 1) := by decide +kernel
theorem d15_1 : decode jdk_41_method_11_code 1 = .ok (.ifCond .lt 8, 3) := by decide +kernel
theorem d15_4 : decode jdk_41_method_11_code 4 = .ok (.iload_n 0, 1) := by decide +kernel
theorem d15_5 : decode jdk_41_method_11_code 5 = .ok (.iload_n 1, 1) := by decide +kernel
theorem d15_6 : decode jdk_41_method_11_code 6 = .ok (.if_icmp .lt 10, 3) := by decide +kernel
theorem d15_16 : decode jdk_41_method_11_code 16 = .ok (.iload_n 0, 1) := by decide +kernel
theorem d15_17 : decode jdk_41_method_11_code 17 = .ok (.ireturn, 1) := by decide +kernel
theorem pd_0 : parseMethodDescriptor "()B" = some ⟨[], some .byte⟩ := by decide +kernel
theorem pd_1 : parseMethodDescriptor "(IILjava/util/function/BiFunction;)I" = some ⟨[.int, .int, (.object "java/util/function/BiFunction")], some .int⟩ := by decide +kernel
theorem pd_2 : parseMethodDescriptor "(II)V" = some ⟨[.int, .int], none⟩ := by decide +kernel
theorem pd_3 : parseMethodDescriptor "()Z" = some ⟨[], some .boolean⟩ := by decide +kernel
theorem pd_4 : parseMethodDescriptor "([BI)C" = some ⟨[(.array .byte), .int], some .char⟩ := by decide +kernel
theorem pd_5 : parseMethodDescriptor "(C)Z" = some ⟨[.char], some .boolean⟩ := by decide +kernel
theorem pd_6 : parseMethodDescriptor "(C)[B" = some ⟨[.char], some (.array .byte)⟩ := by decide +kernel
theorem pd_7 : parseMethodDescriptor "([BB)V" = some ⟨[(.array .byte), .byte], none⟩ := by decide +kernel
theorem pd_8 : parseMethodDescriptor "()I" = some ⟨[], some .int⟩ := by decide +kernel
theorem pd_9 : parseMethodDescriptor "(I)C" = some ⟨[.int], some .char⟩ := by decide +kernel
theorem pd_10 : parseMethodDescriptor "(ILjava/lang/String;)V" = some ⟨[.int, (.object "java/lang/String")], none⟩ := by decide +kernel
theorem pd_11 : parseMethodDescriptor "(C)Ljava/lang/String;" = some ⟨[.char], some (.object "java/lang/String")⟩ := by decide +kernel
theorem pd_12 : parseMethodDescriptor "([C)V" = some ⟨[(.array .char)], none⟩ := by decide +kernel
theorem pn_5 : plainName "java/lang/String" = true := by first | (simp [plainName, overriddenIn]; done) | decide +kernel
theorem pn_15 : plainName "jdk/internal/util/Preconditions" = true := by first | (simp [plainName, overriddenIn]; done) | decide +kernel
theorem pn_13 : plainName "java/lang/StringLatin1" = true := by first | (simp [plainName, overriddenIn]; done) | decide +kernel
theorem pn_3 : plainName "java/util/Arrays" = true := by first | (simp [plainName, overriddenIn]; done) | decide +kernel
theorem pn_6 : plainName "io/quintet/Alphabet" = true := by first | (simp [plainName, overriddenIn]; done) | decide +kernel
theorem pn_0 : plainName "io/quintet/AlphabetContainsPinLaw" = true := by first | (simp [plainName, overriddenIn]; done) | decide +kernel
theorem ef_coder (m : MethodId) (x0 : Addr) : entryFrame m #[(.ref x0)] 1 = mkF m 0 #[.val (.ref x0)] [] := by first | (simp [entryFrame, mkF, argsToLocals, Value.category]; done) | rfl
theorem ef_length (m : MethodId) (x0 : Addr) : entryFrame m #[(.ref x0)] 1 = mkF m 0 #[.val (.ref x0)] [] := by first | (simp [entryFrame, mkF, argsToLocals, Value.category]; done) | rfl
theorem ef_pcheck (m : MethodId) (x0 : Int32) (x1 : Int32) (x2 : Value) (hx2 : x2.category = 1) : entryFrame m #[(.int x0), (.int x1), x2] 3 = mkF m 0 #[.val (.int x0), .val (.int x1), .val x2] [] := by cases x2 <;> first | (simp [Value.category] at hx2; done) | (first | (simp [entryFrame, mkF, argsToLocals, Value.category]; done) | rfl)
theorem ef_scheck (m : MethodId) (x0 : Int32) (x1 : Int32) : entryFrame m #[(.int x0), (.int x1)] 2 = mkF m 0 #[.val (.int x0), .val (.int x1)] [] := by first | (simp [entryFrame, mkF, argsToLocals, Value.category]; done) | rfl
theorem ef_isLatin1 (m : MethodId) (x0 : Addr) : entryFrame m #[(.ref x0)] 1 = mkF m 0 #[.val (.ref x0)] [] := by first | (simp [entryFrame, mkF, argsToLocals, Value.category]; done) | rfl
theorem ef_lcharAt (m : MethodId) (x0 : Addr) (x1 : Int32) : entryFrame m #[(.ref x0), (.int x1)] 2 = mkF m 0 #[.val (.ref x0), .val (.int x1)] [] := by first | (simp [entryFrame, mkF, argsToLocals, Value.category]; done) | rfl
theorem ef_charAt (m : MethodId) (x0 : Addr) (x1 : Int32) : entryFrame m #[(.ref x0), (.int x1)] 2 = mkF m 0 #[.val (.ref x0), .val (.int x1)] [] := by first | (simp [entryFrame, mkF, argsToLocals, Value.category]; done) | rfl
theorem ef_canEnc (m : MethodId) (x0 : Int32) : entryFrame m #[(.int x0)] 1 = mkF m 0 #[.val (.int x0)] [] := by first | (simp [entryFrame, mkF, argsToLocals, Value.category]; done) | rfl
theorem ef_toB1 (m : MethodId) (x0 : Int32) : entryFrame m #[(.int x0)] 1 = mkF m 0 #[.val (.int x0)] [] := by first | (simp [entryFrame, mkF, argsToLocals, Value.category]; done) | rfl
theorem ef_iniBB (m : MethodId) (x0 : Addr) (x1 : Addr) (x2 : Int32) : entryFrame m #[(.ref x0), (.ref x1), (.int x2)] 3 = mkF m 0 #[.val (.ref x0), .val (.ref x1), .val (.int x2)] [] := by first | (simp [entryFrame, mkF, argsToLocals, Value.category]; done) | rfl
theorem ef_valueOfC (m : MethodId) (x0 : Int32) : entryFrame m #[(.int x0)] 1 = mkF m 0 #[.val (.int x0)] [] := by first | (simp [entryFrame, mkF, argsToLocals, Value.category]; done) | rfl
theorem ef_fill (m : MethodId) (x0 : Addr) (x1 : Int32) : entryFrame m #[(.ref x0), (.int x1)] 4 = mkF m 0 #[.val (.ref x0), .val (.int x1), .unset, .unset] [] := by first | (simp [entryFrame, mkF, argsToLocals, Value.category]; done) | rfl
theorem ef_conY (m : MethodId) (x0 : Addr) (x1 : Int32) : entryFrame m #[(.ref x0), (.int x1)] 2 = mkF m 0 #[.val (.ref x0), .val (.int x1)] [] := by first | (simp [entryFrame, mkF, argsToLocals, Value.category]; done) | rfl
theorem ef_conN (m : MethodId) (x0 : Addr) (x1 : Int32) : entryFrame m #[(.ref x0), (.int x1)] 2 = mkF m 0 #[.val (.ref x0), .val (.int x1)] [] := by first | (simp [entryFrame, mkF, argsToLocals, Value.category]; done) | rfl
theorem ef_conB (m : MethodId) (x0 : Addr) (x1 : Int32) : entryFrame m #[(.ref x0), (.int x1)] 2 = mkF m 0 #[.val (.ref x0), .val (.int x1)] [] := by first | (simp [entryFrame, mkF, argsToLocals, Value.category]; done) | rfl
theorem ef_ini0 (m : MethodId) (x0 : Addr) (x1 : Int32) (x2 : Addr) : entryFrame m #[(.ref x0), (.int x1), (.ref x2)] 4 = mkF m 0 #[.val (.ref x0), .val (.int x1), .val (.ref x2), .unset] [] := by first | (simp [entryFrame, mkF, argsToLocals, Value.category]; done) | rfl
theorem ef_ini1 (m : MethodId) (x0 : Addr) (x1 : Int32) (x2 : Addr) : entryFrame m #[(.ref x0), (.int x1), (.ref x2)] 4 = mkF m 0 #[.val (.ref x0), .val (.int x1), .val (.ref x2), .unset] [] := by first | (simp [entryFrame, mkF, argsToLocals, Value.category]; done) | rfl
theorem ef_ini2 (m : MethodId) (x0 : Addr) (x1 : Int32) (x2 : Addr) : entryFrame m #[(.ref x0), (.int x1), (.ref x2)] 4 = mkF m 0 #[.val (.ref x0), .val (.int x1), .val (.ref x2), .unset] [] := by first | (simp [entryFrame, mkF, argsToLocals, Value.category]; done) | rfl
theorem ef_ini3 (m : MethodId) (x0 : Addr) (x1 : Int32) (x2 : Addr) : entryFrame m #[(.ref x0), (.int x1), (.ref x2)] 4 = mkF m 0 #[.val (.ref x0), .val (.int x1), .val (.ref x2), .unset] [] := by first | (simp [entryFrame, mkF, argsToLocals, Value.category]; done) | rfl
theorem ef_0 (m : MethodId) (x0 : Int32) (x1 : Int32) (x2 : Int32) (x3 : Int32) (x4 : Int32) (x5 : Int32) : entryFrame m #[(.int x0), (.int x1), (.int x2), (.int x3), (.int x4), (.int x5)] maxLocals = mkF m 0 #[.val (.int x0), .val (.int x1), .val (.int x2), .val (.int x3), .val (.int x4), .val (.int x5), .unset, .unset, .unset, .unset, .unset, .unset, .unset, .unset, .unset] [] := by first | (simp [entryFrame, mkF, argsToLocals, Value.category, maxLocals]; done) | rfl
def Qcoder (Z : State) (a : Addr) (zc : Int32) (h0 : Heap) (n0 : Nat) (v : Option Value) (h : Heap) (L : List Loc) : Prop := v = some (.int (0 : Int32)) ∧ Fr n0 L ∧ h = h0
set_option maxRecDepth 65536 in
set_option maxHeartbeats 40000000 in
theorem rmcoder (l : Launch) (Z : State) (a0 : Array Value) (hw : ∀ d ∈ tables_1, d.before a0 Z = true) (ws : List Jvm.Cond) (a : Addr) (zc : Int32) (h0 : Heap) (n0 : Nat) (Z0 : n0 ≤ h0.size) (O_ : Old Z n0 h0) (S_CS : Sta Z Z.heap "java/lang/String" "COMPACT_STRINGS" "Z" (.int zc)) (P_CS : ¬ zc = (0 : Int32)) (Fc : Fld Z h0 a "java/lang/String" "coder" "B" (.int (0 : Int32))) :
    MetFree l (⟨"java/lang/String", "coder", "()B"⟩ : MethodName) (head1 (Jvm.Cond.code (⟨"java/lang/String", "coder", "()B"⟩ : MethodName) jdk_42_method_152_code 1 (some .byte) :: ws) ({ frames := 0, cells := 0, slots := 0, locals := 0 } : Room)) (fun as_ UU => as_ = #[(.ref a)] ∧ Z.Warmed39 UU.vm ∧ UU.heap = h0) (fun _ _ _ _ _ => True) (fun _ UU oo UU' => ∃ vv LL, oo = .returned vv ∧ (Qcoder Z a zc h0 n0) vv UU'.heap LL ∧ FrameEnd UU oo UU' LL ({ frames := 0, cells := 0, slots := 0, locals := 0 } : Room).cells ({ frames := 0, cells := 0, slots := 0, locals := 0 } : Room).slots) := by
  refine own_met (plainFor_of_name pn_5) ?_
  intro p e s m below meth c s₁ X0 hx hby hml hret hlk hown hnm hZ e0
  have N0 := Fr.nil n0
  have Z_ := Z0
  refine OwnGo.cast (ef_coder m a) ?_
  show OwnGo p e below s _ _ _ s₁ (mkF m 0 #[.val (.ref a)] [])
  obtain ⟨T1, X1, e1, st1⟩ := getS2 X0 hx hZ hown (host := "") (Or.inl (hw _ (List.mem_of_getElem? (i := 38) rfl))) Via.refl e0 (S_CS.ext O_.2) (g := (mkF m 0 #[.val (.ref a)] [])) rfl (hb hby d5_0)
  refine OwnGo.st st1 ?_
  show OwnGo p e below s _ _ _ T1 (mkF m 3 #[.val (.ref a)] [(.int zc)])
  refine OwnGo.st (fun _ kk => XS.ifNo X1.here hx rfl (hb hby d5_3) rfl ((if0 _ _).trans (feq (P_CS : ¬ (zc = (0 : Int32)))).1) kk) ?_
  show OwnGo p e below s _ _ _ T1 (mkF m 6 #[.val (.ref a)] [])
  refine OwnGo.st (fun _ kk => XS.aloadN X1.here hx rfl (hb hby d5_6) rfl rfl  kk) ?_
  show OwnGo p e below s _ _ _ T1 (mkF m 7 #[.val (.ref a)] [(.ref a)])
  obtain ⟨T2, X2, e2, st2⟩ := getF X1 hx hZ hown (host := "") (Or.inl (hw _ (List.mem_of_getElem? (i := 39) rfl))) Via.refl e1 Fc (g := (mkF m 7 #[.val (.ref a)] [(.ref a)])) rfl rfl (hb hby d5_7)
  refine OwnGo.st st2 ?_
  show OwnGo p e below s _ _ _ T2 (mkF m 10 #[.val (.ref a)] [(.int (0 : Int32))])
  refine OwnGo.st (fun _ kk => XS.goto X2.here hx rfl (pc0 := 10) (pc' := 14) rfl (hb hby d5_10) (by decide) (by decide) kk) ?_
  show OwnGo p e below s _ _ _ T2 (mkF m 14 #[.val (.ref a)] [(.int (0 : Int32))])
  exact OwnGo.retN X2 hx (t := .byte) hret hlk (by simp) (hb hby d5_14) (by show Qcoder Z a zc h0 n0 _ T2.heap _; rw [e2]; exact ⟨rfl, N0, rfl⟩) (by decide) (by decide)
def Qlength (Z : State) (a : Addr) (t : Addr) (kc : ClassId) (z : Int32) (vs : List Value) (zc : Int32) (h0 : Heap) (n0 : Nat) (v : Option Value) (h : Heap) (L : List Loc) : Prop := v = some (.int z) ∧ Fr n0 L ∧ h = h0
set_option maxRecDepth 65536 in
set_option maxHeartbeats 40000000 in
theorem rmlength (l : Launch) (Z : State) (a0 : Array Value) (hw : ∀ d ∈ tables_1, d.before a0 Z = true) (ws : List Jvm.Cond) (a : Addr) (t : Addr) (kc : ClassId) (z : Int32) (vs : List Value) (zc : Int32) (h0 : Heap) (n0 : Nat) (Z0 : n0 ≤ h0.size) (O_ : Old Z n0 h0) (S_CS : Sta Z Z.heap "java/lang/String" "COMPACT_STRINGS" "Z" (.int zc)) (P_CS : ¬ zc = (0 : Int32)) (E_a : Exa Z h0 a "java/lang/String") (Fc : Fld Z h0 a "java/lang/String" "coder" "B" (.int (0 : Int32))) (Fv : Fld Z h0 a "java/lang/String" "value" "[B" (.ref t)) (V : Arv Z h0 t kc .byte z vs (.int (0 : Int32))) :
    MetFree l (⟨"java/lang/String", "length", "()I"⟩ : MethodName) (head1 (Jvm.Cond.code (⟨"java/lang/String", "length", "()I"⟩ : MethodName) jdk_42_method_54_code 1 (some .int) :: ws) ({ frames := 1, cells := 0, slots := 0, locals := 13 } : Room)) (fun as_ UU => as_ = #[(.ref a)] ∧ Z.Warmed39 UU.vm ∧ UU.heap = h0) (fun _ _ _ _ _ => True) (fun _ UU oo UU' => ∃ vv LL, oo = .returned vv ∧ (Qlength Z a t kc z vs zc h0 n0) vv UU'.heap LL ∧ FrameEnd UU oo UU' LL ({ frames := 1, cells := 0, slots := 0, locals := 13 } : Room).cells ({ frames := 1, cells := 0, slots := 0, locals := 13 } : Room).slots) := by
  refine own_met (plainFor_of_name pn_5) ?_
  intro p e s m below meth c s₁ X0 hx hby hml hret hlk hown hnm hZ e0
  have N0 := Fr.nil n0
  have Z_ := Z0
  refine OwnGo.cast (ef_length m a) ?_
  show OwnGo p e below s _ _ _ s₁ (mkF m 0 #[.val (.ref a)] [])
  refine OwnGo.st (fun _ kk => XS.aloadN X0.here hx rfl (hb hby d4_0) rfl rfl  kk) ?_
  show OwnGo p e below s _ _ _ s₁ (mkF m 1 #[.val (.ref a)] [(.ref a)])
  obtain ⟨T3, X3, e3, st3⟩ := getF X0 hx hZ hown (host := "") (Or.inl (hw _ (List.mem_of_getElem? (i := 32) rfl))) Via.refl e0 Fv (g := (mkF m 1 #[.val (.ref a)] [(.ref a)])) rfl rfl (hb hby d4_1)
  refine OwnGo.st st3 ?_
  show OwnGo p e below s _ _ _ T3 (mkF m 4 #[.val (.ref a)] [(.ref t)])
  obtain ⟨cl4, Ar4, -, S4, N4, -, -⟩ := id V
  refine OwnGo.st (fun _ kk => own_len hZ (len_of S4 N4) Ar4 X3 e3 hx (g := (mkF m 4 #[.val (.ref a)] [(.ref t)])) rfl rfl (hb hby d4_4) _ kk) ?_
  show OwnGo p e below s _ _ _ T3 (mkF m 5 #[.val (.ref a)] [(.int z)])
  refine OwnGo.st (fun _ kk => XS.aloadN X3.here hx rfl (hb hby d4_5) rfl rfl  kk) ?_
  show OwnGo p e below s _ _ _ T3 (mkF m 6 #[.val (.ref a)] [(.ref a), (.int z)])
  obtain ⟨cq5, kq5, q5a, q5b, q5c⟩ := isOf hZ e3 E_a
  obtain ⟨_, _, ⟨T5, L5, k5, n5⟩, -, X5, ⟨Lc5, hQ5, l5, y5, z5⟩, st5⟩ := X3.virtualBack hx (y := (⟨"java/lang/String", "coder", "()B"⟩ : MethodName)) (z := (⟨"java/lang/String", "coder", "()B"⟩ : MethodName)) hown (mvT hZ (hw _ (List.mem_of_getElem? (i := 33) rfl))) (mvT hZ (hw _ (List.mem_of_getElem? (i := 34) rfl))) (notFace_of_selects (args := #[]) (mvT hZ (hw _ (List.mem_of_getElem? (i := 36) rfl)))) (mvT hZ (hw _ (List.mem_of_getElem? (i := 36) rfl))) (mvT hZ (hw _ (List.mem_of_getElem? (i := 35) rfl))) (by decide) (backOf (W := 1) (rmcoder l Z a0 hw [] a zc h0 n0 Z_ O_ S_CS P_CS Fc) hZ (hw _ (List.mem_of_getElem? (i := 37) rfl)) (hw _ (List.mem_of_getElem? (i := 1) rfl)) (by decide) (by decide)) q5a q5c (g := (mkF m 6 #[.val (.ref a)] [(.ref a), (.int z)])) rfl (by rw [hml]; rfl) (Steps.refl _) (argsL := []) (rest := [(.int z)]) (lenOf pd_0 rfl) rfl (by show 2 * 0 + _ ≤ _; exact Nat.le_of_eq rfl) (hb hby d4_6) (fun _ _ => ⟨rfl, e3, (by decide : 0 + 0 ≤ _), (by decide : 0 + 0 ≤ _)⟩)
  dsimp only [Pt.U, Pt.locs, Pt.cells, Pt.slots] at X5 l5 y5 z5 st5 hQ5
  subst l5 y5 z5
  obtain ⟨rfl, N5q, e5⟩ := hQ5
  have N5 := Fr.app N0 N5q
  refine OwnGo.st (fun _ kk => st5.trans kk) ?_
  show OwnGo p e below s _ _ _ T5 (mkF m 9 #[.val (.ref a)] [(.int (0 : Int32)), (.int z)])
  refine OwnGo.st (fun _ kk => XS.ishr X5.here hx rfl (hb hby d4_9) rfl kk) ?_
  show OwnGo p e below s _ _ _ T5 (mkF m 10 #[.val (.ref a)] [(.int (z >>> ((0 : Int32) &&& 31)))])
  rw [own_sh0]
  show OwnGo p e below s _ _ _ T5 (mkF m 10 #[.val (.ref a)] [(.int z)])
  exact OwnGo.ret X5 hx hret hlk rfl (Or.inl ⟨rfl, Or.inl rfl, _, rfl⟩) (hb hby d4_10) (by show Qlength Z a t kc z vs zc h0 n0 _ T5.heap _; rw [e5]; exact ⟨rfl, N5, rfl⟩) (by decide) (by decide)
def Qpcheck (Z : State) (i : Int32) (n : Int32) (f : Value) (h0 : Heap) (n0 : Nat) (v : Option Value) (h : Heap) (L : List Loc) : Prop := v = some (.int i) ∧ Fr n0 L ∧ h = h0
set_option maxRecDepth 65536 in
set_option maxHeartbeats 40000000 in
theorem rmpcheck (l : Launch) (Z : State) (a0 : Array Value) (hw : ∀ d ∈ tables_1, d.before a0 Z = true) (ws : List Jvm.Cond) (i : Int32) (n : Int32) (f : Value) (h0 : Heap) (n0 : Nat) (Z0 : n0 ≤ h0.size) (rf_f : f.isRef = true) (hi : ¬ i < (0 : Int32)) (hn : i < n) :
    MetFree l (⟨"jdk/internal/util/Preconditions", "checkIndex", "(IILjava/util/function/BiFunction;)I"⟩ : MethodName) (head1 (Jvm.Cond.code (⟨"jdk/internal/util/Preconditions", "checkIndex", "(IILjava/util/function/BiFunction;)I"⟩ : MethodName) jdk_41_method_11_code 3 (some .int) :: ws) ({ frames := 0, cells := 0, slots := 0, locals := 0 } : Room)) (fun as_ UU => as_ = #[(.int i), (.int n), f] ∧ Z.Warmed39 UU.vm ∧ UU.heap = h0) (fun _ _ _ _ _ => True) (fun _ UU oo UU' => ∃ vv LL, oo = .returned vv ∧ (Qpcheck Z i n f h0 n0) vv UU'.heap LL ∧ FrameEnd UU oo UU' LL ({ frames := 0, cells := 0, slots := 0, locals := 0 } : Room).cells ({ frames := 0, cells := 0, slots := 0, locals := 0 } : Room).slots) := by
  refine own_met (plainFor_of_name pn_15) ?_
  intro p e s m below meth c s₁ X0 hx hby hml hret hlk hown hnm hZ e0
  have N0 := Fr.nil n0
  have Z_ := Z0
  refine OwnGo.cast (ef_pcheck m i n f (own_cat rf_f)) ?_
  show OwnGo p e below s _ _ _ s₁ (mkF m 0 #[.val (.int i), .val (.int n), .val f] [])
  refine OwnGo.st (fun _ kk => XS.iloadN X0.here hx rfl (hb hby d15_0) rfl  kk) ?_
  show OwnGo p e below s _ _ _ s₁ (mkF m 1 #[.val (.int i), .val (.int n), .val f] [(.int i)])
  refine OwnGo.st (fun _ kk => XS.ifNo X0.here hx rfl (hb hby d15_1) rfl ((if0 _ _).trans (flt (hi : ¬ (i < (0 : Int32)))).1) kk) ?_
  show OwnGo p e below s _ _ _ s₁ (mkF m 4 #[.val (.int i), .val (.int n), .val f] [])
  refine OwnGo.st (fun _ kk => XS.iloadN X0.here hx rfl (hb hby d15_4) rfl  kk) ?_
  show OwnGo p e below s _ _ _ s₁ (mkF m 5 #[.val (.int i), .val (.int n), .val f] [(.int i)])
  refine OwnGo.st (fun _ kk => XS.iloadN X0.here hx rfl (hb hby d15_5) rfl  kk) ?_
  show OwnGo p e below s _ _ _ s₁ (mkF m 6 #[.val (.int i), .val (.int n), .val f] [(.int n), (.int i)])
  refine OwnGo.st (fun _ kk => XS.icmpYes X0.here hx rfl (pc0 := 6) (pc' := 16) rfl (hb hby d15_6) rfl (tlt (hn : i < n)).1 (by decide) (by decide) kk) ?_
  show OwnGo p e below s _ _ _ s₁ (mkF m 16 #[.val (.int i), .val (.int n), .val f] [])
  refine OwnGo.st (fun _ kk => XS.iloadN X0.here hx rfl (hb hby d15_16) rfl  kk) ?_
  show OwnGo p e below s _ _ _ s₁ (mkF m 17 #[.val (.int i), .val (.int n), .val f] [(.int i)])
  exact OwnGo.ret X0 hx hret hlk rfl (Or.inl ⟨rfl, Or.inl rfl, _, rfl⟩) (hb hby d15_17) (by show Qpcheck Z i n f h0 n0 _ s₁.heap _; rw [e0]; exact ⟨rfl, N0, rfl⟩) (by decide) (by decide)
def Qscheck (Z : State) (i : Int32) (n : Int32) (fmv : Value) (h0 : Heap) (n0 : Nat) (v : Option Value) (h : Heap) (L : List Loc) : Prop := v = none ∧ Fr n0 L ∧ h = h0
set_option maxRecDepth 65536 in
set_option maxHeartbeats 40000000 in
theorem rmscheck (l : Launch) (Z : State) (a0 : Array Value) (hw : ∀ d ∈ tables_1, d.before a0 Z = true) (ws : List Jvm.Cond) (i : Int32) (n : Int32) (fmv : Value) (h0 : Heap) (n0 : Nat) (Z0 : n0 ≤ h0.size) (O_ : Old Z n0 h0) (S_SF : Sta Z Z.heap "jdk/internal/util/Preconditions" "SIOOBE_FORMATTER" "Ljava/util/function/BiFunction;" fmv) (rf_fmv : fmv.isRef = true) (hi : ¬ i < (0 : Int32)) (hn : i < n) :
    MetFree l (⟨"java/lang/String", "checkIndex", "(II)V"⟩ : MethodName) (head1 (Jvm.Cond.code (⟨"java/lang/String", "checkIndex", "(II)V"⟩ : MethodName) jdk_42_method_155_code 2 none :: ws) ({ frames := 1, cells := 0, slots := 0, locals := 14 } : Room)) (fun as_ UU => as_ = #[(.int i), (.int n)] ∧ Z.Warmed39 UU.vm ∧ UU.heap = h0) (fun _ _ _ _ _ => True) (fun _ UU oo UU' => ∃ vv LL, oo = .returned vv ∧ (Qscheck Z i n fmv h0 n0) vv UU'.heap LL ∧ FrameEnd UU oo UU' LL ({ frames := 1, cells := 0, slots := 0, locals := 14 } : Room).cells ({ frames := 1, cells := 0, slots := 0, locals := 14 } : Room).slots) := by
  refine own_met (plainFor_of_name pn_5) ?_
  intro p e s m below meth c s₁ X0 hx hby hml hret hlk hown hnm hZ e0
  have N0 := Fr.nil n0
  have Z_ := Z0
  refine OwnGo.cast (ef_scheck m i n) ?_
  show OwnGo p e below s _ _ _ s₁ (mkF m 0 #[.val (.int i), .val (.int n)] [])
  refine OwnGo.st (fun _ kk => XS.iloadN X0.here hx rfl (hb hby d14_0) rfl  kk) ?_
  show OwnGo p e below s _ _ _ s₁ (mkF m 1 #[.val (.int i), .val (.int n)] [(.int i)])
  refine OwnGo.st (fun _ kk => XS.iloadN X0.here hx rfl (hb hby d14_1) rfl  kk) ?_
  show OwnGo p e below s _ _ _ s₁ (mkF m 2 #[.val (.int i), .val (.int n)] [(.int n), (.int i)])
  obtain ⟨T6, X6, e6, st6⟩ := getS2 X0 hx hZ hown (host := "") (Or.inl (hw _ (List.mem_of_getElem? (i := 77) rfl))) Via.refl e0 (S_SF.ext O_.2) (g := (mkF m 2 #[.val (.int i), .val (.int n)] [(.int n), (.int i)])) rfl (hb hby d14_2)
  refine OwnGo.st st6 ?_
  show OwnGo p e below s _ _ _ T6 (mkF m 5 #[.val (.int i), .val (.int n)] [fmv, (.int n), (.int i)])
  obtain ⟨_, _, ⟨T7, L7, k7, n7⟩, -, X7, ⟨Lc7, hQ7, l7, y7, z7⟩, st7⟩ := Jvm.LawKit.callS X6 hx (y := (⟨"jdk/internal/util/Preconditions", "checkIndex", "(IILjava/util/function/BiFunction;)I"⟩ : MethodName)) hown (mvT hZ (hw _ (List.mem_of_getElem? (i := 79) rfl))) (mvT hZ (hw _ (List.mem_of_getElem? (i := 80) rfl))) (mvT hZ (hw _ (List.mem_of_getElem? (i := 78) rfl))) (mvT hZ (hw _ (List.mem_of_getElem? (i := 81) rfl))) (by decide) (backOf (W := 0) (rmpcheck l Z a0 hw [] i n fmv h0 n0 Z_ rf_fmv hi hn) hZ (hw _ (List.mem_of_getElem? (i := 81) rfl)) (hw _ (List.mem_of_getElem? (i := 78) rfl)) (by decide) (by decide)) (g := (mkF m 5 #[.val (.int i), .val (.int n)] [fmv, (.int n), (.int i)])) rfl (by rw [hml]; rfl) (argsL := [(.int i), (.int n), fmv]) (rest := []) (lenOf pd_1 rfl) rfl (by show 2 * 0 + _ ≤ _; exact Nat.le_of_eq rfl) (hb hby d14_5) (fun _ _ => ⟨rfl, e6, (by decide : 0 + 0 ≤ _), (by decide : 0 + 0 ≤ _)⟩)
  dsimp only [Pt.U, Pt.locs, Pt.cells, Pt.slots] at X7 l7 y7 z7 st7 hQ7
  subst l7 y7 z7
  obtain ⟨rfl, N7q, e7⟩ := hQ7
  have N7 := Fr.app N0 N7q
  refine OwnGo.st st7 ?_
  show OwnGo p e below s _ _ _ T7 (mkF m 8 #[.val (.int i), .val (.int n)] [(.int i)])
  refine OwnGo.st (fun _ kk => XS.pop X7.here hx rfl (hb hby d14_8) rfl rfl kk) ?_
  show OwnGo p e below s _ _ _ T7 (mkF m 9 #[.val (.int i), .val (.int n)] [])
  exact OwnGo.retV X7 hx hret hlk (hb hby d14_9) (by show Qscheck Z i n fmv h0 n0 _ T7.heap _; rw [e7]; exact ⟨rfl, N7, rfl⟩) (by decide) (by decide)
def QisLatin1 (Z : State) (a : Addr) (zc : Int32) (h0 : Heap) (n0 : Nat) (v : Option Value) (h : Heap) (L : List Loc) : Prop := v = some (.int (1 : Int32)) ∧ Fr n0 L ∧ h = h0
set_option maxRecDepth 65536 in
set_option maxHeartbeats 40000000 in
theorem rmisLatin1 (l : Launch) (Z : State) (a0 : Array Value) (hw : ∀ d ∈ tables_1, d.before a0 Z = true) (ws : List Jvm.Cond) (a : Addr) (zc : Int32) (h0 : Heap) (n0 : Nat) (Z0 : n0 ≤ h0.size) (O_ : Old Z n0 h0) (S_CS : Sta Z Z.heap "java/lang/String" "COMPACT_STRINGS" "Z" (.int zc)) (P_CS : ¬ zc = (0 : Int32)) (Fc : Fld Z h0 a "java/lang/String" "coder" "B" (.int (0 : Int32))) :
    MetFree l (⟨"java/lang/String", "isLatin1", "()Z"⟩ : MethodName) (head1 (Jvm.Cond.code (⟨"java/lang/String", "isLatin1", "()Z"⟩ : MethodName) jdk_42_method_154_code 1 (some .boolean) :: ws) ({ frames := 0, cells := 0, slots := 0, locals := 0 } : Room)) (fun as_ UU => as_ = #[(.ref a)] ∧ Z.Warmed39 UU.vm ∧ UU.heap = h0) (fun _ _ _ _ _ => True) (fun _ UU oo UU' => ∃ vv LL, oo = .returned vv ∧ (QisLatin1 Z a zc h0 n0) vv UU'.heap LL ∧ FrameEnd UU oo UU' LL ({ frames := 0, cells := 0, slots := 0, locals := 0 } : Room).cells ({ frames := 0, cells := 0, slots := 0, locals := 0 } : Room).slots) := by
  refine own_met (plainFor_of_name pn_5) ?_
  intro p e s m below meth c s₁ X0 hx hby hml hret hlk hown hnm hZ e0
  have N0 := Fr.nil n0
  have Z_ := Z0
  refine OwnGo.cast (ef_isLatin1 m a) ?_
  show OwnGo p e below s _ _ _ s₁ (mkF m 0 #[.val (.ref a)] [])
  obtain ⟨T8, X8, e8, st8⟩ := getS2 X0 hx hZ hown (host := "") (Or.inl (hw _ (List.mem_of_getElem? (i := 38) rfl))) Via.refl e0 (S_CS.ext O_.2) (g := (mkF m 0 #[.val (.ref a)] [])) rfl (hb hby d12_0)
  refine OwnGo.st st8 ?_
  show OwnGo p e below s _ _ _ T8 (mkF m 3 #[.val (.ref a)] [(.int zc)])
  refine OwnGo.st (fun _ kk => XS.ifNo X8.here hx rfl (hb hby d12_3) rfl ((if0 _ _).trans (feq (P_CS : ¬ (zc = (0 : Int32)))).1) kk) ?_
  show OwnGo p e below s _ _ _ T8 (mkF m 6 #[.val (.ref a)] [])
  refine OwnGo.st (fun _ kk => XS.aloadN X8.here hx rfl (hb hby d12_6) rfl rfl  kk) ?_
  show OwnGo p e below s _ _ _ T8 (mkF m 7 #[.val (.ref a)] [(.ref a)])
  obtain ⟨T9, X9, e9, st9⟩ := getF X8 hx hZ hown (host := "") (Or.inl (hw _ (List.mem_of_getElem? (i := 39) rfl))) Via.refl e8 Fc (g := (mkF m 7 #[.val (.ref a)] [(.ref a)])) rfl rfl (hb hby d12_7)
  refine OwnGo.st st9 ?_
  show OwnGo p e below s _ _ _ T9 (mkF m 10 #[.val (.ref a)] [(.int (0 : Int32))])
  refine OwnGo.st (fun _ kk => XS.ifNo X9.here hx rfl (hb hby d12_10) rfl ((if0 _ _).trans (teq (rfl : (0 : Int32) = (0 : Int32))).2) kk) ?_
  show OwnGo p e below s _ _ _ T9 (mkF m 13 #[.val (.ref a)] [])
  refine OwnGo.st (fun _ kk => XS.iconst X9.here hx rfl (hb hby d12_13) kk) ?_
  show OwnGo p e below s _ _ _ T9 (mkF m 14 #[.val (.ref a)] [(.int (1 : Int32))])
  refine OwnGo.st (fun _ kk => XS.goto X9.here hx rfl (pc0 := 14) (pc' := 18) rfl (hb hby d12_14) (by decide) (by decide) kk) ?_
  show OwnGo p e below s _ _ _ T9 (mkF m 18 #[.val (.ref a)] [(.int (1 : Int32))])
  exact OwnGo.retN X9 hx (t := .boolean) hret hlk (by simp) (hb hby d12_18) (by show QisLatin1 Z a zc h0 n0 _ T9.heap _; rw [e9]; exact ⟨rfl, N0, rfl⟩) (by decide) (by decide)
def QlcharAt (Z : State) (t : Addr) (kc : ClassId) (z : Int32) (vs : List Value) (i : Int32) (b : Int32) (ch : Int32) (fmv : Value) (h0 : Heap) (n0 : Nat) (v : Option Value) (h : Heap) (L : List Loc) : Prop := v = some (.int ch) ∧ Fr n0 L ∧ h = h0
set_option maxRecDepth 65536 in
set_option maxHeartbeats 40000000 in
theorem rmlcharAt (l : Launch) (Z : State) (a0 : Array Value) (hw : ∀ d ∈ tables_1, d.before a0 Z = true) (ws : List Jvm.Cond) (t : Addr) (kc : ClassId) (z : Int32) (vs : List Value) (i : Int32) (b : Int32) (ch : Int32) (fmv : Value) (h0 : Heap) (n0 : Nat) (Z0 : n0 ≤ h0.size) (O_ : Old Z n0 h0) (S_SF : Sta Z Z.heap "jdk/internal/util/Preconditions" "SIOOBE_FORMATTER" "Ljava/util/function/BiFunction;" fmv) (rf_fmv : fmv.isRef = true) (V : Arv Z h0 t kc .byte z vs (.int (0 : Int32))) (hin : ¬ i < (0 : Int32) ∧ i < z) (hat : vs.getD i.toNatClampNeg (.int (0 : Int32)) = .int b) (hch : (b &&& (255 : Int32)).toUInt32.toUInt16.toUInt32.toInt32 = ch) (hcc : nar .char ch = ch) :
    MetFree l (⟨"java/lang/StringLatin1", "charAt", "([BI)C"⟩ : MethodName) (head1 (Jvm.Cond.code (⟨"java/lang/StringLatin1", "charAt", "([BI)C"⟩ : MethodName) jdk_43_method_2_code 2 (some .char) :: ws) ({ frames := 2, cells := 0, slots := 0, locals := 27 } : Room)) (fun as_ UU => as_ = #[(.ref t), (.int i)] ∧ Z.Warmed39 UU.vm ∧ UU.heap = h0) (fun _ _ _ _ _ => True) (fun _ UU oo UU' => ∃ vv LL, oo = .returned vv ∧ (QlcharAt Z t kc z vs i b ch fmv h0 n0) vv UU'.heap LL ∧ FrameEnd UU oo UU' LL ({ frames := 2, cells := 0, slots := 0, locals := 27 } : Room).cells ({ frames := 2, cells := 0, slots := 0, locals := 27 } : Room).slots) := by
  refine own_met (plainFor_of_name pn_13) ?_
  intro p e s m below meth c s₁ X0 hx hby hml hret hlk hown hnm hZ e0
  have N0 := Fr.nil n0
  have Z_ := Z0
  refine OwnGo.cast (ef_lcharAt m t i) ?_
  show OwnGo p e below s _ _ _ s₁ (mkF m 0 #[.val (.ref t), .val (.int i)] [])
  refine OwnGo.st (fun _ kk => XS.iloadN X0.here hx rfl (hb hby d13_0) rfl  kk) ?_
  show OwnGo p e below s _ _ _ s₁ (mkF m 1 #[.val (.ref t), .val (.int i)] [(.int i)])
  refine OwnGo.st (fun _ kk => XS.aloadN X0.here hx rfl (hb hby d13_1) rfl rfl  kk) ?_
  show OwnGo p e below s _ _ _ s₁ (mkF m 2 #[.val (.ref t), .val (.int i)] [(.ref t), (.int i)])
  obtain ⟨cl10, Ar10, -, S10, N10, -, -⟩ := id V
  refine OwnGo.st (fun _ kk => own_len hZ (len_of S10 N10) Ar10 X0 e0 hx (g := (mkF m 2 #[.val (.ref t), .val (.int i)] [(.ref t), (.int i)])) rfl rfl (hb hby d13_2) _ kk) ?_
  show OwnGo p e below s _ _ _ s₁ (mkF m 3 #[.val (.ref t), .val (.int i)] [(.int z), (.int i)])
  obtain ⟨_, _, ⟨T11, L11, k11, n11⟩, -, X11, ⟨Lc11, hQ11, l11, y11, z11⟩, st11⟩ := Jvm.LawKit.callS X0 hx (y := (⟨"java/lang/String", "checkIndex", "(II)V"⟩ : MethodName)) hown (mvT hZ (hw _ (List.mem_of_getElem? (i := 74) rfl))) (mvT hZ (hw _ (List.mem_of_getElem? (i := 75) rfl))) (mvT hZ (hw _ (List.mem_of_getElem? (i := 1) rfl))) (mvT hZ (hw _ (List.mem_of_getElem? (i := 76) rfl))) (by decide) (backOf (W := 0) (rmscheck l Z a0 hw [] i z fmv h0 n0 Z_ O_ S_SF rf_fmv hin.1 hin.2) hZ (hw _ (List.mem_of_getElem? (i := 76) rfl)) (hw _ (List.mem_of_getElem? (i := 1) rfl)) (by decide) (by decide)) (g := (mkF m 3 #[.val (.ref t), .val (.int i)] [(.int z), (.int i)])) rfl (by rw [hml]; rfl) (argsL := [(.int i), (.int z)]) (rest := []) (lenOf pd_2 rfl) rfl (by show 2 * 0 + _ ≤ _; exact Nat.le_of_eq rfl) (hb hby d13_3) (fun _ _ => ⟨rfl, e0, (by decide : 0 + 0 ≤ _), (by decide : 0 + 0 ≤ _)⟩)
  dsimp only [Pt.U, Pt.locs, Pt.cells, Pt.slots] at X11 l11 y11 z11 st11 hQ11
  subst l11 y11 z11
  obtain ⟨rfl, N11q, e11⟩ := hQ11
  have N11 := Fr.app N0 N11q
  refine OwnGo.st st11 ?_
  show OwnGo p e below s _ _ _ T11 (mkF m 6 #[.val (.ref t), .val (.int i)] [])
  refine OwnGo.st (fun _ kk => XS.aloadN X11.here hx rfl (hb hby d13_6) rfl rfl  kk) ?_
  show OwnGo p e below s _ _ _ T11 (mkF m 7 #[.val (.ref t), .val (.int i)] [(.ref t)])
  refine OwnGo.st (fun _ kk => XS.iloadN X11.here hx rfl (hb hby d13_7) rfl  kk) ?_
  show OwnGo p e below s _ _ _ T11 (mkF m 8 #[.val (.ref t), .val (.int i)] [(.int i), (.ref t)])
  obtain ⟨cl12, Ar12, -, S12, -, H12, -⟩ := id V
  have hin12 : ¬ (i < 0 ∨ cl12.slots.size ≤ (i).toNatClampNeg) := inb_of S12 hin
  refine OwnGo.st (fun _ kk => X11.baloadBytes hx (j := i) (v := (.int b)) (by first | exact Ar12.1 | (rw [e11]; exact Ar12.1)) (State.isArrayOf_alike hZ.alike Ar12.2.1) Ar12.2.2 hin12 (H12.at hin12 hat) (g := (mkF m 8 #[.val (.ref t), .val (.int i)] [(.int i), (.ref t)])) rfl rfl (hb hby d13_8) _ kk) ?_
  show OwnGo p e below s _ _ _ T11 (mkF m 9 #[.val (.ref t), .val (.int i)] [(.int b)])
  refine OwnGo.st (fun _ kk => XS.sipush X11.here hx rfl (hb hby d13_9) kk) ?_
  show OwnGo p e below s _ _ _ T11 (mkF m 12 #[.val (.ref t), .val (.int i)] [(.int (255 : Int32)), (.int b)])
  refine OwnGo.st (fun _ kk => XS.iand X11.here hx rfl (hb hby d13_12) rfl kk) ?_
  show OwnGo p e below s _ _ _ T11 (mkF m 13 #[.val (.ref t), .val (.int i)] [(.int (b &&& (255 : Int32)))])
  refine OwnGo.st (fun _ kk => XS.i2c X11.here hx rfl (hb hby d13_13) rfl kk) ?_
  show OwnGo p e below s _ _ _ T11 (mkF m 14 #[.val (.ref t), .val (.int i)] [(.int ((b &&& (255 : Int32)).toUInt32.toUInt16.toUInt32.toInt32))])
  rw [hch]
  show OwnGo p e below s _ _ _ T11 (mkF m 14 #[.val (.ref t), .val (.int i)] [(.int ch)])
  exact OwnGo.retN X11 hx (t := .char) hret hlk (by simp) (hb hby d13_14) (by show QlcharAt Z t kc z vs i b ch fmv h0 n0 _ T11.heap _; rw [e11]; exact ⟨by rw [hcc], N11, rfl⟩) (by decide) (by decide)
def QcharAt (Z : State) (a : Addr) (t : Addr) (kc : ClassId) (z : Int32) (vs : List Value) (i : Int32) (b : Int32) (ch : Int32) (zc : Int32) (fmv : Value) (h0 : Heap) (n0 : Nat) (v : Option Value) (h : Heap) (L : List Loc) : Prop := v = some (.int ch) ∧ Fr n0 L ∧ h = h0
set_option maxRecDepth 65536 in
set_option maxHeartbeats 40000000 in
theorem rmcharAt (l : Launch) (Z : State) (a0 : Array Value) (hw : ∀ d ∈ tables_1, d.before a0 Z = true) (ws : List Jvm.Cond) (a : Addr) (t : Addr) (kc : ClassId) (z : Int32) (vs : List Value) (i : Int32) (b : Int32) (ch : Int32) (zc : Int32) (fmv : Value) (h0 : Heap) (n0 : Nat) (Z0 : n0 ≤ h0.size) (O_ : Old Z n0 h0) (S_CS : Sta Z Z.heap "java/lang/String" "COMPACT_STRINGS" "Z" (.int zc)) (P_CS : ¬ zc = (0 : Int32)) (S_SF : Sta Z Z.heap "jdk/internal/util/Preconditions" "SIOOBE_FORMATTER" "Ljava/util/function/BiFunction;" fmv) (rf_fmv : fmv.isRef = true) (E_a : Exa Z h0 a "java/lang/String") (Fc : Fld Z h0 a "java/lang/String" "coder" "B" (.int (0 : Int32))) (Fv : Fld Z h0 a "java/lang/String" "value" "[B" (.ref t)) (V : Arv Z h0 t kc .byte z vs (.int (0 : Int32))) (hin : ¬ i < (0 : Int32) ∧ i < z) (hat : vs.getD i.toNatClampNeg (.int (0 : Int32)) = .int b) (hch : (b &&& (255 : Int32)).toUInt32.toUInt16.toUInt32.toInt32 = ch) (hcc : nar .char ch = ch) :
    MetFree l (⟨"java/lang/String", "charAt", "(I)C"⟩ : MethodName) (head1 (Jvm.Cond.code (⟨"java/lang/String", "charAt", "(I)C"⟩ : MethodName) jdk_42_method_56_code 2 (some .char) :: ws) ({ frames := 3, cells := 0, slots := 0, locals := 40 } : Room)) (fun as_ UU => as_ = #[(.ref a), (.int i)] ∧ Z.Warmed39 UU.vm ∧ UU.heap = h0) (fun _ _ _ _ _ => True) (fun _ UU oo UU' => ∃ vv LL, oo = .returned vv ∧ (QcharAt Z a t kc z vs i b ch zc fmv h0 n0) vv UU'.heap LL ∧ FrameEnd UU oo UU' LL ({ frames := 3, cells := 0, slots := 0, locals := 40 } : Room).cells ({ frames := 3, cells := 0, slots := 0, locals := 40 } : Room).slots) := by
  refine own_met (plainFor_of_name pn_5) ?_
  intro p e s m below meth c s₁ X0 hx hby hml hret hlk hown hnm hZ e0
  have N0 := Fr.nil n0
  have Z_ := Z0
  refine OwnGo.cast (ef_charAt m a i) ?_
  show OwnGo p e below s _ _ _ s₁ (mkF m 0 #[.val (.ref a), .val (.int i)] [])
  refine OwnGo.st (fun _ kk => XS.aloadN X0.here hx rfl (hb hby d11_0) rfl rfl  kk) ?_
  show OwnGo p e below s _ _ _ s₁ (mkF m 1 #[.val (.ref a), .val (.int i)] [(.ref a)])
  obtain ⟨cq13, kq13, q13a, q13b, q13c⟩ := isOf hZ e0 E_a
  obtain ⟨_, _, ⟨T13, L13, k13, n13⟩, -, X13, ⟨Lc13, hQ13, l13, y13, z13⟩, st13⟩ := X0.virtualBack hx (y := (⟨"java/lang/String", "isLatin1", "()Z"⟩ : MethodName)) (z := (⟨"java/lang/String", "isLatin1", "()Z"⟩ : MethodName)) hown (mvT hZ (hw _ (List.mem_of_getElem? (i := 66) rfl))) (mvT hZ (hw _ (List.mem_of_getElem? (i := 67) rfl))) (notFace_of_selects (args := #[]) (mvT hZ (hw _ (List.mem_of_getElem? (i := 69) rfl)))) (mvT hZ (hw _ (List.mem_of_getElem? (i := 69) rfl))) (mvT hZ (hw _ (List.mem_of_getElem? (i := 68) rfl))) (by decide) (backOf (W := 0) (rmisLatin1 l Z a0 hw [] a zc h0 n0 Z_ O_ S_CS P_CS Fc) hZ (hw _ (List.mem_of_getElem? (i := 70) rfl)) (hw _ (List.mem_of_getElem? (i := 1) rfl)) (by decide) (by decide)) q13a q13c (g := (mkF m 1 #[.val (.ref a), .val (.int i)] [(.ref a)])) rfl (by rw [hml]; rfl) (Steps.refl _) (argsL := []) (rest := []) (lenOf pd_3 rfl) rfl (by show 2 * 0 + _ ≤ _; exact Nat.le_of_eq rfl) (hb hby d11_1) (fun _ _ => ⟨rfl, e0, (by decide : 0 + 0 ≤ _), (by decide : 0 + 0 ≤ _)⟩)
  dsimp only [Pt.U, Pt.locs, Pt.cells, Pt.slots] at X13 l13 y13 z13 st13 hQ13
  subst l13 y13 z13
  obtain ⟨rfl, N13q, e13⟩ := hQ13
  have N13 := Fr.app N0 N13q
  refine OwnGo.st (fun _ kk => st13.trans kk) ?_
  show OwnGo p e below s _ _ _ T13 (mkF m 4 #[.val (.ref a), .val (.int i)] [(.int (1 : Int32))])
  refine OwnGo.st (fun _ kk => XS.ifNo X13.here hx rfl (hb hby d11_4) rfl ((if0 _ _).trans (feq ((by decide) : ¬ ((1 : Int32) = (0 : Int32)))).1) kk) ?_
  show OwnGo p e below s _ _ _ T13 (mkF m 7 #[.val (.ref a), .val (.int i)] [])
  refine OwnGo.st (fun _ kk => XS.aloadN X13.here hx rfl (hb hby d11_7) rfl rfl  kk) ?_
  show OwnGo p e below s _ _ _ T13 (mkF m 8 #[.val (.ref a), .val (.int i)] [(.ref a)])
  obtain ⟨T14, X14, e14, st14⟩ := getF X13 hx hZ hown (host := "") (Or.inl (hw _ (List.mem_of_getElem? (i := 32) rfl))) Via.refl e13 Fv (g := (mkF m 8 #[.val (.ref a), .val (.int i)] [(.ref a)])) rfl rfl (hb hby d11_8)
  refine OwnGo.st st14 ?_
  show OwnGo p e below s _ _ _ T14 (mkF m 11 #[.val (.ref a), .val (.int i)] [(.ref t)])
  refine OwnGo.st (fun _ kk => XS.iloadN X14.here hx rfl (hb hby d11_11) rfl  kk) ?_
  show OwnGo p e below s _ _ _ T14 (mkF m 12 #[.val (.ref a), .val (.int i)] [(.int i), (.ref t)])
  obtain ⟨_, _, ⟨T15, L15, k15, n15⟩, -, X15, ⟨Lc15, hQ15, l15, y15, z15⟩, st15⟩ := Jvm.LawKit.callS X14 hx (y := (⟨"java/lang/StringLatin1", "charAt", "([BI)C"⟩ : MethodName)) hown (mvT hZ (hw _ (List.mem_of_getElem? (i := 71) rfl))) (mvT hZ (hw _ (List.mem_of_getElem? (i := 72) rfl))) (mvT hZ (hw _ (List.mem_of_getElem? (i := 50) rfl))) (mvT hZ (hw _ (List.mem_of_getElem? (i := 73) rfl))) (by decide) (backOf (W := 0) (rmlcharAt l Z a0 hw [] t kc z vs i b ch fmv h0 n0 Z_ O_ S_SF rf_fmv V hin hat hch hcc) hZ (hw _ (List.mem_of_getElem? (i := 73) rfl)) (hw _ (List.mem_of_getElem? (i := 50) rfl)) (by decide) (by decide)) (g := (mkF m 12 #[.val (.ref a), .val (.int i)] [(.int i), (.ref t)])) rfl (by rw [hml]; rfl) (argsL := [(.ref t), (.int i)]) (rest := []) (lenOf pd_4 rfl) rfl (by show 2 * 0 + _ ≤ _; exact Nat.le_of_eq rfl) (hb hby d11_12) (fun _ _ => ⟨rfl, e14, (by decide : 0 + 0 ≤ _), (by decide : 0 + 0 ≤ _)⟩)
  dsimp only [Pt.U, Pt.locs, Pt.cells, Pt.slots] at X15 l15 y15 z15 st15 hQ15
  subst l15 y15 z15
  obtain ⟨rfl, N15q, e15⟩ := hQ15
  have N15 := Fr.app N13 N15q
  refine OwnGo.st st15 ?_
  show OwnGo p e below s _ _ _ T15 (mkF m 15 #[.val (.ref a), .val (.int i)] [(.int ch)])
  exact OwnGo.retN X15 hx (t := .char) hret hlk (by simp) (hb hby d11_15) (by show QcharAt Z a t kc z vs i b ch zc fmv h0 n0 _ T15.heap _; rw [e15]; exact ⟨by rw [hcc], N15, rfl⟩) (by decide) (by decide)
def QcanEnc (Z : State) (cc : Int32) (h0 : Heap) (n0 : Nat) (v : Option Value) (h : Heap) (L : List Loc) : Prop := v = some (.int (1 : Int32)) ∧ Fr n0 L ∧ h = h0
set_option maxRecDepth 65536 in
set_option maxHeartbeats 40000000 in
theorem rmcanEnc (l : Launch) (Z : State) (a0 : Array Value) (hw : ∀ d ∈ tables_1, d.before a0 Z = true) (ws : List Jvm.Cond) (cc : Int32) (h0 : Heap) (n0 : Nat) (Z0 : n0 ≤ h0.size) (hc : ¬ (255 : Int32) < cc) :
    MetFree l (⟨"java/lang/StringLatin1", "canEncode", "(C)Z"⟩ : MethodName) (head1 (Jvm.Cond.code (⟨"java/lang/StringLatin1", "canEncode", "(C)Z"⟩ : MethodName) jdk_43_method_3_code 1 (some .boolean) :: ws) ({ frames := 0, cells := 0, slots := 0, locals := 0 } : Room)) (fun as_ UU => as_ = #[(.int cc)] ∧ Z.Warmed39 UU.vm ∧ UU.heap = h0) (fun _ _ _ _ _ => True) (fun _ UU oo UU' => ∃ vv LL, oo = .returned vv ∧ (QcanEnc Z cc h0 n0) vv UU'.heap LL ∧ FrameEnd UU oo UU' LL ({ frames := 0, cells := 0, slots := 0, locals := 0 } : Room).cells ({ frames := 0, cells := 0, slots := 0, locals := 0 } : Room).slots) := by
  refine own_met (plainFor_of_name pn_13) ?_
  intro p e s m below meth c s₁ X0 hx hby hml hret hlk hown hnm hZ e0
  have N0 := Fr.nil n0
  have Z_ := Z0
  refine OwnGo.cast (ef_canEnc m cc) ?_
  show OwnGo p e below s _ _ _ s₁ (mkF m 0 #[.val (.int cc)] [])
  refine OwnGo.st (fun _ kk => XS.iloadN X0.here hx rfl (hb hby d8_0) rfl  kk) ?_
  show OwnGo p e below s _ _ _ s₁ (mkF m 1 #[.val (.int cc)] [(.int cc)])
  refine OwnGo.st (fun _ kk => XS.sipush X0.here hx rfl (hb hby d8_1) kk) ?_
  show OwnGo p e below s _ _ _ s₁ (mkF m 4 #[.val (.int cc)] [(.int (255 : Int32)), (.int cc)])
  refine OwnGo.st (fun _ kk => XS.icmpNo X0.here hx rfl (hb hby d8_4) rfl (flt (hc : ¬ ((255 : Int32) < cc))).2.2.1 kk) ?_
  show OwnGo p e below s _ _ _ s₁ (mkF m 7 #[.val (.int cc)] [])
  refine OwnGo.st (fun _ kk => XS.iconst X0.here hx rfl (hb hby d8_7) kk) ?_
  show OwnGo p e below s _ _ _ s₁ (mkF m 8 #[.val (.int cc)] [(.int (1 : Int32))])
  refine OwnGo.st (fun _ kk => XS.goto X0.here hx rfl (pc0 := 8) (pc' := 12) rfl (hb hby d8_8) (by decide) (by decide) kk) ?_
  show OwnGo p e below s _ _ _ s₁ (mkF m 12 #[.val (.int cc)] [(.int (1 : Int32))])
  exact OwnGo.retN X0 hx (t := .boolean) hret hlk (by simp) (hb hby d8_12) (by show QcanEnc Z cc h0 n0 _ s₁.heap _; rw [e0]; exact ⟨rfl, N0, rfl⟩) (by decide) (by decide)
def QtoB1 (Z : State) (cc : Int32) (h0 : Heap) (n0 : Nat) (v : Option Value) (h : Heap) (L : List Loc) : Prop := ∃ (t : Addr) (kb : ClassId), v = some (.ref t) ∧ Fr n0 L ∧ Keep h0 h [] ∧ Arv Z h t kb .byte (1 : Int32) [(.int cc.toInt8.toInt32)] (.int (0 : Int32)) ∧ h0.size ≤ t
set_option maxRecDepth 65536 in
set_option maxHeartbeats 40000000 in
theorem rmtoB1 (l : Launch) (Z : State) (a0 : Array Value) (hw : ∀ d ∈ tables_1, d.before a0 Z = true) (ws : List Jvm.Cond) (cc : Int32) (h0 : Heap) (n0 : Nat) (Z0 : n0 ≤ h0.size) :
    MetFree l (⟨"java/lang/StringLatin1", "toBytes", "(C)[B"⟩ : MethodName) (head1 (Jvm.Cond.code (⟨"java/lang/StringLatin1", "toBytes", "(C)[B"⟩ : MethodName) jdk_43_method_46_code 1 (some (.array .byte)) :: ws) ({ frames := 0, cells := 1, slots := 1, locals := 0 } : Room)) (fun as_ UU => as_ = #[(.int cc)] ∧ Z.Warmed39 UU.vm ∧ UU.heap = h0) (fun _ _ _ _ _ => True) (fun _ UU oo UU' => ∃ vv LL, oo = .returned vv ∧ (QtoB1 Z cc h0 n0) vv UU'.heap LL ∧ FrameEnd UU oo UU' LL ({ frames := 0, cells := 1, slots := 1, locals := 0 } : Room).cells ({ frames := 0, cells := 1, slots := 1, locals := 0 } : Room).slots) := by
  refine own_met (plainFor_of_name pn_13) ?_
  intro p e s m below meth c s₁ X0 hx hby hml hret hlk hown hnm hZ e0
  have N0 := Fr.nil n0
  have Z_ := Z0
  refine OwnGo.cast (ef_toB1 m cc) ?_
  show OwnGo p e below s _ _ _ s₁ (mkF m 0 #[.val (.int cc)] [])
  have Kp : Keep h0 h0 [] := Keep.refl h0 []
  refine OwnGo.st (fun _ kk => XS.iconst X0.here hx rfl (hb hby d9_0) kk) ?_
  show OwnGo p e below s _ _ _ s₁ (mkF m 1 #[.val (.int cc)] [(.int (1 : Int32))])
  obtain ⟨T16, h16, k16, X16, e16, E16, A16, Ex16, st16⟩ := newPE X0 hx hZ (hw _ (List.mem_of_getElem? (i := 3) rfl)) e0 (g := (mkF m 1 #[.val (.int cc)] [(.int (1 : Int32))])) rfl (hb hby d9_1) rfl (by decide) (cap := 1) (by decide) (by decide) (by decide) (by decide) (ad := "[B") (by decide)
  obtain ⟨b16, g16⟩ : ∃ z, z = h0.size := ⟨_, rfl⟩
  rw [← g16] at A16 Ex16 st16
  have g_b16 : n0 ≤ b16 := Nat.le_trans Z_ (Nat.le_of_eq g16.symm)
  have sz_b16 : h0.size ≤ b16 := Nat.le_trans Kp.1 (Nat.le_of_eq g16.symm)
  have Kp := Kp.ext E16
  have Z_ : n0 ≤ h16.size := Nat.le_trans Z_ E16.1
  have V_b16 : Arv Z h16 b16 k16 .byte (1 : Int32) [(.int (0 : Int32))] (.int (0 : Int32)) := (Arv.new A16 (by decide)).pad (pad_rep [] (.int (0 : Int32)) 1)
  have E_b16 := Ex16
  refine OwnGo.st st16 ?_
  show OwnGo p e below s _ _ _ T16 (mkF m 3 #[.val (.int cc)] [(.ref b16)])
  refine OwnGo.st (fun _ kk => XS.dup X16.here hx rfl (hb hby d9_3) rfl rfl kk) ?_
  show OwnGo p e below s _ _ _ T16 (mkF m 4 #[.val (.int cc)] [(.ref b16), (.ref b16)])
  refine OwnGo.st (fun _ kk => XS.iconst X16.here hx rfl (hb hby d9_4) kk) ?_
  show OwnGo p e below s _ _ _ T16 (mkF m 5 #[.val (.int cc)] [(.int (0 : Int32)), (.ref b16), (.ref b16)])
  refine OwnGo.st (fun _ kk => XS.iloadN X16.here hx rfl (hb hby d9_5) rfl  kk) ?_
  show OwnGo p e below s _ _ _ T16 (mkF m 6 #[.val (.int cc)] [(.int cc), (.int (0 : Int32)), (.ref b16), (.ref b16)])
  refine OwnGo.st (fun _ kk => XS.i2b X16.here hx rfl (hb hby d9_6) rfl kk) ?_
  show OwnGo p e below s _ _ _ T16 (mkF m 7 #[.val (.int cc)] [(.int (cc.toInt8.toInt32)), (.int (0 : Int32)), (.ref b16), (.ref b16)])
  obtain ⟨cl17, Ar17, q17, S17, N17, H17, G17⟩ := id V_b16
  have hin17 : ¬ ((0 : Int32) < 0 ∨ cl17.slots.size ≤ ((0 : Int32)).toNatClampNeg) := inb_of S17 ⟨by decide, by decide⟩
  obtain ⟨T17, h17, X17, e17, W17, st17⟩ := stB X16 hx hZ e16 Ar17 (j := (0 : Int32)) hin17 (g := (mkF m 7 #[.val (.int cc)] [(.int (cc.toInt8.toInt32)), (.int (0 : Int32)), (.ref b16), (.ref b16)])) rfl rfl (hb hby d9_7)
  have V_b16 : Arv Z h17 b16 k16 .byte (1 : Int32) [(.int (nar .byte (cc.toInt8.toInt32)))] (.int (0 : Int32)) := Arv.set Ar17 q17 S17 N17 H17 G17 (fits_nar_byte _) W17 0 rfl (Nat.le_of_ble_eq_true rfl)
  rw [show nar .byte (cc.toInt8.toInt32) = (cc.toInt8.toInt32) from own_nb _] at V_b16
  have E_b16 := E_b16.wr W17
  have Kp := Kp.wr W17 (Or.inr sz_b16)
  have N17 := Fr.snoc X17 N0 g_b16
  have Z_ : n0 ≤ h17.size := by rw [W17.size]; exact Z_
  refine OwnGo.st st17 ?_
  show OwnGo p e below s _ _ _ T17 (mkF m 8 #[.val (.int cc)] [(.ref b16)])
  exact OwnGo.ret X17 hx hret hlk rfl (Or.inr (Or.inr (Or.inr (Or.inr ⟨rfl, rfl, rfl⟩)))) (hb hby d9_8) (by show QtoB1 Z cc h0 n0 _ T17.heap _; rw [e17]; exact ⟨b16, k16, rfl, N17, Kp, V_b16, sz_b16⟩) (by decide) (by decide)
def QiniBB (Z : State) (x : Addr) (t : Addr) (h0 : Heap) (n0 : Nat) (v : Option Value) (h : Heap) (L : List Loc) : Prop := v = none ∧ Fr n0 L ∧ Keep h0 h [x] ∧ Exa Z h x "java/lang/String" ∧ Fld Z h x "java/lang/String" "coder" "B" (.int (0 : Int32)) ∧ Fld Z h x "java/lang/String" "value" "[B" (.ref t)
set_option maxRecDepth 65536 in
set_option maxHeartbeats 40000000 in
theorem rminiBB (l : Launch) (Z : State) (a0 : Array Value) (hw : ∀ d ∈ tables_1, d.before a0 Z = true) (ws : List Jvm.Cond) (x : Addr) (t : Addr) (h0 : Heap) (n0 : Nat) (Z0 : n0 ≤ h0.size) (E_x : Exa Z h0 x "java/lang/String") (Fv : Fld Z h0 x "java/lang/String" "value" "[B" .null) (Fc : Fld Z h0 x "java/lang/String" "coder" "B" (.int (0 : Int32))) (g_x : n0 ≤ x) :
    MetFree l (⟨"java/lang/String", "<init>", "([BB)V"⟩ : MethodName) (head1 (Jvm.Cond.code (⟨"java/lang/String", "<init>", "([BB)V"⟩ : MethodName) jdk_42_method_151_code 3 none :: ws) ({ frames := 1, cells := 0, slots := 0, locals := 12 } : Room)) (fun as_ UU => as_ = #[(.ref x), (.ref t), (.int (0 : Int32))] ∧ Z.Warmed39 UU.vm ∧ UU.heap = h0) (fun _ _ _ _ _ => True) (fun _ UU oo UU' => ∃ vv LL, oo = .returned vv ∧ (QiniBB Z x t h0 n0) vv UU'.heap LL ∧ FrameEnd UU oo UU' LL ({ frames := 1, cells := 0, slots := 0, locals := 12 } : Room).cells ({ frames := 1, cells := 0, slots := 0, locals := 12 } : Room).slots) := by
  refine own_met (plainFor_of_name pn_5) ?_
  intro p e s m below meth c s₁ X0 hx hby hml hret hlk hown hnm hZ e0
  have N0 := Fr.nil n0
  have Z_ := Z0
  refine OwnGo.cast (ef_iniBB m x t (0 : Int32)) ?_
  show OwnGo p e below s _ _ _ s₁ (mkF m 0 #[.val (.ref x), .val (.ref t), .val (.int (0 : Int32))] [])
  have Kp : Keep h0 h0 [x] := Keep.refl h0 [x]
  refine OwnGo.st (fun _ kk => XS.aloadN X0.here hx rfl (hb hby d10_0) rfl rfl  kk) ?_
  show OwnGo p e below s _ _ _ s₁ (mkF m 1 #[.val (.ref x), .val (.ref t), .val (.int (0 : Int32))] [(.ref x)])
  obtain ⟨T18, X18, e18, st18⟩ := initO X0 hx hZ hown (hw _ (List.mem_of_getElem? (i := 60) rfl)) (hw _ (List.mem_of_getElem? (i := 15) rfl)) (hw _ (List.mem_of_getElem? (i := 16) rfl)) e0 (g := (mkF m 1 #[.val (.ref x), .val (.ref t), .val (.int (0 : Int32))] [(.ref x)])) rfl (by rw [hml]; rfl) rfl (hb hby d10_1) (by decide) (W := 0) (by show 2 * 0 + _ ≤ _; exact Nat.le_of_eq rfl) (by decide)
  refine OwnGo.st st18 ?_
  show OwnGo p e below s _ _ _ T18 (mkF m 4 #[.val (.ref x), .val (.ref t), .val (.int (0 : Int32))] [])
  refine OwnGo.st (fun _ kk => XS.aloadN X18.here hx rfl (hb hby d10_4) rfl rfl  kk) ?_
  show OwnGo p e below s _ _ _ T18 (mkF m 5 #[.val (.ref x), .val (.ref t), .val (.int (0 : Int32))] [(.ref x)])
  refine OwnGo.st (fun _ kk => XS.aloadN X18.here hx rfl (hb hby d10_5) rfl rfl  kk) ?_
  show OwnGo p e below s _ _ _ T18 (mkF m 6 #[.val (.ref x), .val (.ref t), .val (.int (0 : Int32))] [(.ref t), (.ref x)])
  obtain ⟨T19, h19, X19, e19, W19, st19⟩ := putF X18 hx hZ hown (host := "") (Or.inl (hw _ (List.mem_of_getElem? (i := 32) rfl))) Via.refl e18 Fv E_x (Or.inr ⟨(hw _ (List.mem_of_getElem? (i := 4) rfl)), rfl, hnm⟩) (hw _ (List.mem_of_getElem? (i := 2) rfl)) (ty := (.array .byte)) (by decide) rfl rfl (g := (mkF m 6 #[.val (.ref x), .val (.ref t), .val (.int (0 : Int32))] [(.ref t), (.ref x)])) rfl rfl (hb hby d10_6)
  have E_x := E_x.wr W19
  have Fv := Fv.same W19
  have Fc := Fc.other W19 (Or.inr (slot_ne (Or.inr (hw _ (List.mem_of_getElem? (i := 5) rfl))) (Or.inr (hw _ (List.mem_of_getElem? (i := 4) rfl))) (by decide) (t := .byte) (t' := (.array .byte)) (by decide) (by decide)))
  have Kp := Kp.wr W19 (Or.inl (List.mem_of_getElem? (i := 0) rfl))
  have N19 := Fr.snoc X19 N0 g_x
  have Z_ : n0 ≤ h19.size := by rw [W19.size]; exact Z_
  refine OwnGo.st st19 ?_
  show OwnGo p e below s _ _ _ T19 (mkF m 9 #[.val (.ref x), .val (.ref t), .val (.int (0 : Int32))] [])
  refine OwnGo.st (fun _ kk => XS.aloadN X19.here hx rfl (hb hby d10_9) rfl rfl  kk) ?_
  show OwnGo p e below s _ _ _ T19 (mkF m 10 #[.val (.ref x), .val (.ref t), .val (.int (0 : Int32))] [(.ref x)])
  refine OwnGo.st (fun _ kk => XS.iloadN X19.here hx rfl (hb hby d10_10) rfl  kk) ?_
  show OwnGo p e below s _ _ _ T19 (mkF m 11 #[.val (.ref x), .val (.ref t), .val (.int (0 : Int32))] [(.int (0 : Int32)), (.ref x)])
  obtain ⟨T20, h20, X20, e20, W20, st20⟩ := putFN X19 hx hZ hown (hw _ (List.mem_of_getElem? (i := 39) rfl)) Via.refl e19 Fc E_x (Or.inr ⟨(hw _ (List.mem_of_getElem? (i := 5) rfl)), rfl, hnm⟩) (hw _ (List.mem_of_getElem? (i := 2) rfl)) (ty := .byte) (v' := (.int (0 : Int32))) (by decide) rfl (by decide) (g := (mkF m 11 #[.val (.ref x), .val (.ref t), .val (.int (0 : Int32))] [(.int (0 : Int32)), (.ref x)])) rfl rfl (hb hby d10_11)
  have E_x := E_x.wr W20
  have Fv := Fv.other W20 (Or.inr (slot_ne (Or.inr (hw _ (List.mem_of_getElem? (i := 4) rfl))) (Or.inr (hw _ (List.mem_of_getElem? (i := 5) rfl))) (by decide) (t := (.array .byte)) (t' := .byte) (by decide) (by decide)))
  have Fc := Fc.same W20
  have Kp := Kp.wr W20 (Or.inl (List.mem_of_getElem? (i := 0) rfl))
  have N20 := Fr.snoc X20 N19 g_x
  have Z_ : n0 ≤ h20.size := by rw [W20.size]; exact Z_
  refine OwnGo.st st20 ?_
  show OwnGo p e below s _ _ _ T20 (mkF m 14 #[.val (.ref x), .val (.ref t), .val (.int (0 : Int32))] [])
  exact OwnGo.retV X20 hx hret hlk (hb hby d10_14) (by show QiniBB Z x t h0 n0 _ T20.heap _; rw [e20]; exact ⟨rfl, N20, Kp, E_x, Fc, Fv⟩) (by decide) (by decide)
def QvalueOfC (Z : State) (cc : Int32) (zc : Int32) (h0 : Heap) (n0 : Nat) (v : Option Value) (h : Heap) (L : List Loc) : Prop := ∃ (x t : Addr) (kb : ClassId), v = some (.ref x) ∧ Fr n0 L ∧ Keep h0 h [] ∧ Exa Z h x "java/lang/String" ∧ Fld Z h x "java/lang/String" "coder" "B" (.int (0 : Int32)) ∧ Fld Z h x "java/lang/String" "value" "[B" (.ref t) ∧ Arv Z h t kb .byte (1 : Int32) [(.int cc.toInt8.toInt32)] (.int (0 : Int32)) ∧ h0.size ≤ x ∧ h0.size ≤ t
set_option maxRecDepth 65536 in
set_option maxHeartbeats 40000000 in
theorem rmvalueOfC (l : Launch) (Z : State) (a0 : Array Value) (hw : ∀ d ∈ tables_1, d.before a0 Z = true) (ws : List Jvm.Cond) (cc : Int32) (zc : Int32) (h0 : Heap) (n0 : Nat) (Z0 : n0 ≤ h0.size) (O_ : Old Z n0 h0) (S_CS : Sta Z Z.heap "java/lang/String" "COMPACT_STRINGS" "Z" (.int zc)) (P_CS : ¬ zc = (0 : Int32)) (hc : ¬ (255 : Int32) < cc) :
    MetFree l (⟨"java/lang/String", "valueOf", "(C)Ljava/lang/String;"⟩ : MethodName) (head1 (Jvm.Cond.code (⟨"java/lang/String", "valueOf", "(C)Ljava/lang/String;"⟩ : MethodName) jdk_42_method_139_code 1 (some (.object "java/lang/String")) :: ws) ({ frames := 2, cells := 2, slots := 5, locals := 27 } : Room)) (fun as_ UU => as_ = #[(.int cc)] ∧ Z.Warmed39 UU.vm ∧ UU.heap = h0) (fun _ _ _ _ _ => True) (fun _ UU oo UU' => ∃ vv LL, oo = .returned vv ∧ (QvalueOfC Z cc zc h0 n0) vv UU'.heap LL ∧ FrameEnd UU oo UU' LL ({ frames := 2, cells := 2, slots := 5, locals := 27 } : Room).cells ({ frames := 2, cells := 2, slots := 5, locals := 27 } : Room).slots) := by
  refine own_met (plainFor_of_name pn_5) ?_
  intro p e s m below meth c s₁ X0 hx hby hml hret hlk hown hnm hZ e0
  have N0 := Fr.nil n0
  have Z_ := Z0
  refine OwnGo.cast (ef_valueOfC m cc) ?_
  show OwnGo p e below s _ _ _ s₁ (mkF m 0 #[.val (.int cc)] [])
  have Kp : Keep h0 h0 [] := Keep.refl h0 []
  obtain ⟨T21, X21, e21, st21⟩ := getS2 X0 hx hZ hown (host := "") (Or.inl (hw _ (List.mem_of_getElem? (i := 38) rfl))) Via.refl e0 (S_CS.ext O_.2) (g := (mkF m 0 #[.val (.int cc)] [])) rfl (hb hby d7_0)
  refine OwnGo.st st21 ?_
  show OwnGo p e below s _ _ _ T21 (mkF m 3 #[.val (.int cc)] [(.int zc)])
  refine OwnGo.st (fun _ kk => XS.ifNo X21.here hx rfl (hb hby d7_3) rfl ((if0 _ _).trans (feq (P_CS : ¬ (zc = (0 : Int32)))).1) kk) ?_
  show OwnGo p e below s _ _ _ T21 (mkF m 6 #[.val (.int cc)] [])
  refine OwnGo.st (fun _ kk => XS.iloadN X21.here hx rfl (hb hby d7_6) rfl  kk) ?_
  show OwnGo p e below s _ _ _ T21 (mkF m 7 #[.val (.int cc)] [(.int cc)])
  obtain ⟨_, _, ⟨T22, L22, k22, n22⟩, -, X22, ⟨Lc22, hQ22, l22, y22, z22⟩, st22⟩ := Jvm.LawKit.callS X21 hx (y := (⟨"java/lang/StringLatin1", "canEncode", "(C)Z"⟩ : MethodName)) hown (mvT hZ (hw _ (List.mem_of_getElem? (i := 48) rfl))) (mvT hZ (hw _ (List.mem_of_getElem? (i := 49) rfl))) (mvT hZ (hw _ (List.mem_of_getElem? (i := 50) rfl))) (mvT hZ (hw _ (List.mem_of_getElem? (i := 51) rfl))) (by decide) (backOf (W := 0) (rmcanEnc l Z a0 hw [] cc h0 n0 Z_ hc) hZ (hw _ (List.mem_of_getElem? (i := 51) rfl)) (hw _ (List.mem_of_getElem? (i := 50) rfl)) (by decide) (by decide)) (g := (mkF m 7 #[.val (.int cc)] [(.int cc)])) rfl (by rw [hml]; rfl) (argsL := [(.int cc)]) (rest := []) (lenOf pd_5 rfl) rfl (by show 2 * 0 + _ ≤ _; exact Nat.le_of_eq rfl) (hb hby d7_7) (fun _ _ => ⟨rfl, e21, (by decide : 0 + 0 ≤ _), (by decide : 0 + 0 ≤ _)⟩)
  dsimp only [Pt.U, Pt.locs, Pt.cells, Pt.slots] at X22 l22 y22 z22 st22 hQ22
  subst l22 y22 z22
  obtain ⟨rfl, N22q, e22⟩ := hQ22
  have N22 := Fr.app N0 N22q
  refine OwnGo.st st22 ?_
  show OwnGo p e below s _ _ _ T22 (mkF m 10 #[.val (.int cc)] [(.int (1 : Int32))])
  refine OwnGo.st (fun _ kk => XS.ifNo X22.here hx rfl (hb hby d7_10) rfl ((if0 _ _).trans (feq ((by decide) : ¬ ((1 : Int32) = (0 : Int32)))).1) kk) ?_
  show OwnGo p e below s _ _ _ T22 (mkF m 13 #[.val (.int cc)] [])
  obtain ⟨T23, h23, X23, e23, E23, A23, D23, -, st23⟩ := newO X22 hx hZ hown (hw _ (List.mem_of_getElem? (i := 52) rfl)) (hw _ (List.mem_of_getElem? (i := 2) rfl)) (hw _ (List.mem_of_getElem? (i := 1) rfl)) e22 (g := (mkF m 13 #[.val (.int cc)] [])) rfl (hb hby d7_13) (by decide) (by decide)
  obtain ⟨b23, g23⟩ : ∃ z, z = h0.size := ⟨_, rfl⟩
  rw [← g23] at A23 D23 st23
  have g_b23 : n0 ≤ b23 := Nat.le_trans Z_ (Nat.le_of_eq g23.symm)
  have sz_b23 : h0.size ≤ b23 := Nat.le_trans Kp.1 (Nat.le_of_eq g23.symm)
  have O_ := O_.ext E23
  have Kp := Kp.ext E23
  have Z_ : n0 ≤ h23.size := Nat.le_trans Z_ E23.1
  have E_b23 := A23
  have F_value_b23 : Fld Z h23 b23 "java/lang/String" "value" "[B" .null := D23 (Or.inr (hw _ (List.mem_of_getElem? (i := 4) rfl))) (ty := (.array .byte)) (by decide)
  have F_coder_b23 : Fld Z h23 b23 "java/lang/String" "coder" "B" (.int (0 : Int32)) := D23 (Or.inr (hw _ (List.mem_of_getElem? (i := 5) rfl))) (ty := .byte) (by decide)
  refine OwnGo.st st23 ?_
  show OwnGo p e below s _ _ _ T23 (mkF m 16 #[.val (.int cc)] [(.ref b23)])
  refine OwnGo.st (fun _ kk => XS.dup X23.here hx rfl (hb hby d7_16) rfl rfl kk) ?_
  show OwnGo p e below s _ _ _ T23 (mkF m 17 #[.val (.int cc)] [(.ref b23), (.ref b23)])
  refine OwnGo.st (fun _ kk => XS.iloadN X23.here hx rfl (hb hby d7_17) rfl  kk) ?_
  show OwnGo p e below s _ _ _ T23 (mkF m 18 #[.val (.int cc)] [(.int cc), (.ref b23), (.ref b23)])
  obtain ⟨_, _, ⟨T24, L24, k24, n24⟩, -, X24, ⟨Lc24, hQ24, l24, y24, z24⟩, st24⟩ := Jvm.LawKit.callS X23 hx (y := (⟨"java/lang/StringLatin1", "toBytes", "(C)[B"⟩ : MethodName)) hown (mvT hZ (hw _ (List.mem_of_getElem? (i := 53) rfl))) (mvT hZ (hw _ (List.mem_of_getElem? (i := 54) rfl))) (mvT hZ (hw _ (List.mem_of_getElem? (i := 50) rfl))) (mvT hZ (hw _ (List.mem_of_getElem? (i := 55) rfl))) (by decide) (backOf (W := 2) (rmtoB1 l Z a0 hw [] cc h23 n0 Z_ ) hZ (hw _ (List.mem_of_getElem? (i := 55) rfl)) (hw _ (List.mem_of_getElem? (i := 50) rfl)) (by decide) (by decide)) (g := (mkF m 18 #[.val (.int cc)] [(.int cc), (.ref b23), (.ref b23)])) rfl (by rw [hml]; rfl) (argsL := [(.int cc)]) (rest := [(.ref b23), (.ref b23)]) (lenOf pd_6 rfl) rfl (by show 2 * 0 + _ ≤ _; exact Nat.le_of_eq rfl) (hb hby d7_18) (fun _ _ => ⟨rfl, e23, (by decide : 1 + 1 ≤ _), (by decide : 4 + 1 ≤ _)⟩)
  dsimp only [Pt.U, Pt.locs, Pt.cells, Pt.slots] at X24 l24 y24 z24 st24 hQ24
  subst l24 y24 z24
  obtain ⟨t24, kb24, rfl, N24q, K24, V24, zt24⟩ := hQ24
  have N24 := Fr.app N22 N24q
  have ne_b23_t24 : b23 ≠ t24 := Nat.ne_of_lt (Nat.lt_of_lt_of_le E_b23.lt zt24)
  have g_t24 : n0 ≤ t24 := Nat.le_trans Z_ zt24
  have sz_t24 : h0.size ≤ t24 := Nat.le_trans Kp.1 zt24
  have Z_ : n0 ≤ T24.heap.size := Nat.le_trans Z_ K24.1
  have E_b23 := E_b23.keep K24
  have F_value_b23 := F_value_b23.keep K24 nin0
  have F_coder_b23 := F_coder_b23.keep K24 nin0
  have O_ := O_.keep K24 all0
  have Kp := Kp.trans K24 all0
  refine OwnGo.st st24 ?_
  show OwnGo p e below s _ _ _ T24 (mkF m 21 #[.val (.int cc)] [(.ref t24), (.ref b23), (.ref b23)])
  refine OwnGo.st (fun _ kk => XS.iconst X24.here hx rfl (hb hby d7_21) kk) ?_
  show OwnGo p e below s _ _ _ T24 (mkF m 22 #[.val (.int cc)] [(.int (0 : Int32)), (.ref t24), (.ref b23), (.ref b23)])
  obtain ⟨_, _, ⟨T25, L25, k25, n25⟩, -, X25, ⟨Lc25, hQ25, l25, y25, z25⟩, st25⟩ := X24.specialBack hx (y := (⟨"java/lang/String", "<init>", "([BB)V"⟩ : MethodName)) rfl hown (mvT hZ (hw _ (List.mem_of_getElem? (i := 56) rfl))) (mvT hZ (hw _ (List.mem_of_getElem? (i := 57) rfl))) (mvT hZ (hw _ (List.mem_of_getElem? (i := 59) rfl))) (by decide) (backOf (W := 1) (rminiBB l Z a0 hw [] b23 t24 T24.heap n0 Z_ E_b23 F_value_b23 F_coder_b23 g_b23) hZ (hw _ (List.mem_of_getElem? (i := 59) rfl)) (hw _ (List.mem_of_getElem? (i := 1) rfl)) (by decide) (by decide)) (g := (mkF m 22 #[.val (.int cc)] [(.int (0 : Int32)), (.ref t24), (.ref b23), (.ref b23)])) rfl (by rw [hml]; rfl) (Steps.refl _) (a := b23) (argsL := [(.ref t24), (.int (0 : Int32))]) (rest := [(.ref b23)]) (lenOf pd_7 rfl) rfl (by show 2 * 0 + _ ≤ _; exact Nat.le_of_eq rfl) (hb hby d7_22) (fun _ _ => ⟨rfl, rfl, (by decide : 2 + 0 ≤ _), (by decide : 5 + 0 ≤ _)⟩)
  dsimp only [Pt.U, Pt.locs, Pt.cells, Pt.slots] at X25 l25 y25 z25 st25 hQ25
  subst l25 y25 z25
  obtain ⟨rfl, N25q, K25, Ex25, Fc25, Fv25⟩ := hQ25
  have N25 := Fr.app N24 N25q
  have Z_ : n0 ≤ T25.heap.size := Nat.le_trans Z_ K25.1
  have E_b23 := E_b23.keep K25
  have V24 := V24.keep K25 (ninS (Ne.symm ne_b23_t24) nin0)
  have O_ := O_.keep K25 (allS g_b23 all0)
  have Kp := Kp.trans K25 (allS (Or.inr sz_b23) all0)
  refine OwnGo.st (fun _ kk => st25.trans kk) ?_
  show OwnGo p e below s _ _ _ T25 (mkF m 25 #[.val (.int cc)] [(.ref b23)])
  exact OwnGo.ret X25 hx hret hlk rfl (Or.inr (Or.inr (Or.inr (Or.inr ⟨rfl, rfl, rfl⟩)))) (hb hby d7_25) (by show QvalueOfC Z cc zc h0 n0 _ T25.heap _; exact ⟨b23, t24, kb24, rfl, N25, Kp, Ex25, Fc25, Fv25, V24, sz_b23, sz_t24⟩) (by decide) (by decide)
def Qfill (Z : State) (a : Addr) (b : Int32) (n : Nat) (h0 : Heap) (n0 : Nat) (v : Option Value) (h : Heap) (L : List Loc) : Prop := v = none ∧ Fr n0 L ∧ Keep h0 h [a] ∧ OwnFn Z h a .byte n (fun _ => nar .byte b)
set_option maxRecDepth 65536 in
set_option maxHeartbeats 40000000 in
theorem sg_fill {p : Program} {l : Launch} {e : Env} {s : State} {m : MethodId} {below : List Frame} {meth : Method} {c : Code} {Z : State} {a0 : Array Value} {T0 : State} {locs : List Loc} (a : Addr) (b : Int32) (n : Nat) (k : Nat) (i : Nat) (h1 : Heap) (h0 : Heap) (n0 : Nat) (hw : ∀ d ∈ tables_1, d.before a0 Z = true)
    (X0 : Stand p l e ({ frames := 0, cells := 0, slots := 0, locals := 0 } : Room) s m #[(.ref a), (.int b)] below meth c T0 locs 0 0) (hx : p.tables.exec = Jvm.exec) (hby : c.code = jdk_65_method_109_code) (hml : c.maxLocals = 4) (hret : meth.sig.returnType = none) (hlk : meth.locks = false) (hown : s.vm.findClass "java/util/Arrays" = some m.cls) (hnm : meth.name = "fill") (hZ : Z.Warmed39 s.vm) (e0 : T0.heap = h1) (N0 : Fr n0 locs) (A : OwnFn Z h1 a .byte n (fun j => if j < i then nar .byte b else 0)) (g_a : n0 ≤ a) (hn : n < 2 ^ 31) (hik : i + k = n) (Kp : Keep h0 h1 [a]) :
    OwnGo p e below s ({ frames := 0, cells := 0, slots := 0, locals := 0 } : Room).cells ({ frames := 0, cells := 0, slots := 0, locals := 0 } : Room).slots (Qfill Z a b n h0 n0) T0 (mkF m 5 #[.val (.ref a), .val (.int b), .val (.int (Int32.ofNat i)), .val (.int (Int32.ofNat n))] []) := by
  induction k generalizing T0 locs i h1 with
  | zero =>
    refine OwnGo.st (fun _ kk => XS.iloadN X0.here hx rfl (hb hby d3_5) rfl  kk) ?_
    show OwnGo p e below s _ _ _ T0 (mkF m 6 #[.val (.ref a), .val (.int b), .val (.int (Int32.ofNat i)), .val (.int (Int32.ofNat n))] [(.int (Int32.ofNat i))])
    refine OwnGo.st (fun _ kk => XS.iloadN X0.here hx rfl (hb hby d3_6) rfl  kk) ?_
    show OwnGo p e below s _ _ _ T0 (mkF m 7 #[.val (.ref a), .val (.int b), .val (.int (Int32.ofNat i)), .val (.int (Int32.ofNat n))] [(.int (Int32.ofNat n)), (.int (Int32.ofNat i))])
    refine OwnGo.st (fun _ kk => XS.icmpYes X0.here hx rfl (pc0 := 7) (pc' := 20) rfl (hb hby d3_7) rfl (flt ((own_nlt (by omega)) : ¬ ((Int32.ofNat i) < (Int32.ofNat n)))).2.1 (by decide) (by decide) kk) ?_
    show OwnGo p e below s _ _ _ T0 (mkF m 20 #[.val (.ref a), .val (.int b), .val (.int (Int32.ofNat i)), .val (.int (Int32.ofNat n))] [])
    exact OwnGo.retV X0 hx hret hlk (hb hby d3_20) (by show Qfill Z a b n h0 n0 _ T0.heap _; rw [e0]; exact ⟨rfl, N0, Kp, own_fnc A (fun j hj => if_pos (by omega))⟩) (by decide) (by decide)
  | succ k ih =>
    refine OwnGo.st (fun _ kk => XS.iloadN X0.here hx rfl (hb hby d3_5) rfl  kk) ?_
    show OwnGo p e below s _ _ _ T0 (mkF m 6 #[.val (.ref a), .val (.int b), .val (.int (Int32.ofNat i)), .val (.int (Int32.ofNat n))] [(.int (Int32.ofNat i))])
    refine OwnGo.st (fun _ kk => XS.iloadN X0.here hx rfl (hb hby d3_6) rfl  kk) ?_
    show OwnGo p e below s _ _ _ T0 (mkF m 7 #[.val (.ref a), .val (.int b), .val (.int (Int32.ofNat i)), .val (.int (Int32.ofNat n))] [(.int (Int32.ofNat n)), (.int (Int32.ofNat i))])
    refine OwnGo.st (fun _ kk => XS.icmpNo X0.here hx rfl (hb hby d3_7) rfl (tlt ((own_lt (by omega) hn) : (Int32.ofNat i) < (Int32.ofNat n))).2.1 kk) ?_
    show OwnGo p e below s _ _ _ T0 (mkF m 10 #[.val (.ref a), .val (.int b), .val (.int (Int32.ofNat i)), .val (.int (Int32.ofNat n))] [])
    refine OwnGo.st (fun _ kk => XS.aloadN X0.here hx rfl (hb hby d3_10) rfl rfl  kk) ?_
    show OwnGo p e below s _ _ _ T0 (mkF m 11 #[.val (.ref a), .val (.int b), .val (.int (Int32.ofNat i)), .val (.int (Int32.ofNat n))] [(.ref a)])
    refine OwnGo.st (fun _ kk => XS.iloadN X0.here hx rfl (hb hby d3_11) rfl  kk) ?_
    show OwnGo p e below s _ _ _ T0 (mkF m 12 #[.val (.ref a), .val (.int b), .val (.int (Int32.ofNat i)), .val (.int (Int32.ofNat n))] [(.int (Int32.ofNat i)), (.ref a)])
    refine OwnGo.st (fun _ kk => XS.iloadN X0.here hx rfl (hb hby d3_12) rfl  kk) ?_
    show OwnGo p e below s _ _ _ T0 (mkF m 13 #[.val (.ref a), .val (.int b), .val (.int (Int32.ofNat i)), .val (.int (Int32.ofNat n))] [(.int b), (.int (Int32.ofNat i)), (.ref a)])
    obtain ⟨cl, Ar, Sz, Hz⟩ := id A
    obtain ⟨T1, h2, X1, e1, W1, st1⟩ := stB X0 hx hZ e0 Ar (j := (Int32.ofNat i)) (by rw [Sz]; exact within rfl (by omega) hn) (g := (mkF m 13 #[.val (.ref a), .val (.int b), .val (.int (Int32.ofNat i)), .val (.int (Int32.ofNat n))] [(.int b), (.int (Int32.ofNat i)), (.ref a)])) rfl rfl (hb hby d3_13)
    have A2 := A.set W1
    rw [clamp_of (c := i) rfl (by omega)] at A2
    have N1 := Fr.snoc X1 N0 g_a
    refine OwnGo.st st1 ?_
    show OwnGo p e below s _ _ _ T1 (mkF m 14 #[.val (.ref a), .val (.int b), .val (.int (Int32.ofNat i)), .val (.int (Int32.ofNat n))] [])
    refine OwnGo.st (fun _ kk => XS.iinc X1.here hx rfl (hb hby d3_14) rfl (l' := #[.val (.ref a), .val (.int b), .val (.int ((Int32.ofNat i) + (1 : Int32))), .val (.int (Int32.ofNat n))]) rfl kk) ?_
    show OwnGo p e below s _ _ _ T1 (mkF m 17 #[.val (.ref a), .val (.int b), .val (.int ((Int32.ofNat i) + (1 : Int32))), .val (.int (Int32.ofNat n))] [])
    rw [← inc_ofNat]
    show OwnGo p e below s _ _ _ T1 (mkF m 17 #[.val (.ref a), .val (.int b), .val (.int (Int32.ofNat (i + 1))), .val (.int (Int32.ofNat n))] [])
    refine OwnGo.st (fun _ kk => XS.goto X1.here hx rfl (pc0 := 17) (pc' := 5) rfl (hb hby d3_17) (by decide) (by decide) kk) ?_
    show OwnGo p e below s _ _ _ T1 (mkF m 5 #[.val (.ref a), .val (.int b), .val (.int (Int32.ofNat (i + 1))), .val (.int (Int32.ofNat n))] [])
    exact ih (i + 1) h2 X1 e1 N1 (own_fnc A2 (fun j hj => own_step_fn)) (by omega) (Kp.wr W1 (Or.inl (List.mem_of_getElem? (i := 0) rfl)))
set_option maxRecDepth 65536 in
set_option maxHeartbeats 40000000 in
theorem rmfill (l : Launch) (Z : State) (a0 : Array Value) (hw : ∀ d ∈ tables_1, d.before a0 Z = true) (ws : List Jvm.Cond) (a : Addr) (b : Int32) (n : Nat) (h0 : Heap) (n0 : Nat) (Z0 : n0 ≤ h0.size) (A : OwnFn Z h0 a .byte n (fun _ => 0)) (g_a : n0 ≤ a) (hn : n < 2 ^ 31) :
    MetFree l (⟨"java/util/Arrays", "fill", "([BB)V"⟩ : MethodName) (head1 (Jvm.Cond.code (⟨"java/util/Arrays", "fill", "([BB)V"⟩ : MethodName) jdk_65_method_109_code 4 none :: ws) ({ frames := 0, cells := 0, slots := 0, locals := 0 } : Room)) (fun as_ UU => as_ = #[(.ref a), (.int b)] ∧ Z.Warmed39 UU.vm ∧ UU.heap = h0) (fun _ _ _ _ _ => True) (fun _ UU oo UU' => ∃ vv LL, oo = .returned vv ∧ (Qfill Z a b n h0 n0) vv UU'.heap LL ∧ FrameEnd UU oo UU' LL ({ frames := 0, cells := 0, slots := 0, locals := 0 } : Room).cells ({ frames := 0, cells := 0, slots := 0, locals := 0 } : Room).slots) := by
  refine own_met (plainFor_of_name pn_3) ?_
  intro p e s m below meth c s₁ X0 hx hby hml hret hlk hown hnm hZ e0
  have N0 := Fr.nil n0
  have Z_ := Z0
  refine OwnGo.cast (ef_fill m a b) ?_
  show OwnGo p e below s _ _ _ s₁ (mkF m 0 #[.val (.ref a), .val (.int b), .unset, .unset] [])
  obtain ⟨cl0, Ar0, Sz0, -⟩ := id A
  refine OwnGo.st (fun _ kk => XS.iconst X0.here hx rfl (hb hby d3_0) kk) ?_
  show OwnGo p e below s _ _ _ s₁ (mkF m 1 #[.val (.ref a), .val (.int b), .unset, .unset] [(.int (0 : Int32))])
  refine OwnGo.st (fun _ kk => XS.istoreN X0.here hx rfl (hb hby d3_1) rfl (l' := #[.val (.ref a), .val (.int b), .val (.int (0 : Int32)), .unset]) rfl kk) ?_
  show OwnGo p e below s _ _ _ s₁ (mkF m 2 #[.val (.ref a), .val (.int b), .val (.int (0 : Int32)), .unset] [])
  refine OwnGo.st (fun _ kk => XS.aloadN X0.here hx rfl (hb hby d3_2) rfl rfl  kk) ?_
  show OwnGo p e below s _ _ _ s₁ (mkF m 3 #[.val (.ref a), .val (.int b), .val (.int (0 : Int32)), .unset] [(.ref a)])
  refine OwnGo.st (fun _ kk => own_len hZ (show cl0.slots.size.toInt32 = Int32.ofNat n by rw [Sz0]) Ar0 X0 e0 hx (g := (mkF m 3 #[.val (.ref a), .val (.int b), .val (.int (0 : Int32)), .unset] [(.ref a)])) rfl rfl (hb hby d3_3) _ kk) ?_
  show OwnGo p e below s _ _ _ s₁ (mkF m 4 #[.val (.ref a), .val (.int b), .val (.int (0 : Int32)), .unset] [(.int (Int32.ofNat n))])
  refine OwnGo.st (fun _ kk => XS.istoreN X0.here hx rfl (hb hby d3_4) rfl (l' := #[.val (.ref a), .val (.int b), .val (.int (0 : Int32)), .val (.int (Int32.ofNat n))]) rfl kk) ?_
  show OwnGo p e below s _ _ _ s₁ (mkF m 5 #[.val (.ref a), .val (.int b), .val (.int (0 : Int32)), .val (.int (Int32.ofNat n))] [])
  show OwnGo p e below s _ _ _ s₁ (mkF m 5 #[.val (.ref a), .val (.int b), .val (.int (Int32.ofNat 0)), .val (.int (Int32.ofNat n))] [])
  exact sg_fill a b n n 0 h0 h0 n0 hw X0 hx hby hml hret hlk hown hnm hZ e0 N0 (own_fnc A (fun j hj => (if_neg (Nat.not_lt_zero j)).symm)) g_a hn (Nat.zero_add n) (Keep.refl h0 [a])
def QconY (Z : State) (o : Addr) (t : Addr) (f : Nat → Int32) (cc : Int32) (h0 : Heap) (n0 : Nat) (v : Option Value) (h : Heap) (L : List Loc) : Prop := v = some (.int (1 : Int32)) ∧ Fr n0 L ∧ h = h0
set_option maxRecDepth 65536 in
set_option maxHeartbeats 40000000 in
theorem rmconY (l : Launch) (Z : State) (a0 : Array Value) (hw : ∀ d ∈ tables_1, d.before a0 Z = true) (ws : List Jvm.Cond) (o : Addr) (t : Addr) (f : Nat → Int32) (cc : Int32) (h0 : Heap) (n0 : Nat) (Z0 : n0 ≤ h0.size) (F : Fld Z h0 o "io/quintet/Alphabet" "values" "[B" (.ref t)) (G : OwnFn Z h0 t .byte 128 f) (h0c : ¬ cc < (0 : Int32)) (hlt : cc < (128 : Int32)) (hne : ¬ f cc.toNatClampNeg = (-1 : Int32)) :
    MetFree l (⟨"io/quintet/Alphabet", "contains", "(C)Z"⟩ : MethodName) (head1 (Jvm.Cond.code (⟨"io/quintet/Alphabet", "contains", "(C)Z"⟩ : MethodName) prog_1_method_3_code 2 (some .boolean) :: ws) ({ frames := 0, cells := 0, slots := 0, locals := 0 } : Room)) (fun as_ UU => as_ = #[(.ref o), (.int cc)] ∧ Z.Warmed39 UU.vm ∧ UU.heap = h0) (fun _ _ _ _ _ => True) (fun _ UU oo UU' => ∃ vv LL, oo = .returned vv ∧ (QconY Z o t f cc h0 n0) vv UU'.heap LL ∧ FrameEnd UU oo UU' LL ({ frames := 0, cells := 0, slots := 0, locals := 0 } : Room).cells ({ frames := 0, cells := 0, slots := 0, locals := 0 } : Room).slots) := by
  refine own_met (plainFor_of_name pn_6) ?_
  intro p e s m below meth c s₁ X0 hx hby hml hret hlk hown hnm hZ e0
  have N0 := Fr.nil n0
  have Z_ := Z0
  refine OwnGo.cast (ef_conY m o cc) ?_
  show OwnGo p e below s _ _ _ s₁ (mkF m 0 #[.val (.ref o), .val (.int cc)] [])
  obtain ⟨cl, Ar, Sz, Hz⟩ := id G
  refine OwnGo.st (fun _ kk => XS.iloadN X0.here hx rfl (hb hby d6_0) rfl  kk) ?_
  show OwnGo p e below s _ _ _ s₁ (mkF m 1 #[.val (.ref o), .val (.int cc)] [(.int cc)])
  refine OwnGo.st (fun _ kk => XS.aloadN X0.here hx rfl (hb hby d6_1) rfl rfl  kk) ?_
  show OwnGo p e below s _ _ _ s₁ (mkF m 2 #[.val (.ref o), .val (.int cc)] [(.ref o), (.int cc)])
  obtain ⟨T26, X26, e26, st26⟩ := getF X0 hx hZ hown (host := "") (Or.inl (hw _ (List.mem_of_getElem? (i := 17) rfl))) Via.refl e0 F (g := (mkF m 2 #[.val (.ref o), .val (.int cc)] [(.ref o), (.int cc)])) rfl rfl (hb hby d6_2)
  refine OwnGo.st st26 ?_
  show OwnGo p e below s _ _ _ T26 (mkF m 5 #[.val (.ref o), .val (.int cc)] [(.ref t), (.int cc)])
  refine OwnGo.st (fun _ kk => own_len hZ (show cl.slots.size.toInt32 = (128 : Int32) by rw [Sz]; rfl) Ar X26 e26 hx (g := (mkF m 5 #[.val (.ref o), .val (.int cc)] [(.ref t), (.int cc)])) rfl rfl (hb hby d6_5) _ kk) ?_
  show OwnGo p e below s _ _ _ T26 (mkF m 6 #[.val (.ref o), .val (.int cc)] [(.int (128 : Int32)), (.int cc)])
  refine OwnGo.st (fun _ kk => XS.icmpNo X26.here hx rfl (hb hby d6_6) rfl (tlt (hlt : cc < (128 : Int32))).2.1 kk) ?_
  show OwnGo p e below s _ _ _ T26 (mkF m 9 #[.val (.ref o), .val (.int cc)] [])
  refine OwnGo.st (fun _ kk => XS.aloadN X26.here hx rfl (hb hby d6_9) rfl rfl  kk) ?_
  show OwnGo p e below s _ _ _ T26 (mkF m 10 #[.val (.ref o), .val (.int cc)] [(.ref o)])
  obtain ⟨T27, X27, e27, st27⟩ := getF X26 hx hZ hown (host := "") (Or.inl (hw _ (List.mem_of_getElem? (i := 17) rfl))) Via.refl e26 F (g := (mkF m 10 #[.val (.ref o), .val (.int cc)] [(.ref o)])) rfl rfl (hb hby d6_10)
  refine OwnGo.st st27 ?_
  show OwnGo p e below s _ _ _ T27 (mkF m 13 #[.val (.ref o), .val (.int cc)] [(.ref t)])
  refine OwnGo.st (fun _ kk => XS.iloadN X27.here hx rfl (hb hby d6_13) rfl  kk) ?_
  show OwnGo p e below s _ _ _ T27 (mkF m 14 #[.val (.ref o), .val (.int cc)] [(.int cc), (.ref t)])
  have hj : cc.toNatClampNeg < 128 := own_c128 h0c hlt
  refine OwnGo.st (fun _ kk => X27.baloadBytes hx (j := cc) (v := (.int (f cc.toNatClampNeg))) (by first | exact Ar.1 | (rw [e27]; exact Ar.1)) (State.isArrayOf_alike hZ.alike Ar.2.1) Ar.2.2 (by rw [Sz]; exact fun q => q.elim h0c (fun q => absurd hj (Nat.not_lt.mpr q))) (Hz _ hj) (g := (mkF m 14 #[.val (.ref o), .val (.int cc)] [(.int cc), (.ref t)])) rfl rfl (hb hby d6_14) _ kk) ?_
  show OwnGo p e below s _ _ _ T27 (mkF m 15 #[.val (.ref o), .val (.int cc)] [(.int (f cc.toNatClampNeg))])
  refine OwnGo.st (fun _ kk => XS.iconst X27.here hx rfl (hb hby d6_15) kk) ?_
  show OwnGo p e below s _ _ _ T27 (mkF m 16 #[.val (.ref o), .val (.int cc)] [(.int (-1 : Int32)), (.int (f cc.toNatClampNeg))])
  refine OwnGo.st (fun _ kk => XS.icmpNo X27.here hx rfl (hb hby d6_16) rfl (feq (hne : ¬ ((f cc.toNatClampNeg) = (-1 : Int32)))).1 kk) ?_
  show OwnGo p e below s _ _ _ T27 (mkF m 19 #[.val (.ref o), .val (.int cc)] [])
  refine OwnGo.st (fun _ kk => XS.iconst X27.here hx rfl (hb hby d6_19) kk) ?_
  show OwnGo p e below s _ _ _ T27 (mkF m 20 #[.val (.ref o), .val (.int cc)] [(.int (1 : Int32))])
  refine OwnGo.st (fun _ kk => XS.goto X27.here hx rfl (pc0 := 20) (pc' := 24) rfl (hb hby d6_20) (by decide) (by decide) kk) ?_
  show OwnGo p e below s _ _ _ T27 (mkF m 24 #[.val (.ref o), .val (.int cc)] [(.int (1 : Int32))])
  exact OwnGo.retN X27 hx (t := .boolean) hret hlk (by simp) (hb hby d6_24) (by show QconY Z o t f cc h0 n0 _ T27.heap _; rw [e27]; exact ⟨rfl, N0, rfl⟩) (by decide) (by decide)
def QconN (Z : State) (o : Addr) (t : Addr) (f : Nat → Int32) (cc : Int32) (h0 : Heap) (n0 : Nat) (v : Option Value) (h : Heap) (L : List Loc) : Prop := v = some (.int (0 : Int32)) ∧ Fr n0 L ∧ h = h0
set_option maxRecDepth 65536 in
set_option maxHeartbeats 40000000 in
theorem rmconN (l : Launch) (Z : State) (a0 : Array Value) (hw : ∀ d ∈ tables_1, d.before a0 Z = true) (ws : List Jvm.Cond) (o : Addr) (t : Addr) (f : Nat → Int32) (cc : Int32) (h0 : Heap) (n0 : Nat) (Z0 : n0 ≤ h0.size) (F : Fld Z h0 o "io/quintet/Alphabet" "values" "[B" (.ref t)) (G : OwnFn Z h0 t .byte 128 f) (h0c : ¬ cc < (0 : Int32)) (hlt : cc < (128 : Int32)) (hne : f cc.toNatClampNeg = (-1 : Int32)) :
    MetFree l (⟨"io/quintet/Alphabet", "contains", "(C)Z"⟩ : MethodName) (head1 (Jvm.Cond.code (⟨"io/quintet/Alphabet", "contains", "(C)Z"⟩ : MethodName) prog_1_method_3_code 2 (some .boolean) :: ws) ({ frames := 0, cells := 0, slots := 0, locals := 0 } : Room)) (fun as_ UU => as_ = #[(.ref o), (.int cc)] ∧ Z.Warmed39 UU.vm ∧ UU.heap = h0) (fun _ _ _ _ _ => True) (fun _ UU oo UU' => ∃ vv LL, oo = .returned vv ∧ (QconN Z o t f cc h0 n0) vv UU'.heap LL ∧ FrameEnd UU oo UU' LL ({ frames := 0, cells := 0, slots := 0, locals := 0 } : Room).cells ({ frames := 0, cells := 0, slots := 0, locals := 0 } : Room).slots) := by
  refine own_met (plainFor_of_name pn_6) ?_
  intro p e s m below meth c s₁ X0 hx hby hml hret hlk hown hnm hZ e0
  have N0 := Fr.nil n0
  have Z_ := Z0
  refine OwnGo.cast (ef_conN m o cc) ?_
  show OwnGo p e below s _ _ _ s₁ (mkF m 0 #[.val (.ref o), .val (.int cc)] [])
  obtain ⟨cl, Ar, Sz, Hz⟩ := id G
  refine OwnGo.st (fun _ kk => XS.iloadN X0.here hx rfl (hb hby d6_0) rfl  kk) ?_
  show OwnGo p e below s _ _ _ s₁ (mkF m 1 #[.val (.ref o), .val (.int cc)] [(.int cc)])
  refine OwnGo.st (fun _ kk => XS.aloadN X0.here hx rfl (hb hby d6_1) rfl rfl  kk) ?_
  show OwnGo p e below s _ _ _ s₁ (mkF m 2 #[.val (.ref o), .val (.int cc)] [(.ref o), (.int cc)])
  obtain ⟨T28, X28, e28, st28⟩ := getF X0 hx hZ hown (host := "") (Or.inl (hw _ (List.mem_of_getElem? (i := 17) rfl))) Via.refl e0 F (g := (mkF m 2 #[.val (.ref o), .val (.int cc)] [(.ref o), (.int cc)])) rfl rfl (hb hby d6_2)
  refine OwnGo.st st28 ?_
  show OwnGo p e below s _ _ _ T28 (mkF m 5 #[.val (.ref o), .val (.int cc)] [(.ref t), (.int cc)])
  refine OwnGo.st (fun _ kk => own_len hZ (show cl.slots.size.toInt32 = (128 : Int32) by rw [Sz]; rfl) Ar X28 e28 hx (g := (mkF m 5 #[.val (.ref o), .val (.int cc)] [(.ref t), (.int cc)])) rfl rfl (hb hby d6_5) _ kk) ?_
  show OwnGo p e below s _ _ _ T28 (mkF m 6 #[.val (.ref o), .val (.int cc)] [(.int (128 : Int32)), (.int cc)])
  refine OwnGo.st (fun _ kk => XS.icmpNo X28.here hx rfl (hb hby d6_6) rfl (tlt (hlt : cc < (128 : Int32))).2.1 kk) ?_
  show OwnGo p e below s _ _ _ T28 (mkF m 9 #[.val (.ref o), .val (.int cc)] [])
  refine OwnGo.st (fun _ kk => XS.aloadN X28.here hx rfl (hb hby d6_9) rfl rfl  kk) ?_
  show OwnGo p e below s _ _ _ T28 (mkF m 10 #[.val (.ref o), .val (.int cc)] [(.ref o)])
  obtain ⟨T29, X29, e29, st29⟩ := getF X28 hx hZ hown (host := "") (Or.inl (hw _ (List.mem_of_getElem? (i := 17) rfl))) Via.refl e28 F (g := (mkF m 10 #[.val (.ref o), .val (.int cc)] [(.ref o)])) rfl rfl (hb hby d6_10)
  refine OwnGo.st st29 ?_
  show OwnGo p e below s _ _ _ T29 (mkF m 13 #[.val (.ref o), .val (.int cc)] [(.ref t)])
  refine OwnGo.st (fun _ kk => XS.iloadN X29.here hx rfl (hb hby d6_13) rfl  kk) ?_
  show OwnGo p e below s _ _ _ T29 (mkF m 14 #[.val (.ref o), .val (.int cc)] [(.int cc), (.ref t)])
  have hj : cc.toNatClampNeg < 128 := own_c128 h0c hlt
  refine OwnGo.st (fun _ kk => X29.baloadBytes hx (j := cc) (v := (.int (f cc.toNatClampNeg))) (by first | exact Ar.1 | (rw [e29]; exact Ar.1)) (State.isArrayOf_alike hZ.alike Ar.2.1) Ar.2.2 (by rw [Sz]; exact fun q => q.elim h0c (fun q => absurd hj (Nat.not_lt.mpr q))) (Hz _ hj) (g := (mkF m 14 #[.val (.ref o), .val (.int cc)] [(.int cc), (.ref t)])) rfl rfl (hb hby d6_14) _ kk) ?_
  show OwnGo p e below s _ _ _ T29 (mkF m 15 #[.val (.ref o), .val (.int cc)] [(.int (f cc.toNatClampNeg))])
  refine OwnGo.st (fun _ kk => XS.iconst X29.here hx rfl (hb hby d6_15) kk) ?_
  show OwnGo p e below s _ _ _ T29 (mkF m 16 #[.val (.ref o), .val (.int cc)] [(.int (-1 : Int32)), (.int (f cc.toNatClampNeg))])
  refine OwnGo.st (fun _ kk => XS.icmpYes X29.here hx rfl (pc0 := 16) (pc' := 23) rfl (hb hby d6_16) rfl (teq (hne : (f cc.toNatClampNeg) = (-1 : Int32))).1 (by decide) (by decide) kk) ?_
  show OwnGo p e below s _ _ _ T29 (mkF m 23 #[.val (.ref o), .val (.int cc)] [])
  refine OwnGo.st (fun _ kk => XS.iconst X29.here hx rfl (hb hby d6_23) kk) ?_
  show OwnGo p e below s _ _ _ T29 (mkF m 24 #[.val (.ref o), .val (.int cc)] [(.int (0 : Int32))])
  exact OwnGo.retN X29 hx (t := .boolean) hret hlk (by simp) (hb hby d6_24) (by show QconN Z o t f cc h0 n0 _ T29.heap _; rw [e29]; exact ⟨rfl, N0, rfl⟩) (by decide) (by decide)
def QconB (Z : State) (o : Addr) (t : Addr) (f : Nat → Int32) (cc : Int32) (h0 : Heap) (n0 : Nat) (v : Option Value) (h : Heap) (L : List Loc) : Prop := v = some (.int (0 : Int32)) ∧ Fr n0 L ∧ h = h0
set_option maxRecDepth 65536 in
set_option maxHeartbeats 40000000 in
theorem rmconB (l : Launch) (Z : State) (a0 : Array Value) (hw : ∀ d ∈ tables_1, d.before a0 Z = true) (ws : List Jvm.Cond) (o : Addr) (t : Addr) (f : Nat → Int32) (cc : Int32) (h0 : Heap) (n0 : Nat) (Z0 : n0 ≤ h0.size) (F : Fld Z h0 o "io/quintet/Alphabet" "values" "[B" (.ref t)) (G : OwnFn Z h0 t .byte 128 f) (h0c : ¬ cc < (0 : Int32)) (hlt : ¬ cc < (128 : Int32)) :
    MetFree l (⟨"io/quintet/Alphabet", "contains", "(C)Z"⟩ : MethodName) (head1 (Jvm.Cond.code (⟨"io/quintet/Alphabet", "contains", "(C)Z"⟩ : MethodName) prog_1_method_3_code 2 (some .boolean) :: ws) ({ frames := 0, cells := 0, slots := 0, locals := 0 } : Room)) (fun as_ UU => as_ = #[(.ref o), (.int cc)] ∧ Z.Warmed39 UU.vm ∧ UU.heap = h0) (fun _ _ _ _ _ => True) (fun _ UU oo UU' => ∃ vv LL, oo = .returned vv ∧ (QconB Z o t f cc h0 n0) vv UU'.heap LL ∧ FrameEnd UU oo UU' LL ({ frames := 0, cells := 0, slots := 0, locals := 0 } : Room).cells ({ frames := 0, cells := 0, slots := 0, locals := 0 } : Room).slots) := by
  refine own_met (plainFor_of_name pn_6) ?_
  intro p e s m below meth c s₁ X0 hx hby hml hret hlk hown hnm hZ e0
  have N0 := Fr.nil n0
  have Z_ := Z0
  refine OwnGo.cast (ef_conB m o cc) ?_
  show OwnGo p e below s _ _ _ s₁ (mkF m 0 #[.val (.ref o), .val (.int cc)] [])
  obtain ⟨cl, Ar, Sz, Hz⟩ := id G
  refine OwnGo.st (fun _ kk => XS.iloadN X0.here hx rfl (hb hby d6_0) rfl  kk) ?_
  show OwnGo p e below s _ _ _ s₁ (mkF m 1 #[.val (.ref o), .val (.int cc)] [(.int cc)])
  refine OwnGo.st (fun _ kk => XS.aloadN X0.here hx rfl (hb hby d6_1) rfl rfl  kk) ?_
  show OwnGo p e below s _ _ _ s₁ (mkF m 2 #[.val (.ref o), .val (.int cc)] [(.ref o), (.int cc)])
  obtain ⟨T30, X30, e30, st30⟩ := getF X0 hx hZ hown (host := "") (Or.inl (hw _ (List.mem_of_getElem? (i := 17) rfl))) Via.refl e0 F (g := (mkF m 2 #[.val (.ref o), .val (.int cc)] [(.ref o), (.int cc)])) rfl rfl (hb hby d6_2)
  refine OwnGo.st st30 ?_
  show OwnGo p e below s _ _ _ T30 (mkF m 5 #[.val (.ref o), .val (.int cc)] [(.ref t), (.int cc)])
  refine OwnGo.st (fun _ kk => own_len hZ (show cl.slots.size.toInt32 = (128 : Int32) by rw [Sz]; rfl) Ar X30 e30 hx (g := (mkF m 5 #[.val (.ref o), .val (.int cc)] [(.ref t), (.int cc)])) rfl rfl (hb hby d6_5) _ kk) ?_
  show OwnGo p e below s _ _ _ T30 (mkF m 6 #[.val (.ref o), .val (.int cc)] [(.int (128 : Int32)), (.int cc)])
  refine OwnGo.st (fun _ kk => XS.icmpYes X30.here hx rfl (pc0 := 6) (pc' := 23) rfl (hb hby d6_6) rfl (flt (hlt : ¬ (cc < (128 : Int32)))).2.1 (by decide) (by decide) kk) ?_
  show OwnGo p e below s _ _ _ T30 (mkF m 23 #[.val (.ref o), .val (.int cc)] [])
  refine OwnGo.st (fun _ kk => XS.iconst X30.here hx rfl (hb hby d6_23) kk) ?_
  show OwnGo p e below s _ _ _ T30 (mkF m 24 #[.val (.ref o), .val (.int cc)] [(.int (0 : Int32))])
  exact OwnGo.retN X30 hx (t := .boolean) hret hlk (by simp) (hb hby d6_24) (by show QconB Z o t f cc h0 n0 _ T30.heap _; rw [e30]; exact ⟨rfl, N0, rfl⟩) (by decide) (by decide)
def Qini0 (Z : State) (o : Addr) (a : Addr) (t : Addr) (kc : ClassId) (zc : Int32) (fmv : Value) (h0 : Heap) (n0 : Nat) (v : Option Value) (h : Heap) (L : List Loc) : Prop := v = none ∧ Fr n0 L ∧ Keep h0 h [o] ∧ Exa Z h o "io/quintet/Alphabet" ∧ ∃ b : Addr, Fld Z h o "io/quintet/Alphabet" "values" "[B" (.ref b) ∧ OwnFn Z h b .byte 128 (own_tab [])
set_option maxRecDepth 65536 in
set_option maxHeartbeats 40000000 in
theorem rmini0 (l : Launch) (Z : State) (a0 : Array Value) (hw : ∀ d ∈ tables_1, d.before a0 Z = true) (ws : List Jvm.Cond) (o : Addr) (a : Addr) (t : Addr) (kc : ClassId) (zc : Int32) (fmv : Value) (h0 : Heap) (n0 : Nat) (Z0 : n0 ≤ h0.size) (O_ : Old Z n0 h0) (S_CS : Sta Z Z.heap "java/lang/String" "COMPACT_STRINGS" "Z" (.int zc)) (P_CS : ¬ zc = (0 : Int32)) (S_SF : Sta Z Z.heap "jdk/internal/util/Preconditions" "SIOOBE_FORMATTER" "Ljava/util/function/BiFunction;" fmv) (rf_fmv : fmv.isRef = true) (E_o : Exa Z h0 o "io/quintet/Alphabet") (g_o : n0 ≤ o) (ne_a_o : a ≠ o) (ne_t_o : t ≠ o) (F_values_o : Fld Z h0 o "io/quintet/Alphabet" "values" "[B" .null) (F_width_o : Fld Z h0 o "io/quintet/Alphabet" "width" "I" (.int (0 : Int32))) (F_characters_o : Fld Z h0 o "io/quintet/Alphabet" "characters" "Ljava/lang/String;" .null) (E_a : Exa Z h0 a "java/lang/String") (Fc : Fld Z h0 a "java/lang/String" "coder" "B" (.int (0 : Int32))) (Fv : Fld Z h0 a "java/lang/String" "value" "[B" (.ref t)) (V : Arv Z h0 t kc .byte (0 : Int32) [] (.int (0 : Int32))) :
    MetFree l (⟨"io/quintet/Alphabet", "<init>", "(ILjava/lang/String;)V"⟩ : MethodName) (head1 (Jvm.Cond.code (⟨"io/quintet/Alphabet", "<init>", "(ILjava/lang/String;)V"⟩ : MethodName) prog_1_method_1_code 4 none :: ws) ({ frames := 2, cells := 1, slots := 128, locals := 26 } : Room)) (fun as_ UU => as_ = #[(.ref o), (.int (2 : Int32)), (.ref a)] ∧ Z.Warmed39 UU.vm ∧ UU.heap = h0) (fun _ _ _ _ _ => True) (fun _ UU oo UU' => ∃ vv LL, oo = .returned vv ∧ (Qini0 Z o a t kc zc fmv h0 n0) vv UU'.heap LL ∧ FrameEnd UU oo UU' LL ({ frames := 2, cells := 1, slots := 128, locals := 26 } : Room).cells ({ frames := 2, cells := 1, slots := 128, locals := 26 } : Room).slots) := by
  refine own_met (plainFor_of_name pn_6) ?_
  intro p e s m below meth c s₁ X0 hx hby hml hret hlk hown hnm hZ e0
  have N0 := Fr.nil n0
  have Z_ := Z0
  refine OwnGo.cast (ef_ini0 m o (2 : Int32) a) ?_
  show OwnGo p e below s _ _ _ s₁ (mkF m 0 #[.val (.ref o), .val (.int (2 : Int32)), .val (.ref a), .unset] [])
  have Kp : Keep h0 h0 [o] := Keep.refl h0 [o]
  refine OwnGo.st (fun _ kk => XS.aloadN X0.here hx rfl (hb hby d1_0) rfl rfl  kk) ?_
  show OwnGo p e below s _ _ _ s₁ (mkF m 1 #[.val (.ref o), .val (.int (2 : Int32)), .val (.ref a), .unset] [(.ref o)])
  obtain ⟨T31, X31, e31, st31⟩ := initO X0 hx hZ hown (hw _ (List.mem_of_getElem? (i := 14) rfl)) (hw _ (List.mem_of_getElem? (i := 15) rfl)) (hw _ (List.mem_of_getElem? (i := 16) rfl)) e0 (g := (mkF m 1 #[.val (.ref o), .val (.int (2 : Int32)), .val (.ref a), .unset] [(.ref o)])) rfl (by rw [hml]; rfl) rfl (hb hby d1_1) (by decide) (W := 0) (by show 2 * 0 + _ ≤ _; exact Nat.le_of_eq rfl) (by decide)
  refine OwnGo.st st31 ?_
  show OwnGo p e below s _ _ _ T31 (mkF m 4 #[.val (.ref o), .val (.int (2 : Int32)), .val (.ref a), .unset] [])
  refine OwnGo.st (fun _ kk => XS.aloadN X31.here hx rfl (hb hby d1_4) rfl rfl  kk) ?_
  show OwnGo p e below s _ _ _ T31 (mkF m 5 #[.val (.ref o), .val (.int (2 : Int32)), .val (.ref a), .unset] [(.ref o)])
  refine OwnGo.st (fun _ kk => XS.sipush X31.here hx rfl (hb hby d1_5) kk) ?_
  show OwnGo p e below s _ _ _ T31 (mkF m 8 #[.val (.ref o), .val (.int (2 : Int32)), .val (.ref a), .unset] [(.int (128 : Int32)), (.ref o)])
  obtain ⟨T32, h32, k32, X32, e32, E32, A32, Ex32, st32⟩ := newPE X31 hx hZ (hw _ (List.mem_of_getElem? (i := 3) rfl)) e31 (g := (mkF m 8 #[.val (.ref o), .val (.int (2 : Int32)), .val (.ref a), .unset] [(.int (128 : Int32)), (.ref o)])) rfl (hb hby d1_8) rfl (by decide) (cap := 128) (by decide) (by decide) (by decide) (by decide) (ad := "[B") (by decide)
  obtain ⟨b32, g32⟩ : ∃ z, z = h0.size := ⟨_, rfl⟩
  rw [← g32] at A32 Ex32 st32
  have ne_o_b32 : o ≠ b32 := Nat.ne_of_lt (Nat.lt_of_lt_of_le E_o.lt (Nat.le_of_eq g32.symm))
  have ne_a_b32 : a ≠ b32 := Nat.ne_of_lt (Nat.lt_of_lt_of_le E_a.lt (Nat.le_of_eq g32.symm))
  have ne_t_b32 : t ≠ b32 := Nat.ne_of_lt (Nat.lt_of_lt_of_le V.lt (Nat.le_of_eq g32.symm))
  have g_b32 : n0 ≤ b32 := Nat.le_trans Z_ (Nat.le_of_eq g32.symm)
  have sz_b32 : h0.size ≤ b32 := Nat.le_trans Kp.1 (Nat.le_of_eq g32.symm)
  have E_o := E_o.ext E32
  have E_a := E_a.ext E32
  have Fc := Fc.ext E32
  have Fv := Fv.ext E32
  have V := V.ext E32
  have F_values_o := F_values_o.ext E32
  have F_width_o := F_width_o.ext E32
  have F_characters_o := F_characters_o.ext E32
  have O_ := O_.ext E32
  have Kp := Kp.ext E32
  have Z_ : n0 ≤ h32.size := Nat.le_trans Z_ E32.1
  have A_b32 : OwnFn Z h32 b32 .byte 128 (fun _ => 0) := OwnFn.new A32 rfl
  refine OwnGo.st st32 ?_
  show OwnGo p e below s _ _ _ T32 (mkF m 10 #[.val (.ref o), .val (.int (2 : Int32)), .val (.ref a), .unset] [(.ref b32), (.ref o)])
  obtain ⟨T33, h33, X33, e33, W33, st33⟩ := putF X32 hx hZ hown (host := "") (Or.inl (hw _ (List.mem_of_getElem? (i := 17) rfl))) Via.refl e32 F_values_o E_o (Or.inr ⟨(hw _ (List.mem_of_getElem? (i := 18) rfl)), rfl, hnm⟩) (hw _ (List.mem_of_getElem? (i := 9) rfl)) (ty := (.array .byte)) (by decide) rfl rfl (g := (mkF m 10 #[.val (.ref o), .val (.int (2 : Int32)), .val (.ref a), .unset] [(.ref b32), (.ref o)])) rfl rfl (hb hby d1_10)
  have E_o := E_o.wr W33
  have E_a := E_a.wr W33
  have Fc := Fc.other W33 (Or.inl ne_a_o)
  have Fv := Fv.other W33 (Or.inl ne_a_o)
  have V := V.other W33 ne_t_o
  have F_values_o := F_values_o.same W33
  have F_width_o := F_width_o.other W33 (Or.inr (slot_ne (Or.inr (hw _ (List.mem_of_getElem? (i := 20) rfl))) (Or.inr (hw _ (List.mem_of_getElem? (i := 18) rfl))) (by decide) (t := .int) (t' := (.array .byte)) (by decide) (by decide)))
  have F_characters_o := F_characters_o.other W33 (Or.inr (slot_ne (Or.inr (hw _ (List.mem_of_getElem? (i := 22) rfl))) (Or.inr (hw _ (List.mem_of_getElem? (i := 18) rfl))) (by decide) (t := (.object "java/lang/String")) (t' := (.array .byte)) (by decide) (by decide)))
  have A_b32 := A_b32.other W33 (Ne.symm ne_o_b32)
  have O_ := O_.wr W33 g_o
  have Kp := Kp.wr W33 (Or.inl (List.mem_of_getElem? (i := 0) rfl))
  have N33 := Fr.snoc X33 N0 g_o
  have Z_ : n0 ≤ h33.size := by rw [W33.size]; exact Z_
  refine OwnGo.st st33 ?_
  show OwnGo p e below s _ _ _ T33 (mkF m 13 #[.val (.ref o), .val (.int (2 : Int32)), .val (.ref a), .unset] [])
  refine OwnGo.st (fun _ kk => XS.aloadN X33.here hx rfl (hb hby d1_13) rfl rfl  kk) ?_
  show OwnGo p e below s _ _ _ T33 (mkF m 14 #[.val (.ref o), .val (.int (2 : Int32)), .val (.ref a), .unset] [(.ref o)])
  refine OwnGo.st (fun _ kk => XS.iloadN X33.here hx rfl (hb hby d1_14) rfl  kk) ?_
  show OwnGo p e below s _ _ _ T33 (mkF m 15 #[.val (.ref o), .val (.int (2 : Int32)), .val (.ref a), .unset] [(.int (2 : Int32)), (.ref o)])
  obtain ⟨T34, h34, X34, e34, W34, st34⟩ := putF X33 hx hZ hown (host := "") (Or.inl (hw _ (List.mem_of_getElem? (i := 19) rfl))) Via.refl e33 F_width_o E_o (Or.inr ⟨(hw _ (List.mem_of_getElem? (i := 20) rfl)), rfl, hnm⟩) (hw _ (List.mem_of_getElem? (i := 9) rfl)) (ty := .int) (by decide) rfl rfl (g := (mkF m 15 #[.val (.ref o), .val (.int (2 : Int32)), .val (.ref a), .unset] [(.int (2 : Int32)), (.ref o)])) rfl rfl (hb hby d1_15)
  have E_o := E_o.wr W34
  have E_a := E_a.wr W34
  have Fc := Fc.other W34 (Or.inl ne_a_o)
  have Fv := Fv.other W34 (Or.inl ne_a_o)
  have V := V.other W34 ne_t_o
  have F_values_o := F_values_o.other W34 (Or.inr (slot_ne (Or.inr (hw _ (List.mem_of_getElem? (i := 18) rfl))) (Or.inr (hw _ (List.mem_of_getElem? (i := 20) rfl))) (by decide) (t := (.array .byte)) (t' := .int) (by decide) (by decide)))
  have F_width_o := F_width_o.same W34
  have F_characters_o := F_characters_o.other W34 (Or.inr (slot_ne (Or.inr (hw _ (List.mem_of_getElem? (i := 22) rfl))) (Or.inr (hw _ (List.mem_of_getElem? (i := 20) rfl))) (by decide) (t := (.object "java/lang/String")) (t' := .int) (by decide) (by decide)))
  have A_b32 := A_b32.other W34 (Ne.symm ne_o_b32)
  have O_ := O_.wr W34 g_o
  have Kp := Kp.wr W34 (Or.inl (List.mem_of_getElem? (i := 0) rfl))
  have N34 := Fr.snoc X34 N33 g_o
  have Z_ : n0 ≤ h34.size := by rw [W34.size]; exact Z_
  refine OwnGo.st st34 ?_
  show OwnGo p e below s _ _ _ T34 (mkF m 18 #[.val (.ref o), .val (.int (2 : Int32)), .val (.ref a), .unset] [])
  refine OwnGo.st (fun _ kk => XS.aloadN X34.here hx rfl (hb hby d1_18) rfl rfl  kk) ?_
  show OwnGo p e below s _ _ _ T34 (mkF m 19 #[.val (.ref o), .val (.int (2 : Int32)), .val (.ref a), .unset] [(.ref o)])
  refine OwnGo.st (fun _ kk => XS.aloadN X34.here hx rfl (hb hby d1_19) rfl rfl  kk) ?_
  show OwnGo p e below s _ _ _ T34 (mkF m 20 #[.val (.ref o), .val (.int (2 : Int32)), .val (.ref a), .unset] [(.ref a), (.ref o)])
  obtain ⟨T35, h35, X35, e35, W35, st35⟩ := putF X34 hx hZ hown (host := "") (Or.inl (hw _ (List.mem_of_getElem? (i := 21) rfl))) Via.refl e34 F_characters_o E_o (Or.inr ⟨(hw _ (List.mem_of_getElem? (i := 22) rfl)), rfl, hnm⟩) (hw _ (List.mem_of_getElem? (i := 9) rfl)) (ty := (.object "java/lang/String")) (by decide) rfl rfl (g := (mkF m 20 #[.val (.ref o), .val (.int (2 : Int32)), .val (.ref a), .unset] [(.ref a), (.ref o)])) rfl rfl (hb hby d1_20)
  have E_o := E_o.wr W35
  have E_a := E_a.wr W35
  have Fc := Fc.other W35 (Or.inl ne_a_o)
  have Fv := Fv.other W35 (Or.inl ne_a_o)
  have V := V.other W35 ne_t_o
  have F_values_o := F_values_o.other W35 (Or.inr (slot_ne (Or.inr (hw _ (List.mem_of_getElem? (i := 18) rfl))) (Or.inr (hw _ (List.mem_of_getElem? (i := 22) rfl))) (by decide) (t := (.array .byte)) (t' := (.object "java/lang/String")) (by decide) (by decide)))
  have F_width_o := F_width_o.other W35 (Or.inr (slot_ne (Or.inr (hw _ (List.mem_of_getElem? (i := 20) rfl))) (Or.inr (hw _ (List.mem_of_getElem? (i := 22) rfl))) (by decide) (t := .int) (t' := (.object "java/lang/String")) (by decide) (by decide)))
  have F_characters_o := F_characters_o.same W35
  have A_b32 := A_b32.other W35 (Ne.symm ne_o_b32)
  have O_ := O_.wr W35 g_o
  have Kp := Kp.wr W35 (Or.inl (List.mem_of_getElem? (i := 0) rfl))
  have N35 := Fr.snoc X35 N34 g_o
  have Z_ : n0 ≤ h35.size := by rw [W35.size]; exact Z_
  refine OwnGo.st st35 ?_
  show OwnGo p e below s _ _ _ T35 (mkF m 23 #[.val (.ref o), .val (.int (2 : Int32)), .val (.ref a), .unset] [])
  refine OwnGo.st (fun _ kk => XS.aloadN X35.here hx rfl (hb hby d1_23) rfl rfl  kk) ?_
  show OwnGo p e below s _ _ _ T35 (mkF m 24 #[.val (.ref o), .val (.int (2 : Int32)), .val (.ref a), .unset] [(.ref o)])
  obtain ⟨T36, X36, e36, st36⟩ := getF X35 hx hZ hown (host := "") (Or.inl (hw _ (List.mem_of_getElem? (i := 17) rfl))) Via.refl e35 F_values_o (g := (mkF m 24 #[.val (.ref o), .val (.int (2 : Int32)), .val (.ref a), .unset] [(.ref o)])) rfl rfl (hb hby d1_24)
  refine OwnGo.st st36 ?_
  show OwnGo p e below s _ _ _ T36 (mkF m 27 #[.val (.ref o), .val (.int (2 : Int32)), .val (.ref a), .unset] [(.ref b32)])
  refine OwnGo.st (fun _ kk => XS.iconst X36.here hx rfl (hb hby d1_27) kk) ?_
  show OwnGo p e below s _ _ _ T36 (mkF m 28 #[.val (.ref o), .val (.int (2 : Int32)), .val (.ref a), .unset] [(.int (-1 : Int32)), (.ref b32)])
  obtain ⟨_, _, ⟨T37, L37, k37, n37⟩, -, X37, ⟨Lc37, hQ37, l37, y37, z37⟩, st37⟩ := Jvm.LawKit.callS X36 hx (y := (⟨"java/util/Arrays", "fill", "([BB)V"⟩ : MethodName)) hown (mvT hZ (hw _ (List.mem_of_getElem? (i := 23) rfl))) (mvT hZ (hw _ (List.mem_of_getElem? (i := 24) rfl))) (mvT hZ (hw _ (List.mem_of_getElem? (i := 25) rfl))) (mvT hZ (hw _ (List.mem_of_getElem? (i := 26) rfl))) (by decide) (backOf (W := 0) (rmfill l Z a0 hw [] b32 (-1 : Int32) 128 h35 n0 Z_ A_b32 g_b32 (by decide)) hZ (hw _ (List.mem_of_getElem? (i := 26) rfl)) (hw _ (List.mem_of_getElem? (i := 25) rfl)) (by decide) (by decide)) (g := (mkF m 28 #[.val (.ref o), .val (.int (2 : Int32)), .val (.ref a), .unset] [(.int (-1 : Int32)), (.ref b32)])) rfl (by rw [hml]; rfl) (argsL := [(.ref b32), (.int (-1 : Int32))]) (rest := []) (lenOf pd_7 rfl) rfl (by show 2 * 0 + _ ≤ _; exact Nat.le_of_eq rfl) (hb hby d1_28) (fun _ _ => ⟨rfl, e36, (by decide : 1 + 0 ≤ _), (by decide : 128 + 0 ≤ _)⟩)
  dsimp only [Pt.U, Pt.locs, Pt.cells, Pt.slots] at X37 l37 y37 z37 st37 hQ37
  subst l37 y37 z37
  obtain ⟨rfl, N37q, K37, A37⟩ := hQ37
  have N37 := Fr.app N35 N37q
  have Z_ : n0 ≤ T37.heap.size := Nat.le_trans Z_ K37.1
  have E_o := E_o.keep K37
  have E_a := E_a.keep K37
  have Fc := Fc.keep K37 (ninS ne_a_b32 nin0)
  have Fv := Fv.keep K37 (ninS ne_a_b32 nin0)
  have V := V.keep K37 (ninS ne_t_b32 nin0)
  have F_values_o := F_values_o.keep K37 (ninS ne_o_b32 nin0)
  have F_width_o := F_width_o.keep K37 (ninS ne_o_b32 nin0)
  have F_characters_o := F_characters_o.keep K37 (ninS ne_o_b32 nin0)
  have O_ := O_.keep K37 (allS g_b32 all0)
  have Kp := Kp.trans K37 (allS (Or.inr sz_b32) all0)
  have A_b32 : OwnFn Z T37.heap b32 .byte 128 (own_tab []) := A37
  refine OwnGo.st st37 ?_
  show OwnGo p e below s _ _ _ T37 (mkF m 31 #[.val (.ref o), .val (.int (2 : Int32)), .val (.ref a), .unset] [])
  refine OwnGo.st (fun _ kk => XS.iconst X37.here hx rfl (hb hby d1_31) kk) ?_
  show OwnGo p e below s _ _ _ T37 (mkF m 32 #[.val (.ref o), .val (.int (2 : Int32)), .val (.ref a), .unset] [(.int (0 : Int32))])
  refine OwnGo.st (fun _ kk => XS.istoreN X37.here hx rfl (hb hby d1_32) rfl (l' := #[.val (.ref o), .val (.int (2 : Int32)), .val (.ref a), .val (.int (0 : Int32))]) rfl kk) ?_
  show OwnGo p e below s _ _ _ T37 (mkF m 33 #[.val (.ref o), .val (.int (2 : Int32)), .val (.ref a), .val (.int (0 : Int32))] [])
  refine OwnGo.st (fun _ kk => XS.iloadN X37.here hx rfl (hb hby d1_33) rfl  kk) ?_
  show OwnGo p e below s _ _ _ T37 (mkF m 34 #[.val (.ref o), .val (.int (2 : Int32)), .val (.ref a), .val (.int (0 : Int32))] [(.int (0 : Int32))])
  refine OwnGo.st (fun _ kk => XS.aloadN X37.here hx rfl (hb hby d1_34) rfl rfl  kk) ?_
  show OwnGo p e below s _ _ _ T37 (mkF m 35 #[.val (.ref o), .val (.int (2 : Int32)), .val (.ref a), .val (.int (0 : Int32))] [(.ref a), (.int (0 : Int32))])
  obtain ⟨cq38, kq38, q38a, q38b, q38c⟩ := isOf hZ rfl E_a
  obtain ⟨_, _, ⟨T38, L38, k38, n38⟩, -, X38, ⟨Lc38, hQ38, l38, y38, z38⟩, st38⟩ := X37.virtualBack hx (y := (⟨"java/lang/String", "length", "()I"⟩ : MethodName)) (z := (⟨"java/lang/String", "length", "()I"⟩ : MethodName)) hown (mvT hZ (hw _ (List.mem_of_getElem? (i := 27) rfl))) (mvT hZ (hw _ (List.mem_of_getElem? (i := 28) rfl))) (notFace_of_selects (args := #[]) (mvT hZ (hw _ (List.mem_of_getElem? (i := 30) rfl)))) (mvT hZ (hw _ (List.mem_of_getElem? (i := 30) rfl))) (mvT hZ (hw _ (List.mem_of_getElem? (i := 29) rfl))) (by decide) (backOf (W := 1) (rmlength l Z a0 hw [] a t kc (0 : Int32) [] zc T37.heap n0 Z_ O_ S_CS P_CS E_a Fc Fv V) hZ (hw _ (List.mem_of_getElem? (i := 31) rfl)) (hw _ (List.mem_of_getElem? (i := 1) rfl)) (by decide) (by decide)) q38a q38c (g := (mkF m 35 #[.val (.ref o), .val (.int (2 : Int32)), .val (.ref a), .val (.int (0 : Int32))] [(.ref a), (.int (0 : Int32))])) rfl (by rw [hml]; rfl) (Steps.refl _) (argsL := []) (rest := [(.int (0 : Int32))]) (lenOf pd_8 rfl) rfl (by show 2 * 0 + _ ≤ _; exact Nat.le_of_eq rfl) (hb hby d1_35) (fun _ _ => ⟨rfl, rfl, (by decide : 1 + 0 ≤ _), (by decide : 128 + 0 ≤ _)⟩)
  dsimp only [Pt.U, Pt.locs, Pt.cells, Pt.slots] at X38 l38 y38 z38 st38 hQ38
  subst l38 y38 z38
  obtain ⟨rfl, N38q, e38⟩ := hQ38
  have N38 := Fr.app N37 N38q
  refine OwnGo.st (fun _ kk => st38.trans kk) ?_
  show OwnGo p e below s _ _ _ T38 (mkF m 38 #[.val (.ref o), .val (.int (2 : Int32)), .val (.ref a), .val (.int (0 : Int32))] [(.int (0 : Int32)), (.int (0 : Int32))])
  refine OwnGo.st (fun _ kk => XS.icmpYes X38.here hx rfl (pc0 := 38) (pc' := 59) rfl (hb hby d1_38) rfl (flt ((by decide) : ¬ ((0 : Int32) < (0 : Int32)))).2.1 (by decide) (by decide) kk) ?_
  show OwnGo p e below s _ _ _ T38 (mkF m 59 #[.val (.ref o), .val (.int (2 : Int32)), .val (.ref a), .val (.int (0 : Int32))] [])
  exact OwnGo.retV X38 hx hret hlk (hb hby d1_59) (by show Qini0 Z o a t kc zc fmv h0 n0 _ T38.heap _; rw [e38]; exact ⟨rfl, N38, Kp, E_o, b32, F_values_o, A_b32⟩) (by decide) (by decide)
def Qini1 (Z : State) (o : Addr) (a : Addr) (t : Addr) (kc : ClassId) (c0 : Int32) (zc : Int32) (fmv : Value) (h0 : Heap) (n0 : Nat) (v : Option Value) (h : Heap) (L : List Loc) : Prop := v = none ∧ Fr n0 L ∧ Keep h0 h [o] ∧ Exa Z h o "io/quintet/Alphabet" ∧ ∃ b : Addr, Fld Z h o "io/quintet/Alphabet" "values" "[B" (.ref b) ∧ OwnFn Z h b .byte 128 (own_tab [(c0, 0)])
set_option maxRecDepth 65536 in
set_option maxHeartbeats 40000000 in
theorem rmini1 (l : Launch) (Z : State) (a0 : Array Value) (hw : ∀ d ∈ tables_1, d.before a0 Z = true) (ws : List Jvm.Cond) (o : Addr) (a : Addr) (t : Addr) (kc : ClassId) (c0 : Int32) (zc : Int32) (fmv : Value) (h0 : Heap) (n0 : Nat) (Z0 : n0 ≤ h0.size) (O_ : Old Z n0 h0) (S_CS : Sta Z Z.heap "java/lang/String" "COMPACT_STRINGS" "Z" (.int zc)) (P_CS : ¬ zc = (0 : Int32)) (S_SF : Sta Z Z.heap "jdk/internal/util/Preconditions" "SIOOBE_FORMATTER" "Ljava/util/function/BiFunction;" fmv) (rf_fmv : fmv.isRef = true) (E_o : Exa Z h0 o "io/quintet/Alphabet") (g_o : n0 ≤ o) (ne_a_o : a ≠ o) (ne_t_o : t ≠ o) (F_values_o : Fld Z h0 o "io/quintet/Alphabet" "values" "[B" .null) (F_width_o : Fld Z h0 o "io/quintet/Alphabet" "width" "I" (.int (0 : Int32))) (F_characters_o : Fld Z h0 o "io/quintet/Alphabet" "characters" "Ljava/lang/String;" .null) (E_a : Exa Z h0 a "java/lang/String") (Fc : Fld Z h0 a "java/lang/String" "coder" "B" (.int (0 : Int32))) (Fv : Fld Z h0 a "java/lang/String" "value" "[B" (.ref t)) (V : Arv Z h0 t kc .byte (1 : Int32) [(.int c0)] (.int (0 : Int32))) (P_c0 : own_asc c0) :
    MetFree l (⟨"io/quintet/Alphabet", "<init>", "(ILjava/lang/String;)V"⟩ : MethodName) (head1 (Jvm.Cond.code (⟨"io/quintet/Alphabet", "<init>", "(ILjava/lang/String;)V"⟩ : MethodName) prog_1_method_1_code 4 none :: ws) ({ frames := 4, cells := 1, slots := 128, locals := 54 } : Room)) (fun as_ UU => as_ = #[(.ref o), (.int (2 : Int32)), (.ref a)] ∧ Z.Warmed39 UU.vm ∧ UU.heap = h0) (fun _ _ _ _ _ => True) (fun _ UU oo UU' => ∃ vv LL, oo = .returned vv ∧ (Qini1 Z o a t kc c0 zc fmv h0 n0) vv UU'.heap LL ∧ FrameEnd UU oo UU' LL ({ frames := 4, cells := 1, slots := 128, locals := 54 } : Room).cells ({ frames := 4, cells := 1, slots := 128, locals := 54 } : Room).slots) := by
  refine own_met (plainFor_of_name pn_6) ?_
  intro p e s m below meth c s₁ X0 hx hby hml hret hlk hown hnm hZ e0
  have N0 := Fr.nil n0
  have Z_ := Z0
  refine OwnGo.cast (ef_ini1 m o (2 : Int32) a) ?_
  show OwnGo p e below s _ _ _ s₁ (mkF m 0 #[.val (.ref o), .val (.int (2 : Int32)), .val (.ref a), .unset] [])
  have Kp : Keep h0 h0 [o] := Keep.refl h0 [o]
  refine OwnGo.st (fun _ kk => XS.aloadN X0.here hx rfl (hb hby d1_0) rfl rfl  kk) ?_
  show OwnGo p e below s _ _ _ s₁ (mkF m 1 #[.val (.ref o), .val (.int (2 : Int32)), .val (.ref a), .unset] [(.ref o)])
  obtain ⟨T39, X39, e39, st39⟩ := initO X0 hx hZ hown (hw _ (List.mem_of_getElem? (i := 14) rfl)) (hw _ (List.mem_of_getElem? (i := 15) rfl)) (hw _ (List.mem_of_getElem? (i := 16) rfl)) e0 (g := (mkF m 1 #[.val (.ref o), .val (.int (2 : Int32)), .val (.ref a), .unset] [(.ref o)])) rfl (by rw [hml]; rfl) rfl (hb hby d1_1) (by decide) (W := 0) (by show 2 * 0 + _ ≤ _; exact Nat.le_of_eq rfl) (by decide)
  refine OwnGo.st st39 ?_
  show OwnGo p e below s _ _ _ T39 (mkF m 4 #[.val (.ref o), .val (.int (2 : Int32)), .val (.ref a), .unset] [])
  refine OwnGo.st (fun _ kk => XS.aloadN X39.here hx rfl (hb hby d1_4) rfl rfl  kk) ?_
  show OwnGo p e below s _ _ _ T39 (mkF m 5 #[.val (.ref o), .val (.int (2 : Int32)), .val (.ref a), .unset] [(.ref o)])
  refine OwnGo.st (fun _ kk => XS.sipush X39.here hx rfl (hb hby d1_5) kk) ?_
  show OwnGo p e below s _ _ _ T39 (mkF m 8 #[.val (.ref o), .val (.int (2 : Int32)), .val (.ref a), .unset] [(.int (128 : Int32)), (.ref o)])
  obtain ⟨T40, h40, k40, X40, e40, E40, A40, Ex40, st40⟩ := newPE X39 hx hZ (hw _ (List.mem_of_getElem? (i := 3) rfl)) e39 (g := (mkF m 8 #[.val (.ref o), .val (.int (2 : Int32)), .val (.ref a), .unset] [(.int (128 : Int32)), (.ref o)])) rfl (hb hby d1_8) rfl (by decide) (cap := 128) (by decide) (by decide) (by decide) (by decide) (ad := "[B") (by decide)
  obtain ⟨b40, g40⟩ : ∃ z, z = h0.size := ⟨_, rfl⟩
  rw [← g40] at A40 Ex40 st40
  have ne_o_b40 : o ≠ b40 := Nat.ne_of_lt (Nat.lt_of_lt_of_le E_o.lt (Nat.le_of_eq g40.symm))
  have ne_a_b40 : a ≠ b40 := Nat.ne_of_lt (Nat.lt_of_lt_of_le E_a.lt (Nat.le_of_eq g40.symm))
  have ne_t_b40 : t ≠ b40 := Nat.ne_of_lt (Nat.lt_of_lt_of_le V.lt (Nat.le_of_eq g40.symm))
  have g_b40 : n0 ≤ b40 := Nat.le_trans Z_ (Nat.le_of_eq g40.symm)
  have sz_b40 : h0.size ≤ b40 := Nat.le_trans Kp.1 (Nat.le_of_eq g40.symm)
  have E_o := E_o.ext E40
  have E_a := E_a.ext E40
  have Fc := Fc.ext E40
  have Fv := Fv.ext E40
  have V := V.ext E40
  have F_values_o := F_values_o.ext E40
  have F_width_o := F_width_o.ext E40
  have F_characters_o := F_characters_o.ext E40
  have O_ := O_.ext E40
  have Kp := Kp.ext E40
  have Z_ : n0 ≤ h40.size := Nat.le_trans Z_ E40.1
  have A_b40 : OwnFn Z h40 b40 .byte 128 (fun _ => 0) := OwnFn.new A40 rfl
  refine OwnGo.st st40 ?_
  show OwnGo p e below s _ _ _ T40 (mkF m 10 #[.val (.ref o), .val (.int (2 : Int32)), .val (.ref a), .unset] [(.ref b40), (.ref o)])
  obtain ⟨T41, h41, X41, e41, W41, st41⟩ := putF X40 hx hZ hown (host := "") (Or.inl (hw _ (List.mem_of_getElem? (i := 17) rfl))) Via.refl e40 F_values_o E_o (Or.inr ⟨(hw _ (List.mem_of_getElem? (i := 18) rfl)), rfl, hnm⟩) (hw _ (List.mem_of_getElem? (i := 9) rfl)) (ty := (.array .byte)) (by decide) rfl rfl (g := (mkF m 10 #[.val (.ref o), .val (.int (2 : Int32)), .val (.ref a), .unset] [(.ref b40), (.ref o)])) rfl rfl (hb hby d1_10)
  have E_o := E_o.wr W41
  have E_a := E_a.wr W41
  have Fc := Fc.other W41 (Or.inl ne_a_o)
  have Fv := Fv.other W41 (Or.inl ne_a_o)
  have V := V.other W41 ne_t_o
  have F_values_o := F_values_o.same W41
  have F_width_o := F_width_o.other W41 (Or.inr (slot_ne (Or.inr (hw _ (List.mem_of_getElem? (i := 20) rfl))) (Or.inr (hw _ (List.mem_of_getElem? (i := 18) rfl))) (by decide) (t := .int) (t' := (.array .byte)) (by decide) (by decide)))
  have F_characters_o := F_characters_o.other W41 (Or.inr (slot_ne (Or.inr (hw _ (List.mem_of_getElem? (i := 22) rfl))) (Or.inr (hw _ (List.mem_of_getElem? (i := 18) rfl))) (by decide) (t := (.object "java/lang/String")) (t' := (.array .byte)) (by decide) (by decide)))
  have A_b40 := A_b40.other W41 (Ne.symm ne_o_b40)
  have O_ := O_.wr W41 g_o
  have Kp := Kp.wr W41 (Or.inl (List.mem_of_getElem? (i := 0) rfl))
  have N41 := Fr.snoc X41 N0 g_o
  have Z_ : n0 ≤ h41.size := by rw [W41.size]; exact Z_
  refine OwnGo.st st41 ?_
  show OwnGo p e below s _ _ _ T41 (mkF m 13 #[.val (.ref o), .val (.int (2 : Int32)), .val (.ref a), .unset] [])
  refine OwnGo.st (fun _ kk => XS.aloadN X41.here hx rfl (hb hby d1_13) rfl rfl  kk) ?_
  show OwnGo p e below s _ _ _ T41 (mkF m 14 #[.val (.ref o), .val (.int (2 : Int32)), .val (.ref a), .unset] [(.ref o)])
  refine OwnGo.st (fun _ kk => XS.iloadN X41.here hx rfl (hb hby d1_14) rfl  kk) ?_
  show OwnGo p e below s _ _ _ T41 (mkF m 15 #[.val (.ref o), .val (.int (2 : Int32)), .val (.ref a), .unset] [(.int (2 : Int32)), (.ref o)])
  obtain ⟨T42, h42, X42, e42, W42, st42⟩ := putF X41 hx hZ hown (host := "") (Or.inl (hw _ (List.mem_of_getElem? (i := 19) rfl))) Via.refl e41 F_width_o E_o (Or.inr ⟨(hw _ (List.mem_of_getElem? (i := 20) rfl)), rfl, hnm⟩) (hw _ (List.mem_of_getElem? (i := 9) rfl)) (ty := .int) (by decide) rfl rfl (g := (mkF m 15 #[.val (.ref o), .val (.int (2 : Int32)), .val (.ref a), .unset] [(.int (2 : Int32)), (.ref o)])) rfl rfl (hb hby d1_15)
  have E_o := E_o.wr W42
  have E_a := E_a.wr W42
  have Fc := Fc.other W42 (Or.inl ne_a_o)
  have Fv := Fv.other W42 (Or.inl ne_a_o)
  have V := V.other W42 ne_t_o
  have F_values_o := F_values_o.other W42 (Or.inr (slot_ne (Or.inr (hw _ (List.mem_of_getElem? (i := 18) rfl))) (Or.inr (hw _ (List.mem_of_getElem? (i := 20) rfl))) (by decide) (t := (.array .byte)) (t' := .int) (by decide) (by decide)))
  have F_width_o := F_width_o.same W42
  have F_characters_o := F_characters_o.other W42 (Or.inr (slot_ne (Or.inr (hw _ (List.mem_of_getElem? (i := 22) rfl))) (Or.inr (hw _ (List.mem_of_getElem? (i := 20) rfl))) (by decide) (t := (.object "java/lang/String")) (t' := .int) (by decide) (by decide)))
  have A_b40 := A_b40.other W42 (Ne.symm ne_o_b40)
  have O_ := O_.wr W42 g_o
  have Kp := Kp.wr W42 (Or.inl (List.mem_of_getElem? (i := 0) rfl))
  have N42 := Fr.snoc X42 N41 g_o
  have Z_ : n0 ≤ h42.size := by rw [W42.size]; exact Z_
  refine OwnGo.st st42 ?_
  show OwnGo p e below s _ _ _ T42 (mkF m 18 #[.val (.ref o), .val (.int (2 : Int32)), .val (.ref a), .unset] [])
  refine OwnGo.st (fun _ kk => XS.aloadN X42.here hx rfl (hb hby d1_18) rfl rfl  kk) ?_
  show OwnGo p e below s _ _ _ T42 (mkF m 19 #[.val (.ref o), .val (.int (2 : Int32)), .val (.ref a), .unset] [(.ref o)])
  refine OwnGo.st (fun _ kk => XS.aloadN X42.here hx rfl (hb hby d1_19) rfl rfl  kk) ?_
  show OwnGo p e below s _ _ _ T42 (mkF m 20 #[.val (.ref o), .val (.int (2 : Int32)), .val (.ref a), .unset] [(.ref a), (.ref o)])
  obtain ⟨T43, h43, X43, e43, W43, st43⟩ := putF X42 hx hZ hown (host := "") (Or.inl (hw _ (List.mem_of_getElem? (i := 21) rfl))) Via.refl e42 F_characters_o E_o (Or.inr ⟨(hw _ (List.mem_of_getElem? (i := 22) rfl)), rfl, hnm⟩) (hw _ (List.mem_of_getElem? (i := 9) rfl)) (ty := (.object "java/lang/String")) (by decide) rfl rfl (g := (mkF m 20 #[.val (.ref o), .val (.int (2 : Int32)), .val (.ref a), .unset] [(.ref a), (.ref o)])) rfl rfl (hb hby d1_20)
  have E_o := E_o.wr W43
  have E_a := E_a.wr W43
  have Fc := Fc.other W43 (Or.inl ne_a_o)
  have Fv := Fv.other W43 (Or.inl ne_a_o)
  have V := V.other W43 ne_t_o
  have F_values_o := F_values_o.other W43 (Or.inr (slot_ne (Or.inr (hw _ (List.mem_of_getElem? (i := 18) rfl))) (Or.inr (hw _ (List.mem_of_getElem? (i := 22) rfl))) (by decide) (t := (.array .byte)) (t' := (.object "java/lang/String")) (by decide) (by decide)))
  have F_width_o := F_width_o.other W43 (Or.inr (slot_ne (Or.inr (hw _ (List.mem_of_getElem? (i := 20) rfl))) (Or.inr (hw _ (List.mem_of_getElem? (i := 22) rfl))) (by decide) (t := .int) (t' := (.object "java/lang/String")) (by decide) (by decide)))
  have F_characters_o := F_characters_o.same W43
  have A_b40 := A_b40.other W43 (Ne.symm ne_o_b40)
  have O_ := O_.wr W43 g_o
  have Kp := Kp.wr W43 (Or.inl (List.mem_of_getElem? (i := 0) rfl))
  have N43 := Fr.snoc X43 N42 g_o
  have Z_ : n0 ≤ h43.size := by rw [W43.size]; exact Z_
  refine OwnGo.st st43 ?_
  show OwnGo p e below s _ _ _ T43 (mkF m 23 #[.val (.ref o), .val (.int (2 : Int32)), .val (.ref a), .unset] [])
  refine OwnGo.st (fun _ kk => XS.aloadN X43.here hx rfl (hb hby d1_23) rfl rfl  kk) ?_
  show OwnGo p e below s _ _ _ T43 (mkF m 24 #[.val (.ref o), .val (.int (2 : Int32)), .val (.ref a), .unset] [(.ref o)])
  obtain ⟨T44, X44, e44, st44⟩ := getF X43 hx hZ hown (host := "") (Or.inl (hw _ (List.mem_of_getElem? (i := 17) rfl))) Via.refl e43 F_values_o (g := (mkF m 24 #[.val (.ref o), .val (.int (2 : Int32)), .val (.ref a), .unset] [(.ref o)])) rfl rfl (hb hby d1_24)
  refine OwnGo.st st44 ?_
  show OwnGo p e below s _ _ _ T44 (mkF m 27 #[.val (.ref o), .val (.int (2 : Int32)), .val (.ref a), .unset] [(.ref b40)])
  refine OwnGo.st (fun _ kk => XS.iconst X44.here hx rfl (hb hby d1_27) kk) ?_
  show OwnGo p e below s _ _ _ T44 (mkF m 28 #[.val (.ref o), .val (.int (2 : Int32)), .val (.ref a), .unset] [(.int (-1 : Int32)), (.ref b40)])
  obtain ⟨_, _, ⟨T45, L45, k45, n45⟩, -, X45, ⟨Lc45, hQ45, l45, y45, z45⟩, st45⟩ := Jvm.LawKit.callS X44 hx (y := (⟨"java/util/Arrays", "fill", "([BB)V"⟩ : MethodName)) hown (mvT hZ (hw _ (List.mem_of_getElem? (i := 23) rfl))) (mvT hZ (hw _ (List.mem_of_getElem? (i := 24) rfl))) (mvT hZ (hw _ (List.mem_of_getElem? (i := 25) rfl))) (mvT hZ (hw _ (List.mem_of_getElem? (i := 26) rfl))) (by decide) (backOf (W := 0) (rmfill l Z a0 hw [] b40 (-1 : Int32) 128 h43 n0 Z_ A_b40 g_b40 (by decide)) hZ (hw _ (List.mem_of_getElem? (i := 26) rfl)) (hw _ (List.mem_of_getElem? (i := 25) rfl)) (by decide) (by decide)) (g := (mkF m 28 #[.val (.ref o), .val (.int (2 : Int32)), .val (.ref a), .unset] [(.int (-1 : Int32)), (.ref b40)])) rfl (by rw [hml]; rfl) (argsL := [(.ref b40), (.int (-1 : Int32))]) (rest := []) (lenOf pd_7 rfl) rfl (by show 2 * 0 + _ ≤ _; exact Nat.le_of_eq rfl) (hb hby d1_28) (fun _ _ => ⟨rfl, e44, (by decide : 1 + 0 ≤ _), (by decide : 128 + 0 ≤ _)⟩)
  dsimp only [Pt.U, Pt.locs, Pt.cells, Pt.slots] at X45 l45 y45 z45 st45 hQ45
  subst l45 y45 z45
  obtain ⟨rfl, N45q, K45, A45⟩ := hQ45
  have N45 := Fr.app N43 N45q
  have Z_ : n0 ≤ T45.heap.size := Nat.le_trans Z_ K45.1
  have E_o := E_o.keep K45
  have E_a := E_a.keep K45
  have Fc := Fc.keep K45 (ninS ne_a_b40 nin0)
  have Fv := Fv.keep K45 (ninS ne_a_b40 nin0)
  have V := V.keep K45 (ninS ne_t_b40 nin0)
  have F_values_o := F_values_o.keep K45 (ninS ne_o_b40 nin0)
  have F_width_o := F_width_o.keep K45 (ninS ne_o_b40 nin0)
  have F_characters_o := F_characters_o.keep K45 (ninS ne_o_b40 nin0)
  have O_ := O_.keep K45 (allS g_b40 all0)
  have Kp := Kp.trans K45 (allS (Or.inr sz_b40) all0)
  have A_b40 : OwnFn Z T45.heap b40 .byte 128 (own_tab []) := A45
  refine OwnGo.st st45 ?_
  show OwnGo p e below s _ _ _ T45 (mkF m 31 #[.val (.ref o), .val (.int (2 : Int32)), .val (.ref a), .unset] [])
  refine OwnGo.st (fun _ kk => XS.iconst X45.here hx rfl (hb hby d1_31) kk) ?_
  show OwnGo p e below s _ _ _ T45 (mkF m 32 #[.val (.ref o), .val (.int (2 : Int32)), .val (.ref a), .unset] [(.int (0 : Int32))])
  refine OwnGo.st (fun _ kk => XS.istoreN X45.here hx rfl (hb hby d1_32) rfl (l' := #[.val (.ref o), .val (.int (2 : Int32)), .val (.ref a), .val (.int (0 : Int32))]) rfl kk) ?_
  show OwnGo p e below s _ _ _ T45 (mkF m 33 #[.val (.ref o), .val (.int (2 : Int32)), .val (.ref a), .val (.int (0 : Int32))] [])
  refine OwnGo.st (fun _ kk => XS.iloadN X45.here hx rfl (hb hby d1_33) rfl  kk) ?_
  show OwnGo p e below s _ _ _ T45 (mkF m 34 #[.val (.ref o), .val (.int (2 : Int32)), .val (.ref a), .val (.int (0 : Int32))] [(.int (0 : Int32))])
  refine OwnGo.st (fun _ kk => XS.aloadN X45.here hx rfl (hb hby d1_34) rfl rfl  kk) ?_
  show OwnGo p e below s _ _ _ T45 (mkF m 35 #[.val (.ref o), .val (.int (2 : Int32)), .val (.ref a), .val (.int (0 : Int32))] [(.ref a), (.int (0 : Int32))])
  obtain ⟨cq46, kq46, q46a, q46b, q46c⟩ := isOf hZ rfl E_a
  obtain ⟨_, _, ⟨T46, L46, k46, n46⟩, -, X46, ⟨Lc46, hQ46, l46, y46, z46⟩, st46⟩ := X45.virtualBack hx (y := (⟨"java/lang/String", "length", "()I"⟩ : MethodName)) (z := (⟨"java/lang/String", "length", "()I"⟩ : MethodName)) hown (mvT hZ (hw _ (List.mem_of_getElem? (i := 27) rfl))) (mvT hZ (hw _ (List.mem_of_getElem? (i := 28) rfl))) (notFace_of_selects (args := #[]) (mvT hZ (hw _ (List.mem_of_getElem? (i := 30) rfl)))) (mvT hZ (hw _ (List.mem_of_getElem? (i := 30) rfl))) (mvT hZ (hw _ (List.mem_of_getElem? (i := 29) rfl))) (by decide) (backOf (W := 1) (rmlength l Z a0 hw [] a t kc (1 : Int32) [(.int c0)] zc T45.heap n0 Z_ O_ S_CS P_CS E_a Fc Fv V) hZ (hw _ (List.mem_of_getElem? (i := 31) rfl)) (hw _ (List.mem_of_getElem? (i := 1) rfl)) (by decide) (by decide)) q46a q46c (g := (mkF m 35 #[.val (.ref o), .val (.int (2 : Int32)), .val (.ref a), .val (.int (0 : Int32))] [(.ref a), (.int (0 : Int32))])) rfl (by rw [hml]; rfl) (Steps.refl _) (argsL := []) (rest := [(.int (0 : Int32))]) (lenOf pd_8 rfl) rfl (by show 2 * 0 + _ ≤ _; exact Nat.le_of_eq rfl) (hb hby d1_35) (fun _ _ => ⟨rfl, rfl, (by decide : 1 + 0 ≤ _), (by decide : 128 + 0 ≤ _)⟩)
  dsimp only [Pt.U, Pt.locs, Pt.cells, Pt.slots] at X46 l46 y46 z46 st46 hQ46
  subst l46 y46 z46
  obtain ⟨rfl, N46q, e46⟩ := hQ46
  have N46 := Fr.app N45 N46q
  refine OwnGo.st (fun _ kk => st46.trans kk) ?_
  show OwnGo p e below s _ _ _ T46 (mkF m 38 #[.val (.ref o), .val (.int (2 : Int32)), .val (.ref a), .val (.int (0 : Int32))] [(.int (1 : Int32)), (.int (0 : Int32))])
  refine OwnGo.st (fun _ kk => XS.icmpNo X46.here hx rfl (hb hby d1_38) rfl (tlt ((by decide) : (0 : Int32) < (1 : Int32))).2.1 kk) ?_
  show OwnGo p e below s _ _ _ T46 (mkF m 41 #[.val (.ref o), .val (.int (2 : Int32)), .val (.ref a), .val (.int (0 : Int32))] [])
  refine OwnGo.st (fun _ kk => XS.aloadN X46.here hx rfl (hb hby d1_41) rfl rfl  kk) ?_
  show OwnGo p e below s _ _ _ T46 (mkF m 42 #[.val (.ref o), .val (.int (2 : Int32)), .val (.ref a), .val (.int (0 : Int32))] [(.ref o)])
  obtain ⟨T47, X47, e47, st47⟩ := getF X46 hx hZ hown (host := "") (Or.inl (hw _ (List.mem_of_getElem? (i := 17) rfl))) Via.refl e46 F_values_o (g := (mkF m 42 #[.val (.ref o), .val (.int (2 : Int32)), .val (.ref a), .val (.int (0 : Int32))] [(.ref o)])) rfl rfl (hb hby d1_42)
  refine OwnGo.st st47 ?_
  show OwnGo p e below s _ _ _ T47 (mkF m 45 #[.val (.ref o), .val (.int (2 : Int32)), .val (.ref a), .val (.int (0 : Int32))] [(.ref b40)])
  refine OwnGo.st (fun _ kk => XS.aloadN X47.here hx rfl (hb hby d1_45) rfl rfl  kk) ?_
  show OwnGo p e below s _ _ _ T47 (mkF m 46 #[.val (.ref o), .val (.int (2 : Int32)), .val (.ref a), .val (.int (0 : Int32))] [(.ref a), (.ref b40)])
  refine OwnGo.st (fun _ kk => XS.iloadN X47.here hx rfl (hb hby d1_46) rfl  kk) ?_
  show OwnGo p e below s _ _ _ T47 (mkF m 47 #[.val (.ref o), .val (.int (2 : Int32)), .val (.ref a), .val (.int (0 : Int32))] [(.int (0 : Int32)), (.ref a), (.ref b40)])
  obtain ⟨cq48, kq48, q48a, q48b, q48c⟩ := isOf hZ e47 E_a
  obtain ⟨_, _, ⟨T48, L48, k48, n48⟩, -, X48, ⟨Lc48, hQ48, l48, y48, z48⟩, st48⟩ := X47.virtualBack hx (y := (⟨"java/lang/String", "charAt", "(I)C"⟩ : MethodName)) (z := (⟨"java/lang/String", "charAt", "(I)C"⟩ : MethodName)) hown (mvT hZ (hw _ (List.mem_of_getElem? (i := 61) rfl))) (mvT hZ (hw _ (List.mem_of_getElem? (i := 62) rfl))) (notFace_of_selects (args := #[]) (mvT hZ (hw _ (List.mem_of_getElem? (i := 64) rfl)))) (mvT hZ (hw _ (List.mem_of_getElem? (i := 64) rfl))) (mvT hZ (hw _ (List.mem_of_getElem? (i := 63) rfl))) (by decide) (backOf (W := 1) (rmcharAt l Z a0 hw [] a t kc (1 : Int32) [(.int c0)] (0 : Int32) c0 c0 zc fmv T45.heap n0 Z_ O_ S_CS P_CS S_SF rf_fmv E_a Fc Fv V ⟨by decide, by decide⟩ rfl (own_ach P_c0) (own_anc P_c0)) hZ (hw _ (List.mem_of_getElem? (i := 65) rfl)) (hw _ (List.mem_of_getElem? (i := 1) rfl)) (by decide) (by decide)) q48a q48c (g := (mkF m 47 #[.val (.ref o), .val (.int (2 : Int32)), .val (.ref a), .val (.int (0 : Int32))] [(.int (0 : Int32)), (.ref a), (.ref b40)])) rfl (by rw [hml]; rfl) (Steps.refl _) (argsL := [(.int (0 : Int32))]) (rest := [(.ref b40)]) (lenOf pd_9 rfl) rfl (by show 2 * 0 + _ ≤ _; exact Nat.le_of_eq rfl) (hb hby d1_47) (fun _ _ => ⟨rfl, e47, (by decide : 1 + 0 ≤ _), (by decide : 128 + 0 ≤ _)⟩)
  dsimp only [Pt.U, Pt.locs, Pt.cells, Pt.slots] at X48 l48 y48 z48 st48 hQ48
  subst l48 y48 z48
  obtain ⟨rfl, N48q, e48⟩ := hQ48
  have N48 := Fr.app N46 N48q
  refine OwnGo.st (fun _ kk => st48.trans kk) ?_
  show OwnGo p e below s _ _ _ T48 (mkF m 50 #[.val (.ref o), .val (.int (2 : Int32)), .val (.ref a), .val (.int (0 : Int32))] [(.int c0), (.ref b40)])
  refine OwnGo.st (fun _ kk => XS.iloadN X48.here hx rfl (hb hby d1_50) rfl  kk) ?_
  show OwnGo p e below s _ _ _ T48 (mkF m 51 #[.val (.ref o), .val (.int (2 : Int32)), .val (.ref a), .val (.int (0 : Int32))] [(.int (0 : Int32)), (.int c0), (.ref b40)])
  refine OwnGo.st (fun _ kk => XS.i2b X48.here hx rfl (hb hby d1_51) rfl kk) ?_
  show OwnGo p e below s _ _ _ T48 (mkF m 52 #[.val (.ref o), .val (.int (2 : Int32)), .val (.ref a), .val (.int (0 : Int32))] [(.int ((0 : Int32).toInt8.toInt32)), (.int c0), (.ref b40)])
  obtain ⟨cl49, Ar49, Sz49, -⟩ := id A_b40
  obtain ⟨T49, h49, X49, e49, W49, st49⟩ := stB X48 hx hZ e48 Ar49 (j := c0) (by rw [Sz49]; exact own_ain P_c0) (g := (mkF m 52 #[.val (.ref o), .val (.int (2 : Int32)), .val (.ref a), .val (.int (0 : Int32))] [(.int ((0 : Int32).toInt8.toInt32)), (.int c0), (.ref b40)])) rfl rfl (hb hby d1_52)
  have A' : OwnFn Z h49 b40 .byte 128 (own_tab [(c0, 0)]) := A_b40.set W49
  have E_o := E_o.wr W49
  have E_a := E_a.wr W49
  have Fc := Fc.other W49 (Or.inl ne_a_b40)
  have Fv := Fv.other W49 (Or.inl ne_a_b40)
  have V := V.other W49 ne_t_b40
  have F_values_o := F_values_o.other W49 (Or.inl ne_o_b40)
  have F_width_o := F_width_o.other W49 (Or.inl ne_o_b40)
  have F_characters_o := F_characters_o.other W49 (Or.inl ne_o_b40)
  have O_ := O_.wr W49 g_b40
  have Kp := Kp.wr W49 (Or.inr sz_b40)
  have A_b40 := A'
  have N49 := Fr.snoc X49 N48 g_b40
  have Z_ : n0 ≤ h49.size := by rw [W49.size]; exact Z_
  refine OwnGo.st st49 ?_
  show OwnGo p e below s _ _ _ T49 (mkF m 53 #[.val (.ref o), .val (.int (2 : Int32)), .val (.ref a), .val (.int (0 : Int32))] [])
  refine OwnGo.st (fun _ kk => XS.iinc X49.here hx rfl (hb hby d1_53) rfl (l' := #[.val (.ref o), .val (.int (2 : Int32)), .val (.ref a), .val (.int (1 : Int32))]) rfl kk) ?_
  show OwnGo p e below s _ _ _ T49 (mkF m 56 #[.val (.ref o), .val (.int (2 : Int32)), .val (.ref a), .val (.int (1 : Int32))] [])
  refine OwnGo.st (fun _ kk => XS.goto X49.here hx rfl (pc0 := 56) (pc' := 33) rfl (hb hby d1_56) (by decide) (by decide) kk) ?_
  show OwnGo p e below s _ _ _ T49 (mkF m 33 #[.val (.ref o), .val (.int (2 : Int32)), .val (.ref a), .val (.int (1 : Int32))] [])
  refine OwnGo.st (fun _ kk => XS.iloadN X49.here hx rfl (hb hby d1_33) rfl  kk) ?_
  show OwnGo p e below s _ _ _ T49 (mkF m 34 #[.val (.ref o), .val (.int (2 : Int32)), .val (.ref a), .val (.int (1 : Int32))] [(.int (1 : Int32))])
  refine OwnGo.st (fun _ kk => XS.aloadN X49.here hx rfl (hb hby d1_34) rfl rfl  kk) ?_
  show OwnGo p e below s _ _ _ T49 (mkF m 35 #[.val (.ref o), .val (.int (2 : Int32)), .val (.ref a), .val (.int (1 : Int32))] [(.ref a), (.int (1 : Int32))])
  obtain ⟨cq50, kq50, q50a, q50b, q50c⟩ := isOf hZ e49 E_a
  obtain ⟨_, _, ⟨T50, L50, k50, n50⟩, -, X50, ⟨Lc50, hQ50, l50, y50, z50⟩, st50⟩ := X49.virtualBack hx (y := (⟨"java/lang/String", "length", "()I"⟩ : MethodName)) (z := (⟨"java/lang/String", "length", "()I"⟩ : MethodName)) hown (mvT hZ (hw _ (List.mem_of_getElem? (i := 27) rfl))) (mvT hZ (hw _ (List.mem_of_getElem? (i := 28) rfl))) (notFace_of_selects (args := #[]) (mvT hZ (hw _ (List.mem_of_getElem? (i := 30) rfl)))) (mvT hZ (hw _ (List.mem_of_getElem? (i := 30) rfl))) (mvT hZ (hw _ (List.mem_of_getElem? (i := 29) rfl))) (by decide) (backOf (W := 1) (rmlength l Z a0 hw [] a t kc (1 : Int32) [(.int c0)] zc h49 n0 Z_ O_ S_CS P_CS E_a Fc Fv V) hZ (hw _ (List.mem_of_getElem? (i := 31) rfl)) (hw _ (List.mem_of_getElem? (i := 1) rfl)) (by decide) (by decide)) q50a q50c (g := (mkF m 35 #[.val (.ref o), .val (.int (2 : Int32)), .val (.ref a), .val (.int (1 : Int32))] [(.ref a), (.int (1 : Int32))])) rfl (by rw [hml]; rfl) (Steps.refl _) (argsL := []) (rest := [(.int (1 : Int32))]) (lenOf pd_8 rfl) rfl (by show 2 * 0 + _ ≤ _; exact Nat.le_of_eq rfl) (hb hby d1_35) (fun _ _ => ⟨rfl, e49, (by decide : 1 + 0 ≤ _), (by decide : 128 + 0 ≤ _)⟩)
  dsimp only [Pt.U, Pt.locs, Pt.cells, Pt.slots] at X50 l50 y50 z50 st50 hQ50
  subst l50 y50 z50
  obtain ⟨rfl, N50q, e50⟩ := hQ50
  have N50 := Fr.app N49 N50q
  refine OwnGo.st (fun _ kk => st50.trans kk) ?_
  show OwnGo p e below s _ _ _ T50 (mkF m 38 #[.val (.ref o), .val (.int (2 : Int32)), .val (.ref a), .val (.int (1 : Int32))] [(.int (1 : Int32)), (.int (1 : Int32))])
  refine OwnGo.st (fun _ kk => XS.icmpYes X50.here hx rfl (pc0 := 38) (pc' := 59) rfl (hb hby d1_38) rfl (flt ((by decide) : ¬ ((1 : Int32) < (1 : Int32)))).2.1 (by decide) (by decide) kk) ?_
  show OwnGo p e below s _ _ _ T50 (mkF m 59 #[.val (.ref o), .val (.int (2 : Int32)), .val (.ref a), .val (.int (1 : Int32))] [])
  exact OwnGo.retV X50 hx hret hlk (hb hby d1_59) (by show Qini1 Z o a t kc c0 zc fmv h0 n0 _ T50.heap _; rw [e50]; exact ⟨rfl, N50, Kp, E_o, b40, F_values_o, A_b40⟩) (by decide) (by decide)
def Qini2 (Z : State) (o : Addr) (a : Addr) (t : Addr) (kc : ClassId) (c0 : Int32) (c1 : Int32) (zc : Int32) (fmv : Value) (h0 : Heap) (n0 : Nat) (v : Option Value) (h : Heap) (L : List Loc) : Prop := v = none ∧ Fr n0 L ∧ Keep h0 h [o] ∧ Exa Z h o "io/quintet/Alphabet" ∧ ∃ b : Addr, Fld Z h o "io/quintet/Alphabet" "values" "[B" (.ref b) ∧ OwnFn Z h b .byte 128 (own_tab [(c1, 1), (c0, 0)])
set_option maxRecDepth 65536 in
set_option maxHeartbeats 40000000 in
theorem rmini2 (l : Launch) (Z : State) (a0 : Array Value) (hw : ∀ d ∈ tables_1, d.before a0 Z = true) (ws : List Jvm.Cond) (o : Addr) (a : Addr) (t : Addr) (kc : ClassId) (c0 : Int32) (c1 : Int32) (zc : Int32) (fmv : Value) (h0 : Heap) (n0 : Nat) (Z0 : n0 ≤ h0.size) (O_ : Old Z n0 h0) (S_CS : Sta Z Z.heap "java/lang/String" "COMPACT_STRINGS" "Z" (.int zc)) (P_CS : ¬ zc = (0 : Int32)) (S_SF : Sta Z Z.heap "jdk/internal/util/Preconditions" "SIOOBE_FORMATTER" "Ljava/util/function/BiFunction;" fmv) (rf_fmv : fmv.isRef = true) (E_o : Exa Z h0 o "io/quintet/Alphabet") (g_o : n0 ≤ o) (ne_a_o : a ≠ o) (ne_t_o : t ≠ o) (F_values_o : Fld Z h0 o "io/quintet/Alphabet" "values" "[B" .null) (F_width_o : Fld Z h0 o "io/quintet/Alphabet" "width" "I" (.int (0 : Int32))) (F_characters_o : Fld Z h0 o "io/quintet/Alphabet" "characters" "Ljava/lang/String;" .null) (E_a : Exa Z h0 a "java/lang/String") (Fc : Fld Z h0 a "java/lang/String" "coder" "B" (.int (0 : Int32))) (Fv : Fld Z h0 a "java/lang/String" "value" "[B" (.ref t)) (V : Arv Z h0 t kc .byte (2 : Int32) [(.int c0), (.int c1)] (.int (0 : Int32))) (P_c0 : own_asc c0) (P_c1 : own_asc c1) :
    MetFree l (⟨"io/quintet/Alphabet", "<init>", "(ILjava/lang/String;)V"⟩ : MethodName) (head1 (Jvm.Cond.code (⟨"io/quintet/Alphabet", "<init>", "(ILjava/lang/String;)V"⟩ : MethodName) prog_1_method_1_code 4 none :: ws) ({ frames := 4, cells := 1, slots := 128, locals := 54 } : Room)) (fun as_ UU => as_ = #[(.ref o), (.int (2 : Int32)), (.ref a)] ∧ Z.Warmed39 UU.vm ∧ UU.heap = h0) (fun _ _ _ _ _ => True) (fun _ UU oo UU' => ∃ vv LL, oo = .returned vv ∧ (Qini2 Z o a t kc c0 c1 zc fmv h0 n0) vv UU'.heap LL ∧ FrameEnd UU oo UU' LL ({ frames := 4, cells := 1, slots := 128, locals := 54 } : Room).cells ({ frames := 4, cells := 1, slots := 128, locals := 54 } : Room).slots) := by
  refine own_met (plainFor_of_name pn_6) ?_
  intro p e s m below meth c s₁ X0 hx hby hml hret hlk hown hnm hZ e0
  have N0 := Fr.nil n0
  have Z_ := Z0
  refine OwnGo.cast (ef_ini2 m o (2 : Int32) a) ?_
  show OwnGo p e below s _ _ _ s₁ (mkF m 0 #[.val (.ref o), .val (.int (2 : Int32)), .val (.ref a), .unset] [])
  have Kp : Keep h0 h0 [o] := Keep.refl h0 [o]
  refine OwnGo.st (fun _ kk => XS.aloadN X0.here hx rfl (hb hby d1_0) rfl rfl  kk) ?_
  show OwnGo p e below s _ _ _ s₁ (mkF m 1 #[.val (.ref o), .val (.int (2 : Int32)), .val (.ref a), .unset] [(.ref o)])
  obtain ⟨T51, X51, e51, st51⟩ := initO X0 hx hZ hown (hw _ (List.mem_of_getElem? (i := 14) rfl)) (hw _ (List.mem_of_getElem? (i := 15) rfl)) (hw _ (List.mem_of_getElem? (i := 16) rfl)) e0 (g := (mkF m 1 #[.val (.ref o), .val (.int (2 : Int32)), .val (.ref a), .unset] [(.ref o)])) rfl (by rw [hml]; rfl) rfl (hb hby d1_1) (by decide) (W := 0) (by show 2 * 0 + _ ≤ _; exact Nat.le_of_eq rfl) (by decide)
  refine OwnGo.st st51 ?_
  show OwnGo p e below s _ _ _ T51 (mkF m 4 #[.val (.ref o), .val (.int (2 : Int32)), .val (.ref a), .unset] [])
  refine OwnGo.st (fun _ kk => XS.aloadN X51.here hx rfl (hb hby d1_4) rfl rfl  kk) ?_
  show OwnGo p e below s _ _ _ T51 (mkF m 5 #[.val (.ref o), .val (.int (2 : Int32)), .val (.ref a), .unset] [(.ref o)])
  refine OwnGo.st (fun _ kk => XS.sipush X51.here hx rfl (hb hby d1_5) kk) ?_
  show OwnGo p e below s _ _ _ T51 (mkF m 8 #[.val (.ref o), .val (.int (2 : Int32)), .val (.ref a), .unset] [(.int (128 : Int32)), (.ref o)])
  obtain ⟨T52, h52, k52, X52, e52, E52, A52, Ex52, st52⟩ := newPE X51 hx hZ (hw _ (List.mem_of_getElem? (i := 3) rfl)) e51 (g := (mkF m 8 #[.val (.ref o), .val (.int (2 : Int32)), .val (.ref a), .unset] [(.int (128 : Int32)), (.ref o)])) rfl (hb hby d1_8) rfl (by decide) (cap := 128) (by decide) (by decide) (by decide) (by decide) (ad := "[B") (by decide)
  obtain ⟨b52, g52⟩ : ∃ z, z = h0.size := ⟨_, rfl⟩
  rw [← g52] at A52 Ex52 st52
  have ne_o_b52 : o ≠ b52 := Nat.ne_of_lt (Nat.lt_of_lt_of_le E_o.lt (Nat.le_of_eq g52.symm))
  have ne_a_b52 : a ≠ b52 := Nat.ne_of_lt (Nat.lt_of_lt_of_le E_a.lt (Nat.le_of_eq g52.symm))
  have ne_t_b52 : t ≠ b52 := Nat.ne_of_lt (Nat.lt_of_lt_of_le V.lt (Nat.le_of_eq g52.symm))
  have g_b52 : n0 ≤ b52 := Nat.le_trans Z_ (Nat.le_of_eq g52.symm)
  have sz_b52 : h0.size ≤ b52 := Nat.le_trans Kp.1 (Nat.le_of_eq g52.symm)
  have E_o := E_o.ext E52
  have E_a := E_a.ext E52
  have Fc := Fc.ext E52
  have Fv := Fv.ext E52
  have V := V.ext E52
  have F_values_o := F_values_o.ext E52
  have F_width_o := F_width_o.ext E52
  have F_characters_o := F_characters_o.ext E52
  have O_ := O_.ext E52
  have Kp := Kp.ext E52
  have Z_ : n0 ≤ h52.size := Nat.le_trans Z_ E52.1
  have A_b52 : OwnFn Z h52 b52 .byte 128 (fun _ => 0) := OwnFn.new A52 rfl
  refine OwnGo.st st52 ?_
  show OwnGo p e below s _ _ _ T52 (mkF m 10 #[.val (.ref o), .val (.int (2 : Int32)), .val (.ref a), .unset] [(.ref b52), (.ref o)])
  obtain ⟨T53, h53, X53, e53, W53, st53⟩ := putF X52 hx hZ hown (host := "") (Or.inl (hw _ (List.mem_of_getElem? (i := 17) rfl))) Via.refl e52 F_values_o E_o (Or.inr ⟨(hw _ (List.mem_of_getElem? (i := 18) rfl)), rfl, hnm⟩) (hw _ (List.mem_of_getElem? (i := 9) rfl)) (ty := (.array .byte)) (by decide) rfl rfl (g := (mkF m 10 #[.val (.ref o), .val (.int (2 : Int32)), .val (.ref a), .unset] [(.ref b52), (.ref o)])) rfl rfl (hb hby d1_10)
  have E_o := E_o.wr W53
  have E_a := E_a.wr W53
  have Fc := Fc.other W53 (Or.inl ne_a_o)
  have Fv := Fv.other W53 (Or.inl ne_a_o)
  have V := V.other W53 ne_t_o
  have F_values_o := F_values_o.same W53
  have F_width_o := F_width_o.other W53 (Or.inr (slot_ne (Or.inr (hw _ (List.mem_of_getElem? (i := 20) rfl))) (Or.inr (hw _ (List.mem_of_getElem? (i := 18) rfl))) (by decide) (t := .int) (t' := (.array .byte)) (by decide) (by decide)))
  have F_characters_o := F_characters_o.other W53 (Or.inr (slot_ne (Or.inr (hw _ (List.mem_of_getElem? (i := 22) rfl))) (Or.inr (hw _ (List.mem_of_getElem? (i := 18) rfl))) (by decide) (t := (.object "java/lang/String")) (t' := (.array .byte)) (by decide) (by decide)))
  have A_b52 := A_b52.other W53 (Ne.symm ne_o_b52)
  have O_ := O_.wr W53 g_o
  have Kp := Kp.wr W53 (Or.inl (List.mem_of_getElem? (i := 0) rfl))
  have N53 := Fr.snoc X53 N0 g_o
  have Z_ : n0 ≤ h53.size := by rw [W53.size]; exact Z_
  refine OwnGo.st st53 ?_
  show OwnGo p e below s _ _ _ T53 (mkF m 13 #[.val (.ref o), .val (.int (2 : Int32)), .val (.ref a), .unset] [])
  refine OwnGo.st (fun _ kk => XS.aloadN X53.here hx rfl (hb hby d1_13) rfl rfl  kk) ?_
  show OwnGo p e below s _ _ _ T53 (mkF m 14 #[.val (.ref o), .val (.int (2 : Int32)), .val (.ref a), .unset] [(.ref o)])
  refine OwnGo.st (fun _ kk => XS.iloadN X53.here hx rfl (hb hby d1_14) rfl  kk) ?_
  show OwnGo p e below s _ _ _ T53 (mkF m 15 #[.val (.ref o), .val (.int (2 : Int32)), .val (.ref a), .unset] [(.int (2 : Int32)), (.ref o)])
  obtain ⟨T54, h54, X54, e54, W54, st54⟩ := putF X53 hx hZ hown (host := "") (Or.inl (hw _ (List.mem_of_getElem? (i := 19) rfl))) Via.refl e53 F_width_o E_o (Or.inr ⟨(hw _ (List.mem_of_getElem? (i := 20) rfl)), rfl, hnm⟩) (hw _ (List.mem_of_getElem? (i := 9) rfl)) (ty := .int) (by decide) rfl rfl (g := (mkF m 15 #[.val (.ref o), .val (.int (2 : Int32)), .val (.ref a), .unset] [(.int (2 : Int32)), (.ref o)])) rfl rfl (hb hby d1_15)
  have E_o := E_o.wr W54
  have E_a := E_a.wr W54
  have Fc := Fc.other W54 (Or.inl ne_a_o)
  have Fv := Fv.other W54 (Or.inl ne_a_o)
  have V := V.other W54 ne_t_o
  have F_values_o := F_values_o.other W54 (Or.inr (slot_ne (Or.inr (hw _ (List.mem_of_getElem? (i := 18) rfl))) (Or.inr (hw _ (List.mem_of_getElem? (i := 20) rfl))) (by decide) (t := (.array .byte)) (t' := .int) (by decide) (by decide)))
  have F_width_o := F_width_o.same W54
  have F_characters_o := F_characters_o.other W54 (Or.inr (slot_ne (Or.inr (hw _ (List.mem_of_getElem? (i := 22) rfl))) (Or.inr (hw _ (List.mem_of_getElem? (i := 20) rfl))) (by decide) (t := (.object "java/lang/String")) (t' := .int) (by decide) (by decide)))
  have A_b52 := A_b52.other W54 (Ne.symm ne_o_b52)
  have O_ := O_.wr W54 g_o
  have Kp := Kp.wr W54 (Or.inl (List.mem_of_getElem? (i := 0) rfl))
  have N54 := Fr.snoc X54 N53 g_o
  have Z_ : n0 ≤ h54.size := by rw [W54.size]; exact Z_
  refine OwnGo.st st54 ?_
  show OwnGo p e below s _ _ _ T54 (mkF m 18 #[.val (.ref o), .val (.int (2 : Int32)), .val (.ref a), .unset] [])
  refine OwnGo.st (fun _ kk => XS.aloadN X54.here hx rfl (hb hby d1_18) rfl rfl  kk) ?_
  show OwnGo p e below s _ _ _ T54 (mkF m 19 #[.val (.ref o), .val (.int (2 : Int32)), .val (.ref a), .unset] [(.ref o)])
  refine OwnGo.st (fun _ kk => XS.aloadN X54.here hx rfl (hb hby d1_19) rfl rfl  kk) ?_
  show OwnGo p e below s _ _ _ T54 (mkF m 20 #[.val (.ref o), .val (.int (2 : Int32)), .val (.ref a), .unset] [(.ref a), (.ref o)])
  obtain ⟨T55, h55, X55, e55, W55, st55⟩ := putF X54 hx hZ hown (host := "") (Or.inl (hw _ (List.mem_of_getElem? (i := 21) rfl))) Via.refl e54 F_characters_o E_o (Or.inr ⟨(hw _ (List.mem_of_getElem? (i := 22) rfl)), rfl, hnm⟩) (hw _ (List.mem_of_getElem? (i := 9) rfl)) (ty := (.object "java/lang/String")) (by decide) rfl rfl (g := (mkF m 20 #[.val (.ref o), .val (.int (2 : Int32)), .val (.ref a), .unset] [(.ref a), (.ref o)])) rfl rfl (hb hby d1_20)
  have E_o := E_o.wr W55
  have E_a := E_a.wr W55
  have Fc := Fc.other W55 (Or.inl ne_a_o)
  have Fv := Fv.other W55 (Or.inl ne_a_o)
  have V := V.other W55 ne_t_o
  have F_values_o := F_values_o.other W55 (Or.inr (slot_ne (Or.inr (hw _ (List.mem_of_getElem? (i := 18) rfl))) (Or.inr (hw _ (List.mem_of_getElem? (i := 22) rfl))) (by decide) (t := (.array .byte)) (t' := (.object "java/lang/String")) (by decide) (by decide)))
  have F_width_o := F_width_o.other W55 (Or.inr (slot_ne (Or.inr (hw _ (List.mem_of_getElem? (i := 20) rfl))) (Or.inr (hw _ (List.mem_of_getElem? (i := 22) rfl))) (by decide) (t := .int) (t' := (.object "java/lang/String")) (by decide) (by decide)))
  have F_characters_o := F_characters_o.same W55
  have A_b52 := A_b52.other W55 (Ne.symm ne_o_b52)
  have O_ := O_.wr W55 g_o
  have Kp := Kp.wr W55 (Or.inl (List.mem_of_getElem? (i := 0) rfl))
  have N55 := Fr.snoc X55 N54 g_o
  have Z_ : n0 ≤ h55.size := by rw [W55.size]; exact Z_
  refine OwnGo.st st55 ?_
  show OwnGo p e below s _ _ _ T55 (mkF m 23 #[.val (.ref o), .val (.int (2 : Int32)), .val (.ref a), .unset] [])
  refine OwnGo.st (fun _ kk => XS.aloadN X55.here hx rfl (hb hby d1_23) rfl rfl  kk) ?_
  show OwnGo p e below s _ _ _ T55 (mkF m 24 #[.val (.ref o), .val (.int (2 : Int32)), .val (.ref a), .unset] [(.ref o)])
  obtain ⟨T56, X56, e56, st56⟩ := getF X55 hx hZ hown (host := "") (Or.inl (hw _ (List.mem_of_getElem? (i := 17) rfl))) Via.refl e55 F_values_o (g := (mkF m 24 #[.val (.ref o), .val (.int (2 : Int32)), .val (.ref a), .unset] [(.ref o)])) rfl rfl (hb hby d1_24)
  refine OwnGo.st st56 ?_
  show OwnGo p e below s _ _ _ T56 (mkF m 27 #[.val (.ref o), .val (.int (2 : Int32)), .val (.ref a), .unset] [(.ref b52)])
  refine OwnGo.st (fun _ kk => XS.iconst X56.here hx rfl (hb hby d1_27) kk) ?_
  show OwnGo p e below s _ _ _ T56 (mkF m 28 #[.val (.ref o), .val (.int (2 : Int32)), .val (.ref a), .unset] [(.int (-1 : Int32)), (.ref b52)])
  obtain ⟨_, _, ⟨T57, L57, k57, n57⟩, -, X57, ⟨Lc57, hQ57, l57, y57, z57⟩, st57⟩ := Jvm.LawKit.callS X56 hx (y := (⟨"java/util/Arrays", "fill", "([BB)V"⟩ : MethodName)) hown (mvT hZ (hw _ (List.mem_of_getElem? (i := 23) rfl))) (mvT hZ (hw _ (List.mem_of_getElem? (i := 24) rfl))) (mvT hZ (hw _ (List.mem_of_getElem? (i := 25) rfl))) (mvT hZ (hw _ (List.mem_of_getElem? (i := 26) rfl))) (by decide) (backOf (W := 0) (rmfill l Z a0 hw [] b52 (-1 : Int32) 128 h55 n0 Z_ A_b52 g_b52 (by decide)) hZ (hw _ (List.mem_of_getElem? (i := 26) rfl)) (hw _ (List.mem_of_getElem? (i := 25) rfl)) (by decide) (by decide)) (g := (mkF m 28 #[.val (.ref o), .val (.int (2 : Int32)), .val (.ref a), .unset] [(.int (-1 : Int32)), (.ref b52)])) rfl (by rw [hml]; rfl) (argsL := [(.ref b52), (.int (-1 : Int32))]) (rest := []) (lenOf pd_7 rfl) rfl (by show 2 * 0 + _ ≤ _; exact Nat.le_of_eq rfl) (hb hby d1_28) (fun _ _ => ⟨rfl, e56, (by decide : 1 + 0 ≤ _), (by decide : 128 + 0 ≤ _)⟩)
  dsimp only [Pt.U, Pt.locs, Pt.cells, Pt.slots] at X57 l57 y57 z57 st57 hQ57
  subst l57 y57 z57
  obtain ⟨rfl, N57q, K57, A57⟩ := hQ57
  have N57 := Fr.app N55 N57q
  have Z_ : n0 ≤ T57.heap.size := Nat.le_trans Z_ K57.1
  have E_o := E_o.keep K57
  have E_a := E_a.keep K57
  have Fc := Fc.keep K57 (ninS ne_a_b52 nin0)
  have Fv := Fv.keep K57 (ninS ne_a_b52 nin0)
  have V := V.keep K57 (ninS ne_t_b52 nin0)
  have F_values_o := F_values_o.keep K57 (ninS ne_o_b52 nin0)
  have F_width_o := F_width_o.keep K57 (ninS ne_o_b52 nin0)
  have F_characters_o := F_characters_o.keep K57 (ninS ne_o_b52 nin0)
  have O_ := O_.keep K57 (allS g_b52 all0)
  have Kp := Kp.trans K57 (allS (Or.inr sz_b52) all0)
  have A_b52 : OwnFn Z T57.heap b52 .byte 128 (own_tab []) := A57
  refine OwnGo.st st57 ?_
  show OwnGo p e below s _ _ _ T57 (mkF m 31 #[.val (.ref o), .val (.int (2 : Int32)), .val (.ref a), .unset] [])
  refine OwnGo.st (fun _ kk => XS.iconst X57.here hx rfl (hb hby d1_31) kk) ?_
  show OwnGo p e below s _ _ _ T57 (mkF m 32 #[.val (.ref o), .val (.int (2 : Int32)), .val (.ref a), .unset] [(.int (0 : Int32))])
  refine OwnGo.st (fun _ kk => XS.istoreN X57.here hx rfl (hb hby d1_32) rfl (l' := #[.val (.ref o), .val (.int (2 : Int32)), .val (.ref a), .val (.int (0 : Int32))]) rfl kk) ?_
  show OwnGo p e below s _ _ _ T57 (mkF m 33 #[.val (.ref o), .val (.int (2 : Int32)), .val (.ref a), .val (.int (0 : Int32))] [])
  refine OwnGo.st (fun _ kk => XS.iloadN X57.here hx rfl (hb hby d1_33) rfl  kk) ?_
  show OwnGo p e below s _ _ _ T57 (mkF m 34 #[.val (.ref o), .val (.int (2 : Int32)), .val (.ref a), .val (.int (0 : Int32))] [(.int (0 : Int32))])
  refine OwnGo.st (fun _ kk => XS.aloadN X57.here hx rfl (hb hby d1_34) rfl rfl  kk) ?_
  show OwnGo p e below s _ _ _ T57 (mkF m 35 #[.val (.ref o), .val (.int (2 : Int32)), .val (.ref a), .val (.int (0 : Int32))] [(.ref a), (.int (0 : Int32))])
  obtain ⟨cq58, kq58, q58a, q58b, q58c⟩ := isOf hZ rfl E_a
  obtain ⟨_, _, ⟨T58, L58, k58, n58⟩, -, X58, ⟨Lc58, hQ58, l58, y58, z58⟩, st58⟩ := X57.virtualBack hx (y := (⟨"java/lang/String", "length", "()I"⟩ : MethodName)) (z := (⟨"java/lang/String", "length", "()I"⟩ : MethodName)) hown (mvT hZ (hw _ (List.mem_of_getElem? (i := 27) rfl))) (mvT hZ (hw _ (List.mem_of_getElem? (i := 28) rfl))) (notFace_of_selects (args := #[]) (mvT hZ (hw _ (List.mem_of_getElem? (i := 30) rfl)))) (mvT hZ (hw _ (List.mem_of_getElem? (i := 30) rfl))) (mvT hZ (hw _ (List.mem_of_getElem? (i := 29) rfl))) (by decide) (backOf (W := 1) (rmlength l Z a0 hw [] a t kc (2 : Int32) [(.int c0), (.int c1)] zc T57.heap n0 Z_ O_ S_CS P_CS E_a Fc Fv V) hZ (hw _ (List.mem_of_getElem? (i := 31) rfl)) (hw _ (List.mem_of_getElem? (i := 1) rfl)) (by decide) (by decide)) q58a q58c (g := (mkF m 35 #[.val (.ref o), .val (.int (2 : Int32)), .val (.ref a), .val (.int (0 : Int32))] [(.ref a), (.int (0 : Int32))])) rfl (by rw [hml]; rfl) (Steps.refl _) (argsL := []) (rest := [(.int (0 : Int32))]) (lenOf pd_8 rfl) rfl (by show 2 * 0 + _ ≤ _; exact Nat.le_of_eq rfl) (hb hby d1_35) (fun _ _ => ⟨rfl, rfl, (by decide : 1 + 0 ≤ _), (by decide : 128 + 0 ≤ _)⟩)
  dsimp only [Pt.U, Pt.locs, Pt.cells, Pt.slots] at X58 l58 y58 z58 st58 hQ58
  subst l58 y58 z58
  obtain ⟨rfl, N58q, e58⟩ := hQ58
  have N58 := Fr.app N57 N58q
  refine OwnGo.st (fun _ kk => st58.trans kk) ?_
  show OwnGo p e below s _ _ _ T58 (mkF m 38 #[.val (.ref o), .val (.int (2 : Int32)), .val (.ref a), .val (.int (0 : Int32))] [(.int (2 : Int32)), (.int (0 : Int32))])
  refine OwnGo.st (fun _ kk => XS.icmpNo X58.here hx rfl (hb hby d1_38) rfl (tlt ((by decide) : (0 : Int32) < (2 : Int32))).2.1 kk) ?_
  show OwnGo p e below s _ _ _ T58 (mkF m 41 #[.val (.ref o), .val (.int (2 : Int32)), .val (.ref a), .val (.int (0 : Int32))] [])
  refine OwnGo.st (fun _ kk => XS.aloadN X58.here hx rfl (hb hby d1_41) rfl rfl  kk) ?_
  show OwnGo p e below s _ _ _ T58 (mkF m 42 #[.val (.ref o), .val (.int (2 : Int32)), .val (.ref a), .val (.int (0 : Int32))] [(.ref o)])
  obtain ⟨T59, X59, e59, st59⟩ := getF X58 hx hZ hown (host := "") (Or.inl (hw _ (List.mem_of_getElem? (i := 17) rfl))) Via.refl e58 F_values_o (g := (mkF m 42 #[.val (.ref o), .val (.int (2 : Int32)), .val (.ref a), .val (.int (0 : Int32))] [(.ref o)])) rfl rfl (hb hby d1_42)
  refine OwnGo.st st59 ?_
  show OwnGo p e below s _ _ _ T59 (mkF m 45 #[.val (.ref o), .val (.int (2 : Int32)), .val (.ref a), .val (.int (0 : Int32))] [(.ref b52)])
  refine OwnGo.st (fun _ kk => XS.aloadN X59.here hx rfl (hb hby d1_45) rfl rfl  kk) ?_
  show OwnGo p e below s _ _ _ T59 (mkF m 46 #[.val (.ref o), .val (.int (2 : Int32)), .val (.ref a), .val (.int (0 : Int32))] [(.ref a), (.ref b52)])
  refine OwnGo.st (fun _ kk => XS.iloadN X59.here hx rfl (hb hby d1_46) rfl  kk) ?_
  show OwnGo p e below s _ _ _ T59 (mkF m 47 #[.val (.ref o), .val (.int (2 : Int32)), .val (.ref a), .val (.int (0 : Int32))] [(.int (0 : Int32)), (.ref a), (.ref b52)])
  obtain ⟨cq60, kq60, q60a, q60b, q60c⟩ := isOf hZ e59 E_a
  obtain ⟨_, _, ⟨T60, L60, k60, n60⟩, -, X60, ⟨Lc60, hQ60, l60, y60, z60⟩, st60⟩ := X59.virtualBack hx (y := (⟨"java/lang/String", "charAt", "(I)C"⟩ : MethodName)) (z := (⟨"java/lang/String", "charAt", "(I)C"⟩ : MethodName)) hown (mvT hZ (hw _ (List.mem_of_getElem? (i := 61) rfl))) (mvT hZ (hw _ (List.mem_of_getElem? (i := 62) rfl))) (notFace_of_selects (args := #[]) (mvT hZ (hw _ (List.mem_of_getElem? (i := 64) rfl)))) (mvT hZ (hw _ (List.mem_of_getElem? (i := 64) rfl))) (mvT hZ (hw _ (List.mem_of_getElem? (i := 63) rfl))) (by decide) (backOf (W := 1) (rmcharAt l Z a0 hw [] a t kc (2 : Int32) [(.int c0), (.int c1)] (0 : Int32) c0 c0 zc fmv T57.heap n0 Z_ O_ S_CS P_CS S_SF rf_fmv E_a Fc Fv V ⟨by decide, by decide⟩ rfl (own_ach P_c0) (own_anc P_c0)) hZ (hw _ (List.mem_of_getElem? (i := 65) rfl)) (hw _ (List.mem_of_getElem? (i := 1) rfl)) (by decide) (by decide)) q60a q60c (g := (mkF m 47 #[.val (.ref o), .val (.int (2 : Int32)), .val (.ref a), .val (.int (0 : Int32))] [(.int (0 : Int32)), (.ref a), (.ref b52)])) rfl (by rw [hml]; rfl) (Steps.refl _) (argsL := [(.int (0 : Int32))]) (rest := [(.ref b52)]) (lenOf pd_9 rfl) rfl (by show 2 * 0 + _ ≤ _; exact Nat.le_of_eq rfl) (hb hby d1_47) (fun _ _ => ⟨rfl, e59, (by decide : 1 + 0 ≤ _), (by decide : 128 + 0 ≤ _)⟩)
  dsimp only [Pt.U, Pt.locs, Pt.cells, Pt.slots] at X60 l60 y60 z60 st60 hQ60
  subst l60 y60 z60
  obtain ⟨rfl, N60q, e60⟩ := hQ60
  have N60 := Fr.app N58 N60q
  refine OwnGo.st (fun _ kk => st60.trans kk) ?_
  show OwnGo p e below s _ _ _ T60 (mkF m 50 #[.val (.ref o), .val (.int (2 : Int32)), .val (.ref a), .val (.int (0 : Int32))] [(.int c0), (.ref b52)])
  refine OwnGo.st (fun _ kk => XS.iloadN X60.here hx rfl (hb hby d1_50) rfl  kk) ?_
  show OwnGo p e below s _ _ _ T60 (mkF m 51 #[.val (.ref o), .val (.int (2 : Int32)), .val (.ref a), .val (.int (0 : Int32))] [(.int (0 : Int32)), (.int c0), (.ref b52)])
  refine OwnGo.st (fun _ kk => XS.i2b X60.here hx rfl (hb hby d1_51) rfl kk) ?_
  show OwnGo p e below s _ _ _ T60 (mkF m 52 #[.val (.ref o), .val (.int (2 : Int32)), .val (.ref a), .val (.int (0 : Int32))] [(.int ((0 : Int32).toInt8.toInt32)), (.int c0), (.ref b52)])
  obtain ⟨cl61, Ar61, Sz61, -⟩ := id A_b52
  obtain ⟨T61, h61, X61, e61, W61, st61⟩ := stB X60 hx hZ e60 Ar61 (j := c0) (by rw [Sz61]; exact own_ain P_c0) (g := (mkF m 52 #[.val (.ref o), .val (.int (2 : Int32)), .val (.ref a), .val (.int (0 : Int32))] [(.int ((0 : Int32).toInt8.toInt32)), (.int c0), (.ref b52)])) rfl rfl (hb hby d1_52)
  have A' : OwnFn Z h61 b52 .byte 128 (own_tab [(c0, 0)]) := A_b52.set W61
  have E_o := E_o.wr W61
  have E_a := E_a.wr W61
  have Fc := Fc.other W61 (Or.inl ne_a_b52)
  have Fv := Fv.other W61 (Or.inl ne_a_b52)
  have V := V.other W61 ne_t_b52
  have F_values_o := F_values_o.other W61 (Or.inl ne_o_b52)
  have F_width_o := F_width_o.other W61 (Or.inl ne_o_b52)
  have F_characters_o := F_characters_o.other W61 (Or.inl ne_o_b52)
  have O_ := O_.wr W61 g_b52
  have Kp := Kp.wr W61 (Or.inr sz_b52)
  have A_b52 := A'
  have N61 := Fr.snoc X61 N60 g_b52
  have Z_ : n0 ≤ h61.size := by rw [W61.size]; exact Z_
  refine OwnGo.st st61 ?_
  show OwnGo p e below s _ _ _ T61 (mkF m 53 #[.val (.ref o), .val (.int (2 : Int32)), .val (.ref a), .val (.int (0 : Int32))] [])
  refine OwnGo.st (fun _ kk => XS.iinc X61.here hx rfl (hb hby d1_53) rfl (l' := #[.val (.ref o), .val (.int (2 : Int32)), .val (.ref a), .val (.int (1 : Int32))]) rfl kk) ?_
  show OwnGo p e below s _ _ _ T61 (mkF m 56 #[.val (.ref o), .val (.int (2 : Int32)), .val (.ref a), .val (.int (1 : Int32))] [])
  refine OwnGo.st (fun _ kk => XS.goto X61.here hx rfl (pc0 := 56) (pc' := 33) rfl (hb hby d1_56) (by decide) (by decide) kk) ?_
  show OwnGo p e below s _ _ _ T61 (mkF m 33 #[.val (.ref o), .val (.int (2 : Int32)), .val (.ref a), .val (.int (1 : Int32))] [])
  refine OwnGo.st (fun _ kk => XS.iloadN X61.here hx rfl (hb hby d1_33) rfl  kk) ?_
  show OwnGo p e below s _ _ _ T61 (mkF m 34 #[.val (.ref o), .val (.int (2 : Int32)), .val (.ref a), .val (.int (1 : Int32))] [(.int (1 : Int32))])
  refine OwnGo.st (fun _ kk => XS.aloadN X61.here hx rfl (hb hby d1_34) rfl rfl  kk) ?_
  show OwnGo p e below s _ _ _ T61 (mkF m 35 #[.val (.ref o), .val (.int (2 : Int32)), .val (.ref a), .val (.int (1 : Int32))] [(.ref a), (.int (1 : Int32))])
  obtain ⟨cq62, kq62, q62a, q62b, q62c⟩ := isOf hZ e61 E_a
  obtain ⟨_, _, ⟨T62, L62, k62, n62⟩, -, X62, ⟨Lc62, hQ62, l62, y62, z62⟩, st62⟩ := X61.virtualBack hx (y := (⟨"java/lang/String", "length", "()I"⟩ : MethodName)) (z := (⟨"java/lang/String", "length", "()I"⟩ : MethodName)) hown (mvT hZ (hw _ (List.mem_of_getElem? (i := 27) rfl))) (mvT hZ (hw _ (List.mem_of_getElem? (i := 28) rfl))) (notFace_of_selects (args := #[]) (mvT hZ (hw _ (List.mem_of_getElem? (i := 30) rfl)))) (mvT hZ (hw _ (List.mem_of_getElem? (i := 30) rfl))) (mvT hZ (hw _ (List.mem_of_getElem? (i := 29) rfl))) (by decide) (backOf (W := 1) (rmlength l Z a0 hw [] a t kc (2 : Int32) [(.int c0), (.int c1)] zc h61 n0 Z_ O_ S_CS P_CS E_a Fc Fv V) hZ (hw _ (List.mem_of_getElem? (i := 31) rfl)) (hw _ (List.mem_of_getElem? (i := 1) rfl)) (by decide) (by decide)) q62a q62c (g := (mkF m 35 #[.val (.ref o), .val (.int (2 : Int32)), .val (.ref a), .val (.int (1 : Int32))] [(.ref a), (.int (1 : Int32))])) rfl (by rw [hml]; rfl) (Steps.refl _) (argsL := []) (rest := [(.int (1 : Int32))]) (lenOf pd_8 rfl) rfl (by show 2 * 0 + _ ≤ _; exact Nat.le_of_eq rfl) (hb hby d1_35) (fun _ _ => ⟨rfl, e61, (by decide : 1 + 0 ≤ _), (by decide : 128 + 0 ≤ _)⟩)
  dsimp only [Pt.U, Pt.locs, Pt.cells, Pt.slots] at X62 l62 y62 z62 st62 hQ62
  subst l62 y62 z62
  obtain ⟨rfl, N62q, e62⟩ := hQ62
  have N62 := Fr.app N61 N62q
  refine OwnGo.st (fun _ kk => st62.trans kk) ?_
  show OwnGo p e below s _ _ _ T62 (mkF m 38 #[.val (.ref o), .val (.int (2 : Int32)), .val (.ref a), .val (.int (1 : Int32))] [(.int (2 : Int32)), (.int (1 : Int32))])
  refine OwnGo.st (fun _ kk => XS.icmpNo X62.here hx rfl (hb hby d1_38) rfl (tlt ((by decide) : (1 : Int32) < (2 : Int32))).2.1 kk) ?_
  show OwnGo p e below s _ _ _ T62 (mkF m 41 #[.val (.ref o), .val (.int (2 : Int32)), .val (.ref a), .val (.int (1 : Int32))] [])
  refine OwnGo.st (fun _ kk => XS.aloadN X62.here hx rfl (hb hby d1_41) rfl rfl  kk) ?_
  show OwnGo p e below s _ _ _ T62 (mkF m 42 #[.val (.ref o), .val (.int (2 : Int32)), .val (.ref a), .val (.int (1 : Int32))] [(.ref o)])
  obtain ⟨T63, X63, e63, st63⟩ := getF X62 hx hZ hown (host := "") (Or.inl (hw _ (List.mem_of_getElem? (i := 17) rfl))) Via.refl e62 F_values_o (g := (mkF m 42 #[.val (.ref o), .val (.int (2 : Int32)), .val (.ref a), .val (.int (1 : Int32))] [(.ref o)])) rfl rfl (hb hby d1_42)
  refine OwnGo.st st63 ?_
  show OwnGo p e below s _ _ _ T63 (mkF m 45 #[.val (.ref o), .val (.int (2 : Int32)), .val (.ref a), .val (.int (1 : Int32))] [(.ref b52)])
  refine OwnGo.st (fun _ kk => XS.aloadN X63.here hx rfl (hb hby d1_45) rfl rfl  kk) ?_
  show OwnGo p e below s _ _ _ T63 (mkF m 46 #[.val (.ref o), .val (.int (2 : Int32)), .val (.ref a), .val (.int (1 : Int32))] [(.ref a), (.ref b52)])
  refine OwnGo.st (fun _ kk => XS.iloadN X63.here hx rfl (hb hby d1_46) rfl  kk) ?_
  show OwnGo p e below s _ _ _ T63 (mkF m 47 #[.val (.ref o), .val (.int (2 : Int32)), .val (.ref a), .val (.int (1 : Int32))] [(.int (1 : Int32)), (.ref a), (.ref b52)])
  obtain ⟨cq64, kq64, q64a, q64b, q64c⟩ := isOf hZ e63 E_a
  obtain ⟨_, _, ⟨T64, L64, k64, n64⟩, -, X64, ⟨Lc64, hQ64, l64, y64, z64⟩, st64⟩ := X63.virtualBack hx (y := (⟨"java/lang/String", "charAt", "(I)C"⟩ : MethodName)) (z := (⟨"java/lang/String", "charAt", "(I)C"⟩ : MethodName)) hown (mvT hZ (hw _ (List.mem_of_getElem? (i := 61) rfl))) (mvT hZ (hw _ (List.mem_of_getElem? (i := 62) rfl))) (notFace_of_selects (args := #[]) (mvT hZ (hw _ (List.mem_of_getElem? (i := 64) rfl)))) (mvT hZ (hw _ (List.mem_of_getElem? (i := 64) rfl))) (mvT hZ (hw _ (List.mem_of_getElem? (i := 63) rfl))) (by decide) (backOf (W := 1) (rmcharAt l Z a0 hw [] a t kc (2 : Int32) [(.int c0), (.int c1)] (1 : Int32) c1 c1 zc fmv h61 n0 Z_ O_ S_CS P_CS S_SF rf_fmv E_a Fc Fv V ⟨by decide, by decide⟩ rfl (own_ach P_c1) (own_anc P_c1)) hZ (hw _ (List.mem_of_getElem? (i := 65) rfl)) (hw _ (List.mem_of_getElem? (i := 1) rfl)) (by decide) (by decide)) q64a q64c (g := (mkF m 47 #[.val (.ref o), .val (.int (2 : Int32)), .val (.ref a), .val (.int (1 : Int32))] [(.int (1 : Int32)), (.ref a), (.ref b52)])) rfl (by rw [hml]; rfl) (Steps.refl _) (argsL := [(.int (1 : Int32))]) (rest := [(.ref b52)]) (lenOf pd_9 rfl) rfl (by show 2 * 0 + _ ≤ _; exact Nat.le_of_eq rfl) (hb hby d1_47) (fun _ _ => ⟨rfl, e63, (by decide : 1 + 0 ≤ _), (by decide : 128 + 0 ≤ _)⟩)
  dsimp only [Pt.U, Pt.locs, Pt.cells, Pt.slots] at X64 l64 y64 z64 st64 hQ64
  subst l64 y64 z64
  obtain ⟨rfl, N64q, e64⟩ := hQ64
  have N64 := Fr.app N62 N64q
  refine OwnGo.st (fun _ kk => st64.trans kk) ?_
  show OwnGo p e below s _ _ _ T64 (mkF m 50 #[.val (.ref o), .val (.int (2 : Int32)), .val (.ref a), .val (.int (1 : Int32))] [(.int c1), (.ref b52)])
  refine OwnGo.st (fun _ kk => XS.iloadN X64.here hx rfl (hb hby d1_50) rfl  kk) ?_
  show OwnGo p e below s _ _ _ T64 (mkF m 51 #[.val (.ref o), .val (.int (2 : Int32)), .val (.ref a), .val (.int (1 : Int32))] [(.int (1 : Int32)), (.int c1), (.ref b52)])
  refine OwnGo.st (fun _ kk => XS.i2b X64.here hx rfl (hb hby d1_51) rfl kk) ?_
  show OwnGo p e below s _ _ _ T64 (mkF m 52 #[.val (.ref o), .val (.int (2 : Int32)), .val (.ref a), .val (.int (1 : Int32))] [(.int ((1 : Int32).toInt8.toInt32)), (.int c1), (.ref b52)])
  obtain ⟨cl65, Ar65, Sz65, -⟩ := id A_b52
  obtain ⟨T65, h65, X65, e65, W65, st65⟩ := stB X64 hx hZ e64 Ar65 (j := c1) (by rw [Sz65]; exact own_ain P_c1) (g := (mkF m 52 #[.val (.ref o), .val (.int (2 : Int32)), .val (.ref a), .val (.int (1 : Int32))] [(.int ((1 : Int32).toInt8.toInt32)), (.int c1), (.ref b52)])) rfl rfl (hb hby d1_52)
  have A' : OwnFn Z h65 b52 .byte 128 (own_tab [(c1, 1), (c0, 0)]) := A_b52.set W65
  have E_o := E_o.wr W65
  have E_a := E_a.wr W65
  have Fc := Fc.other W65 (Or.inl ne_a_b52)
  have Fv := Fv.other W65 (Or.inl ne_a_b52)
  have V := V.other W65 ne_t_b52
  have F_values_o := F_values_o.other W65 (Or.inl ne_o_b52)
  have F_width_o := F_width_o.other W65 (Or.inl ne_o_b52)
  have F_characters_o := F_characters_o.other W65 (Or.inl ne_o_b52)
  have O_ := O_.wr W65 g_b52
  have Kp := Kp.wr W65 (Or.inr sz_b52)
  have A_b52 := A'
  have N65 := Fr.snoc X65 N64 g_b52
  have Z_ : n0 ≤ h65.size := by rw [W65.size]; exact Z_
  refine OwnGo.st st65 ?_
  show OwnGo p e below s _ _ _ T65 (mkF m 53 #[.val (.ref o), .val (.int (2 : Int32)), .val (.ref a), .val (.int (1 : Int32))] [])
  refine OwnGo.st (fun _ kk => XS.iinc X65.here hx rfl (hb hby d1_53) rfl (l' := #[.val (.ref o), .val (.int (2 : Int32)), .val (.ref a), .val (.int (2 : Int32))]) rfl kk) ?_
  show OwnGo p e below s _ _ _ T65 (mkF m 56 #[.val (.ref o), .val (.int (2 : Int32)), .val (.ref a), .val (.int (2 : Int32))] [])
  refine OwnGo.st (fun _ kk => XS.goto X65.here hx rfl (pc0 := 56) (pc' := 33) rfl (hb hby d1_56) (by decide) (by decide) kk) ?_
  show OwnGo p e below s _ _ _ T65 (mkF m 33 #[.val (.ref o), .val (.int (2 : Int32)), .val (.ref a), .val (.int (2 : Int32))] [])
  refine OwnGo.st (fun _ kk => XS.iloadN X65.here hx rfl (hb hby d1_33) rfl  kk) ?_
  show OwnGo p e below s _ _ _ T65 (mkF m 34 #[.val (.ref o), .val (.int (2 : Int32)), .val (.ref a), .val (.int (2 : Int32))] [(.int (2 : Int32))])
  refine OwnGo.st (fun _ kk => XS.aloadN X65.here hx rfl (hb hby d1_34) rfl rfl  kk) ?_
  show OwnGo p e below s _ _ _ T65 (mkF m 35 #[.val (.ref o), .val (.int (2 : Int32)), .val (.ref a), .val (.int (2 : Int32))] [(.ref a), (.int (2 : Int32))])
  obtain ⟨cq66, kq66, q66a, q66b, q66c⟩ := isOf hZ e65 E_a
  obtain ⟨_, _, ⟨T66, L66, k66, n66⟩, -, X66, ⟨Lc66, hQ66, l66, y66, z66⟩, st66⟩ := X65.virtualBack hx (y := (⟨"java/lang/String", "length", "()I"⟩ : MethodName)) (z := (⟨"java/lang/String", "length", "()I"⟩ : MethodName)) hown (mvT hZ (hw _ (List.mem_of_getElem? (i := 27) rfl))) (mvT hZ (hw _ (List.mem_of_getElem? (i := 28) rfl))) (notFace_of_selects (args := #[]) (mvT hZ (hw _ (List.mem_of_getElem? (i := 30) rfl)))) (mvT hZ (hw _ (List.mem_of_getElem? (i := 30) rfl))) (mvT hZ (hw _ (List.mem_of_getElem? (i := 29) rfl))) (by decide) (backOf (W := 1) (rmlength l Z a0 hw [] a t kc (2 : Int32) [(.int c0), (.int c1)] zc h65 n0 Z_ O_ S_CS P_CS E_a Fc Fv V) hZ (hw _ (List.mem_of_getElem? (i := 31) rfl)) (hw _ (List.mem_of_getElem? (i := 1) rfl)) (by decide) (by decide)) q66a q66c (g := (mkF m 35 #[.val (.ref o), .val (.int (2 : Int32)), .val (.ref a), .val (.int (2 : Int32))] [(.ref a), (.int (2 : Int32))])) rfl (by rw [hml]; rfl) (Steps.refl _) (argsL := []) (rest := [(.int (2 : Int32))]) (lenOf pd_8 rfl) rfl (by show 2 * 0 + _ ≤ _; exact Nat.le_of_eq rfl) (hb hby d1_35) (fun _ _ => ⟨rfl, e65, (by decide : 1 + 0 ≤ _), (by decide : 128 + 0 ≤ _)⟩)
  dsimp only [Pt.U, Pt.locs, Pt.cells, Pt.slots] at X66 l66 y66 z66 st66 hQ66
  subst l66 y66 z66
  obtain ⟨rfl, N66q, e66⟩ := hQ66
  have N66 := Fr.app N65 N66q
  refine OwnGo.st (fun _ kk => st66.trans kk) ?_
  show OwnGo p e below s _ _ _ T66 (mkF m 38 #[.val (.ref o), .val (.int (2 : Int32)), .val (.ref a), .val (.int (2 : Int32))] [(.int (2 : Int32)), (.int (2 : Int32))])
  refine OwnGo.st (fun _ kk => XS.icmpYes X66.here hx rfl (pc0 := 38) (pc' := 59) rfl (hb hby d1_38) rfl (flt ((by decide) : ¬ ((2 : Int32) < (2 : Int32)))).2.1 (by decide) (by decide) kk) ?_
  show OwnGo p e below s _ _ _ T66 (mkF m 59 #[.val (.ref o), .val (.int (2 : Int32)), .val (.ref a), .val (.int (2 : Int32))] [])
  exact OwnGo.retV X66 hx hret hlk (hb hby d1_59) (by show Qini2 Z o a t kc c0 c1 zc fmv h0 n0 _ T66.heap _; rw [e66]; exact ⟨rfl, N66, Kp, E_o, b52, F_values_o, A_b52⟩) (by decide) (by decide)
def Qini3 (Z : State) (o : Addr) (a : Addr) (t : Addr) (kc : ClassId) (c0 : Int32) (c1 : Int32) (c2 : Int32) (zc : Int32) (fmv : Value) (h0 : Heap) (n0 : Nat) (v : Option Value) (h : Heap) (L : List Loc) : Prop := v = none ∧ Fr n0 L ∧ Keep h0 h [o] ∧ Exa Z h o "io/quintet/Alphabet" ∧ ∃ b : Addr, Fld Z h o "io/quintet/Alphabet" "values" "[B" (.ref b) ∧ OwnFn Z h b .byte 128 (own_tab [(c2, 2), (c1, 1), (c0, 0)])
set_option maxRecDepth 65536 in
set_option maxHeartbeats 40000000 in
theorem rmini3 (l : Launch) (Z : State) (a0 : Array Value) (hw : ∀ d ∈ tables_1, d.before a0 Z = true) (ws : List Jvm.Cond) (o : Addr) (a : Addr) (t : Addr) (kc : ClassId) (c0 : Int32) (c1 : Int32) (c2 : Int32) (zc : Int32) (fmv : Value) (h0 : Heap) (n0 : Nat) (Z0 : n0 ≤ h0.size) (O_ : Old Z n0 h0) (S_CS : Sta Z Z.heap "java/lang/String" "COMPACT_STRINGS" "Z" (.int zc)) (P_CS : ¬ zc = (0 : Int32)) (S_SF : Sta Z Z.heap "jdk/internal/util/Preconditions" "SIOOBE_FORMATTER" "Ljava/util/function/BiFunction;" fmv) (rf_fmv : fmv.isRef = true) (E_o : Exa Z h0 o "io/quintet/Alphabet") (g_o : n0 ≤ o) (ne_a_o : a ≠ o) (ne_t_o : t ≠ o) (F_values_o : Fld Z h0 o "io/quintet/Alphabet" "values" "[B" .null) (F_width_o : Fld Z h0 o "io/quintet/Alphabet" "width" "I" (.int (0 : Int32))) (F_characters_o : Fld Z h0 o "io/quintet/Alphabet" "characters" "Ljava/lang/String;" .null) (E_a : Exa Z h0 a "java/lang/String") (Fc : Fld Z h0 a "java/lang/String" "coder" "B" (.int (0 : Int32))) (Fv : Fld Z h0 a "java/lang/String" "value" "[B" (.ref t)) (V : Arv Z h0 t kc .byte (3 : Int32) [(.int c0), (.int c1), (.int c2)] (.int (0 : Int32))) (P_c0 : own_asc c0) (P_c1 : own_asc c1) (P_c2 : own_asc c2) :
    MetFree l (⟨"io/quintet/Alphabet", "<init>", "(ILjava/lang/String;)V"⟩ : MethodName) (head1 (Jvm.Cond.code (⟨"io/quintet/Alphabet", "<init>", "(ILjava/lang/String;)V"⟩ : MethodName) prog_1_method_1_code 4 none :: ws) ({ frames := 4, cells := 1, slots := 128, locals := 54 } : Room)) (fun as_ UU => as_ = #[(.ref o), (.int (2 : Int32)), (.ref a)] ∧ Z.Warmed39 UU.vm ∧ UU.heap = h0) (fun _ _ _ _ _ => True) (fun _ UU oo UU' => ∃ vv LL, oo = .returned vv ∧ (Qini3 Z o a t kc c0 c1 c2 zc fmv h0 n0) vv UU'.heap LL ∧ FrameEnd UU oo UU' LL ({ frames := 4, cells := 1, slots := 128, locals := 54 } : Room).cells ({ frames := 4, cells := 1, slots := 128, locals := 54 } : Room).slots) := by
  refine own_met (plainFor_of_name pn_6) ?_
  intro p e s m below meth c s₁ X0 hx hby hml hret hlk hown hnm hZ e0
  have N0 := Fr.nil n0
  have Z_ := Z0
  refine OwnGo.cast (ef_ini3 m o (2 : Int32) a) ?_
  show OwnGo p e below s _ _ _ s₁ (mkF m 0 #[.val (.ref o), .val (.int (2 : Int32)), .val (.ref a), .unset] [])
  have Kp : Keep h0 h0 [o] := Keep.refl h0 [o]
  refine OwnGo.st (fun _ kk => XS.aloadN X0.here hx rfl (hb hby d1_0) rfl rfl  kk) ?_
  show OwnGo p e below s _ _ _ s₁ (mkF m 1 #[.val (.ref o), .val (.int (2 : Int32)), .val (.ref a), .unset] [(.ref o)])
  obtain ⟨T67, X67, e67, st67⟩ := initO X0 hx hZ hown (hw _ (List.mem_of_getElem? (i := 14) rfl)) (hw _ (List.mem_of_getElem? (i := 15) rfl)) (hw _ (List.mem_of_getElem? (i := 16) rfl)) e0 (g := (mkF m 1 #[.val (.ref o), .val (.int (2 : Int32)), .val (.ref a), .unset] [(.ref o)])) rfl (by rw [hml]; rfl) rfl (hb hby d1_1) (by decide) (W := 0) (by show 2 * 0 + _ ≤ _; exact Nat.le_of_eq rfl) (by decide)
  refine OwnGo.st st67 ?_
  show OwnGo p e below s _ _ _ T67 (mkF m 4 #[.val (.ref o), .val (.int (2 : Int32)), .val (.ref a), .unset] [])
  refine OwnGo.st (fun _ kk => XS.aloadN X67.here hx rfl (hb hby d1_4) rfl rfl  kk) ?_
  show OwnGo p e below s _ _ _ T67 (mkF m 5 #[.val (.ref o), .val (.int (2 : Int32)), .val (.ref a), .unset] [(.ref o)])
  refine OwnGo.st (fun _ kk => XS.sipush X67.here hx rfl (hb hby d1_5) kk) ?_
  show OwnGo p e below s _ _ _ T67 (mkF m 8 #[.val (.ref o), .val (.int (2 : Int32)), .val (.ref a), .unset] [(.int (128 : Int32)), (.ref o)])
  obtain ⟨T68, h68, k68, X68, e68, E68, A68, Ex68, st68⟩ := newPE X67 hx hZ (hw _ (List.mem_of_getElem? (i := 3) rfl)) e67 (g := (mkF m 8 #[.val (.ref o), .val (.int (2 : Int32)), .val (.ref a), .unset] [(.int (128 : Int32)), (.ref o)])) rfl (hb hby d1_8) rfl (by decide) (cap := 128) (by decide) (by decide) (by decide) (by decide) (ad := "[B") (by decide)
  obtain ⟨b68, g68⟩ : ∃ z, z = h0.size := ⟨_, rfl⟩
  rw [← g68] at A68 Ex68 st68
  have ne_o_b68 : o ≠ b68 := Nat.ne_of_lt (Nat.lt_of_lt_of_le E_o.lt (Nat.le_of_eq g68.symm))
  have ne_a_b68 : a ≠ b68 := Nat.ne_of_lt (Nat.lt_of_lt_of_le E_a.lt (Nat.le_of_eq g68.symm))
  have ne_t_b68 : t ≠ b68 := Nat.ne_of_lt (Nat.lt_of_lt_of_le V.lt (Nat.le_of_eq g68.symm))
  have g_b68 : n0 ≤ b68 := Nat.le_trans Z_ (Nat.le_of_eq g68.symm)
  have sz_b68 : h0.size ≤ b68 := Nat.le_trans Kp.1 (Nat.le_of_eq g68.symm)
  have E_o := E_o.ext E68
  have E_a := E_a.ext E68
  have Fc := Fc.ext E68
  have Fv := Fv.ext E68
  have V := V.ext E68
  have F_values_o := F_values_o.ext E68
  have F_width_o := F_width_o.ext E68
  have F_characters_o := F_characters_o.ext E68
  have O_ := O_.ext E68
  have Kp := Kp.ext E68
  have Z_ : n0 ≤ h68.size := Nat.le_trans Z_ E68.1
  have A_b68 : OwnFn Z h68 b68 .byte 128 (fun _ => 0) := OwnFn.new A68 rfl
  refine OwnGo.st st68 ?_
  show OwnGo p e below s _ _ _ T68 (mkF m 10 #[.val (.ref o), .val (.int (2 : Int32)), .val (.ref a), .unset] [(.ref b68), (.ref o)])
  obtain ⟨T69, h69, X69, e69, W69, st69⟩ := putF X68 hx hZ hown (host := "") (Or.inl (hw _ (List.mem_of_getElem? (i := 17) rfl))) Via.refl e68 F_values_o E_o (Or.inr ⟨(hw _ (List.mem_of_getElem? (i := 18) rfl)), rfl, hnm⟩) (hw _ (List.mem_of_getElem? (i := 9) rfl)) (ty := (.array .byte)) (by decide) rfl rfl (g := (mkF m 10 #[.val (.ref o), .val (.int (2 : Int32)), .val (.ref a), .unset] [(.ref b68), (.ref o)])) rfl rfl (hb hby d1_10)
  have E_o := E_o.wr W69
  have E_a := E_a.wr W69
  have Fc := Fc.other W69 (Or.inl ne_a_o)
  have Fv := Fv.other W69 (Or.inl ne_a_o)
  have V := V.other W69 ne_t_o
  have F_values_o := F_values_o.same W69
  have F_width_o := F_width_o.other W69 (Or.inr (slot_ne (Or.inr (hw _ (List.mem_of_getElem? (i := 20) rfl))) (Or.inr (hw _ (List.mem_of_getElem? (i := 18) rfl))) (by decide) (t := .int) (t' := (.array .byte)) (by decide) (by decide)))
  have F_characters_o := F_characters_o.other W69 (Or.inr (slot_ne (Or.inr (hw _ (List.mem_of_getElem? (i := 22) rfl))) (Or.inr (hw _ (List.mem_of_getElem? (i := 18) rfl))) (by decide) (t := (.object "java/lang/String")) (t' := (.array .byte)) (by decide) (by decide)))
  have A_b68 := A_b68.other W69 (Ne.symm ne_o_b68)
  have O_ := O_.wr W69 g_o
  have Kp := Kp.wr W69 (Or.inl (List.mem_of_getElem? (i := 0) rfl))
  have N69 := Fr.snoc X69 N0 g_o
  have Z_ : n0 ≤ h69.size := by rw [W69.size]; exact Z_
  refine OwnGo.st st69 ?_
  show OwnGo p e below s _ _ _ T69 (mkF m 13 #[.val (.ref o), .val (.int (2 : Int32)), .val (.ref a), .unset] [])
  refine OwnGo.st (fun _ kk => XS.aloadN X69.here hx rfl (hb hby d1_13) rfl rfl  kk) ?_
  show OwnGo p e below s _ _ _ T69 (mkF m 14 #[.val (.ref o), .val (.int (2 : Int32)), .val (.ref a), .unset] [(.ref o)])
  refine OwnGo.st (fun _ kk => XS.iloadN X69.here hx rfl (hb hby d1_14) rfl  kk) ?_
  show OwnGo p e below s _ _ _ T69 (mkF m 15 #[.val (.ref o), .val (.int (2 : Int32)), .val (.ref a), .unset] [(.int (2 : Int32)), (.ref o)])
  obtain ⟨T70, h70, X70, e70, W70, st70⟩ := putF X69 hx hZ hown (host := "") (Or.inl (hw _ (List.mem_of_getElem? (i := 19) rfl))) Via.refl e69 F_width_o E_o (Or.inr ⟨(hw _ (List.mem_of_getElem? (i := 20) rfl)), rfl, hnm⟩) (hw _ (List.mem_of_getElem? (i := 9) rfl)) (ty := .int) (by decide) rfl rfl (g := (mkF m 15 #[.val (.ref o), .val (.int (2 : Int32)), .val (.ref a), .unset] [(.int (2 : Int32)), (.ref o)])) rfl rfl (hb hby d1_15)
  have E_o := E_o.wr W70
  have E_a := E_a.wr W70
  have Fc := Fc.other W70 (Or.inl ne_a_o)
  have Fv := Fv.other W70 (Or.inl ne_a_o)
  have V := V.other W70 ne_t_o
  have F_values_o := F_values_o.other W70 (Or.inr (slot_ne (Or.inr (hw _ (List.mem_of_getElem? (i := 18) rfl))) (Or.inr (hw _ (List.mem_of_getElem? (i := 20) rfl))) (by decide) (t := (.array .byte)) (t' := .int) (by decide) (by decide)))
  have F_width_o := F_width_o.same W70
  have F_characters_o := F_characters_o.other W70 (Or.inr (slot_ne (Or.inr (hw _ (List.mem_of_getElem? (i := 22) rfl))) (Or.inr (hw _ (List.mem_of_getElem? (i := 20) rfl))) (by decide) (t := (.object "java/lang/String")) (t' := .int) (by decide) (by decide)))
  have A_b68 := A_b68.other W70 (Ne.symm ne_o_b68)
  have O_ := O_.wr W70 g_o
  have Kp := Kp.wr W70 (Or.inl (List.mem_of_getElem? (i := 0) rfl))
  have N70 := Fr.snoc X70 N69 g_o
  have Z_ : n0 ≤ h70.size := by rw [W70.size]; exact Z_
  refine OwnGo.st st70 ?_
  show OwnGo p e below s _ _ _ T70 (mkF m 18 #[.val (.ref o), .val (.int (2 : Int32)), .val (.ref a), .unset] [])
  refine OwnGo.st (fun _ kk => XS.aloadN X70.here hx rfl (hb hby d1_18) rfl rfl  kk) ?_
  show OwnGo p e below s _ _ _ T70 (mkF m 19 #[.val (.ref o), .val (.int (2 : Int32)), .val (.ref a), .unset] [(.ref o)])
  refine OwnGo.st (fun _ kk => XS.aloadN X70.here hx rfl (hb hby d1_19) rfl rfl  kk) ?_
  show OwnGo p e below s _ _ _ T70 (mkF m 20 #[.val (.ref o), .val (.int (2 : Int32)), .val (.ref a), .unset] [(.ref a), (.ref o)])
  obtain ⟨T71, h71, X71, e71, W71, st71⟩ := putF X70 hx hZ hown (host := "") (Or.inl (hw _ (List.mem_of_getElem? (i := 21) rfl))) Via.refl e70 F_characters_o E_o (Or.inr ⟨(hw _ (List.mem_of_getElem? (i := 22) rfl)), rfl, hnm⟩) (hw _ (List.mem_of_getElem? (i := 9) rfl)) (ty := (.object "java/lang/String")) (by decide) rfl rfl (g := (mkF m 20 #[.val (.ref o), .val (.int (2 : Int32)), .val (.ref a), .unset] [(.ref a), (.ref o)])) rfl rfl (hb hby d1_20)
  have E_o := E_o.wr W71
  have E_a := E_a.wr W71
  have Fc := Fc.other W71 (Or.inl ne_a_o)
  have Fv := Fv.other W71 (Or.inl ne_a_o)
  have V := V.other W71 ne_t_o
  have F_values_o := F_values_o.other W71 (Or.inr (slot_ne (Or.inr (hw _ (List.mem_of_getElem? (i := 18) rfl))) (Or.inr (hw _ (List.mem_of_getElem? (i := 22) rfl))) (by decide) (t := (.array .byte)) (t' := (.object "java/lang/String")) (by decide) (by decide)))
  have F_width_o := F_width_o.other W71 (Or.inr (slot_ne (Or.inr (hw _ (List.mem_of_getElem? (i := 20) rfl))) (Or.inr (hw _ (List.mem_of_getElem? (i := 22) rfl))) (by decide) (t := .int) (t' := (.object "java/lang/String")) (by decide) (by decide)))
  have F_characters_o := F_characters_o.same W71
  have A_b68 := A_b68.other W71 (Ne.symm ne_o_b68)
  have O_ := O_.wr W71 g_o
  have Kp := Kp.wr W71 (Or.inl (List.mem_of_getElem? (i := 0) rfl))
  have N71 := Fr.snoc X71 N70 g_o
  have Z_ : n0 ≤ h71.size := by rw [W71.size]; exact Z_
  refine OwnGo.st st71 ?_
  show OwnGo p e below s _ _ _ T71 (mkF m 23 #[.val (.ref o), .val (.int (2 : Int32)), .val (.ref a), .unset] [])
  refine OwnGo.st (fun _ kk => XS.aloadN X71.here hx rfl (hb hby d1_23) rfl rfl  kk) ?_
  show OwnGo p e below s _ _ _ T71 (mkF m 24 #[.val (.ref o), .val (.int (2 : Int32)), .val (.ref a), .unset] [(.ref o)])
  obtain ⟨T72, X72, e72, st72⟩ := getF X71 hx hZ hown (host := "") (Or.inl (hw _ (List.mem_of_getElem? (i := 17) rfl))) Via.refl e71 F_values_o (g := (mkF m 24 #[.val (.ref o), .val (.int (2 : Int32)), .val (.ref a), .unset] [(.ref o)])) rfl rfl (hb hby d1_24)
  refine OwnGo.st st72 ?_
  show OwnGo p e below s _ _ _ T72 (mkF m 27 #[.val (.ref o), .val (.int (2 : Int32)), .val (.ref a), .unset] [(.ref b68)])
  refine OwnGo.st (fun _ kk => XS.iconst X72.here hx rfl (hb hby d1_27) kk) ?_
  show OwnGo p e below s _ _ _ T72 (mkF m 28 #[.val (.ref o), .val (.int (2 : Int32)), .val (.ref a), .unset] [(.int (-1 : Int32)), (.ref b68)])
  obtain ⟨_, _, ⟨T73, L73, k73, n73⟩, -, X73, ⟨Lc73, hQ73, l73, y73, z73⟩, st73⟩ := Jvm.LawKit.callS X72 hx (y := (⟨"java/util/Arrays", "fill", "([BB)V"⟩ : MethodName)) hown (mvT hZ (hw _ (List.mem_of_getElem? (i := 23) rfl))) (mvT hZ (hw _ (List.mem_of_getElem? (i := 24) rfl))) (mvT hZ (hw _ (List.mem_of_getElem? (i := 25) rfl))) (mvT hZ (hw _ (List.mem_of_getElem? (i := 26) rfl))) (by decide) (backOf (W := 0) (rmfill l Z a0 hw [] b68 (-1 : Int32) 128 h71 n0 Z_ A_b68 g_b68 (by decide)) hZ (hw _ (List.mem_of_getElem? (i := 26) rfl)) (hw _ (List.mem_of_getElem? (i := 25) rfl)) (by decide) (by decide)) (g := (mkF m 28 #[.val (.ref o), .val (.int (2 : Int32)), .val (.ref a), .unset] [(.int (-1 : Int32)), (.ref b68)])) rfl (by rw [hml]; rfl) (argsL := [(.ref b68), (.int (-1 : Int32))]) (rest := []) (lenOf pd_7 rfl) rfl (by show 2 * 0 + _ ≤ _; exact Nat.le_of_eq rfl) (hb hby d1_28) (fun _ _ => ⟨rfl, e72, (by decide : 1 + 0 ≤ _), (by decide : 128 + 0 ≤ _)⟩)
  dsimp only [Pt.U, Pt.locs, Pt.cells, Pt.slots] at X73 l73 y73 z73 st73 hQ73
  subst l73 y73 z73
  obtain ⟨rfl, N73q, K73, A73⟩ := hQ73
  have N73 := Fr.app N71 N73q
  have Z_ : n0 ≤ T73.heap.size := Nat.le_trans Z_ K73.1
  have E_o := E_o.keep K73
  have E_a := E_a.keep K73
  have Fc := Fc.keep K73 (ninS ne_a_b68 nin0)
  have Fv := Fv.keep K73 (ninS ne_a_b68 nin0)
  have V := V.keep K73 (ninS ne_t_b68 nin0)
  have F_values_o := F_values_o.keep K73 (ninS ne_o_b68 nin0)
  have F_width_o := F_width_o.keep K73 (ninS ne_o_b68 nin0)
  have F_characters_o := F_characters_o.keep K73 (ninS ne_o_b68 nin0)
  have O_ := O_.keep K73 (allS g_b68 all0)
  have Kp := Kp.trans K73 (allS (Or.inr sz_b68) all0)
  have A_b68 : OwnFn Z T73.heap b68 .byte 128 (own_tab []) := A73
  refine OwnGo.st st73 ?_
  show OwnGo p e below s _ _ _ T73 (mkF m 31 #[.val (.ref o), .val (.int (2 : Int32)), .val (.ref a), .unset] [])
  refine OwnGo.st (fun _ kk => XS.iconst X73.here hx rfl (hb hby d1_31) kk) ?_
  show OwnGo p e below s _ _ _ T73 (mkF m 32 #[.val (.ref o), .val (.int (2 : Int32)), .val (.ref a), .unset] [(.int (0 : Int32))])
  refine OwnGo.st (fun _ kk => XS.istoreN X73.here hx rfl (hb hby d1_32) rfl (l' := #[.val (.ref o), .val (.int (2 : Int32)), .val (.ref a), .val (.int (0 : Int32))]) rfl kk) ?_
  show OwnGo p e below s _ _ _ T73 (mkF m 33 #[.val (.ref o), .val (.int (2 : Int32)), .val (.ref a), .val (.int (0 : Int32))] [])
  refine OwnGo.st (fun _ kk => XS.iloadN X73.here hx rfl (hb hby d1_33) rfl  kk) ?_
  show OwnGo p e below s _ _ _ T73 (mkF m 34 #[.val (.ref o), .val (.int (2 : Int32)), .val (.ref a), .val (.int (0 : Int32))] [(.int (0 : Int32))])
  refine OwnGo.st (fun _ kk => XS.aloadN X73.here hx rfl (hb hby d1_34) rfl rfl  kk) ?_
  show OwnGo p e below s _ _ _ T73 (mkF m 35 #[.val (.ref o), .val (.int (2 : Int32)), .val (.ref a), .val (.int (0 : Int32))] [(.ref a), (.int (0 : Int32))])
  obtain ⟨cq74, kq74, q74a, q74b, q74c⟩ := isOf hZ rfl E_a
  obtain ⟨_, _, ⟨T74, L74, k74, n74⟩, -, X74, ⟨Lc74, hQ74, l74, y74, z74⟩, st74⟩ := X73.virtualBack hx (y := (⟨"java/lang/String", "length", "()I"⟩ : MethodName)) (z := (⟨"java/lang/String", "length", "()I"⟩ : MethodName)) hown (mvT hZ (hw _ (List.mem_of_getElem? (i := 27) rfl))) (mvT hZ (hw _ (List.mem_of_getElem? (i := 28) rfl))) (notFace_of_selects (args := #[]) (mvT hZ (hw _ (List.mem_of_getElem? (i := 30) rfl)))) (mvT hZ (hw _ (List.mem_of_getElem? (i := 30) rfl))) (mvT hZ (hw _ (List.mem_of_getElem? (i := 29) rfl))) (by decide) (backOf (W := 1) (rmlength l Z a0 hw [] a t kc (3 : Int32) [(.int c0), (.int c1), (.int c2)] zc T73.heap n0 Z_ O_ S_CS P_CS E_a Fc Fv V) hZ (hw _ (List.mem_of_getElem? (i := 31) rfl)) (hw _ (List.mem_of_getElem? (i := 1) rfl)) (by decide) (by decide)) q74a q74c (g := (mkF m 35 #[.val (.ref o), .val (.int (2 : Int32)), .val (.ref a), .val (.int (0 : Int32))] [(.ref a), (.int (0 : Int32))])) rfl (by rw [hml]; rfl) (Steps.refl _) (argsL := []) (rest := [(.int (0 : Int32))]) (lenOf pd_8 rfl) rfl (by show 2 * 0 + _ ≤ _; exact Nat.le_of_eq rfl) (hb hby d1_35) (fun _ _ => ⟨rfl, rfl, (by decide : 1 + 0 ≤ _), (by decide : 128 + 0 ≤ _)⟩)
  dsimp only [Pt.U, Pt.locs, Pt.cells, Pt.slots] at X74 l74 y74 z74 st74 hQ74
  subst l74 y74 z74
  obtain ⟨rfl, N74q, e74⟩ := hQ74
  have N74 := Fr.app N73 N74q
  refine OwnGo.st (fun _ kk => st74.trans kk) ?_
  show OwnGo p e below s _ _ _ T74 (mkF m 38 #[.val (.ref o), .val (.int (2 : Int32)), .val (.ref a), .val (.int (0 : Int32))] [(.int (3 : Int32)), (.int (0 : Int32))])
  refine OwnGo.st (fun _ kk => XS.icmpNo X74.here hx rfl (hb hby d1_38) rfl (tlt ((by decide) : (0 : Int32) < (3 : Int32))).2.1 kk) ?_
  show OwnGo p e below s _ _ _ T74 (mkF m 41 #[.val (.ref o), .val (.int (2 : Int32)), .val (.ref a), .val (.int (0 : Int32))] [])
  refine OwnGo.st (fun _ kk => XS.aloadN X74.here hx rfl (hb hby d1_41) rfl rfl  kk) ?_
  show OwnGo p e below s _ _ _ T74 (mkF m 42 #[.val (.ref o), .val (.int (2 : Int32)), .val (.ref a), .val (.int (0 : Int32))] [(.ref o)])
  obtain ⟨T75, X75, e75, st75⟩ := getF X74 hx hZ hown (host := "") (Or.inl (hw _ (List.mem_of_getElem? (i := 17) rfl))) Via.refl e74 F_values_o (g := (mkF m 42 #[.val (.ref o), .val (.int (2 : Int32)), .val (.ref a), .val (.int (0 : Int32))] [(.ref o)])) rfl rfl (hb hby d1_42)
  refine OwnGo.st st75 ?_
  show OwnGo p e below s _ _ _ T75 (mkF m 45 #[.val (.ref o), .val (.int (2 : Int32)), .val (.ref a), .val (.int (0 : Int32))] [(.ref b68)])
  refine OwnGo.st (fun _ kk => XS.aloadN X75.here hx rfl (hb hby d1_45) rfl rfl  kk) ?_
  show OwnGo p e below s _ _ _ T75 (mkF m 46 #[.val (.ref o), .val (.int (2 : Int32)), .val (.ref a), .val (.int (0 : Int32))] [(.ref a), (.ref b68)])
  refine OwnGo.st (fun _ kk => XS.iloadN X75.here hx rfl (hb hby d1_46) rfl  kk) ?_
  show OwnGo p e below s _ _ _ T75 (mkF m 47 #[.val (.ref o), .val (.int (2 : Int32)), .val (.ref a), .val (.int (0 : Int32))] [(.int (0 : Int32)), (.ref a), (.ref b68)])
  obtain ⟨cq76, kq76, q76a, q76b, q76c⟩ := isOf hZ e75 E_a
  obtain ⟨_, _, ⟨T76, L76, k76, n76⟩, -, X76, ⟨Lc76, hQ76, l76, y76, z76⟩, st76⟩ := X75.virtualBack hx (y := (⟨"java/lang/String", "charAt", "(I)C"⟩ : MethodName)) (z := (⟨"java/lang/String", "charAt", "(I)C"⟩ : MethodName)) hown (mvT hZ (hw _ (List.mem_of_getElem? (i := 61) rfl))) (mvT hZ (hw _ (List.mem_of_getElem? (i := 62) rfl))) (notFace_of_selects (args := #[]) (mvT hZ (hw _ (List.mem_of_getElem? (i := 64) rfl)))) (mvT hZ (hw _ (List.mem_of_getElem? (i := 64) rfl))) (mvT hZ (hw _ (List.mem_of_getElem? (i := 63) rfl))) (by decide) (backOf (W := 1) (rmcharAt l Z a0 hw [] a t kc (3 : Int32) [(.int c0), (.int c1), (.int c2)] (0 : Int32) c0 c0 zc fmv T73.heap n0 Z_ O_ S_CS P_CS S_SF rf_fmv E_a Fc Fv V ⟨by decide, by decide⟩ rfl (own_ach P_c0) (own_anc P_c0)) hZ (hw _ (List.mem_of_getElem? (i := 65) rfl)) (hw _ (List.mem_of_getElem? (i := 1) rfl)) (by decide) (by decide)) q76a q76c (g := (mkF m 47 #[.val (.ref o), .val (.int (2 : Int32)), .val (.ref a), .val (.int (0 : Int32))] [(.int (0 : Int32)), (.ref a), (.ref b68)])) rfl (by rw [hml]; rfl) (Steps.refl _) (argsL := [(.int (0 : Int32))]) (rest := [(.ref b68)]) (lenOf pd_9 rfl) rfl (by show 2 * 0 + _ ≤ _; exact Nat.le_of_eq rfl) (hb hby d1_47) (fun _ _ => ⟨rfl, e75, (by decide : 1 + 0 ≤ _), (by decide : 128 + 0 ≤ _)⟩)
  dsimp only [Pt.U, Pt.locs, Pt.cells, Pt.slots] at X76 l76 y76 z76 st76 hQ76
  subst l76 y76 z76
  obtain ⟨rfl, N76q, e76⟩ := hQ76
  have N76 := Fr.app N74 N76q
  refine OwnGo.st (fun _ kk => st76.trans kk) ?_
  show OwnGo p e below s _ _ _ T76 (mkF m 50 #[.val (.ref o), .val (.int (2 : Int32)), .val (.ref a), .val (.int (0 : Int32))] [(.int c0), (.ref b68)])
  refine OwnGo.st (fun _ kk => XS.iloadN X76.here hx rfl (hb hby d1_50) rfl  kk) ?_
  show OwnGo p e below s _ _ _ T76 (mkF m 51 #[.val (.ref o), .val (.int (2 : Int32)), .val (.ref a), .val (.int (0 : Int32))] [(.int (0 : Int32)), (.int c0), (.ref b68)])
  refine OwnGo.st (fun _ kk => XS.i2b X76.here hx rfl (hb hby d1_51) rfl kk) ?_
  show OwnGo p e below s _ _ _ T76 (mkF m 52 #[.val (.ref o), .val (.int (2 : Int32)), .val (.ref a), .val (.int (0 : Int32))] [(.int ((0 : Int32).toInt8.toInt32)), (.int c0), (.ref b68)])
  obtain ⟨cl77, Ar77, Sz77, -⟩ := id A_b68
  obtain ⟨T77, h77, X77, e77, W77, st77⟩ := stB X76 hx hZ e76 Ar77 (j := c0) (by rw [Sz77]; exact own_ain P_c0) (g := (mkF m 52 #[.val (.ref o), .val (.int (2 : Int32)), .val (.ref a), .val (.int (0 : Int32))] [(.int ((0 : Int32).toInt8.toInt32)), (.int c0), (.ref b68)])) rfl rfl (hb hby d1_52)
  have A' : OwnFn Z h77 b68 .byte 128 (own_tab [(c0, 0)]) := A_b68.set W77
  have E_o := E_o.wr W77
  have E_a := E_a.wr W77
  have Fc := Fc.other W77 (Or.inl ne_a_b68)
  have Fv := Fv.other W77 (Or.inl ne_a_b68)
  have V := V.other W77 ne_t_b68
  have F_values_o := F_values_o.other W77 (Or.inl ne_o_b68)
  have F_width_o := F_width_o.other W77 (Or.inl ne_o_b68)
  have F_characters_o := F_characters_o.other W77 (Or.inl ne_o_b68)
  have O_ := O_.wr W77 g_b68
  have Kp := Kp.wr W77 (Or.inr sz_b68)
  have A_b68 := A'
  have N77 := Fr.snoc X77 N76 g_b68
  have Z_ : n0 ≤ h77.size := by rw [W77.size]; exact Z_
  refine OwnGo.st st77 ?_
  show OwnGo p e below s _ _ _ T77 (mkF m 53 #[.val (.ref o), .val (.int (2 : Int32)), .val (.ref a), .val (.int (0 : Int32))] [])
  refine OwnGo.st (fun _ kk => XS.iinc X77.here hx rfl (hb hby d1_53) rfl (l' := #[.val (.ref o), .val (.int (2 : Int32)), .val (.ref a), .val (.int (1 : Int32))]) rfl kk) ?_
  show OwnGo p e below s _ _ _ T77 (mkF m 56 #[.val (.ref o), .val (.int (2 : Int32)), .val (.ref a), .val (.int (1 : Int32))] [])
  refine OwnGo.st (fun _ kk => XS.goto X77.here hx rfl (pc0 := 56) (pc' := 33) rfl (hb hby d1_56) (by decide) (by decide) kk) ?_
  show OwnGo p e below s _ _ _ T77 (mkF m 33 #[.val (.ref o), .val (.int (2 : Int32)), .val (.ref a), .val (.int (1 : Int32))] [])
  refine OwnGo.st (fun _ kk => XS.iloadN X77.here hx rfl (hb hby d1_33) rfl  kk) ?_
  show OwnGo p e below s _ _ _ T77 (mkF m 34 #[.val (.ref o), .val (.int (2 : Int32)), .val (.ref a), .val (.int (1 : Int32))] [(.int (1 : Int32))])
  refine OwnGo.st (fun _ kk => XS.aloadN X77.here hx rfl (hb hby d1_34) rfl rfl  kk) ?_
  show OwnGo p e below s _ _ _ T77 (mkF m 35 #[.val (.ref o), .val (.int (2 : Int32)), .val (.ref a), .val (.int (1 : Int32))] [(.ref a), (.int (1 : Int32))])
  obtain ⟨cq78, kq78, q78a, q78b, q78c⟩ := isOf hZ e77 E_a
  obtain ⟨_, _, ⟨T78, L78, k78, n78⟩, -, X78, ⟨Lc78, hQ78, l78, y78, z78⟩, st78⟩ := X77.virtualBack hx (y := (⟨"java/lang/String", "length", "()I"⟩ : MethodName)) (z := (⟨"java/lang/String", "length", "()I"⟩ : MethodName)) hown (mvT hZ (hw _ (List.mem_of_getElem? (i := 27) rfl))) (mvT hZ (hw _ (List.mem_of_getElem? (i := 28) rfl))) (notFace_of_selects (args := #[]) (mvT hZ (hw _ (List.mem_of_getElem? (i := 30) rfl)))) (mvT hZ (hw _ (List.mem_of_getElem? (i := 30) rfl))) (mvT hZ (hw _ (List.mem_of_getElem? (i := 29) rfl))) (by decide) (backOf (W := 1) (rmlength l Z a0 hw [] a t kc (3 : Int32) [(.int c0), (.int c1), (.int c2)] zc h77 n0 Z_ O_ S_CS P_CS E_a Fc Fv V) hZ (hw _ (List.mem_of_getElem? (i := 31) rfl)) (hw _ (List.mem_of_getElem? (i := 1) rfl)) (by decide) (by decide)) q78a q78c (g := (mkF m 35 #[.val (.ref o), .val (.int (2 : Int32)), .val (.ref a), .val (.int (1 : Int32))] [(.ref a), (.int (1 : Int32))])) rfl (by rw [hml]; rfl) (Steps.refl _) (argsL := []) (rest := [(.int (1 : Int32))]) (lenOf pd_8 rfl) rfl (by show 2 * 0 + _ ≤ _; exact Nat.le_of_eq rfl) (hb hby d1_35) (fun _ _ => ⟨rfl, e77, (by decide : 1 + 0 ≤ _), (by decide : 128 + 0 ≤ _)⟩)
  dsimp only [Pt.U, Pt.locs, Pt.cells, Pt.slots] at X78 l78 y78 z78 st78 hQ78
  subst l78 y78 z78
  obtain ⟨rfl, N78q, e78⟩ := hQ78
  have N78 := Fr.app N77 N78q
  refine OwnGo.st (fun _ kk => st78.trans kk) ?_
  show OwnGo p e below s _ _ _ T78 (mkF m 38 #[.val (.ref o), .val (.int (2 : Int32)), .val (.ref a), .val (.int (1 : Int32))] [(.int (3 : Int32)), (.int (1 : Int32))])
  refine OwnGo.st (fun _ kk => XS.icmpNo X78.here hx rfl (hb hby d1_38) rfl (tlt ((by decide) : (1 : Int32) < (3 : Int32))).2.1 kk) ?_
  show OwnGo p e below s _ _ _ T78 (mkF m 41 #[.val (.ref o), .val (.int (2 : Int32)), .val (.ref a), .val (.int (1 : Int32))] [])
  refine OwnGo.st (fun _ kk => XS.aloadN X78.here hx rfl (hb hby d1_41) rfl rfl  kk) ?_
  show OwnGo p e below s _ _ _ T78 (mkF m 42 #[.val (.ref o), .val (.int (2 : Int32)), .val (.ref a), .val (.int (1 : Int32))] [(.ref o)])
  obtain ⟨T79, X79, e79, st79⟩ := getF X78 hx hZ hown (host := "") (Or.inl (hw _ (List.mem_of_getElem? (i := 17) rfl))) Via.refl e78 F_values_o (g := (mkF m 42 #[.val (.ref o), .val (.int (2 : Int32)), .val (.ref a), .val (.int (1 : Int32))] [(.ref o)])) rfl rfl (hb hby d1_42)
  refine OwnGo.st st79 ?_
  show OwnGo p e below s _ _ _ T79 (mkF m 45 #[.val (.ref o), .val (.int (2 : Int32)), .val (.ref a), .val (.int (1 : Int32))] [(.ref b68)])
  refine OwnGo.st (fun _ kk => XS.aloadN X79.here hx rfl (hb hby d1_45) rfl rfl  kk) ?_
  show OwnGo p e below s _ _ _ T79 (mkF m 46 #[.val (.ref o), .val (.int (2 : Int32)), .val (.ref a), .val (.int (1 : Int32))] [(.ref a), (.ref b68)])
  refine OwnGo.st (fun _ kk => XS.iloadN X79.here hx rfl (hb hby d1_46) rfl  kk) ?_
  show OwnGo p e below s _ _ _ T79 (mkF m 47 #[.val (.ref o), .val (.int (2 : Int32)), .val (.ref a), .val (.int (1 : Int32))] [(.int (1 : Int32)), (.ref a), (.ref b68)])
  obtain ⟨cq80, kq80, q80a, q80b, q80c⟩ := isOf hZ e79 E_a
  obtain ⟨_, _, ⟨T80, L80, k80, n80⟩, -, X80, ⟨Lc80, hQ80, l80, y80, z80⟩, st80⟩ := X79.virtualBack hx (y := (⟨"java/lang/String", "charAt", "(I)C"⟩ : MethodName)) (z := (⟨"java/lang/String", "charAt", "(I)C"⟩ : MethodName)) hown (mvT hZ (hw _ (List.mem_of_getElem? (i := 61) rfl))) (mvT hZ (hw _ (List.mem_of_getElem? (i := 62) rfl))) (notFace_of_selects (args := #[]) (mvT hZ (hw _ (List.mem_of_getElem? (i := 64) rfl)))) (mvT hZ (hw _ (List.mem_of_getElem? (i := 64) rfl))) (mvT hZ (hw _ (List.mem_of_getElem? (i := 63) rfl))) (by decide) (backOf (W := 1) (rmcharAt l Z a0 hw [] a t kc (3 : Int32) [(.int c0), (.int c1), (.int c2)] (1 : Int32) c1 c1 zc fmv h77 n0 Z_ O_ S_CS P_CS S_SF rf_fmv E_a Fc Fv V ⟨by decide, by decide⟩ rfl (own_ach P_c1) (own_anc P_c1)) hZ (hw _ (List.mem_of_getElem? (i := 65) rfl)) (hw _ (List.mem_of_getElem? (i := 1) rfl)) (by decide) (by decide)) q80a q80c (g := (mkF m 47 #[.val (.ref o), .val (.int (2 : Int32)), .val (.ref a), .val (.int (1 : Int32))] [(.int (1 : Int32)), (.ref a), (.ref b68)])) rfl (by rw [hml]; rfl) (Steps.refl _) (argsL := [(.int (1 : Int32))]) (rest := [(.ref b68)]) (lenOf pd_9 rfl) rfl (by show 2 * 0 + _ ≤ _; exact Nat.le_of_eq rfl) (hb hby d1_47) (fun _ _ => ⟨rfl, e79, (by decide : 1 + 0 ≤ _), (by decide : 128 + 0 ≤ _)⟩)
  dsimp only [Pt.U, Pt.locs, Pt.cells, Pt.slots] at X80 l80 y80 z80 st80 hQ80
  subst l80 y80 z80
  obtain ⟨rfl, N80q, e80⟩ := hQ80
  have N80 := Fr.app N78 N80q
  refine OwnGo.st (fun _ kk => st80.trans kk) ?_
  show OwnGo p e below s _ _ _ T80 (mkF m 50 #[.val (.ref o), .val (.int (2 : Int32)), .val (.ref a), .val (.int (1 : Int32))] [(.int c1), (.ref b68)])
  refine OwnGo.st (fun _ kk => XS.iloadN X80.here hx rfl (hb hby d1_50) rfl  kk) ?_
  show OwnGo p e below s _ _ _ T80 (mkF m 51 #[.val (.ref o), .val (.int (2 : Int32)), .val (.ref a), .val (.int (1 : Int32))] [(.int (1 : Int32)), (.int c1), (.ref b68)])
  refine OwnGo.st (fun _ kk => XS.i2b X80.here hx rfl (hb hby d1_51) rfl kk) ?_
  show OwnGo p e below s _ _ _ T80 (mkF m 52 #[.val (.ref o), .val (.int (2 : Int32)), .val (.ref a), .val (.int (1 : Int32))] [(.int ((1 : Int32).toInt8.toInt32)), (.int c1), (.ref b68)])
  obtain ⟨cl81, Ar81, Sz81, -⟩ := id A_b68
  obtain ⟨T81, h81, X81, e81, W81, st81⟩ := stB X80 hx hZ e80 Ar81 (j := c1) (by rw [Sz81]; exact own_ain P_c1) (g := (mkF m 52 #[.val (.ref o), .val (.int (2 : Int32)), .val (.ref a), .val (.int (1 : Int32))] [(.int ((1 : Int32).toInt8.toInt32)), (.int c1), (.ref b68)])) rfl rfl (hb hby d1_52)
  have A' : OwnFn Z h81 b68 .byte 128 (own_tab [(c1, 1), (c0, 0)]) := A_b68.set W81
  have E_o := E_o.wr W81
  have E_a := E_a.wr W81
  have Fc := Fc.other W81 (Or.inl ne_a_b68)
  have Fv := Fv.other W81 (Or.inl ne_a_b68)
  have V := V.other W81 ne_t_b68
  have F_values_o := F_values_o.other W81 (Or.inl ne_o_b68)
  have F_width_o := F_width_o.other W81 (Or.inl ne_o_b68)
  have F_characters_o := F_characters_o.other W81 (Or.inl ne_o_b68)
  have O_ := O_.wr W81 g_b68
  have Kp := Kp.wr W81 (Or.inr sz_b68)
  have A_b68 := A'
  have N81 := Fr.snoc X81 N80 g_b68
  have Z_ : n0 ≤ h81.size := by rw [W81.size]; exact Z_
  refine OwnGo.st st81 ?_
  show OwnGo p e below s _ _ _ T81 (mkF m 53 #[.val (.ref o), .val (.int (2 : Int32)), .val (.ref a), .val (.int (1 : Int32))] [])
  refine OwnGo.st (fun _ kk => XS.iinc X81.here hx rfl (hb hby d1_53) rfl (l' := #[.val (.ref o), .val (.int (2 : Int32)), .val (.ref a), .val (.int (2 : Int32))]) rfl kk) ?_
  show OwnGo p e below s _ _ _ T81 (mkF m 56 #[.val (.ref o), .val (.int (2 : Int32)), .val (.ref a), .val (.int (2 : Int32))] [])
  refine OwnGo.st (fun _ kk => XS.goto X81.here hx rfl (pc0 := 56) (pc' := 33) rfl (hb hby d1_56) (by decide) (by decide) kk) ?_
  show OwnGo p e below s _ _ _ T81 (mkF m 33 #[.val (.ref o), .val (.int (2 : Int32)), .val (.ref a), .val (.int (2 : Int32))] [])
  refine OwnGo.st (fun _ kk => XS.iloadN X81.here hx rfl (hb hby d1_33) rfl  kk) ?_
  show OwnGo p e below s _ _ _ T81 (mkF m 34 #[.val (.ref o), .val (.int (2 : Int32)), .val (.ref a), .val (.int (2 : Int32))] [(.int (2 : Int32))])
  refine OwnGo.st (fun _ kk => XS.aloadN X81.here hx rfl (hb hby d1_34) rfl rfl  kk) ?_
  show OwnGo p e below s _ _ _ T81 (mkF m 35 #[.val (.ref o), .val (.int (2 : Int32)), .val (.ref a), .val (.int (2 : Int32))] [(.ref a), (.int (2 : Int32))])
  obtain ⟨cq82, kq82, q82a, q82b, q82c⟩ := isOf hZ e81 E_a
  obtain ⟨_, _, ⟨T82, L82, k82, n82⟩, -, X82, ⟨Lc82, hQ82, l82, y82, z82⟩, st82⟩ := X81.virtualBack hx (y := (⟨"java/lang/String", "length", "()I"⟩ : MethodName)) (z := (⟨"java/lang/String", "length", "()I"⟩ : MethodName)) hown (mvT hZ (hw _ (List.mem_of_getElem? (i := 27) rfl))) (mvT hZ (hw _ (List.mem_of_getElem? (i := 28) rfl))) (notFace_of_selects (args := #[]) (mvT hZ (hw _ (List.mem_of_getElem? (i := 30) rfl)))) (mvT hZ (hw _ (List.mem_of_getElem? (i := 30) rfl))) (mvT hZ (hw _ (List.mem_of_getElem? (i := 29) rfl))) (by decide) (backOf (W := 1) (rmlength l Z a0 hw [] a t kc (3 : Int32) [(.int c0), (.int c1), (.int c2)] zc h81 n0 Z_ O_ S_CS P_CS E_a Fc Fv V) hZ (hw _ (List.mem_of_getElem? (i := 31) rfl)) (hw _ (List.mem_of_getElem? (i := 1) rfl)) (by decide) (by decide)) q82a q82c (g := (mkF m 35 #[.val (.ref o), .val (.int (2 : Int32)), .val (.ref a), .val (.int (2 : Int32))] [(.ref a), (.int (2 : Int32))])) rfl (by rw [hml]; rfl) (Steps.refl _) (argsL := []) (rest := [(.int (2 : Int32))]) (lenOf pd_8 rfl) rfl (by show 2 * 0 + _ ≤ _; exact Nat.le_of_eq rfl) (hb hby d1_35) (fun _ _ => ⟨rfl, e81, (by decide : 1 + 0 ≤ _), (by decide : 128 + 0 ≤ _)⟩)
  dsimp only [Pt.U, Pt.locs, Pt.cells, Pt.slots] at X82 l82 y82 z82 st82 hQ82
  subst l82 y82 z82
  obtain ⟨rfl, N82q, e82⟩ := hQ82
  have N82 := Fr.app N81 N82q
  refine OwnGo.st (fun _ kk => st82.trans kk) ?_
  show OwnGo p e below s _ _ _ T82 (mkF m 38 #[.val (.ref o), .val (.int (2 : Int32)), .val (.ref a), .val (.int (2 : Int32))] [(.int (3 : Int32)), (.int (2 : Int32))])
  refine OwnGo.st (fun _ kk => XS.icmpNo X82.here hx rfl (hb hby d1_38) rfl (tlt ((by decide) : (2 : Int32) < (3 : Int32))).2.1 kk) ?_
  show OwnGo p e below s _ _ _ T82 (mkF m 41 #[.val (.ref o), .val (.int (2 : Int32)), .val (.ref a), .val (.int (2 : Int32))] [])
  refine OwnGo.st (fun _ kk => XS.aloadN X82.here hx rfl (hb hby d1_41) rfl rfl  kk) ?_
  show OwnGo p e below s _ _ _ T82 (mkF m 42 #[.val (.ref o), .val (.int (2 : Int32)), .val (.ref a), .val (.int (2 : Int32))] [(.ref o)])
  obtain ⟨T83, X83, e83, st83⟩ := getF X82 hx hZ hown (host := "") (Or.inl (hw _ (List.mem_of_getElem? (i := 17) rfl))) Via.refl e82 F_values_o (g := (mkF m 42 #[.val (.ref o), .val (.int (2 : Int32)), .val (.ref a), .val (.int (2 : Int32))] [(.ref o)])) rfl rfl (hb hby d1_42)
  refine OwnGo.st st83 ?_
  show OwnGo p e below s _ _ _ T83 (mkF m 45 #[.val (.ref o), .val (.int (2 : Int32)), .val (.ref a), .val (.int (2 : Int32))] [(.ref b68)])
  refine OwnGo.st (fun _ kk => XS.aloadN X83.here hx rfl (hb hby d1_45) rfl rfl  kk) ?_
  show OwnGo p e below s _ _ _ T83 (mkF m 46 #[.val (.ref o), .val (.int (2 : Int32)), .val (.ref a), .val (.int (2 : Int32))] [(.ref a), (.ref b68)])
  refine OwnGo.st (fun _ kk => XS.iloadN X83.here hx rfl (hb hby d1_46) rfl  kk) ?_
  show OwnGo p e below s _ _ _ T83 (mkF m 47 #[.val (.ref o), .val (.int (2 : Int32)), .val (.ref a), .val (.int (2 : Int32))] [(.int (2 : Int32)), (.ref a), (.ref b68)])
  obtain ⟨cq84, kq84, q84a, q84b, q84c⟩ := isOf hZ e83 E_a
  obtain ⟨_, _, ⟨T84, L84, k84, n84⟩, -, X84, ⟨Lc84, hQ84, l84, y84, z84⟩, st84⟩ := X83.virtualBack hx (y := (⟨"java/lang/String", "charAt", "(I)C"⟩ : MethodName)) (z := (⟨"java/lang/String", "charAt", "(I)C"⟩ : MethodName)) hown (mvT hZ (hw _ (List.mem_of_getElem? (i := 61) rfl))) (mvT hZ (hw _ (List.mem_of_getElem? (i := 62) rfl))) (notFace_of_selects (args := #[]) (mvT hZ (hw _ (List.mem_of_getElem? (i := 64) rfl)))) (mvT hZ (hw _ (List.mem_of_getElem? (i := 64) rfl))) (mvT hZ (hw _ (List.mem_of_getElem? (i := 63) rfl))) (by decide) (backOf (W := 1) (rmcharAt l Z a0 hw [] a t kc (3 : Int32) [(.int c0), (.int c1), (.int c2)] (2 : Int32) c2 c2 zc fmv h81 n0 Z_ O_ S_CS P_CS S_SF rf_fmv E_a Fc Fv V ⟨by decide, by decide⟩ rfl (own_ach P_c2) (own_anc P_c2)) hZ (hw _ (List.mem_of_getElem? (i := 65) rfl)) (hw _ (List.mem_of_getElem? (i := 1) rfl)) (by decide) (by decide)) q84a q84c (g := (mkF m 47 #[.val (.ref o), .val (.int (2 : Int32)), .val (.ref a), .val (.int (2 : Int32))] [(.int (2 : Int32)), (.ref a), (.ref b68)])) rfl (by rw [hml]; rfl) (Steps.refl _) (argsL := [(.int (2 : Int32))]) (rest := [(.ref b68)]) (lenOf pd_9 rfl) rfl (by show 2 * 0 + _ ≤ _; exact Nat.le_of_eq rfl) (hb hby d1_47) (fun _ _ => ⟨rfl, e83, (by decide : 1 + 0 ≤ _), (by decide : 128 + 0 ≤ _)⟩)
  dsimp only [Pt.U, Pt.locs, Pt.cells, Pt.slots] at X84 l84 y84 z84 st84 hQ84
  subst l84 y84 z84
  obtain ⟨rfl, N84q, e84⟩ := hQ84
  have N84 := Fr.app N82 N84q
  refine OwnGo.st (fun _ kk => st84.trans kk) ?_
  show OwnGo p e below s _ _ _ T84 (mkF m 50 #[.val (.ref o), .val (.int (2 : Int32)), .val (.ref a), .val (.int (2 : Int32))] [(.int c2), (.ref b68)])
  refine OwnGo.st (fun _ kk => XS.iloadN X84.here hx rfl (hb hby d1_50) rfl  kk) ?_
  show OwnGo p e below s _ _ _ T84 (mkF m 51 #[.val (.ref o), .val (.int (2 : Int32)), .val (.ref a), .val (.int (2 : Int32))] [(.int (2 : Int32)), (.int c2), (.ref b68)])
  refine OwnGo.st (fun _ kk => XS.i2b X84.here hx rfl (hb hby d1_51) rfl kk) ?_
  show OwnGo p e below s _ _ _ T84 (mkF m 52 #[.val (.ref o), .val (.int (2 : Int32)), .val (.ref a), .val (.int (2 : Int32))] [(.int ((2 : Int32).toInt8.toInt32)), (.int c2), (.ref b68)])
  obtain ⟨cl85, Ar85, Sz85, -⟩ := id A_b68
  obtain ⟨T85, h85, X85, e85, W85, st85⟩ := stB X84 hx hZ e84 Ar85 (j := c2) (by rw [Sz85]; exact own_ain P_c2) (g := (mkF m 52 #[.val (.ref o), .val (.int (2 : Int32)), .val (.ref a), .val (.int (2 : Int32))] [(.int ((2 : Int32).toInt8.toInt32)), (.int c2), (.ref b68)])) rfl rfl (hb hby d1_52)
  have A' : OwnFn Z h85 b68 .byte 128 (own_tab [(c2, 2), (c1, 1), (c0, 0)]) := A_b68.set W85
  have E_o := E_o.wr W85
  have E_a := E_a.wr W85
  have Fc := Fc.other W85 (Or.inl ne_a_b68)
  have Fv := Fv.other W85 (Or.inl ne_a_b68)
  have V := V.other W85 ne_t_b68
  have F_values_o := F_values_o.other W85 (Or.inl ne_o_b68)
  have F_width_o := F_width_o.other W85 (Or.inl ne_o_b68)
  have F_characters_o := F_characters_o.other W85 (Or.inl ne_o_b68)
  have O_ := O_.wr W85 g_b68
  have Kp := Kp.wr W85 (Or.inr sz_b68)
  have A_b68 := A'
  have N85 := Fr.snoc X85 N84 g_b68
  have Z_ : n0 ≤ h85.size := by rw [W85.size]; exact Z_
  refine OwnGo.st st85 ?_
  show OwnGo p e below s _ _ _ T85 (mkF m 53 #[.val (.ref o), .val (.int (2 : Int32)), .val (.ref a), .val (.int (2 : Int32))] [])
  refine OwnGo.st (fun _ kk => XS.iinc X85.here hx rfl (hb hby d1_53) rfl (l' := #[.val (.ref o), .val (.int (2 : Int32)), .val (.ref a), .val (.int (3 : Int32))]) rfl kk) ?_
  show OwnGo p e below s _ _ _ T85 (mkF m 56 #[.val (.ref o), .val (.int (2 : Int32)), .val (.ref a), .val (.int (3 : Int32))] [])
  refine OwnGo.st (fun _ kk => XS.goto X85.here hx rfl (pc0 := 56) (pc' := 33) rfl (hb hby d1_56) (by decide) (by decide) kk) ?_
  show OwnGo p e below s _ _ _ T85 (mkF m 33 #[.val (.ref o), .val (.int (2 : Int32)), .val (.ref a), .val (.int (3 : Int32))] [])
  refine OwnGo.st (fun _ kk => XS.iloadN X85.here hx rfl (hb hby d1_33) rfl  kk) ?_
  show OwnGo p e below s _ _ _ T85 (mkF m 34 #[.val (.ref o), .val (.int (2 : Int32)), .val (.ref a), .val (.int (3 : Int32))] [(.int (3 : Int32))])
  refine OwnGo.st (fun _ kk => XS.aloadN X85.here hx rfl (hb hby d1_34) rfl rfl  kk) ?_
  show OwnGo p e below s _ _ _ T85 (mkF m 35 #[.val (.ref o), .val (.int (2 : Int32)), .val (.ref a), .val (.int (3 : Int32))] [(.ref a), (.int (3 : Int32))])
  obtain ⟨cq86, kq86, q86a, q86b, q86c⟩ := isOf hZ e85 E_a
  obtain ⟨_, _, ⟨T86, L86, k86, n86⟩, -, X86, ⟨Lc86, hQ86, l86, y86, z86⟩, st86⟩ := X85.virtualBack hx (y := (⟨"java/lang/String", "length", "()I"⟩ : MethodName)) (z := (⟨"java/lang/String", "length", "()I"⟩ : MethodName)) hown (mvT hZ (hw _ (List.mem_of_getElem? (i := 27) rfl))) (mvT hZ (hw _ (List.mem_of_getElem? (i := 28) rfl))) (notFace_of_selects (args := #[]) (mvT hZ (hw _ (List.mem_of_getElem? (i := 30) rfl)))) (mvT hZ (hw _ (List.mem_of_getElem? (i := 30) rfl))) (mvT hZ (hw _ (List.mem_of_getElem? (i := 29) rfl))) (by decide) (backOf (W := 1) (rmlength l Z a0 hw [] a t kc (3 : Int32) [(.int c0), (.int c1), (.int c2)] zc h85 n0 Z_ O_ S_CS P_CS E_a Fc Fv V) hZ (hw _ (List.mem_of_getElem? (i := 31) rfl)) (hw _ (List.mem_of_getElem? (i := 1) rfl)) (by decide) (by decide)) q86a q86c (g := (mkF m 35 #[.val (.ref o), .val (.int (2 : Int32)), .val (.ref a), .val (.int (3 : Int32))] [(.ref a), (.int (3 : Int32))])) rfl (by rw [hml]; rfl) (Steps.refl _) (argsL := []) (rest := [(.int (3 : Int32))]) (lenOf pd_8 rfl) rfl (by show 2 * 0 + _ ≤ _; exact Nat.le_of_eq rfl) (hb hby d1_35) (fun _ _ => ⟨rfl, e85, (by decide : 1 + 0 ≤ _), (by decide : 128 + 0 ≤ _)⟩)
  dsimp only [Pt.U, Pt.locs, Pt.cells, Pt.slots] at X86 l86 y86 z86 st86 hQ86
  subst l86 y86 z86
  obtain ⟨rfl, N86q, e86⟩ := hQ86
  have N86 := Fr.app N85 N86q
  refine OwnGo.st (fun _ kk => st86.trans kk) ?_
  show OwnGo p e below s _ _ _ T86 (mkF m 38 #[.val (.ref o), .val (.int (2 : Int32)), .val (.ref a), .val (.int (3 : Int32))] [(.int (3 : Int32)), (.int (3 : Int32))])
  refine OwnGo.st (fun _ kk => XS.icmpYes X86.here hx rfl (pc0 := 38) (pc' := 59) rfl (hb hby d1_38) rfl (flt ((by decide) : ¬ ((3 : Int32) < (3 : Int32)))).2.1 (by decide) (by decide) kk) ?_
  show OwnGo p e below s _ _ _ T86 (mkF m 59 #[.val (.ref o), .val (.int (2 : Int32)), .val (.ref a), .val (.int (3 : Int32))] [])
  exact OwnGo.retV X86 hx hret hlk (hb hby d1_59) (by show Qini3 Z o a t kc c0 c1 c2 zc fmv h0 n0 _ T86.heap _; rw [e86]; exact ⟨rfl, N86, Kp, E_o, b68, F_values_o, A_b68⟩) (by decide) (by decide)
def Q0 (Z : State) (p1 : Int32) (p2 : Int32) (p3 : Int32) (p4 : Int32) (p5 : Int32) (p6 : Int32) (zc : Int32) (fmv : Value) (h0 : Heap) (n0 : Nat) (v : Option Value) (h : Heap) (L : List Loc) : Prop := v = some (.int (1 : Int32)) ∧ Fr n0 L
set_option maxRecDepth 65536 in
set_option maxHeartbeats 40000000 in
theorem rm0 (l : Launch) (Z : State) (a0 : Array Value) (hw : ∀ d ∈ tables_1, d.before a0 Z = true) (ws : List Jvm.Cond) (p1 : Int32) (p2 : Int32) (p3 : Int32) (p4 : Int32) (p5 : Int32) (p6 : Int32) (zc : Int32) (fmv : Value) (h0 : Heap) (n0 : Nat) (Z0 : n0 ≤ h0.size) (O_ : Old Z n0 h0) (S_CS : Sta Z Z.heap "java/lang/String" "COMPACT_STRINGS" "Z" (.int zc)) (P_CS : ¬ zc = (0 : Int32)) (S_SF : Sta Z Z.heap "jdk/internal/util/Preconditions" "SIOOBE_FORMATTER" "Ljava/util/function/BiFunction;" fmv) (rf_fmv : fmv.isRef = true) :
    MetFree l x (head1 (Jvm.Cond.code x code maxLocals ret :: ws) room_1) (fun as_ UU => as_ = #[(.int p1), (.int p2), (.int p3), (.int p4), (.int p5), (.int p6)] ∧ Z.Warmed39 UU.vm ∧ UU.heap = h0 ∧ CHv Z own_EL UU.vm h0) (fun _ _ _ _ _ => True) (fun _ UU oo UU' => ∃ vv LL, oo = .returned vv ∧ (Q0 Z p1 p2 p3 p4 p5 p6 zc fmv h0 n0) vv UU'.heap LL ∧ CHr Z own_EL UU.vm UU.heap UU'.vm UU'.heap ∧ ReturnedEndW UU oo UU' LL room_1.cells room_1.slots) := by
  refine own_metW (EL := own_EL) (plainFor_of_name pn_0) ?_
  intro p e s m below meth c s₁ X0 hx hby hml hret hlk hown hnm hZ e0 hS_ CR
  have hk_ := Nat.le_refl h0.size
  have N0 := Fr.nil n0
  have Z_ := Z0
  refine OwnGoW.cast (ef_0 m p1 p2 p3 p4 p5 p6) ?_
  have hml : c.maxLocals = 15 := hml
  show OwnGoW p e below s Z own_EL _ _ _ s₁ (mkF m 0 #[.val (.int p1), .val (.int p2), .val (.int p3), .val (.int p4), .val (.int p5), .val (.int p6), .unset, .unset, .unset, .unset, .unset, .unset, .unset, .unset, .unset] [])
  refine OwnGoW.st (fun _ kk => XS.iloadN X0.here hx rfl (hb hby at_0) rfl  kk) ?_
  show OwnGoW p e below s Z own_EL _ _ _ s₁ (mkF m 1 #[.val (.int p1), .val (.int p2), .val (.int p3), .val (.int p4), .val (.int p5), .val (.int p6), .unset, .unset, .unset, .unset, .unset, .unset, .unset, .unset, .unset] [(.int p1)])
  refine OwnGoW.st (fun _ kk => XS.iconst X0.here hx rfl (hb hby at_1) kk) ?_
  show OwnGoW p e below s Z own_EL _ _ _ s₁ (mkF m 2 #[.val (.int p1), .val (.int p2), .val (.int p3), .val (.int p4), .val (.int p5), .val (.int p6), .unset, .unset, .unset, .unset, .unset, .unset, .unset, .unset, .unset] [(.int (3 : Int32)), (.int p1)])
  refine OwnGoW.st (fun _ kk => XS.iand X0.here hx rfl (hb hby at_2) rfl kk) ?_
  show OwnGoW p e below s Z own_EL _ _ _ s₁ (mkF m 3 #[.val (.int p1), .val (.int p2), .val (.int p3), .val (.int p4), .val (.int p5), .val (.int p6), .unset, .unset, .unset, .unset, .unset, .unset, .unset, .unset, .unset] [(.int (p1 &&& (3 : Int32)))])
  obtain ⟨nn, hnn⟩ : ∃ z : Int32, z = (p1 &&& (3 : Int32)) := ⟨_, rfl⟩
  rw [← hnn]
  show OwnGoW p e below s Z own_EL _ _ _ s₁ (mkF m 3 #[.val (.int p1), .val (.int p2), .val (.int p3), .val (.int p4), .val (.int p5), .val (.int p6), .unset, .unset, .unset, .unset, .unset, .unset, .unset, .unset, .unset] [(.int nn)])
  refine OwnGoW.st (fun _ kk => XS.istore X0.here hx rfl (hb hby at_3) rfl (l' := #[.val (.int p1), .val (.int p2), .val (.int p3), .val (.int p4), .val (.int p5), .val (.int p6), .val (.int nn), .unset, .unset, .unset, .unset, .unset, .unset, .unset, .unset]) rfl kk) ?_
  show OwnGoW p e below s Z own_EL _ _ _ s₁ (mkF m 5 #[.val (.int p1), .val (.int p2), .val (.int p3), .val (.int p4), .val (.int p5), .val (.int p6), .val (.int nn), .unset, .unset, .unset, .unset, .unset, .unset, .unset, .unset] [])
  refine OwnGoW.st (fun _ kk => XS.iloadN X0.here hx rfl (hb hby at_5) rfl  kk) ?_
  show OwnGoW p e below s Z own_EL _ _ _ s₁ (mkF m 6 #[.val (.int p1), .val (.int p2), .val (.int p3), .val (.int p4), .val (.int p5), .val (.int p6), .val (.int nn), .unset, .unset, .unset, .unset, .unset, .unset, .unset, .unset] [(.int p2)])
  refine OwnGoW.st (fun _ kk => XS.bipush X0.here hx rfl (hb hby at_6) kk) ?_
  show OwnGoW p e below s Z own_EL _ _ _ s₁ (mkF m 8 #[.val (.int p1), .val (.int p2), .val (.int p3), .val (.int p4), .val (.int p5), .val (.int p6), .val (.int nn), .unset, .unset, .unset, .unset, .unset, .unset, .unset, .unset] [(.int (127 : Int32)), (.int p2)])
  refine OwnGoW.st (fun _ kk => XS.iand X0.here hx rfl (hb hby at_8) rfl kk) ?_
  show OwnGoW p e below s Z own_EL _ _ _ s₁ (mkF m 9 #[.val (.int p1), .val (.int p2), .val (.int p3), .val (.int p4), .val (.int p5), .val (.int p6), .val (.int nn), .unset, .unset, .unset, .unset, .unset, .unset, .unset, .unset] [(.int (p2 &&& (127 : Int32)))])
  refine OwnGoW.st (fun _ kk => XS.i2c X0.here hx rfl (hb hby at_9) rfl kk) ?_
  show OwnGoW p e below s Z own_EL _ _ _ s₁ (mkF m 10 #[.val (.int p1), .val (.int p2), .val (.int p3), .val (.int p4), .val (.int p5), .val (.int p6), .val (.int nn), .unset, .unset, .unset, .unset, .unset, .unset, .unset, .unset] [(.int ((p2 &&& (127 : Int32)).toUInt32.toUInt16.toUInt32.toInt32))])
  obtain ⟨c0, hc0⟩ : ∃ z : Int32, z = ((p2 &&& (127 : Int32)).toUInt32.toUInt16.toUInt32.toInt32) := ⟨_, rfl⟩
  rw [← hc0]
  show OwnGoW p e below s Z own_EL _ _ _ s₁ (mkF m 10 #[.val (.int p1), .val (.int p2), .val (.int p3), .val (.int p4), .val (.int p5), .val (.int p6), .val (.int nn), .unset, .unset, .unset, .unset, .unset, .unset, .unset, .unset] [(.int c0)])
  have P_c0 : own_asc c0 := hc0 ▸ own_mk _
  have hp_c0 := own_al P_c0
  refine OwnGoW.st (fun _ kk => XS.istore X0.here hx rfl (hb hby at_10) rfl (l' := #[.val (.int p1), .val (.int p2), .val (.int p3), .val (.int p4), .val (.int p5), .val (.int p6), .val (.int nn), .val (.int c0), .unset, .unset, .unset, .unset, .unset, .unset, .unset]) rfl kk) ?_
  show OwnGoW p e below s Z own_EL _ _ _ s₁ (mkF m 12 #[.val (.int p1), .val (.int p2), .val (.int p3), .val (.int p4), .val (.int p5), .val (.int p6), .val (.int nn), .val (.int c0), .unset, .unset, .unset, .unset, .unset, .unset, .unset] [])
  refine OwnGoW.st (fun _ kk => XS.iloadN X0.here hx rfl (hb hby at_12) rfl  kk) ?_
  show OwnGoW p e below s Z own_EL _ _ _ s₁ (mkF m 13 #[.val (.int p1), .val (.int p2), .val (.int p3), .val (.int p4), .val (.int p5), .val (.int p6), .val (.int nn), .val (.int c0), .unset, .unset, .unset, .unset, .unset, .unset, .unset] [(.int p3)])
  refine OwnGoW.st (fun _ kk => XS.bipush X0.here hx rfl (hb hby at_13) kk) ?_
  show OwnGoW p e below s Z own_EL _ _ _ s₁ (mkF m 15 #[.val (.int p1), .val (.int p2), .val (.int p3), .val (.int p4), .val (.int p5), .val (.int p6), .val (.int nn), .val (.int c0), .unset, .unset, .unset, .unset, .unset, .unset, .unset] [(.int (127 : Int32)), (.int p3)])
  refine OwnGoW.st (fun _ kk => XS.iand X0.here hx rfl (hb hby at_15) rfl kk) ?_
  show OwnGoW p e below s Z own_EL _ _ _ s₁ (mkF m 16 #[.val (.int p1), .val (.int p2), .val (.int p3), .val (.int p4), .val (.int p5), .val (.int p6), .val (.int nn), .val (.int c0), .unset, .unset, .unset, .unset, .unset, .unset, .unset] [(.int (p3 &&& (127 : Int32)))])
  refine OwnGoW.st (fun _ kk => XS.i2c X0.here hx rfl (hb hby at_16) rfl kk) ?_
  show OwnGoW p e below s Z own_EL _ _ _ s₁ (mkF m 17 #[.val (.int p1), .val (.int p2), .val (.int p3), .val (.int p4), .val (.int p5), .val (.int p6), .val (.int nn), .val (.int c0), .unset, .unset, .unset, .unset, .unset, .unset, .unset] [(.int ((p3 &&& (127 : Int32)).toUInt32.toUInt16.toUInt32.toInt32))])
  obtain ⟨c1, hc1⟩ : ∃ z : Int32, z = ((p3 &&& (127 : Int32)).toUInt32.toUInt16.toUInt32.toInt32) := ⟨_, rfl⟩
  rw [← hc1]
  show OwnGoW p e below s Z own_EL _ _ _ s₁ (mkF m 17 #[.val (.int p1), .val (.int p2), .val (.int p3), .val (.int p4), .val (.int p5), .val (.int p6), .val (.int nn), .val (.int c0), .unset, .unset, .unset, .unset, .unset, .unset, .unset] [(.int c1)])
  have P_c1 : own_asc c1 := hc1 ▸ own_mk _
  have hp_c1 := own_al P_c1
  refine OwnGoW.st (fun _ kk => XS.istore X0.here hx rfl (hb hby at_17) rfl (l' := #[.val (.int p1), .val (.int p2), .val (.int p3), .val (.int p4), .val (.int p5), .val (.int p6), .val (.int nn), .val (.int c0), .val (.int c1), .unset, .unset, .unset, .unset, .unset, .unset]) rfl kk) ?_
  show OwnGoW p e below s Z own_EL _ _ _ s₁ (mkF m 19 #[.val (.int p1), .val (.int p2), .val (.int p3), .val (.int p4), .val (.int p5), .val (.int p6), .val (.int nn), .val (.int c0), .val (.int c1), .unset, .unset, .unset, .unset, .unset, .unset] [])
  refine OwnGoW.st (fun _ kk => XS.iloadN X0.here hx rfl (hb hby at_19) rfl  kk) ?_
  show OwnGoW p e below s Z own_EL _ _ _ s₁ (mkF m 20 #[.val (.int p1), .val (.int p2), .val (.int p3), .val (.int p4), .val (.int p5), .val (.int p6), .val (.int nn), .val (.int c0), .val (.int c1), .unset, .unset, .unset, .unset, .unset, .unset] [(.int p4)])
  refine OwnGoW.st (fun _ kk => XS.bipush X0.here hx rfl (hb hby at_20) kk) ?_
  show OwnGoW p e below s Z own_EL _ _ _ s₁ (mkF m 22 #[.val (.int p1), .val (.int p2), .val (.int p3), .val (.int p4), .val (.int p5), .val (.int p6), .val (.int nn), .val (.int c0), .val (.int c1), .unset, .unset, .unset, .unset, .unset, .unset] [(.int (127 : Int32)), (.int p4)])
  refine OwnGoW.st (fun _ kk => XS.iand X0.here hx rfl (hb hby at_22) rfl kk) ?_
  show OwnGoW p e below s Z own_EL _ _ _ s₁ (mkF m 23 #[.val (.int p1), .val (.int p2), .val (.int p3), .val (.int p4), .val (.int p5), .val (.int p6), .val (.int nn), .val (.int c0), .val (.int c1), .unset, .unset, .unset, .unset, .unset, .unset] [(.int (p4 &&& (127 : Int32)))])
  refine OwnGoW.st (fun _ kk => XS.i2c X0.here hx rfl (hb hby at_23) rfl kk) ?_
  show OwnGoW p e below s Z own_EL _ _ _ s₁ (mkF m 24 #[.val (.int p1), .val (.int p2), .val (.int p3), .val (.int p4), .val (.int p5), .val (.int p6), .val (.int nn), .val (.int c0), .val (.int c1), .unset, .unset, .unset, .unset, .unset, .unset] [(.int ((p4 &&& (127 : Int32)).toUInt32.toUInt16.toUInt32.toInt32))])
  obtain ⟨c2, hc2⟩ : ∃ z : Int32, z = ((p4 &&& (127 : Int32)).toUInt32.toUInt16.toUInt32.toInt32) := ⟨_, rfl⟩
  rw [← hc2]
  show OwnGoW p e below s Z own_EL _ _ _ s₁ (mkF m 24 #[.val (.int p1), .val (.int p2), .val (.int p3), .val (.int p4), .val (.int p5), .val (.int p6), .val (.int nn), .val (.int c0), .val (.int c1), .unset, .unset, .unset, .unset, .unset, .unset] [(.int c2)])
  have P_c2 : own_asc c2 := hc2 ▸ own_mk _
  have hp_c2 := own_al P_c2
  refine OwnGoW.st (fun _ kk => XS.istore X0.here hx rfl (hb hby at_24) rfl (l' := #[.val (.int p1), .val (.int p2), .val (.int p3), .val (.int p4), .val (.int p5), .val (.int p6), .val (.int nn), .val (.int c0), .val (.int c1), .val (.int c2), .unset, .unset, .unset, .unset, .unset]) rfl kk) ?_
  show OwnGoW p e below s Z own_EL _ _ _ s₁ (mkF m 26 #[.val (.int p1), .val (.int p2), .val (.int p3), .val (.int p4), .val (.int p5), .val (.int p6), .val (.int nn), .val (.int c0), .val (.int c1), .val (.int c2), .unset, .unset, .unset, .unset, .unset] [])
  rcases own_m4 p1 _ hnn with rfl | rfl | rfl | rfl
  · show OwnGoW p e below s Z own_EL _ _ _ s₁ (mkF m 26 #[.val (.int p1), .val (.int p2), .val (.int p3), .val (.int p4), .val (.int p5), .val (.int p6), .val (.int (0 : Int32)), .val (.int c0), .val (.int c1), .val (.int c2), .unset, .unset, .unset, .unset, .unset] [])
    refine OwnGoW.st (fun _ kk => XS.iload X0.here hx rfl (hb hby at_26) rfl  kk) ?_
    show OwnGoW p e below s Z own_EL _ _ _ s₁ (mkF m 28 #[.val (.int p1), .val (.int p2), .val (.int p3), .val (.int p4), .val (.int p5), .val (.int p6), .val (.int (0 : Int32)), .val (.int c0), .val (.int c1), .val (.int c2), .unset, .unset, .unset, .unset, .unset] [(.int (0 : Int32))])
    refine OwnGoW.st (fun _ kk => XS.ifNo X0.here hx rfl (hb hby at_28) rfl ((if0 _ _).trans (teq ((by decide) : (0 : Int32) = (0 : Int32))).2) kk) ?_
    show OwnGoW p e below s Z own_EL _ _ _ s₁ (mkF m 31 #[.val (.int p1), .val (.int p2), .val (.int p3), .val (.int p4), .val (.int p5), .val (.int p6), .val (.int (0 : Int32)), .val (.int c0), .val (.int c1), .val (.int c2), .unset, .unset, .unset, .unset, .unset] [])
    obtain ⟨a87, T87, h87, k1_87, b87, kc87, X87, e87, E87, hS_, hkN, hZ, hown, Ea, Fc, Fv, Vb, -, -, CN, -, sN, st87⟩ := ldcCH (s := s) (vm0 := s.vm) X0 hx hZ hown (hw _ (List.mem_of_getElem? (i := 0) rfl)) (own_wS hw) e0 hS_ hk_ (own_hEL hw) (by decide) CR.1 (vs := []) (z := (0 : Int32)) ⟨by decide, rfl⟩ (by decide) (by decide) (g := (mkF m 31 #[.val (.int p1), .val (.int p2), .val (.int p3), .val (.int p4), .val (.int p5), .val (.int p6), .val (.int (0 : Int32)), .val (.int c0), .val (.int c1), .val (.int c2), .unset, .unset, .unset, .unset, .unset] [])) rfl (hb hby at_31) (n := 0) (by decide) (by decide) (by decide) (by decide)
    have O_ := O_.ext E87
    have CR := CR.trans CN
    have hk_ := hkN
    have Z_ : n0 ≤ h87.size := Nat.le_trans Z_ E87.1
    have E_a87 := Ea
    have Fc_a87 := Fc
    have Fv_a87 := Fv
    have V_b87 := Vb
    refine OwnGoW.st st87 ?_
    show OwnGoW p e below s Z own_EL _ _ _ T87 (mkF m 33 #[.val (.int p1), .val (.int p2), .val (.int p3), .val (.int p4), .val (.int p5), .val (.int p6), .val (.int (0 : Int32)), .val (.int c0), .val (.int c1), .val (.int c2), .unset, .unset, .unset, .unset, .unset] [(.ref a87)])
    refine OwnGoW.st (fun _ kk => XS.astore X87.here hx rfl (hb hby at_33) rfl rfl (l' := #[.val (.int p1), .val (.int p2), .val (.int p3), .val (.int p4), .val (.int p5), .val (.int p6), .val (.int (0 : Int32)), .val (.int c0), .val (.int c1), .val (.int c2), .val (.ref a87), .unset, .unset, .unset, .unset]) rfl kk) ?_
    show OwnGoW p e below s Z own_EL _ _ _ T87 (mkF m 35 #[.val (.int p1), .val (.int p2), .val (.int p3), .val (.int p4), .val (.int p5), .val (.int p6), .val (.int (0 : Int32)), .val (.int c0), .val (.int c1), .val (.int c2), .val (.ref a87), .unset, .unset, .unset, .unset] [])
    refine OwnGoW.st (fun _ kk => XS.goto X87.here hx rfl (pc0 := 35) (pc' := 112) rfl (hb hby at_35) (by decide) (by decide) kk) ?_
    show OwnGoW p e below s Z own_EL _ _ _ T87 (mkF m 112 #[.val (.int p1), .val (.int p2), .val (.int p3), .val (.int p4), .val (.int p5), .val (.int p6), .val (.int (0 : Int32)), .val (.int c0), .val (.int c1), .val (.int c2), .val (.ref a87), .unset, .unset, .unset, .unset] [])
    obtain ⟨T88, h88, X88, e88, E88, A88, D88, -, st88⟩ := newO X87 hx hZ hown (hw _ (List.mem_of_getElem? (i := 8) rfl)) (hw _ (List.mem_of_getElem? (i := 9) rfl)) (hw _ (List.mem_of_getElem? (i := 10) rfl)) e87 (g := (mkF m 112 #[.val (.int p1), .val (.int p2), .val (.int p3), .val (.int p4), .val (.int p5), .val (.int p6), .val (.int (0 : Int32)), .val (.int c0), .val (.int c1), .val (.int c2), .val (.ref a87), .unset, .unset, .unset, .unset] [])) rfl (hb hby at_112) (by decide) (by decide)
    obtain ⟨b88, g88⟩ : ∃ z, z = h87.size := ⟨_, rfl⟩
    rw [← g88] at A88 D88 st88
    have ne_a87_b88 : a87 ≠ b88 := Nat.ne_of_lt (Nat.lt_of_lt_of_le E_a87.lt (Nat.le_of_eq g88.symm))
    have ne_b87_b88 : b87 ≠ b88 := Nat.ne_of_lt (Nat.lt_of_lt_of_le V_b87.lt (Nat.le_of_eq g88.symm))
    have g_b88 : n0 ≤ b88 := Nat.le_trans Z_ (Nat.le_of_eq g88.symm)
    have sf_b88 : Safe Z own_EL T87.vm h87 b88 := Safe.new (Nat.le_of_eq g88.symm)
    have E_a87 := E_a87.ext E88
    have Fc_a87 := Fc_a87.ext E88
    have Fv_a87 := Fv_a87.ext E88
    have V_b87 := V_b87.ext E88
    have O_ := O_.ext E88
    have sf_b88 := Safe.ext E88 CR.1 sf_b88
    have CR := CR.trans (CHr.ext E88 CR.1)
    have hk_ := Nat.le_trans hk_ E88.1
    have Z_ : n0 ≤ h88.size := Nat.le_trans Z_ E88.1
    have E_b88 := A88
    have F_values_b88 : Fld Z h88 b88 "io/quintet/Alphabet" "values" "[B" .null := D88 (Or.inr (hw _ (List.mem_of_getElem? (i := 18) rfl))) (ty := (.array .byte)) (by decide)
    have F_width_b88 : Fld Z h88 b88 "io/quintet/Alphabet" "width" "I" (.int (0 : Int32)) := D88 (Or.inr (hw _ (List.mem_of_getElem? (i := 20) rfl))) (ty := .int) (by decide)
    have F_characters_b88 : Fld Z h88 b88 "io/quintet/Alphabet" "characters" "Ljava/lang/String;" .null := D88 (Or.inr (hw _ (List.mem_of_getElem? (i := 22) rfl))) (ty := (.object "java/lang/String")) (by decide)
    refine OwnGoW.st st88 ?_
    show OwnGoW p e below s Z own_EL _ _ _ T88 (mkF m 115 #[.val (.int p1), .val (.int p2), .val (.int p3), .val (.int p4), .val (.int p5), .val (.int p6), .val (.int (0 : Int32)), .val (.int c0), .val (.int c1), .val (.int c2), .val (.ref a87), .unset, .unset, .unset, .unset] [(.ref b88)])
    refine OwnGoW.st (fun _ kk => XS.dup X88.here hx rfl (hb hby at_115) rfl rfl kk) ?_
    show OwnGoW p e below s Z own_EL _ _ _ T88 (mkF m 116 #[.val (.int p1), .val (.int p2), .val (.int p3), .val (.int p4), .val (.int p5), .val (.int p6), .val (.int (0 : Int32)), .val (.int c0), .val (.int c1), .val (.int c2), .val (.ref a87), .unset, .unset, .unset, .unset] [(.ref b88), (.ref b88)])
    refine OwnGoW.st (fun _ kk => XS.iconst X88.here hx rfl (hb hby at_116) kk) ?_
    show OwnGoW p e below s Z own_EL _ _ _ T88 (mkF m 117 #[.val (.int p1), .val (.int p2), .val (.int p3), .val (.int p4), .val (.int p5), .val (.int p6), .val (.int (0 : Int32)), .val (.int c0), .val (.int c1), .val (.int c2), .val (.ref a87), .unset, .unset, .unset, .unset] [(.int (2 : Int32)), (.ref b88), (.ref b88)])
    refine OwnGoW.st (fun _ kk => XS.aload X88.here hx rfl (hb hby at_117) rfl rfl  kk) ?_
    show OwnGoW p e below s Z own_EL _ _ _ T88 (mkF m 119 #[.val (.int p1), .val (.int p2), .val (.int p3), .val (.int p4), .val (.int p5), .val (.int p6), .val (.int (0 : Int32)), .val (.int c0), .val (.int c1), .val (.int c2), .val (.ref a87), .unset, .unset, .unset, .unset] [(.ref a87), (.int (2 : Int32)), (.ref b88), (.ref b88)])
    obtain ⟨_, _, ⟨T89, L89, k89, n89⟩, -, X89, ⟨Lc89, hQ89, l89, y89, z89⟩, st89⟩ := X88.specialBack hx (y := (⟨"io/quintet/Alphabet", "<init>", "(ILjava/lang/String;)V"⟩ : MethodName)) rfl hown (mvT hZ (hw _ (List.mem_of_getElem? (i := 11) rfl))) (mvT hZ (hw _ (List.mem_of_getElem? (i := 12) rfl))) (mvT hZ (hw _ (List.mem_of_getElem? (i := 13) rfl))) (by decide) (backOf (W := 1) (rmini0 l Z a0 hw [] b88 a87 b87 kc87 zc fmv h88 n0 Z_ O_ S_CS P_CS S_SF rf_fmv E_b88 g_b88 ne_a87_b88 ne_b87_b88 F_values_b88 F_width_b88 F_characters_b88 E_a87 Fc_a87 Fv_a87 V_b87) hZ (hw _ (List.mem_of_getElem? (i := 13) rfl)) (hw _ (List.mem_of_getElem? (i := 10) rfl)) (by decide) (by decide)) (g := (mkF m 119 #[.val (.int p1), .val (.int p2), .val (.int p3), .val (.int p4), .val (.int p5), .val (.int p6), .val (.int (0 : Int32)), .val (.int c0), .val (.int c1), .val (.int c2), .val (.ref a87), .unset, .unset, .unset, .unset] [(.ref a87), (.int (2 : Int32)), (.ref b88), (.ref b88)])) rfl (by rw [hml]; rfl) (Steps.refl _) (a := b88) (argsL := [(.int (2 : Int32)), (.ref a87)]) (rest := [(.ref b88)]) (lenOf pd_10 rfl) rfl (by show 2 * 0 + _ ≤ _; exact Nat.le_of_eq rfl) (hb hby at_119) (fun _ _ => ⟨rfl, e88, (by decide : 3 + 1 ≤ _), (by decide : 7 + 128 ≤ _)⟩)
    dsimp only [Pt.U, Pt.locs, Pt.cells, Pt.slots] at X89 l89 y89 z89 st89 hQ89
    subst l89 y89 z89
    obtain ⟨rfl, N89q, K89, Eo89, b89, Fb89, G89⟩ := hQ89
    have N89 := Fr.app N0 N89q
    have Z_ : n0 ≤ T89.heap.size := Nat.le_trans Z_ K89.1
    have E_a87 := E_a87.keep K89
    have Fc_a87 := Fc_a87.keep K89 (ninS ne_a87_b88 nin0)
    have Fv_a87 := Fv_a87.keep K89 (ninS ne_a87_b88 nin0)
    have V_b87 := V_b87.keep K89 (ninS ne_b87_b88 nin0)
    have E_b88 := E_b88.keep K89
    have O_ := O_.keep K89 (allS g_b88 all0)
    have sf_b88' := Safe.keep K89 (sfS sf_b88 sf0) CR.1 sf_b88
    have CR := CR.trans (CHr.keep K89 (sfS sf_b88 sf0) CR.1)
    have hk_ := Nat.le_trans hk_ K89.1
    have sf_b88 := sf_b88'
    refine OwnGoW.st (fun _ kk => st89.trans kk) ?_
    show OwnGoW p e below s Z own_EL _ _ _ T89 (mkF m 122 #[.val (.int p1), .val (.int p2), .val (.int p3), .val (.int p4), .val (.int p5), .val (.int p6), .val (.int (0 : Int32)), .val (.int c0), .val (.int c1), .val (.int c2), .val (.ref a87), .unset, .unset, .unset, .unset] [(.ref b88)])
    refine OwnGoW.st (fun _ kk => XS.astore X89.here hx rfl (hb hby at_122) rfl rfl (l' := #[.val (.int p1), .val (.int p2), .val (.int p3), .val (.int p4), .val (.int p5), .val (.int p6), .val (.int (0 : Int32)), .val (.int c0), .val (.int c1), .val (.int c2), .val (.ref a87), .val (.ref b88), .unset, .unset, .unset]) rfl kk) ?_
    show OwnGoW p e below s Z own_EL _ _ _ T89 (mkF m 124 #[.val (.int p1), .val (.int p2), .val (.int p3), .val (.int p4), .val (.int p5), .val (.int p6), .val (.int (0 : Int32)), .val (.int c0), .val (.int c1), .val (.int c2), .val (.ref a87), .val (.ref b88), .unset, .unset, .unset] [])
    refine OwnGoW.st (fun _ kk => XS.iload X89.here hx rfl (hb hby at_124) rfl  kk) ?_
    show OwnGoW p e below s Z own_EL _ _ _ T89 (mkF m 126 #[.val (.int p1), .val (.int p2), .val (.int p3), .val (.int p4), .val (.int p5), .val (.int p6), .val (.int (0 : Int32)), .val (.int c0), .val (.int c1), .val (.int c2), .val (.ref a87), .val (.ref b88), .unset, .unset, .unset] [(.int p6)])
    refine OwnGoW.st (fun _ kk => XS.iconst X89.here hx rfl (hb hby at_126) kk) ?_
    show OwnGoW p e below s Z own_EL _ _ _ T89 (mkF m 127 #[.val (.int p1), .val (.int p2), .val (.int p3), .val (.int p4), .val (.int p5), .val (.int p6), .val (.int (0 : Int32)), .val (.int c0), .val (.int c1), .val (.int c2), .val (.ref a87), .val (.ref b88), .unset, .unset, .unset] [(.int (3 : Int32)), (.int p6)])
    refine OwnGoW.st (fun _ kk => XS.iand X89.here hx rfl (hb hby at_127) rfl kk) ?_
    show OwnGoW p e below s Z own_EL _ _ _ T89 (mkF m 128 #[.val (.int p1), .val (.int p2), .val (.int p3), .val (.int p4), .val (.int p5), .val (.int p6), .val (.int (0 : Int32)), .val (.int c0), .val (.int c1), .val (.int c2), .val (.ref a87), .val (.ref b88), .unset, .unset, .unset] [(.int (p6 &&& (3 : Int32)))])
    refine OwnGoW.st (fun _ kk => XS.istore X89.here hx rfl (hb hby at_128) rfl (l' := #[.val (.int p1), .val (.int p2), .val (.int p3), .val (.int p4), .val (.int p5), .val (.int p6), .val (.int (0 : Int32)), .val (.int c0), .val (.int c1), .val (.int c2), .val (.ref a87), .val (.ref b88), .val (.int (p6 &&& (3 : Int32))), .unset, .unset]) rfl kk) ?_
    show OwnGoW p e below s Z own_EL _ _ _ T89 (mkF m 130 #[.val (.int p1), .val (.int p2), .val (.int p3), .val (.int p4), .val (.int p5), .val (.int p6), .val (.int (0 : Int32)), .val (.int c0), .val (.int c1), .val (.int c2), .val (.ref a87), .val (.ref b88), .val (.int (p6 &&& (3 : Int32))), .unset, .unset] [])
    refine OwnGoW.st (fun _ kk => XS.iload X89.here hx rfl (hb hby at_130) rfl  kk) ?_
    show OwnGoW p e below s Z own_EL _ _ _ T89 (mkF m 132 #[.val (.int p1), .val (.int p2), .val (.int p3), .val (.int p4), .val (.int p5), .val (.int p6), .val (.int (0 : Int32)), .val (.int c0), .val (.int c1), .val (.int c2), .val (.ref a87), .val (.ref b88), .val (.int (p6 &&& (3 : Int32))), .unset, .unset] [(.int (p6 &&& (3 : Int32)))])
    refine OwnGoW.st (fun _ kk => XS.iconst X89.here hx rfl (hb hby at_132) kk) ?_
    show OwnGoW p e below s Z own_EL _ _ _ T89 (mkF m 133 #[.val (.int p1), .val (.int p2), .val (.int p3), .val (.int p4), .val (.int p5), .val (.int p6), .val (.int (0 : Int32)), .val (.int c0), .val (.int c1), .val (.int c2), .val (.ref a87), .val (.ref b88), .val (.int (p6 &&& (3 : Int32))), .unset, .unset] [(.int (1 : Int32)), (.int (p6 &&& (3 : Int32)))])
    by_cases hm1 : (p6 &&& (3 : Int32)) = (1 : Int32)
    · refine OwnGoW.st (fun _ kk => XS.icmpNo X89.here hx rfl (hb hby at_133) rfl (teq (hm1 : (p6 &&& (3 : Int32)) = (1 : Int32))).2 kk) ?_
      show OwnGoW p e below s Z own_EL _ _ _ T89 (mkF m 136 #[.val (.int p1), .val (.int p2), .val (.int p3), .val (.int p4), .val (.int p5), .val (.int p6), .val (.int (0 : Int32)), .val (.int c0), .val (.int c1), .val (.int c2), .val (.ref a87), .val (.ref b88), .val (.int (p6 &&& (3 : Int32))), .unset, .unset] [])
      refine OwnGoW.st (fun _ kk => XS.iload X89.here hx rfl (hb hby at_136) rfl  kk) ?_
      show OwnGoW p e below s Z own_EL _ _ _ T89 (mkF m 138 #[.val (.int p1), .val (.int p2), .val (.int p3), .val (.int p4), .val (.int p5), .val (.int p6), .val (.int (0 : Int32)), .val (.int c0), .val (.int c1), .val (.int c2), .val (.ref a87), .val (.ref b88), .val (.int (p6 &&& (3 : Int32))), .unset, .unset] [(.int c0)])
      refine OwnGoW.st (fun _ kk => XS.istore X89.here hx rfl (hb hby at_138) rfl (l' := #[.val (.int p1), .val (.int p2), .val (.int p3), .val (.int p4), .val (.int p5), .val (.int p6), .val (.int (0 : Int32)), .val (.int c0), .val (.int c1), .val (.int c2), .val (.ref a87), .val (.ref b88), .val (.int (p6 &&& (3 : Int32))), .val (.int c0), .unset]) rfl kk) ?_
      show OwnGoW p e below s Z own_EL _ _ _ T89 (mkF m 140 #[.val (.int p1), .val (.int p2), .val (.int p3), .val (.int p4), .val (.int p5), .val (.int p6), .val (.int (0 : Int32)), .val (.int c0), .val (.int c1), .val (.int c2), .val (.ref a87), .val (.ref b88), .val (.int (p6 &&& (3 : Int32))), .val (.int c0), .unset] [])
      refine OwnGoW.st (fun _ kk => XS.goto X89.here hx rfl (pc0 := 140) (pc' := 174) rfl (hb hby at_140) (by decide) (by decide) kk) ?_
      show OwnGoW p e below s Z own_EL _ _ _ T89 (mkF m 174 #[.val (.int p1), .val (.int p2), .val (.int p3), .val (.int p4), .val (.int p5), .val (.int p6), .val (.int (0 : Int32)), .val (.int c0), .val (.int c1), .val (.int c2), .val (.ref a87), .val (.ref b88), .val (.int (p6 &&& (3 : Int32))), .val (.int c0), .unset] [])
      refine OwnGoW.st (fun _ kk => XS.iload X89.here hx rfl (hb hby at_174) rfl  kk) ?_
      show OwnGoW p e below s Z own_EL _ _ _ T89 (mkF m 176 #[.val (.int p1), .val (.int p2), .val (.int p3), .val (.int p4), .val (.int p5), .val (.int p6), .val (.int (0 : Int32)), .val (.int c0), .val (.int c1), .val (.int c2), .val (.ref a87), .val (.ref b88), .val (.int (p6 &&& (3 : Int32))), .val (.int c0), .unset] [(.int (0 : Int32))])
      refine OwnGoW.st (fun _ kk => XS.iconst X89.here hx rfl (hb hby at_176) kk) ?_
      show OwnGoW p e below s Z own_EL _ _ _ T89 (mkF m 177 #[.val (.int p1), .val (.int p2), .val (.int p3), .val (.int p4), .val (.int p5), .val (.int p6), .val (.int (0 : Int32)), .val (.int c0), .val (.int c1), .val (.int c2), .val (.ref a87), .val (.ref b88), .val (.int (p6 &&& (3 : Int32))), .val (.int c0), .unset] [(.int (1 : Int32)), (.int (0 : Int32))])
      refine OwnGoW.st (fun _ kk => XS.icmpYes X89.here hx rfl (pc0 := 177) (pc' := 187) rfl (hb hby at_177) rfl (tlt ((by decide) : (0 : Int32) < (1 : Int32))).1 (by decide) (by decide) kk) ?_
      show OwnGoW p e below s Z own_EL _ _ _ T89 (mkF m 187 #[.val (.int p1), .val (.int p2), .val (.int p3), .val (.int p4), .val (.int p5), .val (.int p6), .val (.int (0 : Int32)), .val (.int c0), .val (.int c1), .val (.int c2), .val (.ref a87), .val (.ref b88), .val (.int (p6 &&& (3 : Int32))), .val (.int c0), .unset] [])
      refine OwnGoW.st (fun _ kk => XS.iload X89.here hx rfl (hb hby at_187) rfl  kk) ?_
      show OwnGoW p e below s Z own_EL _ _ _ T89 (mkF m 189 #[.val (.int p1), .val (.int p2), .val (.int p3), .val (.int p4), .val (.int p5), .val (.int p6), .val (.int (0 : Int32)), .val (.int c0), .val (.int c1), .val (.int c2), .val (.ref a87), .val (.ref b88), .val (.int (p6 &&& (3 : Int32))), .val (.int c0), .unset] [(.int (0 : Int32))])
      refine OwnGoW.st (fun _ kk => XS.iconst X89.here hx rfl (hb hby at_189) kk) ?_
      show OwnGoW p e below s Z own_EL _ _ _ T89 (mkF m 190 #[.val (.int p1), .val (.int p2), .val (.int p3), .val (.int p4), .val (.int p5), .val (.int p6), .val (.int (0 : Int32)), .val (.int c0), .val (.int c1), .val (.int c2), .val (.ref a87), .val (.ref b88), .val (.int (p6 &&& (3 : Int32))), .val (.int c0), .unset] [(.int (2 : Int32)), (.int (0 : Int32))])
      refine OwnGoW.st (fun _ kk => XS.icmpYes X89.here hx rfl (pc0 := 190) (pc' := 200) rfl (hb hby at_190) rfl (tlt ((by decide) : (0 : Int32) < (2 : Int32))).1 (by decide) (by decide) kk) ?_
      show OwnGoW p e below s Z own_EL _ _ _ T89 (mkF m 200 #[.val (.int p1), .val (.int p2), .val (.int p3), .val (.int p4), .val (.int p5), .val (.int p6), .val (.int (0 : Int32)), .val (.int c0), .val (.int c1), .val (.int c2), .val (.ref a87), .val (.ref b88), .val (.int (p6 &&& (3 : Int32))), .val (.int c0), .unset] [])
      refine OwnGoW.st (fun _ kk => XS.iload X89.here hx rfl (hb hby at_200) rfl  kk) ?_
      show OwnGoW p e below s Z own_EL _ _ _ T89 (mkF m 202 #[.val (.int p1), .val (.int p2), .val (.int p3), .val (.int p4), .val (.int p5), .val (.int p6), .val (.int (0 : Int32)), .val (.int c0), .val (.int c1), .val (.int c2), .val (.ref a87), .val (.ref b88), .val (.int (p6 &&& (3 : Int32))), .val (.int c0), .unset] [(.int (0 : Int32))])
      refine OwnGoW.st (fun _ kk => XS.iconst X89.here hx rfl (hb hby at_202) kk) ?_
      show OwnGoW p e below s Z own_EL _ _ _ T89 (mkF m 203 #[.val (.int p1), .val (.int p2), .val (.int p3), .val (.int p4), .val (.int p5), .val (.int p6), .val (.int (0 : Int32)), .val (.int c0), .val (.int c1), .val (.int c2), .val (.ref a87), .val (.ref b88), .val (.int (p6 &&& (3 : Int32))), .val (.int c0), .unset] [(.int (3 : Int32)), (.int (0 : Int32))])
      refine OwnGoW.st (fun _ kk => XS.icmpYes X89.here hx rfl (pc0 := 203) (pc' := 217) rfl (hb hby at_203) rfl (tlt ((by decide) : (0 : Int32) < (3 : Int32))).1 (by decide) (by decide) kk) ?_
      show OwnGoW p e below s Z own_EL _ _ _ T89 (mkF m 217 #[.val (.int p1), .val (.int p2), .val (.int p3), .val (.int p4), .val (.int p5), .val (.int p6), .val (.int (0 : Int32)), .val (.int c0), .val (.int c1), .val (.int c2), .val (.ref a87), .val (.ref b88), .val (.int (p6 &&& (3 : Int32))), .val (.int c0), .unset] [])
      refine OwnGoW.st (fun _ kk => XS.iconst X89.here hx rfl (hb hby at_217) kk) ?_
      show OwnGoW p e below s Z own_EL _ _ _ T89 (mkF m 218 #[.val (.int p1), .val (.int p2), .val (.int p3), .val (.int p4), .val (.int p5), .val (.int p6), .val (.int (0 : Int32)), .val (.int c0), .val (.int c1), .val (.int c2), .val (.ref a87), .val (.ref b88), .val (.int (p6 &&& (3 : Int32))), .val (.int c0), .unset] [(.int (0 : Int32))])
      refine OwnGoW.st (fun _ kk => XS.istore X89.here hx rfl (hb hby at_218) rfl (l' := #[.val (.int p1), .val (.int p2), .val (.int p3), .val (.int p4), .val (.int p5), .val (.int p6), .val (.int (0 : Int32)), .val (.int c0), .val (.int c1), .val (.int c2), .val (.ref a87), .val (.ref b88), .val (.int (p6 &&& (3 : Int32))), .val (.int c0), .val (.int (0 : Int32))]) rfl kk) ?_
      show OwnGoW p e below s Z own_EL _ _ _ T89 (mkF m 220 #[.val (.int p1), .val (.int p2), .val (.int p3), .val (.int p4), .val (.int p5), .val (.int p6), .val (.int (0 : Int32)), .val (.int c0), .val (.int c1), .val (.int c2), .val (.ref a87), .val (.ref b88), .val (.int (p6 &&& (3 : Int32))), .val (.int c0), .val (.int (0 : Int32))] [])
      refine OwnGoW.st (fun _ kk => XS.aload X89.here hx rfl (hb hby at_220) rfl rfl  kk) ?_
      show OwnGoW p e below s Z own_EL _ _ _ T89 (mkF m 222 #[.val (.int p1), .val (.int p2), .val (.int p3), .val (.int p4), .val (.int p5), .val (.int p6), .val (.int (0 : Int32)), .val (.int c0), .val (.int c1), .val (.int c2), .val (.ref a87), .val (.ref b88), .val (.int (p6 &&& (3 : Int32))), .val (.int c0), .val (.int (0 : Int32))] [(.ref b88)])
      refine OwnGoW.st (fun _ kk => XS.iload X89.here hx rfl (hb hby at_222) rfl  kk) ?_
      show OwnGoW p e below s Z own_EL _ _ _ T89 (mkF m 224 #[.val (.int p1), .val (.int p2), .val (.int p3), .val (.int p4), .val (.int p5), .val (.int p6), .val (.int (0 : Int32)), .val (.int c0), .val (.int c1), .val (.int c2), .val (.ref a87), .val (.ref b88), .val (.int (p6 &&& (3 : Int32))), .val (.int c0), .val (.int (0 : Int32))] [(.int c0), (.ref b88)])
      by_cases hlt_ : c0 < (128 : Int32)
      · obtain ⟨cq90, kq90, q90a, q90b, q90c⟩ := isOf hZ rfl E_b88
        obtain ⟨_, _, ⟨T90, L90, k90, n90⟩, -, X90, ⟨Lc90, hQ90, l90, y90, z90⟩, st90⟩ := X89.virtualBack hx (y := (⟨"io/quintet/Alphabet", "contains", "(C)Z"⟩ : MethodName)) (z := (⟨"io/quintet/Alphabet", "contains", "(C)Z"⟩ : MethodName)) hown (mvT hZ (hw _ (List.mem_of_getElem? (i := 40) rfl))) (mvT hZ (hw _ (List.mem_of_getElem? (i := 41) rfl))) (notFace_of_selects (args := #[]) (mvT hZ (hw _ (List.mem_of_getElem? (i := 43) rfl)))) (mvT hZ (hw _ (List.mem_of_getElem? (i := 43) rfl))) (mvT hZ (hw _ (List.mem_of_getElem? (i := 42) rfl))) (by decide) (backOf (W := 0) (rmconN l Z a0 hw [] b88 b89 (own_tab []) c0 T89.heap n0 Z_ Fb89 G89 P_c0.1 hlt_ (own_tabN P_c0.1 own_nil)) hZ (hw _ (List.mem_of_getElem? (i := 44) rfl)) (hw _ (List.mem_of_getElem? (i := 10) rfl)) (by decide) (by decide)) q90a q90c (g := (mkF m 224 #[.val (.int p1), .val (.int p2), .val (.int p3), .val (.int p4), .val (.int p5), .val (.int p6), .val (.int (0 : Int32)), .val (.int c0), .val (.int c1), .val (.int c2), .val (.ref a87), .val (.ref b88), .val (.int (p6 &&& (3 : Int32))), .val (.int c0), .val (.int (0 : Int32))] [(.int c0), (.ref b88)])) rfl (by rw [hml]; rfl) (Steps.refl _) (argsL := [(.int c0)]) (rest := []) (lenOf pd_5 rfl) rfl (by show 2 * 0 + _ ≤ _; exact Nat.le_of_eq rfl) (hb hby at_224) (fun _ _ => ⟨rfl, rfl, (by decide : 4 + 0 ≤ _), (by decide : 135 + 0 ≤ _)⟩)
        dsimp only [Pt.U, Pt.locs, Pt.cells, Pt.slots] at X90 l90 y90 z90 st90 hQ90
        subst l90 y90 z90
        obtain ⟨rfl, N90q, e90⟩ := hQ90
        have N90 := Fr.app N89 N90q
        refine OwnGoW.st (fun _ kk => st90.trans kk) ?_
        show OwnGoW p e below s Z own_EL _ _ _ T90 (mkF m 227 #[.val (.int p1), .val (.int p2), .val (.int p3), .val (.int p4), .val (.int p5), .val (.int p6), .val (.int (0 : Int32)), .val (.int c0), .val (.int c1), .val (.int c2), .val (.ref a87), .val (.ref b88), .val (.int (p6 &&& (3 : Int32))), .val (.int c0), .val (.int (0 : Int32))] [(.int (0 : Int32))])
        refine OwnGoW.st (fun _ kk => XS.iload X90.here hx rfl (hb hby at_227) rfl  kk) ?_
        show OwnGoW p e below s Z own_EL _ _ _ T90 (mkF m 229 #[.val (.int p1), .val (.int p2), .val (.int p3), .val (.int p4), .val (.int p5), .val (.int p6), .val (.int (0 : Int32)), .val (.int c0), .val (.int c1), .val (.int c2), .val (.ref a87), .val (.ref b88), .val (.int (p6 &&& (3 : Int32))), .val (.int c0), .val (.int (0 : Int32))] [(.int (0 : Int32)), (.int (0 : Int32))])
        refine OwnGoW.st (fun _ kk => XS.icmpNo X90.here hx rfl (hb hby at_229) rfl (teq ((by decide) : (0 : Int32) = (0 : Int32))).2 kk) ?_
        show OwnGoW p e below s Z own_EL _ _ _ T90 (mkF m 232 #[.val (.int p1), .val (.int p2), .val (.int p3), .val (.int p4), .val (.int p5), .val (.int p6), .val (.int (0 : Int32)), .val (.int c0), .val (.int c1), .val (.int c2), .val (.ref a87), .val (.ref b88), .val (.int (p6 &&& (3 : Int32))), .val (.int c0), .val (.int (0 : Int32))] [])
        refine OwnGoW.st (fun _ kk => XS.iconst X90.here hx rfl (hb hby at_232) kk) ?_
        show OwnGoW p e below s Z own_EL _ _ _ T90 (mkF m 233 #[.val (.int p1), .val (.int p2), .val (.int p3), .val (.int p4), .val (.int p5), .val (.int p6), .val (.int (0 : Int32)), .val (.int c0), .val (.int c1), .val (.int c2), .val (.ref a87), .val (.ref b88), .val (.int (p6 &&& (3 : Int32))), .val (.int c0), .val (.int (0 : Int32))] [(.int (1 : Int32))])
        refine OwnGoW.st (fun _ kk => XS.goto X90.here hx rfl (pc0 := 233) (pc' := 237) rfl (hb hby at_233) (by decide) (by decide) kk) ?_
        show OwnGoW p e below s Z own_EL _ _ _ T90 (mkF m 237 #[.val (.int p1), .val (.int p2), .val (.int p3), .val (.int p4), .val (.int p5), .val (.int p6), .val (.int (0 : Int32)), .val (.int c0), .val (.int c1), .val (.int c2), .val (.ref a87), .val (.ref b88), .val (.int (p6 &&& (3 : Int32))), .val (.int c0), .val (.int (0 : Int32))] [(.int (1 : Int32))])
        exact OwnGoW.retN (s := s) (vm0 := T87.vm) X90 hS_ hk_ e90 hZ (own_hEL hw) CR hx (t := .boolean) hret hlk (by simp) (hb hby at_237) (by show Q0 Z p1 p2 p3 p4 p5 p6 zc fmv h0 n0 _ T90.heap _; rw [e90]; exact ⟨rfl, N90⟩) (by decide) (by decide)
      · obtain ⟨cq91, kq91, q91a, q91b, q91c⟩ := isOf hZ rfl E_b88
        obtain ⟨_, _, ⟨T91, L91, k91, n91⟩, -, X91, ⟨Lc91, hQ91, l91, y91, z91⟩, st91⟩ := X89.virtualBack hx (y := (⟨"io/quintet/Alphabet", "contains", "(C)Z"⟩ : MethodName)) (z := (⟨"io/quintet/Alphabet", "contains", "(C)Z"⟩ : MethodName)) hown (mvT hZ (hw _ (List.mem_of_getElem? (i := 40) rfl))) (mvT hZ (hw _ (List.mem_of_getElem? (i := 41) rfl))) (notFace_of_selects (args := #[]) (mvT hZ (hw _ (List.mem_of_getElem? (i := 43) rfl)))) (mvT hZ (hw _ (List.mem_of_getElem? (i := 43) rfl))) (mvT hZ (hw _ (List.mem_of_getElem? (i := 42) rfl))) (by decide) (backOf (W := 0) (rmconB l Z a0 hw [] b88 b89 (own_tab []) c0 T89.heap n0 Z_ Fb89 G89 P_c0.1 hlt_) hZ (hw _ (List.mem_of_getElem? (i := 44) rfl)) (hw _ (List.mem_of_getElem? (i := 10) rfl)) (by decide) (by decide)) q91a q91c (g := (mkF m 224 #[.val (.int p1), .val (.int p2), .val (.int p3), .val (.int p4), .val (.int p5), .val (.int p6), .val (.int (0 : Int32)), .val (.int c0), .val (.int c1), .val (.int c2), .val (.ref a87), .val (.ref b88), .val (.int (p6 &&& (3 : Int32))), .val (.int c0), .val (.int (0 : Int32))] [(.int c0), (.ref b88)])) rfl (by rw [hml]; rfl) (Steps.refl _) (argsL := [(.int c0)]) (rest := []) (lenOf pd_5 rfl) rfl (by show 2 * 0 + _ ≤ _; exact Nat.le_of_eq rfl) (hb hby at_224) (fun _ _ => ⟨rfl, rfl, (by decide : 4 + 0 ≤ _), (by decide : 135 + 0 ≤ _)⟩)
        dsimp only [Pt.U, Pt.locs, Pt.cells, Pt.slots] at X91 l91 y91 z91 st91 hQ91
        subst l91 y91 z91
        obtain ⟨rfl, N91q, e91⟩ := hQ91
        have N91 := Fr.app N89 N91q
        refine OwnGoW.st (fun _ kk => st91.trans kk) ?_
        show OwnGoW p e below s Z own_EL _ _ _ T91 (mkF m 227 #[.val (.int p1), .val (.int p2), .val (.int p3), .val (.int p4), .val (.int p5), .val (.int p6), .val (.int (0 : Int32)), .val (.int c0), .val (.int c1), .val (.int c2), .val (.ref a87), .val (.ref b88), .val (.int (p6 &&& (3 : Int32))), .val (.int c0), .val (.int (0 : Int32))] [(.int (0 : Int32))])
        refine OwnGoW.st (fun _ kk => XS.iload X91.here hx rfl (hb hby at_227) rfl  kk) ?_
        show OwnGoW p e below s Z own_EL _ _ _ T91 (mkF m 229 #[.val (.int p1), .val (.int p2), .val (.int p3), .val (.int p4), .val (.int p5), .val (.int p6), .val (.int (0 : Int32)), .val (.int c0), .val (.int c1), .val (.int c2), .val (.ref a87), .val (.ref b88), .val (.int (p6 &&& (3 : Int32))), .val (.int c0), .val (.int (0 : Int32))] [(.int (0 : Int32)), (.int (0 : Int32))])
        refine OwnGoW.st (fun _ kk => XS.icmpNo X91.here hx rfl (hb hby at_229) rfl (teq ((by decide) : (0 : Int32) = (0 : Int32))).2 kk) ?_
        show OwnGoW p e below s Z own_EL _ _ _ T91 (mkF m 232 #[.val (.int p1), .val (.int p2), .val (.int p3), .val (.int p4), .val (.int p5), .val (.int p6), .val (.int (0 : Int32)), .val (.int c0), .val (.int c1), .val (.int c2), .val (.ref a87), .val (.ref b88), .val (.int (p6 &&& (3 : Int32))), .val (.int c0), .val (.int (0 : Int32))] [])
        refine OwnGoW.st (fun _ kk => XS.iconst X91.here hx rfl (hb hby at_232) kk) ?_
        show OwnGoW p e below s Z own_EL _ _ _ T91 (mkF m 233 #[.val (.int p1), .val (.int p2), .val (.int p3), .val (.int p4), .val (.int p5), .val (.int p6), .val (.int (0 : Int32)), .val (.int c0), .val (.int c1), .val (.int c2), .val (.ref a87), .val (.ref b88), .val (.int (p6 &&& (3 : Int32))), .val (.int c0), .val (.int (0 : Int32))] [(.int (1 : Int32))])
        refine OwnGoW.st (fun _ kk => XS.goto X91.here hx rfl (pc0 := 233) (pc' := 237) rfl (hb hby at_233) (by decide) (by decide) kk) ?_
        show OwnGoW p e below s Z own_EL _ _ _ T91 (mkF m 237 #[.val (.int p1), .val (.int p2), .val (.int p3), .val (.int p4), .val (.int p5), .val (.int p6), .val (.int (0 : Int32)), .val (.int c0), .val (.int c1), .val (.int c2), .val (.ref a87), .val (.ref b88), .val (.int (p6 &&& (3 : Int32))), .val (.int c0), .val (.int (0 : Int32))] [(.int (1 : Int32))])
        exact OwnGoW.retN (s := s) (vm0 := T87.vm) X91 hS_ hk_ e91 hZ (own_hEL hw) CR hx (t := .boolean) hret hlk (by simp) (hb hby at_237) (by show Q0 Z p1 p2 p3 p4 p5 p6 zc fmv h0 n0 _ T91.heap _; rw [e91]; exact ⟨rfl, N91⟩) (by decide) (by decide)
    · refine OwnGoW.st (fun _ kk => XS.icmpYes X89.here hx rfl (pc0 := 133) (pc' := 143) rfl (hb hby at_133) rfl (feq (hm1 : ¬ ((p6 &&& (3 : Int32)) = (1 : Int32)))).2 (by decide) (by decide) kk) ?_
      show OwnGoW p e below s Z own_EL _ _ _ T89 (mkF m 143 #[.val (.int p1), .val (.int p2), .val (.int p3), .val (.int p4), .val (.int p5), .val (.int p6), .val (.int (0 : Int32)), .val (.int c0), .val (.int c1), .val (.int c2), .val (.ref a87), .val (.ref b88), .val (.int (p6 &&& (3 : Int32))), .unset, .unset] [])
      refine OwnGoW.st (fun _ kk => XS.iload X89.here hx rfl (hb hby at_143) rfl  kk) ?_
      show OwnGoW p e below s Z own_EL _ _ _ T89 (mkF m 145 #[.val (.int p1), .val (.int p2), .val (.int p3), .val (.int p4), .val (.int p5), .val (.int p6), .val (.int (0 : Int32)), .val (.int c0), .val (.int c1), .val (.int c2), .val (.ref a87), .val (.ref b88), .val (.int (p6 &&& (3 : Int32))), .unset, .unset] [(.int (p6 &&& (3 : Int32)))])
      refine OwnGoW.st (fun _ kk => XS.iconst X89.here hx rfl (hb hby at_145) kk) ?_
      show OwnGoW p e below s Z own_EL _ _ _ T89 (mkF m 146 #[.val (.int p1), .val (.int p2), .val (.int p3), .val (.int p4), .val (.int p5), .val (.int p6), .val (.int (0 : Int32)), .val (.int c0), .val (.int c1), .val (.int c2), .val (.ref a87), .val (.ref b88), .val (.int (p6 &&& (3 : Int32))), .unset, .unset] [(.int (2 : Int32)), (.int (p6 &&& (3 : Int32)))])
      by_cases hm2 : (p6 &&& (3 : Int32)) = (2 : Int32)
      · refine OwnGoW.st (fun _ kk => XS.icmpNo X89.here hx rfl (hb hby at_146) rfl (teq (hm2 : (p6 &&& (3 : Int32)) = (2 : Int32))).2 kk) ?_
        show OwnGoW p e below s Z own_EL _ _ _ T89 (mkF m 149 #[.val (.int p1), .val (.int p2), .val (.int p3), .val (.int p4), .val (.int p5), .val (.int p6), .val (.int (0 : Int32)), .val (.int c0), .val (.int c1), .val (.int c2), .val (.ref a87), .val (.ref b88), .val (.int (p6 &&& (3 : Int32))), .unset, .unset] [])
        refine OwnGoW.st (fun _ kk => XS.iload X89.here hx rfl (hb hby at_149) rfl  kk) ?_
        show OwnGoW p e below s Z own_EL _ _ _ T89 (mkF m 151 #[.val (.int p1), .val (.int p2), .val (.int p3), .val (.int p4), .val (.int p5), .val (.int p6), .val (.int (0 : Int32)), .val (.int c0), .val (.int c1), .val (.int c2), .val (.ref a87), .val (.ref b88), .val (.int (p6 &&& (3 : Int32))), .unset, .unset] [(.int c1)])
        refine OwnGoW.st (fun _ kk => XS.istore X89.here hx rfl (hb hby at_151) rfl (l' := #[.val (.int p1), .val (.int p2), .val (.int p3), .val (.int p4), .val (.int p5), .val (.int p6), .val (.int (0 : Int32)), .val (.int c0), .val (.int c1), .val (.int c2), .val (.ref a87), .val (.ref b88), .val (.int (p6 &&& (3 : Int32))), .val (.int c1), .unset]) rfl kk) ?_
        show OwnGoW p e below s Z own_EL _ _ _ T89 (mkF m 153 #[.val (.int p1), .val (.int p2), .val (.int p3), .val (.int p4), .val (.int p5), .val (.int p6), .val (.int (0 : Int32)), .val (.int c0), .val (.int c1), .val (.int c2), .val (.ref a87), .val (.ref b88), .val (.int (p6 &&& (3 : Int32))), .val (.int c1), .unset] [])
        refine OwnGoW.st (fun _ kk => XS.goto X89.here hx rfl (pc0 := 153) (pc' := 174) rfl (hb hby at_153) (by decide) (by decide) kk) ?_
        show OwnGoW p e below s Z own_EL _ _ _ T89 (mkF m 174 #[.val (.int p1), .val (.int p2), .val (.int p3), .val (.int p4), .val (.int p5), .val (.int p6), .val (.int (0 : Int32)), .val (.int c0), .val (.int c1), .val (.int c2), .val (.ref a87), .val (.ref b88), .val (.int (p6 &&& (3 : Int32))), .val (.int c1), .unset] [])
        refine OwnGoW.st (fun _ kk => XS.iload X89.here hx rfl (hb hby at_174) rfl  kk) ?_
        show OwnGoW p e below s Z own_EL _ _ _ T89 (mkF m 176 #[.val (.int p1), .val (.int p2), .val (.int p3), .val (.int p4), .val (.int p5), .val (.int p6), .val (.int (0 : Int32)), .val (.int c0), .val (.int c1), .val (.int c2), .val (.ref a87), .val (.ref b88), .val (.int (p6 &&& (3 : Int32))), .val (.int c1), .unset] [(.int (0 : Int32))])
        refine OwnGoW.st (fun _ kk => XS.iconst X89.here hx rfl (hb hby at_176) kk) ?_
        show OwnGoW p e below s Z own_EL _ _ _ T89 (mkF m 177 #[.val (.int p1), .val (.int p2), .val (.int p3), .val (.int p4), .val (.int p5), .val (.int p6), .val (.int (0 : Int32)), .val (.int c0), .val (.int c1), .val (.int c2), .val (.ref a87), .val (.ref b88), .val (.int (p6 &&& (3 : Int32))), .val (.int c1), .unset] [(.int (1 : Int32)), (.int (0 : Int32))])
        refine OwnGoW.st (fun _ kk => XS.icmpYes X89.here hx rfl (pc0 := 177) (pc' := 187) rfl (hb hby at_177) rfl (tlt ((by decide) : (0 : Int32) < (1 : Int32))).1 (by decide) (by decide) kk) ?_
        show OwnGoW p e below s Z own_EL _ _ _ T89 (mkF m 187 #[.val (.int p1), .val (.int p2), .val (.int p3), .val (.int p4), .val (.int p5), .val (.int p6), .val (.int (0 : Int32)), .val (.int c0), .val (.int c1), .val (.int c2), .val (.ref a87), .val (.ref b88), .val (.int (p6 &&& (3 : Int32))), .val (.int c1), .unset] [])
        refine OwnGoW.st (fun _ kk => XS.iload X89.here hx rfl (hb hby at_187) rfl  kk) ?_
        show OwnGoW p e below s Z own_EL _ _ _ T89 (mkF m 189 #[.val (.int p1), .val (.int p2), .val (.int p3), .val (.int p4), .val (.int p5), .val (.int p6), .val (.int (0 : Int32)), .val (.int c0), .val (.int c1), .val (.int c2), .val (.ref a87), .val (.ref b88), .val (.int (p6 &&& (3 : Int32))), .val (.int c1), .unset] [(.int (0 : Int32))])
        refine OwnGoW.st (fun _ kk => XS.iconst X89.here hx rfl (hb hby at_189) kk) ?_
        show OwnGoW p e below s Z own_EL _ _ _ T89 (mkF m 190 #[.val (.int p1), .val (.int p2), .val (.int p3), .val (.int p4), .val (.int p5), .val (.int p6), .val (.int (0 : Int32)), .val (.int c0), .val (.int c1), .val (.int c2), .val (.ref a87), .val (.ref b88), .val (.int (p6 &&& (3 : Int32))), .val (.int c1), .unset] [(.int (2 : Int32)), (.int (0 : Int32))])
        refine OwnGoW.st (fun _ kk => XS.icmpYes X89.here hx rfl (pc0 := 190) (pc' := 200) rfl (hb hby at_190) rfl (tlt ((by decide) : (0 : Int32) < (2 : Int32))).1 (by decide) (by decide) kk) ?_
        show OwnGoW p e below s Z own_EL _ _ _ T89 (mkF m 200 #[.val (.int p1), .val (.int p2), .val (.int p3), .val (.int p4), .val (.int p5), .val (.int p6), .val (.int (0 : Int32)), .val (.int c0), .val (.int c1), .val (.int c2), .val (.ref a87), .val (.ref b88), .val (.int (p6 &&& (3 : Int32))), .val (.int c1), .unset] [])
        refine OwnGoW.st (fun _ kk => XS.iload X89.here hx rfl (hb hby at_200) rfl  kk) ?_
        show OwnGoW p e below s Z own_EL _ _ _ T89 (mkF m 202 #[.val (.int p1), .val (.int p2), .val (.int p3), .val (.int p4), .val (.int p5), .val (.int p6), .val (.int (0 : Int32)), .val (.int c0), .val (.int c1), .val (.int c2), .val (.ref a87), .val (.ref b88), .val (.int (p6 &&& (3 : Int32))), .val (.int c1), .unset] [(.int (0 : Int32))])
        refine OwnGoW.st (fun _ kk => XS.iconst X89.here hx rfl (hb hby at_202) kk) ?_
        show OwnGoW p e below s Z own_EL _ _ _ T89 (mkF m 203 #[.val (.int p1), .val (.int p2), .val (.int p3), .val (.int p4), .val (.int p5), .val (.int p6), .val (.int (0 : Int32)), .val (.int c0), .val (.int c1), .val (.int c2), .val (.ref a87), .val (.ref b88), .val (.int (p6 &&& (3 : Int32))), .val (.int c1), .unset] [(.int (3 : Int32)), (.int (0 : Int32))])
        refine OwnGoW.st (fun _ kk => XS.icmpYes X89.here hx rfl (pc0 := 203) (pc' := 217) rfl (hb hby at_203) rfl (tlt ((by decide) : (0 : Int32) < (3 : Int32))).1 (by decide) (by decide) kk) ?_
        show OwnGoW p e below s Z own_EL _ _ _ T89 (mkF m 217 #[.val (.int p1), .val (.int p2), .val (.int p3), .val (.int p4), .val (.int p5), .val (.int p6), .val (.int (0 : Int32)), .val (.int c0), .val (.int c1), .val (.int c2), .val (.ref a87), .val (.ref b88), .val (.int (p6 &&& (3 : Int32))), .val (.int c1), .unset] [])
        refine OwnGoW.st (fun _ kk => XS.iconst X89.here hx rfl (hb hby at_217) kk) ?_
        show OwnGoW p e below s Z own_EL _ _ _ T89 (mkF m 218 #[.val (.int p1), .val (.int p2), .val (.int p3), .val (.int p4), .val (.int p5), .val (.int p6), .val (.int (0 : Int32)), .val (.int c0), .val (.int c1), .val (.int c2), .val (.ref a87), .val (.ref b88), .val (.int (p6 &&& (3 : Int32))), .val (.int c1), .unset] [(.int (0 : Int32))])
        refine OwnGoW.st (fun _ kk => XS.istore X89.here hx rfl (hb hby at_218) rfl (l' := #[.val (.int p1), .val (.int p2), .val (.int p3), .val (.int p4), .val (.int p5), .val (.int p6), .val (.int (0 : Int32)), .val (.int c0), .val (.int c1), .val (.int c2), .val (.ref a87), .val (.ref b88), .val (.int (p6 &&& (3 : Int32))), .val (.int c1), .val (.int (0 : Int32))]) rfl kk) ?_
        show OwnGoW p e below s Z own_EL _ _ _ T89 (mkF m 220 #[.val (.int p1), .val (.int p2), .val (.int p3), .val (.int p4), .val (.int p5), .val (.int p6), .val (.int (0 : Int32)), .val (.int c0), .val (.int c1), .val (.int c2), .val (.ref a87), .val (.ref b88), .val (.int (p6 &&& (3 : Int32))), .val (.int c1), .val (.int (0 : Int32))] [])
        refine OwnGoW.st (fun _ kk => XS.aload X89.here hx rfl (hb hby at_220) rfl rfl  kk) ?_
        show OwnGoW p e below s Z own_EL _ _ _ T89 (mkF m 222 #[.val (.int p1), .val (.int p2), .val (.int p3), .val (.int p4), .val (.int p5), .val (.int p6), .val (.int (0 : Int32)), .val (.int c0), .val (.int c1), .val (.int c2), .val (.ref a87), .val (.ref b88), .val (.int (p6 &&& (3 : Int32))), .val (.int c1), .val (.int (0 : Int32))] [(.ref b88)])
        refine OwnGoW.st (fun _ kk => XS.iload X89.here hx rfl (hb hby at_222) rfl  kk) ?_
        show OwnGoW p e below s Z own_EL _ _ _ T89 (mkF m 224 #[.val (.int p1), .val (.int p2), .val (.int p3), .val (.int p4), .val (.int p5), .val (.int p6), .val (.int (0 : Int32)), .val (.int c0), .val (.int c1), .val (.int c2), .val (.ref a87), .val (.ref b88), .val (.int (p6 &&& (3 : Int32))), .val (.int c1), .val (.int (0 : Int32))] [(.int c1), (.ref b88)])
        by_cases hlt_ : c1 < (128 : Int32)
        · obtain ⟨cq92, kq92, q92a, q92b, q92c⟩ := isOf hZ rfl E_b88
          obtain ⟨_, _, ⟨T92, L92, k92, n92⟩, -, X92, ⟨Lc92, hQ92, l92, y92, z92⟩, st92⟩ := X89.virtualBack hx (y := (⟨"io/quintet/Alphabet", "contains", "(C)Z"⟩ : MethodName)) (z := (⟨"io/quintet/Alphabet", "contains", "(C)Z"⟩ : MethodName)) hown (mvT hZ (hw _ (List.mem_of_getElem? (i := 40) rfl))) (mvT hZ (hw _ (List.mem_of_getElem? (i := 41) rfl))) (notFace_of_selects (args := #[]) (mvT hZ (hw _ (List.mem_of_getElem? (i := 43) rfl)))) (mvT hZ (hw _ (List.mem_of_getElem? (i := 43) rfl))) (mvT hZ (hw _ (List.mem_of_getElem? (i := 42) rfl))) (by decide) (backOf (W := 0) (rmconN l Z a0 hw [] b88 b89 (own_tab []) c1 T89.heap n0 Z_ Fb89 G89 P_c1.1 hlt_ (own_tabN P_c1.1 own_nil)) hZ (hw _ (List.mem_of_getElem? (i := 44) rfl)) (hw _ (List.mem_of_getElem? (i := 10) rfl)) (by decide) (by decide)) q92a q92c (g := (mkF m 224 #[.val (.int p1), .val (.int p2), .val (.int p3), .val (.int p4), .val (.int p5), .val (.int p6), .val (.int (0 : Int32)), .val (.int c0), .val (.int c1), .val (.int c2), .val (.ref a87), .val (.ref b88), .val (.int (p6 &&& (3 : Int32))), .val (.int c1), .val (.int (0 : Int32))] [(.int c1), (.ref b88)])) rfl (by rw [hml]; rfl) (Steps.refl _) (argsL := [(.int c1)]) (rest := []) (lenOf pd_5 rfl) rfl (by show 2 * 0 + _ ≤ _; exact Nat.le_of_eq rfl) (hb hby at_224) (fun _ _ => ⟨rfl, rfl, (by decide : 4 + 0 ≤ _), (by decide : 135 + 0 ≤ _)⟩)
          dsimp only [Pt.U, Pt.locs, Pt.cells, Pt.slots] at X92 l92 y92 z92 st92 hQ92
          subst l92 y92 z92
          obtain ⟨rfl, N92q, e92⟩ := hQ92
          have N92 := Fr.app N89 N92q
          refine OwnGoW.st (fun _ kk => st92.trans kk) ?_
          show OwnGoW p e below s Z own_EL _ _ _ T92 (mkF m 227 #[.val (.int p1), .val (.int p2), .val (.int p3), .val (.int p4), .val (.int p5), .val (.int p6), .val (.int (0 : Int32)), .val (.int c0), .val (.int c1), .val (.int c2), .val (.ref a87), .val (.ref b88), .val (.int (p6 &&& (3 : Int32))), .val (.int c1), .val (.int (0 : Int32))] [(.int (0 : Int32))])
          refine OwnGoW.st (fun _ kk => XS.iload X92.here hx rfl (hb hby at_227) rfl  kk) ?_
          show OwnGoW p e below s Z own_EL _ _ _ T92 (mkF m 229 #[.val (.int p1), .val (.int p2), .val (.int p3), .val (.int p4), .val (.int p5), .val (.int p6), .val (.int (0 : Int32)), .val (.int c0), .val (.int c1), .val (.int c2), .val (.ref a87), .val (.ref b88), .val (.int (p6 &&& (3 : Int32))), .val (.int c1), .val (.int (0 : Int32))] [(.int (0 : Int32)), (.int (0 : Int32))])
          refine OwnGoW.st (fun _ kk => XS.icmpNo X92.here hx rfl (hb hby at_229) rfl (teq ((by decide) : (0 : Int32) = (0 : Int32))).2 kk) ?_
          show OwnGoW p e below s Z own_EL _ _ _ T92 (mkF m 232 #[.val (.int p1), .val (.int p2), .val (.int p3), .val (.int p4), .val (.int p5), .val (.int p6), .val (.int (0 : Int32)), .val (.int c0), .val (.int c1), .val (.int c2), .val (.ref a87), .val (.ref b88), .val (.int (p6 &&& (3 : Int32))), .val (.int c1), .val (.int (0 : Int32))] [])
          refine OwnGoW.st (fun _ kk => XS.iconst X92.here hx rfl (hb hby at_232) kk) ?_
          show OwnGoW p e below s Z own_EL _ _ _ T92 (mkF m 233 #[.val (.int p1), .val (.int p2), .val (.int p3), .val (.int p4), .val (.int p5), .val (.int p6), .val (.int (0 : Int32)), .val (.int c0), .val (.int c1), .val (.int c2), .val (.ref a87), .val (.ref b88), .val (.int (p6 &&& (3 : Int32))), .val (.int c1), .val (.int (0 : Int32))] [(.int (1 : Int32))])
          refine OwnGoW.st (fun _ kk => XS.goto X92.here hx rfl (pc0 := 233) (pc' := 237) rfl (hb hby at_233) (by decide) (by decide) kk) ?_
          show OwnGoW p e below s Z own_EL _ _ _ T92 (mkF m 237 #[.val (.int p1), .val (.int p2), .val (.int p3), .val (.int p4), .val (.int p5), .val (.int p6), .val (.int (0 : Int32)), .val (.int c0), .val (.int c1), .val (.int c2), .val (.ref a87), .val (.ref b88), .val (.int (p6 &&& (3 : Int32))), .val (.int c1), .val (.int (0 : Int32))] [(.int (1 : Int32))])
          exact OwnGoW.retN (s := s) (vm0 := T87.vm) X92 hS_ hk_ e92 hZ (own_hEL hw) CR hx (t := .boolean) hret hlk (by simp) (hb hby at_237) (by show Q0 Z p1 p2 p3 p4 p5 p6 zc fmv h0 n0 _ T92.heap _; rw [e92]; exact ⟨rfl, N92⟩) (by decide) (by decide)
        · obtain ⟨cq93, kq93, q93a, q93b, q93c⟩ := isOf hZ rfl E_b88
          obtain ⟨_, _, ⟨T93, L93, k93, n93⟩, -, X93, ⟨Lc93, hQ93, l93, y93, z93⟩, st93⟩ := X89.virtualBack hx (y := (⟨"io/quintet/Alphabet", "contains", "(C)Z"⟩ : MethodName)) (z := (⟨"io/quintet/Alphabet", "contains", "(C)Z"⟩ : MethodName)) hown (mvT hZ (hw _ (List.mem_of_getElem? (i := 40) rfl))) (mvT hZ (hw _ (List.mem_of_getElem? (i := 41) rfl))) (notFace_of_selects (args := #[]) (mvT hZ (hw _ (List.mem_of_getElem? (i := 43) rfl)))) (mvT hZ (hw _ (List.mem_of_getElem? (i := 43) rfl))) (mvT hZ (hw _ (List.mem_of_getElem? (i := 42) rfl))) (by decide) (backOf (W := 0) (rmconB l Z a0 hw [] b88 b89 (own_tab []) c1 T89.heap n0 Z_ Fb89 G89 P_c1.1 hlt_) hZ (hw _ (List.mem_of_getElem? (i := 44) rfl)) (hw _ (List.mem_of_getElem? (i := 10) rfl)) (by decide) (by decide)) q93a q93c (g := (mkF m 224 #[.val (.int p1), .val (.int p2), .val (.int p3), .val (.int p4), .val (.int p5), .val (.int p6), .val (.int (0 : Int32)), .val (.int c0), .val (.int c1), .val (.int c2), .val (.ref a87), .val (.ref b88), .val (.int (p6 &&& (3 : Int32))), .val (.int c1), .val (.int (0 : Int32))] [(.int c1), (.ref b88)])) rfl (by rw [hml]; rfl) (Steps.refl _) (argsL := [(.int c1)]) (rest := []) (lenOf pd_5 rfl) rfl (by show 2 * 0 + _ ≤ _; exact Nat.le_of_eq rfl) (hb hby at_224) (fun _ _ => ⟨rfl, rfl, (by decide : 4 + 0 ≤ _), (by decide : 135 + 0 ≤ _)⟩)
          dsimp only [Pt.U, Pt.locs, Pt.cells, Pt.slots] at X93 l93 y93 z93 st93 hQ93
          subst l93 y93 z93
          obtain ⟨rfl, N93q, e93⟩ := hQ93
          have N93 := Fr.app N89 N93q
          refine OwnGoW.st (fun _ kk => st93.trans kk) ?_
          show OwnGoW p e below s Z own_EL _ _ _ T93 (mkF m 227 #[.val (.int p1), .val (.int p2), .val (.int p3), .val (.int p4), .val (.int p5), .val (.int p6), .val (.int (0 : Int32)), .val (.int c0), .val (.int c1), .val (.int c2), .val (.ref a87), .val (.ref b88), .val (.int (p6 &&& (3 : Int32))), .val (.int c1), .val (.int (0 : Int32))] [(.int (0 : Int32))])
          refine OwnGoW.st (fun _ kk => XS.iload X93.here hx rfl (hb hby at_227) rfl  kk) ?_
          show OwnGoW p e below s Z own_EL _ _ _ T93 (mkF m 229 #[.val (.int p1), .val (.int p2), .val (.int p3), .val (.int p4), .val (.int p5), .val (.int p6), .val (.int (0 : Int32)), .val (.int c0), .val (.int c1), .val (.int c2), .val (.ref a87), .val (.ref b88), .val (.int (p6 &&& (3 : Int32))), .val (.int c1), .val (.int (0 : Int32))] [(.int (0 : Int32)), (.int (0 : Int32))])
          refine OwnGoW.st (fun _ kk => XS.icmpNo X93.here hx rfl (hb hby at_229) rfl (teq ((by decide) : (0 : Int32) = (0 : Int32))).2 kk) ?_
          show OwnGoW p e below s Z own_EL _ _ _ T93 (mkF m 232 #[.val (.int p1), .val (.int p2), .val (.int p3), .val (.int p4), .val (.int p5), .val (.int p6), .val (.int (0 : Int32)), .val (.int c0), .val (.int c1), .val (.int c2), .val (.ref a87), .val (.ref b88), .val (.int (p6 &&& (3 : Int32))), .val (.int c1), .val (.int (0 : Int32))] [])
          refine OwnGoW.st (fun _ kk => XS.iconst X93.here hx rfl (hb hby at_232) kk) ?_
          show OwnGoW p e below s Z own_EL _ _ _ T93 (mkF m 233 #[.val (.int p1), .val (.int p2), .val (.int p3), .val (.int p4), .val (.int p5), .val (.int p6), .val (.int (0 : Int32)), .val (.int c0), .val (.int c1), .val (.int c2), .val (.ref a87), .val (.ref b88), .val (.int (p6 &&& (3 : Int32))), .val (.int c1), .val (.int (0 : Int32))] [(.int (1 : Int32))])
          refine OwnGoW.st (fun _ kk => XS.goto X93.here hx rfl (pc0 := 233) (pc' := 237) rfl (hb hby at_233) (by decide) (by decide) kk) ?_
          show OwnGoW p e below s Z own_EL _ _ _ T93 (mkF m 237 #[.val (.int p1), .val (.int p2), .val (.int p3), .val (.int p4), .val (.int p5), .val (.int p6), .val (.int (0 : Int32)), .val (.int c0), .val (.int c1), .val (.int c2), .val (.ref a87), .val (.ref b88), .val (.int (p6 &&& (3 : Int32))), .val (.int c1), .val (.int (0 : Int32))] [(.int (1 : Int32))])
          exact OwnGoW.retN (s := s) (vm0 := T87.vm) X93 hS_ hk_ e93 hZ (own_hEL hw) CR hx (t := .boolean) hret hlk (by simp) (hb hby at_237) (by show Q0 Z p1 p2 p3 p4 p5 p6 zc fmv h0 n0 _ T93.heap _; rw [e93]; exact ⟨rfl, N93⟩) (by decide) (by decide)
      · refine OwnGoW.st (fun _ kk => XS.icmpYes X89.here hx rfl (pc0 := 146) (pc' := 156) rfl (hb hby at_146) rfl (feq (hm2 : ¬ ((p6 &&& (3 : Int32)) = (2 : Int32)))).2 (by decide) (by decide) kk) ?_
        show OwnGoW p e below s Z own_EL _ _ _ T89 (mkF m 156 #[.val (.int p1), .val (.int p2), .val (.int p3), .val (.int p4), .val (.int p5), .val (.int p6), .val (.int (0 : Int32)), .val (.int c0), .val (.int c1), .val (.int c2), .val (.ref a87), .val (.ref b88), .val (.int (p6 &&& (3 : Int32))), .unset, .unset] [])
        refine OwnGoW.st (fun _ kk => XS.iload X89.here hx rfl (hb hby at_156) rfl  kk) ?_
        show OwnGoW p e below s Z own_EL _ _ _ T89 (mkF m 158 #[.val (.int p1), .val (.int p2), .val (.int p3), .val (.int p4), .val (.int p5), .val (.int p6), .val (.int (0 : Int32)), .val (.int c0), .val (.int c1), .val (.int c2), .val (.ref a87), .val (.ref b88), .val (.int (p6 &&& (3 : Int32))), .unset, .unset] [(.int (p6 &&& (3 : Int32)))])
        refine OwnGoW.st (fun _ kk => XS.iconst X89.here hx rfl (hb hby at_158) kk) ?_
        show OwnGoW p e below s Z own_EL _ _ _ T89 (mkF m 159 #[.val (.int p1), .val (.int p2), .val (.int p3), .val (.int p4), .val (.int p5), .val (.int p6), .val (.int (0 : Int32)), .val (.int c0), .val (.int c1), .val (.int c2), .val (.ref a87), .val (.ref b88), .val (.int (p6 &&& (3 : Int32))), .unset, .unset] [(.int (3 : Int32)), (.int (p6 &&& (3 : Int32)))])
        by_cases hm3 : (p6 &&& (3 : Int32)) = (3 : Int32)
        · refine OwnGoW.st (fun _ kk => XS.icmpNo X89.here hx rfl (hb hby at_159) rfl (teq (hm3 : (p6 &&& (3 : Int32)) = (3 : Int32))).2 kk) ?_
          show OwnGoW p e below s Z own_EL _ _ _ T89 (mkF m 162 #[.val (.int p1), .val (.int p2), .val (.int p3), .val (.int p4), .val (.int p5), .val (.int p6), .val (.int (0 : Int32)), .val (.int c0), .val (.int c1), .val (.int c2), .val (.ref a87), .val (.ref b88), .val (.int (p6 &&& (3 : Int32))), .unset, .unset] [])
          refine OwnGoW.st (fun _ kk => XS.iload X89.here hx rfl (hb hby at_162) rfl  kk) ?_
          show OwnGoW p e below s Z own_EL _ _ _ T89 (mkF m 164 #[.val (.int p1), .val (.int p2), .val (.int p3), .val (.int p4), .val (.int p5), .val (.int p6), .val (.int (0 : Int32)), .val (.int c0), .val (.int c1), .val (.int c2), .val (.ref a87), .val (.ref b88), .val (.int (p6 &&& (3 : Int32))), .unset, .unset] [(.int c2)])
          refine OwnGoW.st (fun _ kk => XS.istore X89.here hx rfl (hb hby at_164) rfl (l' := #[.val (.int p1), .val (.int p2), .val (.int p3), .val (.int p4), .val (.int p5), .val (.int p6), .val (.int (0 : Int32)), .val (.int c0), .val (.int c1), .val (.int c2), .val (.ref a87), .val (.ref b88), .val (.int (p6 &&& (3 : Int32))), .val (.int c2), .unset]) rfl kk) ?_
          show OwnGoW p e below s Z own_EL _ _ _ T89 (mkF m 166 #[.val (.int p1), .val (.int p2), .val (.int p3), .val (.int p4), .val (.int p5), .val (.int p6), .val (.int (0 : Int32)), .val (.int c0), .val (.int c1), .val (.int c2), .val (.ref a87), .val (.ref b88), .val (.int (p6 &&& (3 : Int32))), .val (.int c2), .unset] [])
          refine OwnGoW.st (fun _ kk => XS.goto X89.here hx rfl (pc0 := 166) (pc' := 174) rfl (hb hby at_166) (by decide) (by decide) kk) ?_
          show OwnGoW p e below s Z own_EL _ _ _ T89 (mkF m 174 #[.val (.int p1), .val (.int p2), .val (.int p3), .val (.int p4), .val (.int p5), .val (.int p6), .val (.int (0 : Int32)), .val (.int c0), .val (.int c1), .val (.int c2), .val (.ref a87), .val (.ref b88), .val (.int (p6 &&& (3 : Int32))), .val (.int c2), .unset] [])
          refine OwnGoW.st (fun _ kk => XS.iload X89.here hx rfl (hb hby at_174) rfl  kk) ?_
          show OwnGoW p e below s Z own_EL _ _ _ T89 (mkF m 176 #[.val (.int p1), .val (.int p2), .val (.int p3), .val (.int p4), .val (.int p5), .val (.int p6), .val (.int (0 : Int32)), .val (.int c0), .val (.int c1), .val (.int c2), .val (.ref a87), .val (.ref b88), .val (.int (p6 &&& (3 : Int32))), .val (.int c2), .unset] [(.int (0 : Int32))])
          refine OwnGoW.st (fun _ kk => XS.iconst X89.here hx rfl (hb hby at_176) kk) ?_
          show OwnGoW p e below s Z own_EL _ _ _ T89 (mkF m 177 #[.val (.int p1), .val (.int p2), .val (.int p3), .val (.int p4), .val (.int p5), .val (.int p6), .val (.int (0 : Int32)), .val (.int c0), .val (.int c1), .val (.int c2), .val (.ref a87), .val (.ref b88), .val (.int (p6 &&& (3 : Int32))), .val (.int c2), .unset] [(.int (1 : Int32)), (.int (0 : Int32))])
          refine OwnGoW.st (fun _ kk => XS.icmpYes X89.here hx rfl (pc0 := 177) (pc' := 187) rfl (hb hby at_177) rfl (tlt ((by decide) : (0 : Int32) < (1 : Int32))).1 (by decide) (by decide) kk) ?_
          show OwnGoW p e below s Z own_EL _ _ _ T89 (mkF m 187 #[.val (.int p1), .val (.int p2), .val (.int p3), .val (.int p4), .val (.int p5), .val (.int p6), .val (.int (0 : Int32)), .val (.int c0), .val (.int c1), .val (.int c2), .val (.ref a87), .val (.ref b88), .val (.int (p6 &&& (3 : Int32))), .val (.int c2), .unset] [])
          refine OwnGoW.st (fun _ kk => XS.iload X89.here hx rfl (hb hby at_187) rfl  kk) ?_
          show OwnGoW p e below s Z own_EL _ _ _ T89 (mkF m 189 #[.val (.int p1), .val (.int p2), .val (.int p3), .val (.int p4), .val (.int p5), .val (.int p6), .val (.int (0 : Int32)), .val (.int c0), .val (.int c1), .val (.int c2), .val (.ref a87), .val (.ref b88), .val (.int (p6 &&& (3 : Int32))), .val (.int c2), .unset] [(.int (0 : Int32))])
          refine OwnGoW.st (fun _ kk => XS.iconst X89.here hx rfl (hb hby at_189) kk) ?_
          show OwnGoW p e below s Z own_EL _ _ _ T89 (mkF m 190 #[.val (.int p1), .val (.int p2), .val (.int p3), .val (.int p4), .val (.int p5), .val (.int p6), .val (.int (0 : Int32)), .val (.int c0), .val (.int c1), .val (.int c2), .val (.ref a87), .val (.ref b88), .val (.int (p6 &&& (3 : Int32))), .val (.int c2), .unset] [(.int (2 : Int32)), (.int (0 : Int32))])
          refine OwnGoW.st (fun _ kk => XS.icmpYes X89.here hx rfl (pc0 := 190) (pc' := 200) rfl (hb hby at_190) rfl (tlt ((by decide) : (0 : Int32) < (2 : Int32))).1 (by decide) (by decide) kk) ?_
          show OwnGoW p e below s Z own_EL _ _ _ T89 (mkF m 200 #[.val (.int p1), .val (.int p2), .val (.int p3), .val (.int p4), .val (.int p5), .val (.int p6), .val (.int (0 : Int32)), .val (.int c0), .val (.int c1), .val (.int c2), .val (.ref a87), .val (.ref b88), .val (.int (p6 &&& (3 : Int32))), .val (.int c2), .unset] [])
          refine OwnGoW.st (fun _ kk => XS.iload X89.here hx rfl (hb hby at_200) rfl  kk) ?_
          show OwnGoW p e below s Z own_EL _ _ _ T89 (mkF m 202 #[.val (.int p1), .val (.int p2), .val (.int p3), .val (.int p4), .val (.int p5), .val (.int p6), .val (.int (0 : Int32)), .val (.int c0), .val (.int c1), .val (.int c2), .val (.ref a87), .val (.ref b88), .val (.int (p6 &&& (3 : Int32))), .val (.int c2), .unset] [(.int (0 : Int32))])
          refine OwnGoW.st (fun _ kk => XS.iconst X89.here hx rfl (hb hby at_202) kk) ?_
          show OwnGoW p e below s Z own_EL _ _ _ T89 (mkF m 203 #[.val (.int p1), .val (.int p2), .val (.int p3), .val (.int p4), .val (.int p5), .val (.int p6), .val (.int (0 : Int32)), .val (.int c0), .val (.int c1), .val (.int c2), .val (.ref a87), .val (.ref b88), .val (.int (p6 &&& (3 : Int32))), .val (.int c2), .unset] [(.int (3 : Int32)), (.int (0 : Int32))])
          refine OwnGoW.st (fun _ kk => XS.icmpYes X89.here hx rfl (pc0 := 203) (pc' := 217) rfl (hb hby at_203) rfl (tlt ((by decide) : (0 : Int32) < (3 : Int32))).1 (by decide) (by decide) kk) ?_
          show OwnGoW p e below s Z own_EL _ _ _ T89 (mkF m 217 #[.val (.int p1), .val (.int p2), .val (.int p3), .val (.int p4), .val (.int p5), .val (.int p6), .val (.int (0 : Int32)), .val (.int c0), .val (.int c1), .val (.int c2), .val (.ref a87), .val (.ref b88), .val (.int (p6 &&& (3 : Int32))), .val (.int c2), .unset] [])
          refine OwnGoW.st (fun _ kk => XS.iconst X89.here hx rfl (hb hby at_217) kk) ?_
          show OwnGoW p e below s Z own_EL _ _ _ T89 (mkF m 218 #[.val (.int p1), .val (.int p2), .val (.int p3), .val (.int p4), .val (.int p5), .val (.int p6), .val (.int (0 : Int32)), .val (.int c0), .val (.int c1), .val (.int c2), .val (.ref a87), .val (.ref b88), .val (.int (p6 &&& (3 : Int32))), .val (.int c2), .unset] [(.int (0 : Int32))])
          refine OwnGoW.st (fun _ kk => XS.istore X89.here hx rfl (hb hby at_218) rfl (l' := #[.val (.int p1), .val (.int p2), .val (.int p3), .val (.int p4), .val (.int p5), .val (.int p6), .val (.int (0 : Int32)), .val (.int c0), .val (.int c1), .val (.int c2), .val (.ref a87), .val (.ref b88), .val (.int (p6 &&& (3 : Int32))), .val (.int c2), .val (.int (0 : Int32))]) rfl kk) ?_
          show OwnGoW p e below s Z own_EL _ _ _ T89 (mkF m 220 #[.val (.int p1), .val (.int p2), .val (.int p3), .val (.int p4), .val (.int p5), .val (.int p6), .val (.int (0 : Int32)), .val (.int c0), .val (.int c1), .val (.int c2), .val (.ref a87), .val (.ref b88), .val (.int (p6 &&& (3 : Int32))), .val (.int c2), .val (.int (0 : Int32))] [])
          refine OwnGoW.st (fun _ kk => XS.aload X89.here hx rfl (hb hby at_220) rfl rfl  kk) ?_
          show OwnGoW p e below s Z own_EL _ _ _ T89 (mkF m 222 #[.val (.int p1), .val (.int p2), .val (.int p3), .val (.int p4), .val (.int p5), .val (.int p6), .val (.int (0 : Int32)), .val (.int c0), .val (.int c1), .val (.int c2), .val (.ref a87), .val (.ref b88), .val (.int (p6 &&& (3 : Int32))), .val (.int c2), .val (.int (0 : Int32))] [(.ref b88)])
          refine OwnGoW.st (fun _ kk => XS.iload X89.here hx rfl (hb hby at_222) rfl  kk) ?_
          show OwnGoW p e below s Z own_EL _ _ _ T89 (mkF m 224 #[.val (.int p1), .val (.int p2), .val (.int p3), .val (.int p4), .val (.int p5), .val (.int p6), .val (.int (0 : Int32)), .val (.int c0), .val (.int c1), .val (.int c2), .val (.ref a87), .val (.ref b88), .val (.int (p6 &&& (3 : Int32))), .val (.int c2), .val (.int (0 : Int32))] [(.int c2), (.ref b88)])
          by_cases hlt_ : c2 < (128 : Int32)
          · obtain ⟨cq94, kq94, q94a, q94b, q94c⟩ := isOf hZ rfl E_b88
            obtain ⟨_, _, ⟨T94, L94, k94, n94⟩, -, X94, ⟨Lc94, hQ94, l94, y94, z94⟩, st94⟩ := X89.virtualBack hx (y := (⟨"io/quintet/Alphabet", "contains", "(C)Z"⟩ : MethodName)) (z := (⟨"io/quintet/Alphabet", "contains", "(C)Z"⟩ : MethodName)) hown (mvT hZ (hw _ (List.mem_of_getElem? (i := 40) rfl))) (mvT hZ (hw _ (List.mem_of_getElem? (i := 41) rfl))) (notFace_of_selects (args := #[]) (mvT hZ (hw _ (List.mem_of_getElem? (i := 43) rfl)))) (mvT hZ (hw _ (List.mem_of_getElem? (i := 43) rfl))) (mvT hZ (hw _ (List.mem_of_getElem? (i := 42) rfl))) (by decide) (backOf (W := 0) (rmconN l Z a0 hw [] b88 b89 (own_tab []) c2 T89.heap n0 Z_ Fb89 G89 P_c2.1 hlt_ (own_tabN P_c2.1 own_nil)) hZ (hw _ (List.mem_of_getElem? (i := 44) rfl)) (hw _ (List.mem_of_getElem? (i := 10) rfl)) (by decide) (by decide)) q94a q94c (g := (mkF m 224 #[.val (.int p1), .val (.int p2), .val (.int p3), .val (.int p4), .val (.int p5), .val (.int p6), .val (.int (0 : Int32)), .val (.int c0), .val (.int c1), .val (.int c2), .val (.ref a87), .val (.ref b88), .val (.int (p6 &&& (3 : Int32))), .val (.int c2), .val (.int (0 : Int32))] [(.int c2), (.ref b88)])) rfl (by rw [hml]; rfl) (Steps.refl _) (argsL := [(.int c2)]) (rest := []) (lenOf pd_5 rfl) rfl (by show 2 * 0 + _ ≤ _; exact Nat.le_of_eq rfl) (hb hby at_224) (fun _ _ => ⟨rfl, rfl, (by decide : 4 + 0 ≤ _), (by decide : 135 + 0 ≤ _)⟩)
            dsimp only [Pt.U, Pt.locs, Pt.cells, Pt.slots] at X94 l94 y94 z94 st94 hQ94
            subst l94 y94 z94
            obtain ⟨rfl, N94q, e94⟩ := hQ94
            have N94 := Fr.app N89 N94q
            refine OwnGoW.st (fun _ kk => st94.trans kk) ?_
            show OwnGoW p e below s Z own_EL _ _ _ T94 (mkF m 227 #[.val (.int p1), .val (.int p2), .val (.int p3), .val (.int p4), .val (.int p5), .val (.int p6), .val (.int (0 : Int32)), .val (.int c0), .val (.int c1), .val (.int c2), .val (.ref a87), .val (.ref b88), .val (.int (p6 &&& (3 : Int32))), .val (.int c2), .val (.int (0 : Int32))] [(.int (0 : Int32))])
            refine OwnGoW.st (fun _ kk => XS.iload X94.here hx rfl (hb hby at_227) rfl  kk) ?_
            show OwnGoW p e below s Z own_EL _ _ _ T94 (mkF m 229 #[.val (.int p1), .val (.int p2), .val (.int p3), .val (.int p4), .val (.int p5), .val (.int p6), .val (.int (0 : Int32)), .val (.int c0), .val (.int c1), .val (.int c2), .val (.ref a87), .val (.ref b88), .val (.int (p6 &&& (3 : Int32))), .val (.int c2), .val (.int (0 : Int32))] [(.int (0 : Int32)), (.int (0 : Int32))])
            refine OwnGoW.st (fun _ kk => XS.icmpNo X94.here hx rfl (hb hby at_229) rfl (teq ((by decide) : (0 : Int32) = (0 : Int32))).2 kk) ?_
            show OwnGoW p e below s Z own_EL _ _ _ T94 (mkF m 232 #[.val (.int p1), .val (.int p2), .val (.int p3), .val (.int p4), .val (.int p5), .val (.int p6), .val (.int (0 : Int32)), .val (.int c0), .val (.int c1), .val (.int c2), .val (.ref a87), .val (.ref b88), .val (.int (p6 &&& (3 : Int32))), .val (.int c2), .val (.int (0 : Int32))] [])
            refine OwnGoW.st (fun _ kk => XS.iconst X94.here hx rfl (hb hby at_232) kk) ?_
            show OwnGoW p e below s Z own_EL _ _ _ T94 (mkF m 233 #[.val (.int p1), .val (.int p2), .val (.int p3), .val (.int p4), .val (.int p5), .val (.int p6), .val (.int (0 : Int32)), .val (.int c0), .val (.int c1), .val (.int c2), .val (.ref a87), .val (.ref b88), .val (.int (p6 &&& (3 : Int32))), .val (.int c2), .val (.int (0 : Int32))] [(.int (1 : Int32))])
            refine OwnGoW.st (fun _ kk => XS.goto X94.here hx rfl (pc0 := 233) (pc' := 237) rfl (hb hby at_233) (by decide) (by decide) kk) ?_
            show OwnGoW p e below s Z own_EL _ _ _ T94 (mkF m 237 #[.val (.int p1), .val (.int p2), .val (.int p3), .val (.int p4), .val (.int p5), .val (.int p6), .val (.int (0 : Int32)), .val (.int c0), .val (.int c1), .val (.int c2), .val (.ref a87), .val (.ref b88), .val (.int (p6 &&& (3 : Int32))), .val (.int c2), .val (.int (0 : Int32))] [(.int (1 : Int32))])
            exact OwnGoW.retN (s := s) (vm0 := T87.vm) X94 hS_ hk_ e94 hZ (own_hEL hw) CR hx (t := .boolean) hret hlk (by simp) (hb hby at_237) (by show Q0 Z p1 p2 p3 p4 p5 p6 zc fmv h0 n0 _ T94.heap _; rw [e94]; exact ⟨rfl, N94⟩) (by decide) (by decide)
          · obtain ⟨cq95, kq95, q95a, q95b, q95c⟩ := isOf hZ rfl E_b88
            obtain ⟨_, _, ⟨T95, L95, k95, n95⟩, -, X95, ⟨Lc95, hQ95, l95, y95, z95⟩, st95⟩ := X89.virtualBack hx (y := (⟨"io/quintet/Alphabet", "contains", "(C)Z"⟩ : MethodName)) (z := (⟨"io/quintet/Alphabet", "contains", "(C)Z"⟩ : MethodName)) hown (mvT hZ (hw _ (List.mem_of_getElem? (i := 40) rfl))) (mvT hZ (hw _ (List.mem_of_getElem? (i := 41) rfl))) (notFace_of_selects (args := #[]) (mvT hZ (hw _ (List.mem_of_getElem? (i := 43) rfl)))) (mvT hZ (hw _ (List.mem_of_getElem? (i := 43) rfl))) (mvT hZ (hw _ (List.mem_of_getElem? (i := 42) rfl))) (by decide) (backOf (W := 0) (rmconB l Z a0 hw [] b88 b89 (own_tab []) c2 T89.heap n0 Z_ Fb89 G89 P_c2.1 hlt_) hZ (hw _ (List.mem_of_getElem? (i := 44) rfl)) (hw _ (List.mem_of_getElem? (i := 10) rfl)) (by decide) (by decide)) q95a q95c (g := (mkF m 224 #[.val (.int p1), .val (.int p2), .val (.int p3), .val (.int p4), .val (.int p5), .val (.int p6), .val (.int (0 : Int32)), .val (.int c0), .val (.int c1), .val (.int c2), .val (.ref a87), .val (.ref b88), .val (.int (p6 &&& (3 : Int32))), .val (.int c2), .val (.int (0 : Int32))] [(.int c2), (.ref b88)])) rfl (by rw [hml]; rfl) (Steps.refl _) (argsL := [(.int c2)]) (rest := []) (lenOf pd_5 rfl) rfl (by show 2 * 0 + _ ≤ _; exact Nat.le_of_eq rfl) (hb hby at_224) (fun _ _ => ⟨rfl, rfl, (by decide : 4 + 0 ≤ _), (by decide : 135 + 0 ≤ _)⟩)
            dsimp only [Pt.U, Pt.locs, Pt.cells, Pt.slots] at X95 l95 y95 z95 st95 hQ95
            subst l95 y95 z95
            obtain ⟨rfl, N95q, e95⟩ := hQ95
            have N95 := Fr.app N89 N95q
            refine OwnGoW.st (fun _ kk => st95.trans kk) ?_
            show OwnGoW p e below s Z own_EL _ _ _ T95 (mkF m 227 #[.val (.int p1), .val (.int p2), .val (.int p3), .val (.int p4), .val (.int p5), .val (.int p6), .val (.int (0 : Int32)), .val (.int c0), .val (.int c1), .val (.int c2), .val (.ref a87), .val (.ref b88), .val (.int (p6 &&& (3 : Int32))), .val (.int c2), .val (.int (0 : Int32))] [(.int (0 : Int32))])
            refine OwnGoW.st (fun _ kk => XS.iload X95.here hx rfl (hb hby at_227) rfl  kk) ?_
            show OwnGoW p e below s Z own_EL _ _ _ T95 (mkF m 229 #[.val (.int p1), .val (.int p2), .val (.int p3), .val (.int p4), .val (.int p5), .val (.int p6), .val (.int (0 : Int32)), .val (.int c0), .val (.int c1), .val (.int c2), .val (.ref a87), .val (.ref b88), .val (.int (p6 &&& (3 : Int32))), .val (.int c2), .val (.int (0 : Int32))] [(.int (0 : Int32)), (.int (0 : Int32))])
            refine OwnGoW.st (fun _ kk => XS.icmpNo X95.here hx rfl (hb hby at_229) rfl (teq ((by decide) : (0 : Int32) = (0 : Int32))).2 kk) ?_
            show OwnGoW p e below s Z own_EL _ _ _ T95 (mkF m 232 #[.val (.int p1), .val (.int p2), .val (.int p3), .val (.int p4), .val (.int p5), .val (.int p6), .val (.int (0 : Int32)), .val (.int c0), .val (.int c1), .val (.int c2), .val (.ref a87), .val (.ref b88), .val (.int (p6 &&& (3 : Int32))), .val (.int c2), .val (.int (0 : Int32))] [])
            refine OwnGoW.st (fun _ kk => XS.iconst X95.here hx rfl (hb hby at_232) kk) ?_
            show OwnGoW p e below s Z own_EL _ _ _ T95 (mkF m 233 #[.val (.int p1), .val (.int p2), .val (.int p3), .val (.int p4), .val (.int p5), .val (.int p6), .val (.int (0 : Int32)), .val (.int c0), .val (.int c1), .val (.int c2), .val (.ref a87), .val (.ref b88), .val (.int (p6 &&& (3 : Int32))), .val (.int c2), .val (.int (0 : Int32))] [(.int (1 : Int32))])
            refine OwnGoW.st (fun _ kk => XS.goto X95.here hx rfl (pc0 := 233) (pc' := 237) rfl (hb hby at_233) (by decide) (by decide) kk) ?_
            show OwnGoW p e below s Z own_EL _ _ _ T95 (mkF m 237 #[.val (.int p1), .val (.int p2), .val (.int p3), .val (.int p4), .val (.int p5), .val (.int p6), .val (.int (0 : Int32)), .val (.int c0), .val (.int c1), .val (.int c2), .val (.ref a87), .val (.ref b88), .val (.int (p6 &&& (3 : Int32))), .val (.int c2), .val (.int (0 : Int32))] [(.int (1 : Int32))])
            exact OwnGoW.retN (s := s) (vm0 := T87.vm) X95 hS_ hk_ e95 hZ (own_hEL hw) CR hx (t := .boolean) hret hlk (by simp) (hb hby at_237) (by show Q0 Z p1 p2 p3 p4 p5 p6 zc fmv h0 n0 _ T95.heap _; rw [e95]; exact ⟨rfl, N95⟩) (by decide) (by decide)
        · refine OwnGoW.st (fun _ kk => XS.icmpYes X89.here hx rfl (pc0 := 159) (pc' := 169) rfl (hb hby at_159) rfl (feq (hm3 : ¬ ((p6 &&& (3 : Int32)) = (3 : Int32)))).2 (by decide) (by decide) kk) ?_
          show OwnGoW p e below s Z own_EL _ _ _ T89 (mkF m 169 #[.val (.int p1), .val (.int p2), .val (.int p3), .val (.int p4), .val (.int p5), .val (.int p6), .val (.int (0 : Int32)), .val (.int c0), .val (.int c1), .val (.int c2), .val (.ref a87), .val (.ref b88), .val (.int (p6 &&& (3 : Int32))), .unset, .unset] [])
          refine OwnGoW.st (fun _ kk => XS.iload X89.here hx rfl (hb hby at_169) rfl  kk) ?_
          show OwnGoW p e below s Z own_EL _ _ _ T89 (mkF m 171 #[.val (.int p1), .val (.int p2), .val (.int p3), .val (.int p4), .val (.int p5), .val (.int p6), .val (.int (0 : Int32)), .val (.int c0), .val (.int c1), .val (.int c2), .val (.ref a87), .val (.ref b88), .val (.int (p6 &&& (3 : Int32))), .unset, .unset] [(.int p5)])
          refine OwnGoW.st (fun _ kk => XS.i2c X89.here hx rfl (hb hby at_171) rfl kk) ?_
          show OwnGoW p e below s Z own_EL _ _ _ T89 (mkF m 172 #[.val (.int p1), .val (.int p2), .val (.int p3), .val (.int p4), .val (.int p5), .val (.int p6), .val (.int (0 : Int32)), .val (.int c0), .val (.int c1), .val (.int c2), .val (.ref a87), .val (.ref b88), .val (.int (p6 &&& (3 : Int32))), .unset, .unset] [(.int (p5.toUInt32.toUInt16.toUInt32.toInt32))])
          obtain ⟨c4, hc4⟩ : ∃ z : Int32, z = (p5.toUInt32.toUInt16.toUInt32.toInt32) := ⟨_, rfl⟩
          rw [← hc4]
          show OwnGoW p e below s Z own_EL _ _ _ T89 (mkF m 172 #[.val (.int p1), .val (.int p2), .val (.int p3), .val (.int p4), .val (.int p5), .val (.int p6), .val (.int (0 : Int32)), .val (.int c0), .val (.int c1), .val (.int c2), .val (.ref a87), .val (.ref b88), .val (.int (p6 &&& (3 : Int32))), .unset, .unset] [(.int c4)])
          have hp0 : ¬ c4 < (0 : Int32) := hc4 ▸ own_c0 _
          refine OwnGoW.st (fun _ kk => XS.istore X89.here hx rfl (hb hby at_172) rfl (l' := #[.val (.int p1), .val (.int p2), .val (.int p3), .val (.int p4), .val (.int p5), .val (.int p6), .val (.int (0 : Int32)), .val (.int c0), .val (.int c1), .val (.int c2), .val (.ref a87), .val (.ref b88), .val (.int (p6 &&& (3 : Int32))), .val (.int c4), .unset]) rfl kk) ?_
          show OwnGoW p e below s Z own_EL _ _ _ T89 (mkF m 174 #[.val (.int p1), .val (.int p2), .val (.int p3), .val (.int p4), .val (.int p5), .val (.int p6), .val (.int (0 : Int32)), .val (.int c0), .val (.int c1), .val (.int c2), .val (.ref a87), .val (.ref b88), .val (.int (p6 &&& (3 : Int32))), .val (.int c4), .unset] [])
          refine OwnGoW.st (fun _ kk => XS.iload X89.here hx rfl (hb hby at_174) rfl  kk) ?_
          show OwnGoW p e below s Z own_EL _ _ _ T89 (mkF m 176 #[.val (.int p1), .val (.int p2), .val (.int p3), .val (.int p4), .val (.int p5), .val (.int p6), .val (.int (0 : Int32)), .val (.int c0), .val (.int c1), .val (.int c2), .val (.ref a87), .val (.ref b88), .val (.int (p6 &&& (3 : Int32))), .val (.int c4), .unset] [(.int (0 : Int32))])
          refine OwnGoW.st (fun _ kk => XS.iconst X89.here hx rfl (hb hby at_176) kk) ?_
          show OwnGoW p e below s Z own_EL _ _ _ T89 (mkF m 177 #[.val (.int p1), .val (.int p2), .val (.int p3), .val (.int p4), .val (.int p5), .val (.int p6), .val (.int (0 : Int32)), .val (.int c0), .val (.int c1), .val (.int c2), .val (.ref a87), .val (.ref b88), .val (.int (p6 &&& (3 : Int32))), .val (.int c4), .unset] [(.int (1 : Int32)), (.int (0 : Int32))])
          refine OwnGoW.st (fun _ kk => XS.icmpYes X89.here hx rfl (pc0 := 177) (pc' := 187) rfl (hb hby at_177) rfl (tlt ((by decide) : (0 : Int32) < (1 : Int32))).1 (by decide) (by decide) kk) ?_
          show OwnGoW p e below s Z own_EL _ _ _ T89 (mkF m 187 #[.val (.int p1), .val (.int p2), .val (.int p3), .val (.int p4), .val (.int p5), .val (.int p6), .val (.int (0 : Int32)), .val (.int c0), .val (.int c1), .val (.int c2), .val (.ref a87), .val (.ref b88), .val (.int (p6 &&& (3 : Int32))), .val (.int c4), .unset] [])
          refine OwnGoW.st (fun _ kk => XS.iload X89.here hx rfl (hb hby at_187) rfl  kk) ?_
          show OwnGoW p e below s Z own_EL _ _ _ T89 (mkF m 189 #[.val (.int p1), .val (.int p2), .val (.int p3), .val (.int p4), .val (.int p5), .val (.int p6), .val (.int (0 : Int32)), .val (.int c0), .val (.int c1), .val (.int c2), .val (.ref a87), .val (.ref b88), .val (.int (p6 &&& (3 : Int32))), .val (.int c4), .unset] [(.int (0 : Int32))])
          refine OwnGoW.st (fun _ kk => XS.iconst X89.here hx rfl (hb hby at_189) kk) ?_
          show OwnGoW p e below s Z own_EL _ _ _ T89 (mkF m 190 #[.val (.int p1), .val (.int p2), .val (.int p3), .val (.int p4), .val (.int p5), .val (.int p6), .val (.int (0 : Int32)), .val (.int c0), .val (.int c1), .val (.int c2), .val (.ref a87), .val (.ref b88), .val (.int (p6 &&& (3 : Int32))), .val (.int c4), .unset] [(.int (2 : Int32)), (.int (0 : Int32))])
          refine OwnGoW.st (fun _ kk => XS.icmpYes X89.here hx rfl (pc0 := 190) (pc' := 200) rfl (hb hby at_190) rfl (tlt ((by decide) : (0 : Int32) < (2 : Int32))).1 (by decide) (by decide) kk) ?_
          show OwnGoW p e below s Z own_EL _ _ _ T89 (mkF m 200 #[.val (.int p1), .val (.int p2), .val (.int p3), .val (.int p4), .val (.int p5), .val (.int p6), .val (.int (0 : Int32)), .val (.int c0), .val (.int c1), .val (.int c2), .val (.ref a87), .val (.ref b88), .val (.int (p6 &&& (3 : Int32))), .val (.int c4), .unset] [])
          refine OwnGoW.st (fun _ kk => XS.iload X89.here hx rfl (hb hby at_200) rfl  kk) ?_
          show OwnGoW p e below s Z own_EL _ _ _ T89 (mkF m 202 #[.val (.int p1), .val (.int p2), .val (.int p3), .val (.int p4), .val (.int p5), .val (.int p6), .val (.int (0 : Int32)), .val (.int c0), .val (.int c1), .val (.int c2), .val (.ref a87), .val (.ref b88), .val (.int (p6 &&& (3 : Int32))), .val (.int c4), .unset] [(.int (0 : Int32))])
          refine OwnGoW.st (fun _ kk => XS.iconst X89.here hx rfl (hb hby at_202) kk) ?_
          show OwnGoW p e below s Z own_EL _ _ _ T89 (mkF m 203 #[.val (.int p1), .val (.int p2), .val (.int p3), .val (.int p4), .val (.int p5), .val (.int p6), .val (.int (0 : Int32)), .val (.int c0), .val (.int c1), .val (.int c2), .val (.ref a87), .val (.ref b88), .val (.int (p6 &&& (3 : Int32))), .val (.int c4), .unset] [(.int (3 : Int32)), (.int (0 : Int32))])
          refine OwnGoW.st (fun _ kk => XS.icmpYes X89.here hx rfl (pc0 := 203) (pc' := 217) rfl (hb hby at_203) rfl (tlt ((by decide) : (0 : Int32) < (3 : Int32))).1 (by decide) (by decide) kk) ?_
          show OwnGoW p e below s Z own_EL _ _ _ T89 (mkF m 217 #[.val (.int p1), .val (.int p2), .val (.int p3), .val (.int p4), .val (.int p5), .val (.int p6), .val (.int (0 : Int32)), .val (.int c0), .val (.int c1), .val (.int c2), .val (.ref a87), .val (.ref b88), .val (.int (p6 &&& (3 : Int32))), .val (.int c4), .unset] [])
          refine OwnGoW.st (fun _ kk => XS.iconst X89.here hx rfl (hb hby at_217) kk) ?_
          show OwnGoW p e below s Z own_EL _ _ _ T89 (mkF m 218 #[.val (.int p1), .val (.int p2), .val (.int p3), .val (.int p4), .val (.int p5), .val (.int p6), .val (.int (0 : Int32)), .val (.int c0), .val (.int c1), .val (.int c2), .val (.ref a87), .val (.ref b88), .val (.int (p6 &&& (3 : Int32))), .val (.int c4), .unset] [(.int (0 : Int32))])
          refine OwnGoW.st (fun _ kk => XS.istore X89.here hx rfl (hb hby at_218) rfl (l' := #[.val (.int p1), .val (.int p2), .val (.int p3), .val (.int p4), .val (.int p5), .val (.int p6), .val (.int (0 : Int32)), .val (.int c0), .val (.int c1), .val (.int c2), .val (.ref a87), .val (.ref b88), .val (.int (p6 &&& (3 : Int32))), .val (.int c4), .val (.int (0 : Int32))]) rfl kk) ?_
          show OwnGoW p e below s Z own_EL _ _ _ T89 (mkF m 220 #[.val (.int p1), .val (.int p2), .val (.int p3), .val (.int p4), .val (.int p5), .val (.int p6), .val (.int (0 : Int32)), .val (.int c0), .val (.int c1), .val (.int c2), .val (.ref a87), .val (.ref b88), .val (.int (p6 &&& (3 : Int32))), .val (.int c4), .val (.int (0 : Int32))] [])
          refine OwnGoW.st (fun _ kk => XS.aload X89.here hx rfl (hb hby at_220) rfl rfl  kk) ?_
          show OwnGoW p e below s Z own_EL _ _ _ T89 (mkF m 222 #[.val (.int p1), .val (.int p2), .val (.int p3), .val (.int p4), .val (.int p5), .val (.int p6), .val (.int (0 : Int32)), .val (.int c0), .val (.int c1), .val (.int c2), .val (.ref a87), .val (.ref b88), .val (.int (p6 &&& (3 : Int32))), .val (.int c4), .val (.int (0 : Int32))] [(.ref b88)])
          refine OwnGoW.st (fun _ kk => XS.iload X89.here hx rfl (hb hby at_222) rfl  kk) ?_
          show OwnGoW p e below s Z own_EL _ _ _ T89 (mkF m 224 #[.val (.int p1), .val (.int p2), .val (.int p3), .val (.int p4), .val (.int p5), .val (.int p6), .val (.int (0 : Int32)), .val (.int c0), .val (.int c1), .val (.int c2), .val (.ref a87), .val (.ref b88), .val (.int (p6 &&& (3 : Int32))), .val (.int c4), .val (.int (0 : Int32))] [(.int c4), (.ref b88)])
          by_cases hlt_ : c4 < (128 : Int32)
          · obtain ⟨cq96, kq96, q96a, q96b, q96c⟩ := isOf hZ rfl E_b88
            obtain ⟨_, _, ⟨T96, L96, k96, n96⟩, -, X96, ⟨Lc96, hQ96, l96, y96, z96⟩, st96⟩ := X89.virtualBack hx (y := (⟨"io/quintet/Alphabet", "contains", "(C)Z"⟩ : MethodName)) (z := (⟨"io/quintet/Alphabet", "contains", "(C)Z"⟩ : MethodName)) hown (mvT hZ (hw _ (List.mem_of_getElem? (i := 40) rfl))) (mvT hZ (hw _ (List.mem_of_getElem? (i := 41) rfl))) (notFace_of_selects (args := #[]) (mvT hZ (hw _ (List.mem_of_getElem? (i := 43) rfl)))) (mvT hZ (hw _ (List.mem_of_getElem? (i := 43) rfl))) (mvT hZ (hw _ (List.mem_of_getElem? (i := 42) rfl))) (by decide) (backOf (W := 0) (rmconN l Z a0 hw [] b88 b89 (own_tab []) c4 T89.heap n0 Z_ Fb89 G89 hp0 hlt_ (own_tabN hp0 own_nil)) hZ (hw _ (List.mem_of_getElem? (i := 44) rfl)) (hw _ (List.mem_of_getElem? (i := 10) rfl)) (by decide) (by decide)) q96a q96c (g := (mkF m 224 #[.val (.int p1), .val (.int p2), .val (.int p3), .val (.int p4), .val (.int p5), .val (.int p6), .val (.int (0 : Int32)), .val (.int c0), .val (.int c1), .val (.int c2), .val (.ref a87), .val (.ref b88), .val (.int (p6 &&& (3 : Int32))), .val (.int c4), .val (.int (0 : Int32))] [(.int c4), (.ref b88)])) rfl (by rw [hml]; rfl) (Steps.refl _) (argsL := [(.int c4)]) (rest := []) (lenOf pd_5 rfl) rfl (by show 2 * 0 + _ ≤ _; exact Nat.le_of_eq rfl) (hb hby at_224) (fun _ _ => ⟨rfl, rfl, (by decide : 4 + 0 ≤ _), (by decide : 135 + 0 ≤ _)⟩)
            dsimp only [Pt.U, Pt.locs, Pt.cells, Pt.slots] at X96 l96 y96 z96 st96 hQ96
            subst l96 y96 z96
            obtain ⟨rfl, N96q, e96⟩ := hQ96
            have N96 := Fr.app N89 N96q
            refine OwnGoW.st (fun _ kk => st96.trans kk) ?_
            show OwnGoW p e below s Z own_EL _ _ _ T96 (mkF m 227 #[.val (.int p1), .val (.int p2), .val (.int p3), .val (.int p4), .val (.int p5), .val (.int p6), .val (.int (0 : Int32)), .val (.int c0), .val (.int c1), .val (.int c2), .val (.ref a87), .val (.ref b88), .val (.int (p6 &&& (3 : Int32))), .val (.int c4), .val (.int (0 : Int32))] [(.int (0 : Int32))])
            refine OwnGoW.st (fun _ kk => XS.iload X96.here hx rfl (hb hby at_227) rfl  kk) ?_
            show OwnGoW p e below s Z own_EL _ _ _ T96 (mkF m 229 #[.val (.int p1), .val (.int p2), .val (.int p3), .val (.int p4), .val (.int p5), .val (.int p6), .val (.int (0 : Int32)), .val (.int c0), .val (.int c1), .val (.int c2), .val (.ref a87), .val (.ref b88), .val (.int (p6 &&& (3 : Int32))), .val (.int c4), .val (.int (0 : Int32))] [(.int (0 : Int32)), (.int (0 : Int32))])
            refine OwnGoW.st (fun _ kk => XS.icmpNo X96.here hx rfl (hb hby at_229) rfl (teq ((by decide) : (0 : Int32) = (0 : Int32))).2 kk) ?_
            show OwnGoW p e below s Z own_EL _ _ _ T96 (mkF m 232 #[.val (.int p1), .val (.int p2), .val (.int p3), .val (.int p4), .val (.int p5), .val (.int p6), .val (.int (0 : Int32)), .val (.int c0), .val (.int c1), .val (.int c2), .val (.ref a87), .val (.ref b88), .val (.int (p6 &&& (3 : Int32))), .val (.int c4), .val (.int (0 : Int32))] [])
            refine OwnGoW.st (fun _ kk => XS.iconst X96.here hx rfl (hb hby at_232) kk) ?_
            show OwnGoW p e below s Z own_EL _ _ _ T96 (mkF m 233 #[.val (.int p1), .val (.int p2), .val (.int p3), .val (.int p4), .val (.int p5), .val (.int p6), .val (.int (0 : Int32)), .val (.int c0), .val (.int c1), .val (.int c2), .val (.ref a87), .val (.ref b88), .val (.int (p6 &&& (3 : Int32))), .val (.int c4), .val (.int (0 : Int32))] [(.int (1 : Int32))])
            refine OwnGoW.st (fun _ kk => XS.goto X96.here hx rfl (pc0 := 233) (pc' := 237) rfl (hb hby at_233) (by decide) (by decide) kk) ?_
            show OwnGoW p e below s Z own_EL _ _ _ T96 (mkF m 237 #[.val (.int p1), .val (.int p2), .val (.int p3), .val (.int p4), .val (.int p5), .val (.int p6), .val (.int (0 : Int32)), .val (.int c0), .val (.int c1), .val (.int c2), .val (.ref a87), .val (.ref b88), .val (.int (p6 &&& (3 : Int32))), .val (.int c4), .val (.int (0 : Int32))] [(.int (1 : Int32))])
            exact OwnGoW.retN (s := s) (vm0 := T87.vm) X96 hS_ hk_ e96 hZ (own_hEL hw) CR hx (t := .boolean) hret hlk (by simp) (hb hby at_237) (by show Q0 Z p1 p2 p3 p4 p5 p6 zc fmv h0 n0 _ T96.heap _; rw [e96]; exact ⟨rfl, N96⟩) (by decide) (by decide)
          · obtain ⟨cq97, kq97, q97a, q97b, q97c⟩ := isOf hZ rfl E_b88
            obtain ⟨_, _, ⟨T97, L97, k97, n97⟩, -, X97, ⟨Lc97, hQ97, l97, y97, z97⟩, st97⟩ := X89.virtualBack hx (y := (⟨"io/quintet/Alphabet", "contains", "(C)Z"⟩ : MethodName)) (z := (⟨"io/quintet/Alphabet", "contains", "(C)Z"⟩ : MethodName)) hown (mvT hZ (hw _ (List.mem_of_getElem? (i := 40) rfl))) (mvT hZ (hw _ (List.mem_of_getElem? (i := 41) rfl))) (notFace_of_selects (args := #[]) (mvT hZ (hw _ (List.mem_of_getElem? (i := 43) rfl)))) (mvT hZ (hw _ (List.mem_of_getElem? (i := 43) rfl))) (mvT hZ (hw _ (List.mem_of_getElem? (i := 42) rfl))) (by decide) (backOf (W := 0) (rmconB l Z a0 hw [] b88 b89 (own_tab []) c4 T89.heap n0 Z_ Fb89 G89 hp0 hlt_) hZ (hw _ (List.mem_of_getElem? (i := 44) rfl)) (hw _ (List.mem_of_getElem? (i := 10) rfl)) (by decide) (by decide)) q97a q97c (g := (mkF m 224 #[.val (.int p1), .val (.int p2), .val (.int p3), .val (.int p4), .val (.int p5), .val (.int p6), .val (.int (0 : Int32)), .val (.int c0), .val (.int c1), .val (.int c2), .val (.ref a87), .val (.ref b88), .val (.int (p6 &&& (3 : Int32))), .val (.int c4), .val (.int (0 : Int32))] [(.int c4), (.ref b88)])) rfl (by rw [hml]; rfl) (Steps.refl _) (argsL := [(.int c4)]) (rest := []) (lenOf pd_5 rfl) rfl (by show 2 * 0 + _ ≤ _; exact Nat.le_of_eq rfl) (hb hby at_224) (fun _ _ => ⟨rfl, rfl, (by decide : 4 + 0 ≤ _), (by decide : 135 + 0 ≤ _)⟩)
            dsimp only [Pt.U, Pt.locs, Pt.cells, Pt.slots] at X97 l97 y97 z97 st97 hQ97
            subst l97 y97 z97
            obtain ⟨rfl, N97q, e97⟩ := hQ97
            have N97 := Fr.app N89 N97q
            refine OwnGoW.st (fun _ kk => st97.trans kk) ?_
            show OwnGoW p e below s Z own_EL _ _ _ T97 (mkF m 227 #[.val (.int p1), .val (.int p2), .val (.int p3), .val (.int p4), .val (.int p5), .val (.int p6), .val (.int (0 : Int32)), .val (.int c0), .val (.int c1), .val (.int c2), .val (.ref a87), .val (.ref b88), .val (.int (p6 &&& (3 : Int32))), .val (.int c4), .val (.int (0 : Int32))] [(.int (0 : Int32))])
            refine OwnGoW.st (fun _ kk => XS.iload X97.here hx rfl (hb hby at_227) rfl  kk) ?_
            show OwnGoW p e below s Z own_EL _ _ _ T97 (mkF m 229 #[.val (.int p1), .val (.int p2), .val (.int p3), .val (.int p4), .val (.int p5), .val (.int p6), .val (.int (0 : Int32)), .val (.int c0), .val (.int c1), .val (.int c2), .val (.ref a87), .val (.ref b88), .val (.int (p6 &&& (3 : Int32))), .val (.int c4), .val (.int (0 : Int32))] [(.int (0 : Int32)), (.int (0 : Int32))])
            refine OwnGoW.st (fun _ kk => XS.icmpNo X97.here hx rfl (hb hby at_229) rfl (teq ((by decide) : (0 : Int32) = (0 : Int32))).2 kk) ?_
            show OwnGoW p e below s Z own_EL _ _ _ T97 (mkF m 232 #[.val (.int p1), .val (.int p2), .val (.int p3), .val (.int p4), .val (.int p5), .val (.int p6), .val (.int (0 : Int32)), .val (.int c0), .val (.int c1), .val (.int c2), .val (.ref a87), .val (.ref b88), .val (.int (p6 &&& (3 : Int32))), .val (.int c4), .val (.int (0 : Int32))] [])
            refine OwnGoW.st (fun _ kk => XS.iconst X97.here hx rfl (hb hby at_232) kk) ?_
            show OwnGoW p e below s Z own_EL _ _ _ T97 (mkF m 233 #[.val (.int p1), .val (.int p2), .val (.int p3), .val (.int p4), .val (.int p5), .val (.int p6), .val (.int (0 : Int32)), .val (.int c0), .val (.int c1), .val (.int c2), .val (.ref a87), .val (.ref b88), .val (.int (p6 &&& (3 : Int32))), .val (.int c4), .val (.int (0 : Int32))] [(.int (1 : Int32))])
            refine OwnGoW.st (fun _ kk => XS.goto X97.here hx rfl (pc0 := 233) (pc' := 237) rfl (hb hby at_233) (by decide) (by decide) kk) ?_
            show OwnGoW p e below s Z own_EL _ _ _ T97 (mkF m 237 #[.val (.int p1), .val (.int p2), .val (.int p3), .val (.int p4), .val (.int p5), .val (.int p6), .val (.int (0 : Int32)), .val (.int c0), .val (.int c1), .val (.int c2), .val (.ref a87), .val (.ref b88), .val (.int (p6 &&& (3 : Int32))), .val (.int c4), .val (.int (0 : Int32))] [(.int (1 : Int32))])
            exact OwnGoW.retN (s := s) (vm0 := T87.vm) X97 hS_ hk_ e97 hZ (own_hEL hw) CR hx (t := .boolean) hret hlk (by simp) (hb hby at_237) (by show Q0 Z p1 p2 p3 p4 p5 p6 zc fmv h0 n0 _ T97.heap _; rw [e97]; exact ⟨rfl, N97⟩) (by decide) (by decide)
  · show OwnGoW p e below s Z own_EL _ _ _ s₁ (mkF m 26 #[.val (.int p1), .val (.int p2), .val (.int p3), .val (.int p4), .val (.int p5), .val (.int p6), .val (.int (1 : Int32)), .val (.int c0), .val (.int c1), .val (.int c2), .unset, .unset, .unset, .unset, .unset] [])
    refine OwnGoW.st (fun _ kk => XS.iload X0.here hx rfl (hb hby at_26) rfl  kk) ?_
    show OwnGoW p e below s Z own_EL _ _ _ s₁ (mkF m 28 #[.val (.int p1), .val (.int p2), .val (.int p3), .val (.int p4), .val (.int p5), .val (.int p6), .val (.int (1 : Int32)), .val (.int c0), .val (.int c1), .val (.int c2), .unset, .unset, .unset, .unset, .unset] [(.int (1 : Int32))])
    refine OwnGoW.st (fun _ kk => XS.ifYes X0.here hx rfl (pc0 := 28) (pc' := 38) rfl (hb hby at_28) rfl ((if0 _ _).trans (feq ((by decide) : ¬ ((1 : Int32) = (0 : Int32)))).2) (by decide) (by decide) kk) ?_
    show OwnGoW p e below s Z own_EL _ _ _ s₁ (mkF m 38 #[.val (.int p1), .val (.int p2), .val (.int p3), .val (.int p4), .val (.int p5), .val (.int p6), .val (.int (1 : Int32)), .val (.int c0), .val (.int c1), .val (.int c2), .unset, .unset, .unset, .unset, .unset] [])
    refine OwnGoW.st (fun _ kk => XS.iload X0.here hx rfl (hb hby at_38) rfl  kk) ?_
    show OwnGoW p e below s Z own_EL _ _ _ s₁ (mkF m 40 #[.val (.int p1), .val (.int p2), .val (.int p3), .val (.int p4), .val (.int p5), .val (.int p6), .val (.int (1 : Int32)), .val (.int c0), .val (.int c1), .val (.int c2), .unset, .unset, .unset, .unset, .unset] [(.int (1 : Int32))])
    refine OwnGoW.st (fun _ kk => XS.iconst X0.here hx rfl (hb hby at_40) kk) ?_
    show OwnGoW p e below s Z own_EL _ _ _ s₁ (mkF m 41 #[.val (.int p1), .val (.int p2), .val (.int p3), .val (.int p4), .val (.int p5), .val (.int p6), .val (.int (1 : Int32)), .val (.int c0), .val (.int c1), .val (.int c2), .unset, .unset, .unset, .unset, .unset] [(.int (1 : Int32)), (.int (1 : Int32))])
    refine OwnGoW.st (fun _ kk => XS.icmpNo X0.here hx rfl (hb hby at_41) rfl (teq ((by decide) : (1 : Int32) = (1 : Int32))).2 kk) ?_
    show OwnGoW p e below s Z own_EL _ _ _ s₁ (mkF m 44 #[.val (.int p1), .val (.int p2), .val (.int p3), .val (.int p4), .val (.int p5), .val (.int p6), .val (.int (1 : Int32)), .val (.int c0), .val (.int c1), .val (.int c2), .unset, .unset, .unset, .unset, .unset] [])
    refine OwnGoW.st (fun _ kk => XS.iload X0.here hx rfl (hb hby at_44) rfl  kk) ?_
    show OwnGoW p e below s Z own_EL _ _ _ s₁ (mkF m 46 #[.val (.int p1), .val (.int p2), .val (.int p3), .val (.int p4), .val (.int p5), .val (.int p6), .val (.int (1 : Int32)), .val (.int c0), .val (.int c1), .val (.int c2), .unset, .unset, .unset, .unset, .unset] [(.int c0)])
    obtain ⟨_, _, ⟨T98, L98, k98, n98⟩, -, X98, ⟨Lc98, hQ98, l98, y98, z98⟩, st98⟩ := Jvm.LawKit.callS X0 hx (y := (⟨"java/lang/String", "valueOf", "(C)Ljava/lang/String;"⟩ : MethodName)) hown (mvT hZ (hw _ (List.mem_of_getElem? (i := 45) rfl))) (mvT hZ (hw _ (List.mem_of_getElem? (i := 46) rfl))) (mvT hZ (hw _ (List.mem_of_getElem? (i := 1) rfl))) (mvT hZ (hw _ (List.mem_of_getElem? (i := 47) rfl))) (by decide) (backOf (W := 0) (rmvalueOfC l Z a0 hw [] c0 zc h0 n0 Z_ O_ S_CS P_CS hp_c0.2) hZ (hw _ (List.mem_of_getElem? (i := 47) rfl)) (hw _ (List.mem_of_getElem? (i := 1) rfl)) (by decide) (by decide)) (g := (mkF m 46 #[.val (.int p1), .val (.int p2), .val (.int p3), .val (.int p4), .val (.int p5), .val (.int p6), .val (.int (1 : Int32)), .val (.int c0), .val (.int c1), .val (.int c2), .unset, .unset, .unset, .unset, .unset] [(.int c0)])) rfl (by rw [hml]; rfl) (argsL := [(.int c0)]) (rest := []) (lenOf pd_11 rfl) rfl (by show 2 * 0 + _ ≤ _; exact Nat.le_of_eq rfl) (hb hby at_46) (fun _ _ => ⟨rfl, e0, (by decide : 0 + 2 ≤ _), (by decide : 0 + 5 ≤ _)⟩)
    dsimp only [Pt.U, Pt.locs, Pt.cells, Pt.slots] at X98 l98 y98 z98 st98 hQ98
    subst l98 y98 z98
    obtain ⟨x98, t98, kb98, rfl, N98q, K98, E98, Fc98, Fv98, V98, zx98, zt98⟩ := hQ98
    have N98 := Fr.app N0 N98q
    have g_x98 : n0 ≤ x98 := Nat.le_trans Z_ zx98
    have g_t98 : n0 ≤ t98 := Nat.le_trans Z_ zt98
    have V98 : Arv Z T98.heap t98 kb98 .byte (1 : Int32) [(.int c0)] (.int (0 : Int32)) := by rw [← own_a8 P_c0]; exact V98
    have Z_ : n0 ≤ T98.heap.size := Nat.le_trans Z_ K98.1
    have O_ := O_.keep K98 all0
    have CR := CR.trans (CHr.keep K98 sf0 CR.1)
    have hk_ := Nat.le_trans hk_ K98.1
    refine OwnGoW.st st98 ?_
    show OwnGoW p e below s Z own_EL _ _ _ T98 (mkF m 49 #[.val (.int p1), .val (.int p2), .val (.int p3), .val (.int p4), .val (.int p5), .val (.int p6), .val (.int (1 : Int32)), .val (.int c0), .val (.int c1), .val (.int c2), .unset, .unset, .unset, .unset, .unset] [(.ref x98)])
    refine OwnGoW.st (fun _ kk => XS.astore X98.here hx rfl (hb hby at_49) rfl rfl (l' := #[.val (.int p1), .val (.int p2), .val (.int p3), .val (.int p4), .val (.int p5), .val (.int p6), .val (.int (1 : Int32)), .val (.int c0), .val (.int c1), .val (.int c2), .val (.ref x98), .unset, .unset, .unset, .unset]) rfl kk) ?_
    show OwnGoW p e below s Z own_EL _ _ _ T98 (mkF m 51 #[.val (.int p1), .val (.int p2), .val (.int p3), .val (.int p4), .val (.int p5), .val (.int p6), .val (.int (1 : Int32)), .val (.int c0), .val (.int c1), .val (.int c2), .val (.ref x98), .unset, .unset, .unset, .unset] [])
    refine OwnGoW.st (fun _ kk => XS.goto X98.here hx rfl (pc0 := 51) (pc' := 112) rfl (hb hby at_51) (by decide) (by decide) kk) ?_
    show OwnGoW p e below s Z own_EL _ _ _ T98 (mkF m 112 #[.val (.int p1), .val (.int p2), .val (.int p3), .val (.int p4), .val (.int p5), .val (.int p6), .val (.int (1 : Int32)), .val (.int c0), .val (.int c1), .val (.int c2), .val (.ref x98), .unset, .unset, .unset, .unset] [])
    obtain ⟨T99, h99, X99, e99, E99, A99, D99, -, st99⟩ := newO X98 hx hZ hown (hw _ (List.mem_of_getElem? (i := 8) rfl)) (hw _ (List.mem_of_getElem? (i := 9) rfl)) (hw _ (List.mem_of_getElem? (i := 10) rfl)) rfl (g := (mkF m 112 #[.val (.int p1), .val (.int p2), .val (.int p3), .val (.int p4), .val (.int p5), .val (.int p6), .val (.int (1 : Int32)), .val (.int c0), .val (.int c1), .val (.int c2), .val (.ref x98), .unset, .unset, .unset, .unset] [])) rfl (hb hby at_112) (by decide) (by decide)
    obtain ⟨b99, g99⟩ : ∃ z, z = T98.heap.size := ⟨_, rfl⟩
    rw [← g99] at A99 D99 st99
    have ne_x98_b99 : x98 ≠ b99 := Nat.ne_of_lt (Nat.lt_of_lt_of_le E98.lt (Nat.le_of_eq g99.symm))
    have ne_t98_b99 : t98 ≠ b99 := Nat.ne_of_lt (Nat.lt_of_lt_of_le V98.lt (Nat.le_of_eq g99.symm))
    have g_b99 : n0 ≤ b99 := Nat.le_trans Z_ (Nat.le_of_eq g99.symm)
    have sf_b99 : Safe Z own_EL s.vm T98.heap b99 := Safe.new (Nat.le_of_eq g99.symm)
    have E98 := E98.ext E99
    have Fc98 := Fc98.ext E99
    have Fv98 := Fv98.ext E99
    have V98 := V98.ext E99
    have O_ := O_.ext E99
    have sf_b99 := Safe.ext E99 CR.1 sf_b99
    have CR := CR.trans (CHr.ext E99 CR.1)
    have hk_ := Nat.le_trans hk_ E99.1
    have Z_ : n0 ≤ h99.size := Nat.le_trans Z_ E99.1
    have E_b99 := A99
    have F_values_b99 : Fld Z h99 b99 "io/quintet/Alphabet" "values" "[B" .null := D99 (Or.inr (hw _ (List.mem_of_getElem? (i := 18) rfl))) (ty := (.array .byte)) (by decide)
    have F_width_b99 : Fld Z h99 b99 "io/quintet/Alphabet" "width" "I" (.int (0 : Int32)) := D99 (Or.inr (hw _ (List.mem_of_getElem? (i := 20) rfl))) (ty := .int) (by decide)
    have F_characters_b99 : Fld Z h99 b99 "io/quintet/Alphabet" "characters" "Ljava/lang/String;" .null := D99 (Or.inr (hw _ (List.mem_of_getElem? (i := 22) rfl))) (ty := (.object "java/lang/String")) (by decide)
    refine OwnGoW.st st99 ?_
    show OwnGoW p e below s Z own_EL _ _ _ T99 (mkF m 115 #[.val (.int p1), .val (.int p2), .val (.int p3), .val (.int p4), .val (.int p5), .val (.int p6), .val (.int (1 : Int32)), .val (.int c0), .val (.int c1), .val (.int c2), .val (.ref x98), .unset, .unset, .unset, .unset] [(.ref b99)])
    refine OwnGoW.st (fun _ kk => XS.dup X99.here hx rfl (hb hby at_115) rfl rfl kk) ?_
    show OwnGoW p e below s Z own_EL _ _ _ T99 (mkF m 116 #[.val (.int p1), .val (.int p2), .val (.int p3), .val (.int p4), .val (.int p5), .val (.int p6), .val (.int (1 : Int32)), .val (.int c0), .val (.int c1), .val (.int c2), .val (.ref x98), .unset, .unset, .unset, .unset] [(.ref b99), (.ref b99)])
    refine OwnGoW.st (fun _ kk => XS.iconst X99.here hx rfl (hb hby at_116) kk) ?_
    show OwnGoW p e below s Z own_EL _ _ _ T99 (mkF m 117 #[.val (.int p1), .val (.int p2), .val (.int p3), .val (.int p4), .val (.int p5), .val (.int p6), .val (.int (1 : Int32)), .val (.int c0), .val (.int c1), .val (.int c2), .val (.ref x98), .unset, .unset, .unset, .unset] [(.int (2 : Int32)), (.ref b99), (.ref b99)])
    refine OwnGoW.st (fun _ kk => XS.aload X99.here hx rfl (hb hby at_117) rfl rfl  kk) ?_
    show OwnGoW p e below s Z own_EL _ _ _ T99 (mkF m 119 #[.val (.int p1), .val (.int p2), .val (.int p3), .val (.int p4), .val (.int p5), .val (.int p6), .val (.int (1 : Int32)), .val (.int c0), .val (.int c1), .val (.int c2), .val (.ref x98), .unset, .unset, .unset, .unset] [(.ref x98), (.int (2 : Int32)), (.ref b99), (.ref b99)])
    obtain ⟨_, _, ⟨T100, L100, k100, n100⟩, -, X100, ⟨Lc100, hQ100, l100, y100, z100⟩, st100⟩ := X99.specialBack hx (y := (⟨"io/quintet/Alphabet", "<init>", "(ILjava/lang/String;)V"⟩ : MethodName)) rfl hown (mvT hZ (hw _ (List.mem_of_getElem? (i := 11) rfl))) (mvT hZ (hw _ (List.mem_of_getElem? (i := 12) rfl))) (mvT hZ (hw _ (List.mem_of_getElem? (i := 13) rfl))) (by decide) (backOf (W := 1) (rmini1 l Z a0 hw [] b99 x98 t98 kb98 c0 zc fmv h99 n0 Z_ O_ S_CS P_CS S_SF rf_fmv E_b99 g_b99 ne_x98_b99 ne_t98_b99 F_values_b99 F_width_b99 F_characters_b99 E98 Fc98 Fv98 V98 P_c0) hZ (hw _ (List.mem_of_getElem? (i := 13) rfl)) (hw _ (List.mem_of_getElem? (i := 10) rfl)) (by decide) (by decide)) (g := (mkF m 119 #[.val (.int p1), .val (.int p2), .val (.int p3), .val (.int p4), .val (.int p5), .val (.int p6), .val (.int (1 : Int32)), .val (.int c0), .val (.int c1), .val (.int c2), .val (.ref x98), .unset, .unset, .unset, .unset] [(.ref x98), (.int (2 : Int32)), (.ref b99), (.ref b99)])) rfl (by rw [hml]; rfl) (Steps.refl _) (a := b99) (argsL := [(.int (2 : Int32)), (.ref x98)]) (rest := [(.ref b99)]) (lenOf pd_10 rfl) rfl (by show 2 * 0 + _ ≤ _; exact Nat.le_of_eq rfl) (hb hby at_119) (fun _ _ => ⟨rfl, e99, (by decide : 3 + 1 ≤ _), (by decide : 8 + 128 ≤ _)⟩)
    dsimp only [Pt.U, Pt.locs, Pt.cells, Pt.slots] at X100 l100 y100 z100 st100 hQ100
    subst l100 y100 z100
    obtain ⟨rfl, N100q, K100, Eo100, b100, Fb100, G100⟩ := hQ100
    have N100 := Fr.app N98 N100q
    have Z_ : n0 ≤ T100.heap.size := Nat.le_trans Z_ K100.1
    have E98 := E98.keep K100
    have Fc98 := Fc98.keep K100 (ninS ne_x98_b99 nin0)
    have Fv98 := Fv98.keep K100 (ninS ne_x98_b99 nin0)
    have V98 := V98.keep K100 (ninS ne_t98_b99 nin0)
    have E_b99 := E_b99.keep K100
    have O_ := O_.keep K100 (allS g_b99 all0)
    have sf_b99' := Safe.keep K100 (sfS sf_b99 sf0) CR.1 sf_b99
    have CR := CR.trans (CHr.keep K100 (sfS sf_b99 sf0) CR.1)
    have hk_ := Nat.le_trans hk_ K100.1
    have sf_b99 := sf_b99'
    refine OwnGoW.st (fun _ kk => st100.trans kk) ?_
    show OwnGoW p e below s Z own_EL _ _ _ T100 (mkF m 122 #[.val (.int p1), .val (.int p2), .val (.int p3), .val (.int p4), .val (.int p5), .val (.int p6), .val (.int (1 : Int32)), .val (.int c0), .val (.int c1), .val (.int c2), .val (.ref x98), .unset, .unset, .unset, .unset] [(.ref b99)])
    refine OwnGoW.st (fun _ kk => XS.astore X100.here hx rfl (hb hby at_122) rfl rfl (l' := #[.val (.int p1), .val (.int p2), .val (.int p3), .val (.int p4), .val (.int p5), .val (.int p6), .val (.int (1 : Int32)), .val (.int c0), .val (.int c1), .val (.int c2), .val (.ref x98), .val (.ref b99), .unset, .unset, .unset]) rfl kk) ?_
    show OwnGoW p e below s Z own_EL _ _ _ T100 (mkF m 124 #[.val (.int p1), .val (.int p2), .val (.int p3), .val (.int p4), .val (.int p5), .val (.int p6), .val (.int (1 : Int32)), .val (.int c0), .val (.int c1), .val (.int c2), .val (.ref x98), .val (.ref b99), .unset, .unset, .unset] [])
    refine OwnGoW.st (fun _ kk => XS.iload X100.here hx rfl (hb hby at_124) rfl  kk) ?_
    show OwnGoW p e below s Z own_EL _ _ _ T100 (mkF m 126 #[.val (.int p1), .val (.int p2), .val (.int p3), .val (.int p4), .val (.int p5), .val (.int p6), .val (.int (1 : Int32)), .val (.int c0), .val (.int c1), .val (.int c2), .val (.ref x98), .val (.ref b99), .unset, .unset, .unset] [(.int p6)])
    refine OwnGoW.st (fun _ kk => XS.iconst X100.here hx rfl (hb hby at_126) kk) ?_
    show OwnGoW p e below s Z own_EL _ _ _ T100 (mkF m 127 #[.val (.int p1), .val (.int p2), .val (.int p3), .val (.int p4), .val (.int p5), .val (.int p6), .val (.int (1 : Int32)), .val (.int c0), .val (.int c1), .val (.int c2), .val (.ref x98), .val (.ref b99), .unset, .unset, .unset] [(.int (3 : Int32)), (.int p6)])
    refine OwnGoW.st (fun _ kk => XS.iand X100.here hx rfl (hb hby at_127) rfl kk) ?_
    show OwnGoW p e below s Z own_EL _ _ _ T100 (mkF m 128 #[.val (.int p1), .val (.int p2), .val (.int p3), .val (.int p4), .val (.int p5), .val (.int p6), .val (.int (1 : Int32)), .val (.int c0), .val (.int c1), .val (.int c2), .val (.ref x98), .val (.ref b99), .unset, .unset, .unset] [(.int (p6 &&& (3 : Int32)))])
    refine OwnGoW.st (fun _ kk => XS.istore X100.here hx rfl (hb hby at_128) rfl (l' := #[.val (.int p1), .val (.int p2), .val (.int p3), .val (.int p4), .val (.int p5), .val (.int p6), .val (.int (1 : Int32)), .val (.int c0), .val (.int c1), .val (.int c2), .val (.ref x98), .val (.ref b99), .val (.int (p6 &&& (3 : Int32))), .unset, .unset]) rfl kk) ?_
    show OwnGoW p e below s Z own_EL _ _ _ T100 (mkF m 130 #[.val (.int p1), .val (.int p2), .val (.int p3), .val (.int p4), .val (.int p5), .val (.int p6), .val (.int (1 : Int32)), .val (.int c0), .val (.int c1), .val (.int c2), .val (.ref x98), .val (.ref b99), .val (.int (p6 &&& (3 : Int32))), .unset, .unset] [])
    refine OwnGoW.st (fun _ kk => XS.iload X100.here hx rfl (hb hby at_130) rfl  kk) ?_
    show OwnGoW p e below s Z own_EL _ _ _ T100 (mkF m 132 #[.val (.int p1), .val (.int p2), .val (.int p3), .val (.int p4), .val (.int p5), .val (.int p6), .val (.int (1 : Int32)), .val (.int c0), .val (.int c1), .val (.int c2), .val (.ref x98), .val (.ref b99), .val (.int (p6 &&& (3 : Int32))), .unset, .unset] [(.int (p6 &&& (3 : Int32)))])
    refine OwnGoW.st (fun _ kk => XS.iconst X100.here hx rfl (hb hby at_132) kk) ?_
    show OwnGoW p e below s Z own_EL _ _ _ T100 (mkF m 133 #[.val (.int p1), .val (.int p2), .val (.int p3), .val (.int p4), .val (.int p5), .val (.int p6), .val (.int (1 : Int32)), .val (.int c0), .val (.int c1), .val (.int c2), .val (.ref x98), .val (.ref b99), .val (.int (p6 &&& (3 : Int32))), .unset, .unset] [(.int (1 : Int32)), (.int (p6 &&& (3 : Int32)))])
    by_cases hm1 : (p6 &&& (3 : Int32)) = (1 : Int32)
    · refine OwnGoW.st (fun _ kk => XS.icmpNo X100.here hx rfl (hb hby at_133) rfl (teq (hm1 : (p6 &&& (3 : Int32)) = (1 : Int32))).2 kk) ?_
      show OwnGoW p e below s Z own_EL _ _ _ T100 (mkF m 136 #[.val (.int p1), .val (.int p2), .val (.int p3), .val (.int p4), .val (.int p5), .val (.int p6), .val (.int (1 : Int32)), .val (.int c0), .val (.int c1), .val (.int c2), .val (.ref x98), .val (.ref b99), .val (.int (p6 &&& (3 : Int32))), .unset, .unset] [])
      refine OwnGoW.st (fun _ kk => XS.iload X100.here hx rfl (hb hby at_136) rfl  kk) ?_
      show OwnGoW p e below s Z own_EL _ _ _ T100 (mkF m 138 #[.val (.int p1), .val (.int p2), .val (.int p3), .val (.int p4), .val (.int p5), .val (.int p6), .val (.int (1 : Int32)), .val (.int c0), .val (.int c1), .val (.int c2), .val (.ref x98), .val (.ref b99), .val (.int (p6 &&& (3 : Int32))), .unset, .unset] [(.int c0)])
      refine OwnGoW.st (fun _ kk => XS.istore X100.here hx rfl (hb hby at_138) rfl (l' := #[.val (.int p1), .val (.int p2), .val (.int p3), .val (.int p4), .val (.int p5), .val (.int p6), .val (.int (1 : Int32)), .val (.int c0), .val (.int c1), .val (.int c2), .val (.ref x98), .val (.ref b99), .val (.int (p6 &&& (3 : Int32))), .val (.int c0), .unset]) rfl kk) ?_
      show OwnGoW p e below s Z own_EL _ _ _ T100 (mkF m 140 #[.val (.int p1), .val (.int p2), .val (.int p3), .val (.int p4), .val (.int p5), .val (.int p6), .val (.int (1 : Int32)), .val (.int c0), .val (.int c1), .val (.int c2), .val (.ref x98), .val (.ref b99), .val (.int (p6 &&& (3 : Int32))), .val (.int c0), .unset] [])
      refine OwnGoW.st (fun _ kk => XS.goto X100.here hx rfl (pc0 := 140) (pc' := 174) rfl (hb hby at_140) (by decide) (by decide) kk) ?_
      show OwnGoW p e below s Z own_EL _ _ _ T100 (mkF m 174 #[.val (.int p1), .val (.int p2), .val (.int p3), .val (.int p4), .val (.int p5), .val (.int p6), .val (.int (1 : Int32)), .val (.int c0), .val (.int c1), .val (.int c2), .val (.ref x98), .val (.ref b99), .val (.int (p6 &&& (3 : Int32))), .val (.int c0), .unset] [])
      refine OwnGoW.st (fun _ kk => XS.iload X100.here hx rfl (hb hby at_174) rfl  kk) ?_
      show OwnGoW p e below s Z own_EL _ _ _ T100 (mkF m 176 #[.val (.int p1), .val (.int p2), .val (.int p3), .val (.int p4), .val (.int p5), .val (.int p6), .val (.int (1 : Int32)), .val (.int c0), .val (.int c1), .val (.int c2), .val (.ref x98), .val (.ref b99), .val (.int (p6 &&& (3 : Int32))), .val (.int c0), .unset] [(.int (1 : Int32))])
      refine OwnGoW.st (fun _ kk => XS.iconst X100.here hx rfl (hb hby at_176) kk) ?_
      show OwnGoW p e below s Z own_EL _ _ _ T100 (mkF m 177 #[.val (.int p1), .val (.int p2), .val (.int p3), .val (.int p4), .val (.int p5), .val (.int p6), .val (.int (1 : Int32)), .val (.int c0), .val (.int c1), .val (.int c2), .val (.ref x98), .val (.ref b99), .val (.int (p6 &&& (3 : Int32))), .val (.int c0), .unset] [(.int (1 : Int32)), (.int (1 : Int32))])
      refine OwnGoW.st (fun _ kk => XS.icmpNo X100.here hx rfl (hb hby at_177) rfl (flt ((by decide) : ¬ ((1 : Int32) < (1 : Int32)))).1 kk) ?_
      show OwnGoW p e below s Z own_EL _ _ _ T100 (mkF m 180 #[.val (.int p1), .val (.int p2), .val (.int p3), .val (.int p4), .val (.int p5), .val (.int p6), .val (.int (1 : Int32)), .val (.int c0), .val (.int c1), .val (.int c2), .val (.ref x98), .val (.ref b99), .val (.int (p6 &&& (3 : Int32))), .val (.int c0), .unset] [])
      refine OwnGoW.st (fun _ kk => XS.iload X100.here hx rfl (hb hby at_180) rfl  kk) ?_
      show OwnGoW p e below s Z own_EL _ _ _ T100 (mkF m 182 #[.val (.int p1), .val (.int p2), .val (.int p3), .val (.int p4), .val (.int p5), .val (.int p6), .val (.int (1 : Int32)), .val (.int c0), .val (.int c1), .val (.int c2), .val (.ref x98), .val (.ref b99), .val (.int (p6 &&& (3 : Int32))), .val (.int c0), .unset] [(.int c0)])
      refine OwnGoW.st (fun _ kk => XS.iload X100.here hx rfl (hb hby at_182) rfl  kk) ?_
      show OwnGoW p e below s Z own_EL _ _ _ T100 (mkF m 184 #[.val (.int p1), .val (.int p2), .val (.int p3), .val (.int p4), .val (.int p5), .val (.int p6), .val (.int (1 : Int32)), .val (.int c0), .val (.int c1), .val (.int c2), .val (.ref x98), .val (.ref b99), .val (.int (p6 &&& (3 : Int32))), .val (.int c0), .unset] [(.int c0), (.int c0)])
      refine OwnGoW.st (fun _ kk => XS.icmpYes X100.here hx rfl (pc0 := 184) (pc' := 213) rfl (hb hby at_184) rfl (teq (rfl : c0 = c0)).1 (by decide) (by decide) kk) ?_
      show OwnGoW p e below s Z own_EL _ _ _ T100 (mkF m 213 #[.val (.int p1), .val (.int p2), .val (.int p3), .val (.int p4), .val (.int p5), .val (.int p6), .val (.int (1 : Int32)), .val (.int c0), .val (.int c1), .val (.int c2), .val (.ref x98), .val (.ref b99), .val (.int (p6 &&& (3 : Int32))), .val (.int c0), .unset] [])
      refine OwnGoW.st (fun _ kk => XS.iconst X100.here hx rfl (hb hby at_213) kk) ?_
      show OwnGoW p e below s Z own_EL _ _ _ T100 (mkF m 214 #[.val (.int p1), .val (.int p2), .val (.int p3), .val (.int p4), .val (.int p5), .val (.int p6), .val (.int (1 : Int32)), .val (.int c0), .val (.int c1), .val (.int c2), .val (.ref x98), .val (.ref b99), .val (.int (p6 &&& (3 : Int32))), .val (.int c0), .unset] [(.int (1 : Int32))])
      refine OwnGoW.st (fun _ kk => XS.goto X100.here hx rfl (pc0 := 214) (pc' := 218) rfl (hb hby at_214) (by decide) (by decide) kk) ?_
      show OwnGoW p e below s Z own_EL _ _ _ T100 (mkF m 218 #[.val (.int p1), .val (.int p2), .val (.int p3), .val (.int p4), .val (.int p5), .val (.int p6), .val (.int (1 : Int32)), .val (.int c0), .val (.int c1), .val (.int c2), .val (.ref x98), .val (.ref b99), .val (.int (p6 &&& (3 : Int32))), .val (.int c0), .unset] [(.int (1 : Int32))])
      refine OwnGoW.st (fun _ kk => XS.istore X100.here hx rfl (hb hby at_218) rfl (l' := #[.val (.int p1), .val (.int p2), .val (.int p3), .val (.int p4), .val (.int p5), .val (.int p6), .val (.int (1 : Int32)), .val (.int c0), .val (.int c1), .val (.int c2), .val (.ref x98), .val (.ref b99), .val (.int (p6 &&& (3 : Int32))), .val (.int c0), .val (.int (1 : Int32))]) rfl kk) ?_
      show OwnGoW p e below s Z own_EL _ _ _ T100 (mkF m 220 #[.val (.int p1), .val (.int p2), .val (.int p3), .val (.int p4), .val (.int p5), .val (.int p6), .val (.int (1 : Int32)), .val (.int c0), .val (.int c1), .val (.int c2), .val (.ref x98), .val (.ref b99), .val (.int (p6 &&& (3 : Int32))), .val (.int c0), .val (.int (1 : Int32))] [])
      refine OwnGoW.st (fun _ kk => XS.aload X100.here hx rfl (hb hby at_220) rfl rfl  kk) ?_
      show OwnGoW p e below s Z own_EL _ _ _ T100 (mkF m 222 #[.val (.int p1), .val (.int p2), .val (.int p3), .val (.int p4), .val (.int p5), .val (.int p6), .val (.int (1 : Int32)), .val (.int c0), .val (.int c1), .val (.int c2), .val (.ref x98), .val (.ref b99), .val (.int (p6 &&& (3 : Int32))), .val (.int c0), .val (.int (1 : Int32))] [(.ref b99)])
      refine OwnGoW.st (fun _ kk => XS.iload X100.here hx rfl (hb hby at_222) rfl  kk) ?_
      show OwnGoW p e below s Z own_EL _ _ _ T100 (mkF m 224 #[.val (.int p1), .val (.int p2), .val (.int p3), .val (.int p4), .val (.int p5), .val (.int p6), .val (.int (1 : Int32)), .val (.int c0), .val (.int c1), .val (.int c2), .val (.ref x98), .val (.ref b99), .val (.int (p6 &&& (3 : Int32))), .val (.int c0), .val (.int (1 : Int32))] [(.int c0), (.ref b99)])
      have hlt_ : c0 < (128 : Int32) := P_c0.2
      obtain ⟨cq101, kq101, q101a, q101b, q101c⟩ := isOf hZ rfl E_b99
      obtain ⟨_, _, ⟨T101, L101, k101, n101⟩, -, X101, ⟨Lc101, hQ101, l101, y101, z101⟩, st101⟩ := X100.virtualBack hx (y := (⟨"io/quintet/Alphabet", "contains", "(C)Z"⟩ : MethodName)) (z := (⟨"io/quintet/Alphabet", "contains", "(C)Z"⟩ : MethodName)) hown (mvT hZ (hw _ (List.mem_of_getElem? (i := 40) rfl))) (mvT hZ (hw _ (List.mem_of_getElem? (i := 41) rfl))) (notFace_of_selects (args := #[]) (mvT hZ (hw _ (List.mem_of_getElem? (i := 43) rfl)))) (mvT hZ (hw _ (List.mem_of_getElem? (i := 43) rfl))) (mvT hZ (hw _ (List.mem_of_getElem? (i := 42) rfl))) (by decide) (backOf (W := 0) (rmconY l Z a0 hw [] b99 b100 (own_tab [(c0, 0)]) c0 T100.heap n0 Z_ Fb100 G100 P_c0.1 hlt_ (own_tabY (c' := c0) (i := 0) (List.mem_of_getElem? (i := 0) rfl) rfl (own_tabI rfl (by decide : own_neg [0])))) hZ (hw _ (List.mem_of_getElem? (i := 44) rfl)) (hw _ (List.mem_of_getElem? (i := 10) rfl)) (by decide) (by decide)) q101a q101c (g := (mkF m 224 #[.val (.int p1), .val (.int p2), .val (.int p3), .val (.int p4), .val (.int p5), .val (.int p6), .val (.int (1 : Int32)), .val (.int c0), .val (.int c1), .val (.int c2), .val (.ref x98), .val (.ref b99), .val (.int (p6 &&& (3 : Int32))), .val (.int c0), .val (.int (1 : Int32))] [(.int c0), (.ref b99)])) rfl (by rw [hml]; rfl) (Steps.refl _) (argsL := [(.int c0)]) (rest := []) (lenOf pd_5 rfl) rfl (by show 2 * 0 + _ ≤ _; exact Nat.le_of_eq rfl) (hb hby at_224) (fun _ _ => ⟨rfl, rfl, (by decide : 4 + 0 ≤ _), (by decide : 136 + 0 ≤ _)⟩)
      dsimp only [Pt.U, Pt.locs, Pt.cells, Pt.slots] at X101 l101 y101 z101 st101 hQ101
      subst l101 y101 z101
      obtain ⟨rfl, N101q, e101⟩ := hQ101
      have N101 := Fr.app N100 N101q
      refine OwnGoW.st (fun _ kk => st101.trans kk) ?_
      show OwnGoW p e below s Z own_EL _ _ _ T101 (mkF m 227 #[.val (.int p1), .val (.int p2), .val (.int p3), .val (.int p4), .val (.int p5), .val (.int p6), .val (.int (1 : Int32)), .val (.int c0), .val (.int c1), .val (.int c2), .val (.ref x98), .val (.ref b99), .val (.int (p6 &&& (3 : Int32))), .val (.int c0), .val (.int (1 : Int32))] [(.int (1 : Int32))])
      refine OwnGoW.st (fun _ kk => XS.iload X101.here hx rfl (hb hby at_227) rfl  kk) ?_
      show OwnGoW p e below s Z own_EL _ _ _ T101 (mkF m 229 #[.val (.int p1), .val (.int p2), .val (.int p3), .val (.int p4), .val (.int p5), .val (.int p6), .val (.int (1 : Int32)), .val (.int c0), .val (.int c1), .val (.int c2), .val (.ref x98), .val (.ref b99), .val (.int (p6 &&& (3 : Int32))), .val (.int c0), .val (.int (1 : Int32))] [(.int (1 : Int32)), (.int (1 : Int32))])
      refine OwnGoW.st (fun _ kk => XS.icmpNo X101.here hx rfl (hb hby at_229) rfl (teq ((by decide) : (1 : Int32) = (1 : Int32))).2 kk) ?_
      show OwnGoW p e below s Z own_EL _ _ _ T101 (mkF m 232 #[.val (.int p1), .val (.int p2), .val (.int p3), .val (.int p4), .val (.int p5), .val (.int p6), .val (.int (1 : Int32)), .val (.int c0), .val (.int c1), .val (.int c2), .val (.ref x98), .val (.ref b99), .val (.int (p6 &&& (3 : Int32))), .val (.int c0), .val (.int (1 : Int32))] [])
      refine OwnGoW.st (fun _ kk => XS.iconst X101.here hx rfl (hb hby at_232) kk) ?_
      show OwnGoW p e below s Z own_EL _ _ _ T101 (mkF m 233 #[.val (.int p1), .val (.int p2), .val (.int p3), .val (.int p4), .val (.int p5), .val (.int p6), .val (.int (1 : Int32)), .val (.int c0), .val (.int c1), .val (.int c2), .val (.ref x98), .val (.ref b99), .val (.int (p6 &&& (3 : Int32))), .val (.int c0), .val (.int (1 : Int32))] [(.int (1 : Int32))])
      refine OwnGoW.st (fun _ kk => XS.goto X101.here hx rfl (pc0 := 233) (pc' := 237) rfl (hb hby at_233) (by decide) (by decide) kk) ?_
      show OwnGoW p e below s Z own_EL _ _ _ T101 (mkF m 237 #[.val (.int p1), .val (.int p2), .val (.int p3), .val (.int p4), .val (.int p5), .val (.int p6), .val (.int (1 : Int32)), .val (.int c0), .val (.int c1), .val (.int c2), .val (.ref x98), .val (.ref b99), .val (.int (p6 &&& (3 : Int32))), .val (.int c0), .val (.int (1 : Int32))] [(.int (1 : Int32))])
      exact OwnGoW.retN (s := s) (vm0 := s.vm) X101 hS_ hk_ e101 hZ (own_hEL hw) CR hx (t := .boolean) hret hlk (by simp) (hb hby at_237) (by show Q0 Z p1 p2 p3 p4 p5 p6 zc fmv h0 n0 _ T101.heap _; rw [e101]; exact ⟨rfl, N101⟩) (by decide) (by decide)
    · refine OwnGoW.st (fun _ kk => XS.icmpYes X100.here hx rfl (pc0 := 133) (pc' := 143) rfl (hb hby at_133) rfl (feq (hm1 : ¬ ((p6 &&& (3 : Int32)) = (1 : Int32)))).2 (by decide) (by decide) kk) ?_
      show OwnGoW p e below s Z own_EL _ _ _ T100 (mkF m 143 #[.val (.int p1), .val (.int p2), .val (.int p3), .val (.int p4), .val (.int p5), .val (.int p6), .val (.int (1 : Int32)), .val (.int c0), .val (.int c1), .val (.int c2), .val (.ref x98), .val (.ref b99), .val (.int (p6 &&& (3 : Int32))), .unset, .unset] [])
      refine OwnGoW.st (fun _ kk => XS.iload X100.here hx rfl (hb hby at_143) rfl  kk) ?_
      show OwnGoW p e below s Z own_EL _ _ _ T100 (mkF m 145 #[.val (.int p1), .val (.int p2), .val (.int p3), .val (.int p4), .val (.int p5), .val (.int p6), .val (.int (1 : Int32)), .val (.int c0), .val (.int c1), .val (.int c2), .val (.ref x98), .val (.ref b99), .val (.int (p6 &&& (3 : Int32))), .unset, .unset] [(.int (p6 &&& (3 : Int32)))])
      refine OwnGoW.st (fun _ kk => XS.iconst X100.here hx rfl (hb hby at_145) kk) ?_
      show OwnGoW p e below s Z own_EL _ _ _ T100 (mkF m 146 #[.val (.int p1), .val (.int p2), .val (.int p3), .val (.int p4), .val (.int p5), .val (.int p6), .val (.int (1 : Int32)), .val (.int c0), .val (.int c1), .val (.int c2), .val (.ref x98), .val (.ref b99), .val (.int (p6 &&& (3 : Int32))), .unset, .unset] [(.int (2 : Int32)), (.int (p6 &&& (3 : Int32)))])
      by_cases hm2 : (p6 &&& (3 : Int32)) = (2 : Int32)
      · refine OwnGoW.st (fun _ kk => XS.icmpNo X100.here hx rfl (hb hby at_146) rfl (teq (hm2 : (p6 &&& (3 : Int32)) = (2 : Int32))).2 kk) ?_
        show OwnGoW p e below s Z own_EL _ _ _ T100 (mkF m 149 #[.val (.int p1), .val (.int p2), .val (.int p3), .val (.int p4), .val (.int p5), .val (.int p6), .val (.int (1 : Int32)), .val (.int c0), .val (.int c1), .val (.int c2), .val (.ref x98), .val (.ref b99), .val (.int (p6 &&& (3 : Int32))), .unset, .unset] [])
        refine OwnGoW.st (fun _ kk => XS.iload X100.here hx rfl (hb hby at_149) rfl  kk) ?_
        show OwnGoW p e below s Z own_EL _ _ _ T100 (mkF m 151 #[.val (.int p1), .val (.int p2), .val (.int p3), .val (.int p4), .val (.int p5), .val (.int p6), .val (.int (1 : Int32)), .val (.int c0), .val (.int c1), .val (.int c2), .val (.ref x98), .val (.ref b99), .val (.int (p6 &&& (3 : Int32))), .unset, .unset] [(.int c1)])
        refine OwnGoW.st (fun _ kk => XS.istore X100.here hx rfl (hb hby at_151) rfl (l' := #[.val (.int p1), .val (.int p2), .val (.int p3), .val (.int p4), .val (.int p5), .val (.int p6), .val (.int (1 : Int32)), .val (.int c0), .val (.int c1), .val (.int c2), .val (.ref x98), .val (.ref b99), .val (.int (p6 &&& (3 : Int32))), .val (.int c1), .unset]) rfl kk) ?_
        show OwnGoW p e below s Z own_EL _ _ _ T100 (mkF m 153 #[.val (.int p1), .val (.int p2), .val (.int p3), .val (.int p4), .val (.int p5), .val (.int p6), .val (.int (1 : Int32)), .val (.int c0), .val (.int c1), .val (.int c2), .val (.ref x98), .val (.ref b99), .val (.int (p6 &&& (3 : Int32))), .val (.int c1), .unset] [])
        refine OwnGoW.st (fun _ kk => XS.goto X100.here hx rfl (pc0 := 153) (pc' := 174) rfl (hb hby at_153) (by decide) (by decide) kk) ?_
        show OwnGoW p e below s Z own_EL _ _ _ T100 (mkF m 174 #[.val (.int p1), .val (.int p2), .val (.int p3), .val (.int p4), .val (.int p5), .val (.int p6), .val (.int (1 : Int32)), .val (.int c0), .val (.int c1), .val (.int c2), .val (.ref x98), .val (.ref b99), .val (.int (p6 &&& (3 : Int32))), .val (.int c1), .unset] [])
        refine OwnGoW.st (fun _ kk => XS.iload X100.here hx rfl (hb hby at_174) rfl  kk) ?_
        show OwnGoW p e below s Z own_EL _ _ _ T100 (mkF m 176 #[.val (.int p1), .val (.int p2), .val (.int p3), .val (.int p4), .val (.int p5), .val (.int p6), .val (.int (1 : Int32)), .val (.int c0), .val (.int c1), .val (.int c2), .val (.ref x98), .val (.ref b99), .val (.int (p6 &&& (3 : Int32))), .val (.int c1), .unset] [(.int (1 : Int32))])
        refine OwnGoW.st (fun _ kk => XS.iconst X100.here hx rfl (hb hby at_176) kk) ?_
        show OwnGoW p e below s Z own_EL _ _ _ T100 (mkF m 177 #[.val (.int p1), .val (.int p2), .val (.int p3), .val (.int p4), .val (.int p5), .val (.int p6), .val (.int (1 : Int32)), .val (.int c0), .val (.int c1), .val (.int c2), .val (.ref x98), .val (.ref b99), .val (.int (p6 &&& (3 : Int32))), .val (.int c1), .unset] [(.int (1 : Int32)), (.int (1 : Int32))])
        refine OwnGoW.st (fun _ kk => XS.icmpNo X100.here hx rfl (hb hby at_177) rfl (flt ((by decide) : ¬ ((1 : Int32) < (1 : Int32)))).1 kk) ?_
        show OwnGoW p e below s Z own_EL _ _ _ T100 (mkF m 180 #[.val (.int p1), .val (.int p2), .val (.int p3), .val (.int p4), .val (.int p5), .val (.int p6), .val (.int (1 : Int32)), .val (.int c0), .val (.int c1), .val (.int c2), .val (.ref x98), .val (.ref b99), .val (.int (p6 &&& (3 : Int32))), .val (.int c1), .unset] [])
        refine OwnGoW.st (fun _ kk => XS.iload X100.here hx rfl (hb hby at_180) rfl  kk) ?_
        show OwnGoW p e below s Z own_EL _ _ _ T100 (mkF m 182 #[.val (.int p1), .val (.int p2), .val (.int p3), .val (.int p4), .val (.int p5), .val (.int p6), .val (.int (1 : Int32)), .val (.int c0), .val (.int c1), .val (.int c2), .val (.ref x98), .val (.ref b99), .val (.int (p6 &&& (3 : Int32))), .val (.int c1), .unset] [(.int c1)])
        refine OwnGoW.st (fun _ kk => XS.iload X100.here hx rfl (hb hby at_182) rfl  kk) ?_
        show OwnGoW p e below s Z own_EL _ _ _ T100 (mkF m 184 #[.val (.int p1), .val (.int p2), .val (.int p3), .val (.int p4), .val (.int p5), .val (.int p6), .val (.int (1 : Int32)), .val (.int c0), .val (.int c1), .val (.int c2), .val (.ref x98), .val (.ref b99), .val (.int (p6 &&& (3 : Int32))), .val (.int c1), .unset] [(.int c0), (.int c1)])
        by_cases he_c1_c0 : c1 = c0
        · refine OwnGoW.st (fun _ kk => XS.icmpYes X100.here hx rfl (pc0 := 184) (pc' := 213) rfl (hb hby at_184) rfl (teq (he_c1_c0 : c1 = c0)).1 (by decide) (by decide) kk) ?_
          show OwnGoW p e below s Z own_EL _ _ _ T100 (mkF m 213 #[.val (.int p1), .val (.int p2), .val (.int p3), .val (.int p4), .val (.int p5), .val (.int p6), .val (.int (1 : Int32)), .val (.int c0), .val (.int c1), .val (.int c2), .val (.ref x98), .val (.ref b99), .val (.int (p6 &&& (3 : Int32))), .val (.int c1), .unset] [])
          refine OwnGoW.st (fun _ kk => XS.iconst X100.here hx rfl (hb hby at_213) kk) ?_
          show OwnGoW p e below s Z own_EL _ _ _ T100 (mkF m 214 #[.val (.int p1), .val (.int p2), .val (.int p3), .val (.int p4), .val (.int p5), .val (.int p6), .val (.int (1 : Int32)), .val (.int c0), .val (.int c1), .val (.int c2), .val (.ref x98), .val (.ref b99), .val (.int (p6 &&& (3 : Int32))), .val (.int c1), .unset] [(.int (1 : Int32))])
          refine OwnGoW.st (fun _ kk => XS.goto X100.here hx rfl (pc0 := 214) (pc' := 218) rfl (hb hby at_214) (by decide) (by decide) kk) ?_
          show OwnGoW p e below s Z own_EL _ _ _ T100 (mkF m 218 #[.val (.int p1), .val (.int p2), .val (.int p3), .val (.int p4), .val (.int p5), .val (.int p6), .val (.int (1 : Int32)), .val (.int c0), .val (.int c1), .val (.int c2), .val (.ref x98), .val (.ref b99), .val (.int (p6 &&& (3 : Int32))), .val (.int c1), .unset] [(.int (1 : Int32))])
          refine OwnGoW.st (fun _ kk => XS.istore X100.here hx rfl (hb hby at_218) rfl (l' := #[.val (.int p1), .val (.int p2), .val (.int p3), .val (.int p4), .val (.int p5), .val (.int p6), .val (.int (1 : Int32)), .val (.int c0), .val (.int c1), .val (.int c2), .val (.ref x98), .val (.ref b99), .val (.int (p6 &&& (3 : Int32))), .val (.int c1), .val (.int (1 : Int32))]) rfl kk) ?_
          show OwnGoW p e below s Z own_EL _ _ _ T100 (mkF m 220 #[.val (.int p1), .val (.int p2), .val (.int p3), .val (.int p4), .val (.int p5), .val (.int p6), .val (.int (1 : Int32)), .val (.int c0), .val (.int c1), .val (.int c2), .val (.ref x98), .val (.ref b99), .val (.int (p6 &&& (3 : Int32))), .val (.int c1), .val (.int (1 : Int32))] [])
          refine OwnGoW.st (fun _ kk => XS.aload X100.here hx rfl (hb hby at_220) rfl rfl  kk) ?_
          show OwnGoW p e below s Z own_EL _ _ _ T100 (mkF m 222 #[.val (.int p1), .val (.int p2), .val (.int p3), .val (.int p4), .val (.int p5), .val (.int p6), .val (.int (1 : Int32)), .val (.int c0), .val (.int c1), .val (.int c2), .val (.ref x98), .val (.ref b99), .val (.int (p6 &&& (3 : Int32))), .val (.int c1), .val (.int (1 : Int32))] [(.ref b99)])
          refine OwnGoW.st (fun _ kk => XS.iload X100.here hx rfl (hb hby at_222) rfl  kk) ?_
          show OwnGoW p e below s Z own_EL _ _ _ T100 (mkF m 224 #[.val (.int p1), .val (.int p2), .val (.int p3), .val (.int p4), .val (.int p5), .val (.int p6), .val (.int (1 : Int32)), .val (.int c0), .val (.int c1), .val (.int c2), .val (.ref x98), .val (.ref b99), .val (.int (p6 &&& (3 : Int32))), .val (.int c1), .val (.int (1 : Int32))] [(.int c1), (.ref b99)])
          have hlt_ : c1 < (128 : Int32) := he_c1_c0 ▸ P_c0.2
          obtain ⟨cq102, kq102, q102a, q102b, q102c⟩ := isOf hZ rfl E_b99
          obtain ⟨_, _, ⟨T102, L102, k102, n102⟩, -, X102, ⟨Lc102, hQ102, l102, y102, z102⟩, st102⟩ := X100.virtualBack hx (y := (⟨"io/quintet/Alphabet", "contains", "(C)Z"⟩ : MethodName)) (z := (⟨"io/quintet/Alphabet", "contains", "(C)Z"⟩ : MethodName)) hown (mvT hZ (hw _ (List.mem_of_getElem? (i := 40) rfl))) (mvT hZ (hw _ (List.mem_of_getElem? (i := 41) rfl))) (notFace_of_selects (args := #[]) (mvT hZ (hw _ (List.mem_of_getElem? (i := 43) rfl)))) (mvT hZ (hw _ (List.mem_of_getElem? (i := 43) rfl))) (mvT hZ (hw _ (List.mem_of_getElem? (i := 42) rfl))) (by decide) (backOf (W := 0) (rmconY l Z a0 hw [] b99 b100 (own_tab [(c0, 0)]) c1 T100.heap n0 Z_ Fb100 G100 P_c1.1 hlt_ (own_tabY (c' := c0) (i := 0) (List.mem_of_getElem? (i := 0) rfl) he_c1_c0 (own_tabI rfl (by decide : own_neg [0])))) hZ (hw _ (List.mem_of_getElem? (i := 44) rfl)) (hw _ (List.mem_of_getElem? (i := 10) rfl)) (by decide) (by decide)) q102a q102c (g := (mkF m 224 #[.val (.int p1), .val (.int p2), .val (.int p3), .val (.int p4), .val (.int p5), .val (.int p6), .val (.int (1 : Int32)), .val (.int c0), .val (.int c1), .val (.int c2), .val (.ref x98), .val (.ref b99), .val (.int (p6 &&& (3 : Int32))), .val (.int c1), .val (.int (1 : Int32))] [(.int c1), (.ref b99)])) rfl (by rw [hml]; rfl) (Steps.refl _) (argsL := [(.int c1)]) (rest := []) (lenOf pd_5 rfl) rfl (by show 2 * 0 + _ ≤ _; exact Nat.le_of_eq rfl) (hb hby at_224) (fun _ _ => ⟨rfl, rfl, (by decide : 4 + 0 ≤ _), (by decide : 136 + 0 ≤ _)⟩)
          dsimp only [Pt.U, Pt.locs, Pt.cells, Pt.slots] at X102 l102 y102 z102 st102 hQ102
          subst l102 y102 z102
          obtain ⟨rfl, N102q, e102⟩ := hQ102
          have N102 := Fr.app N100 N102q
          refine OwnGoW.st (fun _ kk => st102.trans kk) ?_
          show OwnGoW p e below s Z own_EL _ _ _ T102 (mkF m 227 #[.val (.int p1), .val (.int p2), .val (.int p3), .val (.int p4), .val (.int p5), .val (.int p6), .val (.int (1 : Int32)), .val (.int c0), .val (.int c1), .val (.int c2), .val (.ref x98), .val (.ref b99), .val (.int (p6 &&& (3 : Int32))), .val (.int c1), .val (.int (1 : Int32))] [(.int (1 : Int32))])
          refine OwnGoW.st (fun _ kk => XS.iload X102.here hx rfl (hb hby at_227) rfl  kk) ?_
          show OwnGoW p e below s Z own_EL _ _ _ T102 (mkF m 229 #[.val (.int p1), .val (.int p2), .val (.int p3), .val (.int p4), .val (.int p5), .val (.int p6), .val (.int (1 : Int32)), .val (.int c0), .val (.int c1), .val (.int c2), .val (.ref x98), .val (.ref b99), .val (.int (p6 &&& (3 : Int32))), .val (.int c1), .val (.int (1 : Int32))] [(.int (1 : Int32)), (.int (1 : Int32))])
          refine OwnGoW.st (fun _ kk => XS.icmpNo X102.here hx rfl (hb hby at_229) rfl (teq ((by decide) : (1 : Int32) = (1 : Int32))).2 kk) ?_
          show OwnGoW p e below s Z own_EL _ _ _ T102 (mkF m 232 #[.val (.int p1), .val (.int p2), .val (.int p3), .val (.int p4), .val (.int p5), .val (.int p6), .val (.int (1 : Int32)), .val (.int c0), .val (.int c1), .val (.int c2), .val (.ref x98), .val (.ref b99), .val (.int (p6 &&& (3 : Int32))), .val (.int c1), .val (.int (1 : Int32))] [])
          refine OwnGoW.st (fun _ kk => XS.iconst X102.here hx rfl (hb hby at_232) kk) ?_
          show OwnGoW p e below s Z own_EL _ _ _ T102 (mkF m 233 #[.val (.int p1), .val (.int p2), .val (.int p3), .val (.int p4), .val (.int p5), .val (.int p6), .val (.int (1 : Int32)), .val (.int c0), .val (.int c1), .val (.int c2), .val (.ref x98), .val (.ref b99), .val (.int (p6 &&& (3 : Int32))), .val (.int c1), .val (.int (1 : Int32))] [(.int (1 : Int32))])
          refine OwnGoW.st (fun _ kk => XS.goto X102.here hx rfl (pc0 := 233) (pc' := 237) rfl (hb hby at_233) (by decide) (by decide) kk) ?_
          show OwnGoW p e below s Z own_EL _ _ _ T102 (mkF m 237 #[.val (.int p1), .val (.int p2), .val (.int p3), .val (.int p4), .val (.int p5), .val (.int p6), .val (.int (1 : Int32)), .val (.int c0), .val (.int c1), .val (.int c2), .val (.ref x98), .val (.ref b99), .val (.int (p6 &&& (3 : Int32))), .val (.int c1), .val (.int (1 : Int32))] [(.int (1 : Int32))])
          exact OwnGoW.retN (s := s) (vm0 := s.vm) X102 hS_ hk_ e102 hZ (own_hEL hw) CR hx (t := .boolean) hret hlk (by simp) (hb hby at_237) (by show Q0 Z p1 p2 p3 p4 p5 p6 zc fmv h0 n0 _ T102.heap _; rw [e102]; exact ⟨rfl, N102⟩) (by decide) (by decide)
        · refine OwnGoW.st (fun _ kk => XS.icmpNo X100.here hx rfl (hb hby at_184) rfl (feq (he_c1_c0 : ¬ (c1 = c0))).1 kk) ?_
          show OwnGoW p e below s Z own_EL _ _ _ T100 (mkF m 187 #[.val (.int p1), .val (.int p2), .val (.int p3), .val (.int p4), .val (.int p5), .val (.int p6), .val (.int (1 : Int32)), .val (.int c0), .val (.int c1), .val (.int c2), .val (.ref x98), .val (.ref b99), .val (.int (p6 &&& (3 : Int32))), .val (.int c1), .unset] [])
          refine OwnGoW.st (fun _ kk => XS.iload X100.here hx rfl (hb hby at_187) rfl  kk) ?_
          show OwnGoW p e below s Z own_EL _ _ _ T100 (mkF m 189 #[.val (.int p1), .val (.int p2), .val (.int p3), .val (.int p4), .val (.int p5), .val (.int p6), .val (.int (1 : Int32)), .val (.int c0), .val (.int c1), .val (.int c2), .val (.ref x98), .val (.ref b99), .val (.int (p6 &&& (3 : Int32))), .val (.int c1), .unset] [(.int (1 : Int32))])
          refine OwnGoW.st (fun _ kk => XS.iconst X100.here hx rfl (hb hby at_189) kk) ?_
          show OwnGoW p e below s Z own_EL _ _ _ T100 (mkF m 190 #[.val (.int p1), .val (.int p2), .val (.int p3), .val (.int p4), .val (.int p5), .val (.int p6), .val (.int (1 : Int32)), .val (.int c0), .val (.int c1), .val (.int c2), .val (.ref x98), .val (.ref b99), .val (.int (p6 &&& (3 : Int32))), .val (.int c1), .unset] [(.int (2 : Int32)), (.int (1 : Int32))])
          refine OwnGoW.st (fun _ kk => XS.icmpYes X100.here hx rfl (pc0 := 190) (pc' := 200) rfl (hb hby at_190) rfl (tlt ((by decide) : (1 : Int32) < (2 : Int32))).1 (by decide) (by decide) kk) ?_
          show OwnGoW p e below s Z own_EL _ _ _ T100 (mkF m 200 #[.val (.int p1), .val (.int p2), .val (.int p3), .val (.int p4), .val (.int p5), .val (.int p6), .val (.int (1 : Int32)), .val (.int c0), .val (.int c1), .val (.int c2), .val (.ref x98), .val (.ref b99), .val (.int (p6 &&& (3 : Int32))), .val (.int c1), .unset] [])
          refine OwnGoW.st (fun _ kk => XS.iload X100.here hx rfl (hb hby at_200) rfl  kk) ?_
          show OwnGoW p e below s Z own_EL _ _ _ T100 (mkF m 202 #[.val (.int p1), .val (.int p2), .val (.int p3), .val (.int p4), .val (.int p5), .val (.int p6), .val (.int (1 : Int32)), .val (.int c0), .val (.int c1), .val (.int c2), .val (.ref x98), .val (.ref b99), .val (.int (p6 &&& (3 : Int32))), .val (.int c1), .unset] [(.int (1 : Int32))])
          refine OwnGoW.st (fun _ kk => XS.iconst X100.here hx rfl (hb hby at_202) kk) ?_
          show OwnGoW p e below s Z own_EL _ _ _ T100 (mkF m 203 #[.val (.int p1), .val (.int p2), .val (.int p3), .val (.int p4), .val (.int p5), .val (.int p6), .val (.int (1 : Int32)), .val (.int c0), .val (.int c1), .val (.int c2), .val (.ref x98), .val (.ref b99), .val (.int (p6 &&& (3 : Int32))), .val (.int c1), .unset] [(.int (3 : Int32)), (.int (1 : Int32))])
          refine OwnGoW.st (fun _ kk => XS.icmpYes X100.here hx rfl (pc0 := 203) (pc' := 217) rfl (hb hby at_203) rfl (tlt ((by decide) : (1 : Int32) < (3 : Int32))).1 (by decide) (by decide) kk) ?_
          show OwnGoW p e below s Z own_EL _ _ _ T100 (mkF m 217 #[.val (.int p1), .val (.int p2), .val (.int p3), .val (.int p4), .val (.int p5), .val (.int p6), .val (.int (1 : Int32)), .val (.int c0), .val (.int c1), .val (.int c2), .val (.ref x98), .val (.ref b99), .val (.int (p6 &&& (3 : Int32))), .val (.int c1), .unset] [])
          refine OwnGoW.st (fun _ kk => XS.iconst X100.here hx rfl (hb hby at_217) kk) ?_
          show OwnGoW p e below s Z own_EL _ _ _ T100 (mkF m 218 #[.val (.int p1), .val (.int p2), .val (.int p3), .val (.int p4), .val (.int p5), .val (.int p6), .val (.int (1 : Int32)), .val (.int c0), .val (.int c1), .val (.int c2), .val (.ref x98), .val (.ref b99), .val (.int (p6 &&& (3 : Int32))), .val (.int c1), .unset] [(.int (0 : Int32))])
          refine OwnGoW.st (fun _ kk => XS.istore X100.here hx rfl (hb hby at_218) rfl (l' := #[.val (.int p1), .val (.int p2), .val (.int p3), .val (.int p4), .val (.int p5), .val (.int p6), .val (.int (1 : Int32)), .val (.int c0), .val (.int c1), .val (.int c2), .val (.ref x98), .val (.ref b99), .val (.int (p6 &&& (3 : Int32))), .val (.int c1), .val (.int (0 : Int32))]) rfl kk) ?_
          show OwnGoW p e below s Z own_EL _ _ _ T100 (mkF m 220 #[.val (.int p1), .val (.int p2), .val (.int p3), .val (.int p4), .val (.int p5), .val (.int p6), .val (.int (1 : Int32)), .val (.int c0), .val (.int c1), .val (.int c2), .val (.ref x98), .val (.ref b99), .val (.int (p6 &&& (3 : Int32))), .val (.int c1), .val (.int (0 : Int32))] [])
          refine OwnGoW.st (fun _ kk => XS.aload X100.here hx rfl (hb hby at_220) rfl rfl  kk) ?_
          show OwnGoW p e below s Z own_EL _ _ _ T100 (mkF m 222 #[.val (.int p1), .val (.int p2), .val (.int p3), .val (.int p4), .val (.int p5), .val (.int p6), .val (.int (1 : Int32)), .val (.int c0), .val (.int c1), .val (.int c2), .val (.ref x98), .val (.ref b99), .val (.int (p6 &&& (3 : Int32))), .val (.int c1), .val (.int (0 : Int32))] [(.ref b99)])
          refine OwnGoW.st (fun _ kk => XS.iload X100.here hx rfl (hb hby at_222) rfl  kk) ?_
          show OwnGoW p e below s Z own_EL _ _ _ T100 (mkF m 224 #[.val (.int p1), .val (.int p2), .val (.int p3), .val (.int p4), .val (.int p5), .val (.int p6), .val (.int (1 : Int32)), .val (.int c0), .val (.int c1), .val (.int c2), .val (.ref x98), .val (.ref b99), .val (.int (p6 &&& (3 : Int32))), .val (.int c1), .val (.int (0 : Int32))] [(.int c1), (.ref b99)])
          by_cases hlt_ : c1 < (128 : Int32)
          · obtain ⟨cq103, kq103, q103a, q103b, q103c⟩ := isOf hZ rfl E_b99
            obtain ⟨_, _, ⟨T103, L103, k103, n103⟩, -, X103, ⟨Lc103, hQ103, l103, y103, z103⟩, st103⟩ := X100.virtualBack hx (y := (⟨"io/quintet/Alphabet", "contains", "(C)Z"⟩ : MethodName)) (z := (⟨"io/quintet/Alphabet", "contains", "(C)Z"⟩ : MethodName)) hown (mvT hZ (hw _ (List.mem_of_getElem? (i := 40) rfl))) (mvT hZ (hw _ (List.mem_of_getElem? (i := 41) rfl))) (notFace_of_selects (args := #[]) (mvT hZ (hw _ (List.mem_of_getElem? (i := 43) rfl)))) (mvT hZ (hw _ (List.mem_of_getElem? (i := 43) rfl))) (mvT hZ (hw _ (List.mem_of_getElem? (i := 42) rfl))) (by decide) (backOf (W := 0) (rmconN l Z a0 hw [] b99 b100 (own_tab [(c0, 0)]) c1 T100.heap n0 Z_ Fb100 G100 P_c1.1 hlt_ (own_tabN P_c1.1 (own_cons P_c0.1 he_c1_c0 own_nil))) hZ (hw _ (List.mem_of_getElem? (i := 44) rfl)) (hw _ (List.mem_of_getElem? (i := 10) rfl)) (by decide) (by decide)) q103a q103c (g := (mkF m 224 #[.val (.int p1), .val (.int p2), .val (.int p3), .val (.int p4), .val (.int p5), .val (.int p6), .val (.int (1 : Int32)), .val (.int c0), .val (.int c1), .val (.int c2), .val (.ref x98), .val (.ref b99), .val (.int (p6 &&& (3 : Int32))), .val (.int c1), .val (.int (0 : Int32))] [(.int c1), (.ref b99)])) rfl (by rw [hml]; rfl) (Steps.refl _) (argsL := [(.int c1)]) (rest := []) (lenOf pd_5 rfl) rfl (by show 2 * 0 + _ ≤ _; exact Nat.le_of_eq rfl) (hb hby at_224) (fun _ _ => ⟨rfl, rfl, (by decide : 4 + 0 ≤ _), (by decide : 136 + 0 ≤ _)⟩)
            dsimp only [Pt.U, Pt.locs, Pt.cells, Pt.slots] at X103 l103 y103 z103 st103 hQ103
            subst l103 y103 z103
            obtain ⟨rfl, N103q, e103⟩ := hQ103
            have N103 := Fr.app N100 N103q
            refine OwnGoW.st (fun _ kk => st103.trans kk) ?_
            show OwnGoW p e below s Z own_EL _ _ _ T103 (mkF m 227 #[.val (.int p1), .val (.int p2), .val (.int p3), .val (.int p4), .val (.int p5), .val (.int p6), .val (.int (1 : Int32)), .val (.int c0), .val (.int c1), .val (.int c2), .val (.ref x98), .val (.ref b99), .val (.int (p6 &&& (3 : Int32))), .val (.int c1), .val (.int (0 : Int32))] [(.int (0 : Int32))])
            refine OwnGoW.st (fun _ kk => XS.iload X103.here hx rfl (hb hby at_227) rfl  kk) ?_
            show OwnGoW p e below s Z own_EL _ _ _ T103 (mkF m 229 #[.val (.int p1), .val (.int p2), .val (.int p3), .val (.int p4), .val (.int p5), .val (.int p6), .val (.int (1 : Int32)), .val (.int c0), .val (.int c1), .val (.int c2), .val (.ref x98), .val (.ref b99), .val (.int (p6 &&& (3 : Int32))), .val (.int c1), .val (.int (0 : Int32))] [(.int (0 : Int32)), (.int (0 : Int32))])
            refine OwnGoW.st (fun _ kk => XS.icmpNo X103.here hx rfl (hb hby at_229) rfl (teq ((by decide) : (0 : Int32) = (0 : Int32))).2 kk) ?_
            show OwnGoW p e below s Z own_EL _ _ _ T103 (mkF m 232 #[.val (.int p1), .val (.int p2), .val (.int p3), .val (.int p4), .val (.int p5), .val (.int p6), .val (.int (1 : Int32)), .val (.int c0), .val (.int c1), .val (.int c2), .val (.ref x98), .val (.ref b99), .val (.int (p6 &&& (3 : Int32))), .val (.int c1), .val (.int (0 : Int32))] [])
            refine OwnGoW.st (fun _ kk => XS.iconst X103.here hx rfl (hb hby at_232) kk) ?_
            show OwnGoW p e below s Z own_EL _ _ _ T103 (mkF m 233 #[.val (.int p1), .val (.int p2), .val (.int p3), .val (.int p4), .val (.int p5), .val (.int p6), .val (.int (1 : Int32)), .val (.int c0), .val (.int c1), .val (.int c2), .val (.ref x98), .val (.ref b99), .val (.int (p6 &&& (3 : Int32))), .val (.int c1), .val (.int (0 : Int32))] [(.int (1 : Int32))])
            refine OwnGoW.st (fun _ kk => XS.goto X103.here hx rfl (pc0 := 233) (pc' := 237) rfl (hb hby at_233) (by decide) (by decide) kk) ?_
            show OwnGoW p e below s Z own_EL _ _ _ T103 (mkF m 237 #[.val (.int p1), .val (.int p2), .val (.int p3), .val (.int p4), .val (.int p5), .val (.int p6), .val (.int (1 : Int32)), .val (.int c0), .val (.int c1), .val (.int c2), .val (.ref x98), .val (.ref b99), .val (.int (p6 &&& (3 : Int32))), .val (.int c1), .val (.int (0 : Int32))] [(.int (1 : Int32))])
            exact OwnGoW.retN (s := s) (vm0 := s.vm) X103 hS_ hk_ e103 hZ (own_hEL hw) CR hx (t := .boolean) hret hlk (by simp) (hb hby at_237) (by show Q0 Z p1 p2 p3 p4 p5 p6 zc fmv h0 n0 _ T103.heap _; rw [e103]; exact ⟨rfl, N103⟩) (by decide) (by decide)
          · obtain ⟨cq104, kq104, q104a, q104b, q104c⟩ := isOf hZ rfl E_b99
            obtain ⟨_, _, ⟨T104, L104, k104, n104⟩, -, X104, ⟨Lc104, hQ104, l104, y104, z104⟩, st104⟩ := X100.virtualBack hx (y := (⟨"io/quintet/Alphabet", "contains", "(C)Z"⟩ : MethodName)) (z := (⟨"io/quintet/Alphabet", "contains", "(C)Z"⟩ : MethodName)) hown (mvT hZ (hw _ (List.mem_of_getElem? (i := 40) rfl))) (mvT hZ (hw _ (List.mem_of_getElem? (i := 41) rfl))) (notFace_of_selects (args := #[]) (mvT hZ (hw _ (List.mem_of_getElem? (i := 43) rfl)))) (mvT hZ (hw _ (List.mem_of_getElem? (i := 43) rfl))) (mvT hZ (hw _ (List.mem_of_getElem? (i := 42) rfl))) (by decide) (backOf (W := 0) (rmconB l Z a0 hw [] b99 b100 (own_tab [(c0, 0)]) c1 T100.heap n0 Z_ Fb100 G100 P_c1.1 hlt_) hZ (hw _ (List.mem_of_getElem? (i := 44) rfl)) (hw _ (List.mem_of_getElem? (i := 10) rfl)) (by decide) (by decide)) q104a q104c (g := (mkF m 224 #[.val (.int p1), .val (.int p2), .val (.int p3), .val (.int p4), .val (.int p5), .val (.int p6), .val (.int (1 : Int32)), .val (.int c0), .val (.int c1), .val (.int c2), .val (.ref x98), .val (.ref b99), .val (.int (p6 &&& (3 : Int32))), .val (.int c1), .val (.int (0 : Int32))] [(.int c1), (.ref b99)])) rfl (by rw [hml]; rfl) (Steps.refl _) (argsL := [(.int c1)]) (rest := []) (lenOf pd_5 rfl) rfl (by show 2 * 0 + _ ≤ _; exact Nat.le_of_eq rfl) (hb hby at_224) (fun _ _ => ⟨rfl, rfl, (by decide : 4 + 0 ≤ _), (by decide : 136 + 0 ≤ _)⟩)
            dsimp only [Pt.U, Pt.locs, Pt.cells, Pt.slots] at X104 l104 y104 z104 st104 hQ104
            subst l104 y104 z104
            obtain ⟨rfl, N104q, e104⟩ := hQ104
            have N104 := Fr.app N100 N104q
            refine OwnGoW.st (fun _ kk => st104.trans kk) ?_
            show OwnGoW p e below s Z own_EL _ _ _ T104 (mkF m 227 #[.val (.int p1), .val (.int p2), .val (.int p3), .val (.int p4), .val (.int p5), .val (.int p6), .val (.int (1 : Int32)), .val (.int c0), .val (.int c1), .val (.int c2), .val (.ref x98), .val (.ref b99), .val (.int (p6 &&& (3 : Int32))), .val (.int c1), .val (.int (0 : Int32))] [(.int (0 : Int32))])
            refine OwnGoW.st (fun _ kk => XS.iload X104.here hx rfl (hb hby at_227) rfl  kk) ?_
            show OwnGoW p e below s Z own_EL _ _ _ T104 (mkF m 229 #[.val (.int p1), .val (.int p2), .val (.int p3), .val (.int p4), .val (.int p5), .val (.int p6), .val (.int (1 : Int32)), .val (.int c0), .val (.int c1), .val (.int c2), .val (.ref x98), .val (.ref b99), .val (.int (p6 &&& (3 : Int32))), .val (.int c1), .val (.int (0 : Int32))] [(.int (0 : Int32)), (.int (0 : Int32))])
            refine OwnGoW.st (fun _ kk => XS.icmpNo X104.here hx rfl (hb hby at_229) rfl (teq ((by decide) : (0 : Int32) = (0 : Int32))).2 kk) ?_
            show OwnGoW p e below s Z own_EL _ _ _ T104 (mkF m 232 #[.val (.int p1), .val (.int p2), .val (.int p3), .val (.int p4), .val (.int p5), .val (.int p6), .val (.int (1 : Int32)), .val (.int c0), .val (.int c1), .val (.int c2), .val (.ref x98), .val (.ref b99), .val (.int (p6 &&& (3 : Int32))), .val (.int c1), .val (.int (0 : Int32))] [])
            refine OwnGoW.st (fun _ kk => XS.iconst X104.here hx rfl (hb hby at_232) kk) ?_
            show OwnGoW p e below s Z own_EL _ _ _ T104 (mkF m 233 #[.val (.int p1), .val (.int p2), .val (.int p3), .val (.int p4), .val (.int p5), .val (.int p6), .val (.int (1 : Int32)), .val (.int c0), .val (.int c1), .val (.int c2), .val (.ref x98), .val (.ref b99), .val (.int (p6 &&& (3 : Int32))), .val (.int c1), .val (.int (0 : Int32))] [(.int (1 : Int32))])
            refine OwnGoW.st (fun _ kk => XS.goto X104.here hx rfl (pc0 := 233) (pc' := 237) rfl (hb hby at_233) (by decide) (by decide) kk) ?_
            show OwnGoW p e below s Z own_EL _ _ _ T104 (mkF m 237 #[.val (.int p1), .val (.int p2), .val (.int p3), .val (.int p4), .val (.int p5), .val (.int p6), .val (.int (1 : Int32)), .val (.int c0), .val (.int c1), .val (.int c2), .val (.ref x98), .val (.ref b99), .val (.int (p6 &&& (3 : Int32))), .val (.int c1), .val (.int (0 : Int32))] [(.int (1 : Int32))])
            exact OwnGoW.retN (s := s) (vm0 := s.vm) X104 hS_ hk_ e104 hZ (own_hEL hw) CR hx (t := .boolean) hret hlk (by simp) (hb hby at_237) (by show Q0 Z p1 p2 p3 p4 p5 p6 zc fmv h0 n0 _ T104.heap _; rw [e104]; exact ⟨rfl, N104⟩) (by decide) (by decide)
      · refine OwnGoW.st (fun _ kk => XS.icmpYes X100.here hx rfl (pc0 := 146) (pc' := 156) rfl (hb hby at_146) rfl (feq (hm2 : ¬ ((p6 &&& (3 : Int32)) = (2 : Int32)))).2 (by decide) (by decide) kk) ?_
        show OwnGoW p e below s Z own_EL _ _ _ T100 (mkF m 156 #[.val (.int p1), .val (.int p2), .val (.int p3), .val (.int p4), .val (.int p5), .val (.int p6), .val (.int (1 : Int32)), .val (.int c0), .val (.int c1), .val (.int c2), .val (.ref x98), .val (.ref b99), .val (.int (p6 &&& (3 : Int32))), .unset, .unset] [])
        refine OwnGoW.st (fun _ kk => XS.iload X100.here hx rfl (hb hby at_156) rfl  kk) ?_
        show OwnGoW p e below s Z own_EL _ _ _ T100 (mkF m 158 #[.val (.int p1), .val (.int p2), .val (.int p3), .val (.int p4), .val (.int p5), .val (.int p6), .val (.int (1 : Int32)), .val (.int c0), .val (.int c1), .val (.int c2), .val (.ref x98), .val (.ref b99), .val (.int (p6 &&& (3 : Int32))), .unset, .unset] [(.int (p6 &&& (3 : Int32)))])
        refine OwnGoW.st (fun _ kk => XS.iconst X100.here hx rfl (hb hby at_158) kk) ?_
        show OwnGoW p e below s Z own_EL _ _ _ T100 (mkF m 159 #[.val (.int p1), .val (.int p2), .val (.int p3), .val (.int p4), .val (.int p5), .val (.int p6), .val (.int (1 : Int32)), .val (.int c0), .val (.int c1), .val (.int c2), .val (.ref x98), .val (.ref b99), .val (.int (p6 &&& (3 : Int32))), .unset, .unset] [(.int (3 : Int32)), (.int (p6 &&& (3 : Int32)))])
        by_cases hm3 : (p6 &&& (3 : Int32)) = (3 : Int32)
        · refine OwnGoW.st (fun _ kk => XS.icmpNo X100.here hx rfl (hb hby at_159) rfl (teq (hm3 : (p6 &&& (3 : Int32)) = (3 : Int32))).2 kk) ?_
          show OwnGoW p e below s Z own_EL _ _ _ T100 (mkF m 162 #[.val (.int p1), .val (.int p2), .val (.int p3), .val (.int p4), .val (.int p5), .val (.int p6), .val (.int (1 : Int32)), .val (.int c0), .val (.int c1), .val (.int c2), .val (.ref x98), .val (.ref b99), .val (.int (p6 &&& (3 : Int32))), .unset, .unset] [])
          refine OwnGoW.st (fun _ kk => XS.iload X100.here hx rfl (hb hby at_162) rfl  kk) ?_
          show OwnGoW p e below s Z own_EL _ _ _ T100 (mkF m 164 #[.val (.int p1), .val (.int p2), .val (.int p3), .val (.int p4), .val (.int p5), .val (.int p6), .val (.int (1 : Int32)), .val (.int c0), .val (.int c1), .val (.int c2), .val (.ref x98), .val (.ref b99), .val (.int (p6 &&& (3 : Int32))), .unset, .unset] [(.int c2)])
          refine OwnGoW.st (fun _ kk => XS.istore X100.here hx rfl (hb hby at_164) rfl (l' := #[.val (.int p1), .val (.int p2), .val (.int p3), .val (.int p4), .val (.int p5), .val (.int p6), .val (.int (1 : Int32)), .val (.int c0), .val (.int c1), .val (.int c2), .val (.ref x98), .val (.ref b99), .val (.int (p6 &&& (3 : Int32))), .val (.int c2), .unset]) rfl kk) ?_
          show OwnGoW p e below s Z own_EL _ _ _ T100 (mkF m 166 #[.val (.int p1), .val (.int p2), .val (.int p3), .val (.int p4), .val (.int p5), .val (.int p6), .val (.int (1 : Int32)), .val (.int c0), .val (.int c1), .val (.int c2), .val (.ref x98), .val (.ref b99), .val (.int (p6 &&& (3 : Int32))), .val (.int c2), .unset] [])
          refine OwnGoW.st (fun _ kk => XS.goto X100.here hx rfl (pc0 := 166) (pc' := 174) rfl (hb hby at_166) (by decide) (by decide) kk) ?_
          show OwnGoW p e below s Z own_EL _ _ _ T100 (mkF m 174 #[.val (.int p1), .val (.int p2), .val (.int p3), .val (.int p4), .val (.int p5), .val (.int p6), .val (.int (1 : Int32)), .val (.int c0), .val (.int c1), .val (.int c2), .val (.ref x98), .val (.ref b99), .val (.int (p6 &&& (3 : Int32))), .val (.int c2), .unset] [])
          refine OwnGoW.st (fun _ kk => XS.iload X100.here hx rfl (hb hby at_174) rfl  kk) ?_
          show OwnGoW p e below s Z own_EL _ _ _ T100 (mkF m 176 #[.val (.int p1), .val (.int p2), .val (.int p3), .val (.int p4), .val (.int p5), .val (.int p6), .val (.int (1 : Int32)), .val (.int c0), .val (.int c1), .val (.int c2), .val (.ref x98), .val (.ref b99), .val (.int (p6 &&& (3 : Int32))), .val (.int c2), .unset] [(.int (1 : Int32))])
          refine OwnGoW.st (fun _ kk => XS.iconst X100.here hx rfl (hb hby at_176) kk) ?_
          show OwnGoW p e below s Z own_EL _ _ _ T100 (mkF m 177 #[.val (.int p1), .val (.int p2), .val (.int p3), .val (.int p4), .val (.int p5), .val (.int p6), .val (.int (1 : Int32)), .val (.int c0), .val (.int c1), .val (.int c2), .val (.ref x98), .val (.ref b99), .val (.int (p6 &&& (3 : Int32))), .val (.int c2), .unset] [(.int (1 : Int32)), (.int (1 : Int32))])
          refine OwnGoW.st (fun _ kk => XS.icmpNo X100.here hx rfl (hb hby at_177) rfl (flt ((by decide) : ¬ ((1 : Int32) < (1 : Int32)))).1 kk) ?_
          show OwnGoW p e below s Z own_EL _ _ _ T100 (mkF m 180 #[.val (.int p1), .val (.int p2), .val (.int p3), .val (.int p4), .val (.int p5), .val (.int p6), .val (.int (1 : Int32)), .val (.int c0), .val (.int c1), .val (.int c2), .val (.ref x98), .val (.ref b99), .val (.int (p6 &&& (3 : Int32))), .val (.int c2), .unset] [])
          refine OwnGoW.st (fun _ kk => XS.iload X100.here hx rfl (hb hby at_180) rfl  kk) ?_
          show OwnGoW p e below s Z own_EL _ _ _ T100 (mkF m 182 #[.val (.int p1), .val (.int p2), .val (.int p3), .val (.int p4), .val (.int p5), .val (.int p6), .val (.int (1 : Int32)), .val (.int c0), .val (.int c1), .val (.int c2), .val (.ref x98), .val (.ref b99), .val (.int (p6 &&& (3 : Int32))), .val (.int c2), .unset] [(.int c2)])
          refine OwnGoW.st (fun _ kk => XS.iload X100.here hx rfl (hb hby at_182) rfl  kk) ?_
          show OwnGoW p e below s Z own_EL _ _ _ T100 (mkF m 184 #[.val (.int p1), .val (.int p2), .val (.int p3), .val (.int p4), .val (.int p5), .val (.int p6), .val (.int (1 : Int32)), .val (.int c0), .val (.int c1), .val (.int c2), .val (.ref x98), .val (.ref b99), .val (.int (p6 &&& (3 : Int32))), .val (.int c2), .unset] [(.int c0), (.int c2)])
          by_cases he_c2_c0 : c2 = c0
          · refine OwnGoW.st (fun _ kk => XS.icmpYes X100.here hx rfl (pc0 := 184) (pc' := 213) rfl (hb hby at_184) rfl (teq (he_c2_c0 : c2 = c0)).1 (by decide) (by decide) kk) ?_
            show OwnGoW p e below s Z own_EL _ _ _ T100 (mkF m 213 #[.val (.int p1), .val (.int p2), .val (.int p3), .val (.int p4), .val (.int p5), .val (.int p6), .val (.int (1 : Int32)), .val (.int c0), .val (.int c1), .val (.int c2), .val (.ref x98), .val (.ref b99), .val (.int (p6 &&& (3 : Int32))), .val (.int c2), .unset] [])
            refine OwnGoW.st (fun _ kk => XS.iconst X100.here hx rfl (hb hby at_213) kk) ?_
            show OwnGoW p e below s Z own_EL _ _ _ T100 (mkF m 214 #[.val (.int p1), .val (.int p2), .val (.int p3), .val (.int p4), .val (.int p5), .val (.int p6), .val (.int (1 : Int32)), .val (.int c0), .val (.int c1), .val (.int c2), .val (.ref x98), .val (.ref b99), .val (.int (p6 &&& (3 : Int32))), .val (.int c2), .unset] [(.int (1 : Int32))])
            refine OwnGoW.st (fun _ kk => XS.goto X100.here hx rfl (pc0 := 214) (pc' := 218) rfl (hb hby at_214) (by decide) (by decide) kk) ?_
            show OwnGoW p e below s Z own_EL _ _ _ T100 (mkF m 218 #[.val (.int p1), .val (.int p2), .val (.int p3), .val (.int p4), .val (.int p5), .val (.int p6), .val (.int (1 : Int32)), .val (.int c0), .val (.int c1), .val (.int c2), .val (.ref x98), .val (.ref b99), .val (.int (p6 &&& (3 : Int32))), .val (.int c2), .unset] [(.int (1 : Int32))])
            refine OwnGoW.st (fun _ kk => XS.istore X100.here hx rfl (hb hby at_218) rfl (l' := #[.val (.int p1), .val (.int p2), .val (.int p3), .val (.int p4), .val (.int p5), .val (.int p6), .val (.int (1 : Int32)), .val (.int c0), .val (.int c1), .val (.int c2), .val (.ref x98), .val (.ref b99), .val (.int (p6 &&& (3 : Int32))), .val (.int c2), .val (.int (1 : Int32))]) rfl kk) ?_
            show OwnGoW p e below s Z own_EL _ _ _ T100 (mkF m 220 #[.val (.int p1), .val (.int p2), .val (.int p3), .val (.int p4), .val (.int p5), .val (.int p6), .val (.int (1 : Int32)), .val (.int c0), .val (.int c1), .val (.int c2), .val (.ref x98), .val (.ref b99), .val (.int (p6 &&& (3 : Int32))), .val (.int c2), .val (.int (1 : Int32))] [])
            refine OwnGoW.st (fun _ kk => XS.aload X100.here hx rfl (hb hby at_220) rfl rfl  kk) ?_
            show OwnGoW p e below s Z own_EL _ _ _ T100 (mkF m 222 #[.val (.int p1), .val (.int p2), .val (.int p3), .val (.int p4), .val (.int p5), .val (.int p6), .val (.int (1 : Int32)), .val (.int c0), .val (.int c1), .val (.int c2), .val (.ref x98), .val (.ref b99), .val (.int (p6 &&& (3 : Int32))), .val (.int c2), .val (.int (1 : Int32))] [(.ref b99)])
            refine OwnGoW.st (fun _ kk => XS.iload X100.here hx rfl (hb hby at_222) rfl  kk) ?_
            show OwnGoW p e below s Z own_EL _ _ _ T100 (mkF m 224 #[.val (.int p1), .val (.int p2), .val (.int p3), .val (.int p4), .val (.int p5), .val (.int p6), .val (.int (1 : Int32)), .val (.int c0), .val (.int c1), .val (.int c2), .val (.ref x98), .val (.ref b99), .val (.int (p6 &&& (3 : Int32))), .val (.int c2), .val (.int (1 : Int32))] [(.int c2), (.ref b99)])
            have hlt_ : c2 < (128 : Int32) := he_c2_c0 ▸ P_c0.2
            obtain ⟨cq105, kq105, q105a, q105b, q105c⟩ := isOf hZ rfl E_b99
            obtain ⟨_, _, ⟨T105, L105, k105, n105⟩, -, X105, ⟨Lc105, hQ105, l105, y105, z105⟩, st105⟩ := X100.virtualBack hx (y := (⟨"io/quintet/Alphabet", "contains", "(C)Z"⟩ : MethodName)) (z := (⟨"io/quintet/Alphabet", "contains", "(C)Z"⟩ : MethodName)) hown (mvT hZ (hw _ (List.mem_of_getElem? (i := 40) rfl))) (mvT hZ (hw _ (List.mem_of_getElem? (i := 41) rfl))) (notFace_of_selects (args := #[]) (mvT hZ (hw _ (List.mem_of_getElem? (i := 43) rfl)))) (mvT hZ (hw _ (List.mem_of_getElem? (i := 43) rfl))) (mvT hZ (hw _ (List.mem_of_getElem? (i := 42) rfl))) (by decide) (backOf (W := 0) (rmconY l Z a0 hw [] b99 b100 (own_tab [(c0, 0)]) c2 T100.heap n0 Z_ Fb100 G100 P_c2.1 hlt_ (own_tabY (c' := c0) (i := 0) (List.mem_of_getElem? (i := 0) rfl) he_c2_c0 (own_tabI rfl (by decide : own_neg [0])))) hZ (hw _ (List.mem_of_getElem? (i := 44) rfl)) (hw _ (List.mem_of_getElem? (i := 10) rfl)) (by decide) (by decide)) q105a q105c (g := (mkF m 224 #[.val (.int p1), .val (.int p2), .val (.int p3), .val (.int p4), .val (.int p5), .val (.int p6), .val (.int (1 : Int32)), .val (.int c0), .val (.int c1), .val (.int c2), .val (.ref x98), .val (.ref b99), .val (.int (p6 &&& (3 : Int32))), .val (.int c2), .val (.int (1 : Int32))] [(.int c2), (.ref b99)])) rfl (by rw [hml]; rfl) (Steps.refl _) (argsL := [(.int c2)]) (rest := []) (lenOf pd_5 rfl) rfl (by show 2 * 0 + _ ≤ _; exact Nat.le_of_eq rfl) (hb hby at_224) (fun _ _ => ⟨rfl, rfl, (by decide : 4 + 0 ≤ _), (by decide : 136 + 0 ≤ _)⟩)
            dsimp only [Pt.U, Pt.locs, Pt.cells, Pt.slots] at X105 l105 y105 z105 st105 hQ105
            subst l105 y105 z105
            obtain ⟨rfl, N105q, e105⟩ := hQ105
            have N105 := Fr.app N100 N105q
            refine OwnGoW.st (fun _ kk => st105.trans kk) ?_
            show OwnGoW p e below s Z own_EL _ _ _ T105 (mkF m 227 #[.val (.int p1), .val (.int p2), .val (.int p3), .val (.int p4), .val (.int p5), .val (.int p6), .val (.int (1 : Int32)), .val (.int c0), .val (.int c1), .val (.int c2), .val (.ref x98), .val (.ref b99), .val (.int (p6 &&& (3 : Int32))), .val (.int c2), .val (.int (1 : Int32))] [(.int (1 : Int32))])
            refine OwnGoW.st (fun _ kk => XS.iload X105.here hx rfl (hb hby at_227) rfl  kk) ?_
            show OwnGoW p e below s Z own_EL _ _ _ T105 (mkF m 229 #[.val (.int p1), .val (.int p2), .val (.int p3), .val (.int p4), .val (.int p5), .val (.int p6), .val (.int (1 : Int32)), .val (.int c0), .val (.int c1), .val (.int c2), .val (.ref x98), .val (.ref b99), .val (.int (p6 &&& (3 : Int32))), .val (.int c2), .val (.int (1 : Int32))] [(.int (1 : Int32)), (.int (1 : Int32))])
            refine OwnGoW.st (fun _ kk => XS.icmpNo X105.here hx rfl (hb hby at_229) rfl (teq ((by decide) : (1 : Int32) = (1 : Int32))).2 kk) ?_
            show OwnGoW p e below s Z own_EL _ _ _ T105 (mkF m 232 #[.val (.int p1), .val (.int p2), .val (.int p3), .val (.int p4), .val (.int p5), .val (.int p6), .val (.int (1 : Int32)), .val (.int c0), .val (.int c1), .val (.int c2), .val (.ref x98), .val (.ref b99), .val (.int (p6 &&& (3 : Int32))), .val (.int c2), .val (.int (1 : Int32))] [])
            refine OwnGoW.st (fun _ kk => XS.iconst X105.here hx rfl (hb hby at_232) kk) ?_
            show OwnGoW p e below s Z own_EL _ _ _ T105 (mkF m 233 #[.val (.int p1), .val (.int p2), .val (.int p3), .val (.int p4), .val (.int p5), .val (.int p6), .val (.int (1 : Int32)), .val (.int c0), .val (.int c1), .val (.int c2), .val (.ref x98), .val (.ref b99), .val (.int (p6 &&& (3 : Int32))), .val (.int c2), .val (.int (1 : Int32))] [(.int (1 : Int32))])
            refine OwnGoW.st (fun _ kk => XS.goto X105.here hx rfl (pc0 := 233) (pc' := 237) rfl (hb hby at_233) (by decide) (by decide) kk) ?_
            show OwnGoW p e below s Z own_EL _ _ _ T105 (mkF m 237 #[.val (.int p1), .val (.int p2), .val (.int p3), .val (.int p4), .val (.int p5), .val (.int p6), .val (.int (1 : Int32)), .val (.int c0), .val (.int c1), .val (.int c2), .val (.ref x98), .val (.ref b99), .val (.int (p6 &&& (3 : Int32))), .val (.int c2), .val (.int (1 : Int32))] [(.int (1 : Int32))])
            exact OwnGoW.retN (s := s) (vm0 := s.vm) X105 hS_ hk_ e105 hZ (own_hEL hw) CR hx (t := .boolean) hret hlk (by simp) (hb hby at_237) (by show Q0 Z p1 p2 p3 p4 p5 p6 zc fmv h0 n0 _ T105.heap _; rw [e105]; exact ⟨rfl, N105⟩) (by decide) (by decide)
          · refine OwnGoW.st (fun _ kk => XS.icmpNo X100.here hx rfl (hb hby at_184) rfl (feq (he_c2_c0 : ¬ (c2 = c0))).1 kk) ?_
            show OwnGoW p e below s Z own_EL _ _ _ T100 (mkF m 187 #[.val (.int p1), .val (.int p2), .val (.int p3), .val (.int p4), .val (.int p5), .val (.int p6), .val (.int (1 : Int32)), .val (.int c0), .val (.int c1), .val (.int c2), .val (.ref x98), .val (.ref b99), .val (.int (p6 &&& (3 : Int32))), .val (.int c2), .unset] [])
            refine OwnGoW.st (fun _ kk => XS.iload X100.here hx rfl (hb hby at_187) rfl  kk) ?_
            show OwnGoW p e below s Z own_EL _ _ _ T100 (mkF m 189 #[.val (.int p1), .val (.int p2), .val (.int p3), .val (.int p4), .val (.int p5), .val (.int p6), .val (.int (1 : Int32)), .val (.int c0), .val (.int c1), .val (.int c2), .val (.ref x98), .val (.ref b99), .val (.int (p6 &&& (3 : Int32))), .val (.int c2), .unset] [(.int (1 : Int32))])
            refine OwnGoW.st (fun _ kk => XS.iconst X100.here hx rfl (hb hby at_189) kk) ?_
            show OwnGoW p e below s Z own_EL _ _ _ T100 (mkF m 190 #[.val (.int p1), .val (.int p2), .val (.int p3), .val (.int p4), .val (.int p5), .val (.int p6), .val (.int (1 : Int32)), .val (.int c0), .val (.int c1), .val (.int c2), .val (.ref x98), .val (.ref b99), .val (.int (p6 &&& (3 : Int32))), .val (.int c2), .unset] [(.int (2 : Int32)), (.int (1 : Int32))])
            refine OwnGoW.st (fun _ kk => XS.icmpYes X100.here hx rfl (pc0 := 190) (pc' := 200) rfl (hb hby at_190) rfl (tlt ((by decide) : (1 : Int32) < (2 : Int32))).1 (by decide) (by decide) kk) ?_
            show OwnGoW p e below s Z own_EL _ _ _ T100 (mkF m 200 #[.val (.int p1), .val (.int p2), .val (.int p3), .val (.int p4), .val (.int p5), .val (.int p6), .val (.int (1 : Int32)), .val (.int c0), .val (.int c1), .val (.int c2), .val (.ref x98), .val (.ref b99), .val (.int (p6 &&& (3 : Int32))), .val (.int c2), .unset] [])
            refine OwnGoW.st (fun _ kk => XS.iload X100.here hx rfl (hb hby at_200) rfl  kk) ?_
            show OwnGoW p e below s Z own_EL _ _ _ T100 (mkF m 202 #[.val (.int p1), .val (.int p2), .val (.int p3), .val (.int p4), .val (.int p5), .val (.int p6), .val (.int (1 : Int32)), .val (.int c0), .val (.int c1), .val (.int c2), .val (.ref x98), .val (.ref b99), .val (.int (p6 &&& (3 : Int32))), .val (.int c2), .unset] [(.int (1 : Int32))])
            refine OwnGoW.st (fun _ kk => XS.iconst X100.here hx rfl (hb hby at_202) kk) ?_
            show OwnGoW p e below s Z own_EL _ _ _ T100 (mkF m 203 #[.val (.int p1), .val (.int p2), .val (.int p3), .val (.int p4), .val (.int p5), .val (.int p6), .val (.int (1 : Int32)), .val (.int c0), .val (.int c1), .val (.int c2), .val (.ref x98), .val (.ref b99), .val (.int (p6 &&& (3 : Int32))), .val (.int c2), .unset] [(.int (3 : Int32)), (.int (1 : Int32))])
            refine OwnGoW.st (fun _ kk => XS.icmpYes X100.here hx rfl (pc0 := 203) (pc' := 217) rfl (hb hby at_203) rfl (tlt ((by decide) : (1 : Int32) < (3 : Int32))).1 (by decide) (by decide) kk) ?_
            show OwnGoW p e below s Z own_EL _ _ _ T100 (mkF m 217 #[.val (.int p1), .val (.int p2), .val (.int p3), .val (.int p4), .val (.int p5), .val (.int p6), .val (.int (1 : Int32)), .val (.int c0), .val (.int c1), .val (.int c2), .val (.ref x98), .val (.ref b99), .val (.int (p6 &&& (3 : Int32))), .val (.int c2), .unset] [])
            refine OwnGoW.st (fun _ kk => XS.iconst X100.here hx rfl (hb hby at_217) kk) ?_
            show OwnGoW p e below s Z own_EL _ _ _ T100 (mkF m 218 #[.val (.int p1), .val (.int p2), .val (.int p3), .val (.int p4), .val (.int p5), .val (.int p6), .val (.int (1 : Int32)), .val (.int c0), .val (.int c1), .val (.int c2), .val (.ref x98), .val (.ref b99), .val (.int (p6 &&& (3 : Int32))), .val (.int c2), .unset] [(.int (0 : Int32))])
            refine OwnGoW.st (fun _ kk => XS.istore X100.here hx rfl (hb hby at_218) rfl (l' := #[.val (.int p1), .val (.int p2), .val (.int p3), .val (.int p4), .val (.int p5), .val (.int p6), .val (.int (1 : Int32)), .val (.int c0), .val (.int c1), .val (.int c2), .val (.ref x98), .val (.ref b99), .val (.int (p6 &&& (3 : Int32))), .val (.int c2), .val (.int (0 : Int32))]) rfl kk) ?_
            show OwnGoW p e below s Z own_EL _ _ _ T100 (mkF m 220 #[.val (.int p1), .val (.int p2), .val (.int p3), .val (.int p4), .val (.int p5), .val (.int p6), .val (.int (1 : Int32)), .val (.int c0), .val (.int c1), .val (.int c2), .val (.ref x98), .val (.ref b99), .val (.int (p6 &&& (3 : Int32))), .val (.int c2), .val (.int (0 : Int32))] [])
            refine OwnGoW.st (fun _ kk => XS.aload X100.here hx rfl (hb hby at_220) rfl rfl  kk) ?_
            show OwnGoW p e below s Z own_EL _ _ _ T100 (mkF m 222 #[.val (.int p1), .val (.int p2), .val (.int p3), .val (.int p4), .val (.int p5), .val (.int p6), .val (.int (1 : Int32)), .val (.int c0), .val (.int c1), .val (.int c2), .val (.ref x98), .val (.ref b99), .val (.int (p6 &&& (3 : Int32))), .val (.int c2), .val (.int (0 : Int32))] [(.ref b99)])
            refine OwnGoW.st (fun _ kk => XS.iload X100.here hx rfl (hb hby at_222) rfl  kk) ?_
            show OwnGoW p e below s Z own_EL _ _ _ T100 (mkF m 224 #[.val (.int p1), .val (.int p2), .val (.int p3), .val (.int p4), .val (.int p5), .val (.int p6), .val (.int (1 : Int32)), .val (.int c0), .val (.int c1), .val (.int c2), .val (.ref x98), .val (.ref b99), .val (.int (p6 &&& (3 : Int32))), .val (.int c2), .val (.int (0 : Int32))] [(.int c2), (.ref b99)])
            by_cases hlt_ : c2 < (128 : Int32)
            · obtain ⟨cq106, kq106, q106a, q106b, q106c⟩ := isOf hZ rfl E_b99
              obtain ⟨_, _, ⟨T106, L106, k106, n106⟩, -, X106, ⟨Lc106, hQ106, l106, y106, z106⟩, st106⟩ := X100.virtualBack hx (y := (⟨"io/quintet/Alphabet", "contains", "(C)Z"⟩ : MethodName)) (z := (⟨"io/quintet/Alphabet", "contains", "(C)Z"⟩ : MethodName)) hown (mvT hZ (hw _ (List.mem_of_getElem? (i := 40) rfl))) (mvT hZ (hw _ (List.mem_of_getElem? (i := 41) rfl))) (notFace_of_selects (args := #[]) (mvT hZ (hw _ (List.mem_of_getElem? (i := 43) rfl)))) (mvT hZ (hw _ (List.mem_of_getElem? (i := 43) rfl))) (mvT hZ (hw _ (List.mem_of_getElem? (i := 42) rfl))) (by decide) (backOf (W := 0) (rmconN l Z a0 hw [] b99 b100 (own_tab [(c0, 0)]) c2 T100.heap n0 Z_ Fb100 G100 P_c2.1 hlt_ (own_tabN P_c2.1 (own_cons P_c0.1 he_c2_c0 own_nil))) hZ (hw _ (List.mem_of_getElem? (i := 44) rfl)) (hw _ (List.mem_of_getElem? (i := 10) rfl)) (by decide) (by decide)) q106a q106c (g := (mkF m 224 #[.val (.int p1), .val (.int p2), .val (.int p3), .val (.int p4), .val (.int p5), .val (.int p6), .val (.int (1 : Int32)), .val (.int c0), .val (.int c1), .val (.int c2), .val (.ref x98), .val (.ref b99), .val (.int (p6 &&& (3 : Int32))), .val (.int c2), .val (.int (0 : Int32))] [(.int c2), (.ref b99)])) rfl (by rw [hml]; rfl) (Steps.refl _) (argsL := [(.int c2)]) (rest := []) (lenOf pd_5 rfl) rfl (by show 2 * 0 + _ ≤ _; exact Nat.le_of_eq rfl) (hb hby at_224) (fun _ _ => ⟨rfl, rfl, (by decide : 4 + 0 ≤ _), (by decide : 136 + 0 ≤ _)⟩)
              dsimp only [Pt.U, Pt.locs, Pt.cells, Pt.slots] at X106 l106 y106 z106 st106 hQ106
              subst l106 y106 z106
              obtain ⟨rfl, N106q, e106⟩ := hQ106
              have N106 := Fr.app N100 N106q
              refine OwnGoW.st (fun _ kk => st106.trans kk) ?_
              show OwnGoW p e below s Z own_EL _ _ _ T106 (mkF m 227 #[.val (.int p1), .val (.int p2), .val (.int p3), .val (.int p4), .val (.int p5), .val (.int p6), .val (.int (1 : Int32)), .val (.int c0), .val (.int c1), .val (.int c2), .val (.ref x98), .val (.ref b99), .val (.int (p6 &&& (3 : Int32))), .val (.int c2), .val (.int (0 : Int32))] [(.int (0 : Int32))])
              refine OwnGoW.st (fun _ kk => XS.iload X106.here hx rfl (hb hby at_227) rfl  kk) ?_
              show OwnGoW p e below s Z own_EL _ _ _ T106 (mkF m 229 #[.val (.int p1), .val (.int p2), .val (.int p3), .val (.int p4), .val (.int p5), .val (.int p6), .val (.int (1 : Int32)), .val (.int c0), .val (.int c1), .val (.int c2), .val (.ref x98), .val (.ref b99), .val (.int (p6 &&& (3 : Int32))), .val (.int c2), .val (.int (0 : Int32))] [(.int (0 : Int32)), (.int (0 : Int32))])
              refine OwnGoW.st (fun _ kk => XS.icmpNo X106.here hx rfl (hb hby at_229) rfl (teq ((by decide) : (0 : Int32) = (0 : Int32))).2 kk) ?_
              show OwnGoW p e below s Z own_EL _ _ _ T106 (mkF m 232 #[.val (.int p1), .val (.int p2), .val (.int p3), .val (.int p4), .val (.int p5), .val (.int p6), .val (.int (1 : Int32)), .val (.int c0), .val (.int c1), .val (.int c2), .val (.ref x98), .val (.ref b99), .val (.int (p6 &&& (3 : Int32))), .val (.int c2), .val (.int (0 : Int32))] [])
              refine OwnGoW.st (fun _ kk => XS.iconst X106.here hx rfl (hb hby at_232) kk) ?_
              show OwnGoW p e below s Z own_EL _ _ _ T106 (mkF m 233 #[.val (.int p1), .val (.int p2), .val (.int p3), .val (.int p4), .val (.int p5), .val (.int p6), .val (.int (1 : Int32)), .val (.int c0), .val (.int c1), .val (.int c2), .val (.ref x98), .val (.ref b99), .val (.int (p6 &&& (3 : Int32))), .val (.int c2), .val (.int (0 : Int32))] [(.int (1 : Int32))])
              refine OwnGoW.st (fun _ kk => XS.goto X106.here hx rfl (pc0 := 233) (pc' := 237) rfl (hb hby at_233) (by decide) (by decide) kk) ?_
              show OwnGoW p e below s Z own_EL _ _ _ T106 (mkF m 237 #[.val (.int p1), .val (.int p2), .val (.int p3), .val (.int p4), .val (.int p5), .val (.int p6), .val (.int (1 : Int32)), .val (.int c0), .val (.int c1), .val (.int c2), .val (.ref x98), .val (.ref b99), .val (.int (p6 &&& (3 : Int32))), .val (.int c2), .val (.int (0 : Int32))] [(.int (1 : Int32))])
              exact OwnGoW.retN (s := s) (vm0 := s.vm) X106 hS_ hk_ e106 hZ (own_hEL hw) CR hx (t := .boolean) hret hlk (by simp) (hb hby at_237) (by show Q0 Z p1 p2 p3 p4 p5 p6 zc fmv h0 n0 _ T106.heap _; rw [e106]; exact ⟨rfl, N106⟩) (by decide) (by decide)
            · obtain ⟨cq107, kq107, q107a, q107b, q107c⟩ := isOf hZ rfl E_b99
              obtain ⟨_, _, ⟨T107, L107, k107, n107⟩, -, X107, ⟨Lc107, hQ107, l107, y107, z107⟩, st107⟩ := X100.virtualBack hx (y := (⟨"io/quintet/Alphabet", "contains", "(C)Z"⟩ : MethodName)) (z := (⟨"io/quintet/Alphabet", "contains", "(C)Z"⟩ : MethodName)) hown (mvT hZ (hw _ (List.mem_of_getElem? (i := 40) rfl))) (mvT hZ (hw _ (List.mem_of_getElem? (i := 41) rfl))) (notFace_of_selects (args := #[]) (mvT hZ (hw _ (List.mem_of_getElem? (i := 43) rfl)))) (mvT hZ (hw _ (List.mem_of_getElem? (i := 43) rfl))) (mvT hZ (hw _ (List.mem_of_getElem? (i := 42) rfl))) (by decide) (backOf (W := 0) (rmconB l Z a0 hw [] b99 b100 (own_tab [(c0, 0)]) c2 T100.heap n0 Z_ Fb100 G100 P_c2.1 hlt_) hZ (hw _ (List.mem_of_getElem? (i := 44) rfl)) (hw _ (List.mem_of_getElem? (i := 10) rfl)) (by decide) (by decide)) q107a q107c (g := (mkF m 224 #[.val (.int p1), .val (.int p2), .val (.int p3), .val (.int p4), .val (.int p5), .val (.int p6), .val (.int (1 : Int32)), .val (.int c0), .val (.int c1), .val (.int c2), .val (.ref x98), .val (.ref b99), .val (.int (p6 &&& (3 : Int32))), .val (.int c2), .val (.int (0 : Int32))] [(.int c2), (.ref b99)])) rfl (by rw [hml]; rfl) (Steps.refl _) (argsL := [(.int c2)]) (rest := []) (lenOf pd_5 rfl) rfl (by show 2 * 0 + _ ≤ _; exact Nat.le_of_eq rfl) (hb hby at_224) (fun _ _ => ⟨rfl, rfl, (by decide : 4 + 0 ≤ _), (by decide : 136 + 0 ≤ _)⟩)
              dsimp only [Pt.U, Pt.locs, Pt.cells, Pt.slots] at X107 l107 y107 z107 st107 hQ107
              subst l107 y107 z107
              obtain ⟨rfl, N107q, e107⟩ := hQ107
              have N107 := Fr.app N100 N107q
              refine OwnGoW.st (fun _ kk => st107.trans kk) ?_
              show OwnGoW p e below s Z own_EL _ _ _ T107 (mkF m 227 #[.val (.int p1), .val (.int p2), .val (.int p3), .val (.int p4), .val (.int p5), .val (.int p6), .val (.int (1 : Int32)), .val (.int c0), .val (.int c1), .val (.int c2), .val (.ref x98), .val (.ref b99), .val (.int (p6 &&& (3 : Int32))), .val (.int c2), .val (.int (0 : Int32))] [(.int (0 : Int32))])
              refine OwnGoW.st (fun _ kk => XS.iload X107.here hx rfl (hb hby at_227) rfl  kk) ?_
              show OwnGoW p e below s Z own_EL _ _ _ T107 (mkF m 229 #[.val (.int p1), .val (.int p2), .val (.int p3), .val (.int p4), .val (.int p5), .val (.int p6), .val (.int (1 : Int32)), .val (.int c0), .val (.int c1), .val (.int c2), .val (.ref x98), .val (.ref b99), .val (.int (p6 &&& (3 : Int32))), .val (.int c2), .val (.int (0 : Int32))] [(.int (0 : Int32)), (.int (0 : Int32))])
              refine OwnGoW.st (fun _ kk => XS.icmpNo X107.here hx rfl (hb hby at_229) rfl (teq ((by decide) : (0 : Int32) = (0 : Int32))).2 kk) ?_
              show OwnGoW p e below s Z own_EL _ _ _ T107 (mkF m 232 #[.val (.int p1), .val (.int p2), .val (.int p3), .val (.int p4), .val (.int p5), .val (.int p6), .val (.int (1 : Int32)), .val (.int c0), .val (.int c1), .val (.int c2), .val (.ref x98), .val (.ref b99), .val (.int (p6 &&& (3 : Int32))), .val (.int c2), .val (.int (0 : Int32))] [])
              refine OwnGoW.st (fun _ kk => XS.iconst X107.here hx rfl (hb hby at_232) kk) ?_
              show OwnGoW p e below s Z own_EL _ _ _ T107 (mkF m 233 #[.val (.int p1), .val (.int p2), .val (.int p3), .val (.int p4), .val (.int p5), .val (.int p6), .val (.int (1 : Int32)), .val (.int c0), .val (.int c1), .val (.int c2), .val (.ref x98), .val (.ref b99), .val (.int (p6 &&& (3 : Int32))), .val (.int c2), .val (.int (0 : Int32))] [(.int (1 : Int32))])
              refine OwnGoW.st (fun _ kk => XS.goto X107.here hx rfl (pc0 := 233) (pc' := 237) rfl (hb hby at_233) (by decide) (by decide) kk) ?_
              show OwnGoW p e below s Z own_EL _ _ _ T107 (mkF m 237 #[.val (.int p1), .val (.int p2), .val (.int p3), .val (.int p4), .val (.int p5), .val (.int p6), .val (.int (1 : Int32)), .val (.int c0), .val (.int c1), .val (.int c2), .val (.ref x98), .val (.ref b99), .val (.int (p6 &&& (3 : Int32))), .val (.int c2), .val (.int (0 : Int32))] [(.int (1 : Int32))])
              exact OwnGoW.retN (s := s) (vm0 := s.vm) X107 hS_ hk_ e107 hZ (own_hEL hw) CR hx (t := .boolean) hret hlk (by simp) (hb hby at_237) (by show Q0 Z p1 p2 p3 p4 p5 p6 zc fmv h0 n0 _ T107.heap _; rw [e107]; exact ⟨rfl, N107⟩) (by decide) (by decide)
        · refine OwnGoW.st (fun _ kk => XS.icmpYes X100.here hx rfl (pc0 := 159) (pc' := 169) rfl (hb hby at_159) rfl (feq (hm3 : ¬ ((p6 &&& (3 : Int32)) = (3 : Int32)))).2 (by decide) (by decide) kk) ?_
          show OwnGoW p e below s Z own_EL _ _ _ T100 (mkF m 169 #[.val (.int p1), .val (.int p2), .val (.int p3), .val (.int p4), .val (.int p5), .val (.int p6), .val (.int (1 : Int32)), .val (.int c0), .val (.int c1), .val (.int c2), .val (.ref x98), .val (.ref b99), .val (.int (p6 &&& (3 : Int32))), .unset, .unset] [])
          refine OwnGoW.st (fun _ kk => XS.iload X100.here hx rfl (hb hby at_169) rfl  kk) ?_
          show OwnGoW p e below s Z own_EL _ _ _ T100 (mkF m 171 #[.val (.int p1), .val (.int p2), .val (.int p3), .val (.int p4), .val (.int p5), .val (.int p6), .val (.int (1 : Int32)), .val (.int c0), .val (.int c1), .val (.int c2), .val (.ref x98), .val (.ref b99), .val (.int (p6 &&& (3 : Int32))), .unset, .unset] [(.int p5)])
          refine OwnGoW.st (fun _ kk => XS.i2c X100.here hx rfl (hb hby at_171) rfl kk) ?_
          show OwnGoW p e below s Z own_EL _ _ _ T100 (mkF m 172 #[.val (.int p1), .val (.int p2), .val (.int p3), .val (.int p4), .val (.int p5), .val (.int p6), .val (.int (1 : Int32)), .val (.int c0), .val (.int c1), .val (.int c2), .val (.ref x98), .val (.ref b99), .val (.int (p6 &&& (3 : Int32))), .unset, .unset] [(.int (p5.toUInt32.toUInt16.toUInt32.toInt32))])
          obtain ⟨c4, hc4⟩ : ∃ z : Int32, z = (p5.toUInt32.toUInt16.toUInt32.toInt32) := ⟨_, rfl⟩
          rw [← hc4]
          show OwnGoW p e below s Z own_EL _ _ _ T100 (mkF m 172 #[.val (.int p1), .val (.int p2), .val (.int p3), .val (.int p4), .val (.int p5), .val (.int p6), .val (.int (1 : Int32)), .val (.int c0), .val (.int c1), .val (.int c2), .val (.ref x98), .val (.ref b99), .val (.int (p6 &&& (3 : Int32))), .unset, .unset] [(.int c4)])
          have hp0 : ¬ c4 < (0 : Int32) := hc4 ▸ own_c0 _
          refine OwnGoW.st (fun _ kk => XS.istore X100.here hx rfl (hb hby at_172) rfl (l' := #[.val (.int p1), .val (.int p2), .val (.int p3), .val (.int p4), .val (.int p5), .val (.int p6), .val (.int (1 : Int32)), .val (.int c0), .val (.int c1), .val (.int c2), .val (.ref x98), .val (.ref b99), .val (.int (p6 &&& (3 : Int32))), .val (.int c4), .unset]) rfl kk) ?_
          show OwnGoW p e below s Z own_EL _ _ _ T100 (mkF m 174 #[.val (.int p1), .val (.int p2), .val (.int p3), .val (.int p4), .val (.int p5), .val (.int p6), .val (.int (1 : Int32)), .val (.int c0), .val (.int c1), .val (.int c2), .val (.ref x98), .val (.ref b99), .val (.int (p6 &&& (3 : Int32))), .val (.int c4), .unset] [])
          refine OwnGoW.st (fun _ kk => XS.iload X100.here hx rfl (hb hby at_174) rfl  kk) ?_
          show OwnGoW p e below s Z own_EL _ _ _ T100 (mkF m 176 #[.val (.int p1), .val (.int p2), .val (.int p3), .val (.int p4), .val (.int p5), .val (.int p6), .val (.int (1 : Int32)), .val (.int c0), .val (.int c1), .val (.int c2), .val (.ref x98), .val (.ref b99), .val (.int (p6 &&& (3 : Int32))), .val (.int c4), .unset] [(.int (1 : Int32))])
          refine OwnGoW.st (fun _ kk => XS.iconst X100.here hx rfl (hb hby at_176) kk) ?_
          show OwnGoW p e below s Z own_EL _ _ _ T100 (mkF m 177 #[.val (.int p1), .val (.int p2), .val (.int p3), .val (.int p4), .val (.int p5), .val (.int p6), .val (.int (1 : Int32)), .val (.int c0), .val (.int c1), .val (.int c2), .val (.ref x98), .val (.ref b99), .val (.int (p6 &&& (3 : Int32))), .val (.int c4), .unset] [(.int (1 : Int32)), (.int (1 : Int32))])
          refine OwnGoW.st (fun _ kk => XS.icmpNo X100.here hx rfl (hb hby at_177) rfl (flt ((by decide) : ¬ ((1 : Int32) < (1 : Int32)))).1 kk) ?_
          show OwnGoW p e below s Z own_EL _ _ _ T100 (mkF m 180 #[.val (.int p1), .val (.int p2), .val (.int p3), .val (.int p4), .val (.int p5), .val (.int p6), .val (.int (1 : Int32)), .val (.int c0), .val (.int c1), .val (.int c2), .val (.ref x98), .val (.ref b99), .val (.int (p6 &&& (3 : Int32))), .val (.int c4), .unset] [])
          refine OwnGoW.st (fun _ kk => XS.iload X100.here hx rfl (hb hby at_180) rfl  kk) ?_
          show OwnGoW p e below s Z own_EL _ _ _ T100 (mkF m 182 #[.val (.int p1), .val (.int p2), .val (.int p3), .val (.int p4), .val (.int p5), .val (.int p6), .val (.int (1 : Int32)), .val (.int c0), .val (.int c1), .val (.int c2), .val (.ref x98), .val (.ref b99), .val (.int (p6 &&& (3 : Int32))), .val (.int c4), .unset] [(.int c4)])
          refine OwnGoW.st (fun _ kk => XS.iload X100.here hx rfl (hb hby at_182) rfl  kk) ?_
          show OwnGoW p e below s Z own_EL _ _ _ T100 (mkF m 184 #[.val (.int p1), .val (.int p2), .val (.int p3), .val (.int p4), .val (.int p5), .val (.int p6), .val (.int (1 : Int32)), .val (.int c0), .val (.int c1), .val (.int c2), .val (.ref x98), .val (.ref b99), .val (.int (p6 &&& (3 : Int32))), .val (.int c4), .unset] [(.int c0), (.int c4)])
          by_cases he_c4_c0 : c4 = c0
          · refine OwnGoW.st (fun _ kk => XS.icmpYes X100.here hx rfl (pc0 := 184) (pc' := 213) rfl (hb hby at_184) rfl (teq (he_c4_c0 : c4 = c0)).1 (by decide) (by decide) kk) ?_
            show OwnGoW p e below s Z own_EL _ _ _ T100 (mkF m 213 #[.val (.int p1), .val (.int p2), .val (.int p3), .val (.int p4), .val (.int p5), .val (.int p6), .val (.int (1 : Int32)), .val (.int c0), .val (.int c1), .val (.int c2), .val (.ref x98), .val (.ref b99), .val (.int (p6 &&& (3 : Int32))), .val (.int c4), .unset] [])
            refine OwnGoW.st (fun _ kk => XS.iconst X100.here hx rfl (hb hby at_213) kk) ?_
            show OwnGoW p e below s Z own_EL _ _ _ T100 (mkF m 214 #[.val (.int p1), .val (.int p2), .val (.int p3), .val (.int p4), .val (.int p5), .val (.int p6), .val (.int (1 : Int32)), .val (.int c0), .val (.int c1), .val (.int c2), .val (.ref x98), .val (.ref b99), .val (.int (p6 &&& (3 : Int32))), .val (.int c4), .unset] [(.int (1 : Int32))])
            refine OwnGoW.st (fun _ kk => XS.goto X100.here hx rfl (pc0 := 214) (pc' := 218) rfl (hb hby at_214) (by decide) (by decide) kk) ?_
            show OwnGoW p e below s Z own_EL _ _ _ T100 (mkF m 218 #[.val (.int p1), .val (.int p2), .val (.int p3), .val (.int p4), .val (.int p5), .val (.int p6), .val (.int (1 : Int32)), .val (.int c0), .val (.int c1), .val (.int c2), .val (.ref x98), .val (.ref b99), .val (.int (p6 &&& (3 : Int32))), .val (.int c4), .unset] [(.int (1 : Int32))])
            refine OwnGoW.st (fun _ kk => XS.istore X100.here hx rfl (hb hby at_218) rfl (l' := #[.val (.int p1), .val (.int p2), .val (.int p3), .val (.int p4), .val (.int p5), .val (.int p6), .val (.int (1 : Int32)), .val (.int c0), .val (.int c1), .val (.int c2), .val (.ref x98), .val (.ref b99), .val (.int (p6 &&& (3 : Int32))), .val (.int c4), .val (.int (1 : Int32))]) rfl kk) ?_
            show OwnGoW p e below s Z own_EL _ _ _ T100 (mkF m 220 #[.val (.int p1), .val (.int p2), .val (.int p3), .val (.int p4), .val (.int p5), .val (.int p6), .val (.int (1 : Int32)), .val (.int c0), .val (.int c1), .val (.int c2), .val (.ref x98), .val (.ref b99), .val (.int (p6 &&& (3 : Int32))), .val (.int c4), .val (.int (1 : Int32))] [])
            refine OwnGoW.st (fun _ kk => XS.aload X100.here hx rfl (hb hby at_220) rfl rfl  kk) ?_
            show OwnGoW p e below s Z own_EL _ _ _ T100 (mkF m 222 #[.val (.int p1), .val (.int p2), .val (.int p3), .val (.int p4), .val (.int p5), .val (.int p6), .val (.int (1 : Int32)), .val (.int c0), .val (.int c1), .val (.int c2), .val (.ref x98), .val (.ref b99), .val (.int (p6 &&& (3 : Int32))), .val (.int c4), .val (.int (1 : Int32))] [(.ref b99)])
            refine OwnGoW.st (fun _ kk => XS.iload X100.here hx rfl (hb hby at_222) rfl  kk) ?_
            show OwnGoW p e below s Z own_EL _ _ _ T100 (mkF m 224 #[.val (.int p1), .val (.int p2), .val (.int p3), .val (.int p4), .val (.int p5), .val (.int p6), .val (.int (1 : Int32)), .val (.int c0), .val (.int c1), .val (.int c2), .val (.ref x98), .val (.ref b99), .val (.int (p6 &&& (3 : Int32))), .val (.int c4), .val (.int (1 : Int32))] [(.int c4), (.ref b99)])
            have hlt_ : c4 < (128 : Int32) := he_c4_c0 ▸ P_c0.2
            obtain ⟨cq108, kq108, q108a, q108b, q108c⟩ := isOf hZ rfl E_b99
            obtain ⟨_, _, ⟨T108, L108, k108, n108⟩, -, X108, ⟨Lc108, hQ108, l108, y108, z108⟩, st108⟩ := X100.virtualBack hx (y := (⟨"io/quintet/Alphabet", "contains", "(C)Z"⟩ : MethodName)) (z := (⟨"io/quintet/Alphabet", "contains", "(C)Z"⟩ : MethodName)) hown (mvT hZ (hw _ (List.mem_of_getElem? (i := 40) rfl))) (mvT hZ (hw _ (List.mem_of_getElem? (i := 41) rfl))) (notFace_of_selects (args := #[]) (mvT hZ (hw _ (List.mem_of_getElem? (i := 43) rfl)))) (mvT hZ (hw _ (List.mem_of_getElem? (i := 43) rfl))) (mvT hZ (hw _ (List.mem_of_getElem? (i := 42) rfl))) (by decide) (backOf (W := 0) (rmconY l Z a0 hw [] b99 b100 (own_tab [(c0, 0)]) c4 T100.heap n0 Z_ Fb100 G100 hp0 hlt_ (own_tabY (c' := c0) (i := 0) (List.mem_of_getElem? (i := 0) rfl) he_c4_c0 (own_tabI rfl (by decide : own_neg [0])))) hZ (hw _ (List.mem_of_getElem? (i := 44) rfl)) (hw _ (List.mem_of_getElem? (i := 10) rfl)) (by decide) (by decide)) q108a q108c (g := (mkF m 224 #[.val (.int p1), .val (.int p2), .val (.int p3), .val (.int p4), .val (.int p5), .val (.int p6), .val (.int (1 : Int32)), .val (.int c0), .val (.int c1), .val (.int c2), .val (.ref x98), .val (.ref b99), .val (.int (p6 &&& (3 : Int32))), .val (.int c4), .val (.int (1 : Int32))] [(.int c4), (.ref b99)])) rfl (by rw [hml]; rfl) (Steps.refl _) (argsL := [(.int c4)]) (rest := []) (lenOf pd_5 rfl) rfl (by show 2 * 0 + _ ≤ _; exact Nat.le_of_eq rfl) (hb hby at_224) (fun _ _ => ⟨rfl, rfl, (by decide : 4 + 0 ≤ _), (by decide : 136 + 0 ≤ _)⟩)
            dsimp only [Pt.U, Pt.locs, Pt.cells, Pt.slots] at X108 l108 y108 z108 st108 hQ108
            subst l108 y108 z108
            obtain ⟨rfl, N108q, e108⟩ := hQ108
            have N108 := Fr.app N100 N108q
            refine OwnGoW.st (fun _ kk => st108.trans kk) ?_
            show OwnGoW p e below s Z own_EL _ _ _ T108 (mkF m 227 #[.val (.int p1), .val (.int p2), .val (.int p3), .val (.int p4), .val (.int p5), .val (.int p6), .val (.int (1 : Int32)), .val (.int c0), .val (.int c1), .val (.int c2), .val (.ref x98), .val (.ref b99), .val (.int (p6 &&& (3 : Int32))), .val (.int c4), .val (.int (1 : Int32))] [(.int (1 : Int32))])
            refine OwnGoW.st (fun _ kk => XS.iload X108.here hx rfl (hb hby at_227) rfl  kk) ?_
            show OwnGoW p e below s Z own_EL _ _ _ T108 (mkF m 229 #[.val (.int p1), .val (.int p2), .val (.int p3), .val (.int p4), .val (.int p5), .val (.int p6), .val (.int (1 : Int32)), .val (.int c0), .val (.int c1), .val (.int c2), .val (.ref x98), .val (.ref b99), .val (.int (p6 &&& (3 : Int32))), .val (.int c4), .val (.int (1 : Int32))] [(.int (1 : Int32)), (.int (1 : Int32))])
            refine OwnGoW.st (fun _ kk => XS.icmpNo X108.here hx rfl (hb hby at_229) rfl (teq ((by decide) : (1 : Int32) = (1 : Int32))).2 kk) ?_
            show OwnGoW p e below s Z own_EL _ _ _ T108 (mkF m 232 #[.val (.int p1), .val (.int p2), .val (.int p3), .val (.int p4), .val (.int p5), .val (.int p6), .val (.int (1 : Int32)), .val (.int c0), .val (.int c1), .val (.int c2), .val (.ref x98), .val (.ref b99), .val (.int (p6 &&& (3 : Int32))), .val (.int c4), .val (.int (1 : Int32))] [])
            refine OwnGoW.st (fun _ kk => XS.iconst X108.here hx rfl (hb hby at_232) kk) ?_
            show OwnGoW p e below s Z own_EL _ _ _ T108 (mkF m 233 #[.val (.int p1), .val (.int p2), .val (.int p3), .val (.int p4), .val (.int p5), .val (.int p6), .val (.int (1 : Int32)), .val (.int c0), .val (.int c1), .val (.int c2), .val (.ref x98), .val (.ref b99), .val (.int (p6 &&& (3 : Int32))), .val (.int c4), .val (.int (1 : Int32))] [(.int (1 : Int32))])
            refine OwnGoW.st (fun _ kk => XS.goto X108.here hx rfl (pc0 := 233) (pc' := 237) rfl (hb hby at_233) (by decide) (by decide) kk) ?_
            show OwnGoW p e below s Z own_EL _ _ _ T108 (mkF m 237 #[.val (.int p1), .val (.int p2), .val (.int p3), .val (.int p4), .val (.int p5), .val (.int p6), .val (.int (1 : Int32)), .val (.int c0), .val (.int c1), .val (.int c2), .val (.ref x98), .val (.ref b99), .val (.int (p6 &&& (3 : Int32))), .val (.int c4), .val (.int (1 : Int32))] [(.int (1 : Int32))])
            exact OwnGoW.retN (s := s) (vm0 := s.vm) X108 hS_ hk_ e108 hZ (own_hEL hw) CR hx (t := .boolean) hret hlk (by simp) (hb hby at_237) (by show Q0 Z p1 p2 p3 p4 p5 p6 zc fmv h0 n0 _ T108.heap _; rw [e108]; exact ⟨rfl, N108⟩) (by decide) (by decide)
          · refine OwnGoW.st (fun _ kk => XS.icmpNo X100.here hx rfl (hb hby at_184) rfl (feq (he_c4_c0 : ¬ (c4 = c0))).1 kk) ?_
            show OwnGoW p e below s Z own_EL _ _ _ T100 (mkF m 187 #[.val (.int p1), .val (.int p2), .val (.int p3), .val (.int p4), .val (.int p5), .val (.int p6), .val (.int (1 : Int32)), .val (.int c0), .val (.int c1), .val (.int c2), .val (.ref x98), .val (.ref b99), .val (.int (p6 &&& (3 : Int32))), .val (.int c4), .unset] [])
            refine OwnGoW.st (fun _ kk => XS.iload X100.here hx rfl (hb hby at_187) rfl  kk) ?_
            show OwnGoW p e below s Z own_EL _ _ _ T100 (mkF m 189 #[.val (.int p1), .val (.int p2), .val (.int p3), .val (.int p4), .val (.int p5), .val (.int p6), .val (.int (1 : Int32)), .val (.int c0), .val (.int c1), .val (.int c2), .val (.ref x98), .val (.ref b99), .val (.int (p6 &&& (3 : Int32))), .val (.int c4), .unset] [(.int (1 : Int32))])
            refine OwnGoW.st (fun _ kk => XS.iconst X100.here hx rfl (hb hby at_189) kk) ?_
            show OwnGoW p e below s Z own_EL _ _ _ T100 (mkF m 190 #[.val (.int p1), .val (.int p2), .val (.int p3), .val (.int p4), .val (.int p5), .val (.int p6), .val (.int (1 : Int32)), .val (.int c0), .val (.int c1), .val (.int c2), .val (.ref x98), .val (.ref b99), .val (.int (p6 &&& (3 : Int32))), .val (.int c4), .unset] [(.int (2 : Int32)), (.int (1 : Int32))])
            refine OwnGoW.st (fun _ kk => XS.icmpYes X100.here hx rfl (pc0 := 190) (pc' := 200) rfl (hb hby at_190) rfl (tlt ((by decide) : (1 : Int32) < (2 : Int32))).1 (by decide) (by decide) kk) ?_
            show OwnGoW p e below s Z own_EL _ _ _ T100 (mkF m 200 #[.val (.int p1), .val (.int p2), .val (.int p3), .val (.int p4), .val (.int p5), .val (.int p6), .val (.int (1 : Int32)), .val (.int c0), .val (.int c1), .val (.int c2), .val (.ref x98), .val (.ref b99), .val (.int (p6 &&& (3 : Int32))), .val (.int c4), .unset] [])
            refine OwnGoW.st (fun _ kk => XS.iload X100.here hx rfl (hb hby at_200) rfl  kk) ?_
            show OwnGoW p e below s Z own_EL _ _ _ T100 (mkF m 202 #[.val (.int p1), .val (.int p2), .val (.int p3), .val (.int p4), .val (.int p5), .val (.int p6), .val (.int (1 : Int32)), .val (.int c0), .val (.int c1), .val (.int c2), .val (.ref x98), .val (.ref b99), .val (.int (p6 &&& (3 : Int32))), .val (.int c4), .unset] [(.int (1 : Int32))])
            refine OwnGoW.st (fun _ kk => XS.iconst X100.here hx rfl (hb hby at_202) kk) ?_
            show OwnGoW p e below s Z own_EL _ _ _ T100 (mkF m 203 #[.val (.int p1), .val (.int p2), .val (.int p3), .val (.int p4), .val (.int p5), .val (.int p6), .val (.int (1 : Int32)), .val (.int c0), .val (.int c1), .val (.int c2), .val (.ref x98), .val (.ref b99), .val (.int (p6 &&& (3 : Int32))), .val (.int c4), .unset] [(.int (3 : Int32)), (.int (1 : Int32))])
            refine OwnGoW.st (fun _ kk => XS.icmpYes X100.here hx rfl (pc0 := 203) (pc' := 217) rfl (hb hby at_203) rfl (tlt ((by decide) : (1 : Int32) < (3 : Int32))).1 (by decide) (by decide) kk) ?_
            show OwnGoW p e below s Z own_EL _ _ _ T100 (mkF m 217 #[.val (.int p1), .val (.int p2), .val (.int p3), .val (.int p4), .val (.int p5), .val (.int p6), .val (.int (1 : Int32)), .val (.int c0), .val (.int c1), .val (.int c2), .val (.ref x98), .val (.ref b99), .val (.int (p6 &&& (3 : Int32))), .val (.int c4), .unset] [])
            refine OwnGoW.st (fun _ kk => XS.iconst X100.here hx rfl (hb hby at_217) kk) ?_
            show OwnGoW p e below s Z own_EL _ _ _ T100 (mkF m 218 #[.val (.int p1), .val (.int p2), .val (.int p3), .val (.int p4), .val (.int p5), .val (.int p6), .val (.int (1 : Int32)), .val (.int c0), .val (.int c1), .val (.int c2), .val (.ref x98), .val (.ref b99), .val (.int (p6 &&& (3 : Int32))), .val (.int c4), .unset] [(.int (0 : Int32))])
            refine OwnGoW.st (fun _ kk => XS.istore X100.here hx rfl (hb hby at_218) rfl (l' := #[.val (.int p1), .val (.int p2), .val (.int p3), .val (.int p4), .val (.int p5), .val (.int p6), .val (.int (1 : Int32)), .val (.int c0), .val (.int c1), .val (.int c2), .val (.ref x98), .val (.ref b99), .val (.int (p6 &&& (3 : Int32))), .val (.int c4), .val (.int (0 : Int32))]) rfl kk) ?_
            show OwnGoW p e below s Z own_EL _ _ _ T100 (mkF m 220 #[.val (.int p1), .val (.int p2), .val (.int p3), .val (.int p4), .val (.int p5), .val (.int p6), .val (.int (1 : Int32)), .val (.int c0), .val (.int c1), .val (.int c2), .val (.ref x98), .val (.ref b99), .val (.int (p6 &&& (3 : Int32))), .val (.int c4), .val (.int (0 : Int32))] [])
            refine OwnGoW.st (fun _ kk => XS.aload X100.here hx rfl (hb hby at_220) rfl rfl  kk) ?_
            show OwnGoW p e below s Z own_EL _ _ _ T100 (mkF m 222 #[.val (.int p1), .val (.int p2), .val (.int p3), .val (.int p4), .val (.int p5), .val (.int p6), .val (.int (1 : Int32)), .val (.int c0), .val (.int c1), .val (.int c2), .val (.ref x98), .val (.ref b99), .val (.int (p6 &&& (3 : Int32))), .val (.int c4), .val (.int (0 : Int32))] [(.ref b99)])
            refine OwnGoW.st (fun _ kk => XS.iload X100.here hx rfl (hb hby at_222) rfl  kk) ?_
            show OwnGoW p e below s Z own_EL _ _ _ T100 (mkF m 224 #[.val (.int p1), .val (.int p2), .val (.int p3), .val (.int p4), .val (.int p5), .val (.int p6), .val (.int (1 : Int32)), .val (.int c0), .val (.int c1), .val (.int c2), .val (.ref x98), .val (.ref b99), .val (.int (p6 &&& (3 : Int32))), .val (.int c4), .val (.int (0 : Int32))] [(.int c4), (.ref b99)])
            by_cases hlt_ : c4 < (128 : Int32)
            · obtain ⟨cq109, kq109, q109a, q109b, q109c⟩ := isOf hZ rfl E_b99
              obtain ⟨_, _, ⟨T109, L109, k109, n109⟩, -, X109, ⟨Lc109, hQ109, l109, y109, z109⟩, st109⟩ := X100.virtualBack hx (y := (⟨"io/quintet/Alphabet", "contains", "(C)Z"⟩ : MethodName)) (z := (⟨"io/quintet/Alphabet", "contains", "(C)Z"⟩ : MethodName)) hown (mvT hZ (hw _ (List.mem_of_getElem? (i := 40) rfl))) (mvT hZ (hw _ (List.mem_of_getElem? (i := 41) rfl))) (notFace_of_selects (args := #[]) (mvT hZ (hw _ (List.mem_of_getElem? (i := 43) rfl)))) (mvT hZ (hw _ (List.mem_of_getElem? (i := 43) rfl))) (mvT hZ (hw _ (List.mem_of_getElem? (i := 42) rfl))) (by decide) (backOf (W := 0) (rmconN l Z a0 hw [] b99 b100 (own_tab [(c0, 0)]) c4 T100.heap n0 Z_ Fb100 G100 hp0 hlt_ (own_tabN hp0 (own_cons P_c0.1 he_c4_c0 own_nil))) hZ (hw _ (List.mem_of_getElem? (i := 44) rfl)) (hw _ (List.mem_of_getElem? (i := 10) rfl)) (by decide) (by decide)) q109a q109c (g := (mkF m 224 #[.val (.int p1), .val (.int p2), .val (.int p3), .val (.int p4), .val (.int p5), .val (.int p6), .val (.int (1 : Int32)), .val (.int c0), .val (.int c1), .val (.int c2), .val (.ref x98), .val (.ref b99), .val (.int (p6 &&& (3 : Int32))), .val (.int c4), .val (.int (0 : Int32))] [(.int c4), (.ref b99)])) rfl (by rw [hml]; rfl) (Steps.refl _) (argsL := [(.int c4)]) (rest := []) (lenOf pd_5 rfl) rfl (by show 2 * 0 + _ ≤ _; exact Nat.le_of_eq rfl) (hb hby at_224) (fun _ _ => ⟨rfl, rfl, (by decide : 4 + 0 ≤ _), (by decide : 136 + 0 ≤ _)⟩)
              dsimp only [Pt.U, Pt.locs, Pt.cells, Pt.slots] at X109 l109 y109 z109 st109 hQ109
              subst l109 y109 z109
              obtain ⟨rfl, N109q, e109⟩ := hQ109
              have N109 := Fr.app N100 N109q
              refine OwnGoW.st (fun _ kk => st109.trans kk) ?_
              show OwnGoW p e below s Z own_EL _ _ _ T109 (mkF m 227 #[.val (.int p1), .val (.int p2), .val (.int p3), .val (.int p4), .val (.int p5), .val (.int p6), .val (.int (1 : Int32)), .val (.int c0), .val (.int c1), .val (.int c2), .val (.ref x98), .val (.ref b99), .val (.int (p6 &&& (3 : Int32))), .val (.int c4), .val (.int (0 : Int32))] [(.int (0 : Int32))])
              refine OwnGoW.st (fun _ kk => XS.iload X109.here hx rfl (hb hby at_227) rfl  kk) ?_
              show OwnGoW p e below s Z own_EL _ _ _ T109 (mkF m 229 #[.val (.int p1), .val (.int p2), .val (.int p3), .val (.int p4), .val (.int p5), .val (.int p6), .val (.int (1 : Int32)), .val (.int c0), .val (.int c1), .val (.int c2), .val (.ref x98), .val (.ref b99), .val (.int (p6 &&& (3 : Int32))), .val (.int c4), .val (.int (0 : Int32))] [(.int (0 : Int32)), (.int (0 : Int32))])
              refine OwnGoW.st (fun _ kk => XS.icmpNo X109.here hx rfl (hb hby at_229) rfl (teq ((by decide) : (0 : Int32) = (0 : Int32))).2 kk) ?_
              show OwnGoW p e below s Z own_EL _ _ _ T109 (mkF m 232 #[.val (.int p1), .val (.int p2), .val (.int p3), .val (.int p4), .val (.int p5), .val (.int p6), .val (.int (1 : Int32)), .val (.int c0), .val (.int c1), .val (.int c2), .val (.ref x98), .val (.ref b99), .val (.int (p6 &&& (3 : Int32))), .val (.int c4), .val (.int (0 : Int32))] [])
              refine OwnGoW.st (fun _ kk => XS.iconst X109.here hx rfl (hb hby at_232) kk) ?_
              show OwnGoW p e below s Z own_EL _ _ _ T109 (mkF m 233 #[.val (.int p1), .val (.int p2), .val (.int p3), .val (.int p4), .val (.int p5), .val (.int p6), .val (.int (1 : Int32)), .val (.int c0), .val (.int c1), .val (.int c2), .val (.ref x98), .val (.ref b99), .val (.int (p6 &&& (3 : Int32))), .val (.int c4), .val (.int (0 : Int32))] [(.int (1 : Int32))])
              refine OwnGoW.st (fun _ kk => XS.goto X109.here hx rfl (pc0 := 233) (pc' := 237) rfl (hb hby at_233) (by decide) (by decide) kk) ?_
              show OwnGoW p e below s Z own_EL _ _ _ T109 (mkF m 237 #[.val (.int p1), .val (.int p2), .val (.int p3), .val (.int p4), .val (.int p5), .val (.int p6), .val (.int (1 : Int32)), .val (.int c0), .val (.int c1), .val (.int c2), .val (.ref x98), .val (.ref b99), .val (.int (p6 &&& (3 : Int32))), .val (.int c4), .val (.int (0 : Int32))] [(.int (1 : Int32))])
              exact OwnGoW.retN (s := s) (vm0 := s.vm) X109 hS_ hk_ e109 hZ (own_hEL hw) CR hx (t := .boolean) hret hlk (by simp) (hb hby at_237) (by show Q0 Z p1 p2 p3 p4 p5 p6 zc fmv h0 n0 _ T109.heap _; rw [e109]; exact ⟨rfl, N109⟩) (by decide) (by decide)
            · obtain ⟨cq110, kq110, q110a, q110b, q110c⟩ := isOf hZ rfl E_b99
              obtain ⟨_, _, ⟨T110, L110, k110, n110⟩, -, X110, ⟨Lc110, hQ110, l110, y110, z110⟩, st110⟩ := X100.virtualBack hx (y := (⟨"io/quintet/Alphabet", "contains", "(C)Z"⟩ : MethodName)) (z := (⟨"io/quintet/Alphabet", "contains", "(C)Z"⟩ : MethodName)) hown (mvT hZ (hw _ (List.mem_of_getElem? (i := 40) rfl))) (mvT hZ (hw _ (List.mem_of_getElem? (i := 41) rfl))) (notFace_of_selects (args := #[]) (mvT hZ (hw _ (List.mem_of_getElem? (i := 43) rfl)))) (mvT hZ (hw _ (List.mem_of_getElem? (i := 43) rfl))) (mvT hZ (hw _ (List.mem_of_getElem? (i := 42) rfl))) (by decide) (backOf (W := 0) (rmconB l Z a0 hw [] b99 b100 (own_tab [(c0, 0)]) c4 T100.heap n0 Z_ Fb100 G100 hp0 hlt_) hZ (hw _ (List.mem_of_getElem? (i := 44) rfl)) (hw _ (List.mem_of_getElem? (i := 10) rfl)) (by decide) (by decide)) q110a q110c (g := (mkF m 224 #[.val (.int p1), .val (.int p2), .val (.int p3), .val (.int p4), .val (.int p5), .val (.int p6), .val (.int (1 : Int32)), .val (.int c0), .val (.int c1), .val (.int c2), .val (.ref x98), .val (.ref b99), .val (.int (p6 &&& (3 : Int32))), .val (.int c4), .val (.int (0 : Int32))] [(.int c4), (.ref b99)])) rfl (by rw [hml]; rfl) (Steps.refl _) (argsL := [(.int c4)]) (rest := []) (lenOf pd_5 rfl) rfl (by show 2 * 0 + _ ≤ _; exact Nat.le_of_eq rfl) (hb hby at_224) (fun _ _ => ⟨rfl, rfl, (by decide : 4 + 0 ≤ _), (by decide : 136 + 0 ≤ _)⟩)
              dsimp only [Pt.U, Pt.locs, Pt.cells, Pt.slots] at X110 l110 y110 z110 st110 hQ110
              subst l110 y110 z110
              obtain ⟨rfl, N110q, e110⟩ := hQ110
              have N110 := Fr.app N100 N110q
              refine OwnGoW.st (fun _ kk => st110.trans kk) ?_
              show OwnGoW p e below s Z own_EL _ _ _ T110 (mkF m 227 #[.val (.int p1), .val (.int p2), .val (.int p3), .val (.int p4), .val (.int p5), .val (.int p6), .val (.int (1 : Int32)), .val (.int c0), .val (.int c1), .val (.int c2), .val (.ref x98), .val (.ref b99), .val (.int (p6 &&& (3 : Int32))), .val (.int c4), .val (.int (0 : Int32))] [(.int (0 : Int32))])
              refine OwnGoW.st (fun _ kk => XS.iload X110.here hx rfl (hb hby at_227) rfl  kk) ?_
              show OwnGoW p e below s Z own_EL _ _ _ T110 (mkF m 229 #[.val (.int p1), .val (.int p2), .val (.int p3), .val (.int p4), .val (.int p5), .val (.int p6), .val (.int (1 : Int32)), .val (.int c0), .val (.int c1), .val (.int c2), .val (.ref x98), .val (.ref b99), .val (.int (p6 &&& (3 : Int32))), .val (.int c4), .val (.int (0 : Int32))] [(.int (0 : Int32)), (.int (0 : Int32))])
              refine OwnGoW.st (fun _ kk => XS.icmpNo X110.here hx rfl (hb hby at_229) rfl (teq ((by decide) : (0 : Int32) = (0 : Int32))).2 kk) ?_
              show OwnGoW p e below s Z own_EL _ _ _ T110 (mkF m 232 #[.val (.int p1), .val (.int p2), .val (.int p3), .val (.int p4), .val (.int p5), .val (.int p6), .val (.int (1 : Int32)), .val (.int c0), .val (.int c1), .val (.int c2), .val (.ref x98), .val (.ref b99), .val (.int (p6 &&& (3 : Int32))), .val (.int c4), .val (.int (0 : Int32))] [])
              refine OwnGoW.st (fun _ kk => XS.iconst X110.here hx rfl (hb hby at_232) kk) ?_
              show OwnGoW p e below s Z own_EL _ _ _ T110 (mkF m 233 #[.val (.int p1), .val (.int p2), .val (.int p3), .val (.int p4), .val (.int p5), .val (.int p6), .val (.int (1 : Int32)), .val (.int c0), .val (.int c1), .val (.int c2), .val (.ref x98), .val (.ref b99), .val (.int (p6 &&& (3 : Int32))), .val (.int c4), .val (.int (0 : Int32))] [(.int (1 : Int32))])
              refine OwnGoW.st (fun _ kk => XS.goto X110.here hx rfl (pc0 := 233) (pc' := 237) rfl (hb hby at_233) (by decide) (by decide) kk) ?_
              show OwnGoW p e below s Z own_EL _ _ _ T110 (mkF m 237 #[.val (.int p1), .val (.int p2), .val (.int p3), .val (.int p4), .val (.int p5), .val (.int p6), .val (.int (1 : Int32)), .val (.int c0), .val (.int c1), .val (.int c2), .val (.ref x98), .val (.ref b99), .val (.int (p6 &&& (3 : Int32))), .val (.int c4), .val (.int (0 : Int32))] [(.int (1 : Int32))])
              exact OwnGoW.retN (s := s) (vm0 := s.vm) X110 hS_ hk_ e110 hZ (own_hEL hw) CR hx (t := .boolean) hret hlk (by simp) (hb hby at_237) (by show Q0 Z p1 p2 p3 p4 p5 p6 zc fmv h0 n0 _ T110.heap _; rw [e110]; exact ⟨rfl, N110⟩) (by decide) (by decide)
  · show OwnGoW p e below s Z own_EL _ _ _ s₁ (mkF m 26 #[.val (.int p1), .val (.int p2), .val (.int p3), .val (.int p4), .val (.int p5), .val (.int p6), .val (.int (2 : Int32)), .val (.int c0), .val (.int c1), .val (.int c2), .unset, .unset, .unset, .unset, .unset] [])
    refine OwnGoW.st (fun _ kk => XS.iload X0.here hx rfl (hb hby at_26) rfl  kk) ?_
    show OwnGoW p e below s Z own_EL _ _ _ s₁ (mkF m 28 #[.val (.int p1), .val (.int p2), .val (.int p3), .val (.int p4), .val (.int p5), .val (.int p6), .val (.int (2 : Int32)), .val (.int c0), .val (.int c1), .val (.int c2), .unset, .unset, .unset, .unset, .unset] [(.int (2 : Int32))])
    refine OwnGoW.st (fun _ kk => XS.ifYes X0.here hx rfl (pc0 := 28) (pc' := 38) rfl (hb hby at_28) rfl ((if0 _ _).trans (feq ((by decide) : ¬ ((2 : Int32) = (0 : Int32)))).2) (by decide) (by decide) kk) ?_
    show OwnGoW p e below s Z own_EL _ _ _ s₁ (mkF m 38 #[.val (.int p1), .val (.int p2), .val (.int p3), .val (.int p4), .val (.int p5), .val (.int p6), .val (.int (2 : Int32)), .val (.int c0), .val (.int c1), .val (.int c2), .unset, .unset, .unset, .unset, .unset] [])
    refine OwnGoW.st (fun _ kk => XS.iload X0.here hx rfl (hb hby at_38) rfl  kk) ?_
    show OwnGoW p e below s Z own_EL _ _ _ s₁ (mkF m 40 #[.val (.int p1), .val (.int p2), .val (.int p3), .val (.int p4), .val (.int p5), .val (.int p6), .val (.int (2 : Int32)), .val (.int c0), .val (.int c1), .val (.int c2), .unset, .unset, .unset, .unset, .unset] [(.int (2 : Int32))])
    refine OwnGoW.st (fun _ kk => XS.iconst X0.here hx rfl (hb hby at_40) kk) ?_
    show OwnGoW p e below s Z own_EL _ _ _ s₁ (mkF m 41 #[.val (.int p1), .val (.int p2), .val (.int p3), .val (.int p4), .val (.int p5), .val (.int p6), .val (.int (2 : Int32)), .val (.int c0), .val (.int c1), .val (.int c2), .unset, .unset, .unset, .unset, .unset] [(.int (1 : Int32)), (.int (2 : Int32))])
    refine OwnGoW.st (fun _ kk => XS.icmpYes X0.here hx rfl (pc0 := 41) (pc' := 54) rfl (hb hby at_41) rfl (feq ((by decide) : ¬ ((2 : Int32) = (1 : Int32)))).2 (by decide) (by decide) kk) ?_
    show OwnGoW p e below s Z own_EL _ _ _ s₁ (mkF m 54 #[.val (.int p1), .val (.int p2), .val (.int p3), .val (.int p4), .val (.int p5), .val (.int p6), .val (.int (2 : Int32)), .val (.int c0), .val (.int c1), .val (.int c2), .unset, .unset, .unset, .unset, .unset] [])
    refine OwnGoW.st (fun _ kk => XS.iload X0.here hx rfl (hb hby at_54) rfl  kk) ?_
    show OwnGoW p e below s Z own_EL _ _ _ s₁ (mkF m 56 #[.val (.int p1), .val (.int p2), .val (.int p3), .val (.int p4), .val (.int p5), .val (.int p6), .val (.int (2 : Int32)), .val (.int c0), .val (.int c1), .val (.int c2), .unset, .unset, .unset, .unset, .unset] [(.int (2 : Int32))])
    refine OwnGoW.st (fun _ kk => XS.iconst X0.here hx rfl (hb hby at_56) kk) ?_
    show OwnGoW p e below s Z own_EL _ _ _ s₁ (mkF m 57 #[.val (.int p1), .val (.int p2), .val (.int p3), .val (.int p4), .val (.int p5), .val (.int p6), .val (.int (2 : Int32)), .val (.int c0), .val (.int c1), .val (.int c2), .unset, .unset, .unset, .unset, .unset] [(.int (2 : Int32)), (.int (2 : Int32))])
    refine OwnGoW.st (fun _ kk => XS.icmpNo X0.here hx rfl (hb hby at_57) rfl (teq ((by decide) : (2 : Int32) = (2 : Int32))).2 kk) ?_
    show OwnGoW p e below s Z own_EL _ _ _ s₁ (mkF m 60 #[.val (.int p1), .val (.int p2), .val (.int p3), .val (.int p4), .val (.int p5), .val (.int p6), .val (.int (2 : Int32)), .val (.int c0), .val (.int c1), .val (.int c2), .unset, .unset, .unset, .unset, .unset] [])
    obtain ⟨T111, h111, X111, e111, E111, A111, D111, -, st111⟩ := newO X0 hx hZ hown (hw _ (List.mem_of_getElem? (i := 82) rfl)) (hw _ (List.mem_of_getElem? (i := 2) rfl)) (hw _ (List.mem_of_getElem? (i := 1) rfl)) e0 (g := (mkF m 60 #[.val (.int p1), .val (.int p2), .val (.int p3), .val (.int p4), .val (.int p5), .val (.int p6), .val (.int (2 : Int32)), .val (.int c0), .val (.int c1), .val (.int c2), .unset, .unset, .unset, .unset, .unset] [])) rfl (hb hby at_60) (by decide) (by decide)
    obtain ⟨b111, g111⟩ : ∃ z, z = h0.size := ⟨_, rfl⟩
    rw [← g111] at A111 D111 st111
    have g_b111 : n0 ≤ b111 := Nat.le_trans Z_ (Nat.le_of_eq g111.symm)
    have sf_b111 : Safe Z own_EL s.vm h0 b111 := Safe.new (Nat.le_of_eq g111.symm)
    have O_ := O_.ext E111
    have sf_b111 := Safe.ext E111 CR.1 sf_b111
    have CR := CR.trans (CHr.ext E111 CR.1)
    have hk_ := Nat.le_trans hk_ E111.1
    have Z_ : n0 ≤ h111.size := Nat.le_trans Z_ E111.1
    have E_b111 := A111
    have F_value_b111 : Fld Z h111 b111 "java/lang/String" "value" "[B" .null := D111 (Or.inr (hw _ (List.mem_of_getElem? (i := 4) rfl))) (ty := (.array .byte)) (by decide)
    have F_coder_b111 : Fld Z h111 b111 "java/lang/String" "coder" "B" (.int (0 : Int32)) := D111 (Or.inr (hw _ (List.mem_of_getElem? (i := 5) rfl))) (ty := .byte) (by decide)
    refine OwnGoW.st st111 ?_
    show OwnGoW p e below s Z own_EL _ _ _ T111 (mkF m 63 #[.val (.int p1), .val (.int p2), .val (.int p3), .val (.int p4), .val (.int p5), .val (.int p6), .val (.int (2 : Int32)), .val (.int c0), .val (.int c1), .val (.int c2), .unset, .unset, .unset, .unset, .unset] [(.ref b111)])
    refine OwnGoW.st (fun _ kk => XS.dup X111.here hx rfl (hb hby at_63) rfl rfl kk) ?_
    show OwnGoW p e below s Z own_EL _ _ _ T111 (mkF m 64 #[.val (.int p1), .val (.int p2), .val (.int p3), .val (.int p4), .val (.int p5), .val (.int p6), .val (.int (2 : Int32)), .val (.int c0), .val (.int c1), .val (.int c2), .unset, .unset, .unset, .unset, .unset] [(.ref b111), (.ref b111)])
    refine OwnGoW.st (fun _ kk => XS.iconst X111.here hx rfl (hb hby at_64) kk) ?_
    show OwnGoW p e below s Z own_EL _ _ _ T111 (mkF m 65 #[.val (.int p1), .val (.int p2), .val (.int p3), .val (.int p4), .val (.int p5), .val (.int p6), .val (.int (2 : Int32)), .val (.int c0), .val (.int c1), .val (.int c2), .unset, .unset, .unset, .unset, .unset] [(.int (2 : Int32)), (.ref b111), (.ref b111)])
    obtain ⟨T112, h112, k112, X112, e112, E112, A112, Ex112, st112⟩ := newPE X111 hx hZ (hw _ (List.mem_of_getElem? (i := 83) rfl)) e111 (g := (mkF m 65 #[.val (.int p1), .val (.int p2), .val (.int p3), .val (.int p4), .val (.int p5), .val (.int p6), .val (.int (2 : Int32)), .val (.int c0), .val (.int c1), .val (.int c2), .unset, .unset, .unset, .unset, .unset] [(.int (2 : Int32)), (.ref b111), (.ref b111)])) rfl (hb hby at_65) rfl (by decide) (cap := 2) (by decide) (by decide) (by decide) (by decide) (ad := "[C") (by decide)
    obtain ⟨b112, g112⟩ : ∃ z, z = h111.size := ⟨_, rfl⟩
    rw [← g112] at A112 Ex112 st112
    have ne_b111_b112 : b111 ≠ b112 := Nat.ne_of_lt (Nat.lt_of_lt_of_le E_b111.lt (Nat.le_of_eq g112.symm))
    have g_b112 : n0 ≤ b112 := Nat.le_trans Z_ (Nat.le_of_eq g112.symm)
    have sf_b112 : Safe Z own_EL s.vm h111 b112 := Safe.new (Nat.le_of_eq g112.symm)
    have E_b111 := E_b111.ext E112
    have F_value_b111 := F_value_b111.ext E112
    have F_coder_b111 := F_coder_b111.ext E112
    have O_ := O_.ext E112
    have sf_b111 := Safe.ext E112 CR.1 sf_b111
    have sf_b112 := Safe.ext E112 CR.1 sf_b112
    have CR := CR.trans (CHr.ext E112 CR.1)
    have hk_ := Nat.le_trans hk_ E112.1
    have Z_ : n0 ≤ h112.size := Nat.le_trans Z_ E112.1
    have V_b112 : Arv Z h112 b112 k112 .char (2 : Int32) [(.int (0 : Int32)), (.int (0 : Int32))] (.int (0 : Int32)) := (Arv.new A112 (by decide)).pad (pad_rep [] (.int (0 : Int32)) 2)
    have E_b112 := Ex112
    refine OwnGoW.st st112 ?_
    show OwnGoW p e below s Z own_EL _ _ _ T112 (mkF m 67 #[.val (.int p1), .val (.int p2), .val (.int p3), .val (.int p4), .val (.int p5), .val (.int p6), .val (.int (2 : Int32)), .val (.int c0), .val (.int c1), .val (.int c2), .unset, .unset, .unset, .unset, .unset] [(.ref b112), (.ref b111), (.ref b111)])
    refine OwnGoW.st (fun _ kk => XS.dup X112.here hx rfl (hb hby at_67) rfl rfl kk) ?_
    show OwnGoW p e below s Z own_EL _ _ _ T112 (mkF m 68 #[.val (.int p1), .val (.int p2), .val (.int p3), .val (.int p4), .val (.int p5), .val (.int p6), .val (.int (2 : Int32)), .val (.int c0), .val (.int c1), .val (.int c2), .unset, .unset, .unset, .unset, .unset] [(.ref b112), (.ref b112), (.ref b111), (.ref b111)])
    refine OwnGoW.st (fun _ kk => XS.iconst X112.here hx rfl (hb hby at_68) kk) ?_
    show OwnGoW p e below s Z own_EL _ _ _ T112 (mkF m 69 #[.val (.int p1), .val (.int p2), .val (.int p3), .val (.int p4), .val (.int p5), .val (.int p6), .val (.int (2 : Int32)), .val (.int c0), .val (.int c1), .val (.int c2), .unset, .unset, .unset, .unset, .unset] [(.int (0 : Int32)), (.ref b112), (.ref b112), (.ref b111), (.ref b111)])
    refine OwnGoW.st (fun _ kk => XS.iload X112.here hx rfl (hb hby at_69) rfl  kk) ?_
    show OwnGoW p e below s Z own_EL _ _ _ T112 (mkF m 71 #[.val (.int p1), .val (.int p2), .val (.int p3), .val (.int p4), .val (.int p5), .val (.int p6), .val (.int (2 : Int32)), .val (.int c0), .val (.int c1), .val (.int c2), .unset, .unset, .unset, .unset, .unset] [(.int c0), (.int (0 : Int32)), (.ref b112), (.ref b112), (.ref b111), (.ref b111)])
    obtain ⟨cl113, Ar113, q113, S113, N113, H113, G113⟩ := id V_b112
    have hin113 : ¬ ((0 : Int32) < 0 ∨ cl113.slots.size ≤ ((0 : Int32)).toNatClampNeg) := inb_of S113 ⟨by decide, by decide⟩
    obtain ⟨T113, h113, X113, e113, W113, st113⟩ := stC X112 hx hZ e112 Ar113 (j := (0 : Int32)) hin113 (g := (mkF m 71 #[.val (.int p1), .val (.int p2), .val (.int p3), .val (.int p4), .val (.int p5), .val (.int p6), .val (.int (2 : Int32)), .val (.int c0), .val (.int c1), .val (.int c2), .unset, .unset, .unset, .unset, .unset] [(.int c0), (.int (0 : Int32)), (.ref b112), (.ref b112), (.ref b111), (.ref b111)])) rfl rfl (hb hby at_71)
    have V_b112 : Arv Z h113 b112 k112 .char (2 : Int32) [(.int (nar .char c0)), (.int (0 : Int32))] (.int (0 : Int32)) := Arv.set Ar113 q113 S113 N113 H113 G113 (fits_nar_char _) W113 0 rfl (Nat.le_of_ble_eq_true rfl)
    rw [show nar .char c0 = c0 from (own_anc P_c0)] at V_b112
    have E_b111 := E_b111.wr W113
    have F_value_b111 := F_value_b111.other W113 (Or.inl ne_b111_b112)
    have F_coder_b111 := F_coder_b111.other W113 (Or.inl ne_b111_b112)
    have E_b112 := E_b112.wr W113
    have O_ := O_.wr W113 g_b112
    have sf_ := sf_b112
    have CR0 := CR.1
    have CR := CR.trans (CHr.wr W113 sf_ CR.1)
    have sf_b111 := Safe.wr W113 sf_ CR0 sf_b111
    have sf_b112 := Safe.wr W113 sf_ CR0 sf_b112
    have hk_ := Nat.le_trans hk_ (Nat.le_of_eq W113.size.symm)
    have N113 := Fr.snoc X113 N0 g_b112
    have Z_ : n0 ≤ h113.size := by rw [W113.size]; exact Z_
    refine OwnGoW.st st113 ?_
    show OwnGoW p e below s Z own_EL _ _ _ T113 (mkF m 72 #[.val (.int p1), .val (.int p2), .val (.int p3), .val (.int p4), .val (.int p5), .val (.int p6), .val (.int (2 : Int32)), .val (.int c0), .val (.int c1), .val (.int c2), .unset, .unset, .unset, .unset, .unset] [(.ref b112), (.ref b111), (.ref b111)])
    refine OwnGoW.st (fun _ kk => XS.dup X113.here hx rfl (hb hby at_72) rfl rfl kk) ?_
    show OwnGoW p e below s Z own_EL _ _ _ T113 (mkF m 73 #[.val (.int p1), .val (.int p2), .val (.int p3), .val (.int p4), .val (.int p5), .val (.int p6), .val (.int (2 : Int32)), .val (.int c0), .val (.int c1), .val (.int c2), .unset, .unset, .unset, .unset, .unset] [(.ref b112), (.ref b112), (.ref b111), (.ref b111)])
    refine OwnGoW.st (fun _ kk => XS.iconst X113.here hx rfl (hb hby at_73) kk) ?_
    show OwnGoW p e below s Z own_EL _ _ _ T113 (mkF m 74 #[.val (.int p1), .val (.int p2), .val (.int p3), .val (.int p4), .val (.int p5), .val (.int p6), .val (.int (2 : Int32)), .val (.int c0), .val (.int c1), .val (.int c2), .unset, .unset, .unset, .unset, .unset] [(.int (1 : Int32)), (.ref b112), (.ref b112), (.ref b111), (.ref b111)])
    refine OwnGoW.st (fun _ kk => XS.iload X113.here hx rfl (hb hby at_74) rfl  kk) ?_
    show OwnGoW p e below s Z own_EL _ _ _ T113 (mkF m 76 #[.val (.int p1), .val (.int p2), .val (.int p3), .val (.int p4), .val (.int p5), .val (.int p6), .val (.int (2 : Int32)), .val (.int c0), .val (.int c1), .val (.int c2), .unset, .unset, .unset, .unset, .unset] [(.int c1), (.int (1 : Int32)), (.ref b112), (.ref b112), (.ref b111), (.ref b111)])
    obtain ⟨cl114, Ar114, q114, S114, N114, H114, G114⟩ := id V_b112
    have hin114 : ¬ ((1 : Int32) < 0 ∨ cl114.slots.size ≤ ((1 : Int32)).toNatClampNeg) := inb_of S114 ⟨by decide, by decide⟩
    obtain ⟨T114, h114, X114, e114, W114, st114⟩ := stC X113 hx hZ e113 Ar114 (j := (1 : Int32)) hin114 (g := (mkF m 76 #[.val (.int p1), .val (.int p2), .val (.int p3), .val (.int p4), .val (.int p5), .val (.int p6), .val (.int (2 : Int32)), .val (.int c0), .val (.int c1), .val (.int c2), .unset, .unset, .unset, .unset, .unset] [(.int c1), (.int (1 : Int32)), (.ref b112), (.ref b112), (.ref b111), (.ref b111)])) rfl rfl (hb hby at_76)
    have V_b112 : Arv Z h114 b112 k112 .char (2 : Int32) [(.int c0), (.int (nar .char c1))] (.int (0 : Int32)) := Arv.set Ar114 q114 S114 N114 H114 G114 (fits_nar_char _) W114 1 rfl (Nat.le_of_ble_eq_true rfl)
    rw [show nar .char c1 = c1 from (own_anc P_c1)] at V_b112
    have E_b111 := E_b111.wr W114
    have F_value_b111 := F_value_b111.other W114 (Or.inl ne_b111_b112)
    have F_coder_b111 := F_coder_b111.other W114 (Or.inl ne_b111_b112)
    have E_b112 := E_b112.wr W114
    have O_ := O_.wr W114 g_b112
    have sf_ := sf_b112
    have CR0 := CR.1
    have CR := CR.trans (CHr.wr W114 sf_ CR.1)
    have sf_b111 := Safe.wr W114 sf_ CR0 sf_b111
    have sf_b112 := Safe.wr W114 sf_ CR0 sf_b112
    have hk_ := Nat.le_trans hk_ (Nat.le_of_eq W114.size.symm)
    have N114 := Fr.snoc X114 N113 g_b112
    have Z_ : n0 ≤ h114.size := by rw [W114.size]; exact Z_
    refine OwnGoW.st st114 ?_
    show OwnGoW p e below s Z own_EL _ _ _ T114 (mkF m 77 #[.val (.int p1), .val (.int p2), .val (.int p3), .val (.int p4), .val (.int p5), .val (.int p6), .val (.int (2 : Int32)), .val (.int c0), .val (.int c1), .val (.int c2), .unset, .unset, .unset, .unset, .unset] [(.ref b112), (.ref b111), (.ref b111)])
    have hp115 : ∀ c ∈ ([c0, c1] : List Int32), ¬ c < 0 ∧ ¬ (255 : Int32) < c := by
      intro c hc
      simp only [List.mem_cons, List.not_mem_nil, or_false] at hc
      rcases hc with rfl | rfl
      · exact hp_c0
      · exact hp_c1
    obtain ⟨_, _, ⟨T116, L116, k116, n116⟩, -, X116, ⟨Lc116, hQ116, l116, y116, z116⟩, st116⟩ := X114.specialBack hx (y := (⟨"java/lang/String", "<init>", "([C)V"⟩ : MethodName)) rfl hown (mvT hZ (hw _ (List.mem_of_getElem? (i := 84) rfl))) (mvT hZ (hw _ (List.mem_of_getElem? (i := 85) rfl))) (mvT hZ (hw _ (List.mem_of_getElem? (i := 86) rfl))) (by decide) (StrChars.Road.backV (W := 1) hZ (own_ws hw) (kI := 4) (hw _ (List.mem_of_getElem? (i := 2) rfl)) (cs := ([c0, c1] : List Int32)) (bs := ([c0, c1] : List Int32).map (fun c => c.toInt8.toInt32)) (n := 2) g_b111 Z_ E_b111 F_value_b111 F_coder_b111 V_b112 (S_CS.ext O_.2) P_CS rfl rfl (by decide) (by decide) hp115 rfl (by decide) (by decide)) (g := (mkF m 77 #[.val (.int p1), .val (.int p2), .val (.int p3), .val (.int p4), .val (.int p5), .val (.int p6), .val (.int (2 : Int32)), .val (.int c0), .val (.int c1), .val (.int c2), .unset, .unset, .unset, .unset, .unset] [(.ref b112), (.ref b111), (.ref b111)])) rfl (by rw [hml]; rfl) (Steps.refl _) (a := b111) (argsL := [(.ref b112)]) (rest := [(.ref b111)]) (lenOf pd_12 rfl) rfl (by show 2 * 0 + _ ≤ _; exact Nat.le_of_eq rfl) (hb hby at_77) (fun _ _ => ⟨rfl, e114, (by decide : 2 + 1 ≤ _), (by decide : 6 + 2 ≤ _)⟩)
    dsimp only [Pt.U, Pt.locs, Pt.cells, Pt.slots] at X116 l116 y116 z116 st116 hQ116
    subst l116 y116 z116
    obtain ⟨rfl, N116q, K116, Ex116, Fc_b111, t116, kb116, gt116, zz116, nt116, Fv_b111, V116⟩ := hQ116
    have N116 := Fr.app N114 N116q
    have zt116 : h114.size ≤ t116 := zz116
    have ne_b111_t116 : b111 ≠ t116 := Nat.ne_of_lt (Nat.lt_of_lt_of_le E_b111.lt zt116)
    have ne_b112_t116 : b112 ≠ t116 := Nat.ne_of_lt (Nat.lt_of_lt_of_le V_b112.lt zt116)
    have g_t116 : n0 ≤ t116 := Nat.le_trans Z_ zt116
    have V116 : Arv Z T116.heap t116 kb116 .byte (2 : Int32) [(.int c0.toInt8.toInt32), (.int c1.toInt8.toInt32)] (.int (0 : Int32)) := V116
    have Z_ : n0 ≤ T116.heap.size := Nat.le_trans Z_ K116.1
    have E_b111 := E_b111.keep K116
    have V_b112 := V_b112.keep K116 (ninS (Ne.symm ne_b111_b112) nin0)
    have E_b112 := E_b112.keep K116
    have O_ := O_.keep K116 (allS g_b111 all0)
    have sf_b112' := Safe.keep K116 (sfS sf_b111 sf0) CR.1 sf_b112
    have sf_b111' := Safe.keep K116 (sfS sf_b111 sf0) CR.1 sf_b111
    have CR := CR.trans (CHr.keep K116 (sfS sf_b111 sf0) CR.1)
    have hk_ := Nat.le_trans hk_ K116.1
    have sf_b111 := sf_b111'
    have sf_b112 := sf_b112'
    refine OwnGoW.st (fun _ kk => st116.trans kk) ?_
    show OwnGoW p e below s Z own_EL _ _ _ T116 (mkF m 80 #[.val (.int p1), .val (.int p2), .val (.int p3), .val (.int p4), .val (.int p5), .val (.int p6), .val (.int (2 : Int32)), .val (.int c0), .val (.int c1), .val (.int c2), .unset, .unset, .unset, .unset, .unset] [(.ref b111)])
    have V116 : Arv Z T116.heap t116 kb116 .byte (2 : Int32) [(.int c0), (.int c1)] (.int (0 : Int32)) := by have q := V116; rw [own_a8 P_c0, own_a8 P_c1] at q; exact q
    refine OwnGoW.st (fun _ kk => XS.astore X116.here hx rfl (hb hby at_80) rfl rfl (l' := #[.val (.int p1), .val (.int p2), .val (.int p3), .val (.int p4), .val (.int p5), .val (.int p6), .val (.int (2 : Int32)), .val (.int c0), .val (.int c1), .val (.int c2), .val (.ref b111), .unset, .unset, .unset, .unset]) rfl kk) ?_
    show OwnGoW p e below s Z own_EL _ _ _ T116 (mkF m 82 #[.val (.int p1), .val (.int p2), .val (.int p3), .val (.int p4), .val (.int p5), .val (.int p6), .val (.int (2 : Int32)), .val (.int c0), .val (.int c1), .val (.int c2), .val (.ref b111), .unset, .unset, .unset, .unset] [])
    refine OwnGoW.st (fun _ kk => XS.goto X116.here hx rfl (pc0 := 82) (pc' := 112) rfl (hb hby at_82) (by decide) (by decide) kk) ?_
    show OwnGoW p e below s Z own_EL _ _ _ T116 (mkF m 112 #[.val (.int p1), .val (.int p2), .val (.int p3), .val (.int p4), .val (.int p5), .val (.int p6), .val (.int (2 : Int32)), .val (.int c0), .val (.int c1), .val (.int c2), .val (.ref b111), .unset, .unset, .unset, .unset] [])
    obtain ⟨T117, h117, X117, e117, E117, A117, D117, -, st117⟩ := newO X116 hx hZ hown (hw _ (List.mem_of_getElem? (i := 8) rfl)) (hw _ (List.mem_of_getElem? (i := 9) rfl)) (hw _ (List.mem_of_getElem? (i := 10) rfl)) rfl (g := (mkF m 112 #[.val (.int p1), .val (.int p2), .val (.int p3), .val (.int p4), .val (.int p5), .val (.int p6), .val (.int (2 : Int32)), .val (.int c0), .val (.int c1), .val (.int c2), .val (.ref b111), .unset, .unset, .unset, .unset] [])) rfl (hb hby at_112) (by decide) (by decide)
    obtain ⟨b117, g117⟩ : ∃ z, z = T116.heap.size := ⟨_, rfl⟩
    rw [← g117] at A117 D117 st117
    have ne_b111_b117 : b111 ≠ b117 := Nat.ne_of_lt (Nat.lt_of_lt_of_le E_b111.lt (Nat.le_of_eq g117.symm))
    have ne_b112_b117 : b112 ≠ b117 := Nat.ne_of_lt (Nat.lt_of_lt_of_le V_b112.lt (Nat.le_of_eq g117.symm))
    have ne_t116_b117 : t116 ≠ b117 := Nat.ne_of_lt (Nat.lt_of_lt_of_le V116.lt (Nat.le_of_eq g117.symm))
    have g_b117 : n0 ≤ b117 := Nat.le_trans Z_ (Nat.le_of_eq g117.symm)
    have sf_b117 : Safe Z own_EL s.vm T116.heap b117 := Safe.new (Nat.le_of_eq g117.symm)
    have E_b111 := E_b111.ext E117
    have V_b112 := V_b112.ext E117
    have E_b112 := E_b112.ext E117
    have Fc_b111 := Fc_b111.ext E117
    have Fv_b111 := Fv_b111.ext E117
    have V116 := V116.ext E117
    have O_ := O_.ext E117
    have sf_b111 := Safe.ext E117 CR.1 sf_b111
    have sf_b112 := Safe.ext E117 CR.1 sf_b112
    have sf_b117 := Safe.ext E117 CR.1 sf_b117
    have CR := CR.trans (CHr.ext E117 CR.1)
    have hk_ := Nat.le_trans hk_ E117.1
    have Z_ : n0 ≤ h117.size := Nat.le_trans Z_ E117.1
    have E_b117 := A117
    have F_values_b117 : Fld Z h117 b117 "io/quintet/Alphabet" "values" "[B" .null := D117 (Or.inr (hw _ (List.mem_of_getElem? (i := 18) rfl))) (ty := (.array .byte)) (by decide)
    have F_width_b117 : Fld Z h117 b117 "io/quintet/Alphabet" "width" "I" (.int (0 : Int32)) := D117 (Or.inr (hw _ (List.mem_of_getElem? (i := 20) rfl))) (ty := .int) (by decide)
    have F_characters_b117 : Fld Z h117 b117 "io/quintet/Alphabet" "characters" "Ljava/lang/String;" .null := D117 (Or.inr (hw _ (List.mem_of_getElem? (i := 22) rfl))) (ty := (.object "java/lang/String")) (by decide)
    refine OwnGoW.st st117 ?_
    show OwnGoW p e below s Z own_EL _ _ _ T117 (mkF m 115 #[.val (.int p1), .val (.int p2), .val (.int p3), .val (.int p4), .val (.int p5), .val (.int p6), .val (.int (2 : Int32)), .val (.int c0), .val (.int c1), .val (.int c2), .val (.ref b111), .unset, .unset, .unset, .unset] [(.ref b117)])
    refine OwnGoW.st (fun _ kk => XS.dup X117.here hx rfl (hb hby at_115) rfl rfl kk) ?_
    show OwnGoW p e below s Z own_EL _ _ _ T117 (mkF m 116 #[.val (.int p1), .val (.int p2), .val (.int p3), .val (.int p4), .val (.int p5), .val (.int p6), .val (.int (2 : Int32)), .val (.int c0), .val (.int c1), .val (.int c2), .val (.ref b111), .unset, .unset, .unset, .unset] [(.ref b117), (.ref b117)])
    refine OwnGoW.st (fun _ kk => XS.iconst X117.here hx rfl (hb hby at_116) kk) ?_
    show OwnGoW p e below s Z own_EL _ _ _ T117 (mkF m 117 #[.val (.int p1), .val (.int p2), .val (.int p3), .val (.int p4), .val (.int p5), .val (.int p6), .val (.int (2 : Int32)), .val (.int c0), .val (.int c1), .val (.int c2), .val (.ref b111), .unset, .unset, .unset, .unset] [(.int (2 : Int32)), (.ref b117), (.ref b117)])
    refine OwnGoW.st (fun _ kk => XS.aload X117.here hx rfl (hb hby at_117) rfl rfl  kk) ?_
    show OwnGoW p e below s Z own_EL _ _ _ T117 (mkF m 119 #[.val (.int p1), .val (.int p2), .val (.int p3), .val (.int p4), .val (.int p5), .val (.int p6), .val (.int (2 : Int32)), .val (.int c0), .val (.int c1), .val (.int c2), .val (.ref b111), .unset, .unset, .unset, .unset] [(.ref b111), (.int (2 : Int32)), (.ref b117), (.ref b117)])
    obtain ⟨_, _, ⟨T118, L118, k118, n118⟩, -, X118, ⟨Lc118, hQ118, l118, y118, z118⟩, st118⟩ := X117.specialBack hx (y := (⟨"io/quintet/Alphabet", "<init>", "(ILjava/lang/String;)V"⟩ : MethodName)) rfl hown (mvT hZ (hw _ (List.mem_of_getElem? (i := 11) rfl))) (mvT hZ (hw _ (List.mem_of_getElem? (i := 12) rfl))) (mvT hZ (hw _ (List.mem_of_getElem? (i := 13) rfl))) (by decide) (backOf (W := 1) (rmini2 l Z a0 hw [] b117 b111 t116 kb116 c0 c1 zc fmv h117 n0 Z_ O_ S_CS P_CS S_SF rf_fmv E_b117 g_b117 ne_b111_b117 ne_t116_b117 F_values_b117 F_width_b117 F_characters_b117 E_b111 Fc_b111 Fv_b111 V116 P_c0 P_c1) hZ (hw _ (List.mem_of_getElem? (i := 13) rfl)) (hw _ (List.mem_of_getElem? (i := 10) rfl)) (by decide) (by decide)) (g := (mkF m 119 #[.val (.int p1), .val (.int p2), .val (.int p3), .val (.int p4), .val (.int p5), .val (.int p6), .val (.int (2 : Int32)), .val (.int c0), .val (.int c1), .val (.int c2), .val (.ref b111), .unset, .unset, .unset, .unset] [(.ref b111), (.int (2 : Int32)), (.ref b117), (.ref b117)])) rfl (by rw [hml]; rfl) (Steps.refl _) (a := b117) (argsL := [(.int (2 : Int32)), (.ref b111)]) (rest := [(.ref b117)]) (lenOf pd_10 rfl) rfl (by show 2 * 0 + _ ≤ _; exact Nat.le_of_eq rfl) (hb hby at_119) (fun _ _ => ⟨rfl, e117, (by decide : 4 + 1 ≤ _), (by decide : 11 + 128 ≤ _)⟩)
    dsimp only [Pt.U, Pt.locs, Pt.cells, Pt.slots] at X118 l118 y118 z118 st118 hQ118
    subst l118 y118 z118
    obtain ⟨rfl, N118q, K118, Eo118, b118, Fb118, G118⟩ := hQ118
    have N118 := Fr.app N116 N118q
    have Z_ : n0 ≤ T118.heap.size := Nat.le_trans Z_ K118.1
    have E_b111 := E_b111.keep K118
    have V_b112 := V_b112.keep K118 (ninS ne_b112_b117 nin0)
    have E_b112 := E_b112.keep K118
    have Fc_b111 := Fc_b111.keep K118 (ninS ne_b111_b117 nin0)
    have Fv_b111 := Fv_b111.keep K118 (ninS ne_b111_b117 nin0)
    have V116 := V116.keep K118 (ninS ne_t116_b117 nin0)
    have E_b117 := E_b117.keep K118
    have O_ := O_.keep K118 (allS g_b117 all0)
    have sf_b111' := Safe.keep K118 (sfS sf_b117 sf0) CR.1 sf_b111
    have sf_b112' := Safe.keep K118 (sfS sf_b117 sf0) CR.1 sf_b112
    have sf_b117' := Safe.keep K118 (sfS sf_b117 sf0) CR.1 sf_b117
    have CR := CR.trans (CHr.keep K118 (sfS sf_b117 sf0) CR.1)
    have hk_ := Nat.le_trans hk_ K118.1
    have sf_b111 := sf_b111'
    have sf_b112 := sf_b112'
    have sf_b117 := sf_b117'
    refine OwnGoW.st (fun _ kk => st118.trans kk) ?_
    show OwnGoW p e below s Z own_EL _ _ _ T118 (mkF m 122 #[.val (.int p1), .val (.int p2), .val (.int p3), .val (.int p4), .val (.int p5), .val (.int p6), .val (.int (2 : Int32)), .val (.int c0), .val (.int c1), .val (.int c2), .val (.ref b111), .unset, .unset, .unset, .unset] [(.ref b117)])
    refine OwnGoW.st (fun _ kk => XS.astore X118.here hx rfl (hb hby at_122) rfl rfl (l' := #[.val (.int p1), .val (.int p2), .val (.int p3), .val (.int p4), .val (.int p5), .val (.int p6), .val (.int (2 : Int32)), .val (.int c0), .val (.int c1), .val (.int c2), .val (.ref b111), .val (.ref b117), .unset, .unset, .unset]) rfl kk) ?_
    show OwnGoW p e below s Z own_EL _ _ _ T118 (mkF m 124 #[.val (.int p1), .val (.int p2), .val (.int p3), .val (.int p4), .val (.int p5), .val (.int p6), .val (.int (2 : Int32)), .val (.int c0), .val (.int c1), .val (.int c2), .val (.ref b111), .val (.ref b117), .unset, .unset, .unset] [])
    refine OwnGoW.st (fun _ kk => XS.iload X118.here hx rfl (hb hby at_124) rfl  kk) ?_
    show OwnGoW p e below s Z own_EL _ _ _ T118 (mkF m 126 #[.val (.int p1), .val (.int p2), .val (.int p3), .val (.int p4), .val (.int p5), .val (.int p6), .val (.int (2 : Int32)), .val (.int c0), .val (.int c1), .val (.int c2), .val (.ref b111), .val (.ref b117), .unset, .unset, .unset] [(.int p6)])
    refine OwnGoW.st (fun _ kk => XS.iconst X118.here hx rfl (hb hby at_126) kk) ?_
    show OwnGoW p e below s Z own_EL _ _ _ T118 (mkF m 127 #[.val (.int p1), .val (.int p2), .val (.int p3), .val (.int p4), .val (.int p5), .val (.int p6), .val (.int (2 : Int32)), .val (.int c0), .val (.int c1), .val (.int c2), .val (.ref b111), .val (.ref b117), .unset, .unset, .unset] [(.int (3 : Int32)), (.int p6)])
    refine OwnGoW.st (fun _ kk => XS.iand X118.here hx rfl (hb hby at_127) rfl kk) ?_
    show OwnGoW p e below s Z own_EL _ _ _ T118 (mkF m 128 #[.val (.int p1), .val (.int p2), .val (.int p3), .val (.int p4), .val (.int p5), .val (.int p6), .val (.int (2 : Int32)), .val (.int c0), .val (.int c1), .val (.int c2), .val (.ref b111), .val (.ref b117), .unset, .unset, .unset] [(.int (p6 &&& (3 : Int32)))])
    refine OwnGoW.st (fun _ kk => XS.istore X118.here hx rfl (hb hby at_128) rfl (l' := #[.val (.int p1), .val (.int p2), .val (.int p3), .val (.int p4), .val (.int p5), .val (.int p6), .val (.int (2 : Int32)), .val (.int c0), .val (.int c1), .val (.int c2), .val (.ref b111), .val (.ref b117), .val (.int (p6 &&& (3 : Int32))), .unset, .unset]) rfl kk) ?_
    show OwnGoW p e below s Z own_EL _ _ _ T118 (mkF m 130 #[.val (.int p1), .val (.int p2), .val (.int p3), .val (.int p4), .val (.int p5), .val (.int p6), .val (.int (2 : Int32)), .val (.int c0), .val (.int c1), .val (.int c2), .val (.ref b111), .val (.ref b117), .val (.int (p6 &&& (3 : Int32))), .unset, .unset] [])
    refine OwnGoW.st (fun _ kk => XS.iload X118.here hx rfl (hb hby at_130) rfl  kk) ?_
    show OwnGoW p e below s Z own_EL _ _ _ T118 (mkF m 132 #[.val (.int p1), .val (.int p2), .val (.int p3), .val (.int p4), .val (.int p5), .val (.int p6), .val (.int (2 : Int32)), .val (.int c0), .val (.int c1), .val (.int c2), .val (.ref b111), .val (.ref b117), .val (.int (p6 &&& (3 : Int32))), .unset, .unset] [(.int (p6 &&& (3 : Int32)))])
    refine OwnGoW.st (fun _ kk => XS.iconst X118.here hx rfl (hb hby at_132) kk) ?_
    show OwnGoW p e below s Z own_EL _ _ _ T118 (mkF m 133 #[.val (.int p1), .val (.int p2), .val (.int p3), .val (.int p4), .val (.int p5), .val (.int p6), .val (.int (2 : Int32)), .val (.int c0), .val (.int c1), .val (.int c2), .val (.ref b111), .val (.ref b117), .val (.int (p6 &&& (3 : Int32))), .unset, .unset] [(.int (1 : Int32)), (.int (p6 &&& (3 : Int32)))])
    by_cases hm1 : (p6 &&& (3 : Int32)) = (1 : Int32)
    · refine OwnGoW.st (fun _ kk => XS.icmpNo X118.here hx rfl (hb hby at_133) rfl (teq (hm1 : (p6 &&& (3 : Int32)) = (1 : Int32))).2 kk) ?_
      show OwnGoW p e below s Z own_EL _ _ _ T118 (mkF m 136 #[.val (.int p1), .val (.int p2), .val (.int p3), .val (.int p4), .val (.int p5), .val (.int p6), .val (.int (2 : Int32)), .val (.int c0), .val (.int c1), .val (.int c2), .val (.ref b111), .val (.ref b117), .val (.int (p6 &&& (3 : Int32))), .unset, .unset] [])
      refine OwnGoW.st (fun _ kk => XS.iload X118.here hx rfl (hb hby at_136) rfl  kk) ?_
      show OwnGoW p e below s Z own_EL _ _ _ T118 (mkF m 138 #[.val (.int p1), .val (.int p2), .val (.int p3), .val (.int p4), .val (.int p5), .val (.int p6), .val (.int (2 : Int32)), .val (.int c0), .val (.int c1), .val (.int c2), .val (.ref b111), .val (.ref b117), .val (.int (p6 &&& (3 : Int32))), .unset, .unset] [(.int c0)])
      refine OwnGoW.st (fun _ kk => XS.istore X118.here hx rfl (hb hby at_138) rfl (l' := #[.val (.int p1), .val (.int p2), .val (.int p3), .val (.int p4), .val (.int p5), .val (.int p6), .val (.int (2 : Int32)), .val (.int c0), .val (.int c1), .val (.int c2), .val (.ref b111), .val (.ref b117), .val (.int (p6 &&& (3 : Int32))), .val (.int c0), .unset]) rfl kk) ?_
      show OwnGoW p e below s Z own_EL _ _ _ T118 (mkF m 140 #[.val (.int p1), .val (.int p2), .val (.int p3), .val (.int p4), .val (.int p5), .val (.int p6), .val (.int (2 : Int32)), .val (.int c0), .val (.int c1), .val (.int c2), .val (.ref b111), .val (.ref b117), .val (.int (p6 &&& (3 : Int32))), .val (.int c0), .unset] [])
      refine OwnGoW.st (fun _ kk => XS.goto X118.here hx rfl (pc0 := 140) (pc' := 174) rfl (hb hby at_140) (by decide) (by decide) kk) ?_
      show OwnGoW p e below s Z own_EL _ _ _ T118 (mkF m 174 #[.val (.int p1), .val (.int p2), .val (.int p3), .val (.int p4), .val (.int p5), .val (.int p6), .val (.int (2 : Int32)), .val (.int c0), .val (.int c1), .val (.int c2), .val (.ref b111), .val (.ref b117), .val (.int (p6 &&& (3 : Int32))), .val (.int c0), .unset] [])
      refine OwnGoW.st (fun _ kk => XS.iload X118.here hx rfl (hb hby at_174) rfl  kk) ?_
      show OwnGoW p e below s Z own_EL _ _ _ T118 (mkF m 176 #[.val (.int p1), .val (.int p2), .val (.int p3), .val (.int p4), .val (.int p5), .val (.int p6), .val (.int (2 : Int32)), .val (.int c0), .val (.int c1), .val (.int c2), .val (.ref b111), .val (.ref b117), .val (.int (p6 &&& (3 : Int32))), .val (.int c0), .unset] [(.int (2 : Int32))])
      refine OwnGoW.st (fun _ kk => XS.iconst X118.here hx rfl (hb hby at_176) kk) ?_
      show OwnGoW p e below s Z own_EL _ _ _ T118 (mkF m 177 #[.val (.int p1), .val (.int p2), .val (.int p3), .val (.int p4), .val (.int p5), .val (.int p6), .val (.int (2 : Int32)), .val (.int c0), .val (.int c1), .val (.int c2), .val (.ref b111), .val (.ref b117), .val (.int (p6 &&& (3 : Int32))), .val (.int c0), .unset] [(.int (1 : Int32)), (.int (2 : Int32))])
      refine OwnGoW.st (fun _ kk => XS.icmpNo X118.here hx rfl (hb hby at_177) rfl (flt ((by decide) : ¬ ((2 : Int32) < (1 : Int32)))).1 kk) ?_
      show OwnGoW p e below s Z own_EL _ _ _ T118 (mkF m 180 #[.val (.int p1), .val (.int p2), .val (.int p3), .val (.int p4), .val (.int p5), .val (.int p6), .val (.int (2 : Int32)), .val (.int c0), .val (.int c1), .val (.int c2), .val (.ref b111), .val (.ref b117), .val (.int (p6 &&& (3 : Int32))), .val (.int c0), .unset] [])
      refine OwnGoW.st (fun _ kk => XS.iload X118.here hx rfl (hb hby at_180) rfl  kk) ?_
      show OwnGoW p e below s Z own_EL _ _ _ T118 (mkF m 182 #[.val (.int p1), .val (.int p2), .val (.int p3), .val (.int p4), .val (.int p5), .val (.int p6), .val (.int (2 : Int32)), .val (.int c0), .val (.int c1), .val (.int c2), .val (.ref b111), .val (.ref b117), .val (.int (p6 &&& (3 : Int32))), .val (.int c0), .unset] [(.int c0)])
      refine OwnGoW.st (fun _ kk => XS.iload X118.here hx rfl (hb hby at_182) rfl  kk) ?_
      show OwnGoW p e below s Z own_EL _ _ _ T118 (mkF m 184 #[.val (.int p1), .val (.int p2), .val (.int p3), .val (.int p4), .val (.int p5), .val (.int p6), .val (.int (2 : Int32)), .val (.int c0), .val (.int c1), .val (.int c2), .val (.ref b111), .val (.ref b117), .val (.int (p6 &&& (3 : Int32))), .val (.int c0), .unset] [(.int c0), (.int c0)])
      refine OwnGoW.st (fun _ kk => XS.icmpYes X118.here hx rfl (pc0 := 184) (pc' := 213) rfl (hb hby at_184) rfl (teq (rfl : c0 = c0)).1 (by decide) (by decide) kk) ?_
      show OwnGoW p e below s Z own_EL _ _ _ T118 (mkF m 213 #[.val (.int p1), .val (.int p2), .val (.int p3), .val (.int p4), .val (.int p5), .val (.int p6), .val (.int (2 : Int32)), .val (.int c0), .val (.int c1), .val (.int c2), .val (.ref b111), .val (.ref b117), .val (.int (p6 &&& (3 : Int32))), .val (.int c0), .unset] [])
      refine OwnGoW.st (fun _ kk => XS.iconst X118.here hx rfl (hb hby at_213) kk) ?_
      show OwnGoW p e below s Z own_EL _ _ _ T118 (mkF m 214 #[.val (.int p1), .val (.int p2), .val (.int p3), .val (.int p4), .val (.int p5), .val (.int p6), .val (.int (2 : Int32)), .val (.int c0), .val (.int c1), .val (.int c2), .val (.ref b111), .val (.ref b117), .val (.int (p6 &&& (3 : Int32))), .val (.int c0), .unset] [(.int (1 : Int32))])
      refine OwnGoW.st (fun _ kk => XS.goto X118.here hx rfl (pc0 := 214) (pc' := 218) rfl (hb hby at_214) (by decide) (by decide) kk) ?_
      show OwnGoW p e below s Z own_EL _ _ _ T118 (mkF m 218 #[.val (.int p1), .val (.int p2), .val (.int p3), .val (.int p4), .val (.int p5), .val (.int p6), .val (.int (2 : Int32)), .val (.int c0), .val (.int c1), .val (.int c2), .val (.ref b111), .val (.ref b117), .val (.int (p6 &&& (3 : Int32))), .val (.int c0), .unset] [(.int (1 : Int32))])
      refine OwnGoW.st (fun _ kk => XS.istore X118.here hx rfl (hb hby at_218) rfl (l' := #[.val (.int p1), .val (.int p2), .val (.int p3), .val (.int p4), .val (.int p5), .val (.int p6), .val (.int (2 : Int32)), .val (.int c0), .val (.int c1), .val (.int c2), .val (.ref b111), .val (.ref b117), .val (.int (p6 &&& (3 : Int32))), .val (.int c0), .val (.int (1 : Int32))]) rfl kk) ?_
      show OwnGoW p e below s Z own_EL _ _ _ T118 (mkF m 220 #[.val (.int p1), .val (.int p2), .val (.int p3), .val (.int p4), .val (.int p5), .val (.int p6), .val (.int (2 : Int32)), .val (.int c0), .val (.int c1), .val (.int c2), .val (.ref b111), .val (.ref b117), .val (.int (p6 &&& (3 : Int32))), .val (.int c0), .val (.int (1 : Int32))] [])
      refine OwnGoW.st (fun _ kk => XS.aload X118.here hx rfl (hb hby at_220) rfl rfl  kk) ?_
      show OwnGoW p e below s Z own_EL _ _ _ T118 (mkF m 222 #[.val (.int p1), .val (.int p2), .val (.int p3), .val (.int p4), .val (.int p5), .val (.int p6), .val (.int (2 : Int32)), .val (.int c0), .val (.int c1), .val (.int c2), .val (.ref b111), .val (.ref b117), .val (.int (p6 &&& (3 : Int32))), .val (.int c0), .val (.int (1 : Int32))] [(.ref b117)])
      refine OwnGoW.st (fun _ kk => XS.iload X118.here hx rfl (hb hby at_222) rfl  kk) ?_
      show OwnGoW p e below s Z own_EL _ _ _ T118 (mkF m 224 #[.val (.int p1), .val (.int p2), .val (.int p3), .val (.int p4), .val (.int p5), .val (.int p6), .val (.int (2 : Int32)), .val (.int c0), .val (.int c1), .val (.int c2), .val (.ref b111), .val (.ref b117), .val (.int (p6 &&& (3 : Int32))), .val (.int c0), .val (.int (1 : Int32))] [(.int c0), (.ref b117)])
      have hlt_ : c0 < (128 : Int32) := P_c0.2
      obtain ⟨cq119, kq119, q119a, q119b, q119c⟩ := isOf hZ rfl E_b117
      obtain ⟨_, _, ⟨T119, L119, k119, n119⟩, -, X119, ⟨Lc119, hQ119, l119, y119, z119⟩, st119⟩ := X118.virtualBack hx (y := (⟨"io/quintet/Alphabet", "contains", "(C)Z"⟩ : MethodName)) (z := (⟨"io/quintet/Alphabet", "contains", "(C)Z"⟩ : MethodName)) hown (mvT hZ (hw _ (List.mem_of_getElem? (i := 40) rfl))) (mvT hZ (hw _ (List.mem_of_getElem? (i := 41) rfl))) (notFace_of_selects (args := #[]) (mvT hZ (hw _ (List.mem_of_getElem? (i := 43) rfl)))) (mvT hZ (hw _ (List.mem_of_getElem? (i := 43) rfl))) (mvT hZ (hw _ (List.mem_of_getElem? (i := 42) rfl))) (by decide) (backOf (W := 0) (rmconY l Z a0 hw [] b117 b118 (own_tab [(c1, 1), (c0, 0)]) c0 T118.heap n0 Z_ Fb118 G118 P_c0.1 hlt_ (own_tabY (c' := c0) (i := 0) (List.mem_of_getElem? (i := 1) rfl) rfl (own_tabI rfl (by decide : own_neg [1, 0])))) hZ (hw _ (List.mem_of_getElem? (i := 44) rfl)) (hw _ (List.mem_of_getElem? (i := 10) rfl)) (by decide) (by decide)) q119a q119c (g := (mkF m 224 #[.val (.int p1), .val (.int p2), .val (.int p3), .val (.int p4), .val (.int p5), .val (.int p6), .val (.int (2 : Int32)), .val (.int c0), .val (.int c1), .val (.int c2), .val (.ref b111), .val (.ref b117), .val (.int (p6 &&& (3 : Int32))), .val (.int c0), .val (.int (1 : Int32))] [(.int c0), (.ref b117)])) rfl (by rw [hml]; rfl) (Steps.refl _) (argsL := [(.int c0)]) (rest := []) (lenOf pd_5 rfl) rfl (by show 2 * 0 + _ ≤ _; exact Nat.le_of_eq rfl) (hb hby at_224) (fun _ _ => ⟨rfl, rfl, (by decide : 5 + 0 ≤ _), (by decide : 139 + 0 ≤ _)⟩)
      dsimp only [Pt.U, Pt.locs, Pt.cells, Pt.slots] at X119 l119 y119 z119 st119 hQ119
      subst l119 y119 z119
      obtain ⟨rfl, N119q, e119⟩ := hQ119
      have N119 := Fr.app N118 N119q
      refine OwnGoW.st (fun _ kk => st119.trans kk) ?_
      show OwnGoW p e below s Z own_EL _ _ _ T119 (mkF m 227 #[.val (.int p1), .val (.int p2), .val (.int p3), .val (.int p4), .val (.int p5), .val (.int p6), .val (.int (2 : Int32)), .val (.int c0), .val (.int c1), .val (.int c2), .val (.ref b111), .val (.ref b117), .val (.int (p6 &&& (3 : Int32))), .val (.int c0), .val (.int (1 : Int32))] [(.int (1 : Int32))])
      refine OwnGoW.st (fun _ kk => XS.iload X119.here hx rfl (hb hby at_227) rfl  kk) ?_
      show OwnGoW p e below s Z own_EL _ _ _ T119 (mkF m 229 #[.val (.int p1), .val (.int p2), .val (.int p3), .val (.int p4), .val (.int p5), .val (.int p6), .val (.int (2 : Int32)), .val (.int c0), .val (.int c1), .val (.int c2), .val (.ref b111), .val (.ref b117), .val (.int (p6 &&& (3 : Int32))), .val (.int c0), .val (.int (1 : Int32))] [(.int (1 : Int32)), (.int (1 : Int32))])
      refine OwnGoW.st (fun _ kk => XS.icmpNo X119.here hx rfl (hb hby at_229) rfl (teq ((by decide) : (1 : Int32) = (1 : Int32))).2 kk) ?_
      show OwnGoW p e below s Z own_EL _ _ _ T119 (mkF m 232 #[.val (.int p1), .val (.int p2), .val (.int p3), .val (.int p4), .val (.int p5), .val (.int p6), .val (.int (2 : Int32)), .val (.int c0), .val (.int c1), .val (.int c2), .val (.ref b111), .val (.ref b117), .val (.int (p6 &&& (3 : Int32))), .val (.int c0), .val (.int (1 : Int32))] [])
      refine OwnGoW.st (fun _ kk => XS.iconst X119.here hx rfl (hb hby at_232) kk) ?_
      show OwnGoW p e below s Z own_EL _ _ _ T119 (mkF m 233 #[.val (.int p1), .val (.int p2), .val (.int p3), .val (.int p4), .val (.int p5), .val (.int p6), .val (.int (2 : Int32)), .val (.int c0), .val (.int c1), .val (.int c2), .val (.ref b111), .val (.ref b117), .val (.int (p6 &&& (3 : Int32))), .val (.int c0), .val (.int (1 : Int32))] [(.int (1 : Int32))])
      refine OwnGoW.st (fun _ kk => XS.goto X119.here hx rfl (pc0 := 233) (pc' := 237) rfl (hb hby at_233) (by decide) (by decide) kk) ?_
      show OwnGoW p e below s Z own_EL _ _ _ T119 (mkF m 237 #[.val (.int p1), .val (.int p2), .val (.int p3), .val (.int p4), .val (.int p5), .val (.int p6), .val (.int (2 : Int32)), .val (.int c0), .val (.int c1), .val (.int c2), .val (.ref b111), .val (.ref b117), .val (.int (p6 &&& (3 : Int32))), .val (.int c0), .val (.int (1 : Int32))] [(.int (1 : Int32))])
      exact OwnGoW.retN (s := s) (vm0 := s.vm) X119 hS_ hk_ e119 hZ (own_hEL hw) CR hx (t := .boolean) hret hlk (by simp) (hb hby at_237) (by show Q0 Z p1 p2 p3 p4 p5 p6 zc fmv h0 n0 _ T119.heap _; rw [e119]; exact ⟨rfl, N119⟩) (by decide) (by decide)
    · refine OwnGoW.st (fun _ kk => XS.icmpYes X118.here hx rfl (pc0 := 133) (pc' := 143) rfl (hb hby at_133) rfl (feq (hm1 : ¬ ((p6 &&& (3 : Int32)) = (1 : Int32)))).2 (by decide) (by decide) kk) ?_
      show OwnGoW p e below s Z own_EL _ _ _ T118 (mkF m 143 #[.val (.int p1), .val (.int p2), .val (.int p3), .val (.int p4), .val (.int p5), .val (.int p6), .val (.int (2 : Int32)), .val (.int c0), .val (.int c1), .val (.int c2), .val (.ref b111), .val (.ref b117), .val (.int (p6 &&& (3 : Int32))), .unset, .unset] [])
      refine OwnGoW.st (fun _ kk => XS.iload X118.here hx rfl (hb hby at_143) rfl  kk) ?_
      show OwnGoW p e below s Z own_EL _ _ _ T118 (mkF m 145 #[.val (.int p1), .val (.int p2), .val (.int p3), .val (.int p4), .val (.int p5), .val (.int p6), .val (.int (2 : Int32)), .val (.int c0), .val (.int c1), .val (.int c2), .val (.ref b111), .val (.ref b117), .val (.int (p6 &&& (3 : Int32))), .unset, .unset] [(.int (p6 &&& (3 : Int32)))])
      refine OwnGoW.st (fun _ kk => XS.iconst X118.here hx rfl (hb hby at_145) kk) ?_
      show OwnGoW p e below s Z own_EL _ _ _ T118 (mkF m 146 #[.val (.int p1), .val (.int p2), .val (.int p3), .val (.int p4), .val (.int p5), .val (.int p6), .val (.int (2 : Int32)), .val (.int c0), .val (.int c1), .val (.int c2), .val (.ref b111), .val (.ref b117), .val (.int (p6 &&& (3 : Int32))), .unset, .unset] [(.int (2 : Int32)), (.int (p6 &&& (3 : Int32)))])
      by_cases hm2 : (p6 &&& (3 : Int32)) = (2 : Int32)
      · refine OwnGoW.st (fun _ kk => XS.icmpNo X118.here hx rfl (hb hby at_146) rfl (teq (hm2 : (p6 &&& (3 : Int32)) = (2 : Int32))).2 kk) ?_
        show OwnGoW p e below s Z own_EL _ _ _ T118 (mkF m 149 #[.val (.int p1), .val (.int p2), .val (.int p3), .val (.int p4), .val (.int p5), .val (.int p6), .val (.int (2 : Int32)), .val (.int c0), .val (.int c1), .val (.int c2), .val (.ref b111), .val (.ref b117), .val (.int (p6 &&& (3 : Int32))), .unset, .unset] [])
        refine OwnGoW.st (fun _ kk => XS.iload X118.here hx rfl (hb hby at_149) rfl  kk) ?_
        show OwnGoW p e below s Z own_EL _ _ _ T118 (mkF m 151 #[.val (.int p1), .val (.int p2), .val (.int p3), .val (.int p4), .val (.int p5), .val (.int p6), .val (.int (2 : Int32)), .val (.int c0), .val (.int c1), .val (.int c2), .val (.ref b111), .val (.ref b117), .val (.int (p6 &&& (3 : Int32))), .unset, .unset] [(.int c1)])
        refine OwnGoW.st (fun _ kk => XS.istore X118.here hx rfl (hb hby at_151) rfl (l' := #[.val (.int p1), .val (.int p2), .val (.int p3), .val (.int p4), .val (.int p5), .val (.int p6), .val (.int (2 : Int32)), .val (.int c0), .val (.int c1), .val (.int c2), .val (.ref b111), .val (.ref b117), .val (.int (p6 &&& (3 : Int32))), .val (.int c1), .unset]) rfl kk) ?_
        show OwnGoW p e below s Z own_EL _ _ _ T118 (mkF m 153 #[.val (.int p1), .val (.int p2), .val (.int p3), .val (.int p4), .val (.int p5), .val (.int p6), .val (.int (2 : Int32)), .val (.int c0), .val (.int c1), .val (.int c2), .val (.ref b111), .val (.ref b117), .val (.int (p6 &&& (3 : Int32))), .val (.int c1), .unset] [])
        refine OwnGoW.st (fun _ kk => XS.goto X118.here hx rfl (pc0 := 153) (pc' := 174) rfl (hb hby at_153) (by decide) (by decide) kk) ?_
        show OwnGoW p e below s Z own_EL _ _ _ T118 (mkF m 174 #[.val (.int p1), .val (.int p2), .val (.int p3), .val (.int p4), .val (.int p5), .val (.int p6), .val (.int (2 : Int32)), .val (.int c0), .val (.int c1), .val (.int c2), .val (.ref b111), .val (.ref b117), .val (.int (p6 &&& (3 : Int32))), .val (.int c1), .unset] [])
        refine OwnGoW.st (fun _ kk => XS.iload X118.here hx rfl (hb hby at_174) rfl  kk) ?_
        show OwnGoW p e below s Z own_EL _ _ _ T118 (mkF m 176 #[.val (.int p1), .val (.int p2), .val (.int p3), .val (.int p4), .val (.int p5), .val (.int p6), .val (.int (2 : Int32)), .val (.int c0), .val (.int c1), .val (.int c2), .val (.ref b111), .val (.ref b117), .val (.int (p6 &&& (3 : Int32))), .val (.int c1), .unset] [(.int (2 : Int32))])
        refine OwnGoW.st (fun _ kk => XS.iconst X118.here hx rfl (hb hby at_176) kk) ?_
        show OwnGoW p e below s Z own_EL _ _ _ T118 (mkF m 177 #[.val (.int p1), .val (.int p2), .val (.int p3), .val (.int p4), .val (.int p5), .val (.int p6), .val (.int (2 : Int32)), .val (.int c0), .val (.int c1), .val (.int c2), .val (.ref b111), .val (.ref b117), .val (.int (p6 &&& (3 : Int32))), .val (.int c1), .unset] [(.int (1 : Int32)), (.int (2 : Int32))])
        refine OwnGoW.st (fun _ kk => XS.icmpNo X118.here hx rfl (hb hby at_177) rfl (flt ((by decide) : ¬ ((2 : Int32) < (1 : Int32)))).1 kk) ?_
        show OwnGoW p e below s Z own_EL _ _ _ T118 (mkF m 180 #[.val (.int p1), .val (.int p2), .val (.int p3), .val (.int p4), .val (.int p5), .val (.int p6), .val (.int (2 : Int32)), .val (.int c0), .val (.int c1), .val (.int c2), .val (.ref b111), .val (.ref b117), .val (.int (p6 &&& (3 : Int32))), .val (.int c1), .unset] [])
        refine OwnGoW.st (fun _ kk => XS.iload X118.here hx rfl (hb hby at_180) rfl  kk) ?_
        show OwnGoW p e below s Z own_EL _ _ _ T118 (mkF m 182 #[.val (.int p1), .val (.int p2), .val (.int p3), .val (.int p4), .val (.int p5), .val (.int p6), .val (.int (2 : Int32)), .val (.int c0), .val (.int c1), .val (.int c2), .val (.ref b111), .val (.ref b117), .val (.int (p6 &&& (3 : Int32))), .val (.int c1), .unset] [(.int c1)])
        refine OwnGoW.st (fun _ kk => XS.iload X118.here hx rfl (hb hby at_182) rfl  kk) ?_
        show OwnGoW p e below s Z own_EL _ _ _ T118 (mkF m 184 #[.val (.int p1), .val (.int p2), .val (.int p3), .val (.int p4), .val (.int p5), .val (.int p6), .val (.int (2 : Int32)), .val (.int c0), .val (.int c1), .val (.int c2), .val (.ref b111), .val (.ref b117), .val (.int (p6 &&& (3 : Int32))), .val (.int c1), .unset] [(.int c0), (.int c1)])
        by_cases he_c1_c0 : c1 = c0
        · refine OwnGoW.st (fun _ kk => XS.icmpYes X118.here hx rfl (pc0 := 184) (pc' := 213) rfl (hb hby at_184) rfl (teq (he_c1_c0 : c1 = c0)).1 (by decide) (by decide) kk) ?_
          show OwnGoW p e below s Z own_EL _ _ _ T118 (mkF m 213 #[.val (.int p1), .val (.int p2), .val (.int p3), .val (.int p4), .val (.int p5), .val (.int p6), .val (.int (2 : Int32)), .val (.int c0), .val (.int c1), .val (.int c2), .val (.ref b111), .val (.ref b117), .val (.int (p6 &&& (3 : Int32))), .val (.int c1), .unset] [])
          refine OwnGoW.st (fun _ kk => XS.iconst X118.here hx rfl (hb hby at_213) kk) ?_
          show OwnGoW p e below s Z own_EL _ _ _ T118 (mkF m 214 #[.val (.int p1), .val (.int p2), .val (.int p3), .val (.int p4), .val (.int p5), .val (.int p6), .val (.int (2 : Int32)), .val (.int c0), .val (.int c1), .val (.int c2), .val (.ref b111), .val (.ref b117), .val (.int (p6 &&& (3 : Int32))), .val (.int c1), .unset] [(.int (1 : Int32))])
          refine OwnGoW.st (fun _ kk => XS.goto X118.here hx rfl (pc0 := 214) (pc' := 218) rfl (hb hby at_214) (by decide) (by decide) kk) ?_
          show OwnGoW p e below s Z own_EL _ _ _ T118 (mkF m 218 #[.val (.int p1), .val (.int p2), .val (.int p3), .val (.int p4), .val (.int p5), .val (.int p6), .val (.int (2 : Int32)), .val (.int c0), .val (.int c1), .val (.int c2), .val (.ref b111), .val (.ref b117), .val (.int (p6 &&& (3 : Int32))), .val (.int c1), .unset] [(.int (1 : Int32))])
          refine OwnGoW.st (fun _ kk => XS.istore X118.here hx rfl (hb hby at_218) rfl (l' := #[.val (.int p1), .val (.int p2), .val (.int p3), .val (.int p4), .val (.int p5), .val (.int p6), .val (.int (2 : Int32)), .val (.int c0), .val (.int c1), .val (.int c2), .val (.ref b111), .val (.ref b117), .val (.int (p6 &&& (3 : Int32))), .val (.int c1), .val (.int (1 : Int32))]) rfl kk) ?_
          show OwnGoW p e below s Z own_EL _ _ _ T118 (mkF m 220 #[.val (.int p1), .val (.int p2), .val (.int p3), .val (.int p4), .val (.int p5), .val (.int p6), .val (.int (2 : Int32)), .val (.int c0), .val (.int c1), .val (.int c2), .val (.ref b111), .val (.ref b117), .val (.int (p6 &&& (3 : Int32))), .val (.int c1), .val (.int (1 : Int32))] [])
          refine OwnGoW.st (fun _ kk => XS.aload X118.here hx rfl (hb hby at_220) rfl rfl  kk) ?_
          show OwnGoW p e below s Z own_EL _ _ _ T118 (mkF m 222 #[.val (.int p1), .val (.int p2), .val (.int p3), .val (.int p4), .val (.int p5), .val (.int p6), .val (.int (2 : Int32)), .val (.int c0), .val (.int c1), .val (.int c2), .val (.ref b111), .val (.ref b117), .val (.int (p6 &&& (3 : Int32))), .val (.int c1), .val (.int (1 : Int32))] [(.ref b117)])
          refine OwnGoW.st (fun _ kk => XS.iload X118.here hx rfl (hb hby at_222) rfl  kk) ?_
          show OwnGoW p e below s Z own_EL _ _ _ T118 (mkF m 224 #[.val (.int p1), .val (.int p2), .val (.int p3), .val (.int p4), .val (.int p5), .val (.int p6), .val (.int (2 : Int32)), .val (.int c0), .val (.int c1), .val (.int c2), .val (.ref b111), .val (.ref b117), .val (.int (p6 &&& (3 : Int32))), .val (.int c1), .val (.int (1 : Int32))] [(.int c1), (.ref b117)])
          have hlt_ : c1 < (128 : Int32) := he_c1_c0 ▸ P_c0.2
          obtain ⟨cq120, kq120, q120a, q120b, q120c⟩ := isOf hZ rfl E_b117
          obtain ⟨_, _, ⟨T120, L120, k120, n120⟩, -, X120, ⟨Lc120, hQ120, l120, y120, z120⟩, st120⟩ := X118.virtualBack hx (y := (⟨"io/quintet/Alphabet", "contains", "(C)Z"⟩ : MethodName)) (z := (⟨"io/quintet/Alphabet", "contains", "(C)Z"⟩ : MethodName)) hown (mvT hZ (hw _ (List.mem_of_getElem? (i := 40) rfl))) (mvT hZ (hw _ (List.mem_of_getElem? (i := 41) rfl))) (notFace_of_selects (args := #[]) (mvT hZ (hw _ (List.mem_of_getElem? (i := 43) rfl)))) (mvT hZ (hw _ (List.mem_of_getElem? (i := 43) rfl))) (mvT hZ (hw _ (List.mem_of_getElem? (i := 42) rfl))) (by decide) (backOf (W := 0) (rmconY l Z a0 hw [] b117 b118 (own_tab [(c1, 1), (c0, 0)]) c1 T118.heap n0 Z_ Fb118 G118 P_c1.1 hlt_ (own_tabY (c' := c0) (i := 0) (List.mem_of_getElem? (i := 1) rfl) he_c1_c0 (own_tabI rfl (by decide : own_neg [1, 0])))) hZ (hw _ (List.mem_of_getElem? (i := 44) rfl)) (hw _ (List.mem_of_getElem? (i := 10) rfl)) (by decide) (by decide)) q120a q120c (g := (mkF m 224 #[.val (.int p1), .val (.int p2), .val (.int p3), .val (.int p4), .val (.int p5), .val (.int p6), .val (.int (2 : Int32)), .val (.int c0), .val (.int c1), .val (.int c2), .val (.ref b111), .val (.ref b117), .val (.int (p6 &&& (3 : Int32))), .val (.int c1), .val (.int (1 : Int32))] [(.int c1), (.ref b117)])) rfl (by rw [hml]; rfl) (Steps.refl _) (argsL := [(.int c1)]) (rest := []) (lenOf pd_5 rfl) rfl (by show 2 * 0 + _ ≤ _; exact Nat.le_of_eq rfl) (hb hby at_224) (fun _ _ => ⟨rfl, rfl, (by decide : 5 + 0 ≤ _), (by decide : 139 + 0 ≤ _)⟩)
          dsimp only [Pt.U, Pt.locs, Pt.cells, Pt.slots] at X120 l120 y120 z120 st120 hQ120
          subst l120 y120 z120
          obtain ⟨rfl, N120q, e120⟩ := hQ120
          have N120 := Fr.app N118 N120q
          refine OwnGoW.st (fun _ kk => st120.trans kk) ?_
          show OwnGoW p e below s Z own_EL _ _ _ T120 (mkF m 227 #[.val (.int p1), .val (.int p2), .val (.int p3), .val (.int p4), .val (.int p5), .val (.int p6), .val (.int (2 : Int32)), .val (.int c0), .val (.int c1), .val (.int c2), .val (.ref b111), .val (.ref b117), .val (.int (p6 &&& (3 : Int32))), .val (.int c1), .val (.int (1 : Int32))] [(.int (1 : Int32))])
          refine OwnGoW.st (fun _ kk => XS.iload X120.here hx rfl (hb hby at_227) rfl  kk) ?_
          show OwnGoW p e below s Z own_EL _ _ _ T120 (mkF m 229 #[.val (.int p1), .val (.int p2), .val (.int p3), .val (.int p4), .val (.int p5), .val (.int p6), .val (.int (2 : Int32)), .val (.int c0), .val (.int c1), .val (.int c2), .val (.ref b111), .val (.ref b117), .val (.int (p6 &&& (3 : Int32))), .val (.int c1), .val (.int (1 : Int32))] [(.int (1 : Int32)), (.int (1 : Int32))])
          refine OwnGoW.st (fun _ kk => XS.icmpNo X120.here hx rfl (hb hby at_229) rfl (teq ((by decide) : (1 : Int32) = (1 : Int32))).2 kk) ?_
          show OwnGoW p e below s Z own_EL _ _ _ T120 (mkF m 232 #[.val (.int p1), .val (.int p2), .val (.int p3), .val (.int p4), .val (.int p5), .val (.int p6), .val (.int (2 : Int32)), .val (.int c0), .val (.int c1), .val (.int c2), .val (.ref b111), .val (.ref b117), .val (.int (p6 &&& (3 : Int32))), .val (.int c1), .val (.int (1 : Int32))] [])
          refine OwnGoW.st (fun _ kk => XS.iconst X120.here hx rfl (hb hby at_232) kk) ?_
          show OwnGoW p e below s Z own_EL _ _ _ T120 (mkF m 233 #[.val (.int p1), .val (.int p2), .val (.int p3), .val (.int p4), .val (.int p5), .val (.int p6), .val (.int (2 : Int32)), .val (.int c0), .val (.int c1), .val (.int c2), .val (.ref b111), .val (.ref b117), .val (.int (p6 &&& (3 : Int32))), .val (.int c1), .val (.int (1 : Int32))] [(.int (1 : Int32))])
          refine OwnGoW.st (fun _ kk => XS.goto X120.here hx rfl (pc0 := 233) (pc' := 237) rfl (hb hby at_233) (by decide) (by decide) kk) ?_
          show OwnGoW p e below s Z own_EL _ _ _ T120 (mkF m 237 #[.val (.int p1), .val (.int p2), .val (.int p3), .val (.int p4), .val (.int p5), .val (.int p6), .val (.int (2 : Int32)), .val (.int c0), .val (.int c1), .val (.int c2), .val (.ref b111), .val (.ref b117), .val (.int (p6 &&& (3 : Int32))), .val (.int c1), .val (.int (1 : Int32))] [(.int (1 : Int32))])
          exact OwnGoW.retN (s := s) (vm0 := s.vm) X120 hS_ hk_ e120 hZ (own_hEL hw) CR hx (t := .boolean) hret hlk (by simp) (hb hby at_237) (by show Q0 Z p1 p2 p3 p4 p5 p6 zc fmv h0 n0 _ T120.heap _; rw [e120]; exact ⟨rfl, N120⟩) (by decide) (by decide)
        · refine OwnGoW.st (fun _ kk => XS.icmpNo X118.here hx rfl (hb hby at_184) rfl (feq (he_c1_c0 : ¬ (c1 = c0))).1 kk) ?_
          show OwnGoW p e below s Z own_EL _ _ _ T118 (mkF m 187 #[.val (.int p1), .val (.int p2), .val (.int p3), .val (.int p4), .val (.int p5), .val (.int p6), .val (.int (2 : Int32)), .val (.int c0), .val (.int c1), .val (.int c2), .val (.ref b111), .val (.ref b117), .val (.int (p6 &&& (3 : Int32))), .val (.int c1), .unset] [])
          refine OwnGoW.st (fun _ kk => XS.iload X118.here hx rfl (hb hby at_187) rfl  kk) ?_
          show OwnGoW p e below s Z own_EL _ _ _ T118 (mkF m 189 #[.val (.int p1), .val (.int p2), .val (.int p3), .val (.int p4), .val (.int p5), .val (.int p6), .val (.int (2 : Int32)), .val (.int c0), .val (.int c1), .val (.int c2), .val (.ref b111), .val (.ref b117), .val (.int (p6 &&& (3 : Int32))), .val (.int c1), .unset] [(.int (2 : Int32))])
          refine OwnGoW.st (fun _ kk => XS.iconst X118.here hx rfl (hb hby at_189) kk) ?_
          show OwnGoW p e below s Z own_EL _ _ _ T118 (mkF m 190 #[.val (.int p1), .val (.int p2), .val (.int p3), .val (.int p4), .val (.int p5), .val (.int p6), .val (.int (2 : Int32)), .val (.int c0), .val (.int c1), .val (.int c2), .val (.ref b111), .val (.ref b117), .val (.int (p6 &&& (3 : Int32))), .val (.int c1), .unset] [(.int (2 : Int32)), (.int (2 : Int32))])
          refine OwnGoW.st (fun _ kk => XS.icmpNo X118.here hx rfl (hb hby at_190) rfl (flt ((by decide) : ¬ ((2 : Int32) < (2 : Int32)))).1 kk) ?_
          show OwnGoW p e below s Z own_EL _ _ _ T118 (mkF m 193 #[.val (.int p1), .val (.int p2), .val (.int p3), .val (.int p4), .val (.int p5), .val (.int p6), .val (.int (2 : Int32)), .val (.int c0), .val (.int c1), .val (.int c2), .val (.ref b111), .val (.ref b117), .val (.int (p6 &&& (3 : Int32))), .val (.int c1), .unset] [])
          refine OwnGoW.st (fun _ kk => XS.iload X118.here hx rfl (hb hby at_193) rfl  kk) ?_
          show OwnGoW p e below s Z own_EL _ _ _ T118 (mkF m 195 #[.val (.int p1), .val (.int p2), .val (.int p3), .val (.int p4), .val (.int p5), .val (.int p6), .val (.int (2 : Int32)), .val (.int c0), .val (.int c1), .val (.int c2), .val (.ref b111), .val (.ref b117), .val (.int (p6 &&& (3 : Int32))), .val (.int c1), .unset] [(.int c1)])
          refine OwnGoW.st (fun _ kk => XS.iload X118.here hx rfl (hb hby at_195) rfl  kk) ?_
          show OwnGoW p e below s Z own_EL _ _ _ T118 (mkF m 197 #[.val (.int p1), .val (.int p2), .val (.int p3), .val (.int p4), .val (.int p5), .val (.int p6), .val (.int (2 : Int32)), .val (.int c0), .val (.int c1), .val (.int c2), .val (.ref b111), .val (.ref b117), .val (.int (p6 &&& (3 : Int32))), .val (.int c1), .unset] [(.int c1), (.int c1)])
          refine OwnGoW.st (fun _ kk => XS.icmpYes X118.here hx rfl (pc0 := 197) (pc' := 213) rfl (hb hby at_197) rfl (teq (rfl : c1 = c1)).1 (by decide) (by decide) kk) ?_
          show OwnGoW p e below s Z own_EL _ _ _ T118 (mkF m 213 #[.val (.int p1), .val (.int p2), .val (.int p3), .val (.int p4), .val (.int p5), .val (.int p6), .val (.int (2 : Int32)), .val (.int c0), .val (.int c1), .val (.int c2), .val (.ref b111), .val (.ref b117), .val (.int (p6 &&& (3 : Int32))), .val (.int c1), .unset] [])
          refine OwnGoW.st (fun _ kk => XS.iconst X118.here hx rfl (hb hby at_213) kk) ?_
          show OwnGoW p e below s Z own_EL _ _ _ T118 (mkF m 214 #[.val (.int p1), .val (.int p2), .val (.int p3), .val (.int p4), .val (.int p5), .val (.int p6), .val (.int (2 : Int32)), .val (.int c0), .val (.int c1), .val (.int c2), .val (.ref b111), .val (.ref b117), .val (.int (p6 &&& (3 : Int32))), .val (.int c1), .unset] [(.int (1 : Int32))])
          refine OwnGoW.st (fun _ kk => XS.goto X118.here hx rfl (pc0 := 214) (pc' := 218) rfl (hb hby at_214) (by decide) (by decide) kk) ?_
          show OwnGoW p e below s Z own_EL _ _ _ T118 (mkF m 218 #[.val (.int p1), .val (.int p2), .val (.int p3), .val (.int p4), .val (.int p5), .val (.int p6), .val (.int (2 : Int32)), .val (.int c0), .val (.int c1), .val (.int c2), .val (.ref b111), .val (.ref b117), .val (.int (p6 &&& (3 : Int32))), .val (.int c1), .unset] [(.int (1 : Int32))])
          refine OwnGoW.st (fun _ kk => XS.istore X118.here hx rfl (hb hby at_218) rfl (l' := #[.val (.int p1), .val (.int p2), .val (.int p3), .val (.int p4), .val (.int p5), .val (.int p6), .val (.int (2 : Int32)), .val (.int c0), .val (.int c1), .val (.int c2), .val (.ref b111), .val (.ref b117), .val (.int (p6 &&& (3 : Int32))), .val (.int c1), .val (.int (1 : Int32))]) rfl kk) ?_
          show OwnGoW p e below s Z own_EL _ _ _ T118 (mkF m 220 #[.val (.int p1), .val (.int p2), .val (.int p3), .val (.int p4), .val (.int p5), .val (.int p6), .val (.int (2 : Int32)), .val (.int c0), .val (.int c1), .val (.int c2), .val (.ref b111), .val (.ref b117), .val (.int (p6 &&& (3 : Int32))), .val (.int c1), .val (.int (1 : Int32))] [])
          refine OwnGoW.st (fun _ kk => XS.aload X118.here hx rfl (hb hby at_220) rfl rfl  kk) ?_
          show OwnGoW p e below s Z own_EL _ _ _ T118 (mkF m 222 #[.val (.int p1), .val (.int p2), .val (.int p3), .val (.int p4), .val (.int p5), .val (.int p6), .val (.int (2 : Int32)), .val (.int c0), .val (.int c1), .val (.int c2), .val (.ref b111), .val (.ref b117), .val (.int (p6 &&& (3 : Int32))), .val (.int c1), .val (.int (1 : Int32))] [(.ref b117)])
          refine OwnGoW.st (fun _ kk => XS.iload X118.here hx rfl (hb hby at_222) rfl  kk) ?_
          show OwnGoW p e below s Z own_EL _ _ _ T118 (mkF m 224 #[.val (.int p1), .val (.int p2), .val (.int p3), .val (.int p4), .val (.int p5), .val (.int p6), .val (.int (2 : Int32)), .val (.int c0), .val (.int c1), .val (.int c2), .val (.ref b111), .val (.ref b117), .val (.int (p6 &&& (3 : Int32))), .val (.int c1), .val (.int (1 : Int32))] [(.int c1), (.ref b117)])
          have hlt_ : c1 < (128 : Int32) := P_c1.2
          obtain ⟨cq121, kq121, q121a, q121b, q121c⟩ := isOf hZ rfl E_b117
          obtain ⟨_, _, ⟨T121, L121, k121, n121⟩, -, X121, ⟨Lc121, hQ121, l121, y121, z121⟩, st121⟩ := X118.virtualBack hx (y := (⟨"io/quintet/Alphabet", "contains", "(C)Z"⟩ : MethodName)) (z := (⟨"io/quintet/Alphabet", "contains", "(C)Z"⟩ : MethodName)) hown (mvT hZ (hw _ (List.mem_of_getElem? (i := 40) rfl))) (mvT hZ (hw _ (List.mem_of_getElem? (i := 41) rfl))) (notFace_of_selects (args := #[]) (mvT hZ (hw _ (List.mem_of_getElem? (i := 43) rfl)))) (mvT hZ (hw _ (List.mem_of_getElem? (i := 43) rfl))) (mvT hZ (hw _ (List.mem_of_getElem? (i := 42) rfl))) (by decide) (backOf (W := 0) (rmconY l Z a0 hw [] b117 b118 (own_tab [(c1, 1), (c0, 0)]) c1 T118.heap n0 Z_ Fb118 G118 P_c1.1 hlt_ (own_tabY (c' := c1) (i := 1) (List.mem_of_getElem? (i := 0) rfl) rfl (own_tabI rfl (by decide : own_neg [1, 0])))) hZ (hw _ (List.mem_of_getElem? (i := 44) rfl)) (hw _ (List.mem_of_getElem? (i := 10) rfl)) (by decide) (by decide)) q121a q121c (g := (mkF m 224 #[.val (.int p1), .val (.int p2), .val (.int p3), .val (.int p4), .val (.int p5), .val (.int p6), .val (.int (2 : Int32)), .val (.int c0), .val (.int c1), .val (.int c2), .val (.ref b111), .val (.ref b117), .val (.int (p6 &&& (3 : Int32))), .val (.int c1), .val (.int (1 : Int32))] [(.int c1), (.ref b117)])) rfl (by rw [hml]; rfl) (Steps.refl _) (argsL := [(.int c1)]) (rest := []) (lenOf pd_5 rfl) rfl (by show 2 * 0 + _ ≤ _; exact Nat.le_of_eq rfl) (hb hby at_224) (fun _ _ => ⟨rfl, rfl, (by decide : 5 + 0 ≤ _), (by decide : 139 + 0 ≤ _)⟩)
          dsimp only [Pt.U, Pt.locs, Pt.cells, Pt.slots] at X121 l121 y121 z121 st121 hQ121
          subst l121 y121 z121
          obtain ⟨rfl, N121q, e121⟩ := hQ121
          have N121 := Fr.app N118 N121q
          refine OwnGoW.st (fun _ kk => st121.trans kk) ?_
          show OwnGoW p e below s Z own_EL _ _ _ T121 (mkF m 227 #[.val (.int p1), .val (.int p2), .val (.int p3), .val (.int p4), .val (.int p5), .val (.int p6), .val (.int (2 : Int32)), .val (.int c0), .val (.int c1), .val (.int c2), .val (.ref b111), .val (.ref b117), .val (.int (p6 &&& (3 : Int32))), .val (.int c1), .val (.int (1 : Int32))] [(.int (1 : Int32))])
          refine OwnGoW.st (fun _ kk => XS.iload X121.here hx rfl (hb hby at_227) rfl  kk) ?_
          show OwnGoW p e below s Z own_EL _ _ _ T121 (mkF m 229 #[.val (.int p1), .val (.int p2), .val (.int p3), .val (.int p4), .val (.int p5), .val (.int p6), .val (.int (2 : Int32)), .val (.int c0), .val (.int c1), .val (.int c2), .val (.ref b111), .val (.ref b117), .val (.int (p6 &&& (3 : Int32))), .val (.int c1), .val (.int (1 : Int32))] [(.int (1 : Int32)), (.int (1 : Int32))])
          refine OwnGoW.st (fun _ kk => XS.icmpNo X121.here hx rfl (hb hby at_229) rfl (teq ((by decide) : (1 : Int32) = (1 : Int32))).2 kk) ?_
          show OwnGoW p e below s Z own_EL _ _ _ T121 (mkF m 232 #[.val (.int p1), .val (.int p2), .val (.int p3), .val (.int p4), .val (.int p5), .val (.int p6), .val (.int (2 : Int32)), .val (.int c0), .val (.int c1), .val (.int c2), .val (.ref b111), .val (.ref b117), .val (.int (p6 &&& (3 : Int32))), .val (.int c1), .val (.int (1 : Int32))] [])
          refine OwnGoW.st (fun _ kk => XS.iconst X121.here hx rfl (hb hby at_232) kk) ?_
          show OwnGoW p e below s Z own_EL _ _ _ T121 (mkF m 233 #[.val (.int p1), .val (.int p2), .val (.int p3), .val (.int p4), .val (.int p5), .val (.int p6), .val (.int (2 : Int32)), .val (.int c0), .val (.int c1), .val (.int c2), .val (.ref b111), .val (.ref b117), .val (.int (p6 &&& (3 : Int32))), .val (.int c1), .val (.int (1 : Int32))] [(.int (1 : Int32))])
          refine OwnGoW.st (fun _ kk => XS.goto X121.here hx rfl (pc0 := 233) (pc' := 237) rfl (hb hby at_233) (by decide) (by decide) kk) ?_
          show OwnGoW p e below s Z own_EL _ _ _ T121 (mkF m 237 #[.val (.int p1), .val (.int p2), .val (.int p3), .val (.int p4), .val (.int p5), .val (.int p6), .val (.int (2 : Int32)), .val (.int c0), .val (.int c1), .val (.int c2), .val (.ref b111), .val (.ref b117), .val (.int (p6 &&& (3 : Int32))), .val (.int c1), .val (.int (1 : Int32))] [(.int (1 : Int32))])
          exact OwnGoW.retN (s := s) (vm0 := s.vm) X121 hS_ hk_ e121 hZ (own_hEL hw) CR hx (t := .boolean) hret hlk (by simp) (hb hby at_237) (by show Q0 Z p1 p2 p3 p4 p5 p6 zc fmv h0 n0 _ T121.heap _; rw [e121]; exact ⟨rfl, N121⟩) (by decide) (by decide)
      · refine OwnGoW.st (fun _ kk => XS.icmpYes X118.here hx rfl (pc0 := 146) (pc' := 156) rfl (hb hby at_146) rfl (feq (hm2 : ¬ ((p6 &&& (3 : Int32)) = (2 : Int32)))).2 (by decide) (by decide) kk) ?_
        show OwnGoW p e below s Z own_EL _ _ _ T118 (mkF m 156 #[.val (.int p1), .val (.int p2), .val (.int p3), .val (.int p4), .val (.int p5), .val (.int p6), .val (.int (2 : Int32)), .val (.int c0), .val (.int c1), .val (.int c2), .val (.ref b111), .val (.ref b117), .val (.int (p6 &&& (3 : Int32))), .unset, .unset] [])
        refine OwnGoW.st (fun _ kk => XS.iload X118.here hx rfl (hb hby at_156) rfl  kk) ?_
        show OwnGoW p e below s Z own_EL _ _ _ T118 (mkF m 158 #[.val (.int p1), .val (.int p2), .val (.int p3), .val (.int p4), .val (.int p5), .val (.int p6), .val (.int (2 : Int32)), .val (.int c0), .val (.int c1), .val (.int c2), .val (.ref b111), .val (.ref b117), .val (.int (p6 &&& (3 : Int32))), .unset, .unset] [(.int (p6 &&& (3 : Int32)))])
        refine OwnGoW.st (fun _ kk => XS.iconst X118.here hx rfl (hb hby at_158) kk) ?_
        show OwnGoW p e below s Z own_EL _ _ _ T118 (mkF m 159 #[.val (.int p1), .val (.int p2), .val (.int p3), .val (.int p4), .val (.int p5), .val (.int p6), .val (.int (2 : Int32)), .val (.int c0), .val (.int c1), .val (.int c2), .val (.ref b111), .val (.ref b117), .val (.int (p6 &&& (3 : Int32))), .unset, .unset] [(.int (3 : Int32)), (.int (p6 &&& (3 : Int32)))])
        by_cases hm3 : (p6 &&& (3 : Int32)) = (3 : Int32)
        · refine OwnGoW.st (fun _ kk => XS.icmpNo X118.here hx rfl (hb hby at_159) rfl (teq (hm3 : (p6 &&& (3 : Int32)) = (3 : Int32))).2 kk) ?_
          show OwnGoW p e below s Z own_EL _ _ _ T118 (mkF m 162 #[.val (.int p1), .val (.int p2), .val (.int p3), .val (.int p4), .val (.int p5), .val (.int p6), .val (.int (2 : Int32)), .val (.int c0), .val (.int c1), .val (.int c2), .val (.ref b111), .val (.ref b117), .val (.int (p6 &&& (3 : Int32))), .unset, .unset] [])
          refine OwnGoW.st (fun _ kk => XS.iload X118.here hx rfl (hb hby at_162) rfl  kk) ?_
          show OwnGoW p e below s Z own_EL _ _ _ T118 (mkF m 164 #[.val (.int p1), .val (.int p2), .val (.int p3), .val (.int p4), .val (.int p5), .val (.int p6), .val (.int (2 : Int32)), .val (.int c0), .val (.int c1), .val (.int c2), .val (.ref b111), .val (.ref b117), .val (.int (p6 &&& (3 : Int32))), .unset, .unset] [(.int c2)])
          refine OwnGoW.st (fun _ kk => XS.istore X118.here hx rfl (hb hby at_164) rfl (l' := #[.val (.int p1), .val (.int p2), .val (.int p3), .val (.int p4), .val (.int p5), .val (.int p6), .val (.int (2 : Int32)), .val (.int c0), .val (.int c1), .val (.int c2), .val (.ref b111), .val (.ref b117), .val (.int (p6 &&& (3 : Int32))), .val (.int c2), .unset]) rfl kk) ?_
          show OwnGoW p e below s Z own_EL _ _ _ T118 (mkF m 166 #[.val (.int p1), .val (.int p2), .val (.int p3), .val (.int p4), .val (.int p5), .val (.int p6), .val (.int (2 : Int32)), .val (.int c0), .val (.int c1), .val (.int c2), .val (.ref b111), .val (.ref b117), .val (.int (p6 &&& (3 : Int32))), .val (.int c2), .unset] [])
          refine OwnGoW.st (fun _ kk => XS.goto X118.here hx rfl (pc0 := 166) (pc' := 174) rfl (hb hby at_166) (by decide) (by decide) kk) ?_
          show OwnGoW p e below s Z own_EL _ _ _ T118 (mkF m 174 #[.val (.int p1), .val (.int p2), .val (.int p3), .val (.int p4), .val (.int p5), .val (.int p6), .val (.int (2 : Int32)), .val (.int c0), .val (.int c1), .val (.int c2), .val (.ref b111), .val (.ref b117), .val (.int (p6 &&& (3 : Int32))), .val (.int c2), .unset] [])
          refine OwnGoW.st (fun _ kk => XS.iload X118.here hx rfl (hb hby at_174) rfl  kk) ?_
          show OwnGoW p e below s Z own_EL _ _ _ T118 (mkF m 176 #[.val (.int p1), .val (.int p2), .val (.int p3), .val (.int p4), .val (.int p5), .val (.int p6), .val (.int (2 : Int32)), .val (.int c0), .val (.int c1), .val (.int c2), .val (.ref b111), .val (.ref b117), .val (.int (p6 &&& (3 : Int32))), .val (.int c2), .unset] [(.int (2 : Int32))])
          refine OwnGoW.st (fun _ kk => XS.iconst X118.here hx rfl (hb hby at_176) kk) ?_
          show OwnGoW p e below s Z own_EL _ _ _ T118 (mkF m 177 #[.val (.int p1), .val (.int p2), .val (.int p3), .val (.int p4), .val (.int p5), .val (.int p6), .val (.int (2 : Int32)), .val (.int c0), .val (.int c1), .val (.int c2), .val (.ref b111), .val (.ref b117), .val (.int (p6 &&& (3 : Int32))), .val (.int c2), .unset] [(.int (1 : Int32)), (.int (2 : Int32))])
          refine OwnGoW.st (fun _ kk => XS.icmpNo X118.here hx rfl (hb hby at_177) rfl (flt ((by decide) : ¬ ((2 : Int32) < (1 : Int32)))).1 kk) ?_
          show OwnGoW p e below s Z own_EL _ _ _ T118 (mkF m 180 #[.val (.int p1), .val (.int p2), .val (.int p3), .val (.int p4), .val (.int p5), .val (.int p6), .val (.int (2 : Int32)), .val (.int c0), .val (.int c1), .val (.int c2), .val (.ref b111), .val (.ref b117), .val (.int (p6 &&& (3 : Int32))), .val (.int c2), .unset] [])
          refine OwnGoW.st (fun _ kk => XS.iload X118.here hx rfl (hb hby at_180) rfl  kk) ?_
          show OwnGoW p e below s Z own_EL _ _ _ T118 (mkF m 182 #[.val (.int p1), .val (.int p2), .val (.int p3), .val (.int p4), .val (.int p5), .val (.int p6), .val (.int (2 : Int32)), .val (.int c0), .val (.int c1), .val (.int c2), .val (.ref b111), .val (.ref b117), .val (.int (p6 &&& (3 : Int32))), .val (.int c2), .unset] [(.int c2)])
          refine OwnGoW.st (fun _ kk => XS.iload X118.here hx rfl (hb hby at_182) rfl  kk) ?_
          show OwnGoW p e below s Z own_EL _ _ _ T118 (mkF m 184 #[.val (.int p1), .val (.int p2), .val (.int p3), .val (.int p4), .val (.int p5), .val (.int p6), .val (.int (2 : Int32)), .val (.int c0), .val (.int c1), .val (.int c2), .val (.ref b111), .val (.ref b117), .val (.int (p6 &&& (3 : Int32))), .val (.int c2), .unset] [(.int c0), (.int c2)])
          by_cases he_c2_c0 : c2 = c0
          · refine OwnGoW.st (fun _ kk => XS.icmpYes X118.here hx rfl (pc0 := 184) (pc' := 213) rfl (hb hby at_184) rfl (teq (he_c2_c0 : c2 = c0)).1 (by decide) (by decide) kk) ?_
            show OwnGoW p e below s Z own_EL _ _ _ T118 (mkF m 213 #[.val (.int p1), .val (.int p2), .val (.int p3), .val (.int p4), .val (.int p5), .val (.int p6), .val (.int (2 : Int32)), .val (.int c0), .val (.int c1), .val (.int c2), .val (.ref b111), .val (.ref b117), .val (.int (p6 &&& (3 : Int32))), .val (.int c2), .unset] [])
            refine OwnGoW.st (fun _ kk => XS.iconst X118.here hx rfl (hb hby at_213) kk) ?_
            show OwnGoW p e below s Z own_EL _ _ _ T118 (mkF m 214 #[.val (.int p1), .val (.int p2), .val (.int p3), .val (.int p4), .val (.int p5), .val (.int p6), .val (.int (2 : Int32)), .val (.int c0), .val (.int c1), .val (.int c2), .val (.ref b111), .val (.ref b117), .val (.int (p6 &&& (3 : Int32))), .val (.int c2), .unset] [(.int (1 : Int32))])
            refine OwnGoW.st (fun _ kk => XS.goto X118.here hx rfl (pc0 := 214) (pc' := 218) rfl (hb hby at_214) (by decide) (by decide) kk) ?_
            show OwnGoW p e below s Z own_EL _ _ _ T118 (mkF m 218 #[.val (.int p1), .val (.int p2), .val (.int p3), .val (.int p4), .val (.int p5), .val (.int p6), .val (.int (2 : Int32)), .val (.int c0), .val (.int c1), .val (.int c2), .val (.ref b111), .val (.ref b117), .val (.int (p6 &&& (3 : Int32))), .val (.int c2), .unset] [(.int (1 : Int32))])
            refine OwnGoW.st (fun _ kk => XS.istore X118.here hx rfl (hb hby at_218) rfl (l' := #[.val (.int p1), .val (.int p2), .val (.int p3), .val (.int p4), .val (.int p5), .val (.int p6), .val (.int (2 : Int32)), .val (.int c0), .val (.int c1), .val (.int c2), .val (.ref b111), .val (.ref b117), .val (.int (p6 &&& (3 : Int32))), .val (.int c2), .val (.int (1 : Int32))]) rfl kk) ?_
            show OwnGoW p e below s Z own_EL _ _ _ T118 (mkF m 220 #[.val (.int p1), .val (.int p2), .val (.int p3), .val (.int p4), .val (.int p5), .val (.int p6), .val (.int (2 : Int32)), .val (.int c0), .val (.int c1), .val (.int c2), .val (.ref b111), .val (.ref b117), .val (.int (p6 &&& (3 : Int32))), .val (.int c2), .val (.int (1 : Int32))] [])
            refine OwnGoW.st (fun _ kk => XS.aload X118.here hx rfl (hb hby at_220) rfl rfl  kk) ?_
            show OwnGoW p e below s Z own_EL _ _ _ T118 (mkF m 222 #[.val (.int p1), .val (.int p2), .val (.int p3), .val (.int p4), .val (.int p5), .val (.int p6), .val (.int (2 : Int32)), .val (.int c0), .val (.int c1), .val (.int c2), .val (.ref b111), .val (.ref b117), .val (.int (p6 &&& (3 : Int32))), .val (.int c2), .val (.int (1 : Int32))] [(.ref b117)])
            refine OwnGoW.st (fun _ kk => XS.iload X118.here hx rfl (hb hby at_222) rfl  kk) ?_
            show OwnGoW p e below s Z own_EL _ _ _ T118 (mkF m 224 #[.val (.int p1), .val (.int p2), .val (.int p3), .val (.int p4), .val (.int p5), .val (.int p6), .val (.int (2 : Int32)), .val (.int c0), .val (.int c1), .val (.int c2), .val (.ref b111), .val (.ref b117), .val (.int (p6 &&& (3 : Int32))), .val (.int c2), .val (.int (1 : Int32))] [(.int c2), (.ref b117)])
            have hlt_ : c2 < (128 : Int32) := he_c2_c0 ▸ P_c0.2
            obtain ⟨cq122, kq122, q122a, q122b, q122c⟩ := isOf hZ rfl E_b117
            obtain ⟨_, _, ⟨T122, L122, k122, n122⟩, -, X122, ⟨Lc122, hQ122, l122, y122, z122⟩, st122⟩ := X118.virtualBack hx (y := (⟨"io/quintet/Alphabet", "contains", "(C)Z"⟩ : MethodName)) (z := (⟨"io/quintet/Alphabet", "contains", "(C)Z"⟩ : MethodName)) hown (mvT hZ (hw _ (List.mem_of_getElem? (i := 40) rfl))) (mvT hZ (hw _ (List.mem_of_getElem? (i := 41) rfl))) (notFace_of_selects (args := #[]) (mvT hZ (hw _ (List.mem_of_getElem? (i := 43) rfl)))) (mvT hZ (hw _ (List.mem_of_getElem? (i := 43) rfl))) (mvT hZ (hw _ (List.mem_of_getElem? (i := 42) rfl))) (by decide) (backOf (W := 0) (rmconY l Z a0 hw [] b117 b118 (own_tab [(c1, 1), (c0, 0)]) c2 T118.heap n0 Z_ Fb118 G118 P_c2.1 hlt_ (own_tabY (c' := c0) (i := 0) (List.mem_of_getElem? (i := 1) rfl) he_c2_c0 (own_tabI rfl (by decide : own_neg [1, 0])))) hZ (hw _ (List.mem_of_getElem? (i := 44) rfl)) (hw _ (List.mem_of_getElem? (i := 10) rfl)) (by decide) (by decide)) q122a q122c (g := (mkF m 224 #[.val (.int p1), .val (.int p2), .val (.int p3), .val (.int p4), .val (.int p5), .val (.int p6), .val (.int (2 : Int32)), .val (.int c0), .val (.int c1), .val (.int c2), .val (.ref b111), .val (.ref b117), .val (.int (p6 &&& (3 : Int32))), .val (.int c2), .val (.int (1 : Int32))] [(.int c2), (.ref b117)])) rfl (by rw [hml]; rfl) (Steps.refl _) (argsL := [(.int c2)]) (rest := []) (lenOf pd_5 rfl) rfl (by show 2 * 0 + _ ≤ _; exact Nat.le_of_eq rfl) (hb hby at_224) (fun _ _ => ⟨rfl, rfl, (by decide : 5 + 0 ≤ _), (by decide : 139 + 0 ≤ _)⟩)
            dsimp only [Pt.U, Pt.locs, Pt.cells, Pt.slots] at X122 l122 y122 z122 st122 hQ122
            subst l122 y122 z122
            obtain ⟨rfl, N122q, e122⟩ := hQ122
            have N122 := Fr.app N118 N122q
            refine OwnGoW.st (fun _ kk => st122.trans kk) ?_
            show OwnGoW p e below s Z own_EL _ _ _ T122 (mkF m 227 #[.val (.int p1), .val (.int p2), .val (.int p3), .val (.int p4), .val (.int p5), .val (.int p6), .val (.int (2 : Int32)), .val (.int c0), .val (.int c1), .val (.int c2), .val (.ref b111), .val (.ref b117), .val (.int (p6 &&& (3 : Int32))), .val (.int c2), .val (.int (1 : Int32))] [(.int (1 : Int32))])
            refine OwnGoW.st (fun _ kk => XS.iload X122.here hx rfl (hb hby at_227) rfl  kk) ?_
            show OwnGoW p e below s Z own_EL _ _ _ T122 (mkF m 229 #[.val (.int p1), .val (.int p2), .val (.int p3), .val (.int p4), .val (.int p5), .val (.int p6), .val (.int (2 : Int32)), .val (.int c0), .val (.int c1), .val (.int c2), .val (.ref b111), .val (.ref b117), .val (.int (p6 &&& (3 : Int32))), .val (.int c2), .val (.int (1 : Int32))] [(.int (1 : Int32)), (.int (1 : Int32))])
            refine OwnGoW.st (fun _ kk => XS.icmpNo X122.here hx rfl (hb hby at_229) rfl (teq ((by decide) : (1 : Int32) = (1 : Int32))).2 kk) ?_
            show OwnGoW p e below s Z own_EL _ _ _ T122 (mkF m 232 #[.val (.int p1), .val (.int p2), .val (.int p3), .val (.int p4), .val (.int p5), .val (.int p6), .val (.int (2 : Int32)), .val (.int c0), .val (.int c1), .val (.int c2), .val (.ref b111), .val (.ref b117), .val (.int (p6 &&& (3 : Int32))), .val (.int c2), .val (.int (1 : Int32))] [])
            refine OwnGoW.st (fun _ kk => XS.iconst X122.here hx rfl (hb hby at_232) kk) ?_
            show OwnGoW p e below s Z own_EL _ _ _ T122 (mkF m 233 #[.val (.int p1), .val (.int p2), .val (.int p3), .val (.int p4), .val (.int p5), .val (.int p6), .val (.int (2 : Int32)), .val (.int c0), .val (.int c1), .val (.int c2), .val (.ref b111), .val (.ref b117), .val (.int (p6 &&& (3 : Int32))), .val (.int c2), .val (.int (1 : Int32))] [(.int (1 : Int32))])
            refine OwnGoW.st (fun _ kk => XS.goto X122.here hx rfl (pc0 := 233) (pc' := 237) rfl (hb hby at_233) (by decide) (by decide) kk) ?_
            show OwnGoW p e below s Z own_EL _ _ _ T122 (mkF m 237 #[.val (.int p1), .val (.int p2), .val (.int p3), .val (.int p4), .val (.int p5), .val (.int p6), .val (.int (2 : Int32)), .val (.int c0), .val (.int c1), .val (.int c2), .val (.ref b111), .val (.ref b117), .val (.int (p6 &&& (3 : Int32))), .val (.int c2), .val (.int (1 : Int32))] [(.int (1 : Int32))])
            exact OwnGoW.retN (s := s) (vm0 := s.vm) X122 hS_ hk_ e122 hZ (own_hEL hw) CR hx (t := .boolean) hret hlk (by simp) (hb hby at_237) (by show Q0 Z p1 p2 p3 p4 p5 p6 zc fmv h0 n0 _ T122.heap _; rw [e122]; exact ⟨rfl, N122⟩) (by decide) (by decide)
          · refine OwnGoW.st (fun _ kk => XS.icmpNo X118.here hx rfl (hb hby at_184) rfl (feq (he_c2_c0 : ¬ (c2 = c0))).1 kk) ?_
            show OwnGoW p e below s Z own_EL _ _ _ T118 (mkF m 187 #[.val (.int p1), .val (.int p2), .val (.int p3), .val (.int p4), .val (.int p5), .val (.int p6), .val (.int (2 : Int32)), .val (.int c0), .val (.int c1), .val (.int c2), .val (.ref b111), .val (.ref b117), .val (.int (p6 &&& (3 : Int32))), .val (.int c2), .unset] [])
            refine OwnGoW.st (fun _ kk => XS.iload X118.here hx rfl (hb hby at_187) rfl  kk) ?_
            show OwnGoW p e below s Z own_EL _ _ _ T118 (mkF m 189 #[.val (.int p1), .val (.int p2), .val (.int p3), .val (.int p4), .val (.int p5), .val (.int p6), .val (.int (2 : Int32)), .val (.int c0), .val (.int c1), .val (.int c2), .val (.ref b111), .val (.ref b117), .val (.int (p6 &&& (3 : Int32))), .val (.int c2), .unset] [(.int (2 : Int32))])
            refine OwnGoW.st (fun _ kk => XS.iconst X118.here hx rfl (hb hby at_189) kk) ?_
            show OwnGoW p e below s Z own_EL _ _ _ T118 (mkF m 190 #[.val (.int p1), .val (.int p2), .val (.int p3), .val (.int p4), .val (.int p5), .val (.int p6), .val (.int (2 : Int32)), .val (.int c0), .val (.int c1), .val (.int c2), .val (.ref b111), .val (.ref b117), .val (.int (p6 &&& (3 : Int32))), .val (.int c2), .unset] [(.int (2 : Int32)), (.int (2 : Int32))])
            refine OwnGoW.st (fun _ kk => XS.icmpNo X118.here hx rfl (hb hby at_190) rfl (flt ((by decide) : ¬ ((2 : Int32) < (2 : Int32)))).1 kk) ?_
            show OwnGoW p e below s Z own_EL _ _ _ T118 (mkF m 193 #[.val (.int p1), .val (.int p2), .val (.int p3), .val (.int p4), .val (.int p5), .val (.int p6), .val (.int (2 : Int32)), .val (.int c0), .val (.int c1), .val (.int c2), .val (.ref b111), .val (.ref b117), .val (.int (p6 &&& (3 : Int32))), .val (.int c2), .unset] [])
            refine OwnGoW.st (fun _ kk => XS.iload X118.here hx rfl (hb hby at_193) rfl  kk) ?_
            show OwnGoW p e below s Z own_EL _ _ _ T118 (mkF m 195 #[.val (.int p1), .val (.int p2), .val (.int p3), .val (.int p4), .val (.int p5), .val (.int p6), .val (.int (2 : Int32)), .val (.int c0), .val (.int c1), .val (.int c2), .val (.ref b111), .val (.ref b117), .val (.int (p6 &&& (3 : Int32))), .val (.int c2), .unset] [(.int c2)])
            refine OwnGoW.st (fun _ kk => XS.iload X118.here hx rfl (hb hby at_195) rfl  kk) ?_
            show OwnGoW p e below s Z own_EL _ _ _ T118 (mkF m 197 #[.val (.int p1), .val (.int p2), .val (.int p3), .val (.int p4), .val (.int p5), .val (.int p6), .val (.int (2 : Int32)), .val (.int c0), .val (.int c1), .val (.int c2), .val (.ref b111), .val (.ref b117), .val (.int (p6 &&& (3 : Int32))), .val (.int c2), .unset] [(.int c1), (.int c2)])
            by_cases he_c2_c1 : c2 = c1
            · refine OwnGoW.st (fun _ kk => XS.icmpYes X118.here hx rfl (pc0 := 197) (pc' := 213) rfl (hb hby at_197) rfl (teq (he_c2_c1 : c2 = c1)).1 (by decide) (by decide) kk) ?_
              show OwnGoW p e below s Z own_EL _ _ _ T118 (mkF m 213 #[.val (.int p1), .val (.int p2), .val (.int p3), .val (.int p4), .val (.int p5), .val (.int p6), .val (.int (2 : Int32)), .val (.int c0), .val (.int c1), .val (.int c2), .val (.ref b111), .val (.ref b117), .val (.int (p6 &&& (3 : Int32))), .val (.int c2), .unset] [])
              refine OwnGoW.st (fun _ kk => XS.iconst X118.here hx rfl (hb hby at_213) kk) ?_
              show OwnGoW p e below s Z own_EL _ _ _ T118 (mkF m 214 #[.val (.int p1), .val (.int p2), .val (.int p3), .val (.int p4), .val (.int p5), .val (.int p6), .val (.int (2 : Int32)), .val (.int c0), .val (.int c1), .val (.int c2), .val (.ref b111), .val (.ref b117), .val (.int (p6 &&& (3 : Int32))), .val (.int c2), .unset] [(.int (1 : Int32))])
              refine OwnGoW.st (fun _ kk => XS.goto X118.here hx rfl (pc0 := 214) (pc' := 218) rfl (hb hby at_214) (by decide) (by decide) kk) ?_
              show OwnGoW p e below s Z own_EL _ _ _ T118 (mkF m 218 #[.val (.int p1), .val (.int p2), .val (.int p3), .val (.int p4), .val (.int p5), .val (.int p6), .val (.int (2 : Int32)), .val (.int c0), .val (.int c1), .val (.int c2), .val (.ref b111), .val (.ref b117), .val (.int (p6 &&& (3 : Int32))), .val (.int c2), .unset] [(.int (1 : Int32))])
              refine OwnGoW.st (fun _ kk => XS.istore X118.here hx rfl (hb hby at_218) rfl (l' := #[.val (.int p1), .val (.int p2), .val (.int p3), .val (.int p4), .val (.int p5), .val (.int p6), .val (.int (2 : Int32)), .val (.int c0), .val (.int c1), .val (.int c2), .val (.ref b111), .val (.ref b117), .val (.int (p6 &&& (3 : Int32))), .val (.int c2), .val (.int (1 : Int32))]) rfl kk) ?_
              show OwnGoW p e below s Z own_EL _ _ _ T118 (mkF m 220 #[.val (.int p1), .val (.int p2), .val (.int p3), .val (.int p4), .val (.int p5), .val (.int p6), .val (.int (2 : Int32)), .val (.int c0), .val (.int c1), .val (.int c2), .val (.ref b111), .val (.ref b117), .val (.int (p6 &&& (3 : Int32))), .val (.int c2), .val (.int (1 : Int32))] [])
              refine OwnGoW.st (fun _ kk => XS.aload X118.here hx rfl (hb hby at_220) rfl rfl  kk) ?_
              show OwnGoW p e below s Z own_EL _ _ _ T118 (mkF m 222 #[.val (.int p1), .val (.int p2), .val (.int p3), .val (.int p4), .val (.int p5), .val (.int p6), .val (.int (2 : Int32)), .val (.int c0), .val (.int c1), .val (.int c2), .val (.ref b111), .val (.ref b117), .val (.int (p6 &&& (3 : Int32))), .val (.int c2), .val (.int (1 : Int32))] [(.ref b117)])
              refine OwnGoW.st (fun _ kk => XS.iload X118.here hx rfl (hb hby at_222) rfl  kk) ?_
              show OwnGoW p e below s Z own_EL _ _ _ T118 (mkF m 224 #[.val (.int p1), .val (.int p2), .val (.int p3), .val (.int p4), .val (.int p5), .val (.int p6), .val (.int (2 : Int32)), .val (.int c0), .val (.int c1), .val (.int c2), .val (.ref b111), .val (.ref b117), .val (.int (p6 &&& (3 : Int32))), .val (.int c2), .val (.int (1 : Int32))] [(.int c2), (.ref b117)])
              have hlt_ : c2 < (128 : Int32) := he_c2_c1 ▸ P_c1.2
              obtain ⟨cq123, kq123, q123a, q123b, q123c⟩ := isOf hZ rfl E_b117
              obtain ⟨_, _, ⟨T123, L123, k123, n123⟩, -, X123, ⟨Lc123, hQ123, l123, y123, z123⟩, st123⟩ := X118.virtualBack hx (y := (⟨"io/quintet/Alphabet", "contains", "(C)Z"⟩ : MethodName)) (z := (⟨"io/quintet/Alphabet", "contains", "(C)Z"⟩ : MethodName)) hown (mvT hZ (hw _ (List.mem_of_getElem? (i := 40) rfl))) (mvT hZ (hw _ (List.mem_of_getElem? (i := 41) rfl))) (notFace_of_selects (args := #[]) (mvT hZ (hw _ (List.mem_of_getElem? (i := 43) rfl)))) (mvT hZ (hw _ (List.mem_of_getElem? (i := 43) rfl))) (mvT hZ (hw _ (List.mem_of_getElem? (i := 42) rfl))) (by decide) (backOf (W := 0) (rmconY l Z a0 hw [] b117 b118 (own_tab [(c1, 1), (c0, 0)]) c2 T118.heap n0 Z_ Fb118 G118 P_c2.1 hlt_ (own_tabY (c' := c1) (i := 1) (List.mem_of_getElem? (i := 0) rfl) he_c2_c1 (own_tabI rfl (by decide : own_neg [1, 0])))) hZ (hw _ (List.mem_of_getElem? (i := 44) rfl)) (hw _ (List.mem_of_getElem? (i := 10) rfl)) (by decide) (by decide)) q123a q123c (g := (mkF m 224 #[.val (.int p1), .val (.int p2), .val (.int p3), .val (.int p4), .val (.int p5), .val (.int p6), .val (.int (2 : Int32)), .val (.int c0), .val (.int c1), .val (.int c2), .val (.ref b111), .val (.ref b117), .val (.int (p6 &&& (3 : Int32))), .val (.int c2), .val (.int (1 : Int32))] [(.int c2), (.ref b117)])) rfl (by rw [hml]; rfl) (Steps.refl _) (argsL := [(.int c2)]) (rest := []) (lenOf pd_5 rfl) rfl (by show 2 * 0 + _ ≤ _; exact Nat.le_of_eq rfl) (hb hby at_224) (fun _ _ => ⟨rfl, rfl, (by decide : 5 + 0 ≤ _), (by decide : 139 + 0 ≤ _)⟩)
              dsimp only [Pt.U, Pt.locs, Pt.cells, Pt.slots] at X123 l123 y123 z123 st123 hQ123
              subst l123 y123 z123
              obtain ⟨rfl, N123q, e123⟩ := hQ123
              have N123 := Fr.app N118 N123q
              refine OwnGoW.st (fun _ kk => st123.trans kk) ?_
              show OwnGoW p e below s Z own_EL _ _ _ T123 (mkF m 227 #[.val (.int p1), .val (.int p2), .val (.int p3), .val (.int p4), .val (.int p5), .val (.int p6), .val (.int (2 : Int32)), .val (.int c0), .val (.int c1), .val (.int c2), .val (.ref b111), .val (.ref b117), .val (.int (p6 &&& (3 : Int32))), .val (.int c2), .val (.int (1 : Int32))] [(.int (1 : Int32))])
              refine OwnGoW.st (fun _ kk => XS.iload X123.here hx rfl (hb hby at_227) rfl  kk) ?_
              show OwnGoW p e below s Z own_EL _ _ _ T123 (mkF m 229 #[.val (.int p1), .val (.int p2), .val (.int p3), .val (.int p4), .val (.int p5), .val (.int p6), .val (.int (2 : Int32)), .val (.int c0), .val (.int c1), .val (.int c2), .val (.ref b111), .val (.ref b117), .val (.int (p6 &&& (3 : Int32))), .val (.int c2), .val (.int (1 : Int32))] [(.int (1 : Int32)), (.int (1 : Int32))])
              refine OwnGoW.st (fun _ kk => XS.icmpNo X123.here hx rfl (hb hby at_229) rfl (teq ((by decide) : (1 : Int32) = (1 : Int32))).2 kk) ?_
              show OwnGoW p e below s Z own_EL _ _ _ T123 (mkF m 232 #[.val (.int p1), .val (.int p2), .val (.int p3), .val (.int p4), .val (.int p5), .val (.int p6), .val (.int (2 : Int32)), .val (.int c0), .val (.int c1), .val (.int c2), .val (.ref b111), .val (.ref b117), .val (.int (p6 &&& (3 : Int32))), .val (.int c2), .val (.int (1 : Int32))] [])
              refine OwnGoW.st (fun _ kk => XS.iconst X123.here hx rfl (hb hby at_232) kk) ?_
              show OwnGoW p e below s Z own_EL _ _ _ T123 (mkF m 233 #[.val (.int p1), .val (.int p2), .val (.int p3), .val (.int p4), .val (.int p5), .val (.int p6), .val (.int (2 : Int32)), .val (.int c0), .val (.int c1), .val (.int c2), .val (.ref b111), .val (.ref b117), .val (.int (p6 &&& (3 : Int32))), .val (.int c2), .val (.int (1 : Int32))] [(.int (1 : Int32))])
              refine OwnGoW.st (fun _ kk => XS.goto X123.here hx rfl (pc0 := 233) (pc' := 237) rfl (hb hby at_233) (by decide) (by decide) kk) ?_
              show OwnGoW p e below s Z own_EL _ _ _ T123 (mkF m 237 #[.val (.int p1), .val (.int p2), .val (.int p3), .val (.int p4), .val (.int p5), .val (.int p6), .val (.int (2 : Int32)), .val (.int c0), .val (.int c1), .val (.int c2), .val (.ref b111), .val (.ref b117), .val (.int (p6 &&& (3 : Int32))), .val (.int c2), .val (.int (1 : Int32))] [(.int (1 : Int32))])
              exact OwnGoW.retN (s := s) (vm0 := s.vm) X123 hS_ hk_ e123 hZ (own_hEL hw) CR hx (t := .boolean) hret hlk (by simp) (hb hby at_237) (by show Q0 Z p1 p2 p3 p4 p5 p6 zc fmv h0 n0 _ T123.heap _; rw [e123]; exact ⟨rfl, N123⟩) (by decide) (by decide)
            · refine OwnGoW.st (fun _ kk => XS.icmpNo X118.here hx rfl (hb hby at_197) rfl (feq (he_c2_c1 : ¬ (c2 = c1))).1 kk) ?_
              show OwnGoW p e below s Z own_EL _ _ _ T118 (mkF m 200 #[.val (.int p1), .val (.int p2), .val (.int p3), .val (.int p4), .val (.int p5), .val (.int p6), .val (.int (2 : Int32)), .val (.int c0), .val (.int c1), .val (.int c2), .val (.ref b111), .val (.ref b117), .val (.int (p6 &&& (3 : Int32))), .val (.int c2), .unset] [])
              refine OwnGoW.st (fun _ kk => XS.iload X118.here hx rfl (hb hby at_200) rfl  kk) ?_
              show OwnGoW p e below s Z own_EL _ _ _ T118 (mkF m 202 #[.val (.int p1), .val (.int p2), .val (.int p3), .val (.int p4), .val (.int p5), .val (.int p6), .val (.int (2 : Int32)), .val (.int c0), .val (.int c1), .val (.int c2), .val (.ref b111), .val (.ref b117), .val (.int (p6 &&& (3 : Int32))), .val (.int c2), .unset] [(.int (2 : Int32))])
              refine OwnGoW.st (fun _ kk => XS.iconst X118.here hx rfl (hb hby at_202) kk) ?_
              show OwnGoW p e below s Z own_EL _ _ _ T118 (mkF m 203 #[.val (.int p1), .val (.int p2), .val (.int p3), .val (.int p4), .val (.int p5), .val (.int p6), .val (.int (2 : Int32)), .val (.int c0), .val (.int c1), .val (.int c2), .val (.ref b111), .val (.ref b117), .val (.int (p6 &&& (3 : Int32))), .val (.int c2), .unset] [(.int (3 : Int32)), (.int (2 : Int32))])
              refine OwnGoW.st (fun _ kk => XS.icmpYes X118.here hx rfl (pc0 := 203) (pc' := 217) rfl (hb hby at_203) rfl (tlt ((by decide) : (2 : Int32) < (3 : Int32))).1 (by decide) (by decide) kk) ?_
              show OwnGoW p e below s Z own_EL _ _ _ T118 (mkF m 217 #[.val (.int p1), .val (.int p2), .val (.int p3), .val (.int p4), .val (.int p5), .val (.int p6), .val (.int (2 : Int32)), .val (.int c0), .val (.int c1), .val (.int c2), .val (.ref b111), .val (.ref b117), .val (.int (p6 &&& (3 : Int32))), .val (.int c2), .unset] [])
              refine OwnGoW.st (fun _ kk => XS.iconst X118.here hx rfl (hb hby at_217) kk) ?_
              show OwnGoW p e below s Z own_EL _ _ _ T118 (mkF m 218 #[.val (.int p1), .val (.int p2), .val (.int p3), .val (.int p4), .val (.int p5), .val (.int p6), .val (.int (2 : Int32)), .val (.int c0), .val (.int c1), .val (.int c2), .val (.ref b111), .val (.ref b117), .val (.int (p6 &&& (3 : Int32))), .val (.int c2), .unset] [(.int (0 : Int32))])
              refine OwnGoW.st (fun _ kk => XS.istore X118.here hx rfl (hb hby at_218) rfl (l' := #[.val (.int p1), .val (.int p2), .val (.int p3), .val (.int p4), .val (.int p5), .val (.int p6), .val (.int (2 : Int32)), .val (.int c0), .val (.int c1), .val (.int c2), .val (.ref b111), .val (.ref b117), .val (.int (p6 &&& (3 : Int32))), .val (.int c2), .val (.int (0 : Int32))]) rfl kk) ?_
              show OwnGoW p e below s Z own_EL _ _ _ T118 (mkF m 220 #[.val (.int p1), .val (.int p2), .val (.int p3), .val (.int p4), .val (.int p5), .val (.int p6), .val (.int (2 : Int32)), .val (.int c0), .val (.int c1), .val (.int c2), .val (.ref b111), .val (.ref b117), .val (.int (p6 &&& (3 : Int32))), .val (.int c2), .val (.int (0 : Int32))] [])
              refine OwnGoW.st (fun _ kk => XS.aload X118.here hx rfl (hb hby at_220) rfl rfl  kk) ?_
              show OwnGoW p e below s Z own_EL _ _ _ T118 (mkF m 222 #[.val (.int p1), .val (.int p2), .val (.int p3), .val (.int p4), .val (.int p5), .val (.int p6), .val (.int (2 : Int32)), .val (.int c0), .val (.int c1), .val (.int c2), .val (.ref b111), .val (.ref b117), .val (.int (p6 &&& (3 : Int32))), .val (.int c2), .val (.int (0 : Int32))] [(.ref b117)])
              refine OwnGoW.st (fun _ kk => XS.iload X118.here hx rfl (hb hby at_222) rfl  kk) ?_
              show OwnGoW p e below s Z own_EL _ _ _ T118 (mkF m 224 #[.val (.int p1), .val (.int p2), .val (.int p3), .val (.int p4), .val (.int p5), .val (.int p6), .val (.int (2 : Int32)), .val (.int c0), .val (.int c1), .val (.int c2), .val (.ref b111), .val (.ref b117), .val (.int (p6 &&& (3 : Int32))), .val (.int c2), .val (.int (0 : Int32))] [(.int c2), (.ref b117)])
              by_cases hlt_ : c2 < (128 : Int32)
              · obtain ⟨cq124, kq124, q124a, q124b, q124c⟩ := isOf hZ rfl E_b117
                obtain ⟨_, _, ⟨T124, L124, k124, n124⟩, -, X124, ⟨Lc124, hQ124, l124, y124, z124⟩, st124⟩ := X118.virtualBack hx (y := (⟨"io/quintet/Alphabet", "contains", "(C)Z"⟩ : MethodName)) (z := (⟨"io/quintet/Alphabet", "contains", "(C)Z"⟩ : MethodName)) hown (mvT hZ (hw _ (List.mem_of_getElem? (i := 40) rfl))) (mvT hZ (hw _ (List.mem_of_getElem? (i := 41) rfl))) (notFace_of_selects (args := #[]) (mvT hZ (hw _ (List.mem_of_getElem? (i := 43) rfl)))) (mvT hZ (hw _ (List.mem_of_getElem? (i := 43) rfl))) (mvT hZ (hw _ (List.mem_of_getElem? (i := 42) rfl))) (by decide) (backOf (W := 0) (rmconN l Z a0 hw [] b117 b118 (own_tab [(c1, 1), (c0, 0)]) c2 T118.heap n0 Z_ Fb118 G118 P_c2.1 hlt_ (own_tabN P_c2.1 (own_cons P_c1.1 he_c2_c1 (own_cons P_c0.1 he_c2_c0 own_nil)))) hZ (hw _ (List.mem_of_getElem? (i := 44) rfl)) (hw _ (List.mem_of_getElem? (i := 10) rfl)) (by decide) (by decide)) q124a q124c (g := (mkF m 224 #[.val (.int p1), .val (.int p2), .val (.int p3), .val (.int p4), .val (.int p5), .val (.int p6), .val (.int (2 : Int32)), .val (.int c0), .val (.int c1), .val (.int c2), .val (.ref b111), .val (.ref b117), .val (.int (p6 &&& (3 : Int32))), .val (.int c2), .val (.int (0 : Int32))] [(.int c2), (.ref b117)])) rfl (by rw [hml]; rfl) (Steps.refl _) (argsL := [(.int c2)]) (rest := []) (lenOf pd_5 rfl) rfl (by show 2 * 0 + _ ≤ _; exact Nat.le_of_eq rfl) (hb hby at_224) (fun _ _ => ⟨rfl, rfl, (by decide : 5 + 0 ≤ _), (by decide : 139 + 0 ≤ _)⟩)
                dsimp only [Pt.U, Pt.locs, Pt.cells, Pt.slots] at X124 l124 y124 z124 st124 hQ124
                subst l124 y124 z124
                obtain ⟨rfl, N124q, e124⟩ := hQ124
                have N124 := Fr.app N118 N124q
                refine OwnGoW.st (fun _ kk => st124.trans kk) ?_
                show OwnGoW p e below s Z own_EL _ _ _ T124 (mkF m 227 #[.val (.int p1), .val (.int p2), .val (.int p3), .val (.int p4), .val (.int p5), .val (.int p6), .val (.int (2 : Int32)), .val (.int c0), .val (.int c1), .val (.int c2), .val (.ref b111), .val (.ref b117), .val (.int (p6 &&& (3 : Int32))), .val (.int c2), .val (.int (0 : Int32))] [(.int (0 : Int32))])
                refine OwnGoW.st (fun _ kk => XS.iload X124.here hx rfl (hb hby at_227) rfl  kk) ?_
                show OwnGoW p e below s Z own_EL _ _ _ T124 (mkF m 229 #[.val (.int p1), .val (.int p2), .val (.int p3), .val (.int p4), .val (.int p5), .val (.int p6), .val (.int (2 : Int32)), .val (.int c0), .val (.int c1), .val (.int c2), .val (.ref b111), .val (.ref b117), .val (.int (p6 &&& (3 : Int32))), .val (.int c2), .val (.int (0 : Int32))] [(.int (0 : Int32)), (.int (0 : Int32))])
                refine OwnGoW.st (fun _ kk => XS.icmpNo X124.here hx rfl (hb hby at_229) rfl (teq ((by decide) : (0 : Int32) = (0 : Int32))).2 kk) ?_
                show OwnGoW p e below s Z own_EL _ _ _ T124 (mkF m 232 #[.val (.int p1), .val (.int p2), .val (.int p3), .val (.int p4), .val (.int p5), .val (.int p6), .val (.int (2 : Int32)), .val (.int c0), .val (.int c1), .val (.int c2), .val (.ref b111), .val (.ref b117), .val (.int (p6 &&& (3 : Int32))), .val (.int c2), .val (.int (0 : Int32))] [])
                refine OwnGoW.st (fun _ kk => XS.iconst X124.here hx rfl (hb hby at_232) kk) ?_
                show OwnGoW p e below s Z own_EL _ _ _ T124 (mkF m 233 #[.val (.int p1), .val (.int p2), .val (.int p3), .val (.int p4), .val (.int p5), .val (.int p6), .val (.int (2 : Int32)), .val (.int c0), .val (.int c1), .val (.int c2), .val (.ref b111), .val (.ref b117), .val (.int (p6 &&& (3 : Int32))), .val (.int c2), .val (.int (0 : Int32))] [(.int (1 : Int32))])
                refine OwnGoW.st (fun _ kk => XS.goto X124.here hx rfl (pc0 := 233) (pc' := 237) rfl (hb hby at_233) (by decide) (by decide) kk) ?_
                show OwnGoW p e below s Z own_EL _ _ _ T124 (mkF m 237 #[.val (.int p1), .val (.int p2), .val (.int p3), .val (.int p4), .val (.int p5), .val (.int p6), .val (.int (2 : Int32)), .val (.int c0), .val (.int c1), .val (.int c2), .val (.ref b111), .val (.ref b117), .val (.int (p6 &&& (3 : Int32))), .val (.int c2), .val (.int (0 : Int32))] [(.int (1 : Int32))])
                exact OwnGoW.retN (s := s) (vm0 := s.vm) X124 hS_ hk_ e124 hZ (own_hEL hw) CR hx (t := .boolean) hret hlk (by simp) (hb hby at_237) (by show Q0 Z p1 p2 p3 p4 p5 p6 zc fmv h0 n0 _ T124.heap _; rw [e124]; exact ⟨rfl, N124⟩) (by decide) (by decide)
              · obtain ⟨cq125, kq125, q125a, q125b, q125c⟩ := isOf hZ rfl E_b117
                obtain ⟨_, _, ⟨T125, L125, k125, n125⟩, -, X125, ⟨Lc125, hQ125, l125, y125, z125⟩, st125⟩ := X118.virtualBack hx (y := (⟨"io/quintet/Alphabet", "contains", "(C)Z"⟩ : MethodName)) (z := (⟨"io/quintet/Alphabet", "contains", "(C)Z"⟩ : MethodName)) hown (mvT hZ (hw _ (List.mem_of_getElem? (i := 40) rfl))) (mvT hZ (hw _ (List.mem_of_getElem? (i := 41) rfl))) (notFace_of_selects (args := #[]) (mvT hZ (hw _ (List.mem_of_getElem? (i := 43) rfl)))) (mvT hZ (hw _ (List.mem_of_getElem? (i := 43) rfl))) (mvT hZ (hw _ (List.mem_of_getElem? (i := 42) rfl))) (by decide) (backOf (W := 0) (rmconB l Z a0 hw [] b117 b118 (own_tab [(c1, 1), (c0, 0)]) c2 T118.heap n0 Z_ Fb118 G118 P_c2.1 hlt_) hZ (hw _ (List.mem_of_getElem? (i := 44) rfl)) (hw _ (List.mem_of_getElem? (i := 10) rfl)) (by decide) (by decide)) q125a q125c (g := (mkF m 224 #[.val (.int p1), .val (.int p2), .val (.int p3), .val (.int p4), .val (.int p5), .val (.int p6), .val (.int (2 : Int32)), .val (.int c0), .val (.int c1), .val (.int c2), .val (.ref b111), .val (.ref b117), .val (.int (p6 &&& (3 : Int32))), .val (.int c2), .val (.int (0 : Int32))] [(.int c2), (.ref b117)])) rfl (by rw [hml]; rfl) (Steps.refl _) (argsL := [(.int c2)]) (rest := []) (lenOf pd_5 rfl) rfl (by show 2 * 0 + _ ≤ _; exact Nat.le_of_eq rfl) (hb hby at_224) (fun _ _ => ⟨rfl, rfl, (by decide : 5 + 0 ≤ _), (by decide : 139 + 0 ≤ _)⟩)
                dsimp only [Pt.U, Pt.locs, Pt.cells, Pt.slots] at X125 l125 y125 z125 st125 hQ125
                subst l125 y125 z125
                obtain ⟨rfl, N125q, e125⟩ := hQ125
                have N125 := Fr.app N118 N125q
                refine OwnGoW.st (fun _ kk => st125.trans kk) ?_
                show OwnGoW p e below s Z own_EL _ _ _ T125 (mkF m 227 #[.val (.int p1), .val (.int p2), .val (.int p3), .val (.int p4), .val (.int p5), .val (.int p6), .val (.int (2 : Int32)), .val (.int c0), .val (.int c1), .val (.int c2), .val (.ref b111), .val (.ref b117), .val (.int (p6 &&& (3 : Int32))), .val (.int c2), .val (.int (0 : Int32))] [(.int (0 : Int32))])
                refine OwnGoW.st (fun _ kk => XS.iload X125.here hx rfl (hb hby at_227) rfl  kk) ?_
                show OwnGoW p e below s Z own_EL _ _ _ T125 (mkF m 229 #[.val (.int p1), .val (.int p2), .val (.int p3), .val (.int p4), .val (.int p5), .val (.int p6), .val (.int (2 : Int32)), .val (.int c0), .val (.int c1), .val (.int c2), .val (.ref b111), .val (.ref b117), .val (.int (p6 &&& (3 : Int32))), .val (.int c2), .val (.int (0 : Int32))] [(.int (0 : Int32)), (.int (0 : Int32))])
                refine OwnGoW.st (fun _ kk => XS.icmpNo X125.here hx rfl (hb hby at_229) rfl (teq ((by decide) : (0 : Int32) = (0 : Int32))).2 kk) ?_
                show OwnGoW p e below s Z own_EL _ _ _ T125 (mkF m 232 #[.val (.int p1), .val (.int p2), .val (.int p3), .val (.int p4), .val (.int p5), .val (.int p6), .val (.int (2 : Int32)), .val (.int c0), .val (.int c1), .val (.int c2), .val (.ref b111), .val (.ref b117), .val (.int (p6 &&& (3 : Int32))), .val (.int c2), .val (.int (0 : Int32))] [])
                refine OwnGoW.st (fun _ kk => XS.iconst X125.here hx rfl (hb hby at_232) kk) ?_
                show OwnGoW p e below s Z own_EL _ _ _ T125 (mkF m 233 #[.val (.int p1), .val (.int p2), .val (.int p3), .val (.int p4), .val (.int p5), .val (.int p6), .val (.int (2 : Int32)), .val (.int c0), .val (.int c1), .val (.int c2), .val (.ref b111), .val (.ref b117), .val (.int (p6 &&& (3 : Int32))), .val (.int c2), .val (.int (0 : Int32))] [(.int (1 : Int32))])
                refine OwnGoW.st (fun _ kk => XS.goto X125.here hx rfl (pc0 := 233) (pc' := 237) rfl (hb hby at_233) (by decide) (by decide) kk) ?_
                show OwnGoW p e below s Z own_EL _ _ _ T125 (mkF m 237 #[.val (.int p1), .val (.int p2), .val (.int p3), .val (.int p4), .val (.int p5), .val (.int p6), .val (.int (2 : Int32)), .val (.int c0), .val (.int c1), .val (.int c2), .val (.ref b111), .val (.ref b117), .val (.int (p6 &&& (3 : Int32))), .val (.int c2), .val (.int (0 : Int32))] [(.int (1 : Int32))])
                exact OwnGoW.retN (s := s) (vm0 := s.vm) X125 hS_ hk_ e125 hZ (own_hEL hw) CR hx (t := .boolean) hret hlk (by simp) (hb hby at_237) (by show Q0 Z p1 p2 p3 p4 p5 p6 zc fmv h0 n0 _ T125.heap _; rw [e125]; exact ⟨rfl, N125⟩) (by decide) (by decide)
        · refine OwnGoW.st (fun _ kk => XS.icmpYes X118.here hx rfl (pc0 := 159) (pc' := 169) rfl (hb hby at_159) rfl (feq (hm3 : ¬ ((p6 &&& (3 : Int32)) = (3 : Int32)))).2 (by decide) (by decide) kk) ?_
          show OwnGoW p e below s Z own_EL _ _ _ T118 (mkF m 169 #[.val (.int p1), .val (.int p2), .val (.int p3), .val (.int p4), .val (.int p5), .val (.int p6), .val (.int (2 : Int32)), .val (.int c0), .val (.int c1), .val (.int c2), .val (.ref b111), .val (.ref b117), .val (.int (p6 &&& (3 : Int32))), .unset, .unset] [])
          refine OwnGoW.st (fun _ kk => XS.iload X118.here hx rfl (hb hby at_169) rfl  kk) ?_
          show OwnGoW p e below s Z own_EL _ _ _ T118 (mkF m 171 #[.val (.int p1), .val (.int p2), .val (.int p3), .val (.int p4), .val (.int p5), .val (.int p6), .val (.int (2 : Int32)), .val (.int c0), .val (.int c1), .val (.int c2), .val (.ref b111), .val (.ref b117), .val (.int (p6 &&& (3 : Int32))), .unset, .unset] [(.int p5)])
          refine OwnGoW.st (fun _ kk => XS.i2c X118.here hx rfl (hb hby at_171) rfl kk) ?_
          show OwnGoW p e below s Z own_EL _ _ _ T118 (mkF m 172 #[.val (.int p1), .val (.int p2), .val (.int p3), .val (.int p4), .val (.int p5), .val (.int p6), .val (.int (2 : Int32)), .val (.int c0), .val (.int c1), .val (.int c2), .val (.ref b111), .val (.ref b117), .val (.int (p6 &&& (3 : Int32))), .unset, .unset] [(.int (p5.toUInt32.toUInt16.toUInt32.toInt32))])
          obtain ⟨c4, hc4⟩ : ∃ z : Int32, z = (p5.toUInt32.toUInt16.toUInt32.toInt32) := ⟨_, rfl⟩
          rw [← hc4]
          show OwnGoW p e below s Z own_EL _ _ _ T118 (mkF m 172 #[.val (.int p1), .val (.int p2), .val (.int p3), .val (.int p4), .val (.int p5), .val (.int p6), .val (.int (2 : Int32)), .val (.int c0), .val (.int c1), .val (.int c2), .val (.ref b111), .val (.ref b117), .val (.int (p6 &&& (3 : Int32))), .unset, .unset] [(.int c4)])
          have hp0 : ¬ c4 < (0 : Int32) := hc4 ▸ own_c0 _
          refine OwnGoW.st (fun _ kk => XS.istore X118.here hx rfl (hb hby at_172) rfl (l' := #[.val (.int p1), .val (.int p2), .val (.int p3), .val (.int p4), .val (.int p5), .val (.int p6), .val (.int (2 : Int32)), .val (.int c0), .val (.int c1), .val (.int c2), .val (.ref b111), .val (.ref b117), .val (.int (p6 &&& (3 : Int32))), .val (.int c4), .unset]) rfl kk) ?_
          show OwnGoW p e below s Z own_EL _ _ _ T118 (mkF m 174 #[.val (.int p1), .val (.int p2), .val (.int p3), .val (.int p4), .val (.int p5), .val (.int p6), .val (.int (2 : Int32)), .val (.int c0), .val (.int c1), .val (.int c2), .val (.ref b111), .val (.ref b117), .val (.int (p6 &&& (3 : Int32))), .val (.int c4), .unset] [])
          refine OwnGoW.st (fun _ kk => XS.iload X118.here hx rfl (hb hby at_174) rfl  kk) ?_
          show OwnGoW p e below s Z own_EL _ _ _ T118 (mkF m 176 #[.val (.int p1), .val (.int p2), .val (.int p3), .val (.int p4), .val (.int p5), .val (.int p6), .val (.int (2 : Int32)), .val (.int c0), .val (.int c1), .val (.int c2), .val (.ref b111), .val (.ref b117), .val (.int (p6 &&& (3 : Int32))), .val (.int c4), .unset] [(.int (2 : Int32))])
          refine OwnGoW.st (fun _ kk => XS.iconst X118.here hx rfl (hb hby at_176) kk) ?_
          show OwnGoW p e below s Z own_EL _ _ _ T118 (mkF m 177 #[.val (.int p1), .val (.int p2), .val (.int p3), .val (.int p4), .val (.int p5), .val (.int p6), .val (.int (2 : Int32)), .val (.int c0), .val (.int c1), .val (.int c2), .val (.ref b111), .val (.ref b117), .val (.int (p6 &&& (3 : Int32))), .val (.int c4), .unset] [(.int (1 : Int32)), (.int (2 : Int32))])
          refine OwnGoW.st (fun _ kk => XS.icmpNo X118.here hx rfl (hb hby at_177) rfl (flt ((by decide) : ¬ ((2 : Int32) < (1 : Int32)))).1 kk) ?_
          show OwnGoW p e below s Z own_EL _ _ _ T118 (mkF m 180 #[.val (.int p1), .val (.int p2), .val (.int p3), .val (.int p4), .val (.int p5), .val (.int p6), .val (.int (2 : Int32)), .val (.int c0), .val (.int c1), .val (.int c2), .val (.ref b111), .val (.ref b117), .val (.int (p6 &&& (3 : Int32))), .val (.int c4), .unset] [])
          refine OwnGoW.st (fun _ kk => XS.iload X118.here hx rfl (hb hby at_180) rfl  kk) ?_
          show OwnGoW p e below s Z own_EL _ _ _ T118 (mkF m 182 #[.val (.int p1), .val (.int p2), .val (.int p3), .val (.int p4), .val (.int p5), .val (.int p6), .val (.int (2 : Int32)), .val (.int c0), .val (.int c1), .val (.int c2), .val (.ref b111), .val (.ref b117), .val (.int (p6 &&& (3 : Int32))), .val (.int c4), .unset] [(.int c4)])
          refine OwnGoW.st (fun _ kk => XS.iload X118.here hx rfl (hb hby at_182) rfl  kk) ?_
          show OwnGoW p e below s Z own_EL _ _ _ T118 (mkF m 184 #[.val (.int p1), .val (.int p2), .val (.int p3), .val (.int p4), .val (.int p5), .val (.int p6), .val (.int (2 : Int32)), .val (.int c0), .val (.int c1), .val (.int c2), .val (.ref b111), .val (.ref b117), .val (.int (p6 &&& (3 : Int32))), .val (.int c4), .unset] [(.int c0), (.int c4)])
          by_cases he_c4_c0 : c4 = c0
          · refine OwnGoW.st (fun _ kk => XS.icmpYes X118.here hx rfl (pc0 := 184) (pc' := 213) rfl (hb hby at_184) rfl (teq (he_c4_c0 : c4 = c0)).1 (by decide) (by decide) kk) ?_
            show OwnGoW p e below s Z own_EL _ _ _ T118 (mkF m 213 #[.val (.int p1), .val (.int p2), .val (.int p3), .val (.int p4), .val (.int p5), .val (.int p6), .val (.int (2 : Int32)), .val (.int c0), .val (.int c1), .val (.int c2), .val (.ref b111), .val (.ref b117), .val (.int (p6 &&& (3 : Int32))), .val (.int c4), .unset] [])
            refine OwnGoW.st (fun _ kk => XS.iconst X118.here hx rfl (hb hby at_213) kk) ?_
            show OwnGoW p e below s Z own_EL _ _ _ T118 (mkF m 214 #[.val (.int p1), .val (.int p2), .val (.int p3), .val (.int p4), .val (.int p5), .val (.int p6), .val (.int (2 : Int32)), .val (.int c0), .val (.int c1), .val (.int c2), .val (.ref b111), .val (.ref b117), .val (.int (p6 &&& (3 : Int32))), .val (.int c4), .unset] [(.int (1 : Int32))])
            refine OwnGoW.st (fun _ kk => XS.goto X118.here hx rfl (pc0 := 214) (pc' := 218) rfl (hb hby at_214) (by decide) (by decide) kk) ?_
            show OwnGoW p e below s Z own_EL _ _ _ T118 (mkF m 218 #[.val (.int p1), .val (.int p2), .val (.int p3), .val (.int p4), .val (.int p5), .val (.int p6), .val (.int (2 : Int32)), .val (.int c0), .val (.int c1), .val (.int c2), .val (.ref b111), .val (.ref b117), .val (.int (p6 &&& (3 : Int32))), .val (.int c4), .unset] [(.int (1 : Int32))])
            refine OwnGoW.st (fun _ kk => XS.istore X118.here hx rfl (hb hby at_218) rfl (l' := #[.val (.int p1), .val (.int p2), .val (.int p3), .val (.int p4), .val (.int p5), .val (.int p6), .val (.int (2 : Int32)), .val (.int c0), .val (.int c1), .val (.int c2), .val (.ref b111), .val (.ref b117), .val (.int (p6 &&& (3 : Int32))), .val (.int c4), .val (.int (1 : Int32))]) rfl kk) ?_
            show OwnGoW p e below s Z own_EL _ _ _ T118 (mkF m 220 #[.val (.int p1), .val (.int p2), .val (.int p3), .val (.int p4), .val (.int p5), .val (.int p6), .val (.int (2 : Int32)), .val (.int c0), .val (.int c1), .val (.int c2), .val (.ref b111), .val (.ref b117), .val (.int (p6 &&& (3 : Int32))), .val (.int c4), .val (.int (1 : Int32))] [])
            refine OwnGoW.st (fun _ kk => XS.aload X118.here hx rfl (hb hby at_220) rfl rfl  kk) ?_
            show OwnGoW p e below s Z own_EL _ _ _ T118 (mkF m 222 #[.val (.int p1), .val (.int p2), .val (.int p3), .val (.int p4), .val (.int p5), .val (.int p6), .val (.int (2 : Int32)), .val (.int c0), .val (.int c1), .val (.int c2), .val (.ref b111), .val (.ref b117), .val (.int (p6 &&& (3 : Int32))), .val (.int c4), .val (.int (1 : Int32))] [(.ref b117)])
            refine OwnGoW.st (fun _ kk => XS.iload X118.here hx rfl (hb hby at_222) rfl  kk) ?_
            show OwnGoW p e below s Z own_EL _ _ _ T118 (mkF m 224 #[.val (.int p1), .val (.int p2), .val (.int p3), .val (.int p4), .val (.int p5), .val (.int p6), .val (.int (2 : Int32)), .val (.int c0), .val (.int c1), .val (.int c2), .val (.ref b111), .val (.ref b117), .val (.int (p6 &&& (3 : Int32))), .val (.int c4), .val (.int (1 : Int32))] [(.int c4), (.ref b117)])
            have hlt_ : c4 < (128 : Int32) := he_c4_c0 ▸ P_c0.2
            obtain ⟨cq126, kq126, q126a, q126b, q126c⟩ := isOf hZ rfl E_b117
            obtain ⟨_, _, ⟨T126, L126, k126, n126⟩, -, X126, ⟨Lc126, hQ126, l126, y126, z126⟩, st126⟩ := X118.virtualBack hx (y := (⟨"io/quintet/Alphabet", "contains", "(C)Z"⟩ : MethodName)) (z := (⟨"io/quintet/Alphabet", "contains", "(C)Z"⟩ : MethodName)) hown (mvT hZ (hw _ (List.mem_of_getElem? (i := 40) rfl))) (mvT hZ (hw _ (List.mem_of_getElem? (i := 41) rfl))) (notFace_of_selects (args := #[]) (mvT hZ (hw _ (List.mem_of_getElem? (i := 43) rfl)))) (mvT hZ (hw _ (List.mem_of_getElem? (i := 43) rfl))) (mvT hZ (hw _ (List.mem_of_getElem? (i := 42) rfl))) (by decide) (backOf (W := 0) (rmconY l Z a0 hw [] b117 b118 (own_tab [(c1, 1), (c0, 0)]) c4 T118.heap n0 Z_ Fb118 G118 hp0 hlt_ (own_tabY (c' := c0) (i := 0) (List.mem_of_getElem? (i := 1) rfl) he_c4_c0 (own_tabI rfl (by decide : own_neg [1, 0])))) hZ (hw _ (List.mem_of_getElem? (i := 44) rfl)) (hw _ (List.mem_of_getElem? (i := 10) rfl)) (by decide) (by decide)) q126a q126c (g := (mkF m 224 #[.val (.int p1), .val (.int p2), .val (.int p3), .val (.int p4), .val (.int p5), .val (.int p6), .val (.int (2 : Int32)), .val (.int c0), .val (.int c1), .val (.int c2), .val (.ref b111), .val (.ref b117), .val (.int (p6 &&& (3 : Int32))), .val (.int c4), .val (.int (1 : Int32))] [(.int c4), (.ref b117)])) rfl (by rw [hml]; rfl) (Steps.refl _) (argsL := [(.int c4)]) (rest := []) (lenOf pd_5 rfl) rfl (by show 2 * 0 + _ ≤ _; exact Nat.le_of_eq rfl) (hb hby at_224) (fun _ _ => ⟨rfl, rfl, (by decide : 5 + 0 ≤ _), (by decide : 139 + 0 ≤ _)⟩)
            dsimp only [Pt.U, Pt.locs, Pt.cells, Pt.slots] at X126 l126 y126 z126 st126 hQ126
            subst l126 y126 z126
            obtain ⟨rfl, N126q, e126⟩ := hQ126
            have N126 := Fr.app N118 N126q
            refine OwnGoW.st (fun _ kk => st126.trans kk) ?_
            show OwnGoW p e below s Z own_EL _ _ _ T126 (mkF m 227 #[.val (.int p1), .val (.int p2), .val (.int p3), .val (.int p4), .val (.int p5), .val (.int p6), .val (.int (2 : Int32)), .val (.int c0), .val (.int c1), .val (.int c2), .val (.ref b111), .val (.ref b117), .val (.int (p6 &&& (3 : Int32))), .val (.int c4), .val (.int (1 : Int32))] [(.int (1 : Int32))])
            refine OwnGoW.st (fun _ kk => XS.iload X126.here hx rfl (hb hby at_227) rfl  kk) ?_
            show OwnGoW p e below s Z own_EL _ _ _ T126 (mkF m 229 #[.val (.int p1), .val (.int p2), .val (.int p3), .val (.int p4), .val (.int p5), .val (.int p6), .val (.int (2 : Int32)), .val (.int c0), .val (.int c1), .val (.int c2), .val (.ref b111), .val (.ref b117), .val (.int (p6 &&& (3 : Int32))), .val (.int c4), .val (.int (1 : Int32))] [(.int (1 : Int32)), (.int (1 : Int32))])
            refine OwnGoW.st (fun _ kk => XS.icmpNo X126.here hx rfl (hb hby at_229) rfl (teq ((by decide) : (1 : Int32) = (1 : Int32))).2 kk) ?_
            show OwnGoW p e below s Z own_EL _ _ _ T126 (mkF m 232 #[.val (.int p1), .val (.int p2), .val (.int p3), .val (.int p4), .val (.int p5), .val (.int p6), .val (.int (2 : Int32)), .val (.int c0), .val (.int c1), .val (.int c2), .val (.ref b111), .val (.ref b117), .val (.int (p6 &&& (3 : Int32))), .val (.int c4), .val (.int (1 : Int32))] [])
            refine OwnGoW.st (fun _ kk => XS.iconst X126.here hx rfl (hb hby at_232) kk) ?_
            show OwnGoW p e below s Z own_EL _ _ _ T126 (mkF m 233 #[.val (.int p1), .val (.int p2), .val (.int p3), .val (.int p4), .val (.int p5), .val (.int p6), .val (.int (2 : Int32)), .val (.int c0), .val (.int c1), .val (.int c2), .val (.ref b111), .val (.ref b117), .val (.int (p6 &&& (3 : Int32))), .val (.int c4), .val (.int (1 : Int32))] [(.int (1 : Int32))])
            refine OwnGoW.st (fun _ kk => XS.goto X126.here hx rfl (pc0 := 233) (pc' := 237) rfl (hb hby at_233) (by decide) (by decide) kk) ?_
            show OwnGoW p e below s Z own_EL _ _ _ T126 (mkF m 237 #[.val (.int p1), .val (.int p2), .val (.int p3), .val (.int p4), .val (.int p5), .val (.int p6), .val (.int (2 : Int32)), .val (.int c0), .val (.int c1), .val (.int c2), .val (.ref b111), .val (.ref b117), .val (.int (p6 &&& (3 : Int32))), .val (.int c4), .val (.int (1 : Int32))] [(.int (1 : Int32))])
            exact OwnGoW.retN (s := s) (vm0 := s.vm) X126 hS_ hk_ e126 hZ (own_hEL hw) CR hx (t := .boolean) hret hlk (by simp) (hb hby at_237) (by show Q0 Z p1 p2 p3 p4 p5 p6 zc fmv h0 n0 _ T126.heap _; rw [e126]; exact ⟨rfl, N126⟩) (by decide) (by decide)
          · refine OwnGoW.st (fun _ kk => XS.icmpNo X118.here hx rfl (hb hby at_184) rfl (feq (he_c4_c0 : ¬ (c4 = c0))).1 kk) ?_
            show OwnGoW p e below s Z own_EL _ _ _ T118 (mkF m 187 #[.val (.int p1), .val (.int p2), .val (.int p3), .val (.int p4), .val (.int p5), .val (.int p6), .val (.int (2 : Int32)), .val (.int c0), .val (.int c1), .val (.int c2), .val (.ref b111), .val (.ref b117), .val (.int (p6 &&& (3 : Int32))), .val (.int c4), .unset] [])
            refine OwnGoW.st (fun _ kk => XS.iload X118.here hx rfl (hb hby at_187) rfl  kk) ?_
            show OwnGoW p e below s Z own_EL _ _ _ T118 (mkF m 189 #[.val (.int p1), .val (.int p2), .val (.int p3), .val (.int p4), .val (.int p5), .val (.int p6), .val (.int (2 : Int32)), .val (.int c0), .val (.int c1), .val (.int c2), .val (.ref b111), .val (.ref b117), .val (.int (p6 &&& (3 : Int32))), .val (.int c4), .unset] [(.int (2 : Int32))])
            refine OwnGoW.st (fun _ kk => XS.iconst X118.here hx rfl (hb hby at_189) kk) ?_
            show OwnGoW p e below s Z own_EL _ _ _ T118 (mkF m 190 #[.val (.int p1), .val (.int p2), .val (.int p3), .val (.int p4), .val (.int p5), .val (.int p6), .val (.int (2 : Int32)), .val (.int c0), .val (.int c1), .val (.int c2), .val (.ref b111), .val (.ref b117), .val (.int (p6 &&& (3 : Int32))), .val (.int c4), .unset] [(.int (2 : Int32)), (.int (2 : Int32))])
            refine OwnGoW.st (fun _ kk => XS.icmpNo X118.here hx rfl (hb hby at_190) rfl (flt ((by decide) : ¬ ((2 : Int32) < (2 : Int32)))).1 kk) ?_
            show OwnGoW p e below s Z own_EL _ _ _ T118 (mkF m 193 #[.val (.int p1), .val (.int p2), .val (.int p3), .val (.int p4), .val (.int p5), .val (.int p6), .val (.int (2 : Int32)), .val (.int c0), .val (.int c1), .val (.int c2), .val (.ref b111), .val (.ref b117), .val (.int (p6 &&& (3 : Int32))), .val (.int c4), .unset] [])
            refine OwnGoW.st (fun _ kk => XS.iload X118.here hx rfl (hb hby at_193) rfl  kk) ?_
            show OwnGoW p e below s Z own_EL _ _ _ T118 (mkF m 195 #[.val (.int p1), .val (.int p2), .val (.int p3), .val (.int p4), .val (.int p5), .val (.int p6), .val (.int (2 : Int32)), .val (.int c0), .val (.int c1), .val (.int c2), .val (.ref b111), .val (.ref b117), .val (.int (p6 &&& (3 : Int32))), .val (.int c4), .unset] [(.int c4)])
            refine OwnGoW.st (fun _ kk => XS.iload X118.here hx rfl (hb hby at_195) rfl  kk) ?_
            show OwnGoW p e below s Z own_EL _ _ _ T118 (mkF m 197 #[.val (.int p1), .val (.int p2), .val (.int p3), .val (.int p4), .val (.int p5), .val (.int p6), .val (.int (2 : Int32)), .val (.int c0), .val (.int c1), .val (.int c2), .val (.ref b111), .val (.ref b117), .val (.int (p6 &&& (3 : Int32))), .val (.int c4), .unset] [(.int c1), (.int c4)])
            by_cases he_c4_c1 : c4 = c1
            · refine OwnGoW.st (fun _ kk => XS.icmpYes X118.here hx rfl (pc0 := 197) (pc' := 213) rfl (hb hby at_197) rfl (teq (he_c4_c1 : c4 = c1)).1 (by decide) (by decide) kk) ?_
              show OwnGoW p e below s Z own_EL _ _ _ T118 (mkF m 213 #[.val (.int p1), .val (.int p2), .val (.int p3), .val (.int p4), .val (.int p5), .val (.int p6), .val (.int (2 : Int32)), .val (.int c0), .val (.int c1), .val (.int c2), .val (.ref b111), .val (.ref b117), .val (.int (p6 &&& (3 : Int32))), .val (.int c4), .unset] [])
              refine OwnGoW.st (fun _ kk => XS.iconst X118.here hx rfl (hb hby at_213) kk) ?_
              show OwnGoW p e below s Z own_EL _ _ _ T118 (mkF m 214 #[.val (.int p1), .val (.int p2), .val (.int p3), .val (.int p4), .val (.int p5), .val (.int p6), .val (.int (2 : Int32)), .val (.int c0), .val (.int c1), .val (.int c2), .val (.ref b111), .val (.ref b117), .val (.int (p6 &&& (3 : Int32))), .val (.int c4), .unset] [(.int (1 : Int32))])
              refine OwnGoW.st (fun _ kk => XS.goto X118.here hx rfl (pc0 := 214) (pc' := 218) rfl (hb hby at_214) (by decide) (by decide) kk) ?_
              show OwnGoW p e below s Z own_EL _ _ _ T118 (mkF m 218 #[.val (.int p1), .val (.int p2), .val (.int p3), .val (.int p4), .val (.int p5), .val (.int p6), .val (.int (2 : Int32)), .val (.int c0), .val (.int c1), .val (.int c2), .val (.ref b111), .val (.ref b117), .val (.int (p6 &&& (3 : Int32))), .val (.int c4), .unset] [(.int (1 : Int32))])
              refine OwnGoW.st (fun _ kk => XS.istore X118.here hx rfl (hb hby at_218) rfl (l' := #[.val (.int p1), .val (.int p2), .val (.int p3), .val (.int p4), .val (.int p5), .val (.int p6), .val (.int (2 : Int32)), .val (.int c0), .val (.int c1), .val (.int c2), .val (.ref b111), .val (.ref b117), .val (.int (p6 &&& (3 : Int32))), .val (.int c4), .val (.int (1 : Int32))]) rfl kk) ?_
              show OwnGoW p e below s Z own_EL _ _ _ T118 (mkF m 220 #[.val (.int p1), .val (.int p2), .val (.int p3), .val (.int p4), .val (.int p5), .val (.int p6), .val (.int (2 : Int32)), .val (.int c0), .val (.int c1), .val (.int c2), .val (.ref b111), .val (.ref b117), .val (.int (p6 &&& (3 : Int32))), .val (.int c4), .val (.int (1 : Int32))] [])
              refine OwnGoW.st (fun _ kk => XS.aload X118.here hx rfl (hb hby at_220) rfl rfl  kk) ?_
              show OwnGoW p e below s Z own_EL _ _ _ T118 (mkF m 222 #[.val (.int p1), .val (.int p2), .val (.int p3), .val (.int p4), .val (.int p5), .val (.int p6), .val (.int (2 : Int32)), .val (.int c0), .val (.int c1), .val (.int c2), .val (.ref b111), .val (.ref b117), .val (.int (p6 &&& (3 : Int32))), .val (.int c4), .val (.int (1 : Int32))] [(.ref b117)])
              refine OwnGoW.st (fun _ kk => XS.iload X118.here hx rfl (hb hby at_222) rfl  kk) ?_
              show OwnGoW p e below s Z own_EL _ _ _ T118 (mkF m 224 #[.val (.int p1), .val (.int p2), .val (.int p3), .val (.int p4), .val (.int p5), .val (.int p6), .val (.int (2 : Int32)), .val (.int c0), .val (.int c1), .val (.int c2), .val (.ref b111), .val (.ref b117), .val (.int (p6 &&& (3 : Int32))), .val (.int c4), .val (.int (1 : Int32))] [(.int c4), (.ref b117)])
              have hlt_ : c4 < (128 : Int32) := he_c4_c1 ▸ P_c1.2
              obtain ⟨cq127, kq127, q127a, q127b, q127c⟩ := isOf hZ rfl E_b117
              obtain ⟨_, _, ⟨T127, L127, k127, n127⟩, -, X127, ⟨Lc127, hQ127, l127, y127, z127⟩, st127⟩ := X118.virtualBack hx (y := (⟨"io/quintet/Alphabet", "contains", "(C)Z"⟩ : MethodName)) (z := (⟨"io/quintet/Alphabet", "contains", "(C)Z"⟩ : MethodName)) hown (mvT hZ (hw _ (List.mem_of_getElem? (i := 40) rfl))) (mvT hZ (hw _ (List.mem_of_getElem? (i := 41) rfl))) (notFace_of_selects (args := #[]) (mvT hZ (hw _ (List.mem_of_getElem? (i := 43) rfl)))) (mvT hZ (hw _ (List.mem_of_getElem? (i := 43) rfl))) (mvT hZ (hw _ (List.mem_of_getElem? (i := 42) rfl))) (by decide) (backOf (W := 0) (rmconY l Z a0 hw [] b117 b118 (own_tab [(c1, 1), (c0, 0)]) c4 T118.heap n0 Z_ Fb118 G118 hp0 hlt_ (own_tabY (c' := c1) (i := 1) (List.mem_of_getElem? (i := 0) rfl) he_c4_c1 (own_tabI rfl (by decide : own_neg [1, 0])))) hZ (hw _ (List.mem_of_getElem? (i := 44) rfl)) (hw _ (List.mem_of_getElem? (i := 10) rfl)) (by decide) (by decide)) q127a q127c (g := (mkF m 224 #[.val (.int p1), .val (.int p2), .val (.int p3), .val (.int p4), .val (.int p5), .val (.int p6), .val (.int (2 : Int32)), .val (.int c0), .val (.int c1), .val (.int c2), .val (.ref b111), .val (.ref b117), .val (.int (p6 &&& (3 : Int32))), .val (.int c4), .val (.int (1 : Int32))] [(.int c4), (.ref b117)])) rfl (by rw [hml]; rfl) (Steps.refl _) (argsL := [(.int c4)]) (rest := []) (lenOf pd_5 rfl) rfl (by show 2 * 0 + _ ≤ _; exact Nat.le_of_eq rfl) (hb hby at_224) (fun _ _ => ⟨rfl, rfl, (by decide : 5 + 0 ≤ _), (by decide : 139 + 0 ≤ _)⟩)
              dsimp only [Pt.U, Pt.locs, Pt.cells, Pt.slots] at X127 l127 y127 z127 st127 hQ127
              subst l127 y127 z127
              obtain ⟨rfl, N127q, e127⟩ := hQ127
              have N127 := Fr.app N118 N127q
              refine OwnGoW.st (fun _ kk => st127.trans kk) ?_
              show OwnGoW p e below s Z own_EL _ _ _ T127 (mkF m 227 #[.val (.int p1), .val (.int p2), .val (.int p3), .val (.int p4), .val (.int p5), .val (.int p6), .val (.int (2 : Int32)), .val (.int c0), .val (.int c1), .val (.int c2), .val (.ref b111), .val (.ref b117), .val (.int (p6 &&& (3 : Int32))), .val (.int c4), .val (.int (1 : Int32))] [(.int (1 : Int32))])
              refine OwnGoW.st (fun _ kk => XS.iload X127.here hx rfl (hb hby at_227) rfl  kk) ?_
              show OwnGoW p e below s Z own_EL _ _ _ T127 (mkF m 229 #[.val (.int p1), .val (.int p2), .val (.int p3), .val (.int p4), .val (.int p5), .val (.int p6), .val (.int (2 : Int32)), .val (.int c0), .val (.int c1), .val (.int c2), .val (.ref b111), .val (.ref b117), .val (.int (p6 &&& (3 : Int32))), .val (.int c4), .val (.int (1 : Int32))] [(.int (1 : Int32)), (.int (1 : Int32))])
              refine OwnGoW.st (fun _ kk => XS.icmpNo X127.here hx rfl (hb hby at_229) rfl (teq ((by decide) : (1 : Int32) = (1 : Int32))).2 kk) ?_
              show OwnGoW p e below s Z own_EL _ _ _ T127 (mkF m 232 #[.val (.int p1), .val (.int p2), .val (.int p3), .val (.int p4), .val (.int p5), .val (.int p6), .val (.int (2 : Int32)), .val (.int c0), .val (.int c1), .val (.int c2), .val (.ref b111), .val (.ref b117), .val (.int (p6 &&& (3 : Int32))), .val (.int c4), .val (.int (1 : Int32))] [])
              refine OwnGoW.st (fun _ kk => XS.iconst X127.here hx rfl (hb hby at_232) kk) ?_
              show OwnGoW p e below s Z own_EL _ _ _ T127 (mkF m 233 #[.val (.int p1), .val (.int p2), .val (.int p3), .val (.int p4), .val (.int p5), .val (.int p6), .val (.int (2 : Int32)), .val (.int c0), .val (.int c1), .val (.int c2), .val (.ref b111), .val (.ref b117), .val (.int (p6 &&& (3 : Int32))), .val (.int c4), .val (.int (1 : Int32))] [(.int (1 : Int32))])
              refine OwnGoW.st (fun _ kk => XS.goto X127.here hx rfl (pc0 := 233) (pc' := 237) rfl (hb hby at_233) (by decide) (by decide) kk) ?_
              show OwnGoW p e below s Z own_EL _ _ _ T127 (mkF m 237 #[.val (.int p1), .val (.int p2), .val (.int p3), .val (.int p4), .val (.int p5), .val (.int p6), .val (.int (2 : Int32)), .val (.int c0), .val (.int c1), .val (.int c2), .val (.ref b111), .val (.ref b117), .val (.int (p6 &&& (3 : Int32))), .val (.int c4), .val (.int (1 : Int32))] [(.int (1 : Int32))])
              exact OwnGoW.retN (s := s) (vm0 := s.vm) X127 hS_ hk_ e127 hZ (own_hEL hw) CR hx (t := .boolean) hret hlk (by simp) (hb hby at_237) (by show Q0 Z p1 p2 p3 p4 p5 p6 zc fmv h0 n0 _ T127.heap _; rw [e127]; exact ⟨rfl, N127⟩) (by decide) (by decide)
            · refine OwnGoW.st (fun _ kk => XS.icmpNo X118.here hx rfl (hb hby at_197) rfl (feq (he_c4_c1 : ¬ (c4 = c1))).1 kk) ?_
              show OwnGoW p e below s Z own_EL _ _ _ T118 (mkF m 200 #[.val (.int p1), .val (.int p2), .val (.int p3), .val (.int p4), .val (.int p5), .val (.int p6), .val (.int (2 : Int32)), .val (.int c0), .val (.int c1), .val (.int c2), .val (.ref b111), .val (.ref b117), .val (.int (p6 &&& (3 : Int32))), .val (.int c4), .unset] [])
              refine OwnGoW.st (fun _ kk => XS.iload X118.here hx rfl (hb hby at_200) rfl  kk) ?_
              show OwnGoW p e below s Z own_EL _ _ _ T118 (mkF m 202 #[.val (.int p1), .val (.int p2), .val (.int p3), .val (.int p4), .val (.int p5), .val (.int p6), .val (.int (2 : Int32)), .val (.int c0), .val (.int c1), .val (.int c2), .val (.ref b111), .val (.ref b117), .val (.int (p6 &&& (3 : Int32))), .val (.int c4), .unset] [(.int (2 : Int32))])
              refine OwnGoW.st (fun _ kk => XS.iconst X118.here hx rfl (hb hby at_202) kk) ?_
              show OwnGoW p e below s Z own_EL _ _ _ T118 (mkF m 203 #[.val (.int p1), .val (.int p2), .val (.int p3), .val (.int p4), .val (.int p5), .val (.int p6), .val (.int (2 : Int32)), .val (.int c0), .val (.int c1), .val (.int c2), .val (.ref b111), .val (.ref b117), .val (.int (p6 &&& (3 : Int32))), .val (.int c4), .unset] [(.int (3 : Int32)), (.int (2 : Int32))])
              refine OwnGoW.st (fun _ kk => XS.icmpYes X118.here hx rfl (pc0 := 203) (pc' := 217) rfl (hb hby at_203) rfl (tlt ((by decide) : (2 : Int32) < (3 : Int32))).1 (by decide) (by decide) kk) ?_
              show OwnGoW p e below s Z own_EL _ _ _ T118 (mkF m 217 #[.val (.int p1), .val (.int p2), .val (.int p3), .val (.int p4), .val (.int p5), .val (.int p6), .val (.int (2 : Int32)), .val (.int c0), .val (.int c1), .val (.int c2), .val (.ref b111), .val (.ref b117), .val (.int (p6 &&& (3 : Int32))), .val (.int c4), .unset] [])
              refine OwnGoW.st (fun _ kk => XS.iconst X118.here hx rfl (hb hby at_217) kk) ?_
              show OwnGoW p e below s Z own_EL _ _ _ T118 (mkF m 218 #[.val (.int p1), .val (.int p2), .val (.int p3), .val (.int p4), .val (.int p5), .val (.int p6), .val (.int (2 : Int32)), .val (.int c0), .val (.int c1), .val (.int c2), .val (.ref b111), .val (.ref b117), .val (.int (p6 &&& (3 : Int32))), .val (.int c4), .unset] [(.int (0 : Int32))])
              refine OwnGoW.st (fun _ kk => XS.istore X118.here hx rfl (hb hby at_218) rfl (l' := #[.val (.int p1), .val (.int p2), .val (.int p3), .val (.int p4), .val (.int p5), .val (.int p6), .val (.int (2 : Int32)), .val (.int c0), .val (.int c1), .val (.int c2), .val (.ref b111), .val (.ref b117), .val (.int (p6 &&& (3 : Int32))), .val (.int c4), .val (.int (0 : Int32))]) rfl kk) ?_
              show OwnGoW p e below s Z own_EL _ _ _ T118 (mkF m 220 #[.val (.int p1), .val (.int p2), .val (.int p3), .val (.int p4), .val (.int p5), .val (.int p6), .val (.int (2 : Int32)), .val (.int c0), .val (.int c1), .val (.int c2), .val (.ref b111), .val (.ref b117), .val (.int (p6 &&& (3 : Int32))), .val (.int c4), .val (.int (0 : Int32))] [])
              refine OwnGoW.st (fun _ kk => XS.aload X118.here hx rfl (hb hby at_220) rfl rfl  kk) ?_
              show OwnGoW p e below s Z own_EL _ _ _ T118 (mkF m 222 #[.val (.int p1), .val (.int p2), .val (.int p3), .val (.int p4), .val (.int p5), .val (.int p6), .val (.int (2 : Int32)), .val (.int c0), .val (.int c1), .val (.int c2), .val (.ref b111), .val (.ref b117), .val (.int (p6 &&& (3 : Int32))), .val (.int c4), .val (.int (0 : Int32))] [(.ref b117)])
              refine OwnGoW.st (fun _ kk => XS.iload X118.here hx rfl (hb hby at_222) rfl  kk) ?_
              show OwnGoW p e below s Z own_EL _ _ _ T118 (mkF m 224 #[.val (.int p1), .val (.int p2), .val (.int p3), .val (.int p4), .val (.int p5), .val (.int p6), .val (.int (2 : Int32)), .val (.int c0), .val (.int c1), .val (.int c2), .val (.ref b111), .val (.ref b117), .val (.int (p6 &&& (3 : Int32))), .val (.int c4), .val (.int (0 : Int32))] [(.int c4), (.ref b117)])
              by_cases hlt_ : c4 < (128 : Int32)
              · obtain ⟨cq128, kq128, q128a, q128b, q128c⟩ := isOf hZ rfl E_b117
                obtain ⟨_, _, ⟨T128, L128, k128, n128⟩, -, X128, ⟨Lc128, hQ128, l128, y128, z128⟩, st128⟩ := X118.virtualBack hx (y := (⟨"io/quintet/Alphabet", "contains", "(C)Z"⟩ : MethodName)) (z := (⟨"io/quintet/Alphabet", "contains", "(C)Z"⟩ : MethodName)) hown (mvT hZ (hw _ (List.mem_of_getElem? (i := 40) rfl))) (mvT hZ (hw _ (List.mem_of_getElem? (i := 41) rfl))) (notFace_of_selects (args := #[]) (mvT hZ (hw _ (List.mem_of_getElem? (i := 43) rfl)))) (mvT hZ (hw _ (List.mem_of_getElem? (i := 43) rfl))) (mvT hZ (hw _ (List.mem_of_getElem? (i := 42) rfl))) (by decide) (backOf (W := 0) (rmconN l Z a0 hw [] b117 b118 (own_tab [(c1, 1), (c0, 0)]) c4 T118.heap n0 Z_ Fb118 G118 hp0 hlt_ (own_tabN hp0 (own_cons P_c1.1 he_c4_c1 (own_cons P_c0.1 he_c4_c0 own_nil)))) hZ (hw _ (List.mem_of_getElem? (i := 44) rfl)) (hw _ (List.mem_of_getElem? (i := 10) rfl)) (by decide) (by decide)) q128a q128c (g := (mkF m 224 #[.val (.int p1), .val (.int p2), .val (.int p3), .val (.int p4), .val (.int p5), .val (.int p6), .val (.int (2 : Int32)), .val (.int c0), .val (.int c1), .val (.int c2), .val (.ref b111), .val (.ref b117), .val (.int (p6 &&& (3 : Int32))), .val (.int c4), .val (.int (0 : Int32))] [(.int c4), (.ref b117)])) rfl (by rw [hml]; rfl) (Steps.refl _) (argsL := [(.int c4)]) (rest := []) (lenOf pd_5 rfl) rfl (by show 2 * 0 + _ ≤ _; exact Nat.le_of_eq rfl) (hb hby at_224) (fun _ _ => ⟨rfl, rfl, (by decide : 5 + 0 ≤ _), (by decide : 139 + 0 ≤ _)⟩)
                dsimp only [Pt.U, Pt.locs, Pt.cells, Pt.slots] at X128 l128 y128 z128 st128 hQ128
                subst l128 y128 z128
                obtain ⟨rfl, N128q, e128⟩ := hQ128
                have N128 := Fr.app N118 N128q
                refine OwnGoW.st (fun _ kk => st128.trans kk) ?_
                show OwnGoW p e below s Z own_EL _ _ _ T128 (mkF m 227 #[.val (.int p1), .val (.int p2), .val (.int p3), .val (.int p4), .val (.int p5), .val (.int p6), .val (.int (2 : Int32)), .val (.int c0), .val (.int c1), .val (.int c2), .val (.ref b111), .val (.ref b117), .val (.int (p6 &&& (3 : Int32))), .val (.int c4), .val (.int (0 : Int32))] [(.int (0 : Int32))])
                refine OwnGoW.st (fun _ kk => XS.iload X128.here hx rfl (hb hby at_227) rfl  kk) ?_
                show OwnGoW p e below s Z own_EL _ _ _ T128 (mkF m 229 #[.val (.int p1), .val (.int p2), .val (.int p3), .val (.int p4), .val (.int p5), .val (.int p6), .val (.int (2 : Int32)), .val (.int c0), .val (.int c1), .val (.int c2), .val (.ref b111), .val (.ref b117), .val (.int (p6 &&& (3 : Int32))), .val (.int c4), .val (.int (0 : Int32))] [(.int (0 : Int32)), (.int (0 : Int32))])
                refine OwnGoW.st (fun _ kk => XS.icmpNo X128.here hx rfl (hb hby at_229) rfl (teq ((by decide) : (0 : Int32) = (0 : Int32))).2 kk) ?_
                show OwnGoW p e below s Z own_EL _ _ _ T128 (mkF m 232 #[.val (.int p1), .val (.int p2), .val (.int p3), .val (.int p4), .val (.int p5), .val (.int p6), .val (.int (2 : Int32)), .val (.int c0), .val (.int c1), .val (.int c2), .val (.ref b111), .val (.ref b117), .val (.int (p6 &&& (3 : Int32))), .val (.int c4), .val (.int (0 : Int32))] [])
                refine OwnGoW.st (fun _ kk => XS.iconst X128.here hx rfl (hb hby at_232) kk) ?_
                show OwnGoW p e below s Z own_EL _ _ _ T128 (mkF m 233 #[.val (.int p1), .val (.int p2), .val (.int p3), .val (.int p4), .val (.int p5), .val (.int p6), .val (.int (2 : Int32)), .val (.int c0), .val (.int c1), .val (.int c2), .val (.ref b111), .val (.ref b117), .val (.int (p6 &&& (3 : Int32))), .val (.int c4), .val (.int (0 : Int32))] [(.int (1 : Int32))])
                refine OwnGoW.st (fun _ kk => XS.goto X128.here hx rfl (pc0 := 233) (pc' := 237) rfl (hb hby at_233) (by decide) (by decide) kk) ?_
                show OwnGoW p e below s Z own_EL _ _ _ T128 (mkF m 237 #[.val (.int p1), .val (.int p2), .val (.int p3), .val (.int p4), .val (.int p5), .val (.int p6), .val (.int (2 : Int32)), .val (.int c0), .val (.int c1), .val (.int c2), .val (.ref b111), .val (.ref b117), .val (.int (p6 &&& (3 : Int32))), .val (.int c4), .val (.int (0 : Int32))] [(.int (1 : Int32))])
                exact OwnGoW.retN (s := s) (vm0 := s.vm) X128 hS_ hk_ e128 hZ (own_hEL hw) CR hx (t := .boolean) hret hlk (by simp) (hb hby at_237) (by show Q0 Z p1 p2 p3 p4 p5 p6 zc fmv h0 n0 _ T128.heap _; rw [e128]; exact ⟨rfl, N128⟩) (by decide) (by decide)
              · obtain ⟨cq129, kq129, q129a, q129b, q129c⟩ := isOf hZ rfl E_b117
                obtain ⟨_, _, ⟨T129, L129, k129, n129⟩, -, X129, ⟨Lc129, hQ129, l129, y129, z129⟩, st129⟩ := X118.virtualBack hx (y := (⟨"io/quintet/Alphabet", "contains", "(C)Z"⟩ : MethodName)) (z := (⟨"io/quintet/Alphabet", "contains", "(C)Z"⟩ : MethodName)) hown (mvT hZ (hw _ (List.mem_of_getElem? (i := 40) rfl))) (mvT hZ (hw _ (List.mem_of_getElem? (i := 41) rfl))) (notFace_of_selects (args := #[]) (mvT hZ (hw _ (List.mem_of_getElem? (i := 43) rfl)))) (mvT hZ (hw _ (List.mem_of_getElem? (i := 43) rfl))) (mvT hZ (hw _ (List.mem_of_getElem? (i := 42) rfl))) (by decide) (backOf (W := 0) (rmconB l Z a0 hw [] b117 b118 (own_tab [(c1, 1), (c0, 0)]) c4 T118.heap n0 Z_ Fb118 G118 hp0 hlt_) hZ (hw _ (List.mem_of_getElem? (i := 44) rfl)) (hw _ (List.mem_of_getElem? (i := 10) rfl)) (by decide) (by decide)) q129a q129c (g := (mkF m 224 #[.val (.int p1), .val (.int p2), .val (.int p3), .val (.int p4), .val (.int p5), .val (.int p6), .val (.int (2 : Int32)), .val (.int c0), .val (.int c1), .val (.int c2), .val (.ref b111), .val (.ref b117), .val (.int (p6 &&& (3 : Int32))), .val (.int c4), .val (.int (0 : Int32))] [(.int c4), (.ref b117)])) rfl (by rw [hml]; rfl) (Steps.refl _) (argsL := [(.int c4)]) (rest := []) (lenOf pd_5 rfl) rfl (by show 2 * 0 + _ ≤ _; exact Nat.le_of_eq rfl) (hb hby at_224) (fun _ _ => ⟨rfl, rfl, (by decide : 5 + 0 ≤ _), (by decide : 139 + 0 ≤ _)⟩)
                dsimp only [Pt.U, Pt.locs, Pt.cells, Pt.slots] at X129 l129 y129 z129 st129 hQ129
                subst l129 y129 z129
                obtain ⟨rfl, N129q, e129⟩ := hQ129
                have N129 := Fr.app N118 N129q
                refine OwnGoW.st (fun _ kk => st129.trans kk) ?_
                show OwnGoW p e below s Z own_EL _ _ _ T129 (mkF m 227 #[.val (.int p1), .val (.int p2), .val (.int p3), .val (.int p4), .val (.int p5), .val (.int p6), .val (.int (2 : Int32)), .val (.int c0), .val (.int c1), .val (.int c2), .val (.ref b111), .val (.ref b117), .val (.int (p6 &&& (3 : Int32))), .val (.int c4), .val (.int (0 : Int32))] [(.int (0 : Int32))])
                refine OwnGoW.st (fun _ kk => XS.iload X129.here hx rfl (hb hby at_227) rfl  kk) ?_
                show OwnGoW p e below s Z own_EL _ _ _ T129 (mkF m 229 #[.val (.int p1), .val (.int p2), .val (.int p3), .val (.int p4), .val (.int p5), .val (.int p6), .val (.int (2 : Int32)), .val (.int c0), .val (.int c1), .val (.int c2), .val (.ref b111), .val (.ref b117), .val (.int (p6 &&& (3 : Int32))), .val (.int c4), .val (.int (0 : Int32))] [(.int (0 : Int32)), (.int (0 : Int32))])
                refine OwnGoW.st (fun _ kk => XS.icmpNo X129.here hx rfl (hb hby at_229) rfl (teq ((by decide) : (0 : Int32) = (0 : Int32))).2 kk) ?_
                show OwnGoW p e below s Z own_EL _ _ _ T129 (mkF m 232 #[.val (.int p1), .val (.int p2), .val (.int p3), .val (.int p4), .val (.int p5), .val (.int p6), .val (.int (2 : Int32)), .val (.int c0), .val (.int c1), .val (.int c2), .val (.ref b111), .val (.ref b117), .val (.int (p6 &&& (3 : Int32))), .val (.int c4), .val (.int (0 : Int32))] [])
                refine OwnGoW.st (fun _ kk => XS.iconst X129.here hx rfl (hb hby at_232) kk) ?_
                show OwnGoW p e below s Z own_EL _ _ _ T129 (mkF m 233 #[.val (.int p1), .val (.int p2), .val (.int p3), .val (.int p4), .val (.int p5), .val (.int p6), .val (.int (2 : Int32)), .val (.int c0), .val (.int c1), .val (.int c2), .val (.ref b111), .val (.ref b117), .val (.int (p6 &&& (3 : Int32))), .val (.int c4), .val (.int (0 : Int32))] [(.int (1 : Int32))])
                refine OwnGoW.st (fun _ kk => XS.goto X129.here hx rfl (pc0 := 233) (pc' := 237) rfl (hb hby at_233) (by decide) (by decide) kk) ?_
                show OwnGoW p e below s Z own_EL _ _ _ T129 (mkF m 237 #[.val (.int p1), .val (.int p2), .val (.int p3), .val (.int p4), .val (.int p5), .val (.int p6), .val (.int (2 : Int32)), .val (.int c0), .val (.int c1), .val (.int c2), .val (.ref b111), .val (.ref b117), .val (.int (p6 &&& (3 : Int32))), .val (.int c4), .val (.int (0 : Int32))] [(.int (1 : Int32))])
                exact OwnGoW.retN (s := s) (vm0 := s.vm) X129 hS_ hk_ e129 hZ (own_hEL hw) CR hx (t := .boolean) hret hlk (by simp) (hb hby at_237) (by show Q0 Z p1 p2 p3 p4 p5 p6 zc fmv h0 n0 _ T129.heap _; rw [e129]; exact ⟨rfl, N129⟩) (by decide) (by decide)
  · show OwnGoW p e below s Z own_EL _ _ _ s₁ (mkF m 26 #[.val (.int p1), .val (.int p2), .val (.int p3), .val (.int p4), .val (.int p5), .val (.int p6), .val (.int (3 : Int32)), .val (.int c0), .val (.int c1), .val (.int c2), .unset, .unset, .unset, .unset, .unset] [])
    refine OwnGoW.st (fun _ kk => XS.iload X0.here hx rfl (hb hby at_26) rfl  kk) ?_
    show OwnGoW p e below s Z own_EL _ _ _ s₁ (mkF m 28 #[.val (.int p1), .val (.int p2), .val (.int p3), .val (.int p4), .val (.int p5), .val (.int p6), .val (.int (3 : Int32)), .val (.int c0), .val (.int c1), .val (.int c2), .unset, .unset, .unset, .unset, .unset] [(.int (3 : Int32))])
    refine OwnGoW.st (fun _ kk => XS.ifYes X0.here hx rfl (pc0 := 28) (pc' := 38) rfl (hb hby at_28) rfl ((if0 _ _).trans (feq ((by decide) : ¬ ((3 : Int32) = (0 : Int32)))).2) (by decide) (by decide) kk) ?_
    show OwnGoW p e below s Z own_EL _ _ _ s₁ (mkF m 38 #[.val (.int p1), .val (.int p2), .val (.int p3), .val (.int p4), .val (.int p5), .val (.int p6), .val (.int (3 : Int32)), .val (.int c0), .val (.int c1), .val (.int c2), .unset, .unset, .unset, .unset, .unset] [])
    refine OwnGoW.st (fun _ kk => XS.iload X0.here hx rfl (hb hby at_38) rfl  kk) ?_
    show OwnGoW p e below s Z own_EL _ _ _ s₁ (mkF m 40 #[.val (.int p1), .val (.int p2), .val (.int p3), .val (.int p4), .val (.int p5), .val (.int p6), .val (.int (3 : Int32)), .val (.int c0), .val (.int c1), .val (.int c2), .unset, .unset, .unset, .unset, .unset] [(.int (3 : Int32))])
    refine OwnGoW.st (fun _ kk => XS.iconst X0.here hx rfl (hb hby at_40) kk) ?_
    show OwnGoW p e below s Z own_EL _ _ _ s₁ (mkF m 41 #[.val (.int p1), .val (.int p2), .val (.int p3), .val (.int p4), .val (.int p5), .val (.int p6), .val (.int (3 : Int32)), .val (.int c0), .val (.int c1), .val (.int c2), .unset, .unset, .unset, .unset, .unset] [(.int (1 : Int32)), (.int (3 : Int32))])
    refine OwnGoW.st (fun _ kk => XS.icmpYes X0.here hx rfl (pc0 := 41) (pc' := 54) rfl (hb hby at_41) rfl (feq ((by decide) : ¬ ((3 : Int32) = (1 : Int32)))).2 (by decide) (by decide) kk) ?_
    show OwnGoW p e below s Z own_EL _ _ _ s₁ (mkF m 54 #[.val (.int p1), .val (.int p2), .val (.int p3), .val (.int p4), .val (.int p5), .val (.int p6), .val (.int (3 : Int32)), .val (.int c0), .val (.int c1), .val (.int c2), .unset, .unset, .unset, .unset, .unset] [])
    refine OwnGoW.st (fun _ kk => XS.iload X0.here hx rfl (hb hby at_54) rfl  kk) ?_
    show OwnGoW p e below s Z own_EL _ _ _ s₁ (mkF m 56 #[.val (.int p1), .val (.int p2), .val (.int p3), .val (.int p4), .val (.int p5), .val (.int p6), .val (.int (3 : Int32)), .val (.int c0), .val (.int c1), .val (.int c2), .unset, .unset, .unset, .unset, .unset] [(.int (3 : Int32))])
    refine OwnGoW.st (fun _ kk => XS.iconst X0.here hx rfl (hb hby at_56) kk) ?_
    show OwnGoW p e below s Z own_EL _ _ _ s₁ (mkF m 57 #[.val (.int p1), .val (.int p2), .val (.int p3), .val (.int p4), .val (.int p5), .val (.int p6), .val (.int (3 : Int32)), .val (.int c0), .val (.int c1), .val (.int c2), .unset, .unset, .unset, .unset, .unset] [(.int (2 : Int32)), (.int (3 : Int32))])
    refine OwnGoW.st (fun _ kk => XS.icmpYes X0.here hx rfl (pc0 := 57) (pc' := 85) rfl (hb hby at_57) rfl (feq ((by decide) : ¬ ((3 : Int32) = (2 : Int32)))).2 (by decide) (by decide) kk) ?_
    show OwnGoW p e below s Z own_EL _ _ _ s₁ (mkF m 85 #[.val (.int p1), .val (.int p2), .val (.int p3), .val (.int p4), .val (.int p5), .val (.int p6), .val (.int (3 : Int32)), .val (.int c0), .val (.int c1), .val (.int c2), .unset, .unset, .unset, .unset, .unset] [])
    obtain ⟨T130, h130, X130, e130, E130, A130, D130, -, st130⟩ := newO X0 hx hZ hown (hw _ (List.mem_of_getElem? (i := 82) rfl)) (hw _ (List.mem_of_getElem? (i := 2) rfl)) (hw _ (List.mem_of_getElem? (i := 1) rfl)) e0 (g := (mkF m 85 #[.val (.int p1), .val (.int p2), .val (.int p3), .val (.int p4), .val (.int p5), .val (.int p6), .val (.int (3 : Int32)), .val (.int c0), .val (.int c1), .val (.int c2), .unset, .unset, .unset, .unset, .unset] [])) rfl (hb hby at_85) (by decide) (by decide)
    obtain ⟨b130, g130⟩ : ∃ z, z = h0.size := ⟨_, rfl⟩
    rw [← g130] at A130 D130 st130
    have g_b130 : n0 ≤ b130 := Nat.le_trans Z_ (Nat.le_of_eq g130.symm)
    have sf_b130 : Safe Z own_EL s.vm h0 b130 := Safe.new (Nat.le_of_eq g130.symm)
    have O_ := O_.ext E130
    have sf_b130 := Safe.ext E130 CR.1 sf_b130
    have CR := CR.trans (CHr.ext E130 CR.1)
    have hk_ := Nat.le_trans hk_ E130.1
    have Z_ : n0 ≤ h130.size := Nat.le_trans Z_ E130.1
    have E_b130 := A130
    have F_value_b130 : Fld Z h130 b130 "java/lang/String" "value" "[B" .null := D130 (Or.inr (hw _ (List.mem_of_getElem? (i := 4) rfl))) (ty := (.array .byte)) (by decide)
    have F_coder_b130 : Fld Z h130 b130 "java/lang/String" "coder" "B" (.int (0 : Int32)) := D130 (Or.inr (hw _ (List.mem_of_getElem? (i := 5) rfl))) (ty := .byte) (by decide)
    refine OwnGoW.st st130 ?_
    show OwnGoW p e below s Z own_EL _ _ _ T130 (mkF m 88 #[.val (.int p1), .val (.int p2), .val (.int p3), .val (.int p4), .val (.int p5), .val (.int p6), .val (.int (3 : Int32)), .val (.int c0), .val (.int c1), .val (.int c2), .unset, .unset, .unset, .unset, .unset] [(.ref b130)])
    refine OwnGoW.st (fun _ kk => XS.dup X130.here hx rfl (hb hby at_88) rfl rfl kk) ?_
    show OwnGoW p e below s Z own_EL _ _ _ T130 (mkF m 89 #[.val (.int p1), .val (.int p2), .val (.int p3), .val (.int p4), .val (.int p5), .val (.int p6), .val (.int (3 : Int32)), .val (.int c0), .val (.int c1), .val (.int c2), .unset, .unset, .unset, .unset, .unset] [(.ref b130), (.ref b130)])
    refine OwnGoW.st (fun _ kk => XS.iconst X130.here hx rfl (hb hby at_89) kk) ?_
    show OwnGoW p e below s Z own_EL _ _ _ T130 (mkF m 90 #[.val (.int p1), .val (.int p2), .val (.int p3), .val (.int p4), .val (.int p5), .val (.int p6), .val (.int (3 : Int32)), .val (.int c0), .val (.int c1), .val (.int c2), .unset, .unset, .unset, .unset, .unset] [(.int (3 : Int32)), (.ref b130), (.ref b130)])
    obtain ⟨T131, h131, k131, X131, e131, E131, A131, Ex131, st131⟩ := newPE X130 hx hZ (hw _ (List.mem_of_getElem? (i := 83) rfl)) e130 (g := (mkF m 90 #[.val (.int p1), .val (.int p2), .val (.int p3), .val (.int p4), .val (.int p5), .val (.int p6), .val (.int (3 : Int32)), .val (.int c0), .val (.int c1), .val (.int c2), .unset, .unset, .unset, .unset, .unset] [(.int (3 : Int32)), (.ref b130), (.ref b130)])) rfl (hb hby at_90) rfl (by decide) (cap := 3) (by decide) (by decide) (by decide) (by decide) (ad := "[C") (by decide)
    obtain ⟨b131, g131⟩ : ∃ z, z = h130.size := ⟨_, rfl⟩
    rw [← g131] at A131 Ex131 st131
    have ne_b130_b131 : b130 ≠ b131 := Nat.ne_of_lt (Nat.lt_of_lt_of_le E_b130.lt (Nat.le_of_eq g131.symm))
    have g_b131 : n0 ≤ b131 := Nat.le_trans Z_ (Nat.le_of_eq g131.symm)
    have sf_b131 : Safe Z own_EL s.vm h130 b131 := Safe.new (Nat.le_of_eq g131.symm)
    have E_b130 := E_b130.ext E131
    have F_value_b130 := F_value_b130.ext E131
    have F_coder_b130 := F_coder_b130.ext E131
    have O_ := O_.ext E131
    have sf_b130 := Safe.ext E131 CR.1 sf_b130
    have sf_b131 := Safe.ext E131 CR.1 sf_b131
    have CR := CR.trans (CHr.ext E131 CR.1)
    have hk_ := Nat.le_trans hk_ E131.1
    have Z_ : n0 ≤ h131.size := Nat.le_trans Z_ E131.1
    have V_b131 : Arv Z h131 b131 k131 .char (3 : Int32) [(.int (0 : Int32)), (.int (0 : Int32)), (.int (0 : Int32))] (.int (0 : Int32)) := (Arv.new A131 (by decide)).pad (pad_rep [] (.int (0 : Int32)) 3)
    have E_b131 := Ex131
    refine OwnGoW.st st131 ?_
    show OwnGoW p e below s Z own_EL _ _ _ T131 (mkF m 92 #[.val (.int p1), .val (.int p2), .val (.int p3), .val (.int p4), .val (.int p5), .val (.int p6), .val (.int (3 : Int32)), .val (.int c0), .val (.int c1), .val (.int c2), .unset, .unset, .unset, .unset, .unset] [(.ref b131), (.ref b130), (.ref b130)])
    refine OwnGoW.st (fun _ kk => XS.dup X131.here hx rfl (hb hby at_92) rfl rfl kk) ?_
    show OwnGoW p e below s Z own_EL _ _ _ T131 (mkF m 93 #[.val (.int p1), .val (.int p2), .val (.int p3), .val (.int p4), .val (.int p5), .val (.int p6), .val (.int (3 : Int32)), .val (.int c0), .val (.int c1), .val (.int c2), .unset, .unset, .unset, .unset, .unset] [(.ref b131), (.ref b131), (.ref b130), (.ref b130)])
    refine OwnGoW.st (fun _ kk => XS.iconst X131.here hx rfl (hb hby at_93) kk) ?_
    show OwnGoW p e below s Z own_EL _ _ _ T131 (mkF m 94 #[.val (.int p1), .val (.int p2), .val (.int p3), .val (.int p4), .val (.int p5), .val (.int p6), .val (.int (3 : Int32)), .val (.int c0), .val (.int c1), .val (.int c2), .unset, .unset, .unset, .unset, .unset] [(.int (0 : Int32)), (.ref b131), (.ref b131), (.ref b130), (.ref b130)])
    refine OwnGoW.st (fun _ kk => XS.iload X131.here hx rfl (hb hby at_94) rfl  kk) ?_
    show OwnGoW p e below s Z own_EL _ _ _ T131 (mkF m 96 #[.val (.int p1), .val (.int p2), .val (.int p3), .val (.int p4), .val (.int p5), .val (.int p6), .val (.int (3 : Int32)), .val (.int c0), .val (.int c1), .val (.int c2), .unset, .unset, .unset, .unset, .unset] [(.int c0), (.int (0 : Int32)), (.ref b131), (.ref b131), (.ref b130), (.ref b130)])
    obtain ⟨cl132, Ar132, q132, S132, N132, H132, G132⟩ := id V_b131
    have hin132 : ¬ ((0 : Int32) < 0 ∨ cl132.slots.size ≤ ((0 : Int32)).toNatClampNeg) := inb_of S132 ⟨by decide, by decide⟩
    obtain ⟨T132, h132, X132, e132, W132, st132⟩ := stC X131 hx hZ e131 Ar132 (j := (0 : Int32)) hin132 (g := (mkF m 96 #[.val (.int p1), .val (.int p2), .val (.int p3), .val (.int p4), .val (.int p5), .val (.int p6), .val (.int (3 : Int32)), .val (.int c0), .val (.int c1), .val (.int c2), .unset, .unset, .unset, .unset, .unset] [(.int c0), (.int (0 : Int32)), (.ref b131), (.ref b131), (.ref b130), (.ref b130)])) rfl rfl (hb hby at_96)
    have V_b131 : Arv Z h132 b131 k131 .char (3 : Int32) [(.int (nar .char c0)), (.int (0 : Int32)), (.int (0 : Int32))] (.int (0 : Int32)) := Arv.set Ar132 q132 S132 N132 H132 G132 (fits_nar_char _) W132 0 rfl (Nat.le_of_ble_eq_true rfl)
    rw [show nar .char c0 = c0 from (own_anc P_c0)] at V_b131
    have E_b130 := E_b130.wr W132
    have F_value_b130 := F_value_b130.other W132 (Or.inl ne_b130_b131)
    have F_coder_b130 := F_coder_b130.other W132 (Or.inl ne_b130_b131)
    have E_b131 := E_b131.wr W132
    have O_ := O_.wr W132 g_b131
    have sf_ := sf_b131
    have CR0 := CR.1
    have CR := CR.trans (CHr.wr W132 sf_ CR.1)
    have sf_b130 := Safe.wr W132 sf_ CR0 sf_b130
    have sf_b131 := Safe.wr W132 sf_ CR0 sf_b131
    have hk_ := Nat.le_trans hk_ (Nat.le_of_eq W132.size.symm)
    have N132 := Fr.snoc X132 N0 g_b131
    have Z_ : n0 ≤ h132.size := by rw [W132.size]; exact Z_
    refine OwnGoW.st st132 ?_
    show OwnGoW p e below s Z own_EL _ _ _ T132 (mkF m 97 #[.val (.int p1), .val (.int p2), .val (.int p3), .val (.int p4), .val (.int p5), .val (.int p6), .val (.int (3 : Int32)), .val (.int c0), .val (.int c1), .val (.int c2), .unset, .unset, .unset, .unset, .unset] [(.ref b131), (.ref b130), (.ref b130)])
    refine OwnGoW.st (fun _ kk => XS.dup X132.here hx rfl (hb hby at_97) rfl rfl kk) ?_
    show OwnGoW p e below s Z own_EL _ _ _ T132 (mkF m 98 #[.val (.int p1), .val (.int p2), .val (.int p3), .val (.int p4), .val (.int p5), .val (.int p6), .val (.int (3 : Int32)), .val (.int c0), .val (.int c1), .val (.int c2), .unset, .unset, .unset, .unset, .unset] [(.ref b131), (.ref b131), (.ref b130), (.ref b130)])
    refine OwnGoW.st (fun _ kk => XS.iconst X132.here hx rfl (hb hby at_98) kk) ?_
    show OwnGoW p e below s Z own_EL _ _ _ T132 (mkF m 99 #[.val (.int p1), .val (.int p2), .val (.int p3), .val (.int p4), .val (.int p5), .val (.int p6), .val (.int (3 : Int32)), .val (.int c0), .val (.int c1), .val (.int c2), .unset, .unset, .unset, .unset, .unset] [(.int (1 : Int32)), (.ref b131), (.ref b131), (.ref b130), (.ref b130)])
    refine OwnGoW.st (fun _ kk => XS.iload X132.here hx rfl (hb hby at_99) rfl  kk) ?_
    show OwnGoW p e below s Z own_EL _ _ _ T132 (mkF m 101 #[.val (.int p1), .val (.int p2), .val (.int p3), .val (.int p4), .val (.int p5), .val (.int p6), .val (.int (3 : Int32)), .val (.int c0), .val (.int c1), .val (.int c2), .unset, .unset, .unset, .unset, .unset] [(.int c1), (.int (1 : Int32)), (.ref b131), (.ref b131), (.ref b130), (.ref b130)])
    obtain ⟨cl133, Ar133, q133, S133, N133, H133, G133⟩ := id V_b131
    have hin133 : ¬ ((1 : Int32) < 0 ∨ cl133.slots.size ≤ ((1 : Int32)).toNatClampNeg) := inb_of S133 ⟨by decide, by decide⟩
    obtain ⟨T133, h133, X133, e133, W133, st133⟩ := stC X132 hx hZ e132 Ar133 (j := (1 : Int32)) hin133 (g := (mkF m 101 #[.val (.int p1), .val (.int p2), .val (.int p3), .val (.int p4), .val (.int p5), .val (.int p6), .val (.int (3 : Int32)), .val (.int c0), .val (.int c1), .val (.int c2), .unset, .unset, .unset, .unset, .unset] [(.int c1), (.int (1 : Int32)), (.ref b131), (.ref b131), (.ref b130), (.ref b130)])) rfl rfl (hb hby at_101)
    have V_b131 : Arv Z h133 b131 k131 .char (3 : Int32) [(.int c0), (.int (nar .char c1)), (.int (0 : Int32))] (.int (0 : Int32)) := Arv.set Ar133 q133 S133 N133 H133 G133 (fits_nar_char _) W133 1 rfl (Nat.le_of_ble_eq_true rfl)
    rw [show nar .char c1 = c1 from (own_anc P_c1)] at V_b131
    have E_b130 := E_b130.wr W133
    have F_value_b130 := F_value_b130.other W133 (Or.inl ne_b130_b131)
    have F_coder_b130 := F_coder_b130.other W133 (Or.inl ne_b130_b131)
    have E_b131 := E_b131.wr W133
    have O_ := O_.wr W133 g_b131
    have sf_ := sf_b131
    have CR0 := CR.1
    have CR := CR.trans (CHr.wr W133 sf_ CR.1)
    have sf_b130 := Safe.wr W133 sf_ CR0 sf_b130
    have sf_b131 := Safe.wr W133 sf_ CR0 sf_b131
    have hk_ := Nat.le_trans hk_ (Nat.le_of_eq W133.size.symm)
    have N133 := Fr.snoc X133 N132 g_b131
    have Z_ : n0 ≤ h133.size := by rw [W133.size]; exact Z_
    refine OwnGoW.st st133 ?_
    show OwnGoW p e below s Z own_EL _ _ _ T133 (mkF m 102 #[.val (.int p1), .val (.int p2), .val (.int p3), .val (.int p4), .val (.int p5), .val (.int p6), .val (.int (3 : Int32)), .val (.int c0), .val (.int c1), .val (.int c2), .unset, .unset, .unset, .unset, .unset] [(.ref b131), (.ref b130), (.ref b130)])
    refine OwnGoW.st (fun _ kk => XS.dup X133.here hx rfl (hb hby at_102) rfl rfl kk) ?_
    show OwnGoW p e below s Z own_EL _ _ _ T133 (mkF m 103 #[.val (.int p1), .val (.int p2), .val (.int p3), .val (.int p4), .val (.int p5), .val (.int p6), .val (.int (3 : Int32)), .val (.int c0), .val (.int c1), .val (.int c2), .unset, .unset, .unset, .unset, .unset] [(.ref b131), (.ref b131), (.ref b130), (.ref b130)])
    refine OwnGoW.st (fun _ kk => XS.iconst X133.here hx rfl (hb hby at_103) kk) ?_
    show OwnGoW p e below s Z own_EL _ _ _ T133 (mkF m 104 #[.val (.int p1), .val (.int p2), .val (.int p3), .val (.int p4), .val (.int p5), .val (.int p6), .val (.int (3 : Int32)), .val (.int c0), .val (.int c1), .val (.int c2), .unset, .unset, .unset, .unset, .unset] [(.int (2 : Int32)), (.ref b131), (.ref b131), (.ref b130), (.ref b130)])
    refine OwnGoW.st (fun _ kk => XS.iload X133.here hx rfl (hb hby at_104) rfl  kk) ?_
    show OwnGoW p e below s Z own_EL _ _ _ T133 (mkF m 106 #[.val (.int p1), .val (.int p2), .val (.int p3), .val (.int p4), .val (.int p5), .val (.int p6), .val (.int (3 : Int32)), .val (.int c0), .val (.int c1), .val (.int c2), .unset, .unset, .unset, .unset, .unset] [(.int c2), (.int (2 : Int32)), (.ref b131), (.ref b131), (.ref b130), (.ref b130)])
    obtain ⟨cl134, Ar134, q134, S134, N134, H134, G134⟩ := id V_b131
    have hin134 : ¬ ((2 : Int32) < 0 ∨ cl134.slots.size ≤ ((2 : Int32)).toNatClampNeg) := inb_of S134 ⟨by decide, by decide⟩
    obtain ⟨T134, h134, X134, e134, W134, st134⟩ := stC X133 hx hZ e133 Ar134 (j := (2 : Int32)) hin134 (g := (mkF m 106 #[.val (.int p1), .val (.int p2), .val (.int p3), .val (.int p4), .val (.int p5), .val (.int p6), .val (.int (3 : Int32)), .val (.int c0), .val (.int c1), .val (.int c2), .unset, .unset, .unset, .unset, .unset] [(.int c2), (.int (2 : Int32)), (.ref b131), (.ref b131), (.ref b130), (.ref b130)])) rfl rfl (hb hby at_106)
    have V_b131 : Arv Z h134 b131 k131 .char (3 : Int32) [(.int c0), (.int c1), (.int (nar .char c2))] (.int (0 : Int32)) := Arv.set Ar134 q134 S134 N134 H134 G134 (fits_nar_char _) W134 2 rfl (Nat.le_of_ble_eq_true rfl)
    rw [show nar .char c2 = c2 from (own_anc P_c2)] at V_b131
    have E_b130 := E_b130.wr W134
    have F_value_b130 := F_value_b130.other W134 (Or.inl ne_b130_b131)
    have F_coder_b130 := F_coder_b130.other W134 (Or.inl ne_b130_b131)
    have E_b131 := E_b131.wr W134
    have O_ := O_.wr W134 g_b131
    have sf_ := sf_b131
    have CR0 := CR.1
    have CR := CR.trans (CHr.wr W134 sf_ CR.1)
    have sf_b130 := Safe.wr W134 sf_ CR0 sf_b130
    have sf_b131 := Safe.wr W134 sf_ CR0 sf_b131
    have hk_ := Nat.le_trans hk_ (Nat.le_of_eq W134.size.symm)
    have N134 := Fr.snoc X134 N133 g_b131
    have Z_ : n0 ≤ h134.size := by rw [W134.size]; exact Z_
    refine OwnGoW.st st134 ?_
    show OwnGoW p e below s Z own_EL _ _ _ T134 (mkF m 107 #[.val (.int p1), .val (.int p2), .val (.int p3), .val (.int p4), .val (.int p5), .val (.int p6), .val (.int (3 : Int32)), .val (.int c0), .val (.int c1), .val (.int c2), .unset, .unset, .unset, .unset, .unset] [(.ref b131), (.ref b130), (.ref b130)])
    have hp135 : ∀ c ∈ ([c0, c1, c2] : List Int32), ¬ c < 0 ∧ ¬ (255 : Int32) < c := by
      intro c hc
      simp only [List.mem_cons, List.not_mem_nil, or_false] at hc
      rcases hc with rfl | rfl | rfl
      · exact hp_c0
      · exact hp_c1
      · exact hp_c2
    obtain ⟨_, _, ⟨T136, L136, k136, n136⟩, -, X136, ⟨Lc136, hQ136, l136, y136, z136⟩, st136⟩ := X134.specialBack hx (y := (⟨"java/lang/String", "<init>", "([C)V"⟩ : MethodName)) rfl hown (mvT hZ (hw _ (List.mem_of_getElem? (i := 84) rfl))) (mvT hZ (hw _ (List.mem_of_getElem? (i := 85) rfl))) (mvT hZ (hw _ (List.mem_of_getElem? (i := 86) rfl))) (by decide) (StrChars.Road.backV (W := 1) hZ (own_ws hw) (kI := 4) (hw _ (List.mem_of_getElem? (i := 2) rfl)) (cs := ([c0, c1, c2] : List Int32)) (bs := ([c0, c1, c2] : List Int32).map (fun c => c.toInt8.toInt32)) (n := 3) g_b130 Z_ E_b130 F_value_b130 F_coder_b130 V_b131 (S_CS.ext O_.2) P_CS rfl rfl (by decide) (by decide) hp135 rfl (by decide) (by decide)) (g := (mkF m 107 #[.val (.int p1), .val (.int p2), .val (.int p3), .val (.int p4), .val (.int p5), .val (.int p6), .val (.int (3 : Int32)), .val (.int c0), .val (.int c1), .val (.int c2), .unset, .unset, .unset, .unset, .unset] [(.ref b131), (.ref b130), (.ref b130)])) rfl (by rw [hml]; rfl) (Steps.refl _) (a := b130) (argsL := [(.ref b131)]) (rest := [(.ref b130)]) (lenOf pd_12 rfl) rfl (by show 2 * 0 + _ ≤ _; exact Nat.le_of_eq rfl) (hb hby at_107) (fun _ _ => ⟨rfl, e134, (by decide : 2 + 1 ≤ _), (by decide : 7 + 3 ≤ _)⟩)
    dsimp only [Pt.U, Pt.locs, Pt.cells, Pt.slots] at X136 l136 y136 z136 st136 hQ136
    subst l136 y136 z136
    obtain ⟨rfl, N136q, K136, Ex136, Fc_b130, t136, kb136, gt136, zz136, nt136, Fv_b130, V136⟩ := hQ136
    have N136 := Fr.app N134 N136q
    have zt136 : h134.size ≤ t136 := zz136
    have ne_b130_t136 : b130 ≠ t136 := Nat.ne_of_lt (Nat.lt_of_lt_of_le E_b130.lt zt136)
    have ne_b131_t136 : b131 ≠ t136 := Nat.ne_of_lt (Nat.lt_of_lt_of_le V_b131.lt zt136)
    have g_t136 : n0 ≤ t136 := Nat.le_trans Z_ zt136
    have V136 : Arv Z T136.heap t136 kb136 .byte (3 : Int32) [(.int c0.toInt8.toInt32), (.int c1.toInt8.toInt32), (.int c2.toInt8.toInt32)] (.int (0 : Int32)) := V136
    have Z_ : n0 ≤ T136.heap.size := Nat.le_trans Z_ K136.1
    have E_b130 := E_b130.keep K136
    have V_b131 := V_b131.keep K136 (ninS (Ne.symm ne_b130_b131) nin0)
    have E_b131 := E_b131.keep K136
    have O_ := O_.keep K136 (allS g_b130 all0)
    have sf_b131' := Safe.keep K136 (sfS sf_b130 sf0) CR.1 sf_b131
    have sf_b130' := Safe.keep K136 (sfS sf_b130 sf0) CR.1 sf_b130
    have CR := CR.trans (CHr.keep K136 (sfS sf_b130 sf0) CR.1)
    have hk_ := Nat.le_trans hk_ K136.1
    have sf_b130 := sf_b130'
    have sf_b131 := sf_b131'
    refine OwnGoW.st (fun _ kk => st136.trans kk) ?_
    show OwnGoW p e below s Z own_EL _ _ _ T136 (mkF m 110 #[.val (.int p1), .val (.int p2), .val (.int p3), .val (.int p4), .val (.int p5), .val (.int p6), .val (.int (3 : Int32)), .val (.int c0), .val (.int c1), .val (.int c2), .unset, .unset, .unset, .unset, .unset] [(.ref b130)])
    have V136 : Arv Z T136.heap t136 kb136 .byte (3 : Int32) [(.int c0), (.int c1), (.int c2)] (.int (0 : Int32)) := by have q := V136; rw [own_a8 P_c0, own_a8 P_c1, own_a8 P_c2] at q; exact q
    refine OwnGoW.st (fun _ kk => XS.astore X136.here hx rfl (hb hby at_110) rfl rfl (l' := #[.val (.int p1), .val (.int p2), .val (.int p3), .val (.int p4), .val (.int p5), .val (.int p6), .val (.int (3 : Int32)), .val (.int c0), .val (.int c1), .val (.int c2), .val (.ref b130), .unset, .unset, .unset, .unset]) rfl kk) ?_
    show OwnGoW p e below s Z own_EL _ _ _ T136 (mkF m 112 #[.val (.int p1), .val (.int p2), .val (.int p3), .val (.int p4), .val (.int p5), .val (.int p6), .val (.int (3 : Int32)), .val (.int c0), .val (.int c1), .val (.int c2), .val (.ref b130), .unset, .unset, .unset, .unset] [])
    obtain ⟨T137, h137, X137, e137, E137, A137, D137, -, st137⟩ := newO X136 hx hZ hown (hw _ (List.mem_of_getElem? (i := 8) rfl)) (hw _ (List.mem_of_getElem? (i := 9) rfl)) (hw _ (List.mem_of_getElem? (i := 10) rfl)) rfl (g := (mkF m 112 #[.val (.int p1), .val (.int p2), .val (.int p3), .val (.int p4), .val (.int p5), .val (.int p6), .val (.int (3 : Int32)), .val (.int c0), .val (.int c1), .val (.int c2), .val (.ref b130), .unset, .unset, .unset, .unset] [])) rfl (hb hby at_112) (by decide) (by decide)
    obtain ⟨b137, g137⟩ : ∃ z, z = T136.heap.size := ⟨_, rfl⟩
    rw [← g137] at A137 D137 st137
    have ne_b130_b137 : b130 ≠ b137 := Nat.ne_of_lt (Nat.lt_of_lt_of_le E_b130.lt (Nat.le_of_eq g137.symm))
    have ne_b131_b137 : b131 ≠ b137 := Nat.ne_of_lt (Nat.lt_of_lt_of_le V_b131.lt (Nat.le_of_eq g137.symm))
    have ne_t136_b137 : t136 ≠ b137 := Nat.ne_of_lt (Nat.lt_of_lt_of_le V136.lt (Nat.le_of_eq g137.symm))
    have g_b137 : n0 ≤ b137 := Nat.le_trans Z_ (Nat.le_of_eq g137.symm)
    have sf_b137 : Safe Z own_EL s.vm T136.heap b137 := Safe.new (Nat.le_of_eq g137.symm)
    have E_b130 := E_b130.ext E137
    have V_b131 := V_b131.ext E137
    have E_b131 := E_b131.ext E137
    have Fc_b130 := Fc_b130.ext E137
    have Fv_b130 := Fv_b130.ext E137
    have V136 := V136.ext E137
    have O_ := O_.ext E137
    have sf_b130 := Safe.ext E137 CR.1 sf_b130
    have sf_b131 := Safe.ext E137 CR.1 sf_b131
    have sf_b137 := Safe.ext E137 CR.1 sf_b137
    have CR := CR.trans (CHr.ext E137 CR.1)
    have hk_ := Nat.le_trans hk_ E137.1
    have Z_ : n0 ≤ h137.size := Nat.le_trans Z_ E137.1
    have E_b137 := A137
    have F_values_b137 : Fld Z h137 b137 "io/quintet/Alphabet" "values" "[B" .null := D137 (Or.inr (hw _ (List.mem_of_getElem? (i := 18) rfl))) (ty := (.array .byte)) (by decide)
    have F_width_b137 : Fld Z h137 b137 "io/quintet/Alphabet" "width" "I" (.int (0 : Int32)) := D137 (Or.inr (hw _ (List.mem_of_getElem? (i := 20) rfl))) (ty := .int) (by decide)
    have F_characters_b137 : Fld Z h137 b137 "io/quintet/Alphabet" "characters" "Ljava/lang/String;" .null := D137 (Or.inr (hw _ (List.mem_of_getElem? (i := 22) rfl))) (ty := (.object "java/lang/String")) (by decide)
    refine OwnGoW.st st137 ?_
    show OwnGoW p e below s Z own_EL _ _ _ T137 (mkF m 115 #[.val (.int p1), .val (.int p2), .val (.int p3), .val (.int p4), .val (.int p5), .val (.int p6), .val (.int (3 : Int32)), .val (.int c0), .val (.int c1), .val (.int c2), .val (.ref b130), .unset, .unset, .unset, .unset] [(.ref b137)])
    refine OwnGoW.st (fun _ kk => XS.dup X137.here hx rfl (hb hby at_115) rfl rfl kk) ?_
    show OwnGoW p e below s Z own_EL _ _ _ T137 (mkF m 116 #[.val (.int p1), .val (.int p2), .val (.int p3), .val (.int p4), .val (.int p5), .val (.int p6), .val (.int (3 : Int32)), .val (.int c0), .val (.int c1), .val (.int c2), .val (.ref b130), .unset, .unset, .unset, .unset] [(.ref b137), (.ref b137)])
    refine OwnGoW.st (fun _ kk => XS.iconst X137.here hx rfl (hb hby at_116) kk) ?_
    show OwnGoW p e below s Z own_EL _ _ _ T137 (mkF m 117 #[.val (.int p1), .val (.int p2), .val (.int p3), .val (.int p4), .val (.int p5), .val (.int p6), .val (.int (3 : Int32)), .val (.int c0), .val (.int c1), .val (.int c2), .val (.ref b130), .unset, .unset, .unset, .unset] [(.int (2 : Int32)), (.ref b137), (.ref b137)])
    refine OwnGoW.st (fun _ kk => XS.aload X137.here hx rfl (hb hby at_117) rfl rfl  kk) ?_
    show OwnGoW p e below s Z own_EL _ _ _ T137 (mkF m 119 #[.val (.int p1), .val (.int p2), .val (.int p3), .val (.int p4), .val (.int p5), .val (.int p6), .val (.int (3 : Int32)), .val (.int c0), .val (.int c1), .val (.int c2), .val (.ref b130), .unset, .unset, .unset, .unset] [(.ref b130), (.int (2 : Int32)), (.ref b137), (.ref b137)])
    obtain ⟨_, _, ⟨T138, L138, k138, n138⟩, -, X138, ⟨Lc138, hQ138, l138, y138, z138⟩, st138⟩ := X137.specialBack hx (y := (⟨"io/quintet/Alphabet", "<init>", "(ILjava/lang/String;)V"⟩ : MethodName)) rfl hown (mvT hZ (hw _ (List.mem_of_getElem? (i := 11) rfl))) (mvT hZ (hw _ (List.mem_of_getElem? (i := 12) rfl))) (mvT hZ (hw _ (List.mem_of_getElem? (i := 13) rfl))) (by decide) (backOf (W := 1) (rmini3 l Z a0 hw [] b137 b130 t136 kb136 c0 c1 c2 zc fmv h137 n0 Z_ O_ S_CS P_CS S_SF rf_fmv E_b137 g_b137 ne_b130_b137 ne_t136_b137 F_values_b137 F_width_b137 F_characters_b137 E_b130 Fc_b130 Fv_b130 V136 P_c0 P_c1 P_c2) hZ (hw _ (List.mem_of_getElem? (i := 13) rfl)) (hw _ (List.mem_of_getElem? (i := 10) rfl)) (by decide) (by decide)) (g := (mkF m 119 #[.val (.int p1), .val (.int p2), .val (.int p3), .val (.int p4), .val (.int p5), .val (.int p6), .val (.int (3 : Int32)), .val (.int c0), .val (.int c1), .val (.int c2), .val (.ref b130), .unset, .unset, .unset, .unset] [(.ref b130), (.int (2 : Int32)), (.ref b137), (.ref b137)])) rfl (by rw [hml]; rfl) (Steps.refl _) (a := b137) (argsL := [(.int (2 : Int32)), (.ref b130)]) (rest := [(.ref b137)]) (lenOf pd_10 rfl) rfl (by show 2 * 0 + _ ≤ _; exact Nat.le_of_eq rfl) (hb hby at_119) (fun _ _ => ⟨rfl, e137, (by decide : 4 + 1 ≤ _), (by decide : 13 + 128 ≤ _)⟩)
    dsimp only [Pt.U, Pt.locs, Pt.cells, Pt.slots] at X138 l138 y138 z138 st138 hQ138
    subst l138 y138 z138
    obtain ⟨rfl, N138q, K138, Eo138, b138, Fb138, G138⟩ := hQ138
    have N138 := Fr.app N136 N138q
    have Z_ : n0 ≤ T138.heap.size := Nat.le_trans Z_ K138.1
    have E_b130 := E_b130.keep K138
    have V_b131 := V_b131.keep K138 (ninS ne_b131_b137 nin0)
    have E_b131 := E_b131.keep K138
    have Fc_b130 := Fc_b130.keep K138 (ninS ne_b130_b137 nin0)
    have Fv_b130 := Fv_b130.keep K138 (ninS ne_b130_b137 nin0)
    have V136 := V136.keep K138 (ninS ne_t136_b137 nin0)
    have E_b137 := E_b137.keep K138
    have O_ := O_.keep K138 (allS g_b137 all0)
    have sf_b130' := Safe.keep K138 (sfS sf_b137 sf0) CR.1 sf_b130
    have sf_b131' := Safe.keep K138 (sfS sf_b137 sf0) CR.1 sf_b131
    have sf_b137' := Safe.keep K138 (sfS sf_b137 sf0) CR.1 sf_b137
    have CR := CR.trans (CHr.keep K138 (sfS sf_b137 sf0) CR.1)
    have hk_ := Nat.le_trans hk_ K138.1
    have sf_b130 := sf_b130'
    have sf_b131 := sf_b131'
    have sf_b137 := sf_b137'
    refine OwnGoW.st (fun _ kk => st138.trans kk) ?_
    show OwnGoW p e below s Z own_EL _ _ _ T138 (mkF m 122 #[.val (.int p1), .val (.int p2), .val (.int p3), .val (.int p4), .val (.int p5), .val (.int p6), .val (.int (3 : Int32)), .val (.int c0), .val (.int c1), .val (.int c2), .val (.ref b130), .unset, .unset, .unset, .unset] [(.ref b137)])
    refine OwnGoW.st (fun _ kk => XS.astore X138.here hx rfl (hb hby at_122) rfl rfl (l' := #[.val (.int p1), .val (.int p2), .val (.int p3), .val (.int p4), .val (.int p5), .val (.int p6), .val (.int (3 : Int32)), .val (.int c0), .val (.int c1), .val (.int c2), .val (.ref b130), .val (.ref b137), .unset, .unset, .unset]) rfl kk) ?_
    show OwnGoW p e below s Z own_EL _ _ _ T138 (mkF m 124 #[.val (.int p1), .val (.int p2), .val (.int p3), .val (.int p4), .val (.int p5), .val (.int p6), .val (.int (3 : Int32)), .val (.int c0), .val (.int c1), .val (.int c2), .val (.ref b130), .val (.ref b137), .unset, .unset, .unset] [])
    refine OwnGoW.st (fun _ kk => XS.iload X138.here hx rfl (hb hby at_124) rfl  kk) ?_
    show OwnGoW p e below s Z own_EL _ _ _ T138 (mkF m 126 #[.val (.int p1), .val (.int p2), .val (.int p3), .val (.int p4), .val (.int p5), .val (.int p6), .val (.int (3 : Int32)), .val (.int c0), .val (.int c1), .val (.int c2), .val (.ref b130), .val (.ref b137), .unset, .unset, .unset] [(.int p6)])
    refine OwnGoW.st (fun _ kk => XS.iconst X138.here hx rfl (hb hby at_126) kk) ?_
    show OwnGoW p e below s Z own_EL _ _ _ T138 (mkF m 127 #[.val (.int p1), .val (.int p2), .val (.int p3), .val (.int p4), .val (.int p5), .val (.int p6), .val (.int (3 : Int32)), .val (.int c0), .val (.int c1), .val (.int c2), .val (.ref b130), .val (.ref b137), .unset, .unset, .unset] [(.int (3 : Int32)), (.int p6)])
    refine OwnGoW.st (fun _ kk => XS.iand X138.here hx rfl (hb hby at_127) rfl kk) ?_
    show OwnGoW p e below s Z own_EL _ _ _ T138 (mkF m 128 #[.val (.int p1), .val (.int p2), .val (.int p3), .val (.int p4), .val (.int p5), .val (.int p6), .val (.int (3 : Int32)), .val (.int c0), .val (.int c1), .val (.int c2), .val (.ref b130), .val (.ref b137), .unset, .unset, .unset] [(.int (p6 &&& (3 : Int32)))])
    refine OwnGoW.st (fun _ kk => XS.istore X138.here hx rfl (hb hby at_128) rfl (l' := #[.val (.int p1), .val (.int p2), .val (.int p3), .val (.int p4), .val (.int p5), .val (.int p6), .val (.int (3 : Int32)), .val (.int c0), .val (.int c1), .val (.int c2), .val (.ref b130), .val (.ref b137), .val (.int (p6 &&& (3 : Int32))), .unset, .unset]) rfl kk) ?_
    show OwnGoW p e below s Z own_EL _ _ _ T138 (mkF m 130 #[.val (.int p1), .val (.int p2), .val (.int p3), .val (.int p4), .val (.int p5), .val (.int p6), .val (.int (3 : Int32)), .val (.int c0), .val (.int c1), .val (.int c2), .val (.ref b130), .val (.ref b137), .val (.int (p6 &&& (3 : Int32))), .unset, .unset] [])
    refine OwnGoW.st (fun _ kk => XS.iload X138.here hx rfl (hb hby at_130) rfl  kk) ?_
    show OwnGoW p e below s Z own_EL _ _ _ T138 (mkF m 132 #[.val (.int p1), .val (.int p2), .val (.int p3), .val (.int p4), .val (.int p5), .val (.int p6), .val (.int (3 : Int32)), .val (.int c0), .val (.int c1), .val (.int c2), .val (.ref b130), .val (.ref b137), .val (.int (p6 &&& (3 : Int32))), .unset, .unset] [(.int (p6 &&& (3 : Int32)))])
    refine OwnGoW.st (fun _ kk => XS.iconst X138.here hx rfl (hb hby at_132) kk) ?_
    show OwnGoW p e below s Z own_EL _ _ _ T138 (mkF m 133 #[.val (.int p1), .val (.int p2), .val (.int p3), .val (.int p4), .val (.int p5), .val (.int p6), .val (.int (3 : Int32)), .val (.int c0), .val (.int c1), .val (.int c2), .val (.ref b130), .val (.ref b137), .val (.int (p6 &&& (3 : Int32))), .unset, .unset] [(.int (1 : Int32)), (.int (p6 &&& (3 : Int32)))])
    by_cases hm1 : (p6 &&& (3 : Int32)) = (1 : Int32)
    · refine OwnGoW.st (fun _ kk => XS.icmpNo X138.here hx rfl (hb hby at_133) rfl (teq (hm1 : (p6 &&& (3 : Int32)) = (1 : Int32))).2 kk) ?_
      show OwnGoW p e below s Z own_EL _ _ _ T138 (mkF m 136 #[.val (.int p1), .val (.int p2), .val (.int p3), .val (.int p4), .val (.int p5), .val (.int p6), .val (.int (3 : Int32)), .val (.int c0), .val (.int c1), .val (.int c2), .val (.ref b130), .val (.ref b137), .val (.int (p6 &&& (3 : Int32))), .unset, .unset] [])
      refine OwnGoW.st (fun _ kk => XS.iload X138.here hx rfl (hb hby at_136) rfl  kk) ?_
      show OwnGoW p e below s Z own_EL _ _ _ T138 (mkF m 138 #[.val (.int p1), .val (.int p2), .val (.int p3), .val (.int p4), .val (.int p5), .val (.int p6), .val (.int (3 : Int32)), .val (.int c0), .val (.int c1), .val (.int c2), .val (.ref b130), .val (.ref b137), .val (.int (p6 &&& (3 : Int32))), .unset, .unset] [(.int c0)])
      refine OwnGoW.st (fun _ kk => XS.istore X138.here hx rfl (hb hby at_138) rfl (l' := #[.val (.int p1), .val (.int p2), .val (.int p3), .val (.int p4), .val (.int p5), .val (.int p6), .val (.int (3 : Int32)), .val (.int c0), .val (.int c1), .val (.int c2), .val (.ref b130), .val (.ref b137), .val (.int (p6 &&& (3 : Int32))), .val (.int c0), .unset]) rfl kk) ?_
      show OwnGoW p e below s Z own_EL _ _ _ T138 (mkF m 140 #[.val (.int p1), .val (.int p2), .val (.int p3), .val (.int p4), .val (.int p5), .val (.int p6), .val (.int (3 : Int32)), .val (.int c0), .val (.int c1), .val (.int c2), .val (.ref b130), .val (.ref b137), .val (.int (p6 &&& (3 : Int32))), .val (.int c0), .unset] [])
      refine OwnGoW.st (fun _ kk => XS.goto X138.here hx rfl (pc0 := 140) (pc' := 174) rfl (hb hby at_140) (by decide) (by decide) kk) ?_
      show OwnGoW p e below s Z own_EL _ _ _ T138 (mkF m 174 #[.val (.int p1), .val (.int p2), .val (.int p3), .val (.int p4), .val (.int p5), .val (.int p6), .val (.int (3 : Int32)), .val (.int c0), .val (.int c1), .val (.int c2), .val (.ref b130), .val (.ref b137), .val (.int (p6 &&& (3 : Int32))), .val (.int c0), .unset] [])
      refine OwnGoW.st (fun _ kk => XS.iload X138.here hx rfl (hb hby at_174) rfl  kk) ?_
      show OwnGoW p e below s Z own_EL _ _ _ T138 (mkF m 176 #[.val (.int p1), .val (.int p2), .val (.int p3), .val (.int p4), .val (.int p5), .val (.int p6), .val (.int (3 : Int32)), .val (.int c0), .val (.int c1), .val (.int c2), .val (.ref b130), .val (.ref b137), .val (.int (p6 &&& (3 : Int32))), .val (.int c0), .unset] [(.int (3 : Int32))])
      refine OwnGoW.st (fun _ kk => XS.iconst X138.here hx rfl (hb hby at_176) kk) ?_
      show OwnGoW p e below s Z own_EL _ _ _ T138 (mkF m 177 #[.val (.int p1), .val (.int p2), .val (.int p3), .val (.int p4), .val (.int p5), .val (.int p6), .val (.int (3 : Int32)), .val (.int c0), .val (.int c1), .val (.int c2), .val (.ref b130), .val (.ref b137), .val (.int (p6 &&& (3 : Int32))), .val (.int c0), .unset] [(.int (1 : Int32)), (.int (3 : Int32))])
      refine OwnGoW.st (fun _ kk => XS.icmpNo X138.here hx rfl (hb hby at_177) rfl (flt ((by decide) : ¬ ((3 : Int32) < (1 : Int32)))).1 kk) ?_
      show OwnGoW p e below s Z own_EL _ _ _ T138 (mkF m 180 #[.val (.int p1), .val (.int p2), .val (.int p3), .val (.int p4), .val (.int p5), .val (.int p6), .val (.int (3 : Int32)), .val (.int c0), .val (.int c1), .val (.int c2), .val (.ref b130), .val (.ref b137), .val (.int (p6 &&& (3 : Int32))), .val (.int c0), .unset] [])
      refine OwnGoW.st (fun _ kk => XS.iload X138.here hx rfl (hb hby at_180) rfl  kk) ?_
      show OwnGoW p e below s Z own_EL _ _ _ T138 (mkF m 182 #[.val (.int p1), .val (.int p2), .val (.int p3), .val (.int p4), .val (.int p5), .val (.int p6), .val (.int (3 : Int32)), .val (.int c0), .val (.int c1), .val (.int c2), .val (.ref b130), .val (.ref b137), .val (.int (p6 &&& (3 : Int32))), .val (.int c0), .unset] [(.int c0)])
      refine OwnGoW.st (fun _ kk => XS.iload X138.here hx rfl (hb hby at_182) rfl  kk) ?_
      show OwnGoW p e below s Z own_EL _ _ _ T138 (mkF m 184 #[.val (.int p1), .val (.int p2), .val (.int p3), .val (.int p4), .val (.int p5), .val (.int p6), .val (.int (3 : Int32)), .val (.int c0), .val (.int c1), .val (.int c2), .val (.ref b130), .val (.ref b137), .val (.int (p6 &&& (3 : Int32))), .val (.int c0), .unset] [(.int c0), (.int c0)])
      refine OwnGoW.st (fun _ kk => XS.icmpYes X138.here hx rfl (pc0 := 184) (pc' := 213) rfl (hb hby at_184) rfl (teq (rfl : c0 = c0)).1 (by decide) (by decide) kk) ?_
      show OwnGoW p e below s Z own_EL _ _ _ T138 (mkF m 213 #[.val (.int p1), .val (.int p2), .val (.int p3), .val (.int p4), .val (.int p5), .val (.int p6), .val (.int (3 : Int32)), .val (.int c0), .val (.int c1), .val (.int c2), .val (.ref b130), .val (.ref b137), .val (.int (p6 &&& (3 : Int32))), .val (.int c0), .unset] [])
      refine OwnGoW.st (fun _ kk => XS.iconst X138.here hx rfl (hb hby at_213) kk) ?_
      show OwnGoW p e below s Z own_EL _ _ _ T138 (mkF m 214 #[.val (.int p1), .val (.int p2), .val (.int p3), .val (.int p4), .val (.int p5), .val (.int p6), .val (.int (3 : Int32)), .val (.int c0), .val (.int c1), .val (.int c2), .val (.ref b130), .val (.ref b137), .val (.int (p6 &&& (3 : Int32))), .val (.int c0), .unset] [(.int (1 : Int32))])
      refine OwnGoW.st (fun _ kk => XS.goto X138.here hx rfl (pc0 := 214) (pc' := 218) rfl (hb hby at_214) (by decide) (by decide) kk) ?_
      show OwnGoW p e below s Z own_EL _ _ _ T138 (mkF m 218 #[.val (.int p1), .val (.int p2), .val (.int p3), .val (.int p4), .val (.int p5), .val (.int p6), .val (.int (3 : Int32)), .val (.int c0), .val (.int c1), .val (.int c2), .val (.ref b130), .val (.ref b137), .val (.int (p6 &&& (3 : Int32))), .val (.int c0), .unset] [(.int (1 : Int32))])
      refine OwnGoW.st (fun _ kk => XS.istore X138.here hx rfl (hb hby at_218) rfl (l' := #[.val (.int p1), .val (.int p2), .val (.int p3), .val (.int p4), .val (.int p5), .val (.int p6), .val (.int (3 : Int32)), .val (.int c0), .val (.int c1), .val (.int c2), .val (.ref b130), .val (.ref b137), .val (.int (p6 &&& (3 : Int32))), .val (.int c0), .val (.int (1 : Int32))]) rfl kk) ?_
      show OwnGoW p e below s Z own_EL _ _ _ T138 (mkF m 220 #[.val (.int p1), .val (.int p2), .val (.int p3), .val (.int p4), .val (.int p5), .val (.int p6), .val (.int (3 : Int32)), .val (.int c0), .val (.int c1), .val (.int c2), .val (.ref b130), .val (.ref b137), .val (.int (p6 &&& (3 : Int32))), .val (.int c0), .val (.int (1 : Int32))] [])
      refine OwnGoW.st (fun _ kk => XS.aload X138.here hx rfl (hb hby at_220) rfl rfl  kk) ?_
      show OwnGoW p e below s Z own_EL _ _ _ T138 (mkF m 222 #[.val (.int p1), .val (.int p2), .val (.int p3), .val (.int p4), .val (.int p5), .val (.int p6), .val (.int (3 : Int32)), .val (.int c0), .val (.int c1), .val (.int c2), .val (.ref b130), .val (.ref b137), .val (.int (p6 &&& (3 : Int32))), .val (.int c0), .val (.int (1 : Int32))] [(.ref b137)])
      refine OwnGoW.st (fun _ kk => XS.iload X138.here hx rfl (hb hby at_222) rfl  kk) ?_
      show OwnGoW p e below s Z own_EL _ _ _ T138 (mkF m 224 #[.val (.int p1), .val (.int p2), .val (.int p3), .val (.int p4), .val (.int p5), .val (.int p6), .val (.int (3 : Int32)), .val (.int c0), .val (.int c1), .val (.int c2), .val (.ref b130), .val (.ref b137), .val (.int (p6 &&& (3 : Int32))), .val (.int c0), .val (.int (1 : Int32))] [(.int c0), (.ref b137)])
      have hlt_ : c0 < (128 : Int32) := P_c0.2
      obtain ⟨cq139, kq139, q139a, q139b, q139c⟩ := isOf hZ rfl E_b137
      obtain ⟨_, _, ⟨T139, L139, k139, n139⟩, -, X139, ⟨Lc139, hQ139, l139, y139, z139⟩, st139⟩ := X138.virtualBack hx (y := (⟨"io/quintet/Alphabet", "contains", "(C)Z"⟩ : MethodName)) (z := (⟨"io/quintet/Alphabet", "contains", "(C)Z"⟩ : MethodName)) hown (mvT hZ (hw _ (List.mem_of_getElem? (i := 40) rfl))) (mvT hZ (hw _ (List.mem_of_getElem? (i := 41) rfl))) (notFace_of_selects (args := #[]) (mvT hZ (hw _ (List.mem_of_getElem? (i := 43) rfl)))) (mvT hZ (hw _ (List.mem_of_getElem? (i := 43) rfl))) (mvT hZ (hw _ (List.mem_of_getElem? (i := 42) rfl))) (by decide) (backOf (W := 0) (rmconY l Z a0 hw [] b137 b138 (own_tab [(c2, 2), (c1, 1), (c0, 0)]) c0 T138.heap n0 Z_ Fb138 G138 P_c0.1 hlt_ (own_tabY (c' := c0) (i := 0) (List.mem_of_getElem? (i := 2) rfl) rfl (own_tabI rfl (by decide : own_neg [2, 1, 0])))) hZ (hw _ (List.mem_of_getElem? (i := 44) rfl)) (hw _ (List.mem_of_getElem? (i := 10) rfl)) (by decide) (by decide)) q139a q139c (g := (mkF m 224 #[.val (.int p1), .val (.int p2), .val (.int p3), .val (.int p4), .val (.int p5), .val (.int p6), .val (.int (3 : Int32)), .val (.int c0), .val (.int c1), .val (.int c2), .val (.ref b130), .val (.ref b137), .val (.int (p6 &&& (3 : Int32))), .val (.int c0), .val (.int (1 : Int32))] [(.int c0), (.ref b137)])) rfl (by rw [hml]; rfl) (Steps.refl _) (argsL := [(.int c0)]) (rest := []) (lenOf pd_5 rfl) rfl (by show 2 * 0 + _ ≤ _; exact Nat.le_of_eq rfl) (hb hby at_224) (fun _ _ => ⟨rfl, rfl, (by decide : 5 + 0 ≤ _), (by decide : 141 + 0 ≤ _)⟩)
      dsimp only [Pt.U, Pt.locs, Pt.cells, Pt.slots] at X139 l139 y139 z139 st139 hQ139
      subst l139 y139 z139
      obtain ⟨rfl, N139q, e139⟩ := hQ139
      have N139 := Fr.app N138 N139q
      refine OwnGoW.st (fun _ kk => st139.trans kk) ?_
      show OwnGoW p e below s Z own_EL _ _ _ T139 (mkF m 227 #[.val (.int p1), .val (.int p2), .val (.int p3), .val (.int p4), .val (.int p5), .val (.int p6), .val (.int (3 : Int32)), .val (.int c0), .val (.int c1), .val (.int c2), .val (.ref b130), .val (.ref b137), .val (.int (p6 &&& (3 : Int32))), .val (.int c0), .val (.int (1 : Int32))] [(.int (1 : Int32))])
      refine OwnGoW.st (fun _ kk => XS.iload X139.here hx rfl (hb hby at_227) rfl  kk) ?_
      show OwnGoW p e below s Z own_EL _ _ _ T139 (mkF m 229 #[.val (.int p1), .val (.int p2), .val (.int p3), .val (.int p4), .val (.int p5), .val (.int p6), .val (.int (3 : Int32)), .val (.int c0), .val (.int c1), .val (.int c2), .val (.ref b130), .val (.ref b137), .val (.int (p6 &&& (3 : Int32))), .val (.int c0), .val (.int (1 : Int32))] [(.int (1 : Int32)), (.int (1 : Int32))])
      refine OwnGoW.st (fun _ kk => XS.icmpNo X139.here hx rfl (hb hby at_229) rfl (teq ((by decide) : (1 : Int32) = (1 : Int32))).2 kk) ?_
      show OwnGoW p e below s Z own_EL _ _ _ T139 (mkF m 232 #[.val (.int p1), .val (.int p2), .val (.int p3), .val (.int p4), .val (.int p5), .val (.int p6), .val (.int (3 : Int32)), .val (.int c0), .val (.int c1), .val (.int c2), .val (.ref b130), .val (.ref b137), .val (.int (p6 &&& (3 : Int32))), .val (.int c0), .val (.int (1 : Int32))] [])
      refine OwnGoW.st (fun _ kk => XS.iconst X139.here hx rfl (hb hby at_232) kk) ?_
      show OwnGoW p e below s Z own_EL _ _ _ T139 (mkF m 233 #[.val (.int p1), .val (.int p2), .val (.int p3), .val (.int p4), .val (.int p5), .val (.int p6), .val (.int (3 : Int32)), .val (.int c0), .val (.int c1), .val (.int c2), .val (.ref b130), .val (.ref b137), .val (.int (p6 &&& (3 : Int32))), .val (.int c0), .val (.int (1 : Int32))] [(.int (1 : Int32))])
      refine OwnGoW.st (fun _ kk => XS.goto X139.here hx rfl (pc0 := 233) (pc' := 237) rfl (hb hby at_233) (by decide) (by decide) kk) ?_
      show OwnGoW p e below s Z own_EL _ _ _ T139 (mkF m 237 #[.val (.int p1), .val (.int p2), .val (.int p3), .val (.int p4), .val (.int p5), .val (.int p6), .val (.int (3 : Int32)), .val (.int c0), .val (.int c1), .val (.int c2), .val (.ref b130), .val (.ref b137), .val (.int (p6 &&& (3 : Int32))), .val (.int c0), .val (.int (1 : Int32))] [(.int (1 : Int32))])
      exact OwnGoW.retN (s := s) (vm0 := s.vm) X139 hS_ hk_ e139 hZ (own_hEL hw) CR hx (t := .boolean) hret hlk (by simp) (hb hby at_237) (by show Q0 Z p1 p2 p3 p4 p5 p6 zc fmv h0 n0 _ T139.heap _; rw [e139]; exact ⟨rfl, N139⟩) (by decide) (by decide)
    · refine OwnGoW.st (fun _ kk => XS.icmpYes X138.here hx rfl (pc0 := 133) (pc' := 143) rfl (hb hby at_133) rfl (feq (hm1 : ¬ ((p6 &&& (3 : Int32)) = (1 : Int32)))).2 (by decide) (by decide) kk) ?_
      show OwnGoW p e below s Z own_EL _ _ _ T138 (mkF m 143 #[.val (.int p1), .val (.int p2), .val (.int p3), .val (.int p4), .val (.int p5), .val (.int p6), .val (.int (3 : Int32)), .val (.int c0), .val (.int c1), .val (.int c2), .val (.ref b130), .val (.ref b137), .val (.int (p6 &&& (3 : Int32))), .unset, .unset] [])
      refine OwnGoW.st (fun _ kk => XS.iload X138.here hx rfl (hb hby at_143) rfl  kk) ?_
      show OwnGoW p e below s Z own_EL _ _ _ T138 (mkF m 145 #[.val (.int p1), .val (.int p2), .val (.int p3), .val (.int p4), .val (.int p5), .val (.int p6), .val (.int (3 : Int32)), .val (.int c0), .val (.int c1), .val (.int c2), .val (.ref b130), .val (.ref b137), .val (.int (p6 &&& (3 : Int32))), .unset, .unset] [(.int (p6 &&& (3 : Int32)))])
      refine OwnGoW.st (fun _ kk => XS.iconst X138.here hx rfl (hb hby at_145) kk) ?_
      show OwnGoW p e below s Z own_EL _ _ _ T138 (mkF m 146 #[.val (.int p1), .val (.int p2), .val (.int p3), .val (.int p4), .val (.int p5), .val (.int p6), .val (.int (3 : Int32)), .val (.int c0), .val (.int c1), .val (.int c2), .val (.ref b130), .val (.ref b137), .val (.int (p6 &&& (3 : Int32))), .unset, .unset] [(.int (2 : Int32)), (.int (p6 &&& (3 : Int32)))])
      by_cases hm2 : (p6 &&& (3 : Int32)) = (2 : Int32)
      · refine OwnGoW.st (fun _ kk => XS.icmpNo X138.here hx rfl (hb hby at_146) rfl (teq (hm2 : (p6 &&& (3 : Int32)) = (2 : Int32))).2 kk) ?_
        show OwnGoW p e below s Z own_EL _ _ _ T138 (mkF m 149 #[.val (.int p1), .val (.int p2), .val (.int p3), .val (.int p4), .val (.int p5), .val (.int p6), .val (.int (3 : Int32)), .val (.int c0), .val (.int c1), .val (.int c2), .val (.ref b130), .val (.ref b137), .val (.int (p6 &&& (3 : Int32))), .unset, .unset] [])
        refine OwnGoW.st (fun _ kk => XS.iload X138.here hx rfl (hb hby at_149) rfl  kk) ?_
        show OwnGoW p e below s Z own_EL _ _ _ T138 (mkF m 151 #[.val (.int p1), .val (.int p2), .val (.int p3), .val (.int p4), .val (.int p5), .val (.int p6), .val (.int (3 : Int32)), .val (.int c0), .val (.int c1), .val (.int c2), .val (.ref b130), .val (.ref b137), .val (.int (p6 &&& (3 : Int32))), .unset, .unset] [(.int c1)])
        refine OwnGoW.st (fun _ kk => XS.istore X138.here hx rfl (hb hby at_151) rfl (l' := #[.val (.int p1), .val (.int p2), .val (.int p3), .val (.int p4), .val (.int p5), .val (.int p6), .val (.int (3 : Int32)), .val (.int c0), .val (.int c1), .val (.int c2), .val (.ref b130), .val (.ref b137), .val (.int (p6 &&& (3 : Int32))), .val (.int c1), .unset]) rfl kk) ?_
        show OwnGoW p e below s Z own_EL _ _ _ T138 (mkF m 153 #[.val (.int p1), .val (.int p2), .val (.int p3), .val (.int p4), .val (.int p5), .val (.int p6), .val (.int (3 : Int32)), .val (.int c0), .val (.int c1), .val (.int c2), .val (.ref b130), .val (.ref b137), .val (.int (p6 &&& (3 : Int32))), .val (.int c1), .unset] [])
        refine OwnGoW.st (fun _ kk => XS.goto X138.here hx rfl (pc0 := 153) (pc' := 174) rfl (hb hby at_153) (by decide) (by decide) kk) ?_
        show OwnGoW p e below s Z own_EL _ _ _ T138 (mkF m 174 #[.val (.int p1), .val (.int p2), .val (.int p3), .val (.int p4), .val (.int p5), .val (.int p6), .val (.int (3 : Int32)), .val (.int c0), .val (.int c1), .val (.int c2), .val (.ref b130), .val (.ref b137), .val (.int (p6 &&& (3 : Int32))), .val (.int c1), .unset] [])
        refine OwnGoW.st (fun _ kk => XS.iload X138.here hx rfl (hb hby at_174) rfl  kk) ?_
        show OwnGoW p e below s Z own_EL _ _ _ T138 (mkF m 176 #[.val (.int p1), .val (.int p2), .val (.int p3), .val (.int p4), .val (.int p5), .val (.int p6), .val (.int (3 : Int32)), .val (.int c0), .val (.int c1), .val (.int c2), .val (.ref b130), .val (.ref b137), .val (.int (p6 &&& (3 : Int32))), .val (.int c1), .unset] [(.int (3 : Int32))])
        refine OwnGoW.st (fun _ kk => XS.iconst X138.here hx rfl (hb hby at_176) kk) ?_
        show OwnGoW p e below s Z own_EL _ _ _ T138 (mkF m 177 #[.val (.int p1), .val (.int p2), .val (.int p3), .val (.int p4), .val (.int p5), .val (.int p6), .val (.int (3 : Int32)), .val (.int c0), .val (.int c1), .val (.int c2), .val (.ref b130), .val (.ref b137), .val (.int (p6 &&& (3 : Int32))), .val (.int c1), .unset] [(.int (1 : Int32)), (.int (3 : Int32))])
        refine OwnGoW.st (fun _ kk => XS.icmpNo X138.here hx rfl (hb hby at_177) rfl (flt ((by decide) : ¬ ((3 : Int32) < (1 : Int32)))).1 kk) ?_
        show OwnGoW p e below s Z own_EL _ _ _ T138 (mkF m 180 #[.val (.int p1), .val (.int p2), .val (.int p3), .val (.int p4), .val (.int p5), .val (.int p6), .val (.int (3 : Int32)), .val (.int c0), .val (.int c1), .val (.int c2), .val (.ref b130), .val (.ref b137), .val (.int (p6 &&& (3 : Int32))), .val (.int c1), .unset] [])
        refine OwnGoW.st (fun _ kk => XS.iload X138.here hx rfl (hb hby at_180) rfl  kk) ?_
        show OwnGoW p e below s Z own_EL _ _ _ T138 (mkF m 182 #[.val (.int p1), .val (.int p2), .val (.int p3), .val (.int p4), .val (.int p5), .val (.int p6), .val (.int (3 : Int32)), .val (.int c0), .val (.int c1), .val (.int c2), .val (.ref b130), .val (.ref b137), .val (.int (p6 &&& (3 : Int32))), .val (.int c1), .unset] [(.int c1)])
        refine OwnGoW.st (fun _ kk => XS.iload X138.here hx rfl (hb hby at_182) rfl  kk) ?_
        show OwnGoW p e below s Z own_EL _ _ _ T138 (mkF m 184 #[.val (.int p1), .val (.int p2), .val (.int p3), .val (.int p4), .val (.int p5), .val (.int p6), .val (.int (3 : Int32)), .val (.int c0), .val (.int c1), .val (.int c2), .val (.ref b130), .val (.ref b137), .val (.int (p6 &&& (3 : Int32))), .val (.int c1), .unset] [(.int c0), (.int c1)])
        by_cases he_c1_c0 : c1 = c0
        · refine OwnGoW.st (fun _ kk => XS.icmpYes X138.here hx rfl (pc0 := 184) (pc' := 213) rfl (hb hby at_184) rfl (teq (he_c1_c0 : c1 = c0)).1 (by decide) (by decide) kk) ?_
          show OwnGoW p e below s Z own_EL _ _ _ T138 (mkF m 213 #[.val (.int p1), .val (.int p2), .val (.int p3), .val (.int p4), .val (.int p5), .val (.int p6), .val (.int (3 : Int32)), .val (.int c0), .val (.int c1), .val (.int c2), .val (.ref b130), .val (.ref b137), .val (.int (p6 &&& (3 : Int32))), .val (.int c1), .unset] [])
          refine OwnGoW.st (fun _ kk => XS.iconst X138.here hx rfl (hb hby at_213) kk) ?_
          show OwnGoW p e below s Z own_EL _ _ _ T138 (mkF m 214 #[.val (.int p1), .val (.int p2), .val (.int p3), .val (.int p4), .val (.int p5), .val (.int p6), .val (.int (3 : Int32)), .val (.int c0), .val (.int c1), .val (.int c2), .val (.ref b130), .val (.ref b137), .val (.int (p6 &&& (3 : Int32))), .val (.int c1), .unset] [(.int (1 : Int32))])
          refine OwnGoW.st (fun _ kk => XS.goto X138.here hx rfl (pc0 := 214) (pc' := 218) rfl (hb hby at_214) (by decide) (by decide) kk) ?_
          show OwnGoW p e below s Z own_EL _ _ _ T138 (mkF m 218 #[.val (.int p1), .val (.int p2), .val (.int p3), .val (.int p4), .val (.int p5), .val (.int p6), .val (.int (3 : Int32)), .val (.int c0), .val (.int c1), .val (.int c2), .val (.ref b130), .val (.ref b137), .val (.int (p6 &&& (3 : Int32))), .val (.int c1), .unset] [(.int (1 : Int32))])
          refine OwnGoW.st (fun _ kk => XS.istore X138.here hx rfl (hb hby at_218) rfl (l' := #[.val (.int p1), .val (.int p2), .val (.int p3), .val (.int p4), .val (.int p5), .val (.int p6), .val (.int (3 : Int32)), .val (.int c0), .val (.int c1), .val (.int c2), .val (.ref b130), .val (.ref b137), .val (.int (p6 &&& (3 : Int32))), .val (.int c1), .val (.int (1 : Int32))]) rfl kk) ?_
          show OwnGoW p e below s Z own_EL _ _ _ T138 (mkF m 220 #[.val (.int p1), .val (.int p2), .val (.int p3), .val (.int p4), .val (.int p5), .val (.int p6), .val (.int (3 : Int32)), .val (.int c0), .val (.int c1), .val (.int c2), .val (.ref b130), .val (.ref b137), .val (.int (p6 &&& (3 : Int32))), .val (.int c1), .val (.int (1 : Int32))] [])
          refine OwnGoW.st (fun _ kk => XS.aload X138.here hx rfl (hb hby at_220) rfl rfl  kk) ?_
          show OwnGoW p e below s Z own_EL _ _ _ T138 (mkF m 222 #[.val (.int p1), .val (.int p2), .val (.int p3), .val (.int p4), .val (.int p5), .val (.int p6), .val (.int (3 : Int32)), .val (.int c0), .val (.int c1), .val (.int c2), .val (.ref b130), .val (.ref b137), .val (.int (p6 &&& (3 : Int32))), .val (.int c1), .val (.int (1 : Int32))] [(.ref b137)])
          refine OwnGoW.st (fun _ kk => XS.iload X138.here hx rfl (hb hby at_222) rfl  kk) ?_
          show OwnGoW p e below s Z own_EL _ _ _ T138 (mkF m 224 #[.val (.int p1), .val (.int p2), .val (.int p3), .val (.int p4), .val (.int p5), .val (.int p6), .val (.int (3 : Int32)), .val (.int c0), .val (.int c1), .val (.int c2), .val (.ref b130), .val (.ref b137), .val (.int (p6 &&& (3 : Int32))), .val (.int c1), .val (.int (1 : Int32))] [(.int c1), (.ref b137)])
          have hlt_ : c1 < (128 : Int32) := he_c1_c0 ▸ P_c0.2
          obtain ⟨cq140, kq140, q140a, q140b, q140c⟩ := isOf hZ rfl E_b137
          obtain ⟨_, _, ⟨T140, L140, k140, n140⟩, -, X140, ⟨Lc140, hQ140, l140, y140, z140⟩, st140⟩ := X138.virtualBack hx (y := (⟨"io/quintet/Alphabet", "contains", "(C)Z"⟩ : MethodName)) (z := (⟨"io/quintet/Alphabet", "contains", "(C)Z"⟩ : MethodName)) hown (mvT hZ (hw _ (List.mem_of_getElem? (i := 40) rfl))) (mvT hZ (hw _ (List.mem_of_getElem? (i := 41) rfl))) (notFace_of_selects (args := #[]) (mvT hZ (hw _ (List.mem_of_getElem? (i := 43) rfl)))) (mvT hZ (hw _ (List.mem_of_getElem? (i := 43) rfl))) (mvT hZ (hw _ (List.mem_of_getElem? (i := 42) rfl))) (by decide) (backOf (W := 0) (rmconY l Z a0 hw [] b137 b138 (own_tab [(c2, 2), (c1, 1), (c0, 0)]) c1 T138.heap n0 Z_ Fb138 G138 P_c1.1 hlt_ (own_tabY (c' := c0) (i := 0) (List.mem_of_getElem? (i := 2) rfl) he_c1_c0 (own_tabI rfl (by decide : own_neg [2, 1, 0])))) hZ (hw _ (List.mem_of_getElem? (i := 44) rfl)) (hw _ (List.mem_of_getElem? (i := 10) rfl)) (by decide) (by decide)) q140a q140c (g := (mkF m 224 #[.val (.int p1), .val (.int p2), .val (.int p3), .val (.int p4), .val (.int p5), .val (.int p6), .val (.int (3 : Int32)), .val (.int c0), .val (.int c1), .val (.int c2), .val (.ref b130), .val (.ref b137), .val (.int (p6 &&& (3 : Int32))), .val (.int c1), .val (.int (1 : Int32))] [(.int c1), (.ref b137)])) rfl (by rw [hml]; rfl) (Steps.refl _) (argsL := [(.int c1)]) (rest := []) (lenOf pd_5 rfl) rfl (by show 2 * 0 + _ ≤ _; exact Nat.le_of_eq rfl) (hb hby at_224) (fun _ _ => ⟨rfl, rfl, (by decide : 5 + 0 ≤ _), (by decide : 141 + 0 ≤ _)⟩)
          dsimp only [Pt.U, Pt.locs, Pt.cells, Pt.slots] at X140 l140 y140 z140 st140 hQ140
          subst l140 y140 z140
          obtain ⟨rfl, N140q, e140⟩ := hQ140
          have N140 := Fr.app N138 N140q
          refine OwnGoW.st (fun _ kk => st140.trans kk) ?_
          show OwnGoW p e below s Z own_EL _ _ _ T140 (mkF m 227 #[.val (.int p1), .val (.int p2), .val (.int p3), .val (.int p4), .val (.int p5), .val (.int p6), .val (.int (3 : Int32)), .val (.int c0), .val (.int c1), .val (.int c2), .val (.ref b130), .val (.ref b137), .val (.int (p6 &&& (3 : Int32))), .val (.int c1), .val (.int (1 : Int32))] [(.int (1 : Int32))])
          refine OwnGoW.st (fun _ kk => XS.iload X140.here hx rfl (hb hby at_227) rfl  kk) ?_
          show OwnGoW p e below s Z own_EL _ _ _ T140 (mkF m 229 #[.val (.int p1), .val (.int p2), .val (.int p3), .val (.int p4), .val (.int p5), .val (.int p6), .val (.int (3 : Int32)), .val (.int c0), .val (.int c1), .val (.int c2), .val (.ref b130), .val (.ref b137), .val (.int (p6 &&& (3 : Int32))), .val (.int c1), .val (.int (1 : Int32))] [(.int (1 : Int32)), (.int (1 : Int32))])
          refine OwnGoW.st (fun _ kk => XS.icmpNo X140.here hx rfl (hb hby at_229) rfl (teq ((by decide) : (1 : Int32) = (1 : Int32))).2 kk) ?_
          show OwnGoW p e below s Z own_EL _ _ _ T140 (mkF m 232 #[.val (.int p1), .val (.int p2), .val (.int p3), .val (.int p4), .val (.int p5), .val (.int p6), .val (.int (3 : Int32)), .val (.int c0), .val (.int c1), .val (.int c2), .val (.ref b130), .val (.ref b137), .val (.int (p6 &&& (3 : Int32))), .val (.int c1), .val (.int (1 : Int32))] [])
          refine OwnGoW.st (fun _ kk => XS.iconst X140.here hx rfl (hb hby at_232) kk) ?_
          show OwnGoW p e below s Z own_EL _ _ _ T140 (mkF m 233 #[.val (.int p1), .val (.int p2), .val (.int p3), .val (.int p4), .val (.int p5), .val (.int p6), .val (.int (3 : Int32)), .val (.int c0), .val (.int c1), .val (.int c2), .val (.ref b130), .val (.ref b137), .val (.int (p6 &&& (3 : Int32))), .val (.int c1), .val (.int (1 : Int32))] [(.int (1 : Int32))])
          refine OwnGoW.st (fun _ kk => XS.goto X140.here hx rfl (pc0 := 233) (pc' := 237) rfl (hb hby at_233) (by decide) (by decide) kk) ?_
          show OwnGoW p e below s Z own_EL _ _ _ T140 (mkF m 237 #[.val (.int p1), .val (.int p2), .val (.int p3), .val (.int p4), .val (.int p5), .val (.int p6), .val (.int (3 : Int32)), .val (.int c0), .val (.int c1), .val (.int c2), .val (.ref b130), .val (.ref b137), .val (.int (p6 &&& (3 : Int32))), .val (.int c1), .val (.int (1 : Int32))] [(.int (1 : Int32))])
          exact OwnGoW.retN (s := s) (vm0 := s.vm) X140 hS_ hk_ e140 hZ (own_hEL hw) CR hx (t := .boolean) hret hlk (by simp) (hb hby at_237) (by show Q0 Z p1 p2 p3 p4 p5 p6 zc fmv h0 n0 _ T140.heap _; rw [e140]; exact ⟨rfl, N140⟩) (by decide) (by decide)
        · refine OwnGoW.st (fun _ kk => XS.icmpNo X138.here hx rfl (hb hby at_184) rfl (feq (he_c1_c0 : ¬ (c1 = c0))).1 kk) ?_
          show OwnGoW p e below s Z own_EL _ _ _ T138 (mkF m 187 #[.val (.int p1), .val (.int p2), .val (.int p3), .val (.int p4), .val (.int p5), .val (.int p6), .val (.int (3 : Int32)), .val (.int c0), .val (.int c1), .val (.int c2), .val (.ref b130), .val (.ref b137), .val (.int (p6 &&& (3 : Int32))), .val (.int c1), .unset] [])
          refine OwnGoW.st (fun _ kk => XS.iload X138.here hx rfl (hb hby at_187) rfl  kk) ?_
          show OwnGoW p e below s Z own_EL _ _ _ T138 (mkF m 189 #[.val (.int p1), .val (.int p2), .val (.int p3), .val (.int p4), .val (.int p5), .val (.int p6), .val (.int (3 : Int32)), .val (.int c0), .val (.int c1), .val (.int c2), .val (.ref b130), .val (.ref b137), .val (.int (p6 &&& (3 : Int32))), .val (.int c1), .unset] [(.int (3 : Int32))])
          refine OwnGoW.st (fun _ kk => XS.iconst X138.here hx rfl (hb hby at_189) kk) ?_
          show OwnGoW p e below s Z own_EL _ _ _ T138 (mkF m 190 #[.val (.int p1), .val (.int p2), .val (.int p3), .val (.int p4), .val (.int p5), .val (.int p6), .val (.int (3 : Int32)), .val (.int c0), .val (.int c1), .val (.int c2), .val (.ref b130), .val (.ref b137), .val (.int (p6 &&& (3 : Int32))), .val (.int c1), .unset] [(.int (2 : Int32)), (.int (3 : Int32))])
          refine OwnGoW.st (fun _ kk => XS.icmpNo X138.here hx rfl (hb hby at_190) rfl (flt ((by decide) : ¬ ((3 : Int32) < (2 : Int32)))).1 kk) ?_
          show OwnGoW p e below s Z own_EL _ _ _ T138 (mkF m 193 #[.val (.int p1), .val (.int p2), .val (.int p3), .val (.int p4), .val (.int p5), .val (.int p6), .val (.int (3 : Int32)), .val (.int c0), .val (.int c1), .val (.int c2), .val (.ref b130), .val (.ref b137), .val (.int (p6 &&& (3 : Int32))), .val (.int c1), .unset] [])
          refine OwnGoW.st (fun _ kk => XS.iload X138.here hx rfl (hb hby at_193) rfl  kk) ?_
          show OwnGoW p e below s Z own_EL _ _ _ T138 (mkF m 195 #[.val (.int p1), .val (.int p2), .val (.int p3), .val (.int p4), .val (.int p5), .val (.int p6), .val (.int (3 : Int32)), .val (.int c0), .val (.int c1), .val (.int c2), .val (.ref b130), .val (.ref b137), .val (.int (p6 &&& (3 : Int32))), .val (.int c1), .unset] [(.int c1)])
          refine OwnGoW.st (fun _ kk => XS.iload X138.here hx rfl (hb hby at_195) rfl  kk) ?_
          show OwnGoW p e below s Z own_EL _ _ _ T138 (mkF m 197 #[.val (.int p1), .val (.int p2), .val (.int p3), .val (.int p4), .val (.int p5), .val (.int p6), .val (.int (3 : Int32)), .val (.int c0), .val (.int c1), .val (.int c2), .val (.ref b130), .val (.ref b137), .val (.int (p6 &&& (3 : Int32))), .val (.int c1), .unset] [(.int c1), (.int c1)])
          refine OwnGoW.st (fun _ kk => XS.icmpYes X138.here hx rfl (pc0 := 197) (pc' := 213) rfl (hb hby at_197) rfl (teq (rfl : c1 = c1)).1 (by decide) (by decide) kk) ?_
          show OwnGoW p e below s Z own_EL _ _ _ T138 (mkF m 213 #[.val (.int p1), .val (.int p2), .val (.int p3), .val (.int p4), .val (.int p5), .val (.int p6), .val (.int (3 : Int32)), .val (.int c0), .val (.int c1), .val (.int c2), .val (.ref b130), .val (.ref b137), .val (.int (p6 &&& (3 : Int32))), .val (.int c1), .unset] [])
          refine OwnGoW.st (fun _ kk => XS.iconst X138.here hx rfl (hb hby at_213) kk) ?_
          show OwnGoW p e below s Z own_EL _ _ _ T138 (mkF m 214 #[.val (.int p1), .val (.int p2), .val (.int p3), .val (.int p4), .val (.int p5), .val (.int p6), .val (.int (3 : Int32)), .val (.int c0), .val (.int c1), .val (.int c2), .val (.ref b130), .val (.ref b137), .val (.int (p6 &&& (3 : Int32))), .val (.int c1), .unset] [(.int (1 : Int32))])
          refine OwnGoW.st (fun _ kk => XS.goto X138.here hx rfl (pc0 := 214) (pc' := 218) rfl (hb hby at_214) (by decide) (by decide) kk) ?_
          show OwnGoW p e below s Z own_EL _ _ _ T138 (mkF m 218 #[.val (.int p1), .val (.int p2), .val (.int p3), .val (.int p4), .val (.int p5), .val (.int p6), .val (.int (3 : Int32)), .val (.int c0), .val (.int c1), .val (.int c2), .val (.ref b130), .val (.ref b137), .val (.int (p6 &&& (3 : Int32))), .val (.int c1), .unset] [(.int (1 : Int32))])
          refine OwnGoW.st (fun _ kk => XS.istore X138.here hx rfl (hb hby at_218) rfl (l' := #[.val (.int p1), .val (.int p2), .val (.int p3), .val (.int p4), .val (.int p5), .val (.int p6), .val (.int (3 : Int32)), .val (.int c0), .val (.int c1), .val (.int c2), .val (.ref b130), .val (.ref b137), .val (.int (p6 &&& (3 : Int32))), .val (.int c1), .val (.int (1 : Int32))]) rfl kk) ?_
          show OwnGoW p e below s Z own_EL _ _ _ T138 (mkF m 220 #[.val (.int p1), .val (.int p2), .val (.int p3), .val (.int p4), .val (.int p5), .val (.int p6), .val (.int (3 : Int32)), .val (.int c0), .val (.int c1), .val (.int c2), .val (.ref b130), .val (.ref b137), .val (.int (p6 &&& (3 : Int32))), .val (.int c1), .val (.int (1 : Int32))] [])
          refine OwnGoW.st (fun _ kk => XS.aload X138.here hx rfl (hb hby at_220) rfl rfl  kk) ?_
          show OwnGoW p e below s Z own_EL _ _ _ T138 (mkF m 222 #[.val (.int p1), .val (.int p2), .val (.int p3), .val (.int p4), .val (.int p5), .val (.int p6), .val (.int (3 : Int32)), .val (.int c0), .val (.int c1), .val (.int c2), .val (.ref b130), .val (.ref b137), .val (.int (p6 &&& (3 : Int32))), .val (.int c1), .val (.int (1 : Int32))] [(.ref b137)])
          refine OwnGoW.st (fun _ kk => XS.iload X138.here hx rfl (hb hby at_222) rfl  kk) ?_
          show OwnGoW p e below s Z own_EL _ _ _ T138 (mkF m 224 #[.val (.int p1), .val (.int p2), .val (.int p3), .val (.int p4), .val (.int p5), .val (.int p6), .val (.int (3 : Int32)), .val (.int c0), .val (.int c1), .val (.int c2), .val (.ref b130), .val (.ref b137), .val (.int (p6 &&& (3 : Int32))), .val (.int c1), .val (.int (1 : Int32))] [(.int c1), (.ref b137)])
          have hlt_ : c1 < (128 : Int32) := P_c1.2
          obtain ⟨cq141, kq141, q141a, q141b, q141c⟩ := isOf hZ rfl E_b137
          obtain ⟨_, _, ⟨T141, L141, k141, n141⟩, -, X141, ⟨Lc141, hQ141, l141, y141, z141⟩, st141⟩ := X138.virtualBack hx (y := (⟨"io/quintet/Alphabet", "contains", "(C)Z"⟩ : MethodName)) (z := (⟨"io/quintet/Alphabet", "contains", "(C)Z"⟩ : MethodName)) hown (mvT hZ (hw _ (List.mem_of_getElem? (i := 40) rfl))) (mvT hZ (hw _ (List.mem_of_getElem? (i := 41) rfl))) (notFace_of_selects (args := #[]) (mvT hZ (hw _ (List.mem_of_getElem? (i := 43) rfl)))) (mvT hZ (hw _ (List.mem_of_getElem? (i := 43) rfl))) (mvT hZ (hw _ (List.mem_of_getElem? (i := 42) rfl))) (by decide) (backOf (W := 0) (rmconY l Z a0 hw [] b137 b138 (own_tab [(c2, 2), (c1, 1), (c0, 0)]) c1 T138.heap n0 Z_ Fb138 G138 P_c1.1 hlt_ (own_tabY (c' := c1) (i := 1) (List.mem_of_getElem? (i := 1) rfl) rfl (own_tabI rfl (by decide : own_neg [2, 1, 0])))) hZ (hw _ (List.mem_of_getElem? (i := 44) rfl)) (hw _ (List.mem_of_getElem? (i := 10) rfl)) (by decide) (by decide)) q141a q141c (g := (mkF m 224 #[.val (.int p1), .val (.int p2), .val (.int p3), .val (.int p4), .val (.int p5), .val (.int p6), .val (.int (3 : Int32)), .val (.int c0), .val (.int c1), .val (.int c2), .val (.ref b130), .val (.ref b137), .val (.int (p6 &&& (3 : Int32))), .val (.int c1), .val (.int (1 : Int32))] [(.int c1), (.ref b137)])) rfl (by rw [hml]; rfl) (Steps.refl _) (argsL := [(.int c1)]) (rest := []) (lenOf pd_5 rfl) rfl (by show 2 * 0 + _ ≤ _; exact Nat.le_of_eq rfl) (hb hby at_224) (fun _ _ => ⟨rfl, rfl, (by decide : 5 + 0 ≤ _), (by decide : 141 + 0 ≤ _)⟩)
          dsimp only [Pt.U, Pt.locs, Pt.cells, Pt.slots] at X141 l141 y141 z141 st141 hQ141
          subst l141 y141 z141
          obtain ⟨rfl, N141q, e141⟩ := hQ141
          have N141 := Fr.app N138 N141q
          refine OwnGoW.st (fun _ kk => st141.trans kk) ?_
          show OwnGoW p e below s Z own_EL _ _ _ T141 (mkF m 227 #[.val (.int p1), .val (.int p2), .val (.int p3), .val (.int p4), .val (.int p5), .val (.int p6), .val (.int (3 : Int32)), .val (.int c0), .val (.int c1), .val (.int c2), .val (.ref b130), .val (.ref b137), .val (.int (p6 &&& (3 : Int32))), .val (.int c1), .val (.int (1 : Int32))] [(.int (1 : Int32))])
          refine OwnGoW.st (fun _ kk => XS.iload X141.here hx rfl (hb hby at_227) rfl  kk) ?_
          show OwnGoW p e below s Z own_EL _ _ _ T141 (mkF m 229 #[.val (.int p1), .val (.int p2), .val (.int p3), .val (.int p4), .val (.int p5), .val (.int p6), .val (.int (3 : Int32)), .val (.int c0), .val (.int c1), .val (.int c2), .val (.ref b130), .val (.ref b137), .val (.int (p6 &&& (3 : Int32))), .val (.int c1), .val (.int (1 : Int32))] [(.int (1 : Int32)), (.int (1 : Int32))])
          refine OwnGoW.st (fun _ kk => XS.icmpNo X141.here hx rfl (hb hby at_229) rfl (teq ((by decide) : (1 : Int32) = (1 : Int32))).2 kk) ?_
          show OwnGoW p e below s Z own_EL _ _ _ T141 (mkF m 232 #[.val (.int p1), .val (.int p2), .val (.int p3), .val (.int p4), .val (.int p5), .val (.int p6), .val (.int (3 : Int32)), .val (.int c0), .val (.int c1), .val (.int c2), .val (.ref b130), .val (.ref b137), .val (.int (p6 &&& (3 : Int32))), .val (.int c1), .val (.int (1 : Int32))] [])
          refine OwnGoW.st (fun _ kk => XS.iconst X141.here hx rfl (hb hby at_232) kk) ?_
          show OwnGoW p e below s Z own_EL _ _ _ T141 (mkF m 233 #[.val (.int p1), .val (.int p2), .val (.int p3), .val (.int p4), .val (.int p5), .val (.int p6), .val (.int (3 : Int32)), .val (.int c0), .val (.int c1), .val (.int c2), .val (.ref b130), .val (.ref b137), .val (.int (p6 &&& (3 : Int32))), .val (.int c1), .val (.int (1 : Int32))] [(.int (1 : Int32))])
          refine OwnGoW.st (fun _ kk => XS.goto X141.here hx rfl (pc0 := 233) (pc' := 237) rfl (hb hby at_233) (by decide) (by decide) kk) ?_
          show OwnGoW p e below s Z own_EL _ _ _ T141 (mkF m 237 #[.val (.int p1), .val (.int p2), .val (.int p3), .val (.int p4), .val (.int p5), .val (.int p6), .val (.int (3 : Int32)), .val (.int c0), .val (.int c1), .val (.int c2), .val (.ref b130), .val (.ref b137), .val (.int (p6 &&& (3 : Int32))), .val (.int c1), .val (.int (1 : Int32))] [(.int (1 : Int32))])
          exact OwnGoW.retN (s := s) (vm0 := s.vm) X141 hS_ hk_ e141 hZ (own_hEL hw) CR hx (t := .boolean) hret hlk (by simp) (hb hby at_237) (by show Q0 Z p1 p2 p3 p4 p5 p6 zc fmv h0 n0 _ T141.heap _; rw [e141]; exact ⟨rfl, N141⟩) (by decide) (by decide)
      · refine OwnGoW.st (fun _ kk => XS.icmpYes X138.here hx rfl (pc0 := 146) (pc' := 156) rfl (hb hby at_146) rfl (feq (hm2 : ¬ ((p6 &&& (3 : Int32)) = (2 : Int32)))).2 (by decide) (by decide) kk) ?_
        show OwnGoW p e below s Z own_EL _ _ _ T138 (mkF m 156 #[.val (.int p1), .val (.int p2), .val (.int p3), .val (.int p4), .val (.int p5), .val (.int p6), .val (.int (3 : Int32)), .val (.int c0), .val (.int c1), .val (.int c2), .val (.ref b130), .val (.ref b137), .val (.int (p6 &&& (3 : Int32))), .unset, .unset] [])
        refine OwnGoW.st (fun _ kk => XS.iload X138.here hx rfl (hb hby at_156) rfl  kk) ?_
        show OwnGoW p e below s Z own_EL _ _ _ T138 (mkF m 158 #[.val (.int p1), .val (.int p2), .val (.int p3), .val (.int p4), .val (.int p5), .val (.int p6), .val (.int (3 : Int32)), .val (.int c0), .val (.int c1), .val (.int c2), .val (.ref b130), .val (.ref b137), .val (.int (p6 &&& (3 : Int32))), .unset, .unset] [(.int (p6 &&& (3 : Int32)))])
        refine OwnGoW.st (fun _ kk => XS.iconst X138.here hx rfl (hb hby at_158) kk) ?_
        show OwnGoW p e below s Z own_EL _ _ _ T138 (mkF m 159 #[.val (.int p1), .val (.int p2), .val (.int p3), .val (.int p4), .val (.int p5), .val (.int p6), .val (.int (3 : Int32)), .val (.int c0), .val (.int c1), .val (.int c2), .val (.ref b130), .val (.ref b137), .val (.int (p6 &&& (3 : Int32))), .unset, .unset] [(.int (3 : Int32)), (.int (p6 &&& (3 : Int32)))])
        by_cases hm3 : (p6 &&& (3 : Int32)) = (3 : Int32)
        · refine OwnGoW.st (fun _ kk => XS.icmpNo X138.here hx rfl (hb hby at_159) rfl (teq (hm3 : (p6 &&& (3 : Int32)) = (3 : Int32))).2 kk) ?_
          show OwnGoW p e below s Z own_EL _ _ _ T138 (mkF m 162 #[.val (.int p1), .val (.int p2), .val (.int p3), .val (.int p4), .val (.int p5), .val (.int p6), .val (.int (3 : Int32)), .val (.int c0), .val (.int c1), .val (.int c2), .val (.ref b130), .val (.ref b137), .val (.int (p6 &&& (3 : Int32))), .unset, .unset] [])
          refine OwnGoW.st (fun _ kk => XS.iload X138.here hx rfl (hb hby at_162) rfl  kk) ?_
          show OwnGoW p e below s Z own_EL _ _ _ T138 (mkF m 164 #[.val (.int p1), .val (.int p2), .val (.int p3), .val (.int p4), .val (.int p5), .val (.int p6), .val (.int (3 : Int32)), .val (.int c0), .val (.int c1), .val (.int c2), .val (.ref b130), .val (.ref b137), .val (.int (p6 &&& (3 : Int32))), .unset, .unset] [(.int c2)])
          refine OwnGoW.st (fun _ kk => XS.istore X138.here hx rfl (hb hby at_164) rfl (l' := #[.val (.int p1), .val (.int p2), .val (.int p3), .val (.int p4), .val (.int p5), .val (.int p6), .val (.int (3 : Int32)), .val (.int c0), .val (.int c1), .val (.int c2), .val (.ref b130), .val (.ref b137), .val (.int (p6 &&& (3 : Int32))), .val (.int c2), .unset]) rfl kk) ?_
          show OwnGoW p e below s Z own_EL _ _ _ T138 (mkF m 166 #[.val (.int p1), .val (.int p2), .val (.int p3), .val (.int p4), .val (.int p5), .val (.int p6), .val (.int (3 : Int32)), .val (.int c0), .val (.int c1), .val (.int c2), .val (.ref b130), .val (.ref b137), .val (.int (p6 &&& (3 : Int32))), .val (.int c2), .unset] [])
          refine OwnGoW.st (fun _ kk => XS.goto X138.here hx rfl (pc0 := 166) (pc' := 174) rfl (hb hby at_166) (by decide) (by decide) kk) ?_
          show OwnGoW p e below s Z own_EL _ _ _ T138 (mkF m 174 #[.val (.int p1), .val (.int p2), .val (.int p3), .val (.int p4), .val (.int p5), .val (.int p6), .val (.int (3 : Int32)), .val (.int c0), .val (.int c1), .val (.int c2), .val (.ref b130), .val (.ref b137), .val (.int (p6 &&& (3 : Int32))), .val (.int c2), .unset] [])
          refine OwnGoW.st (fun _ kk => XS.iload X138.here hx rfl (hb hby at_174) rfl  kk) ?_
          show OwnGoW p e below s Z own_EL _ _ _ T138 (mkF m 176 #[.val (.int p1), .val (.int p2), .val (.int p3), .val (.int p4), .val (.int p5), .val (.int p6), .val (.int (3 : Int32)), .val (.int c0), .val (.int c1), .val (.int c2), .val (.ref b130), .val (.ref b137), .val (.int (p6 &&& (3 : Int32))), .val (.int c2), .unset] [(.int (3 : Int32))])
          refine OwnGoW.st (fun _ kk => XS.iconst X138.here hx rfl (hb hby at_176) kk) ?_
          show OwnGoW p e below s Z own_EL _ _ _ T138 (mkF m 177 #[.val (.int p1), .val (.int p2), .val (.int p3), .val (.int p4), .val (.int p5), .val (.int p6), .val (.int (3 : Int32)), .val (.int c0), .val (.int c1), .val (.int c2), .val (.ref b130), .val (.ref b137), .val (.int (p6 &&& (3 : Int32))), .val (.int c2), .unset] [(.int (1 : Int32)), (.int (3 : Int32))])
          refine OwnGoW.st (fun _ kk => XS.icmpNo X138.here hx rfl (hb hby at_177) rfl (flt ((by decide) : ¬ ((3 : Int32) < (1 : Int32)))).1 kk) ?_
          show OwnGoW p e below s Z own_EL _ _ _ T138 (mkF m 180 #[.val (.int p1), .val (.int p2), .val (.int p3), .val (.int p4), .val (.int p5), .val (.int p6), .val (.int (3 : Int32)), .val (.int c0), .val (.int c1), .val (.int c2), .val (.ref b130), .val (.ref b137), .val (.int (p6 &&& (3 : Int32))), .val (.int c2), .unset] [])
          refine OwnGoW.st (fun _ kk => XS.iload X138.here hx rfl (hb hby at_180) rfl  kk) ?_
          show OwnGoW p e below s Z own_EL _ _ _ T138 (mkF m 182 #[.val (.int p1), .val (.int p2), .val (.int p3), .val (.int p4), .val (.int p5), .val (.int p6), .val (.int (3 : Int32)), .val (.int c0), .val (.int c1), .val (.int c2), .val (.ref b130), .val (.ref b137), .val (.int (p6 &&& (3 : Int32))), .val (.int c2), .unset] [(.int c2)])
          refine OwnGoW.st (fun _ kk => XS.iload X138.here hx rfl (hb hby at_182) rfl  kk) ?_
          show OwnGoW p e below s Z own_EL _ _ _ T138 (mkF m 184 #[.val (.int p1), .val (.int p2), .val (.int p3), .val (.int p4), .val (.int p5), .val (.int p6), .val (.int (3 : Int32)), .val (.int c0), .val (.int c1), .val (.int c2), .val (.ref b130), .val (.ref b137), .val (.int (p6 &&& (3 : Int32))), .val (.int c2), .unset] [(.int c0), (.int c2)])
          by_cases he_c2_c0 : c2 = c0
          · refine OwnGoW.st (fun _ kk => XS.icmpYes X138.here hx rfl (pc0 := 184) (pc' := 213) rfl (hb hby at_184) rfl (teq (he_c2_c0 : c2 = c0)).1 (by decide) (by decide) kk) ?_
            show OwnGoW p e below s Z own_EL _ _ _ T138 (mkF m 213 #[.val (.int p1), .val (.int p2), .val (.int p3), .val (.int p4), .val (.int p5), .val (.int p6), .val (.int (3 : Int32)), .val (.int c0), .val (.int c1), .val (.int c2), .val (.ref b130), .val (.ref b137), .val (.int (p6 &&& (3 : Int32))), .val (.int c2), .unset] [])
            refine OwnGoW.st (fun _ kk => XS.iconst X138.here hx rfl (hb hby at_213) kk) ?_
            show OwnGoW p e below s Z own_EL _ _ _ T138 (mkF m 214 #[.val (.int p1), .val (.int p2), .val (.int p3), .val (.int p4), .val (.int p5), .val (.int p6), .val (.int (3 : Int32)), .val (.int c0), .val (.int c1), .val (.int c2), .val (.ref b130), .val (.ref b137), .val (.int (p6 &&& (3 : Int32))), .val (.int c2), .unset] [(.int (1 : Int32))])
            refine OwnGoW.st (fun _ kk => XS.goto X138.here hx rfl (pc0 := 214) (pc' := 218) rfl (hb hby at_214) (by decide) (by decide) kk) ?_
            show OwnGoW p e below s Z own_EL _ _ _ T138 (mkF m 218 #[.val (.int p1), .val (.int p2), .val (.int p3), .val (.int p4), .val (.int p5), .val (.int p6), .val (.int (3 : Int32)), .val (.int c0), .val (.int c1), .val (.int c2), .val (.ref b130), .val (.ref b137), .val (.int (p6 &&& (3 : Int32))), .val (.int c2), .unset] [(.int (1 : Int32))])
            refine OwnGoW.st (fun _ kk => XS.istore X138.here hx rfl (hb hby at_218) rfl (l' := #[.val (.int p1), .val (.int p2), .val (.int p3), .val (.int p4), .val (.int p5), .val (.int p6), .val (.int (3 : Int32)), .val (.int c0), .val (.int c1), .val (.int c2), .val (.ref b130), .val (.ref b137), .val (.int (p6 &&& (3 : Int32))), .val (.int c2), .val (.int (1 : Int32))]) rfl kk) ?_
            show OwnGoW p e below s Z own_EL _ _ _ T138 (mkF m 220 #[.val (.int p1), .val (.int p2), .val (.int p3), .val (.int p4), .val (.int p5), .val (.int p6), .val (.int (3 : Int32)), .val (.int c0), .val (.int c1), .val (.int c2), .val (.ref b130), .val (.ref b137), .val (.int (p6 &&& (3 : Int32))), .val (.int c2), .val (.int (1 : Int32))] [])
            refine OwnGoW.st (fun _ kk => XS.aload X138.here hx rfl (hb hby at_220) rfl rfl  kk) ?_
            show OwnGoW p e below s Z own_EL _ _ _ T138 (mkF m 222 #[.val (.int p1), .val (.int p2), .val (.int p3), .val (.int p4), .val (.int p5), .val (.int p6), .val (.int (3 : Int32)), .val (.int c0), .val (.int c1), .val (.int c2), .val (.ref b130), .val (.ref b137), .val (.int (p6 &&& (3 : Int32))), .val (.int c2), .val (.int (1 : Int32))] [(.ref b137)])
            refine OwnGoW.st (fun _ kk => XS.iload X138.here hx rfl (hb hby at_222) rfl  kk) ?_
            show OwnGoW p e below s Z own_EL _ _ _ T138 (mkF m 224 #[.val (.int p1), .val (.int p2), .val (.int p3), .val (.int p4), .val (.int p5), .val (.int p6), .val (.int (3 : Int32)), .val (.int c0), .val (.int c1), .val (.int c2), .val (.ref b130), .val (.ref b137), .val (.int (p6 &&& (3 : Int32))), .val (.int c2), .val (.int (1 : Int32))] [(.int c2), (.ref b137)])
            have hlt_ : c2 < (128 : Int32) := he_c2_c0 ▸ P_c0.2
            obtain ⟨cq142, kq142, q142a, q142b, q142c⟩ := isOf hZ rfl E_b137
            obtain ⟨_, _, ⟨T142, L142, k142, n142⟩, -, X142, ⟨Lc142, hQ142, l142, y142, z142⟩, st142⟩ := X138.virtualBack hx (y := (⟨"io/quintet/Alphabet", "contains", "(C)Z"⟩ : MethodName)) (z := (⟨"io/quintet/Alphabet", "contains", "(C)Z"⟩ : MethodName)) hown (mvT hZ (hw _ (List.mem_of_getElem? (i := 40) rfl))) (mvT hZ (hw _ (List.mem_of_getElem? (i := 41) rfl))) (notFace_of_selects (args := #[]) (mvT hZ (hw _ (List.mem_of_getElem? (i := 43) rfl)))) (mvT hZ (hw _ (List.mem_of_getElem? (i := 43) rfl))) (mvT hZ (hw _ (List.mem_of_getElem? (i := 42) rfl))) (by decide) (backOf (W := 0) (rmconY l Z a0 hw [] b137 b138 (own_tab [(c2, 2), (c1, 1), (c0, 0)]) c2 T138.heap n0 Z_ Fb138 G138 P_c2.1 hlt_ (own_tabY (c' := c0) (i := 0) (List.mem_of_getElem? (i := 2) rfl) he_c2_c0 (own_tabI rfl (by decide : own_neg [2, 1, 0])))) hZ (hw _ (List.mem_of_getElem? (i := 44) rfl)) (hw _ (List.mem_of_getElem? (i := 10) rfl)) (by decide) (by decide)) q142a q142c (g := (mkF m 224 #[.val (.int p1), .val (.int p2), .val (.int p3), .val (.int p4), .val (.int p5), .val (.int p6), .val (.int (3 : Int32)), .val (.int c0), .val (.int c1), .val (.int c2), .val (.ref b130), .val (.ref b137), .val (.int (p6 &&& (3 : Int32))), .val (.int c2), .val (.int (1 : Int32))] [(.int c2), (.ref b137)])) rfl (by rw [hml]; rfl) (Steps.refl _) (argsL := [(.int c2)]) (rest := []) (lenOf pd_5 rfl) rfl (by show 2 * 0 + _ ≤ _; exact Nat.le_of_eq rfl) (hb hby at_224) (fun _ _ => ⟨rfl, rfl, (by decide : 5 + 0 ≤ _), (by decide : 141 + 0 ≤ _)⟩)
            dsimp only [Pt.U, Pt.locs, Pt.cells, Pt.slots] at X142 l142 y142 z142 st142 hQ142
            subst l142 y142 z142
            obtain ⟨rfl, N142q, e142⟩ := hQ142
            have N142 := Fr.app N138 N142q
            refine OwnGoW.st (fun _ kk => st142.trans kk) ?_
            show OwnGoW p e below s Z own_EL _ _ _ T142 (mkF m 227 #[.val (.int p1), .val (.int p2), .val (.int p3), .val (.int p4), .val (.int p5), .val (.int p6), .val (.int (3 : Int32)), .val (.int c0), .val (.int c1), .val (.int c2), .val (.ref b130), .val (.ref b137), .val (.int (p6 &&& (3 : Int32))), .val (.int c2), .val (.int (1 : Int32))] [(.int (1 : Int32))])
            refine OwnGoW.st (fun _ kk => XS.iload X142.here hx rfl (hb hby at_227) rfl  kk) ?_
            show OwnGoW p e below s Z own_EL _ _ _ T142 (mkF m 229 #[.val (.int p1), .val (.int p2), .val (.int p3), .val (.int p4), .val (.int p5), .val (.int p6), .val (.int (3 : Int32)), .val (.int c0), .val (.int c1), .val (.int c2), .val (.ref b130), .val (.ref b137), .val (.int (p6 &&& (3 : Int32))), .val (.int c2), .val (.int (1 : Int32))] [(.int (1 : Int32)), (.int (1 : Int32))])
            refine OwnGoW.st (fun _ kk => XS.icmpNo X142.here hx rfl (hb hby at_229) rfl (teq ((by decide) : (1 : Int32) = (1 : Int32))).2 kk) ?_
            show OwnGoW p e below s Z own_EL _ _ _ T142 (mkF m 232 #[.val (.int p1), .val (.int p2), .val (.int p3), .val (.int p4), .val (.int p5), .val (.int p6), .val (.int (3 : Int32)), .val (.int c0), .val (.int c1), .val (.int c2), .val (.ref b130), .val (.ref b137), .val (.int (p6 &&& (3 : Int32))), .val (.int c2), .val (.int (1 : Int32))] [])
            refine OwnGoW.st (fun _ kk => XS.iconst X142.here hx rfl (hb hby at_232) kk) ?_
            show OwnGoW p e below s Z own_EL _ _ _ T142 (mkF m 233 #[.val (.int p1), .val (.int p2), .val (.int p3), .val (.int p4), .val (.int p5), .val (.int p6), .val (.int (3 : Int32)), .val (.int c0), .val (.int c1), .val (.int c2), .val (.ref b130), .val (.ref b137), .val (.int (p6 &&& (3 : Int32))), .val (.int c2), .val (.int (1 : Int32))] [(.int (1 : Int32))])
            refine OwnGoW.st (fun _ kk => XS.goto X142.here hx rfl (pc0 := 233) (pc' := 237) rfl (hb hby at_233) (by decide) (by decide) kk) ?_
            show OwnGoW p e below s Z own_EL _ _ _ T142 (mkF m 237 #[.val (.int p1), .val (.int p2), .val (.int p3), .val (.int p4), .val (.int p5), .val (.int p6), .val (.int (3 : Int32)), .val (.int c0), .val (.int c1), .val (.int c2), .val (.ref b130), .val (.ref b137), .val (.int (p6 &&& (3 : Int32))), .val (.int c2), .val (.int (1 : Int32))] [(.int (1 : Int32))])
            exact OwnGoW.retN (s := s) (vm0 := s.vm) X142 hS_ hk_ e142 hZ (own_hEL hw) CR hx (t := .boolean) hret hlk (by simp) (hb hby at_237) (by show Q0 Z p1 p2 p3 p4 p5 p6 zc fmv h0 n0 _ T142.heap _; rw [e142]; exact ⟨rfl, N142⟩) (by decide) (by decide)
          · refine OwnGoW.st (fun _ kk => XS.icmpNo X138.here hx rfl (hb hby at_184) rfl (feq (he_c2_c0 : ¬ (c2 = c0))).1 kk) ?_
            show OwnGoW p e below s Z own_EL _ _ _ T138 (mkF m 187 #[.val (.int p1), .val (.int p2), .val (.int p3), .val (.int p4), .val (.int p5), .val (.int p6), .val (.int (3 : Int32)), .val (.int c0), .val (.int c1), .val (.int c2), .val (.ref b130), .val (.ref b137), .val (.int (p6 &&& (3 : Int32))), .val (.int c2), .unset] [])
            refine OwnGoW.st (fun _ kk => XS.iload X138.here hx rfl (hb hby at_187) rfl  kk) ?_
            show OwnGoW p e below s Z own_EL _ _ _ T138 (mkF m 189 #[.val (.int p1), .val (.int p2), .val (.int p3), .val (.int p4), .val (.int p5), .val (.int p6), .val (.int (3 : Int32)), .val (.int c0), .val (.int c1), .val (.int c2), .val (.ref b130), .val (.ref b137), .val (.int (p6 &&& (3 : Int32))), .val (.int c2), .unset] [(.int (3 : Int32))])
            refine OwnGoW.st (fun _ kk => XS.iconst X138.here hx rfl (hb hby at_189) kk) ?_
            show OwnGoW p e below s Z own_EL _ _ _ T138 (mkF m 190 #[.val (.int p1), .val (.int p2), .val (.int p3), .val (.int p4), .val (.int p5), .val (.int p6), .val (.int (3 : Int32)), .val (.int c0), .val (.int c1), .val (.int c2), .val (.ref b130), .val (.ref b137), .val (.int (p6 &&& (3 : Int32))), .val (.int c2), .unset] [(.int (2 : Int32)), (.int (3 : Int32))])
            refine OwnGoW.st (fun _ kk => XS.icmpNo X138.here hx rfl (hb hby at_190) rfl (flt ((by decide) : ¬ ((3 : Int32) < (2 : Int32)))).1 kk) ?_
            show OwnGoW p e below s Z own_EL _ _ _ T138 (mkF m 193 #[.val (.int p1), .val (.int p2), .val (.int p3), .val (.int p4), .val (.int p5), .val (.int p6), .val (.int (3 : Int32)), .val (.int c0), .val (.int c1), .val (.int c2), .val (.ref b130), .val (.ref b137), .val (.int (p6 &&& (3 : Int32))), .val (.int c2), .unset] [])
            refine OwnGoW.st (fun _ kk => XS.iload X138.here hx rfl (hb hby at_193) rfl  kk) ?_
            show OwnGoW p e below s Z own_EL _ _ _ T138 (mkF m 195 #[.val (.int p1), .val (.int p2), .val (.int p3), .val (.int p4), .val (.int p5), .val (.int p6), .val (.int (3 : Int32)), .val (.int c0), .val (.int c1), .val (.int c2), .val (.ref b130), .val (.ref b137), .val (.int (p6 &&& (3 : Int32))), .val (.int c2), .unset] [(.int c2)])
            refine OwnGoW.st (fun _ kk => XS.iload X138.here hx rfl (hb hby at_195) rfl  kk) ?_
            show OwnGoW p e below s Z own_EL _ _ _ T138 (mkF m 197 #[.val (.int p1), .val (.int p2), .val (.int p3), .val (.int p4), .val (.int p5), .val (.int p6), .val (.int (3 : Int32)), .val (.int c0), .val (.int c1), .val (.int c2), .val (.ref b130), .val (.ref b137), .val (.int (p6 &&& (3 : Int32))), .val (.int c2), .unset] [(.int c1), (.int c2)])
            by_cases he_c2_c1 : c2 = c1
            · refine OwnGoW.st (fun _ kk => XS.icmpYes X138.here hx rfl (pc0 := 197) (pc' := 213) rfl (hb hby at_197) rfl (teq (he_c2_c1 : c2 = c1)).1 (by decide) (by decide) kk) ?_
              show OwnGoW p e below s Z own_EL _ _ _ T138 (mkF m 213 #[.val (.int p1), .val (.int p2), .val (.int p3), .val (.int p4), .val (.int p5), .val (.int p6), .val (.int (3 : Int32)), .val (.int c0), .val (.int c1), .val (.int c2), .val (.ref b130), .val (.ref b137), .val (.int (p6 &&& (3 : Int32))), .val (.int c2), .unset] [])
              refine OwnGoW.st (fun _ kk => XS.iconst X138.here hx rfl (hb hby at_213) kk) ?_
              show OwnGoW p e below s Z own_EL _ _ _ T138 (mkF m 214 #[.val (.int p1), .val (.int p2), .val (.int p3), .val (.int p4), .val (.int p5), .val (.int p6), .val (.int (3 : Int32)), .val (.int c0), .val (.int c1), .val (.int c2), .val (.ref b130), .val (.ref b137), .val (.int (p6 &&& (3 : Int32))), .val (.int c2), .unset] [(.int (1 : Int32))])
              refine OwnGoW.st (fun _ kk => XS.goto X138.here hx rfl (pc0 := 214) (pc' := 218) rfl (hb hby at_214) (by decide) (by decide) kk) ?_
              show OwnGoW p e below s Z own_EL _ _ _ T138 (mkF m 218 #[.val (.int p1), .val (.int p2), .val (.int p3), .val (.int p4), .val (.int p5), .val (.int p6), .val (.int (3 : Int32)), .val (.int c0), .val (.int c1), .val (.int c2), .val (.ref b130), .val (.ref b137), .val (.int (p6 &&& (3 : Int32))), .val (.int c2), .unset] [(.int (1 : Int32))])
              refine OwnGoW.st (fun _ kk => XS.istore X138.here hx rfl (hb hby at_218) rfl (l' := #[.val (.int p1), .val (.int p2), .val (.int p3), .val (.int p4), .val (.int p5), .val (.int p6), .val (.int (3 : Int32)), .val (.int c0), .val (.int c1), .val (.int c2), .val (.ref b130), .val (.ref b137), .val (.int (p6 &&& (3 : Int32))), .val (.int c2), .val (.int (1 : Int32))]) rfl kk) ?_
              show OwnGoW p e below s Z own_EL _ _ _ T138 (mkF m 220 #[.val (.int p1), .val (.int p2), .val (.int p3), .val (.int p4), .val (.int p5), .val (.int p6), .val (.int (3 : Int32)), .val (.int c0), .val (.int c1), .val (.int c2), .val (.ref b130), .val (.ref b137), .val (.int (p6 &&& (3 : Int32))), .val (.int c2), .val (.int (1 : Int32))] [])
              refine OwnGoW.st (fun _ kk => XS.aload X138.here hx rfl (hb hby at_220) rfl rfl  kk) ?_
              show OwnGoW p e below s Z own_EL _ _ _ T138 (mkF m 222 #[.val (.int p1), .val (.int p2), .val (.int p3), .val (.int p4), .val (.int p5), .val (.int p6), .val (.int (3 : Int32)), .val (.int c0), .val (.int c1), .val (.int c2), .val (.ref b130), .val (.ref b137), .val (.int (p6 &&& (3 : Int32))), .val (.int c2), .val (.int (1 : Int32))] [(.ref b137)])
              refine OwnGoW.st (fun _ kk => XS.iload X138.here hx rfl (hb hby at_222) rfl  kk) ?_
              show OwnGoW p e below s Z own_EL _ _ _ T138 (mkF m 224 #[.val (.int p1), .val (.int p2), .val (.int p3), .val (.int p4), .val (.int p5), .val (.int p6), .val (.int (3 : Int32)), .val (.int c0), .val (.int c1), .val (.int c2), .val (.ref b130), .val (.ref b137), .val (.int (p6 &&& (3 : Int32))), .val (.int c2), .val (.int (1 : Int32))] [(.int c2), (.ref b137)])
              have hlt_ : c2 < (128 : Int32) := he_c2_c1 ▸ P_c1.2
              obtain ⟨cq143, kq143, q143a, q143b, q143c⟩ := isOf hZ rfl E_b137
              obtain ⟨_, _, ⟨T143, L143, k143, n143⟩, -, X143, ⟨Lc143, hQ143, l143, y143, z143⟩, st143⟩ := X138.virtualBack hx (y := (⟨"io/quintet/Alphabet", "contains", "(C)Z"⟩ : MethodName)) (z := (⟨"io/quintet/Alphabet", "contains", "(C)Z"⟩ : MethodName)) hown (mvT hZ (hw _ (List.mem_of_getElem? (i := 40) rfl))) (mvT hZ (hw _ (List.mem_of_getElem? (i := 41) rfl))) (notFace_of_selects (args := #[]) (mvT hZ (hw _ (List.mem_of_getElem? (i := 43) rfl)))) (mvT hZ (hw _ (List.mem_of_getElem? (i := 43) rfl))) (mvT hZ (hw _ (List.mem_of_getElem? (i := 42) rfl))) (by decide) (backOf (W := 0) (rmconY l Z a0 hw [] b137 b138 (own_tab [(c2, 2), (c1, 1), (c0, 0)]) c2 T138.heap n0 Z_ Fb138 G138 P_c2.1 hlt_ (own_tabY (c' := c1) (i := 1) (List.mem_of_getElem? (i := 1) rfl) he_c2_c1 (own_tabI rfl (by decide : own_neg [2, 1, 0])))) hZ (hw _ (List.mem_of_getElem? (i := 44) rfl)) (hw _ (List.mem_of_getElem? (i := 10) rfl)) (by decide) (by decide)) q143a q143c (g := (mkF m 224 #[.val (.int p1), .val (.int p2), .val (.int p3), .val (.int p4), .val (.int p5), .val (.int p6), .val (.int (3 : Int32)), .val (.int c0), .val (.int c1), .val (.int c2), .val (.ref b130), .val (.ref b137), .val (.int (p6 &&& (3 : Int32))), .val (.int c2), .val (.int (1 : Int32))] [(.int c2), (.ref b137)])) rfl (by rw [hml]; rfl) (Steps.refl _) (argsL := [(.int c2)]) (rest := []) (lenOf pd_5 rfl) rfl (by show 2 * 0 + _ ≤ _; exact Nat.le_of_eq rfl) (hb hby at_224) (fun _ _ => ⟨rfl, rfl, (by decide : 5 + 0 ≤ _), (by decide : 141 + 0 ≤ _)⟩)
              dsimp only [Pt.U, Pt.locs, Pt.cells, Pt.slots] at X143 l143 y143 z143 st143 hQ143
              subst l143 y143 z143
              obtain ⟨rfl, N143q, e143⟩ := hQ143
              have N143 := Fr.app N138 N143q
              refine OwnGoW.st (fun _ kk => st143.trans kk) ?_
              show OwnGoW p e below s Z own_EL _ _ _ T143 (mkF m 227 #[.val (.int p1), .val (.int p2), .val (.int p3), .val (.int p4), .val (.int p5), .val (.int p6), .val (.int (3 : Int32)), .val (.int c0), .val (.int c1), .val (.int c2), .val (.ref b130), .val (.ref b137), .val (.int (p6 &&& (3 : Int32))), .val (.int c2), .val (.int (1 : Int32))] [(.int (1 : Int32))])
              refine OwnGoW.st (fun _ kk => XS.iload X143.here hx rfl (hb hby at_227) rfl  kk) ?_
              show OwnGoW p e below s Z own_EL _ _ _ T143 (mkF m 229 #[.val (.int p1), .val (.int p2), .val (.int p3), .val (.int p4), .val (.int p5), .val (.int p6), .val (.int (3 : Int32)), .val (.int c0), .val (.int c1), .val (.int c2), .val (.ref b130), .val (.ref b137), .val (.int (p6 &&& (3 : Int32))), .val (.int c2), .val (.int (1 : Int32))] [(.int (1 : Int32)), (.int (1 : Int32))])
              refine OwnGoW.st (fun _ kk => XS.icmpNo X143.here hx rfl (hb hby at_229) rfl (teq ((by decide) : (1 : Int32) = (1 : Int32))).2 kk) ?_
              show OwnGoW p e below s Z own_EL _ _ _ T143 (mkF m 232 #[.val (.int p1), .val (.int p2), .val (.int p3), .val (.int p4), .val (.int p5), .val (.int p6), .val (.int (3 : Int32)), .val (.int c0), .val (.int c1), .val (.int c2), .val (.ref b130), .val (.ref b137), .val (.int (p6 &&& (3 : Int32))), .val (.int c2), .val (.int (1 : Int32))] [])
              refine OwnGoW.st (fun _ kk => XS.iconst X143.here hx rfl (hb hby at_232) kk) ?_
              show OwnGoW p e below s Z own_EL _ _ _ T143 (mkF m 233 #[.val (.int p1), .val (.int p2), .val (.int p3), .val (.int p4), .val (.int p5), .val (.int p6), .val (.int (3 : Int32)), .val (.int c0), .val (.int c1), .val (.int c2), .val (.ref b130), .val (.ref b137), .val (.int (p6 &&& (3 : Int32))), .val (.int c2), .val (.int (1 : Int32))] [(.int (1 : Int32))])
              refine OwnGoW.st (fun _ kk => XS.goto X143.here hx rfl (pc0 := 233) (pc' := 237) rfl (hb hby at_233) (by decide) (by decide) kk) ?_
              show OwnGoW p e below s Z own_EL _ _ _ T143 (mkF m 237 #[.val (.int p1), .val (.int p2), .val (.int p3), .val (.int p4), .val (.int p5), .val (.int p6), .val (.int (3 : Int32)), .val (.int c0), .val (.int c1), .val (.int c2), .val (.ref b130), .val (.ref b137), .val (.int (p6 &&& (3 : Int32))), .val (.int c2), .val (.int (1 : Int32))] [(.int (1 : Int32))])
              exact OwnGoW.retN (s := s) (vm0 := s.vm) X143 hS_ hk_ e143 hZ (own_hEL hw) CR hx (t := .boolean) hret hlk (by simp) (hb hby at_237) (by show Q0 Z p1 p2 p3 p4 p5 p6 zc fmv h0 n0 _ T143.heap _; rw [e143]; exact ⟨rfl, N143⟩) (by decide) (by decide)
            · refine OwnGoW.st (fun _ kk => XS.icmpNo X138.here hx rfl (hb hby at_197) rfl (feq (he_c2_c1 : ¬ (c2 = c1))).1 kk) ?_
              show OwnGoW p e below s Z own_EL _ _ _ T138 (mkF m 200 #[.val (.int p1), .val (.int p2), .val (.int p3), .val (.int p4), .val (.int p5), .val (.int p6), .val (.int (3 : Int32)), .val (.int c0), .val (.int c1), .val (.int c2), .val (.ref b130), .val (.ref b137), .val (.int (p6 &&& (3 : Int32))), .val (.int c2), .unset] [])
              refine OwnGoW.st (fun _ kk => XS.iload X138.here hx rfl (hb hby at_200) rfl  kk) ?_
              show OwnGoW p e below s Z own_EL _ _ _ T138 (mkF m 202 #[.val (.int p1), .val (.int p2), .val (.int p3), .val (.int p4), .val (.int p5), .val (.int p6), .val (.int (3 : Int32)), .val (.int c0), .val (.int c1), .val (.int c2), .val (.ref b130), .val (.ref b137), .val (.int (p6 &&& (3 : Int32))), .val (.int c2), .unset] [(.int (3 : Int32))])
              refine OwnGoW.st (fun _ kk => XS.iconst X138.here hx rfl (hb hby at_202) kk) ?_
              show OwnGoW p e below s Z own_EL _ _ _ T138 (mkF m 203 #[.val (.int p1), .val (.int p2), .val (.int p3), .val (.int p4), .val (.int p5), .val (.int p6), .val (.int (3 : Int32)), .val (.int c0), .val (.int c1), .val (.int c2), .val (.ref b130), .val (.ref b137), .val (.int (p6 &&& (3 : Int32))), .val (.int c2), .unset] [(.int (3 : Int32)), (.int (3 : Int32))])
              refine OwnGoW.st (fun _ kk => XS.icmpNo X138.here hx rfl (hb hby at_203) rfl (flt ((by decide) : ¬ ((3 : Int32) < (3 : Int32)))).1 kk) ?_
              show OwnGoW p e below s Z own_EL _ _ _ T138 (mkF m 206 #[.val (.int p1), .val (.int p2), .val (.int p3), .val (.int p4), .val (.int p5), .val (.int p6), .val (.int (3 : Int32)), .val (.int c0), .val (.int c1), .val (.int c2), .val (.ref b130), .val (.ref b137), .val (.int (p6 &&& (3 : Int32))), .val (.int c2), .unset] [])
              refine OwnGoW.st (fun _ kk => XS.iload X138.here hx rfl (hb hby at_206) rfl  kk) ?_
              show OwnGoW p e below s Z own_EL _ _ _ T138 (mkF m 208 #[.val (.int p1), .val (.int p2), .val (.int p3), .val (.int p4), .val (.int p5), .val (.int p6), .val (.int (3 : Int32)), .val (.int c0), .val (.int c1), .val (.int c2), .val (.ref b130), .val (.ref b137), .val (.int (p6 &&& (3 : Int32))), .val (.int c2), .unset] [(.int c2)])
              refine OwnGoW.st (fun _ kk => XS.iload X138.here hx rfl (hb hby at_208) rfl  kk) ?_
              show OwnGoW p e below s Z own_EL _ _ _ T138 (mkF m 210 #[.val (.int p1), .val (.int p2), .val (.int p3), .val (.int p4), .val (.int p5), .val (.int p6), .val (.int (3 : Int32)), .val (.int c0), .val (.int c1), .val (.int c2), .val (.ref b130), .val (.ref b137), .val (.int (p6 &&& (3 : Int32))), .val (.int c2), .unset] [(.int c2), (.int c2)])
              refine OwnGoW.st (fun _ kk => XS.icmpNo X138.here hx rfl (hb hby at_210) rfl (teq (rfl : c2 = c2)).2 kk) ?_
              show OwnGoW p e below s Z own_EL _ _ _ T138 (mkF m 213 #[.val (.int p1), .val (.int p2), .val (.int p3), .val (.int p4), .val (.int p5), .val (.int p6), .val (.int (3 : Int32)), .val (.int c0), .val (.int c1), .val (.int c2), .val (.ref b130), .val (.ref b137), .val (.int (p6 &&& (3 : Int32))), .val (.int c2), .unset] [])
              refine OwnGoW.st (fun _ kk => XS.iconst X138.here hx rfl (hb hby at_213) kk) ?_
              show OwnGoW p e below s Z own_EL _ _ _ T138 (mkF m 214 #[.val (.int p1), .val (.int p2), .val (.int p3), .val (.int p4), .val (.int p5), .val (.int p6), .val (.int (3 : Int32)), .val (.int c0), .val (.int c1), .val (.int c2), .val (.ref b130), .val (.ref b137), .val (.int (p6 &&& (3 : Int32))), .val (.int c2), .unset] [(.int (1 : Int32))])
              refine OwnGoW.st (fun _ kk => XS.goto X138.here hx rfl (pc0 := 214) (pc' := 218) rfl (hb hby at_214) (by decide) (by decide) kk) ?_
              show OwnGoW p e below s Z own_EL _ _ _ T138 (mkF m 218 #[.val (.int p1), .val (.int p2), .val (.int p3), .val (.int p4), .val (.int p5), .val (.int p6), .val (.int (3 : Int32)), .val (.int c0), .val (.int c1), .val (.int c2), .val (.ref b130), .val (.ref b137), .val (.int (p6 &&& (3 : Int32))), .val (.int c2), .unset] [(.int (1 : Int32))])
              refine OwnGoW.st (fun _ kk => XS.istore X138.here hx rfl (hb hby at_218) rfl (l' := #[.val (.int p1), .val (.int p2), .val (.int p3), .val (.int p4), .val (.int p5), .val (.int p6), .val (.int (3 : Int32)), .val (.int c0), .val (.int c1), .val (.int c2), .val (.ref b130), .val (.ref b137), .val (.int (p6 &&& (3 : Int32))), .val (.int c2), .val (.int (1 : Int32))]) rfl kk) ?_
              show OwnGoW p e below s Z own_EL _ _ _ T138 (mkF m 220 #[.val (.int p1), .val (.int p2), .val (.int p3), .val (.int p4), .val (.int p5), .val (.int p6), .val (.int (3 : Int32)), .val (.int c0), .val (.int c1), .val (.int c2), .val (.ref b130), .val (.ref b137), .val (.int (p6 &&& (3 : Int32))), .val (.int c2), .val (.int (1 : Int32))] [])
              refine OwnGoW.st (fun _ kk => XS.aload X138.here hx rfl (hb hby at_220) rfl rfl  kk) ?_
              show OwnGoW p e below s Z own_EL _ _ _ T138 (mkF m 222 #[.val (.int p1), .val (.int p2), .val (.int p3), .val (.int p4), .val (.int p5), .val (.int p6), .val (.int (3 : Int32)), .val (.int c0), .val (.int c1), .val (.int c2), .val (.ref b130), .val (.ref b137), .val (.int (p6 &&& (3 : Int32))), .val (.int c2), .val (.int (1 : Int32))] [(.ref b137)])
              refine OwnGoW.st (fun _ kk => XS.iload X138.here hx rfl (hb hby at_222) rfl  kk) ?_
              show OwnGoW p e below s Z own_EL _ _ _ T138 (mkF m 224 #[.val (.int p1), .val (.int p2), .val (.int p3), .val (.int p4), .val (.int p5), .val (.int p6), .val (.int (3 : Int32)), .val (.int c0), .val (.int c1), .val (.int c2), .val (.ref b130), .val (.ref b137), .val (.int (p6 &&& (3 : Int32))), .val (.int c2), .val (.int (1 : Int32))] [(.int c2), (.ref b137)])
              have hlt_ : c2 < (128 : Int32) := P_c2.2
              obtain ⟨cq144, kq144, q144a, q144b, q144c⟩ := isOf hZ rfl E_b137
              obtain ⟨_, _, ⟨T144, L144, k144, n144⟩, -, X144, ⟨Lc144, hQ144, l144, y144, z144⟩, st144⟩ := X138.virtualBack hx (y := (⟨"io/quintet/Alphabet", "contains", "(C)Z"⟩ : MethodName)) (z := (⟨"io/quintet/Alphabet", "contains", "(C)Z"⟩ : MethodName)) hown (mvT hZ (hw _ (List.mem_of_getElem? (i := 40) rfl))) (mvT hZ (hw _ (List.mem_of_getElem? (i := 41) rfl))) (notFace_of_selects (args := #[]) (mvT hZ (hw _ (List.mem_of_getElem? (i := 43) rfl)))) (mvT hZ (hw _ (List.mem_of_getElem? (i := 43) rfl))) (mvT hZ (hw _ (List.mem_of_getElem? (i := 42) rfl))) (by decide) (backOf (W := 0) (rmconY l Z a0 hw [] b137 b138 (own_tab [(c2, 2), (c1, 1), (c0, 0)]) c2 T138.heap n0 Z_ Fb138 G138 P_c2.1 hlt_ (own_tabY (c' := c2) (i := 2) (List.mem_of_getElem? (i := 0) rfl) rfl (own_tabI rfl (by decide : own_neg [2, 1, 0])))) hZ (hw _ (List.mem_of_getElem? (i := 44) rfl)) (hw _ (List.mem_of_getElem? (i := 10) rfl)) (by decide) (by decide)) q144a q144c (g := (mkF m 224 #[.val (.int p1), .val (.int p2), .val (.int p3), .val (.int p4), .val (.int p5), .val (.int p6), .val (.int (3 : Int32)), .val (.int c0), .val (.int c1), .val (.int c2), .val (.ref b130), .val (.ref b137), .val (.int (p6 &&& (3 : Int32))), .val (.int c2), .val (.int (1 : Int32))] [(.int c2), (.ref b137)])) rfl (by rw [hml]; rfl) (Steps.refl _) (argsL := [(.int c2)]) (rest := []) (lenOf pd_5 rfl) rfl (by show 2 * 0 + _ ≤ _; exact Nat.le_of_eq rfl) (hb hby at_224) (fun _ _ => ⟨rfl, rfl, (by decide : 5 + 0 ≤ _), (by decide : 141 + 0 ≤ _)⟩)
              dsimp only [Pt.U, Pt.locs, Pt.cells, Pt.slots] at X144 l144 y144 z144 st144 hQ144
              subst l144 y144 z144
              obtain ⟨rfl, N144q, e144⟩ := hQ144
              have N144 := Fr.app N138 N144q
              refine OwnGoW.st (fun _ kk => st144.trans kk) ?_
              show OwnGoW p e below s Z own_EL _ _ _ T144 (mkF m 227 #[.val (.int p1), .val (.int p2), .val (.int p3), .val (.int p4), .val (.int p5), .val (.int p6), .val (.int (3 : Int32)), .val (.int c0), .val (.int c1), .val (.int c2), .val (.ref b130), .val (.ref b137), .val (.int (p6 &&& (3 : Int32))), .val (.int c2), .val (.int (1 : Int32))] [(.int (1 : Int32))])
              refine OwnGoW.st (fun _ kk => XS.iload X144.here hx rfl (hb hby at_227) rfl  kk) ?_
              show OwnGoW p e below s Z own_EL _ _ _ T144 (mkF m 229 #[.val (.int p1), .val (.int p2), .val (.int p3), .val (.int p4), .val (.int p5), .val (.int p6), .val (.int (3 : Int32)), .val (.int c0), .val (.int c1), .val (.int c2), .val (.ref b130), .val (.ref b137), .val (.int (p6 &&& (3 : Int32))), .val (.int c2), .val (.int (1 : Int32))] [(.int (1 : Int32)), (.int (1 : Int32))])
              refine OwnGoW.st (fun _ kk => XS.icmpNo X144.here hx rfl (hb hby at_229) rfl (teq ((by decide) : (1 : Int32) = (1 : Int32))).2 kk) ?_
              show OwnGoW p e below s Z own_EL _ _ _ T144 (mkF m 232 #[.val (.int p1), .val (.int p2), .val (.int p3), .val (.int p4), .val (.int p5), .val (.int p6), .val (.int (3 : Int32)), .val (.int c0), .val (.int c1), .val (.int c2), .val (.ref b130), .val (.ref b137), .val (.int (p6 &&& (3 : Int32))), .val (.int c2), .val (.int (1 : Int32))] [])
              refine OwnGoW.st (fun _ kk => XS.iconst X144.here hx rfl (hb hby at_232) kk) ?_
              show OwnGoW p e below s Z own_EL _ _ _ T144 (mkF m 233 #[.val (.int p1), .val (.int p2), .val (.int p3), .val (.int p4), .val (.int p5), .val (.int p6), .val (.int (3 : Int32)), .val (.int c0), .val (.int c1), .val (.int c2), .val (.ref b130), .val (.ref b137), .val (.int (p6 &&& (3 : Int32))), .val (.int c2), .val (.int (1 : Int32))] [(.int (1 : Int32))])
              refine OwnGoW.st (fun _ kk => XS.goto X144.here hx rfl (pc0 := 233) (pc' := 237) rfl (hb hby at_233) (by decide) (by decide) kk) ?_
              show OwnGoW p e below s Z own_EL _ _ _ T144 (mkF m 237 #[.val (.int p1), .val (.int p2), .val (.int p3), .val (.int p4), .val (.int p5), .val (.int p6), .val (.int (3 : Int32)), .val (.int c0), .val (.int c1), .val (.int c2), .val (.ref b130), .val (.ref b137), .val (.int (p6 &&& (3 : Int32))), .val (.int c2), .val (.int (1 : Int32))] [(.int (1 : Int32))])
              exact OwnGoW.retN (s := s) (vm0 := s.vm) X144 hS_ hk_ e144 hZ (own_hEL hw) CR hx (t := .boolean) hret hlk (by simp) (hb hby at_237) (by show Q0 Z p1 p2 p3 p4 p5 p6 zc fmv h0 n0 _ T144.heap _; rw [e144]; exact ⟨rfl, N144⟩) (by decide) (by decide)
        · refine OwnGoW.st (fun _ kk => XS.icmpYes X138.here hx rfl (pc0 := 159) (pc' := 169) rfl (hb hby at_159) rfl (feq (hm3 : ¬ ((p6 &&& (3 : Int32)) = (3 : Int32)))).2 (by decide) (by decide) kk) ?_
          show OwnGoW p e below s Z own_EL _ _ _ T138 (mkF m 169 #[.val (.int p1), .val (.int p2), .val (.int p3), .val (.int p4), .val (.int p5), .val (.int p6), .val (.int (3 : Int32)), .val (.int c0), .val (.int c1), .val (.int c2), .val (.ref b130), .val (.ref b137), .val (.int (p6 &&& (3 : Int32))), .unset, .unset] [])
          refine OwnGoW.st (fun _ kk => XS.iload X138.here hx rfl (hb hby at_169) rfl  kk) ?_
          show OwnGoW p e below s Z own_EL _ _ _ T138 (mkF m 171 #[.val (.int p1), .val (.int p2), .val (.int p3), .val (.int p4), .val (.int p5), .val (.int p6), .val (.int (3 : Int32)), .val (.int c0), .val (.int c1), .val (.int c2), .val (.ref b130), .val (.ref b137), .val (.int (p6 &&& (3 : Int32))), .unset, .unset] [(.int p5)])
          refine OwnGoW.st (fun _ kk => XS.i2c X138.here hx rfl (hb hby at_171) rfl kk) ?_
          show OwnGoW p e below s Z own_EL _ _ _ T138 (mkF m 172 #[.val (.int p1), .val (.int p2), .val (.int p3), .val (.int p4), .val (.int p5), .val (.int p6), .val (.int (3 : Int32)), .val (.int c0), .val (.int c1), .val (.int c2), .val (.ref b130), .val (.ref b137), .val (.int (p6 &&& (3 : Int32))), .unset, .unset] [(.int (p5.toUInt32.toUInt16.toUInt32.toInt32))])
          obtain ⟨c4, hc4⟩ : ∃ z : Int32, z = (p5.toUInt32.toUInt16.toUInt32.toInt32) := ⟨_, rfl⟩
          rw [← hc4]
          show OwnGoW p e below s Z own_EL _ _ _ T138 (mkF m 172 #[.val (.int p1), .val (.int p2), .val (.int p3), .val (.int p4), .val (.int p5), .val (.int p6), .val (.int (3 : Int32)), .val (.int c0), .val (.int c1), .val (.int c2), .val (.ref b130), .val (.ref b137), .val (.int (p6 &&& (3 : Int32))), .unset, .unset] [(.int c4)])
          have hp0 : ¬ c4 < (0 : Int32) := hc4 ▸ own_c0 _
          refine OwnGoW.st (fun _ kk => XS.istore X138.here hx rfl (hb hby at_172) rfl (l' := #[.val (.int p1), .val (.int p2), .val (.int p3), .val (.int p4), .val (.int p5), .val (.int p6), .val (.int (3 : Int32)), .val (.int c0), .val (.int c1), .val (.int c2), .val (.ref b130), .val (.ref b137), .val (.int (p6 &&& (3 : Int32))), .val (.int c4), .unset]) rfl kk) ?_
          show OwnGoW p e below s Z own_EL _ _ _ T138 (mkF m 174 #[.val (.int p1), .val (.int p2), .val (.int p3), .val (.int p4), .val (.int p5), .val (.int p6), .val (.int (3 : Int32)), .val (.int c0), .val (.int c1), .val (.int c2), .val (.ref b130), .val (.ref b137), .val (.int (p6 &&& (3 : Int32))), .val (.int c4), .unset] [])
          refine OwnGoW.st (fun _ kk => XS.iload X138.here hx rfl (hb hby at_174) rfl  kk) ?_
          show OwnGoW p e below s Z own_EL _ _ _ T138 (mkF m 176 #[.val (.int p1), .val (.int p2), .val (.int p3), .val (.int p4), .val (.int p5), .val (.int p6), .val (.int (3 : Int32)), .val (.int c0), .val (.int c1), .val (.int c2), .val (.ref b130), .val (.ref b137), .val (.int (p6 &&& (3 : Int32))), .val (.int c4), .unset] [(.int (3 : Int32))])
          refine OwnGoW.st (fun _ kk => XS.iconst X138.here hx rfl (hb hby at_176) kk) ?_
          show OwnGoW p e below s Z own_EL _ _ _ T138 (mkF m 177 #[.val (.int p1), .val (.int p2), .val (.int p3), .val (.int p4), .val (.int p5), .val (.int p6), .val (.int (3 : Int32)), .val (.int c0), .val (.int c1), .val (.int c2), .val (.ref b130), .val (.ref b137), .val (.int (p6 &&& (3 : Int32))), .val (.int c4), .unset] [(.int (1 : Int32)), (.int (3 : Int32))])
          refine OwnGoW.st (fun _ kk => XS.icmpNo X138.here hx rfl (hb hby at_177) rfl (flt ((by decide) : ¬ ((3 : Int32) < (1 : Int32)))).1 kk) ?_
          show OwnGoW p e below s Z own_EL _ _ _ T138 (mkF m 180 #[.val (.int p1), .val (.int p2), .val (.int p3), .val (.int p4), .val (.int p5), .val (.int p6), .val (.int (3 : Int32)), .val (.int c0), .val (.int c1), .val (.int c2), .val (.ref b130), .val (.ref b137), .val (.int (p6 &&& (3 : Int32))), .val (.int c4), .unset] [])
          refine OwnGoW.st (fun _ kk => XS.iload X138.here hx rfl (hb hby at_180) rfl  kk) ?_
          show OwnGoW p e below s Z own_EL _ _ _ T138 (mkF m 182 #[.val (.int p1), .val (.int p2), .val (.int p3), .val (.int p4), .val (.int p5), .val (.int p6), .val (.int (3 : Int32)), .val (.int c0), .val (.int c1), .val (.int c2), .val (.ref b130), .val (.ref b137), .val (.int (p6 &&& (3 : Int32))), .val (.int c4), .unset] [(.int c4)])
          refine OwnGoW.st (fun _ kk => XS.iload X138.here hx rfl (hb hby at_182) rfl  kk) ?_
          show OwnGoW p e below s Z own_EL _ _ _ T138 (mkF m 184 #[.val (.int p1), .val (.int p2), .val (.int p3), .val (.int p4), .val (.int p5), .val (.int p6), .val (.int (3 : Int32)), .val (.int c0), .val (.int c1), .val (.int c2), .val (.ref b130), .val (.ref b137), .val (.int (p6 &&& (3 : Int32))), .val (.int c4), .unset] [(.int c0), (.int c4)])
          by_cases he_c4_c0 : c4 = c0
          · refine OwnGoW.st (fun _ kk => XS.icmpYes X138.here hx rfl (pc0 := 184) (pc' := 213) rfl (hb hby at_184) rfl (teq (he_c4_c0 : c4 = c0)).1 (by decide) (by decide) kk) ?_
            show OwnGoW p e below s Z own_EL _ _ _ T138 (mkF m 213 #[.val (.int p1), .val (.int p2), .val (.int p3), .val (.int p4), .val (.int p5), .val (.int p6), .val (.int (3 : Int32)), .val (.int c0), .val (.int c1), .val (.int c2), .val (.ref b130), .val (.ref b137), .val (.int (p6 &&& (3 : Int32))), .val (.int c4), .unset] [])
            refine OwnGoW.st (fun _ kk => XS.iconst X138.here hx rfl (hb hby at_213) kk) ?_
            show OwnGoW p e below s Z own_EL _ _ _ T138 (mkF m 214 #[.val (.int p1), .val (.int p2), .val (.int p3), .val (.int p4), .val (.int p5), .val (.int p6), .val (.int (3 : Int32)), .val (.int c0), .val (.int c1), .val (.int c2), .val (.ref b130), .val (.ref b137), .val (.int (p6 &&& (3 : Int32))), .val (.int c4), .unset] [(.int (1 : Int32))])
            refine OwnGoW.st (fun _ kk => XS.goto X138.here hx rfl (pc0 := 214) (pc' := 218) rfl (hb hby at_214) (by decide) (by decide) kk) ?_
            show OwnGoW p e below s Z own_EL _ _ _ T138 (mkF m 218 #[.val (.int p1), .val (.int p2), .val (.int p3), .val (.int p4), .val (.int p5), .val (.int p6), .val (.int (3 : Int32)), .val (.int c0), .val (.int c1), .val (.int c2), .val (.ref b130), .val (.ref b137), .val (.int (p6 &&& (3 : Int32))), .val (.int c4), .unset] [(.int (1 : Int32))])
            refine OwnGoW.st (fun _ kk => XS.istore X138.here hx rfl (hb hby at_218) rfl (l' := #[.val (.int p1), .val (.int p2), .val (.int p3), .val (.int p4), .val (.int p5), .val (.int p6), .val (.int (3 : Int32)), .val (.int c0), .val (.int c1), .val (.int c2), .val (.ref b130), .val (.ref b137), .val (.int (p6 &&& (3 : Int32))), .val (.int c4), .val (.int (1 : Int32))]) rfl kk) ?_
            show OwnGoW p e below s Z own_EL _ _ _ T138 (mkF m 220 #[.val (.int p1), .val (.int p2), .val (.int p3), .val (.int p4), .val (.int p5), .val (.int p6), .val (.int (3 : Int32)), .val (.int c0), .val (.int c1), .val (.int c2), .val (.ref b130), .val (.ref b137), .val (.int (p6 &&& (3 : Int32))), .val (.int c4), .val (.int (1 : Int32))] [])
            refine OwnGoW.st (fun _ kk => XS.aload X138.here hx rfl (hb hby at_220) rfl rfl  kk) ?_
            show OwnGoW p e below s Z own_EL _ _ _ T138 (mkF m 222 #[.val (.int p1), .val (.int p2), .val (.int p3), .val (.int p4), .val (.int p5), .val (.int p6), .val (.int (3 : Int32)), .val (.int c0), .val (.int c1), .val (.int c2), .val (.ref b130), .val (.ref b137), .val (.int (p6 &&& (3 : Int32))), .val (.int c4), .val (.int (1 : Int32))] [(.ref b137)])
            refine OwnGoW.st (fun _ kk => XS.iload X138.here hx rfl (hb hby at_222) rfl  kk) ?_
            show OwnGoW p e below s Z own_EL _ _ _ T138 (mkF m 224 #[.val (.int p1), .val (.int p2), .val (.int p3), .val (.int p4), .val (.int p5), .val (.int p6), .val (.int (3 : Int32)), .val (.int c0), .val (.int c1), .val (.int c2), .val (.ref b130), .val (.ref b137), .val (.int (p6 &&& (3 : Int32))), .val (.int c4), .val (.int (1 : Int32))] [(.int c4), (.ref b137)])
            have hlt_ : c4 < (128 : Int32) := he_c4_c0 ▸ P_c0.2
            obtain ⟨cq145, kq145, q145a, q145b, q145c⟩ := isOf hZ rfl E_b137
            obtain ⟨_, _, ⟨T145, L145, k145, n145⟩, -, X145, ⟨Lc145, hQ145, l145, y145, z145⟩, st145⟩ := X138.virtualBack hx (y := (⟨"io/quintet/Alphabet", "contains", "(C)Z"⟩ : MethodName)) (z := (⟨"io/quintet/Alphabet", "contains", "(C)Z"⟩ : MethodName)) hown (mvT hZ (hw _ (List.mem_of_getElem? (i := 40) rfl))) (mvT hZ (hw _ (List.mem_of_getElem? (i := 41) rfl))) (notFace_of_selects (args := #[]) (mvT hZ (hw _ (List.mem_of_getElem? (i := 43) rfl)))) (mvT hZ (hw _ (List.mem_of_getElem? (i := 43) rfl))) (mvT hZ (hw _ (List.mem_of_getElem? (i := 42) rfl))) (by decide) (backOf (W := 0) (rmconY l Z a0 hw [] b137 b138 (own_tab [(c2, 2), (c1, 1), (c0, 0)]) c4 T138.heap n0 Z_ Fb138 G138 hp0 hlt_ (own_tabY (c' := c0) (i := 0) (List.mem_of_getElem? (i := 2) rfl) he_c4_c0 (own_tabI rfl (by decide : own_neg [2, 1, 0])))) hZ (hw _ (List.mem_of_getElem? (i := 44) rfl)) (hw _ (List.mem_of_getElem? (i := 10) rfl)) (by decide) (by decide)) q145a q145c (g := (mkF m 224 #[.val (.int p1), .val (.int p2), .val (.int p3), .val (.int p4), .val (.int p5), .val (.int p6), .val (.int (3 : Int32)), .val (.int c0), .val (.int c1), .val (.int c2), .val (.ref b130), .val (.ref b137), .val (.int (p6 &&& (3 : Int32))), .val (.int c4), .val (.int (1 : Int32))] [(.int c4), (.ref b137)])) rfl (by rw [hml]; rfl) (Steps.refl _) (argsL := [(.int c4)]) (rest := []) (lenOf pd_5 rfl) rfl (by show 2 * 0 + _ ≤ _; exact Nat.le_of_eq rfl) (hb hby at_224) (fun _ _ => ⟨rfl, rfl, (by decide : 5 + 0 ≤ _), (by decide : 141 + 0 ≤ _)⟩)
            dsimp only [Pt.U, Pt.locs, Pt.cells, Pt.slots] at X145 l145 y145 z145 st145 hQ145
            subst l145 y145 z145
            obtain ⟨rfl, N145q, e145⟩ := hQ145
            have N145 := Fr.app N138 N145q
            refine OwnGoW.st (fun _ kk => st145.trans kk) ?_
            show OwnGoW p e below s Z own_EL _ _ _ T145 (mkF m 227 #[.val (.int p1), .val (.int p2), .val (.int p3), .val (.int p4), .val (.int p5), .val (.int p6), .val (.int (3 : Int32)), .val (.int c0), .val (.int c1), .val (.int c2), .val (.ref b130), .val (.ref b137), .val (.int (p6 &&& (3 : Int32))), .val (.int c4), .val (.int (1 : Int32))] [(.int (1 : Int32))])
            refine OwnGoW.st (fun _ kk => XS.iload X145.here hx rfl (hb hby at_227) rfl  kk) ?_
            show OwnGoW p e below s Z own_EL _ _ _ T145 (mkF m 229 #[.val (.int p1), .val (.int p2), .val (.int p3), .val (.int p4), .val (.int p5), .val (.int p6), .val (.int (3 : Int32)), .val (.int c0), .val (.int c1), .val (.int c2), .val (.ref b130), .val (.ref b137), .val (.int (p6 &&& (3 : Int32))), .val (.int c4), .val (.int (1 : Int32))] [(.int (1 : Int32)), (.int (1 : Int32))])
            refine OwnGoW.st (fun _ kk => XS.icmpNo X145.here hx rfl (hb hby at_229) rfl (teq ((by decide) : (1 : Int32) = (1 : Int32))).2 kk) ?_
            show OwnGoW p e below s Z own_EL _ _ _ T145 (mkF m 232 #[.val (.int p1), .val (.int p2), .val (.int p3), .val (.int p4), .val (.int p5), .val (.int p6), .val (.int (3 : Int32)), .val (.int c0), .val (.int c1), .val (.int c2), .val (.ref b130), .val (.ref b137), .val (.int (p6 &&& (3 : Int32))), .val (.int c4), .val (.int (1 : Int32))] [])
            refine OwnGoW.st (fun _ kk => XS.iconst X145.here hx rfl (hb hby at_232) kk) ?_
            show OwnGoW p e below s Z own_EL _ _ _ T145 (mkF m 233 #[.val (.int p1), .val (.int p2), .val (.int p3), .val (.int p4), .val (.int p5), .val (.int p6), .val (.int (3 : Int32)), .val (.int c0), .val (.int c1), .val (.int c2), .val (.ref b130), .val (.ref b137), .val (.int (p6 &&& (3 : Int32))), .val (.int c4), .val (.int (1 : Int32))] [(.int (1 : Int32))])
            refine OwnGoW.st (fun _ kk => XS.goto X145.here hx rfl (pc0 := 233) (pc' := 237) rfl (hb hby at_233) (by decide) (by decide) kk) ?_
            show OwnGoW p e below s Z own_EL _ _ _ T145 (mkF m 237 #[.val (.int p1), .val (.int p2), .val (.int p3), .val (.int p4), .val (.int p5), .val (.int p6), .val (.int (3 : Int32)), .val (.int c0), .val (.int c1), .val (.int c2), .val (.ref b130), .val (.ref b137), .val (.int (p6 &&& (3 : Int32))), .val (.int c4), .val (.int (1 : Int32))] [(.int (1 : Int32))])
            exact OwnGoW.retN (s := s) (vm0 := s.vm) X145 hS_ hk_ e145 hZ (own_hEL hw) CR hx (t := .boolean) hret hlk (by simp) (hb hby at_237) (by show Q0 Z p1 p2 p3 p4 p5 p6 zc fmv h0 n0 _ T145.heap _; rw [e145]; exact ⟨rfl, N145⟩) (by decide) (by decide)
          · refine OwnGoW.st (fun _ kk => XS.icmpNo X138.here hx rfl (hb hby at_184) rfl (feq (he_c4_c0 : ¬ (c4 = c0))).1 kk) ?_
            show OwnGoW p e below s Z own_EL _ _ _ T138 (mkF m 187 #[.val (.int p1), .val (.int p2), .val (.int p3), .val (.int p4), .val (.int p5), .val (.int p6), .val (.int (3 : Int32)), .val (.int c0), .val (.int c1), .val (.int c2), .val (.ref b130), .val (.ref b137), .val (.int (p6 &&& (3 : Int32))), .val (.int c4), .unset] [])
            refine OwnGoW.st (fun _ kk => XS.iload X138.here hx rfl (hb hby at_187) rfl  kk) ?_
            show OwnGoW p e below s Z own_EL _ _ _ T138 (mkF m 189 #[.val (.int p1), .val (.int p2), .val (.int p3), .val (.int p4), .val (.int p5), .val (.int p6), .val (.int (3 : Int32)), .val (.int c0), .val (.int c1), .val (.int c2), .val (.ref b130), .val (.ref b137), .val (.int (p6 &&& (3 : Int32))), .val (.int c4), .unset] [(.int (3 : Int32))])
            refine OwnGoW.st (fun _ kk => XS.iconst X138.here hx rfl (hb hby at_189) kk) ?_
            show OwnGoW p e below s Z own_EL _ _ _ T138 (mkF m 190 #[.val (.int p1), .val (.int p2), .val (.int p3), .val (.int p4), .val (.int p5), .val (.int p6), .val (.int (3 : Int32)), .val (.int c0), .val (.int c1), .val (.int c2), .val (.ref b130), .val (.ref b137), .val (.int (p6 &&& (3 : Int32))), .val (.int c4), .unset] [(.int (2 : Int32)), (.int (3 : Int32))])
            refine OwnGoW.st (fun _ kk => XS.icmpNo X138.here hx rfl (hb hby at_190) rfl (flt ((by decide) : ¬ ((3 : Int32) < (2 : Int32)))).1 kk) ?_
            show OwnGoW p e below s Z own_EL _ _ _ T138 (mkF m 193 #[.val (.int p1), .val (.int p2), .val (.int p3), .val (.int p4), .val (.int p5), .val (.int p6), .val (.int (3 : Int32)), .val (.int c0), .val (.int c1), .val (.int c2), .val (.ref b130), .val (.ref b137), .val (.int (p6 &&& (3 : Int32))), .val (.int c4), .unset] [])
            refine OwnGoW.st (fun _ kk => XS.iload X138.here hx rfl (hb hby at_193) rfl  kk) ?_
            show OwnGoW p e below s Z own_EL _ _ _ T138 (mkF m 195 #[.val (.int p1), .val (.int p2), .val (.int p3), .val (.int p4), .val (.int p5), .val (.int p6), .val (.int (3 : Int32)), .val (.int c0), .val (.int c1), .val (.int c2), .val (.ref b130), .val (.ref b137), .val (.int (p6 &&& (3 : Int32))), .val (.int c4), .unset] [(.int c4)])
            refine OwnGoW.st (fun _ kk => XS.iload X138.here hx rfl (hb hby at_195) rfl  kk) ?_
            show OwnGoW p e below s Z own_EL _ _ _ T138 (mkF m 197 #[.val (.int p1), .val (.int p2), .val (.int p3), .val (.int p4), .val (.int p5), .val (.int p6), .val (.int (3 : Int32)), .val (.int c0), .val (.int c1), .val (.int c2), .val (.ref b130), .val (.ref b137), .val (.int (p6 &&& (3 : Int32))), .val (.int c4), .unset] [(.int c1), (.int c4)])
            by_cases he_c4_c1 : c4 = c1
            · refine OwnGoW.st (fun _ kk => XS.icmpYes X138.here hx rfl (pc0 := 197) (pc' := 213) rfl (hb hby at_197) rfl (teq (he_c4_c1 : c4 = c1)).1 (by decide) (by decide) kk) ?_
              show OwnGoW p e below s Z own_EL _ _ _ T138 (mkF m 213 #[.val (.int p1), .val (.int p2), .val (.int p3), .val (.int p4), .val (.int p5), .val (.int p6), .val (.int (3 : Int32)), .val (.int c0), .val (.int c1), .val (.int c2), .val (.ref b130), .val (.ref b137), .val (.int (p6 &&& (3 : Int32))), .val (.int c4), .unset] [])
              refine OwnGoW.st (fun _ kk => XS.iconst X138.here hx rfl (hb hby at_213) kk) ?_
              show OwnGoW p e below s Z own_EL _ _ _ T138 (mkF m 214 #[.val (.int p1), .val (.int p2), .val (.int p3), .val (.int p4), .val (.int p5), .val (.int p6), .val (.int (3 : Int32)), .val (.int c0), .val (.int c1), .val (.int c2), .val (.ref b130), .val (.ref b137), .val (.int (p6 &&& (3 : Int32))), .val (.int c4), .unset] [(.int (1 : Int32))])
              refine OwnGoW.st (fun _ kk => XS.goto X138.here hx rfl (pc0 := 214) (pc' := 218) rfl (hb hby at_214) (by decide) (by decide) kk) ?_
              show OwnGoW p e below s Z own_EL _ _ _ T138 (mkF m 218 #[.val (.int p1), .val (.int p2), .val (.int p3), .val (.int p4), .val (.int p5), .val (.int p6), .val (.int (3 : Int32)), .val (.int c0), .val (.int c1), .val (.int c2), .val (.ref b130), .val (.ref b137), .val (.int (p6 &&& (3 : Int32))), .val (.int c4), .unset] [(.int (1 : Int32))])
              refine OwnGoW.st (fun _ kk => XS.istore X138.here hx rfl (hb hby at_218) rfl (l' := #[.val (.int p1), .val (.int p2), .val (.int p3), .val (.int p4), .val (.int p5), .val (.int p6), .val (.int (3 : Int32)), .val (.int c0), .val (.int c1), .val (.int c2), .val (.ref b130), .val (.ref b137), .val (.int (p6 &&& (3 : Int32))), .val (.int c4), .val (.int (1 : Int32))]) rfl kk) ?_
              show OwnGoW p e below s Z own_EL _ _ _ T138 (mkF m 220 #[.val (.int p1), .val (.int p2), .val (.int p3), .val (.int p4), .val (.int p5), .val (.int p6), .val (.int (3 : Int32)), .val (.int c0), .val (.int c1), .val (.int c2), .val (.ref b130), .val (.ref b137), .val (.int (p6 &&& (3 : Int32))), .val (.int c4), .val (.int (1 : Int32))] [])
              refine OwnGoW.st (fun _ kk => XS.aload X138.here hx rfl (hb hby at_220) rfl rfl  kk) ?_
              show OwnGoW p e below s Z own_EL _ _ _ T138 (mkF m 222 #[.val (.int p1), .val (.int p2), .val (.int p3), .val (.int p4), .val (.int p5), .val (.int p6), .val (.int (3 : Int32)), .val (.int c0), .val (.int c1), .val (.int c2), .val (.ref b130), .val (.ref b137), .val (.int (p6 &&& (3 : Int32))), .val (.int c4), .val (.int (1 : Int32))] [(.ref b137)])
              refine OwnGoW.st (fun _ kk => XS.iload X138.here hx rfl (hb hby at_222) rfl  kk) ?_
              show OwnGoW p e below s Z own_EL _ _ _ T138 (mkF m 224 #[.val (.int p1), .val (.int p2), .val (.int p3), .val (.int p4), .val (.int p5), .val (.int p6), .val (.int (3 : Int32)), .val (.int c0), .val (.int c1), .val (.int c2), .val (.ref b130), .val (.ref b137), .val (.int (p6 &&& (3 : Int32))), .val (.int c4), .val (.int (1 : Int32))] [(.int c4), (.ref b137)])
              have hlt_ : c4 < (128 : Int32) := he_c4_c1 ▸ P_c1.2
              obtain ⟨cq146, kq146, q146a, q146b, q146c⟩ := isOf hZ rfl E_b137
              obtain ⟨_, _, ⟨T146, L146, k146, n146⟩, -, X146, ⟨Lc146, hQ146, l146, y146, z146⟩, st146⟩ := X138.virtualBack hx (y := (⟨"io/quintet/Alphabet", "contains", "(C)Z"⟩ : MethodName)) (z := (⟨"io/quintet/Alphabet", "contains", "(C)Z"⟩ : MethodName)) hown (mvT hZ (hw _ (List.mem_of_getElem? (i := 40) rfl))) (mvT hZ (hw _ (List.mem_of_getElem? (i := 41) rfl))) (notFace_of_selects (args := #[]) (mvT hZ (hw _ (List.mem_of_getElem? (i := 43) rfl)))) (mvT hZ (hw _ (List.mem_of_getElem? (i := 43) rfl))) (mvT hZ (hw _ (List.mem_of_getElem? (i := 42) rfl))) (by decide) (backOf (W := 0) (rmconY l Z a0 hw [] b137 b138 (own_tab [(c2, 2), (c1, 1), (c0, 0)]) c4 T138.heap n0 Z_ Fb138 G138 hp0 hlt_ (own_tabY (c' := c1) (i := 1) (List.mem_of_getElem? (i := 1) rfl) he_c4_c1 (own_tabI rfl (by decide : own_neg [2, 1, 0])))) hZ (hw _ (List.mem_of_getElem? (i := 44) rfl)) (hw _ (List.mem_of_getElem? (i := 10) rfl)) (by decide) (by decide)) q146a q146c (g := (mkF m 224 #[.val (.int p1), .val (.int p2), .val (.int p3), .val (.int p4), .val (.int p5), .val (.int p6), .val (.int (3 : Int32)), .val (.int c0), .val (.int c1), .val (.int c2), .val (.ref b130), .val (.ref b137), .val (.int (p6 &&& (3 : Int32))), .val (.int c4), .val (.int (1 : Int32))] [(.int c4), (.ref b137)])) rfl (by rw [hml]; rfl) (Steps.refl _) (argsL := [(.int c4)]) (rest := []) (lenOf pd_5 rfl) rfl (by show 2 * 0 + _ ≤ _; exact Nat.le_of_eq rfl) (hb hby at_224) (fun _ _ => ⟨rfl, rfl, (by decide : 5 + 0 ≤ _), (by decide : 141 + 0 ≤ _)⟩)
              dsimp only [Pt.U, Pt.locs, Pt.cells, Pt.slots] at X146 l146 y146 z146 st146 hQ146
              subst l146 y146 z146
              obtain ⟨rfl, N146q, e146⟩ := hQ146
              have N146 := Fr.app N138 N146q
              refine OwnGoW.st (fun _ kk => st146.trans kk) ?_
              show OwnGoW p e below s Z own_EL _ _ _ T146 (mkF m 227 #[.val (.int p1), .val (.int p2), .val (.int p3), .val (.int p4), .val (.int p5), .val (.int p6), .val (.int (3 : Int32)), .val (.int c0), .val (.int c1), .val (.int c2), .val (.ref b130), .val (.ref b137), .val (.int (p6 &&& (3 : Int32))), .val (.int c4), .val (.int (1 : Int32))] [(.int (1 : Int32))])
              refine OwnGoW.st (fun _ kk => XS.iload X146.here hx rfl (hb hby at_227) rfl  kk) ?_
              show OwnGoW p e below s Z own_EL _ _ _ T146 (mkF m 229 #[.val (.int p1), .val (.int p2), .val (.int p3), .val (.int p4), .val (.int p5), .val (.int p6), .val (.int (3 : Int32)), .val (.int c0), .val (.int c1), .val (.int c2), .val (.ref b130), .val (.ref b137), .val (.int (p6 &&& (3 : Int32))), .val (.int c4), .val (.int (1 : Int32))] [(.int (1 : Int32)), (.int (1 : Int32))])
              refine OwnGoW.st (fun _ kk => XS.icmpNo X146.here hx rfl (hb hby at_229) rfl (teq ((by decide) : (1 : Int32) = (1 : Int32))).2 kk) ?_
              show OwnGoW p e below s Z own_EL _ _ _ T146 (mkF m 232 #[.val (.int p1), .val (.int p2), .val (.int p3), .val (.int p4), .val (.int p5), .val (.int p6), .val (.int (3 : Int32)), .val (.int c0), .val (.int c1), .val (.int c2), .val (.ref b130), .val (.ref b137), .val (.int (p6 &&& (3 : Int32))), .val (.int c4), .val (.int (1 : Int32))] [])
              refine OwnGoW.st (fun _ kk => XS.iconst X146.here hx rfl (hb hby at_232) kk) ?_
              show OwnGoW p e below s Z own_EL _ _ _ T146 (mkF m 233 #[.val (.int p1), .val (.int p2), .val (.int p3), .val (.int p4), .val (.int p5), .val (.int p6), .val (.int (3 : Int32)), .val (.int c0), .val (.int c1), .val (.int c2), .val (.ref b130), .val (.ref b137), .val (.int (p6 &&& (3 : Int32))), .val (.int c4), .val (.int (1 : Int32))] [(.int (1 : Int32))])
              refine OwnGoW.st (fun _ kk => XS.goto X146.here hx rfl (pc0 := 233) (pc' := 237) rfl (hb hby at_233) (by decide) (by decide) kk) ?_
              show OwnGoW p e below s Z own_EL _ _ _ T146 (mkF m 237 #[.val (.int p1), .val (.int p2), .val (.int p3), .val (.int p4), .val (.int p5), .val (.int p6), .val (.int (3 : Int32)), .val (.int c0), .val (.int c1), .val (.int c2), .val (.ref b130), .val (.ref b137), .val (.int (p6 &&& (3 : Int32))), .val (.int c4), .val (.int (1 : Int32))] [(.int (1 : Int32))])
              exact OwnGoW.retN (s := s) (vm0 := s.vm) X146 hS_ hk_ e146 hZ (own_hEL hw) CR hx (t := .boolean) hret hlk (by simp) (hb hby at_237) (by show Q0 Z p1 p2 p3 p4 p5 p6 zc fmv h0 n0 _ T146.heap _; rw [e146]; exact ⟨rfl, N146⟩) (by decide) (by decide)
            · refine OwnGoW.st (fun _ kk => XS.icmpNo X138.here hx rfl (hb hby at_197) rfl (feq (he_c4_c1 : ¬ (c4 = c1))).1 kk) ?_
              show OwnGoW p e below s Z own_EL _ _ _ T138 (mkF m 200 #[.val (.int p1), .val (.int p2), .val (.int p3), .val (.int p4), .val (.int p5), .val (.int p6), .val (.int (3 : Int32)), .val (.int c0), .val (.int c1), .val (.int c2), .val (.ref b130), .val (.ref b137), .val (.int (p6 &&& (3 : Int32))), .val (.int c4), .unset] [])
              refine OwnGoW.st (fun _ kk => XS.iload X138.here hx rfl (hb hby at_200) rfl  kk) ?_
              show OwnGoW p e below s Z own_EL _ _ _ T138 (mkF m 202 #[.val (.int p1), .val (.int p2), .val (.int p3), .val (.int p4), .val (.int p5), .val (.int p6), .val (.int (3 : Int32)), .val (.int c0), .val (.int c1), .val (.int c2), .val (.ref b130), .val (.ref b137), .val (.int (p6 &&& (3 : Int32))), .val (.int c4), .unset] [(.int (3 : Int32))])
              refine OwnGoW.st (fun _ kk => XS.iconst X138.here hx rfl (hb hby at_202) kk) ?_
              show OwnGoW p e below s Z own_EL _ _ _ T138 (mkF m 203 #[.val (.int p1), .val (.int p2), .val (.int p3), .val (.int p4), .val (.int p5), .val (.int p6), .val (.int (3 : Int32)), .val (.int c0), .val (.int c1), .val (.int c2), .val (.ref b130), .val (.ref b137), .val (.int (p6 &&& (3 : Int32))), .val (.int c4), .unset] [(.int (3 : Int32)), (.int (3 : Int32))])
              refine OwnGoW.st (fun _ kk => XS.icmpNo X138.here hx rfl (hb hby at_203) rfl (flt ((by decide) : ¬ ((3 : Int32) < (3 : Int32)))).1 kk) ?_
              show OwnGoW p e below s Z own_EL _ _ _ T138 (mkF m 206 #[.val (.int p1), .val (.int p2), .val (.int p3), .val (.int p4), .val (.int p5), .val (.int p6), .val (.int (3 : Int32)), .val (.int c0), .val (.int c1), .val (.int c2), .val (.ref b130), .val (.ref b137), .val (.int (p6 &&& (3 : Int32))), .val (.int c4), .unset] [])
              refine OwnGoW.st (fun _ kk => XS.iload X138.here hx rfl (hb hby at_206) rfl  kk) ?_
              show OwnGoW p e below s Z own_EL _ _ _ T138 (mkF m 208 #[.val (.int p1), .val (.int p2), .val (.int p3), .val (.int p4), .val (.int p5), .val (.int p6), .val (.int (3 : Int32)), .val (.int c0), .val (.int c1), .val (.int c2), .val (.ref b130), .val (.ref b137), .val (.int (p6 &&& (3 : Int32))), .val (.int c4), .unset] [(.int c4)])
              refine OwnGoW.st (fun _ kk => XS.iload X138.here hx rfl (hb hby at_208) rfl  kk) ?_
              show OwnGoW p e below s Z own_EL _ _ _ T138 (mkF m 210 #[.val (.int p1), .val (.int p2), .val (.int p3), .val (.int p4), .val (.int p5), .val (.int p6), .val (.int (3 : Int32)), .val (.int c0), .val (.int c1), .val (.int c2), .val (.ref b130), .val (.ref b137), .val (.int (p6 &&& (3 : Int32))), .val (.int c4), .unset] [(.int c2), (.int c4)])
              by_cases he_c4_c2 : c4 = c2
              · refine OwnGoW.st (fun _ kk => XS.icmpNo X138.here hx rfl (hb hby at_210) rfl (teq (he_c4_c2 : c4 = c2)).2 kk) ?_
                show OwnGoW p e below s Z own_EL _ _ _ T138 (mkF m 213 #[.val (.int p1), .val (.int p2), .val (.int p3), .val (.int p4), .val (.int p5), .val (.int p6), .val (.int (3 : Int32)), .val (.int c0), .val (.int c1), .val (.int c2), .val (.ref b130), .val (.ref b137), .val (.int (p6 &&& (3 : Int32))), .val (.int c4), .unset] [])
                refine OwnGoW.st (fun _ kk => XS.iconst X138.here hx rfl (hb hby at_213) kk) ?_
                show OwnGoW p e below s Z own_EL _ _ _ T138 (mkF m 214 #[.val (.int p1), .val (.int p2), .val (.int p3), .val (.int p4), .val (.int p5), .val (.int p6), .val (.int (3 : Int32)), .val (.int c0), .val (.int c1), .val (.int c2), .val (.ref b130), .val (.ref b137), .val (.int (p6 &&& (3 : Int32))), .val (.int c4), .unset] [(.int (1 : Int32))])
                refine OwnGoW.st (fun _ kk => XS.goto X138.here hx rfl (pc0 := 214) (pc' := 218) rfl (hb hby at_214) (by decide) (by decide) kk) ?_
                show OwnGoW p e below s Z own_EL _ _ _ T138 (mkF m 218 #[.val (.int p1), .val (.int p2), .val (.int p3), .val (.int p4), .val (.int p5), .val (.int p6), .val (.int (3 : Int32)), .val (.int c0), .val (.int c1), .val (.int c2), .val (.ref b130), .val (.ref b137), .val (.int (p6 &&& (3 : Int32))), .val (.int c4), .unset] [(.int (1 : Int32))])
                refine OwnGoW.st (fun _ kk => XS.istore X138.here hx rfl (hb hby at_218) rfl (l' := #[.val (.int p1), .val (.int p2), .val (.int p3), .val (.int p4), .val (.int p5), .val (.int p6), .val (.int (3 : Int32)), .val (.int c0), .val (.int c1), .val (.int c2), .val (.ref b130), .val (.ref b137), .val (.int (p6 &&& (3 : Int32))), .val (.int c4), .val (.int (1 : Int32))]) rfl kk) ?_
                show OwnGoW p e below s Z own_EL _ _ _ T138 (mkF m 220 #[.val (.int p1), .val (.int p2), .val (.int p3), .val (.int p4), .val (.int p5), .val (.int p6), .val (.int (3 : Int32)), .val (.int c0), .val (.int c1), .val (.int c2), .val (.ref b130), .val (.ref b137), .val (.int (p6 &&& (3 : Int32))), .val (.int c4), .val (.int (1 : Int32))] [])
                refine OwnGoW.st (fun _ kk => XS.aload X138.here hx rfl (hb hby at_220) rfl rfl  kk) ?_
                show OwnGoW p e below s Z own_EL _ _ _ T138 (mkF m 222 #[.val (.int p1), .val (.int p2), .val (.int p3), .val (.int p4), .val (.int p5), .val (.int p6), .val (.int (3 : Int32)), .val (.int c0), .val (.int c1), .val (.int c2), .val (.ref b130), .val (.ref b137), .val (.int (p6 &&& (3 : Int32))), .val (.int c4), .val (.int (1 : Int32))] [(.ref b137)])
                refine OwnGoW.st (fun _ kk => XS.iload X138.here hx rfl (hb hby at_222) rfl  kk) ?_
                show OwnGoW p e below s Z own_EL _ _ _ T138 (mkF m 224 #[.val (.int p1), .val (.int p2), .val (.int p3), .val (.int p4), .val (.int p5), .val (.int p6), .val (.int (3 : Int32)), .val (.int c0), .val (.int c1), .val (.int c2), .val (.ref b130), .val (.ref b137), .val (.int (p6 &&& (3 : Int32))), .val (.int c4), .val (.int (1 : Int32))] [(.int c4), (.ref b137)])
                have hlt_ : c4 < (128 : Int32) := he_c4_c2 ▸ P_c2.2
                obtain ⟨cq147, kq147, q147a, q147b, q147c⟩ := isOf hZ rfl E_b137
                obtain ⟨_, _, ⟨T147, L147, k147, n147⟩, -, X147, ⟨Lc147, hQ147, l147, y147, z147⟩, st147⟩ := X138.virtualBack hx (y := (⟨"io/quintet/Alphabet", "contains", "(C)Z"⟩ : MethodName)) (z := (⟨"io/quintet/Alphabet", "contains", "(C)Z"⟩ : MethodName)) hown (mvT hZ (hw _ (List.mem_of_getElem? (i := 40) rfl))) (mvT hZ (hw _ (List.mem_of_getElem? (i := 41) rfl))) (notFace_of_selects (args := #[]) (mvT hZ (hw _ (List.mem_of_getElem? (i := 43) rfl)))) (mvT hZ (hw _ (List.mem_of_getElem? (i := 43) rfl))) (mvT hZ (hw _ (List.mem_of_getElem? (i := 42) rfl))) (by decide) (backOf (W := 0) (rmconY l Z a0 hw [] b137 b138 (own_tab [(c2, 2), (c1, 1), (c0, 0)]) c4 T138.heap n0 Z_ Fb138 G138 hp0 hlt_ (own_tabY (c' := c2) (i := 2) (List.mem_of_getElem? (i := 0) rfl) he_c4_c2 (own_tabI rfl (by decide : own_neg [2, 1, 0])))) hZ (hw _ (List.mem_of_getElem? (i := 44) rfl)) (hw _ (List.mem_of_getElem? (i := 10) rfl)) (by decide) (by decide)) q147a q147c (g := (mkF m 224 #[.val (.int p1), .val (.int p2), .val (.int p3), .val (.int p4), .val (.int p5), .val (.int p6), .val (.int (3 : Int32)), .val (.int c0), .val (.int c1), .val (.int c2), .val (.ref b130), .val (.ref b137), .val (.int (p6 &&& (3 : Int32))), .val (.int c4), .val (.int (1 : Int32))] [(.int c4), (.ref b137)])) rfl (by rw [hml]; rfl) (Steps.refl _) (argsL := [(.int c4)]) (rest := []) (lenOf pd_5 rfl) rfl (by show 2 * 0 + _ ≤ _; exact Nat.le_of_eq rfl) (hb hby at_224) (fun _ _ => ⟨rfl, rfl, (by decide : 5 + 0 ≤ _), (by decide : 141 + 0 ≤ _)⟩)
                dsimp only [Pt.U, Pt.locs, Pt.cells, Pt.slots] at X147 l147 y147 z147 st147 hQ147
                subst l147 y147 z147
                obtain ⟨rfl, N147q, e147⟩ := hQ147
                have N147 := Fr.app N138 N147q
                refine OwnGoW.st (fun _ kk => st147.trans kk) ?_
                show OwnGoW p e below s Z own_EL _ _ _ T147 (mkF m 227 #[.val (.int p1), .val (.int p2), .val (.int p3), .val (.int p4), .val (.int p5), .val (.int p6), .val (.int (3 : Int32)), .val (.int c0), .val (.int c1), .val (.int c2), .val (.ref b130), .val (.ref b137), .val (.int (p6 &&& (3 : Int32))), .val (.int c4), .val (.int (1 : Int32))] [(.int (1 : Int32))])
                refine OwnGoW.st (fun _ kk => XS.iload X147.here hx rfl (hb hby at_227) rfl  kk) ?_
                show OwnGoW p e below s Z own_EL _ _ _ T147 (mkF m 229 #[.val (.int p1), .val (.int p2), .val (.int p3), .val (.int p4), .val (.int p5), .val (.int p6), .val (.int (3 : Int32)), .val (.int c0), .val (.int c1), .val (.int c2), .val (.ref b130), .val (.ref b137), .val (.int (p6 &&& (3 : Int32))), .val (.int c4), .val (.int (1 : Int32))] [(.int (1 : Int32)), (.int (1 : Int32))])
                refine OwnGoW.st (fun _ kk => XS.icmpNo X147.here hx rfl (hb hby at_229) rfl (teq ((by decide) : (1 : Int32) = (1 : Int32))).2 kk) ?_
                show OwnGoW p e below s Z own_EL _ _ _ T147 (mkF m 232 #[.val (.int p1), .val (.int p2), .val (.int p3), .val (.int p4), .val (.int p5), .val (.int p6), .val (.int (3 : Int32)), .val (.int c0), .val (.int c1), .val (.int c2), .val (.ref b130), .val (.ref b137), .val (.int (p6 &&& (3 : Int32))), .val (.int c4), .val (.int (1 : Int32))] [])
                refine OwnGoW.st (fun _ kk => XS.iconst X147.here hx rfl (hb hby at_232) kk) ?_
                show OwnGoW p e below s Z own_EL _ _ _ T147 (mkF m 233 #[.val (.int p1), .val (.int p2), .val (.int p3), .val (.int p4), .val (.int p5), .val (.int p6), .val (.int (3 : Int32)), .val (.int c0), .val (.int c1), .val (.int c2), .val (.ref b130), .val (.ref b137), .val (.int (p6 &&& (3 : Int32))), .val (.int c4), .val (.int (1 : Int32))] [(.int (1 : Int32))])
                refine OwnGoW.st (fun _ kk => XS.goto X147.here hx rfl (pc0 := 233) (pc' := 237) rfl (hb hby at_233) (by decide) (by decide) kk) ?_
                show OwnGoW p e below s Z own_EL _ _ _ T147 (mkF m 237 #[.val (.int p1), .val (.int p2), .val (.int p3), .val (.int p4), .val (.int p5), .val (.int p6), .val (.int (3 : Int32)), .val (.int c0), .val (.int c1), .val (.int c2), .val (.ref b130), .val (.ref b137), .val (.int (p6 &&& (3 : Int32))), .val (.int c4), .val (.int (1 : Int32))] [(.int (1 : Int32))])
                exact OwnGoW.retN (s := s) (vm0 := s.vm) X147 hS_ hk_ e147 hZ (own_hEL hw) CR hx (t := .boolean) hret hlk (by simp) (hb hby at_237) (by show Q0 Z p1 p2 p3 p4 p5 p6 zc fmv h0 n0 _ T147.heap _; rw [e147]; exact ⟨rfl, N147⟩) (by decide) (by decide)
              · refine OwnGoW.st (fun _ kk => XS.icmpYes X138.here hx rfl (pc0 := 210) (pc' := 217) rfl (hb hby at_210) rfl (feq (he_c4_c2 : ¬ (c4 = c2))).2 (by decide) (by decide) kk) ?_
                show OwnGoW p e below s Z own_EL _ _ _ T138 (mkF m 217 #[.val (.int p1), .val (.int p2), .val (.int p3), .val (.int p4), .val (.int p5), .val (.int p6), .val (.int (3 : Int32)), .val (.int c0), .val (.int c1), .val (.int c2), .val (.ref b130), .val (.ref b137), .val (.int (p6 &&& (3 : Int32))), .val (.int c4), .unset] [])
                refine OwnGoW.st (fun _ kk => XS.iconst X138.here hx rfl (hb hby at_217) kk) ?_
                show OwnGoW p e below s Z own_EL _ _ _ T138 (mkF m 218 #[.val (.int p1), .val (.int p2), .val (.int p3), .val (.int p4), .val (.int p5), .val (.int p6), .val (.int (3 : Int32)), .val (.int c0), .val (.int c1), .val (.int c2), .val (.ref b130), .val (.ref b137), .val (.int (p6 &&& (3 : Int32))), .val (.int c4), .unset] [(.int (0 : Int32))])
                refine OwnGoW.st (fun _ kk => XS.istore X138.here hx rfl (hb hby at_218) rfl (l' := #[.val (.int p1), .val (.int p2), .val (.int p3), .val (.int p4), .val (.int p5), .val (.int p6), .val (.int (3 : Int32)), .val (.int c0), .val (.int c1), .val (.int c2), .val (.ref b130), .val (.ref b137), .val (.int (p6 &&& (3 : Int32))), .val (.int c4), .val (.int (0 : Int32))]) rfl kk) ?_
                show OwnGoW p e below s Z own_EL _ _ _ T138 (mkF m 220 #[.val (.int p1), .val (.int p2), .val (.int p3), .val (.int p4), .val (.int p5), .val (.int p6), .val (.int (3 : Int32)), .val (.int c0), .val (.int c1), .val (.int c2), .val (.ref b130), .val (.ref b137), .val (.int (p6 &&& (3 : Int32))), .val (.int c4), .val (.int (0 : Int32))] [])
                refine OwnGoW.st (fun _ kk => XS.aload X138.here hx rfl (hb hby at_220) rfl rfl  kk) ?_
                show OwnGoW p e below s Z own_EL _ _ _ T138 (mkF m 222 #[.val (.int p1), .val (.int p2), .val (.int p3), .val (.int p4), .val (.int p5), .val (.int p6), .val (.int (3 : Int32)), .val (.int c0), .val (.int c1), .val (.int c2), .val (.ref b130), .val (.ref b137), .val (.int (p6 &&& (3 : Int32))), .val (.int c4), .val (.int (0 : Int32))] [(.ref b137)])
                refine OwnGoW.st (fun _ kk => XS.iload X138.here hx rfl (hb hby at_222) rfl  kk) ?_
                show OwnGoW p e below s Z own_EL _ _ _ T138 (mkF m 224 #[.val (.int p1), .val (.int p2), .val (.int p3), .val (.int p4), .val (.int p5), .val (.int p6), .val (.int (3 : Int32)), .val (.int c0), .val (.int c1), .val (.int c2), .val (.ref b130), .val (.ref b137), .val (.int (p6 &&& (3 : Int32))), .val (.int c4), .val (.int (0 : Int32))] [(.int c4), (.ref b137)])
                by_cases hlt_ : c4 < (128 : Int32)
                · obtain ⟨cq148, kq148, q148a, q148b, q148c⟩ := isOf hZ rfl E_b137
                  obtain ⟨_, _, ⟨T148, L148, k148, n148⟩, -, X148, ⟨Lc148, hQ148, l148, y148, z148⟩, st148⟩ := X138.virtualBack hx (y := (⟨"io/quintet/Alphabet", "contains", "(C)Z"⟩ : MethodName)) (z := (⟨"io/quintet/Alphabet", "contains", "(C)Z"⟩ : MethodName)) hown (mvT hZ (hw _ (List.mem_of_getElem? (i := 40) rfl))) (mvT hZ (hw _ (List.mem_of_getElem? (i := 41) rfl))) (notFace_of_selects (args := #[]) (mvT hZ (hw _ (List.mem_of_getElem? (i := 43) rfl)))) (mvT hZ (hw _ (List.mem_of_getElem? (i := 43) rfl))) (mvT hZ (hw _ (List.mem_of_getElem? (i := 42) rfl))) (by decide) (backOf (W := 0) (rmconN l Z a0 hw [] b137 b138 (own_tab [(c2, 2), (c1, 1), (c0, 0)]) c4 T138.heap n0 Z_ Fb138 G138 hp0 hlt_ (own_tabN hp0 (own_cons P_c2.1 he_c4_c2 (own_cons P_c1.1 he_c4_c1 (own_cons P_c0.1 he_c4_c0 own_nil))))) hZ (hw _ (List.mem_of_getElem? (i := 44) rfl)) (hw _ (List.mem_of_getElem? (i := 10) rfl)) (by decide) (by decide)) q148a q148c (g := (mkF m 224 #[.val (.int p1), .val (.int p2), .val (.int p3), .val (.int p4), .val (.int p5), .val (.int p6), .val (.int (3 : Int32)), .val (.int c0), .val (.int c1), .val (.int c2), .val (.ref b130), .val (.ref b137), .val (.int (p6 &&& (3 : Int32))), .val (.int c4), .val (.int (0 : Int32))] [(.int c4), (.ref b137)])) rfl (by rw [hml]; rfl) (Steps.refl _) (argsL := [(.int c4)]) (rest := []) (lenOf pd_5 rfl) rfl (by show 2 * 0 + _ ≤ _; exact Nat.le_of_eq rfl) (hb hby at_224) (fun _ _ => ⟨rfl, rfl, (by decide : 5 + 0 ≤ _), (by decide : 141 + 0 ≤ _)⟩)
                  dsimp only [Pt.U, Pt.locs, Pt.cells, Pt.slots] at X148 l148 y148 z148 st148 hQ148
                  subst l148 y148 z148
                  obtain ⟨rfl, N148q, e148⟩ := hQ148
                  have N148 := Fr.app N138 N148q
                  refine OwnGoW.st (fun _ kk => st148.trans kk) ?_
                  show OwnGoW p e below s Z own_EL _ _ _ T148 (mkF m 227 #[.val (.int p1), .val (.int p2), .val (.int p3), .val (.int p4), .val (.int p5), .val (.int p6), .val (.int (3 : Int32)), .val (.int c0), .val (.int c1), .val (.int c2), .val (.ref b130), .val (.ref b137), .val (.int (p6 &&& (3 : Int32))), .val (.int c4), .val (.int (0 : Int32))] [(.int (0 : Int32))])
                  refine OwnGoW.st (fun _ kk => XS.iload X148.here hx rfl (hb hby at_227) rfl  kk) ?_
                  show OwnGoW p e below s Z own_EL _ _ _ T148 (mkF m 229 #[.val (.int p1), .val (.int p2), .val (.int p3), .val (.int p4), .val (.int p5), .val (.int p6), .val (.int (3 : Int32)), .val (.int c0), .val (.int c1), .val (.int c2), .val (.ref b130), .val (.ref b137), .val (.int (p6 &&& (3 : Int32))), .val (.int c4), .val (.int (0 : Int32))] [(.int (0 : Int32)), (.int (0 : Int32))])
                  refine OwnGoW.st (fun _ kk => XS.icmpNo X148.here hx rfl (hb hby at_229) rfl (teq ((by decide) : (0 : Int32) = (0 : Int32))).2 kk) ?_
                  show OwnGoW p e below s Z own_EL _ _ _ T148 (mkF m 232 #[.val (.int p1), .val (.int p2), .val (.int p3), .val (.int p4), .val (.int p5), .val (.int p6), .val (.int (3 : Int32)), .val (.int c0), .val (.int c1), .val (.int c2), .val (.ref b130), .val (.ref b137), .val (.int (p6 &&& (3 : Int32))), .val (.int c4), .val (.int (0 : Int32))] [])
                  refine OwnGoW.st (fun _ kk => XS.iconst X148.here hx rfl (hb hby at_232) kk) ?_
                  show OwnGoW p e below s Z own_EL _ _ _ T148 (mkF m 233 #[.val (.int p1), .val (.int p2), .val (.int p3), .val (.int p4), .val (.int p5), .val (.int p6), .val (.int (3 : Int32)), .val (.int c0), .val (.int c1), .val (.int c2), .val (.ref b130), .val (.ref b137), .val (.int (p6 &&& (3 : Int32))), .val (.int c4), .val (.int (0 : Int32))] [(.int (1 : Int32))])
                  refine OwnGoW.st (fun _ kk => XS.goto X148.here hx rfl (pc0 := 233) (pc' := 237) rfl (hb hby at_233) (by decide) (by decide) kk) ?_
                  show OwnGoW p e below s Z own_EL _ _ _ T148 (mkF m 237 #[.val (.int p1), .val (.int p2), .val (.int p3), .val (.int p4), .val (.int p5), .val (.int p6), .val (.int (3 : Int32)), .val (.int c0), .val (.int c1), .val (.int c2), .val (.ref b130), .val (.ref b137), .val (.int (p6 &&& (3 : Int32))), .val (.int c4), .val (.int (0 : Int32))] [(.int (1 : Int32))])
                  exact OwnGoW.retN (s := s) (vm0 := s.vm) X148 hS_ hk_ e148 hZ (own_hEL hw) CR hx (t := .boolean) hret hlk (by simp) (hb hby at_237) (by show Q0 Z p1 p2 p3 p4 p5 p6 zc fmv h0 n0 _ T148.heap _; rw [e148]; exact ⟨rfl, N148⟩) (by decide) (by decide)
                · obtain ⟨cq149, kq149, q149a, q149b, q149c⟩ := isOf hZ rfl E_b137
                  obtain ⟨_, _, ⟨T149, L149, k149, n149⟩, -, X149, ⟨Lc149, hQ149, l149, y149, z149⟩, st149⟩ := X138.virtualBack hx (y := (⟨"io/quintet/Alphabet", "contains", "(C)Z"⟩ : MethodName)) (z := (⟨"io/quintet/Alphabet", "contains", "(C)Z"⟩ : MethodName)) hown (mvT hZ (hw _ (List.mem_of_getElem? (i := 40) rfl))) (mvT hZ (hw _ (List.mem_of_getElem? (i := 41) rfl))) (notFace_of_selects (args := #[]) (mvT hZ (hw _ (List.mem_of_getElem? (i := 43) rfl)))) (mvT hZ (hw _ (List.mem_of_getElem? (i := 43) rfl))) (mvT hZ (hw _ (List.mem_of_getElem? (i := 42) rfl))) (by decide) (backOf (W := 0) (rmconB l Z a0 hw [] b137 b138 (own_tab [(c2, 2), (c1, 1), (c0, 0)]) c4 T138.heap n0 Z_ Fb138 G138 hp0 hlt_) hZ (hw _ (List.mem_of_getElem? (i := 44) rfl)) (hw _ (List.mem_of_getElem? (i := 10) rfl)) (by decide) (by decide)) q149a q149c (g := (mkF m 224 #[.val (.int p1), .val (.int p2), .val (.int p3), .val (.int p4), .val (.int p5), .val (.int p6), .val (.int (3 : Int32)), .val (.int c0), .val (.int c1), .val (.int c2), .val (.ref b130), .val (.ref b137), .val (.int (p6 &&& (3 : Int32))), .val (.int c4), .val (.int (0 : Int32))] [(.int c4), (.ref b137)])) rfl (by rw [hml]; rfl) (Steps.refl _) (argsL := [(.int c4)]) (rest := []) (lenOf pd_5 rfl) rfl (by show 2 * 0 + _ ≤ _; exact Nat.le_of_eq rfl) (hb hby at_224) (fun _ _ => ⟨rfl, rfl, (by decide : 5 + 0 ≤ _), (by decide : 141 + 0 ≤ _)⟩)
                  dsimp only [Pt.U, Pt.locs, Pt.cells, Pt.slots] at X149 l149 y149 z149 st149 hQ149
                  subst l149 y149 z149
                  obtain ⟨rfl, N149q, e149⟩ := hQ149
                  have N149 := Fr.app N138 N149q
                  refine OwnGoW.st (fun _ kk => st149.trans kk) ?_
                  show OwnGoW p e below s Z own_EL _ _ _ T149 (mkF m 227 #[.val (.int p1), .val (.int p2), .val (.int p3), .val (.int p4), .val (.int p5), .val (.int p6), .val (.int (3 : Int32)), .val (.int c0), .val (.int c1), .val (.int c2), .val (.ref b130), .val (.ref b137), .val (.int (p6 &&& (3 : Int32))), .val (.int c4), .val (.int (0 : Int32))] [(.int (0 : Int32))])
                  refine OwnGoW.st (fun _ kk => XS.iload X149.here hx rfl (hb hby at_227) rfl  kk) ?_
                  show OwnGoW p e below s Z own_EL _ _ _ T149 (mkF m 229 #[.val (.int p1), .val (.int p2), .val (.int p3), .val (.int p4), .val (.int p5), .val (.int p6), .val (.int (3 : Int32)), .val (.int c0), .val (.int c1), .val (.int c2), .val (.ref b130), .val (.ref b137), .val (.int (p6 &&& (3 : Int32))), .val (.int c4), .val (.int (0 : Int32))] [(.int (0 : Int32)), (.int (0 : Int32))])
                  refine OwnGoW.st (fun _ kk => XS.icmpNo X149.here hx rfl (hb hby at_229) rfl (teq ((by decide) : (0 : Int32) = (0 : Int32))).2 kk) ?_
                  show OwnGoW p e below s Z own_EL _ _ _ T149 (mkF m 232 #[.val (.int p1), .val (.int p2), .val (.int p3), .val (.int p4), .val (.int p5), .val (.int p6), .val (.int (3 : Int32)), .val (.int c0), .val (.int c1), .val (.int c2), .val (.ref b130), .val (.ref b137), .val (.int (p6 &&& (3 : Int32))), .val (.int c4), .val (.int (0 : Int32))] [])
                  refine OwnGoW.st (fun _ kk => XS.iconst X149.here hx rfl (hb hby at_232) kk) ?_
                  show OwnGoW p e below s Z own_EL _ _ _ T149 (mkF m 233 #[.val (.int p1), .val (.int p2), .val (.int p3), .val (.int p4), .val (.int p5), .val (.int p6), .val (.int (3 : Int32)), .val (.int c0), .val (.int c1), .val (.int c2), .val (.ref b130), .val (.ref b137), .val (.int (p6 &&& (3 : Int32))), .val (.int c4), .val (.int (0 : Int32))] [(.int (1 : Int32))])
                  refine OwnGoW.st (fun _ kk => XS.goto X149.here hx rfl (pc0 := 233) (pc' := 237) rfl (hb hby at_233) (by decide) (by decide) kk) ?_
                  show OwnGoW p e below s Z own_EL _ _ _ T149 (mkF m 237 #[.val (.int p1), .val (.int p2), .val (.int p3), .val (.int p4), .val (.int p5), .val (.int p6), .val (.int (3 : Int32)), .val (.int c0), .val (.int c1), .val (.int c2), .val (.ref b130), .val (.ref b137), .val (.int (p6 &&& (3 : Int32))), .val (.int c4), .val (.int (0 : Int32))] [(.int (1 : Int32))])
                  exact OwnGoW.retN (s := s) (vm0 := s.vm) X149 hS_ hk_ e149 hZ (own_hEL hw) CR hx (t := .boolean) hret hlk (by simp) (hb hby at_237) (by show Q0 Z p1 p2 p3 p4 p5 p6 zc fmv h0 n0 _ T149.heap _; rw [e149]; exact ⟨rfl, N149⟩) (by decide) (by decide)
set_option maxRecDepth 65536 in
set_option maxHeartbeats 40000000 in
theorem comes_1 {Post : Tables → Env → Array Value → State → Outcome → State → Prop} (hpost : ∀ tb e args s v u, (limb_1_1.after args s (.returned v) u = true ∧ limb_1_2.after args s (.returned v) u = true ∧ True) → ReturnedEndW s (.returned v) u (Jvm.fieldLocs frame_1_writes args s ++ Jvm.arrayLocs frame_1_arrays args s ++ Jvm.staticLocs frame_1_statics s) 24 1408 → Post tb e args s (.returned v) u) :
    ArmFor flags0 classFile x code maxLocals ret World_1 tables_1 room_1 Calls_1 rest_1 Pre_1 Post := by
  intro l hfl _ _ p e ha hc hk s m args below hf hA hF happ hP
  obtain ⟨hcalls, hrest, hpre⟩ := hP
  obtain ⟨-, -, -, hnamed, -, -, -, hat⟩ := (Spec.applies_iff hf).mp happ
  obtain ⟨hg, hn⟩ := and_e (Cond.before_iff.mp (show (Jvm.Cond.and given_1 narrow_1).before args s = true from hpre))
  obtain ⟨hcnt, hg⟩ := and_e hg
  obtain ⟨hg0, hg⟩ := and_e hg
  obtain ⟨hg1, hg⟩ := and_e hg
  obtain ⟨hg2, hg⟩ := and_e hg
  obtain ⟨hg3, hg⟩ := and_e hg
  obtain ⟨hg4, hg⟩ := and_e hg
  have hg5 := hg
  obtain ⟨w0, w1, w2, w3, w4, w5, rfl⟩ : ∃ w0 w1 w2 w3 w4 w5 : Value, args = #[w0, w1, w2, w3, w4, w5] := by
    have hs : args.size = 6 := by simpa [Cond.value, given_1] using hcnt
    obtain ⟨L⟩ := args
    match L, hs with
    | [w0, w1, w2, w3, w4, w5], _ => exact ⟨w0, w1, w2, w3, w4, w5, rfl⟩
  have hw := fun d (hd : d ∈ tables_1) => atoms_spec (ws := Jvm.Cond.code x code maxLocals ret :: tables_1) hat d (List.mem_cons_of_mem _ hd)
  have hfit : Fit s := fun {y c} hc i hi => by
    obtain ⟨ha, rfl⟩ := Array.getElem?_eq_some_iff.mp hc
    have q := List.all_eq_true.mp ((Array.all_eq_true_iff_forall_mem.mp hF) _ (Array.getElem_mem ha)) i (List.mem_range.mpr hi)
    simpa [Array.getElem?_eq_getElem hi] using q
  obtain ⟨i0, ei0⟩ := is_v hg0
  obtain rfl : w0 = (.int i0) := Option.some.inj ei0
  obtain ⟨i1, ei1⟩ := is_v hg1
  obtain rfl : w1 = (.int i1) := Option.some.inj ei1
  obtain ⟨i2, ei2⟩ := is_v hg2
  obtain rfl : w2 = (.int i2) := Option.some.inj ei2
  obtain ⟨i3, ei3⟩ := is_v hg3
  obtain rfl : w3 = (.int i3) := Option.some.inj ei3
  obtain ⟨i4, ei4⟩ := is_v hg4
  obtain rfl : w4 = (.int i4) := Option.some.inj ei4
  obtain ⟨i5, ei5⟩ := is_v hg5
  obtain rfl : w5 = (.int i5) := Option.some.inj ei5
  obtain ⟨hsets, hown0⟩ := atoms_of _ (rest_1_c_eq ▸ (show rest_1_c.before _ s = true from hrest))
  obtain ⟨zc, ev_zc⟩ := is_v (Cond.before_iff.mp (hsets _ (List.mem_of_getElem? (i := 1) rfl)))
  have S_CS := Sta.start ev_zc (Or.inl (hsets _ (List.mem_of_getElem? (i := 0) rfl)))
  have P_CS : ¬ zc = (0 : Int32) := gotF (Cond.eq_ints ev_zc (Term.int_eval (0))) (not_v (Cond.before_iff.mp (hsets _ (List.mem_of_getElem? (i := 2) rfl))))
  obtain ⟨fmv, ev_fm, rf_fmv⟩ := isR_v (Cond.before_iff.mp (hsets _ (List.mem_of_getElem? (i := 8) rfl)))
  have S_SF := Sta.start ev_fm (Or.inl (hsets _ (List.mem_of_getElem? (i := 7) rfl)))
  obtain ⟨n, o, h1, h2, h3, _, L, rfl, ⟨rfl, N⟩, -, hq⟩ := rm0 l s _ hw tables_1 i0 i1 i2 i3 i4 i5 zc fmv s.heap s.heap.size (Nat.le_refl _) (Old.start s) S_CS P_CS S_SF rf_fmv  p e ha hc hk s m _ below hf ((Spec.applies_iff_loose hf).mp happ).1 ⟨rfl, State.Warmed39.refl s, rfl, (CHv.start (own_hEL hw) (fun q hq => (hcalls.1 : Jvm.Lit.constsHeld consts_1 s) q ((by decide : ∀ q ∈ own_EL, q ∈ consts_1) q hq)) (hsets _ (List.mem_of_getElem? (i := 2) rfl)) (hw _ (List.mem_of_getElem? (i := 3) rfl)) (hw _ (List.mem_of_getElem? (i := 2) rfl)))⟩ trivial
  refine ⟨n, _, h1, h2, h3, hpost _ _ _ _ _ _ ⟨Cond.after_iff.mpr rfl, Cond.after_iff.mpr (eq_i res_at (Term.int_eval (1)) rfl), trivial⟩ ⟨hq.1, hq.2.1, hq.2.2.1, (hq.2.2.2.sift fun y hy => Or.inr (N y hy)).mono (by decide) (by decide)⟩⟩
theorem main_1_1 : Claimed_1_1 := comes_1 fun _ _ _ _ _ _ h hF => ⟨h.1, hF⟩
theorem main_1_2 : Claimed_1_2 := comes_1 fun _ _ _ _ _ _ h hF => ⟨h.2.1, hF⟩
end Jvm.Pilot.@@N@@
namespace Jvm.Pilot.@@N@@
open Jvm Jvm.ClassFile Sem Op Lib Jvm.Free Jvm.Stand Jvm.Pilot.@@N@@.Jvm.D
/-! MADE BY PROGRAM (witnessworld.py) out of the Statement's table words and the real class files: 22 classes; the members and pool entries that the words name. The judged class is class 1, her method 1. -/
namespace start1
open Jvm.ClassFile
def u (s : String) : CpInfo := .utf8 (stringToUtf16 s)
/-- a pool by its gaps: so many unusable entries, then the entry; so many at the end -/
def gap : Nat → List CpInfo → List CpInfo
  | 0, r => r
  | n + 1, r => .unusable :: gap n r
def poolList (es : List (Nat × CpInfo)) (last : Nat) : List CpInfo := es.foldr (fun e r => gap e.1 (e.2 :: r)) (gap last [])
def pool (es : List (Nat × CpInfo)) (last : Nat) : Array CpInfo := ⟨poolList es last⟩
def fileOf (pool : Array CpInfo) (this : Nat) (attrs : Array Attribute := #[]) (ms : Array MethodInfo := #[]) (fl : Nat := 33) (sup : Nat := 0) (ifs : Array Nat := #[]) (fds : Array FieldInfo := #[]) : ClassFile where
  minorVersion := 0
  majorVersion := 65
  constantPool := pool
  accessFlags := fl
  thisClass := this
  superClass := sup
  interfaces := ifs
  fields := fds
  methods := ms
  attributes := attrs
def plain (name : String) (sup : Option ClassId) : Class where
  name := name
  kind := .ordinary
  loader := none
  accessFlags := 33
  super := sup
  interfaces := #[]
  cf := none
  fields := #[]
  methods := #[]
  instanceTypes := #[]
  staticTypes := #[]
  resolved := #[]
  callSites := []
  init := .initialized
  statics := none
  mirror := none

def pool0 : Array CpInfo := pool [(5, u "<init>"), (0, u "()V"), (1, .class_ 10), (1, u "java/lang/Object")] 113

def k0c0 : Code := { maxStack := 0, maxLocals := 1, code := object_method_1_code, exceptionTable := #[], attributes := #[] }
def k0m0 : Method := { name := "<init>", desc := "()V", sig := { parameters := [], returnType := none }, accessFlags := 1, code := some k0c0 }
/-- java/lang/Object -/
def k0 : Class := { plain "java/lang/Object" none with
  accessFlags := 33
  interfaces := #[]
  cf := some (fileOf pool0 8 #[] #[{ accessFlags := 1, nameIndex := 5, descriptorIndex := 6, attributes := #[] }] 33 0 #[] #[])
  fields := #[]
  methods := #[k0m0]
  instanceTypes := #[]
  staticTypes := #[]
  resolved := Array.replicate 124 none
  statics := none }

def pool1 : Array CpInfo := pool [(2, .class_ 4), (1, u "java/lang/Object"), (0, u "<init>"), (0, u "()V"), (0, .string 8), (0, u ""), (0, .methodref 10 11), (0, .class_ 12), (0, .nameAndType 13 14), (0, u "java/lang/String"), (0, u "valueOf"), (0, u "(C)Ljava/lang/String;"), (0, .methodref 10 16), (0, .nameAndType 5 17), (0, u "([C)V"), (0, .class_ 19), (0, u "io/quintet/Alphabet"), (0, .methodref 18 21), (0, .nameAndType 5 22), (0, u "(ILjava/lang/String;)V"), (0, .methodref 18 24), (0, .nameAndType 25 26), (0, u "contains"), (0, u "(C)Z"), (0, .class_ 28), (0, u "io/quintet/AlphabetContainsPinLaw"), (2, u "law"), (0, u "(IIIIII)Z")] 3

def k1m0 : Method := { name := "<init>", desc := "()V", sig := { parameters := [], returnType := none }, accessFlags := 2, code := none }
def k1c1 : Code := { maxStack := 6, maxLocals := 15, code := code, exceptionTable := #[], attributes := #[] }
def k1m1 : Method := { name := "law", desc := "(IIIIII)Z", sig := { parameters := [.int, .int, .int, .int, .int, .int], returnType := some .boolean }, accessFlags := 9, code := some k1c1 }
/-- io/quintet/AlphabetContainsPinLaw -/
def k1 : Class := { plain "io/quintet/AlphabetContainsPinLaw" (some 0) with
  accessFlags := 49
  interfaces := #[]
  cf := some (fileOf pool1 27 #[] #[{ accessFlags := 2, nameIndex := 5, descriptorIndex := 6, attributes := #[] }, { accessFlags := 9, nameIndex := 31, descriptorIndex := 32, attributes := #[] }] 49 2 #[] #[])
  fields := #[]
  methods := #[k1m0, k1m1]
  instanceTypes := #[]
  staticTypes := #[]
  resolved := Array.replicate 36 none
  statics := none }

def pool2 : Array CpInfo := pool [(1, .class_ 2), (0, u "java/io/Serializable"), (0, .class_ 4), (0, u "java/lang/Object")] 2

/-- java/io/Serializable -/
def k2 : Class := { plain "java/io/Serializable" (some 0) with
  accessFlags := 1537
  interfaces := #[]
  cf := some (fileOf pool2 1 #[] #[] 1537 3 #[] #[])
  fields := #[]
  methods := #[]
  instanceTypes := #[]
  staticTypes := #[]
  resolved := Array.replicate 7 none
  statics := none }

def pool3 : Array CpInfo := pool [(1, .class_ 2), (0, u "java/lang/Comparable"), (0, .class_ 4), (0, u "java/lang/Object")] 7

/-- java/lang/Comparable -/
def k3 : Class := { plain "java/lang/Comparable" (some 0) with
  accessFlags := 1537
  interfaces := #[]
  cf := some (fileOf pool3 1 #[] #[] 1537 3 #[] #[])
  fields := #[]
  methods := #[]
  instanceTypes := #[]
  staticTypes := #[]
  resolved := Array.replicate 12 none
  statics := none }

def pool4 : Array CpInfo := pool [(2, .class_ 4), (1, u "java/lang/CharSequence"), (42, .class_ 48), (0, u "java/lang/CharSequence$1CodePointIterator"), (10, .class_ 60), (0, u "java/lang/CharSequence$1CharIterator"), (5, .class_ 67), (0, u "java/lang/Object")] 63

/-- java/lang/CharSequence -/
def k4 : Class := { plain "java/lang/CharSequence" (some 0) with
  accessFlags := 1537
  interfaces := #[]
  cf := some (fileOf pool4 2 #[.nestMembers #[47, 59]] #[] 1537 66 #[] #[])
  fields := #[]
  methods := #[]
  instanceTypes := #[]
  staticTypes := #[]
  resolved := Array.replicate 131 none
  statics := none }

def pool5 : Array CpInfo := pool [(1, .class_ 2), (0, u "java/lang/constant/Constable"), (0, .class_ 4), (0, u "java/lang/Object")] 6

/-- java/lang/constant/Constable -/
def k5 : Class := { plain "java/lang/constant/Constable" (some 0) with
  accessFlags := 1537
  interfaces := #[]
  cf := some (fileOf pool5 1 #[] #[] 1537 3 #[] #[])
  fields := #[]
  methods := #[]
  instanceTypes := #[]
  staticTypes := #[]
  resolved := Array.replicate 11 none
  statics := none }

def pool6 : Array CpInfo := pool [(1, .class_ 2), (0, u "java/lang/constant/ConstantDesc"), (0, .class_ 4), (0, u "java/lang/Object")] 32

/-- java/lang/constant/ConstantDesc -/
def k6 : Class := { plain "java/lang/constant/ConstantDesc" (some 0) with
  accessFlags := 1537
  interfaces := #[]
  cf := some (fileOf pool6 1 #[] #[] 1537 3 #[] #[])
  fields := #[]
  methods := #[]
  instanceTypes := #[]
  staticTypes := #[]
  resolved := Array.replicate 37 none
  statics := none }

def pool7 : Array CpInfo := pool [(1, .methodref 2 3), (0, .class_ 4), (0, .nameAndType 5 6), (0, u "java/lang/Object"), (0, u "<init>"), (0, u "()V"), (2, .fieldref 10 11), (0, .class_ 12), (0, .nameAndType 13 14), (0, u "java/lang/String"), (0, u "value"), (0, u "[B"), (0, .fieldref 10 16), (0, .nameAndType 17 18), (0, u "coder"), (0, u "B"), (2, u "hash"), (0, u "I"), (2, u "hashIsZero"), (0, u "Z"), (0, .methodref 10 28), (0, .nameAndType 5 29), (0, u "([CIILjava/lang/Void;)V"), (8, .fieldref 10 39), (0, .nameAndType 40 26), (0, u "COMPACT_STRINGS"), (1, .class_ 44), (1, u "java/lang/StringUTF16"), (0, u "compress"), (1, .methodref 42 48), (0, .nameAndType 49 50), (0, u "coderFromArrayLen"), (0, u "([BI)B"), (2, u "toBytes"), (53, .class_ 109), (1, u "java/lang/StringLatin1"), (32, u "()Z"), (34, .methodref 42 178), (0, .nameAndType 45 179), (0, u "([CII)[B"), (29, .methodref 10 210), (0, .nameAndType 5 211), (0, u "([BB)V"), (122, u "()I"), (0, .methodref 10 336), (0, .nameAndType 17 337), (0, u "()B"), (25, u "([BI)C"), (5, u "(C)Z"), (21, u "(II)V"), (35, u "(I)C"), (64, .methodref 10 493), (0, .nameAndType 494 142), (0, u "isLatin1"), (0, .methodref 107 496), (0, .nameAndType 497 363), (0, u "charAt"), (3, u "checkIndex"), (5, u "length"), (67, .class_ 576), (0, u "java/lang/CharSequence"), (22, u "CASE_INSENSITIVE_ORDER"), (0, u "Ljava/util/Comparator;"), (181, u "valueOf"), (0, u "(C)Ljava/lang/String;"), (226, u "([C)V"), (4, .methodref 107 1016), (0, .nameAndType 1017 369), (0, u "canEncode"), (0, .methodref 107 1019), (0, .nameAndType 53 1020), (0, u "(C)[B"), (32, .fieldref 1054 1055), (0, .class_ 1056), (0, .nameAndType 1057 1058), (0, u "jdk/internal/util/Preconditions"), (0, u "SIOOBE_FORMATTER"), (0, u "Ljava/util/function/BiFunction;"), (0, .methodref 1054 1060), (0, .nameAndType 501 1061), (0, u "(IILjava/util/function/BiFunction;)I"), (39, u "serialPersistentFields"), (0, u "[Ljava/io/ObjectStreamField;"), (0, .class_ 1104), (0, u "java/lang/String$CaseInsensitiveComparator"), (1, .class_ 1107), (0, u "java/io/Serializable"), (0, .class_ 1109), (0, u "java/lang/Comparable"), (0, .class_ 1111), (0, u "java/lang/constant/Constable"), (0, .class_ 1113), (0, u "java/lang/constant/ConstantDesc"), (2, u "serialVersionUID"), (0, u "J"), (3, u "REPL"), (0, u "C"), (2, u "LATIN1"), (1, u "UTF16")] 323

def k7m0 : Method := { name := "<init>", desc := "()V", sig := { parameters := [], returnType := none }, accessFlags := 1, code := none }
def k7c1 : Code := { maxStack := 5, maxLocals := 2, code := jdk_42_method_3_code, exceptionTable := #[], attributes := #[] }
def k7m1 : Method := { name := "<init>", desc := "([C)V", sig := { parameters := [(.array .char)], returnType := none }, accessFlags := 1, code := some k7c1 }
def k7c2 : Code := { maxStack := 2, maxLocals := 1, code := jdk_42_method_54_code, exceptionTable := #[], attributes := #[] }
def k7m2 : Method := { name := "length", desc := "()I", sig := { parameters := [], returnType := some .int }, accessFlags := 1, code := some k7c2 }
def k7c3 : Code := { maxStack := 2, maxLocals := 2, code := jdk_42_method_56_code, exceptionTable := #[], attributes := #[] }
def k7m3 : Method := { name := "charAt", desc := "(I)C", sig := { parameters := [.int], returnType := some .char }, accessFlags := 1, code := some k7c3 }
def k7c4 : Code := { maxStack := 4, maxLocals := 1, code := jdk_42_method_139_code, exceptionTable := #[], attributes := #[] }
def k7m4 : Method := { name := "valueOf", desc := "(C)Ljava/lang/String;", sig := { parameters := [.char], returnType := some (.object "java/lang/String") }, accessFlags := 9, code := some k7c4 }
def k7c5 : Code := { maxStack := 4, maxLocals := 6, code := jdk_42_method_149_code, exceptionTable := #[], attributes := #[] }
def k7m5 : Method := { name := "<init>", desc := "([CIILjava/lang/Void;)V", sig := { parameters := [(.array .char), .int, .int, (.object "java/lang/Void")], returnType := none }, accessFlags := 2, code := some k7c5 }
def k7c6 : Code := { maxStack := 2, maxLocals := 3, code := jdk_42_method_151_code, exceptionTable := #[], attributes := #[] }
def k7m6 : Method := { name := "<init>", desc := "([BB)V", sig := { parameters := [(.array .byte), .byte], returnType := none }, accessFlags := 0, code := some k7c6 }
def k7c7 : Code := { maxStack := 1, maxLocals := 1, code := jdk_42_method_152_code, exceptionTable := #[], attributes := #[] }
def k7m7 : Method := { name := "coder", desc := "()B", sig := { parameters := [], returnType := some .byte }, accessFlags := 0, code := some k7c7 }
def k7c8 : Code := { maxStack := 1, maxLocals := 1, code := jdk_42_method_154_code, exceptionTable := #[], attributes := #[] }
def k7m8 : Method := { name := "isLatin1", desc := "()Z", sig := { parameters := [], returnType := some .boolean }, accessFlags := 0, code := some k7c8 }
def k7c9 : Code := { maxStack := 3, maxLocals := 2, code := jdk_42_method_155_code, exceptionTable := #[], attributes := #[] }
def k7m9 : Method := { name := "checkIndex", desc := "(II)V", sig := { parameters := [.int, .int], returnType := none }, accessFlags := 8, code := some k7c9 }
/-- java/lang/String -/
def k7 : Class := { plain "java/lang/String" (some 0) with
  accessFlags := 49
  interfaces := #[2, 3, 4, 5, 6]
  cf := some (fileOf pool7 10 #[.nestMembers #[1103]] #[{ accessFlags := 1, nameIndex := 5, descriptorIndex := 6, attributes := #[] }, { accessFlags := 1, nameIndex := 5, descriptorIndex := 1010, attributes := #[] }, { accessFlags := 1, nameIndex := 507, descriptorIndex := 334, attributes := #[] }, { accessFlags := 1, nameIndex := 497, descriptorIndex := 427, attributes := #[] }, { accessFlags := 9, nameIndex := 782, descriptorIndex := 783, attributes := #[] }, { accessFlags := 2, nameIndex := 5, descriptorIndex := 29, attributes := #[] }, { accessFlags := 0, nameIndex := 5, descriptorIndex := 211, attributes := #[] }, { accessFlags := 0, nameIndex := 17, descriptorIndex := 337, attributes := #[] }, { accessFlags := 0, nameIndex := 494, descriptorIndex := 142, attributes := #[] }, { accessFlags := 8, nameIndex := 501, descriptorIndex := 391, attributes := #[] }] 49 2 #[1106, 1108, 575, 1110, 1112] #[{ accessFlags := 18, nameIndex := 13, descriptorIndex := 14, attributes := #[] }, { accessFlags := 18, nameIndex := 17, descriptorIndex := 18, attributes := #[] }, { accessFlags := 2, nameIndex := 21, descriptorIndex := 22, attributes := #[] }, { accessFlags := 2, nameIndex := 25, descriptorIndex := 26, attributes := #[] }, { accessFlags := 26, nameIndex := 1116, descriptorIndex := 1117, attributes := #[] }, { accessFlags := 24, nameIndex := 40, descriptorIndex := 26, attributes := #[] }, { accessFlags := 26, nameIndex := 1101, descriptorIndex := 1102, attributes := #[] }, { accessFlags := 26, nameIndex := 1121, descriptorIndex := 1122, attributes := #[] }, { accessFlags := 25, nameIndex := 599, descriptorIndex := 600, attributes := #[] }, { accessFlags := 24, nameIndex := 1125, descriptorIndex := 18, attributes := #[] }, { accessFlags := 24, nameIndex := 1127, descriptorIndex := 18, attributes := #[] }])
  fields := #[{ name := "value", type := (.array .byte), accessFlags := 18, slot := 0, constantValue := 0 }, { name := "coder", type := .byte, accessFlags := 18, slot := 1, constantValue := 0 }, { name := "hash", type := .int, accessFlags := 2, slot := 2, constantValue := 0 }, { name := "hashIsZero", type := .boolean, accessFlags := 2, slot := 3, constantValue := 0 }, { name := "serialVersionUID", type := .long, accessFlags := 26, slot := 0, constantValue := 0 }, { name := "COMPACT_STRINGS", type := .boolean, accessFlags := 24, slot := 1, constantValue := 0 }, { name := "serialPersistentFields", type := (.array (.object "java/io/ObjectStreamField")), accessFlags := 26, slot := 2, constantValue := 0 }, { name := "REPL", type := .char, accessFlags := 26, slot := 3, constantValue := 0 }, { name := "CASE_INSENSITIVE_ORDER", type := (.object "java/util/Comparator"), accessFlags := 25, slot := 4, constantValue := 0 }, { name := "LATIN1", type := .byte, accessFlags := 24, slot := 5, constantValue := 0 }, { name := "UTF16", type := .byte, accessFlags := 24, slot := 6, constantValue := 0 }]
  methods := #[k7m0, k7m1, k7m2, k7m3, k7m4, k7m5, k7m6, k7m7, k7m8, k7m9]
  instanceTypes := #[(.array .byte), .byte, .int, .boolean]
  staticTypes := #[.long, .boolean, (.array (.object "java/io/ObjectStreamField")), .char, (.object "java/util/Comparator"), .byte, .byte]
  resolved := Array.replicate 1451 none
  statics := some 0 }

def pool8 : Array CpInfo := pool [(1, .class_ 2), (0, u "io/quintet/Form"), (0, .class_ 4), (0, u "java/lang/Object")] 8

/-- io/quintet/Form -/
def k8 : Class := { plain "io/quintet/Form" (some 0) with
  accessFlags := 1536
  interfaces := #[]
  cf := some (fileOf pool8 1 #[] #[] 1536 3 #[] #[])
  fields := #[]
  methods := #[]
  instanceTypes := #[]
  staticTypes := #[]
  resolved := Array.replicate 13 none
  statics := none }

def pool9 : Array CpInfo := pool [(1, .methodref 2 3), (0, .class_ 4), (0, .nameAndType 5 6), (0, u "java/lang/Object"), (0, u "<init>"), (0, u "()V"), (0, .fieldref 8 9), (0, .class_ 10), (0, .nameAndType 11 12), (0, u "io/quintet/Alphabet"), (0, u "values"), (0, u "[B"), (0, .fieldref 8 14), (0, .nameAndType 15 16), (0, u "width"), (0, u "I"), (0, .fieldref 8 18), (0, .nameAndType 19 20), (0, u "characters"), (0, u "Ljava/lang/String;"), (0, .methodref 22 23), (0, .class_ 24), (0, .nameAndType 25 26), (0, u "java/util/Arrays"), (0, u "fill"), (0, u "([BB)V"), (0, .methodref 28 29), (0, .class_ 30), (0, .nameAndType 31 32), (0, u "java/lang/String"), (0, u "length"), (0, u "()I"), (0, .methodref 28 34), (0, .nameAndType 35 36), (0, u "charAt"), (0, u "(I)C"), (6, u "(ILjava/lang/String;)V"), (10, u "contains"), (0, u "(C)Z"), (43, u "LOWER_SPECIAL"), (0, u "Lio/quintet/Alphabet;"), (0, .class_ 102), (0, u "io/quintet/Form"), (0, u "LETTERS_AND_DIGITS")] 38

def k9c0 : Code := { maxStack := 3, maxLocals := 4, code := prog_1_method_1_code, exceptionTable := #[], attributes := #[] }
def k9m0 : Method := { name := "<init>", desc := "(ILjava/lang/String;)V", sig := { parameters := [.int, (.object "java/lang/String")], returnType := none }, accessFlags := 0, code := some k9c0 }
def k9c1 : Code := { maxStack := 2, maxLocals := 2, code := prog_1_method_3_code, exceptionTable := #[], attributes := #[] }
def k9m1 : Method := { name := "contains", desc := "(C)Z", sig := { parameters := [.char], returnType := some .boolean }, accessFlags := 0, code := some k9c1 }
/-- io/quintet/Alphabet -/
def k9 : Class := { plain "io/quintet/Alphabet" (some 0) with
  accessFlags := 48
  interfaces := #[8]
  cf := some (fileOf pool9 8 #[] #[{ accessFlags := 0, nameIndex := 5, descriptorIndex := 43, attributes := #[] }, { accessFlags := 0, nameIndex := 54, descriptorIndex := 55, attributes := #[] }] 48 2 #[101] #[{ accessFlags := 24, nameIndex := 99, descriptorIndex := 100, attributes := #[] }, { accessFlags := 26, nameIndex := 103, descriptorIndex := 20, attributes := #[] }, { accessFlags := 18, nameIndex := 15, descriptorIndex := 16, attributes := #[] }, { accessFlags := 18, nameIndex := 19, descriptorIndex := 20, attributes := #[] }, { accessFlags := 18, nameIndex := 11, descriptorIndex := 12, attributes := #[] }])
  fields := #[{ name := "LOWER_SPECIAL", type := (.object "io/quintet/Alphabet"), accessFlags := 24, slot := 0, constantValue := 0 }, { name := "LETTERS_AND_DIGITS", type := (.object "java/lang/String"), accessFlags := 26, slot := 1, constantValue := 0 }, { name := "width", type := .int, accessFlags := 18, slot := 0, constantValue := 0 }, { name := "characters", type := (.object "java/lang/String"), accessFlags := 18, slot := 1, constantValue := 0 }, { name := "values", type := (.array .byte), accessFlags := 18, slot := 2, constantValue := 0 }]
  methods := #[k9m0, k9m1]
  instanceTypes := #[.int, (.object "java/lang/String"), (.array .byte)]
  staticTypes := #[(.object "io/quintet/Alphabet"), (.object "java/lang/String")]
  resolved := Array.replicate 142 none
  statics := none }

def pool10 : Array CpInfo := pool [(2, .class_ 4), (1, u "java/lang/Object"), (0, u "<init>"), (0, u "()V"), (7, .class_ 16), (1, u "java/util/Arrays"), (57, .class_ 76), (1, u "java/util/Arrays$NaturalOrder"), (36, .class_ 115), (1, u "java/util/Arrays$LegacyMergeSort"), (1, u "Z"), (257, .class_ 376), (0, u "java/util/Arrays$ArrayList"), (68, u "$assertionsDisabled"), (269, u "MIN_ARRAY_SORT_GRAN"), (0, u "I"), (2, u "INSERTIONSORT_THRESHOLD"), (120, u "fill"), (9, u "([BB)V"), (124, .class_ 976), (0, u "java/util/Arrays$ArrayItr")] 52

def k10m0 : Method := { name := "<init>", desc := "()V", sig := { parameters := [], returnType := none }, accessFlags := 2, code := none }
def k10c1 : Code := { maxStack := 3, maxLocals := 4, code := jdk_65_method_109_code, exceptionTable := #[], attributes := #[] }
def k10m1 : Method := { name := "fill", desc := "([BB)V", sig := { parameters := [(.array .byte), .byte], returnType := none }, accessFlags := 9, code := some k10c1 }
/-- java/util/Arrays -/
def k10 : Class := { plain "java/util/Arrays" (some 0) with
  accessFlags := 49
  interfaces := #[]
  cf := some (fileOf pool10 14 #[.nestMembers #[975, 375, 113, 74]] #[{ accessFlags := 2, nameIndex := 5, descriptorIndex := 6, attributes := #[] }, { accessFlags := 9, nameIndex := 840, descriptorIndex := 850, attributes := #[] }] 49 2 #[] #[{ accessFlags := 26, nameIndex := 715, descriptorIndex := 716, attributes := #[] }, { accessFlags := 26, nameIndex := 719, descriptorIndex := 716, attributes := #[] }, { accessFlags := 4120, nameIndex := 445, descriptorIndex := 117, attributes := #[] }])
  fields := #[{ name := "MIN_ARRAY_SORT_GRAN", type := .int, accessFlags := 26, slot := 0, constantValue := 0 }, { name := "INSERTIONSORT_THRESHOLD", type := .int, accessFlags := 26, slot := 1, constantValue := 0 }, { name := "$assertionsDisabled", type := .boolean, accessFlags := 4120, slot := 2, constantValue := 0 }]
  methods := #[k10m0, k10m1]
  instanceTypes := #[]
  staticTypes := #[.int, .int, .boolean]
  resolved := Array.replicate 1029 none
  statics := none }

def pool11 : Array CpInfo := pool [(1, .class_ 2), (0, u "java/lang/String"), (1, .class_ 6), (1, u "java/lang/Object"), (0, u "<init>"), (0, u "()V"), (0, .methodref 1 10), (0, .nameAndType 11 12), (0, u "checkIndex"), (0, u "(II)V"), (1, .class_ 16), (1, u "java/lang/StringLatin1"), (36, u "([BI)C"), (36, u "canEncode"), (14, u "(C)Z"), (15, u "$assertionsDisabled"), (0, u "Z"), (98, .class_ 223), (1, u "java/lang/StringLatin1$LinesSpliterator"), (28, u "charAt"), (127, u "toBytes"), (1, u "(C)[B"), (7, .class_ 391), (0, u "java/lang/StringLatin1$CharsSpliterator")] 3

def k11m0 : Method := { name := "<init>", desc := "()V", sig := { parameters := [], returnType := none }, accessFlags := 0, code := none }
def k11c1 : Code := { maxStack := 2, maxLocals := 2, code := jdk_43_method_2_code, exceptionTable := #[], attributes := #[] }
def k11m1 : Method := { name := "charAt", desc := "([BI)C", sig := { parameters := [(.array .byte), .int], returnType := some .char }, accessFlags := 9, code := some k11c1 }
def k11c2 : Code := { maxStack := 2, maxLocals := 1, code := jdk_43_method_3_code, exceptionTable := #[], attributes := #[] }
def k11m2 : Method := { name := "canEncode", desc := "(C)Z", sig := { parameters := [.char], returnType := some .boolean }, accessFlags := 9, code := some k11c2 }
def k11c3 : Code := { maxStack := 4, maxLocals := 1, code := jdk_43_method_46_code, exceptionTable := #[], attributes := #[] }
def k11m3 : Method := { name := "toBytes", desc := "(C)[B", sig := { parameters := [.char], returnType := some (.array .byte) }, accessFlags := 9, code := some k11c3 }
/-- java/lang/StringLatin1 -/
def k11 : Class := { plain "java/lang/StringLatin1" (some 0) with
  accessFlags := 48
  interfaces := #[]
  cf := some (fileOf pool11 14 #[.nestMembers #[390, 221]] #[{ accessFlags := 0, nameIndex := 7, descriptorIndex := 8, attributes := #[] }, { accessFlags := 9, nameIndex := 252, descriptorIndex := 53, attributes := #[] }, { accessFlags := 9, nameIndex := 90, descriptorIndex := 105, attributes := #[] }, { accessFlags := 9, nameIndex := 380, descriptorIndex := 382, attributes := #[] }] 48 4 #[] #[{ accessFlags := 4120, nameIndex := 121, descriptorIndex := 122, attributes := #[] }])
  fields := #[{ name := "$assertionsDisabled", type := .boolean, accessFlags := 4120, slot := 0, constantValue := 0 }]
  methods := #[k11m0, k11m1, k11m2, k11m3]
  instanceTypes := #[]
  staticTypes := #[.boolean]
  resolved := Array.replicate 395 none
  statics := none }

def pool12 : Array CpInfo := pool [(2, .class_ 4), (1, u "java/lang/Object"), (0, u "<init>"), (0, u "()V"), (17, .class_ 26), (1, u "jdk/internal/util/Preconditions"), (6, u "checkIndex"), (21, .class_ 56), (0, u "jdk/internal/util/Preconditions$4"), (57, .class_ 115), (0, u "jdk/internal/util/Preconditions$1"), (7, u "SIOOBE_FORMATTER"), (0, u "Ljava/util/function/BiFunction;"), (0, .class_ 126), (0, u "jdk/internal/util/Preconditions$2"), (3, u "AIOOBE_FORMATTER"), (0, .class_ 132), (0, u "jdk/internal/util/Preconditions$3"), (3, u "IOOBE_FORMATTER"), (41, u "(IILjava/util/function/BiFunction;)I")] 15

def k12m0 : Method := { name := "<init>", desc := "()V", sig := { parameters := [], returnType := none }, accessFlags := 1, code := none }
def k12c1 : Code := { maxStack := 3, maxLocals := 3, code := jdk_41_method_11_code, exceptionTable := #[], attributes := #[] }
def k12m1 : Method := { name := "checkIndex", desc := "(IILjava/util/function/BiFunction;)I", sig := { parameters := [.int, .int, (.object "java/util/function/BiFunction")], returnType := some .int }, accessFlags := 9, code := some k12c1 }
/-- jdk/internal/util/Preconditions -/
def k12 : Class := { plain "jdk/internal/util/Preconditions" (some 0) with
  accessFlags := 33
  interfaces := #[]
  cf := some (fileOf pool12 24 #[.nestMembers #[55, 131, 125, 114]] #[{ accessFlags := 1, nameIndex := 5, descriptorIndex := 6, attributes := #[] }, { accessFlags := 9, nameIndex := 33, descriptorIndex := 178, attributes := #[] }] 33 2 #[] #[{ accessFlags := 25, nameIndex := 123, descriptorIndex := 124, attributes := #[] }, { accessFlags := 25, nameIndex := 130, descriptorIndex := 124, attributes := #[] }, { accessFlags := 25, nameIndex := 136, descriptorIndex := 124, attributes := #[] }])
  fields := #[{ name := "SIOOBE_FORMATTER", type := (.object "java/util/function/BiFunction"), accessFlags := 25, slot := 0, constantValue := 0 }, { name := "AIOOBE_FORMATTER", type := (.object "java/util/function/BiFunction"), accessFlags := 25, slot := 1, constantValue := 0 }, { name := "IOOBE_FORMATTER", type := (.object "java/util/function/BiFunction"), accessFlags := 25, slot := 2, constantValue := 0 }]
  methods := #[k12m0, k12m1]
  instanceTypes := #[]
  staticTypes := #[(.object "java/util/function/BiFunction"), (.object "java/util/function/BiFunction"), (.object "java/util/function/BiFunction")]
  resolved := Array.replicate 194 none
  statics := some 1 }

def pool13 : Array CpInfo := pool [(6, .class_ 8), (1, u "java/lang/Object"), (0, u "<init>"), (0, u "()V"), (1, .class_ 14), (1, u "java/lang/StringUTF16"), (31, u "$assertionsDisabled"), (0, u "Z"), (13, u "HI_BYTE_SHIFT"), (0, u "I"), (2, u "LO_BYTE_SHIFT"), (49, .methodref 12 116), (0, .nameAndType 117 118), (0, u "compress"), (0, u "([CI[BII)I"), (3, u "([CII)[B"), (138, u "coderFromArrayLen"), (0, u "([BI)B"), (106, .class_ 371), (1, u "java/lang/StringUTF16$LinesSpliterator"), (58, u "MAX_LENGTH"), (196, .class_ 628), (0, u "java/lang/StringUTF16$CodePointsSpliterator"), (0, .class_ 630), (0, u "java/lang/StringUTF16$CharsSpliterator")] 4

def k13m0 : Method := { name := "<init>", desc := "()V", sig := { parameters := [], returnType := none }, accessFlags := 0, code := none }
def k13c1 : Code := { maxStack := 2, maxLocals := 2, code := jdk_52_method_15_code, exceptionTable := #[], attributes := #[] }
def k13m1 : Method := { name := "coderFromArrayLen", desc := "([BI)B", sig := { parameters := [(.array .byte), .int], returnType := some .byte }, accessFlags := 8, code := some k13c1 }
def k13c2 : Code := { maxStack := 5, maxLocals := 6, code := jdk_52_method_16_code, exceptionTable := #[], attributes := #[] }
def k13m2 : Method := { name := "compress", desc := "([CII)[B", sig := { parameters := [(.array .char), .int, .int], returnType := some (.array .byte) }, accessFlags := 9, code := some k13c2 }
def k13c3 : Code := { maxStack := 3, maxLocals := 7, code := jdk_52_method_21_code, exceptionTable := #[], attributes := #[] }
def k13m3 : Method := { name := "compress", desc := "([CI[BII)I", sig := { parameters := [(.array .char), .int, (.array .byte), .int, .int], returnType := some .int }, accessFlags := 9, code := some k13c3 }
/-- java/lang/StringUTF16 -/
def k13 : Class := { plain "java/lang/StringUTF16" (some 0) with
  accessFlags := 48
  interfaces := #[]
  cf := some (fileOf pool13 12 #[.nestMembers #[627, 629, 369]] #[{ accessFlags := 0, nameIndex := 9, descriptorIndex := 10, attributes := #[] }, { accessFlags := 8, nameIndex := 261, descriptorIndex := 262, attributes := #[] }, { accessFlags := 9, nameIndex := 117, descriptorIndex := 122, attributes := #[] }, { accessFlags := 9, nameIndex := 117, descriptorIndex := 118, attributes := #[] }] 48 6 #[] #[{ accessFlags := 26, nameIndex := 61, descriptorIndex := 62, attributes := #[] }, { accessFlags := 26, nameIndex := 65, descriptorIndex := 62, attributes := #[] }, { accessFlags := 24, nameIndex := 430, descriptorIndex := 62, attributes := #[] }, { accessFlags := 4120, nameIndex := 46, descriptorIndex := 47, attributes := #[] }])
  fields := #[{ name := "HI_BYTE_SHIFT", type := .int, accessFlags := 26, slot := 0, constantValue := 0 }, { name := "LO_BYTE_SHIFT", type := .int, accessFlags := 26, slot := 1, constantValue := 0 }, { name := "MAX_LENGTH", type := .int, accessFlags := 24, slot := 2, constantValue := 0 }, { name := "$assertionsDisabled", type := .boolean, accessFlags := 4120, slot := 3, constantValue := 0 }]
  methods := #[k13m0, k13m1, k13m2, k13m3]
  instanceTypes := #[]
  staticTypes := #[.int, .int, .int, .boolean]
  resolved := Array.replicate 635 none
  statics := none }

def pool14 : Array CpInfo := pool [(9, u "<init>"), (6, .class_ 18), (1, u "java/lang/Object"), (0, u "()V"), (1, .class_ 23), (1, u "jdk/internal/util/ArraysSupport"), (0, u "LOG2_ARRAY_LONG_INDEX_SCALE"), (0, u "I"), (2, u "U"), (0, u "Ljdk/internal/misc/Unsafe;"), (8, u "BIG_ENDIAN"), (0, u "Z"), (8, u "LOG2_BYTE_BIT_SIZE"), (4, u "LOG2_ARRAY_INT_INDEX_SCALE"), (54, u "JLA"), (0, u "Ljdk/internal/access/JavaLangAccess;"), (11, u "LOG2_ARRAY_BOOLEAN_INDEX_SCALE"), (9, u "LOG2_ARRAY_BYTE_INDEX_SCALE"), (5, u "LOG2_ARRAY_CHAR_INDEX_SCALE"), (5, u "LOG2_ARRAY_SHORT_INDEX_SCALE"), (18, u "LOG2_ARRAY_FLOAT_INDEX_SCALE"), (24, u "LOG2_ARRAY_DOUBLE_INDEX_SCALE"), (89, u "T_BOOLEAN"), (2, u "T_CHAR"), (1, u "T_FLOAT"), (1, u "T_DOUBLE"), (1, u "T_BYTE"), (1, u "T_SHORT"), (1, u "T_INT"), (1, u "T_LONG"), (1, u "SOFT_MAX_ARRAY_LENGTH")] 83

def k14m0 : Method := { name := "<init>", desc := "()V", sig := { parameters := [], returnType := none }, accessFlags := 2, code := none }
/-- jdk/internal/util/ArraysSupport -/
def k14 : Class := { plain "jdk/internal/util/ArraysSupport" (some 0) with
  accessFlags := 33
  interfaces := #[]
  cf := some (fileOf pool14 21 #[] #[{ accessFlags := 2, nameIndex := 9, descriptorIndex := 19, attributes := #[] }] 33 16 #[] #[{ accessFlags := 24, nameIndex := 28, descriptorIndex := 29, attributes := #[] }, { accessFlags := 26, nameIndex := 38, descriptorIndex := 39, attributes := #[] }, { accessFlags := 25, nameIndex := 121, descriptorIndex := 25, attributes := #[] }, { accessFlags := 25, nameIndex := 131, descriptorIndex := 25, attributes := #[] }, { accessFlags := 25, nameIndex := 137, descriptorIndex := 25, attributes := #[] }, { accessFlags := 25, nameIndex := 143, descriptorIndex := 25, attributes := #[] }, { accessFlags := 25, nameIndex := 53, descriptorIndex := 25, attributes := #[] }, { accessFlags := 25, nameIndex := 24, descriptorIndex := 25, attributes := #[] }, { accessFlags := 25, nameIndex := 162, descriptorIndex := 25, attributes := #[] }, { accessFlags := 25, nameIndex := 187, descriptorIndex := 25, attributes := #[] }, { accessFlags := 26, nameIndex := 48, descriptorIndex := 25, attributes := #[] }, { accessFlags := 25, nameIndex := 277, descriptorIndex := 25, attributes := #[] }, { accessFlags := 25, nameIndex := 280, descriptorIndex := 25, attributes := #[] }, { accessFlags := 25, nameIndex := 282, descriptorIndex := 25, attributes := #[] }, { accessFlags := 25, nameIndex := 284, descriptorIndex := 25, attributes := #[] }, { accessFlags := 25, nameIndex := 286, descriptorIndex := 25, attributes := #[] }, { accessFlags := 25, nameIndex := 288, descriptorIndex := 25, attributes := #[] }, { accessFlags := 25, nameIndex := 290, descriptorIndex := 25, attributes := #[] }, { accessFlags := 25, nameIndex := 292, descriptorIndex := 25, attributes := #[] }, { accessFlags := 26, nameIndex := 108, descriptorIndex := 109, attributes := #[] }, { accessFlags := 25, nameIndex := 294, descriptorIndex := 25, attributes := #[] }])
  fields := #[{ name := "U", type := (.object "jdk/internal/misc/Unsafe"), accessFlags := 24, slot := 0, constantValue := 0 }, { name := "BIG_ENDIAN", type := .boolean, accessFlags := 26, slot := 1, constantValue := 0 }, { name := "LOG2_ARRAY_BOOLEAN_INDEX_SCALE", type := .int, accessFlags := 25, slot := 2, constantValue := 0 }, { name := "LOG2_ARRAY_BYTE_INDEX_SCALE", type := .int, accessFlags := 25, slot := 3, constantValue := 0 }, { name := "LOG2_ARRAY_CHAR_INDEX_SCALE", type := .int, accessFlags := 25, slot := 4, constantValue := 0 }, { name := "LOG2_ARRAY_SHORT_INDEX_SCALE", type := .int, accessFlags := 25, slot := 5, constantValue := 0 }, { name := "LOG2_ARRAY_INT_INDEX_SCALE", type := .int, accessFlags := 25, slot := 6, constantValue := 0 }, { name := "LOG2_ARRAY_LONG_INDEX_SCALE", type := .int, accessFlags := 25, slot := 7, constantValue := 0 }, { name := "LOG2_ARRAY_FLOAT_INDEX_SCALE", type := .int, accessFlags := 25, slot := 8, constantValue := 0 }, { name := "LOG2_ARRAY_DOUBLE_INDEX_SCALE", type := .int, accessFlags := 25, slot := 9, constantValue := 0 }, { name := "LOG2_BYTE_BIT_SIZE", type := .int, accessFlags := 26, slot := 10, constantValue := 0 }, { name := "T_BOOLEAN", type := .int, accessFlags := 25, slot := 11, constantValue := 0 }, { name := "T_CHAR", type := .int, accessFlags := 25, slot := 12, constantValue := 0 }, { name := "T_FLOAT", type := .int, accessFlags := 25, slot := 13, constantValue := 0 }, { name := "T_DOUBLE", type := .int, accessFlags := 25, slot := 14, constantValue := 0 }, { name := "T_BYTE", type := .int, accessFlags := 25, slot := 15, constantValue := 0 }, { name := "T_SHORT", type := .int, accessFlags := 25, slot := 16, constantValue := 0 }, { name := "T_INT", type := .int, accessFlags := 25, slot := 17, constantValue := 0 }, { name := "T_LONG", type := .int, accessFlags := 25, slot := 18, constantValue := 0 }, { name := "JLA", type := (.object "jdk/internal/access/JavaLangAccess"), accessFlags := 26, slot := 19, constantValue := 0 }, { name := "SOFT_MAX_ARRAY_LENGTH", type := .int, accessFlags := 25, slot := 20, constantValue := 0 }]
  methods := #[k14m0]
  instanceTypes := #[]
  staticTypes := #[(.object "jdk/internal/misc/Unsafe"), .boolean, .int, .int, .int, .int, .int, .int, .int, .int, .int, .int, .int, .int, .int, .int, .int, .int, .int, (.object "jdk/internal/access/JavaLangAccess"), .int]
  resolved := Array.replicate 378 none
  statics := none }

def pool15 : Array CpInfo := pool [(1, u "java/lang/Cloneable"), (0, .class_ 1), (0, u "java/lang/Object"), (0, .class_ 3)] 3

/-- java/lang/Cloneable -/
def k15 : Class := { plain "java/lang/Cloneable" (some 0) with
  accessFlags := 1537
  interfaces := #[]
  cf := some (fileOf pool15 2 #[] #[] 1537 4 #[] #[])
  fields := #[]
  methods := #[]
  instanceTypes := #[]
  staticTypes := #[]
  resolved := Array.replicate 8 none
  statics := none }

/-- the primitive byte -/
def k16 : Class := { plain "byte" none with kind := .primitive 'B', accessFlags := 0x411 }
/-- [B -/
def k17 : Class := { plain "[B" (some 0) with kind := .array 16 .byte, interfaces := #[15, 2], accessFlags := 1041 }

/-- the primitive char -/
def k18 : Class := { plain "char" none with kind := .primitive 'C', accessFlags := 0x411 }
/-- [C -/
def k19 : Class := { plain "[C" (some 0) with kind := .array 18 .char, interfaces := #[15, 2], accessFlags := 1041 }

/-- the primitive int -/
def k20 : Class := { plain "int" none with kind := .primitive 'I', accessFlags := 0x411 }
/-- [I -/
def k21 : Class := { plain "[I" (some 0) with kind := .array 20 .int, interfaces := #[15, 2], accessFlags := 1041 }

def heap : Heap := #[{ cls := 7, slots := #[.long 0, .int 1, .null, .int 0, .null, .int 0, .int 0], vm := .statics 7 },
  { cls := 12, slots := #[.null, .null, .null], vm := .statics 12 }]
def classes : Array Class := #[k0, k1, k2, k3, k4, k5, k6, k7, k8, k9, k10, k11, k12, k13, k14, k15, k16, k17, k18, k19, k20, k21]
def interned : List (Array UInt16 × Addr) := []
def slotsUsed : Nat := 10
def theMethod : MethodId := ⟨1, 1⟩
def args0 : Array Value := #[.int 2, .int 65, .int 66, .int 67, .int 70, .int 1]
def aboutOver (below : List Frame) : State where
  vm := { classes := classes, interned := interned.toArray }
  heap := heap
  slotsUsed := slotsUsed
  threads := #[{ frames := .invoking theMethod args0 :: below }]
def below0 : List Frame := [.native { method := ⟨0, 0⟩, args := #[] }]
def about1 : State := aboutOver below0
def p0 : Program := .bare "" "" ""
def e0 : Env := launch0.env 0 0 0
theorem w_frames : about1.frames = Frame.invoking theMethod args0 :: below0 := rfl
set_option maxRecDepth 65536 in
theorem w_args : argsFit about1.vm theMethod args0 = true := by decide +kernel
set_option maxRecDepth 65536 in
theorem w_heap : heapFits about1 = true := by decide +kernel
set_option maxRecDepth 65536 in
theorem w_runnable : about1.curStatus? = some .runnable := by decide +kernel
set_option maxRecDepth 65536 in
theorem w_alone : about1.alone = true := by decide +kernel
set_option maxRecDepth 65536 in
theorem w_named : about1.methodNamed? x = some theMethod := by decide +kernel
set_option maxRecDepth 65536 in
theorem w_hears : about1.hears theMethod below0 = true := by decide +kernel
set_option maxRecDepth 65536 in
theorem w_ripe : about1.ripe theMethod args0 below0 = true := by decide +kernel
theorem w_running : about1.status = .running := rfl
set_option maxRecDepth 65536 in
theorem w_room : about1.hasRoom e0.platform room_1 = true :=
  launch0.hasRoom_least _ room_1 (by decide +kernel) (by decide +kernel) (by decide +kernel) (by decide +kernel) (by decide +kernel) (by decide +kernel)
theorem allAtoms_all (ts : List Jvm.Cond) (a : Array Jvm.Value) (st : Jvm.State) : (allAtoms ts).before a st = ts.all (fun c => c.before a st) := by
  induction ts with
  | nil => rfl
  | cons c t ih =>
    show (Jvm.Cond.and c (allAtoms t)).before a st = _
    rw [Jvm.Cond.before_and, ih, List.all_cons]
def words1 : List Jvm.Cond := Jvm.Cond.code x code maxLocals ret :: tables_1
/-- a 'code' word, met by the world's own term for the bytes: nothing is compared byte by byte -/
theorem code_word {y : MethodName} {bytes : ByteArray} {mx : Nat} {rt : Option FieldType} {a : Array Value} {s : State} {m : MethodId} {meth : Method} {c : Code} (h1 : s.methodNamed? y = some m) (h2 : s.vm.method? m = some meth) (h3 : meth.code = some c) (h4 : c.code = bytes)
    (h5 : (c.maxLocals == mx && c.exceptionTable.isEmpty && decide (c.maxStack ≤ mostOperands) && decide (meth.sig.returnType = rt) && !meth.locks && decide (parseMethodDescriptor y.desc = some meth.sig)) = true) : (Jvm.Cond.code y bytes mx rt).before a s = true := by
  simp only [Bool.and_eq_true, beq_iff_eq, Bool.not_eq_true', decide_eq_true_eq] at h5
  obtain ⟨⟨⟨⟨⟨g1, g2⟩, g3⟩, g4⟩, g5⟩, g6⟩ := h5
  simp [Cond.before, Cond.holds, Cond.value, h1, h2, h3, h4, g1, g2, g3, g4, g5, g6]
def isCode : Jvm.Cond → Bool
  | .code _ _ _ _ => true
  | _ => false
theorem all_split {L : List Jvm.Cond} {P : Jvm.Cond → Bool} (h1 : L.all (fun c => isCode c || P c) = true) (h2 : ∀ c ∈ L.filter isCode, P c = true) : L.all P = true := by
  refine List.all_eq_true.mpr fun c hc => ?_
  have h := List.all_eq_true.mp h1 c hc
  rcases Bool.eq_false_or_eq_true (isCode c) with hi | hi
  · exact h2 c (List.mem_filter.mpr ⟨hc, hi⟩)
  · simpa [hi] using h
set_option maxRecDepth 65536 in
theorem w_c0 : (Jvm.Cond.code x code maxLocals ret).before args0 about1 = true := code_word (m := ⟨1, 1⟩) (meth := k1m1) (c := k1c1) (by decide +kernel) rfl rfl rfl (by decide +kernel)
set_option maxRecDepth 65536 in
theorem w_c1 : (Jvm.Cond.code ({ cls := "io/quintet/Alphabet", name := "<init>", desc := "(ILjava/lang/String;)V" } : Jvm.MethodName) prog_1_method_1_code (4 : Nat) (Option.none : Option Jvm.ClassFile.FieldType)).before args0 about1 = true := code_word (m := ⟨9, 0⟩) (meth := k9m0) (c := k9c0) (by decide +kernel) rfl rfl rfl (by decide +kernel)
set_option maxRecDepth 65536 in
theorem w_c2 : (Jvm.Cond.code ({ cls := "java/lang/Object", name := "<init>", desc := "()V" } : Jvm.MethodName) object_method_1_code (1 : Nat) (Option.none : Option Jvm.ClassFile.FieldType)).before args0 about1 = true := code_word (m := ⟨0, 0⟩) (meth := k0m0) (c := k0c0) (by decide +kernel) rfl rfl rfl (by decide +kernel)
set_option maxRecDepth 65536 in
theorem w_c3 : (Jvm.Cond.code ({ cls := "java/util/Arrays", name := "fill", desc := "([BB)V" } : Jvm.MethodName) jdk_65_method_109_code (4 : Nat) (Option.none : Option Jvm.ClassFile.FieldType)).before args0 about1 = true := code_word (m := ⟨10, 1⟩) (meth := k10m1) (c := k10c1) (by decide +kernel) rfl rfl rfl (by decide +kernel)
set_option maxRecDepth 65536 in
theorem w_c4 : (Jvm.Cond.code ({ cls := "java/lang/String", name := "length", desc := "()I" } : Jvm.MethodName) jdk_42_method_54_code (1 : Nat) (Option.some Jvm.ClassFile.FieldType.int)).before args0 about1 = true := code_word (m := ⟨7, 2⟩) (meth := k7m2) (c := k7c2) (by decide +kernel) rfl rfl rfl (by decide +kernel)
set_option maxRecDepth 65536 in
theorem w_c5 : (Jvm.Cond.code ({ cls := "java/lang/String", name := "coder", desc := "()B" } : Jvm.MethodName) jdk_42_method_152_code (1 : Nat) (Option.some Jvm.ClassFile.FieldType.byte)).before args0 about1 = true := code_word (m := ⟨7, 7⟩) (meth := k7m7) (c := k7c7) (by decide +kernel) rfl rfl rfl (by decide +kernel)
set_option maxRecDepth 65536 in
theorem w_c6 : (Jvm.Cond.code ({ cls := "io/quintet/Alphabet", name := "contains", desc := "(C)Z" } : Jvm.MethodName) prog_1_method_3_code (2 : Nat) (Option.some Jvm.ClassFile.FieldType.boolean)).before args0 about1 = true := code_word (m := ⟨9, 1⟩) (meth := k9m1) (c := k9c1) (by decide +kernel) rfl rfl rfl (by decide +kernel)
set_option maxRecDepth 65536 in
theorem w_c7 : (Jvm.Cond.code ({ cls := "java/lang/String", name := "valueOf", desc := "(C)Ljava/lang/String;" } : Jvm.MethodName) jdk_42_method_139_code (1 : Nat) (Option.some (Jvm.ClassFile.FieldType.object "java/lang/String"))).before args0 about1 = true := code_word (m := ⟨7, 4⟩) (meth := k7m4) (c := k7c4) (by decide +kernel) rfl rfl rfl (by decide +kernel)
set_option maxRecDepth 65536 in
theorem w_c8 : (Jvm.Cond.code ({ cls := "java/lang/StringLatin1", name := "canEncode", desc := "(C)Z" } : Jvm.MethodName) jdk_43_method_3_code (1 : Nat) (Option.some Jvm.ClassFile.FieldType.boolean)).before args0 about1 = true := code_word (m := ⟨11, 2⟩) (meth := k11m2) (c := k11c2) (by decide +kernel) rfl rfl rfl (by decide +kernel)
set_option maxRecDepth 65536 in
theorem w_c9 : (Jvm.Cond.code ({ cls := "java/lang/StringLatin1", name := "toBytes", desc := "(C)[B" } : Jvm.MethodName) jdk_43_method_46_code (1 : Nat) (Option.some (Jvm.ClassFile.FieldType.array Jvm.ClassFile.FieldType.byte))).before args0 about1 = true := code_word (m := ⟨11, 3⟩) (meth := k11m3) (c := k11c3) (by decide +kernel) rfl rfl rfl (by decide +kernel)
set_option maxRecDepth 65536 in
theorem w_c10 : (Jvm.Cond.code ({ cls := "java/lang/String", name := "<init>", desc := "([BB)V" } : Jvm.MethodName) jdk_42_method_151_code (3 : Nat) (Option.none : Option Jvm.ClassFile.FieldType)).before args0 about1 = true := code_word (m := ⟨7, 6⟩) (meth := k7m6) (c := k7c6) (by decide +kernel) rfl rfl rfl (by decide +kernel)
set_option maxRecDepth 65536 in
theorem w_c11 : (Jvm.Cond.code ({ cls := "java/lang/String", name := "charAt", desc := "(I)C" } : Jvm.MethodName) jdk_42_method_56_code (2 : Nat) (Option.some Jvm.ClassFile.FieldType.char)).before args0 about1 = true := code_word (m := ⟨7, 3⟩) (meth := k7m3) (c := k7c3) (by decide +kernel) rfl rfl rfl (by decide +kernel)
set_option maxRecDepth 65536 in
theorem w_c12 : (Jvm.Cond.code ({ cls := "java/lang/String", name := "isLatin1", desc := "()Z" } : Jvm.MethodName) jdk_42_method_154_code (1 : Nat) (Option.some Jvm.ClassFile.FieldType.boolean)).before args0 about1 = true := code_word (m := ⟨7, 8⟩) (meth := k7m8) (c := k7c8) (by decide +kernel) rfl rfl rfl (by decide +kernel)
set_option maxRecDepth 65536 in
theorem w_c13 : (Jvm.Cond.code ({ cls := "java/lang/StringLatin1", name := "charAt", desc := "([BI)C" } : Jvm.MethodName) jdk_43_method_2_code (2 : Nat) (Option.some Jvm.ClassFile.FieldType.char)).before args0 about1 = true := code_word (m := ⟨11, 1⟩) (meth := k11m1) (c := k11c1) (by decide +kernel) rfl rfl rfl (by decide +kernel)
set_option maxRecDepth 65536 in
theorem w_c14 : (Jvm.Cond.code ({ cls := "java/lang/String", name := "checkIndex", desc := "(II)V" } : Jvm.MethodName) jdk_42_method_155_code (2 : Nat) (Option.none : Option Jvm.ClassFile.FieldType)).before args0 about1 = true := code_word (m := ⟨7, 9⟩) (meth := k7m9) (c := k7c9) (by decide +kernel) rfl rfl rfl (by decide +kernel)
set_option maxRecDepth 65536 in
theorem w_c15 : (Jvm.Cond.code ({ cls := "jdk/internal/util/Preconditions", name := "checkIndex", desc := "(IILjava/util/function/BiFunction;)I" } : Jvm.MethodName) jdk_41_method_11_code (3 : Nat) (Option.some Jvm.ClassFile.FieldType.int)).before args0 about1 = true := code_word (m := ⟨12, 1⟩) (meth := k12m1) (c := k12c1) (by decide +kernel) rfl rfl rfl (by decide +kernel)
set_option maxRecDepth 65536 in
theorem w_c16 : (Jvm.Cond.code ({ cls := "java/lang/String", name := "<init>", desc := "([C)V" } : Jvm.MethodName) jdk_42_method_3_code (2 : Nat) (Option.none : Option Jvm.ClassFile.FieldType)).before args0 about1 = true := code_word (m := ⟨7, 1⟩) (meth := k7m1) (c := k7c1) (by decide +kernel) rfl rfl rfl (by decide +kernel)
set_option maxRecDepth 65536 in
theorem w_c17 : (Jvm.Cond.code ({ cls := "java/lang/String", name := "<init>", desc := "([CIILjava/lang/Void;)V" } : Jvm.MethodName) jdk_42_method_149_code (6 : Nat) (Option.none : Option Jvm.ClassFile.FieldType)).before args0 about1 = true := code_word (m := ⟨7, 5⟩) (meth := k7m5) (c := k7c5) (by decide +kernel) rfl rfl rfl (by decide +kernel)
set_option maxRecDepth 65536 in
theorem w_c18 : (Jvm.Cond.code ({ cls := "java/lang/StringUTF16", name := "compress", desc := "([CII)[B" } : Jvm.MethodName) jdk_52_method_16_code (6 : Nat) (Option.some (Jvm.ClassFile.FieldType.array Jvm.ClassFile.FieldType.byte))).before args0 about1 = true := code_word (m := ⟨13, 2⟩) (meth := k13m2) (c := k13c2) (by decide +kernel) rfl rfl rfl (by decide +kernel)
set_option maxRecDepth 65536 in
theorem w_c19 : (Jvm.Cond.code ({ cls := "java/lang/StringUTF16", name := "compress", desc := "([CI[BII)I" } : Jvm.MethodName) jdk_52_method_21_code (7 : Nat) (Option.some Jvm.ClassFile.FieldType.int)).before args0 about1 = true := code_word (m := ⟨13, 3⟩) (meth := k13m3) (c := k13c3) (by decide +kernel) rfl rfl rfl (by decide +kernel)
set_option maxRecDepth 65536 in
theorem w_c20 : (Jvm.Cond.code ({ cls := "java/lang/StringUTF16", name := "coderFromArrayLen", desc := "([BI)B" } : Jvm.MethodName) jdk_52_method_15_code (2 : Nat) (Option.some Jvm.ClassFile.FieldType.byte)).before args0 about1 = true := code_word (m := ⟨13, 1⟩) (meth := k13m1) (c := k13c1) (by decide +kernel) rfl rfl rfl (by decide +kernel)
def codes1 : List Jvm.Cond := [Jvm.Cond.code x code maxLocals ret, Jvm.Cond.code ({ cls := "io/quintet/Alphabet", name := "<init>", desc := "(ILjava/lang/String;)V" } : Jvm.MethodName) prog_1_method_1_code (4 : Nat) (Option.none : Option Jvm.ClassFile.FieldType), Jvm.Cond.code ({ cls := "java/lang/Object", name := "<init>", desc := "()V" } : Jvm.MethodName) object_method_1_code (1 : Nat) (Option.none : Option Jvm.ClassFile.FieldType), Jvm.Cond.code ({ cls := "java/util/Arrays", name := "fill", desc := "([BB)V" } : Jvm.MethodName) jdk_65_method_109_code (4 : Nat) (Option.none : Option Jvm.ClassFile.FieldType), Jvm.Cond.code ({ cls := "java/lang/String", name := "length", desc := "()I" } : Jvm.MethodName) jdk_42_method_54_code (1 : Nat) (Option.some Jvm.ClassFile.FieldType.int), Jvm.Cond.code ({ cls := "java/lang/String", name := "coder", desc := "()B" } : Jvm.MethodName) jdk_42_method_152_code (1 : Nat) (Option.some Jvm.ClassFile.FieldType.byte), Jvm.Cond.code ({ cls := "io/quintet/Alphabet", name := "contains", desc := "(C)Z" } : Jvm.MethodName) prog_1_method_3_code (2 : Nat) (Option.some Jvm.ClassFile.FieldType.boolean), Jvm.Cond.code ({ cls := "java/lang/String", name := "valueOf", desc := "(C)Ljava/lang/String;" } : Jvm.MethodName) jdk_42_method_139_code (1 : Nat) (Option.some (Jvm.ClassFile.FieldType.object "java/lang/String")), Jvm.Cond.code ({ cls := "java/lang/StringLatin1", name := "canEncode", desc := "(C)Z" } : Jvm.MethodName) jdk_43_method_3_code (1 : Nat) (Option.some Jvm.ClassFile.FieldType.boolean), Jvm.Cond.code ({ cls := "java/lang/StringLatin1", name := "toBytes", desc := "(C)[B" } : Jvm.MethodName) jdk_43_method_46_code (1 : Nat) (Option.some (Jvm.ClassFile.FieldType.array Jvm.ClassFile.FieldType.byte)), Jvm.Cond.code ({ cls := "java/lang/String", name := "<init>", desc := "([BB)V" } : Jvm.MethodName) jdk_42_method_151_code (3 : Nat) (Option.none : Option Jvm.ClassFile.FieldType), Jvm.Cond.code ({ cls := "java/lang/String", name := "charAt", desc := "(I)C" } : Jvm.MethodName) jdk_42_method_56_code (2 : Nat) (Option.some Jvm.ClassFile.FieldType.char), Jvm.Cond.code ({ cls := "java/lang/String", name := "isLatin1", desc := "()Z" } : Jvm.MethodName) jdk_42_method_154_code (1 : Nat) (Option.some Jvm.ClassFile.FieldType.boolean), Jvm.Cond.code ({ cls := "java/lang/StringLatin1", name := "charAt", desc := "([BI)C" } : Jvm.MethodName) jdk_43_method_2_code (2 : Nat) (Option.some Jvm.ClassFile.FieldType.char), Jvm.Cond.code ({ cls := "java/lang/String", name := "checkIndex", desc := "(II)V" } : Jvm.MethodName) jdk_42_method_155_code (2 : Nat) (Option.none : Option Jvm.ClassFile.FieldType), Jvm.Cond.code ({ cls := "jdk/internal/util/Preconditions", name := "checkIndex", desc := "(IILjava/util/function/BiFunction;)I" } : Jvm.MethodName) jdk_41_method_11_code (3 : Nat) (Option.some Jvm.ClassFile.FieldType.int), Jvm.Cond.code ({ cls := "java/lang/String", name := "<init>", desc := "([C)V" } : Jvm.MethodName) jdk_42_method_3_code (2 : Nat) (Option.none : Option Jvm.ClassFile.FieldType), Jvm.Cond.code ({ cls := "java/lang/String", name := "<init>", desc := "([CIILjava/lang/Void;)V" } : Jvm.MethodName) jdk_42_method_149_code (6 : Nat) (Option.none : Option Jvm.ClassFile.FieldType), Jvm.Cond.code ({ cls := "java/lang/StringUTF16", name := "compress", desc := "([CII)[B" } : Jvm.MethodName) jdk_52_method_16_code (6 : Nat) (Option.some (Jvm.ClassFile.FieldType.array Jvm.ClassFile.FieldType.byte)), Jvm.Cond.code ({ cls := "java/lang/StringUTF16", name := "compress", desc := "([CI[BII)I" } : Jvm.MethodName) jdk_52_method_21_code (7 : Nat) (Option.some Jvm.ClassFile.FieldType.int), Jvm.Cond.code ({ cls := "java/lang/StringUTF16", name := "coderFromArrayLen", desc := "([BI)B" } : Jvm.MethodName) jdk_52_method_15_code (2 : Nat) (Option.some Jvm.ClassFile.FieldType.byte)]
set_option maxRecDepth 65536 in
theorem codes_eq : words1.filter isCode = codes1 := rfl
theorem w_codes : ∀ c ∈ words1.filter isCode, c.before args0 about1 = true := by
  rw [codes_eq]
  intro c hc
  simp only [codes1, List.mem_cons, List.not_mem_nil, or_false] at hc
  rcases hc with rfl | rfl | rfl | rfl | rfl | rfl | rfl | rfl | rfl | rfl | rfl | rfl | rfl | rfl | rfl | rfl | rfl | rfl | rfl | rfl | rfl
  · exact w_c0
  · exact w_c1
  · exact w_c2
  · exact w_c3
  · exact w_c4
  · exact w_c5
  · exact w_c6
  · exact w_c7
  · exact w_c8
  · exact w_c9
  · exact w_c10
  · exact w_c11
  · exact w_c12
  · exact w_c13
  · exact w_c14
  · exact w_c15
  · exact w_c16
  · exact w_c17
  · exact w_c18
  · exact w_c19
  · exact w_c20
set_option maxRecDepth 65536 in
theorem w_t1 : (words1.take 24).all (fun c => isCode c || c.before args0 about1) = true := by decide +kernel
set_option maxRecDepth 65536 in
theorem w_t2 : ((words1.drop 24).take 24).all (fun c => isCode c || c.before args0 about1) = true := by decide +kernel
set_option maxRecDepth 65536 in
theorem w_t3 : (((words1.drop 24).drop 24).take 24).all (fun c => isCode c || c.before args0 about1) = true := by decide +kernel
set_option maxRecDepth 65536 in
theorem w_t4 : ((((words1.drop 24).drop 24).drop 24).take 24).all (fun c => isCode c || c.before args0 about1) = true := by decide +kernel
set_option maxRecDepth 65536 in
theorem w_t5 : ((((words1.drop 24).drop 24).drop 24).drop 24).all (fun c => isCode c || c.before args0 about1) = true := by decide +kernel
theorem w_tables : (allAtoms (Jvm.Cond.code x code maxLocals ret :: tables_1)).before args0 about1 = true := by
  rw [allAtoms_all]
  show words1.all (fun c => c.before args0 about1) = true
  refine all_split ?_ w_codes
  rw [← List.take_append_drop 24 words1, List.all_append, w_t1, ← List.take_append_drop 24 (words1.drop 24), List.all_append, w_t2, ← List.take_append_drop 24 ((words1.drop 24).drop 24), List.all_append, w_t3, ← List.take_append_drop 24 (((words1.drop 24).drop 24).drop 24), List.all_append, w_t4, w_t5]
  rfl
set_option maxRecDepth 65536 in
theorem w_rest : rest_1_c.before args0 about1 = true := by decide +kernel
set_option maxRecDepth 65536 in
theorem w_case : (Jvm.Cond.and given_1 narrow_1).before args0 about1 = true := by decide +kernel
set_option maxRecDepth 65536 in
theorem w_consts : constsHeld consts_1 about1 := Jvm.Lit.constsHeldB_iff.mp (by decide +kernel)
theorem w_applies : (headSpec (Jvm.Cond.code x code maxLocals ret :: tables_1) room_1).applies x e0.platform about1 = true :=
  (Spec.applies_iff w_frames).mpr ⟨w_running, w_runnable, w_alone, w_named, w_hears, w_ripe, w_room, w_tables⟩
theorem atStart : AtStart classFile x code maxLocals ret World_1 tables_1 room_1 Calls_1 rest_1 Pre_1 launch0 p0 e0 about1 theMethod args0 below0 :=
  ⟨lists_1, trivial, launch0.admits_env _ _ _, launch0.least_env, fairChoices_fair.cas, fairChoices_fair.clock, w_frames, w_args, w_heap, w_applies, ⟨w_consts, trivial⟩, w_rest, w_case⟩
end start1
theorem witness_1 : WitnessClaimed_1 := ⟨start1.p0, start1.e0, start1.about1, start1.theMethod, start1.args0, start1.below0, start1.atStart⟩
end Jvm.Pilot.@@N@@
