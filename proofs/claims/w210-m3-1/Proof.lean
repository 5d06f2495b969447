import JvmDerived
import JvmDerived.Pilot.@@N@@Statement
import JvmDerived.Pilot.@@N@@Code
set_option linter.unusedVariables false
set_option linter.unusedSimpArgs false
namespace Jvm.RoadKit
open Sem ClassFile Op Lib Jvm.Stand Jvm.Free Jvm.LawKit
section Own
variable {p : Program} {l : Launch} {e : Env} {R : Room} {s : State} {m : MethodId} {args : Array Value} {below : List Frame} {meth : Method} {c : Code} {T T' : State} {locs : List Loc} {cells slots rc rs : Nat} {Q : Option Value → Heap → List Loc → Prop} {g g' : JFrame}
/-- from the state T with the top frame g the run ends in a return of which Q is true -/
def OwnGo (p : Program) (e : Env) (below : List Frame) (s : State) (rc rs : Nat) (Q : Option Value → Heap → List Loc → Prop) (T : State) (g : JFrame) : Prop :=
  ∃ (U : State) (o : Outcome), Steps p.tables e below (T.setTop g) U ∧ U.status = .running ∧ Ended U below o ∧ ∃ v L, o = .returned v ∧ Q v U.heap L ∧ FrameEnd s o U L rc rs
theorem OwnGo.st (k : ∀ target, Steps p.tables e below (T'.setTop g') target → Steps p.tables e below (T.setTop g) target) (h : OwnGo p e below s rc rs Q T' g') : OwnGo p e below s rc rs Q T g := by
  obtain ⟨U, o, h1, h2⟩ := h
  exact ⟨U, o, k _ h1, h2⟩
theorem OwnGo.cast (q : g = g') (h : OwnGo p e below s rc rs Q T g') : OwnGo p e below s rc rs Q T g := q ▸ h
theorem OwnGo.ret (X : Stand p l e R s m args below meth c T locs cells slots) (hx : p.tables.exec = Jvm.exec) {pc : Nat} {Ls : Array Slot} {w : Value} {t : FieldType} {i : Instr} {rest : List Value} (hret : meth.sig.returnType = some t) (hlk : meth.locks = false) (hn : narrow t w = w)
    (hi : (i = .ireturn ∧ (t = .int ∨ t = .boolean ∨ t = .byte ∨ t = .char ∨ t = .short) ∧ ∃ z, w = .int z) ∨ (i = .lreturn ∧ t = .long ∧ ∃ z, w = .long z) ∨ (i = .dreturn ∧ t = .double ∧ ∃ z, w = .double z) ∨ (i = .freturn ∧ t = .float ∧ ∃ z, w = .float z) ∨ (i = .areturn ∧ t.isReference = true ∧ w.isRef = true))
    (hd : decode c.code pc = .ok (i, 1)) (hQ : Q (some w) T.heap locs) (hc : cells ≤ rc) (hs : slots ≤ rs) : OwnGo p e below s rc rs Q T (mkF m pc Ls (w :: rest)) := by
  obtain ⟨fs, hr, hrun, hended, hW, hsame⟩ := X.leave (v := some w) (fun h => by rw [hret] at h; cases h) hlk
  exact ⟨_, _, retOut X hx hret hn hi hd hr, hrun, hended, _, _, rfl, hQ, ⟨_, rfl⟩, hW, hsame.mono hc hs⟩
theorem OwnGo.retN (X : Stand p l e R s m args below meth c T locs cells slots) (hx : p.tables.exec = Jvm.exec) {pc : Nat} {Ls : Array Slot} {z : Int32} {t : FieldType} {rest : List Value} (hret : meth.sig.returnType = some t) (hlk : meth.locks = false) (ht : t = .boolean ∨ t = .byte ∨ t = .char ∨ t = .short)
    (hd : decode c.code pc = .ok (.ireturn, 1)) (hQ : Q (some (.int (nar t z))) T.heap locs) (hc : cells ≤ rc) (hs : slots ≤ rs) : OwnGo p e below s rc rs Q T (mkF m pc Ls (.int z :: rest)) := by
  obtain ⟨fs, hr, hrun, hended, hW, hsame⟩ := X.leave (v := some (.int (nar t z))) (fun h => by rw [hret] at h; cases h) hlk
  exact ⟨_, _, Jvm.RoadKit.retN X hx hret ht hd hr, hrun, hended, _, _, rfl, hQ, ⟨_, rfl⟩, hW, hsame.mono hc hs⟩
theorem OwnGo.retV (X : Stand p l e R s m args below meth c T locs cells slots) (hx : p.tables.exec = Jvm.exec) {pc : Nat} {Ls : Array Slot} (hret : meth.sig.returnType = none) (hlk : meth.locks = false)
    (hd : decode c.code pc = .ok (.return_, 1)) (hQ : Q none T.heap locs) (hc : cells ≤ rc) (hs : slots ≤ rs) : OwnGo p e below s rc rs Q T (mkF m pc Ls []) := by
  obtain ⟨fs, hr, hrun, hended, hW, hsame⟩ := X.leave (v := none) (fun _ => rfl) hlk
  exact ⟨_, _, X.returnOut hx hret hd hr, hrun, hended, _, _, rfl, hQ, ⟨_, rfl⟩, hW, hsame.mono hc hs⟩
theorem own_met {y : MethodName} {bytes : ByteArray} {maxL : Nat} {ret : Option FieldType} {ws : List Jvm.Cond} {rm : Room} {Z : State} {as' : Array Value} {h0 : Heap} (hp : plainFor y = true)
    (body : ∀ (p : Program) (e : Env) (s : State) (m : MethodId) (below : List Frame) (meth : Method) (c : Code) (s₁ : State), Stand p l e rm s m as' below meth c s₁ [] 0 0 → p.tables.exec = Jvm.exec → c.code = bytes → c.maxLocals = maxL → meth.sig.returnType = ret → meth.locks = false → s.vm.findClass y.cls = some m.cls → meth.name = y.name → Z.Warmed39 s.vm → s₁.heap = h0 →
      OwnGo p e below s rm.cells rm.slots Q s₁ (entryFrame m as' maxL)) :
    MetFree l y (head1 (Jvm.Cond.code y bytes maxL ret :: ws) rm) (fun a U => a = as' ∧ Z.Warmed39 U.vm ∧ U.heap = h0) (fun _ _ _ _ _ => True) (fun _ U o U' => ∃ v L, o = .returned v ∧ Q v U'.heap L ∧ FrameEnd U o U' L rm.cells rm.slots) := by
  refine MetFree.of_bodySF hp hisR ?_
  intro p e s m args below meth c s₁ Bd hml0 hP hK
  obtain ⟨rfl, hZ, hh⟩ := hP
  exact body p e s m below meth c s₁ (Stand.of_body Bd) Bd.exec Bd.bytes hml0 Bd.returns Bd.notSynchronized (findClass_of_methodNamed Bd.named) (name_of_methodNamed Bd.named Bd.method).1 hZ (by rw [← hh, Bd.state]; rfl)
theorem own_len {Z : State} {h : Heap} {a : Addr} {cl : Cell} {ty : FieldType} {z : Int32} (hZ : Z.Warmed39 s.vm) (q : cl.slots.size.toInt32 = z) (A : Arr Z h a cl ty) (X : Stand p l e R s m args below meth c T locs cells slots) (eT : T.heap = h) (hx : p.tables.exec = Jvm.exec) {rest : List Value}
    (hg : g.method = m) (hst : g.stack = .ref a :: rest) (hd : decode c.code g.pc = .ok (.arraylength, 1)) (target : State) (k : Steps p.tables e below (T.setTop { g with pc := g.pc + 1, stack := .int z :: rest }) target) : Steps p.tables e below (T.setTop g) target := by
  refine X.arraylength hx (by rw [eT]; exact A.1) (State.isArrayOf_alike hZ.alike A.2.1) hg hst hd _ ?_
  rw [q]; exact k
theorem own_eqi {args : Array Value} {first U : State} {o : Option Outcome} {idx : List Nat} {a : Term} {k : Int32} (h : (Jvm.Cond.eq a (.int k)).value args first o U idx = some true) : a.eval args first o idx U = some (.int k) := Cond.eq_int (b := .int k) (by simp only [Cond.holds, h]; rfl) rfl
theorem own_eqv {args : Array Value} {first U : State} {o : Option Outcome} {idx : List Nat} {a b : Term} {v : Value} (h : (Jvm.Cond.eq a b).value args first o U idx = some true) (hb : b.eval args first o idx U = some v) (hv : v.isRef = true) : a.eval args first o idx U = some v := by
  obtain ⟨x, y, h1, h2, k1, k2⟩ := cmp_v (Or.inl h)
  cases h2.symm.trans hb
  have hx : x.isRef = true := by cases x <;> cases v <;> simp [Kin, Value.isRef] at k1 k2 hv ⊢
  rw [h1, gotT (eq_R h1 h2 hx hv) h]
theorem own_lenv {Z : State} {args : Array Value} {t : Term} {a : Addr} {cl : Cell} {ty : FieldType} {z : Int32} (ev : t.eval args Z none [] Z = some (.ref a)) (A : Arr Z Z.heap a cl ty) (h : (Jvm.Cond.eq (.length t) (.int z)).value args Z none Z [] = some true) : cl.slots.size < 2 ^ 31 ∧ cl.slots.size.toInt32 = z := by
  have e := own_eqi h
  have hA := A.fin (Vm.Alike.refl _)
  refine ⟨SBG.length_lt ev hA e, ?_⟩
  obtain ⟨a', c', e1, e2, e3⟩ := Term.length_spec e
  cases ev.symm.trans e1
  cases hA.symm.trans e2
  exact (Value.int.inj e3).symm
theorem own_elem {Z : State} {args : Array Value} {t : Term} {a : Addr} {cl : Cell} {ty : FieldType} {k : Int32} {v : Value} (ev : t.eval args Z none [] Z = some (.ref a)) (A : Arr Z Z.heap a cl ty) (h : (Term.elem t (.int k)).eval args Z none [] Z = some v) : cl.slots[k.toNatClampNeg]? = some v := (elem_in h ev rfl A.1).2
theorem own_narR {w : Value} {t : FieldType} (h : w.isRef = true) (ht : t.isReference = true) : narrow t w = w := by
  cases w <;> simp [Value.isRef] at h <;> cases t <;> simp [FieldType.isReference] at ht <;> rfl
theorem own_cat {w : Value} (h : w.isRef = true) : w.category = 1 := by cases w <;> simp [Value.isRef] at h <;> rfl
/-- an array of n places, whatever they hold -/
def OwnArr (Z : State) (h : Heap) (a : Addr) (ty : FieldType) (n : Nat) : Prop := ∃ cl : Cell, Arr Z h a cl ty ∧ cl.slots.size = n
theorem OwnArr.lt {Z : State} {h : Heap} {a : Addr} {ty : FieldType} {n : Nat} (F : OwnArr Z h a ty n) : a < h.size := by obtain ⟨_, A, -⟩ := F; exact A.lt
theorem OwnArr.ext {Z : State} {h h' : Heap} {a : Addr} {ty : FieldType} {n : Nat} (F : OwnArr Z h a ty n) (E : Ext h h') : OwnArr Z h' a ty n := by obtain ⟨c, A, S⟩ := F; exact ⟨c, A.ext E, S⟩
theorem OwnArr.keep {Z : State} {h h' : Heap} {a : Addr} {ty : FieldType} {n : Nat} {ws : List Addr} (F : OwnArr Z h a ty n) (K : Keep h h' ws) : OwnArr Z h' a ty n := by
  obtain ⟨c, ⟨A1, ⟨q1, q2⟩, A3⟩, S⟩ := F
  obtain ⟨c', e1, e2, e3, e4⟩ := K.2.2 _ _ A1
  exact ⟨c', ⟨e1, ⟨by rw [e3]; exact q1, by rw [e2]; exact q2⟩, by rw [e3]; exact A3⟩, e4.trans S⟩
theorem OwnArr.wr {Z : State} {h h' : Heap} {a b : Addr} {ty : FieldType} {n sl : Nat} {v : Value} (F : OwnArr Z h a ty n) (W : Wr h h' b sl v) : OwnArr Z h' a ty n := F.keep (Keep.of_wr W)
theorem OwnArr.of {Z : State} {h : Heap} {a : Addr} {k : ClassId} {ty : FieldType} {z : Int32} {vs : List Value} {d : Value} (F : Arv Z h a k ty z vs d) : OwnArr Z h a ty z.toNatClampNeg := by obtain ⟨c, A, -, S, -⟩ := F; exact ⟨c, A, S⟩
theorem own_nb (x : Int32) : nar .byte x.toInt8.toInt32 = x.toInt8.toInt32 := by
  show (x.toInt8.toInt32).toInt8.toInt32 = _
  rw [Int8.toInt8_toInt32]
end Own
end Jvm.RoadKit
namespace Jvm.RoadKit
open Sem ClassFile Op Lib Jvm.Stand Jvm.Free Jvm.LawKit
section OwnW
variable {p : Program} {l : Launch} {e : Env} {R : Room} {s : State} {vm0 : Vm} {m : MethodId} {args : Array Value} {below : List Frame} {meth : Method} {c : Code} {T T' Z : State} {locs : List Loc} {cells slots rc rs k0 : Nat} {Q : Option Value → Heap → List Loc → Prop} {g g' : JFrame} {EL : List (String × Nat)} {a0 : Array Value} {h0 h : Heap}
/-- the same, where String constants may be loaded: the wide frame, and the booked constants' invariant -/
def OwnGoW (p : Program) (e : Env) (below : List Frame) (s Z : State) (EL : List (String × Nat)) (rc rs : Nat) (Q : Option Value → Heap → List Loc → Prop) (T : State) (g : JFrame) : Prop :=
  ∃ (U : State) (o : Outcome), Steps p.tables e below (T.setTop g) U ∧ U.status = .running ∧ Ended U below o ∧ ∃ v L, o = .returned v ∧ Q v U.heap L ∧ CHr Z EL s.vm s.heap U.vm U.heap ∧ ReturnedEndW s o U L rc rs
theorem OwnGoW.st (k : ∀ target, Steps p.tables e below (T'.setTop g') target → Steps p.tables e below (T.setTop g) target) (h : OwnGoW p e below s Z EL rc rs Q T' g') : OwnGoW p e below s Z EL rc rs Q T g := by
  obtain ⟨U, o, h1, h2⟩ := h
  exact ⟨U, o, k _ h1, h2⟩
theorem OwnGoW.cast (q : g = g') (h : OwnGoW p e below s Z EL rc rs Q T g') : OwnGoW p e below s Z EL rc rs Q T g := q ▸ h
theorem OwnGoW.ret (X : Stand p l e R (s.setVm vm0) m args below meth c T locs cells slots) (hS : s.Since vm0 k0) (hk : k0 ≤ h.size) (eT : T.heap = h) (hZ : Z.Warmed39 (s.setVm vm0).vm) (hEL : EW Z a0 EL) (CR : CHr Z EL s.vm s.heap vm0 h) (hx : p.tables.exec = Jvm.exec) {pc : Nat} {Ls : Array Slot} {w : Value} {t : FieldType} {i : Instr} {rest : List Value} (hret : meth.sig.returnType = some t) (hlk : meth.locks = false) (hn : narrow t w = w)
    (hi : (i = .ireturn ∧ (t = .int ∨ t = .boolean ∨ t = .byte ∨ t = .char ∨ t = .short) ∧ ∃ z, w = .int z) ∨ (i = .lreturn ∧ t = .long ∧ ∃ z, w = .long z) ∨ (i = .dreturn ∧ t = .double ∧ ∃ z, w = .double z) ∨ (i = .freturn ∧ t = .float ∧ ∃ z, w = .float z) ∨ (i = .areturn ∧ t.isReference = true ∧ w.isRef = true))
    (hd : decode c.code pc = .ok (i, 1)) (hQ : Q (some w) T.heap locs) (hc : cells ≤ rc) (hs : slots ≤ rs) : OwnGoW p e below s Z EL rc rs Q T (mkF m pc Ls (w :: rest)) := by
  subst eT
  have CX : CHr Z EL vm0 T.heap T.vm T.heap := CHv.at X hZ hEL CR.1
  obtain ⟨fs, hr, hrun, hended, e1, e2, e3, e4⟩ := X.leaveW (v := some w) hS hk (fun h => by rw [hret] at h; cases h) hlk
  exact ⟨_, _, retOut X hx hret hn hi hd hr, hrun, hended, _, _, rfl, hQ, CR.trans CX, e1, e2, e3, e4.mono hc hs⟩
theorem OwnGoW.retN (X : Stand p l e R (s.setVm vm0) m args below meth c T locs cells slots) (hS : s.Since vm0 k0) (hk : k0 ≤ h.size) (eT : T.heap = h) (hZ : Z.Warmed39 (s.setVm vm0).vm) (hEL : EW Z a0 EL) (CR : CHr Z EL s.vm s.heap vm0 h) (hx : p.tables.exec = Jvm.exec) {pc : Nat} {Ls : Array Slot} {z : Int32} {t : FieldType} {rest : List Value} (hret : meth.sig.returnType = some t) (hlk : meth.locks = false) (ht : t = .boolean ∨ t = .byte ∨ t = .char ∨ t = .short)
    (hd : decode c.code pc = .ok (.ireturn, 1)) (hQ : Q (some (.int (nar t z))) T.heap locs) (hc : cells ≤ rc) (hs : slots ≤ rs) : OwnGoW p e below s Z EL rc rs Q T (mkF m pc Ls (.int z :: rest)) := by
  subst eT
  have CX : CHr Z EL vm0 T.heap T.vm T.heap := CHv.at X hZ hEL CR.1
  obtain ⟨fs, hr, hrun, hended, e1, e2, e3, e4⟩ := X.leaveW (v := some (.int (nar t z))) hS hk (fun h => by rw [hret] at h; cases h) hlk
  exact ⟨_, _, Jvm.RoadKit.retN X hx hret ht hd hr, hrun, hended, _, _, rfl, hQ, CR.trans CX, e1, e2, e3, e4.mono hc hs⟩
theorem OwnGoW.retV (X : Stand p l e R (s.setVm vm0) m args below meth c T locs cells slots) (hS : s.Since vm0 k0) (hk : k0 ≤ h.size) (eT : T.heap = h) (hZ : Z.Warmed39 (s.setVm vm0).vm) (hEL : EW Z a0 EL) (CR : CHr Z EL s.vm s.heap vm0 h) (hx : p.tables.exec = Jvm.exec) {pc : Nat} {Ls : Array Slot} (hret : meth.sig.returnType = none) (hlk : meth.locks = false)
    (hd : decode c.code pc = .ok (.return_, 1)) (hQ : Q none T.heap locs) (hc : cells ≤ rc) (hs : slots ≤ rs) : OwnGoW p e below s Z EL rc rs Q T (mkF m pc Ls []) := by
  subst eT
  have CX : CHr Z EL vm0 T.heap T.vm T.heap := CHv.at X hZ hEL CR.1
  obtain ⟨fs, hr, hrun, hended, e1, e2, e3, e4⟩ := X.leaveW (v := none) hS hk (fun _ => rfl) hlk
  exact ⟨_, _, X.returnOut hx hret hd hr, hrun, hended, _, _, rfl, hQ, CR.trans CX, e1, e2, e3, e4.mono hc hs⟩
theorem own_metW {y : MethodName} {bytes : ByteArray} {maxL : Nat} {ret : Option FieldType} {ws : List Jvm.Cond} {rm : Room} {as' : Array Value} (hp : plainFor y = true)
    (body : ∀ (p : Program) (e : Env) (s : State) (m : MethodId) (below : List Frame) (meth : Method) (c : Code) (s₁ : State), Stand p l e rm (s.setVm s.vm) m as' below meth c s₁ [] 0 0 → p.tables.exec = Jvm.exec → c.code = bytes → c.maxLocals = maxL → meth.sig.returnType = ret → meth.locks = false → (s.setVm s.vm).vm.findClass y.cls = some m.cls → meth.name = y.name → Z.Warmed39 (s.setVm s.vm).vm → s₁.heap = h0 →
      s.Since s.vm h0.size → CHr Z EL s.vm s.heap s.vm h0 → OwnGoW p e below s Z EL rm.cells rm.slots Q s₁ (entryFrame m as' maxL)) :
    MetFree l y (head1 (Jvm.Cond.code y bytes maxL ret :: ws) rm) (fun a U => a = as' ∧ Z.Warmed39 U.vm ∧ U.heap = h0 ∧ CHv Z EL U.vm h0) (fun _ _ _ _ _ => True) (fun _ U o U' => ∃ v L, o = .returned v ∧ Q v U'.heap L ∧ CHr Z EL U.vm U.heap U'.vm U'.heap ∧ ReturnedEndW U o U' L rm.cells rm.slots) := by
  refine MetFree.of_bodySF hp hisR ?_
  intro p e s m args below meth c s₁ Bd hml0 hP hK
  obtain ⟨rfl, hZ, hh, hC⟩ := hP
  subst hh
  exact body p e s m below meth c s₁ (Stand.of_body Bd) Bd.exec Bd.bytes hml0 Bd.returns Bd.notSynchronized (findClass_of_methodNamed Bd.named) (name_of_methodNamed Bd.named Bd.method).1 hZ (by rw [Bd.state]; rfl) ((State.WarmedH.refl s).since _) (CHr.refl hC)
end OwnW
end Jvm.RoadKit
namespace Jvm.Pilot.@@N@@
open Jvm Jvm.ClassFile Sem Op Lib Jvm.Free Jvm.Stand Jvm.LawKit Jvm.RoadKit Bundle Jvm.Pilot.@@N@@.Jvm.D
def own_EL : List (String × Nat) := []
theorem own_sAt : ∀ a ∈ Bundle.stringAtoms, a ∈ tables_1 := by decide +kernel
theorem own_wS {Z : State} {a0 : Array Value} (hw : ∀ d ∈ tables_1, d.before a0 Z = true) : ∀ a ∈ Bundle.stringAtoms, a.before a0 Z = true := fun a ha => hw a (own_sAt a ha)
theorem own_hEL {Z : State} {a0 : Array Value} (hw : ∀ d ∈ tables_1, d.before a0 Z = true) : EW Z a0 own_EL := EW.nil
theorem own_safe {Z : State} {vm : Vm} {h : Heap} {x : Addr} : Safe Z own_EL vm h x := fun B => by
  obtain ⟨q, hq, -⟩ := B
  simp [own_EL] at hq
theorem own_m5 (p n : Int32) (h : n = ((p &&& (2147483647 : Int32)) % (5 : Int32))) : n = (0 : Int32) ∨ n = (1 : Int32) ∨ n = (2 : Int32) ∨ n = (3 : Int32) ∨ n = (4 : Int32) := by
  have h1 := c_and p 2147483647 (by decide)
  have h2 := (c_irem (p &&& 2147483647) 5 5 (by decide)).1 h1.1
  rw [← h] at h2
  simp only [← Int32.toInt_inj]
  have e0 : (0 : Int32).toInt = 0 := by decide
  have e1 : (1 : Int32).toInt = 1 := by decide
  have e2 : (2 : Int32).toInt = 2 := by decide
  have e3 : (3 : Int32).toInt = 3 := by decide
  have e4 : (4 : Int32).toInt = 4 := by decide
  rw [e0, e1, e2, e3, e4]
  omega
theorem d1_0 : decode method_2_code 0 = .ok (.iload_n 0, 1) := by decide +kernel
theorem d1_1 : decode method_2_code 1 = .ok (.ifCond .ne 7, 3) := by decide +kernel
theorem d1_4 : decode method_2_code 4 = .ok (.iconst 0, 1) := by decide +kernel
theorem d1_5 : decode method_2_code 5 = .ok (.newarray .byte, 2) := by decide +kernel
theorem d1_7 : decode method_2_code 7 = .ok (.areturn, 1) := by decide +kernel
theorem d1_8 : decode method_2_code 8 = .ok (.iload_n 0, 1) := by decide +kernel
theorem d1_9 : decode method_2_code 9 = .ok (.iconst 1, 1) := by decide +kernel
theorem d1_10 : decode method_2_code 10 = .ok (.if_icmp .ne 11, 3) := by decide +kernel
theorem d1_13 : decode method_2_code 13 = .ok (.iconst 1, 1) := by decide +kernel
theorem d1_14 : decode method_2_code 14 = .ok (.newarray .byte, 2) := by decide +kernel
theorem d1_16 : decode method_2_code 16 = .ok (.dup, 1) := by decide +kernel
theorem d1_17 : decode method_2_code 17 = .ok (.iconst 0, 1) := by decide +kernel
theorem d1_18 : decode method_2_code 18 = .ok (.iload_n 1, 1) := by decide +kernel
theorem d1_19 : decode method_2_code 19 = .ok (.bastore, 1) := by decide +kernel
theorem d1_20 : decode method_2_code 20 = .ok (.areturn, 1) := by decide +kernel
theorem d1_21 : decode method_2_code 21 = .ok (.iload_n 0, 1) := by decide +kernel
theorem d1_22 : decode method_2_code 22 = .ok (.iconst 2, 1) := by decide +kernel
theorem d1_23 : decode method_2_code 23 = .ok (.if_icmp .ne 15, 3) := by decide +kernel
theorem d1_26 : decode method_2_code 26 = .ok (.iconst 2, 1) := by decide +kernel
theorem d1_27 : decode method_2_code 27 = .ok (.newarray .byte, 2) := by decide +kernel
theorem d1_29 : decode method_2_code 29 = .ok (.dup, 1) := by decide +kernel
theorem d1_30 : decode method_2_code 30 = .ok (.iconst 0, 1) := by decide +kernel
theorem d1_31 : decode method_2_code 31 = .ok (.iload_n 1, 1) := by decide +kernel
theorem d1_32 : decode method_2_code 32 = .ok (.bastore, 1) := by decide +kernel
theorem d1_33 : decode method_2_code 33 = .ok (.dup, 1) := by decide +kernel
theorem d1_34 : decode method_2_code 34 = .ok (.iconst 1, 1) := by decide +kernel
theorem d1_35 : decode method_2_code 35 = .ok (.iload_n 2, 1) := by decide +kernel
theorem d1_36 : decode method_2_code 36 = .ok (.bastore, 1) := by decide +kernel
theorem d1_37 : decode method_2_code 37 = .ok (.areturn, 1) := by decide +kernel
theorem d1_38 : decode method_2_code 38 = .ok (.iload_n 0, 1) := by decide +kernel
theorem d1_39 : decode method_2_code 39 = .ok (.iconst 3, 1) := by decide +kernel
theorem d1_40 : decode method_2_code 40 = .ok (.if_icmp .ne 19, 3) := by decide +kernel
theorem d1_43 : decode method_2_code 43 = .ok (.iconst 3, 1) := by decide +kernel
theorem d1_44 : decode method_2_code 44 = .ok (.newarray .byte, 2) := by decide +kernel
theorem d1_46 : decode method_2_code 46 = .ok (.dup, 1) := by decide +kernel
theorem d1_47 : decode method_2_code 47 = .ok (.iconst 0, 1) := by decide +kernel
theorem d1_48 : decode method_2_code 48 = .ok (.iload_n 1, 1) := by decide +kernel
theorem d1_49 : decode method_2_code 49 = .ok (.bastore, 1) := by decide +kernel
theorem d1_50 : decode method_2_code 50 = .ok (.dup, 1) := by decide +kernel
theorem d1_51 : decode method_2_code 51 = .ok (.iconst 1, 1) := by decide +kernel
theorem d1_52 : decode method_2_code 52 = .ok (.iload_n 2, 1) := by decide +kernel
theorem d1_53 : decode method_2_code 53 = .ok (.bastore, 1) := by decide +kernel
theorem d1_54 : decode method_2_code 54 = .ok (.dup, 1) := by decide +kernel
theorem d1_55 : decode method_2_code 55 = .ok (.iconst 2, 1) := by decide +kernel
theorem d1_56 : decode method_2_code 56 = .ok (.iload_n 3, 1) := by decide +kernel
theorem d1_57 : decode method_2_code 57 = .ok (.bastore, 1) := by decide +kernel
theorem d1_58 : decode method_2_code 58 = .ok (.areturn, 1) := by decide +kernel
theorem d1_59 : decode method_2_code 59 = .ok (.iconst 4, 1) := by decide +kernel
theorem d1_60 : decode method_2_code 60 = .ok (.newarray .byte, 2) := by decide +kernel
theorem d1_62 : decode method_2_code 62 = .ok (.dup, 1) := by decide +kernel
theorem d1_63 : decode method_2_code 63 = .ok (.iconst 0, 1) := by decide +kernel
theorem d1_64 : decode method_2_code 64 = .ok (.iload_n 1, 1) := by decide +kernel
theorem d1_65 : decode method_2_code 65 = .ok (.bastore, 1) := by decide +kernel
theorem d1_66 : decode method_2_code 66 = .ok (.dup, 1) := by decide +kernel
theorem d1_67 : decode method_2_code 67 = .ok (.iconst 1, 1) := by decide +kernel
theorem d1_68 : decode method_2_code 68 = .ok (.iload_n 2, 1) := by decide +kernel
theorem d1_69 : decode method_2_code 69 = .ok (.bastore, 1) := by decide +kernel
theorem d1_70 : decode method_2_code 70 = .ok (.dup, 1) := by decide +kernel
theorem d1_71 : decode method_2_code 71 = .ok (.iconst 2, 1) := by decide +kernel
theorem d1_72 : decode method_2_code 72 = .ok (.iload_n 3, 1) := by decide +kernel
theorem d1_73 : decode method_2_code 73 = .ok (.bastore, 1) := by decide +kernel
theorem d1_74 : decode method_2_code 74 = .ok (.dup, 1) := by decide +kernel
theorem d1_75 : decode method_2_code 75 = .ok (.iconst 3, 1) := by decide +kernel
theorem d1_76 : decode method_2_code 76 = .ok (.iload 4, 2) := by decide +kernel
theorem d1_78 : decode method_2_code 78 = .ok (.bastore, 1) := by decide +kernel
theorem d1_79 : decode method_2_code 79 = .ok (.areturn, 1) := by decide +kernel
theorem d2_0 : decode prog_12_method_1_code 0 = .ok (.aload_n 0, 1) := by decide +kernel
theorem d2_1 : decode prog_12_method_1_code 1 = .ok (.invokespecial 1, 3) := by decide +kernel
theorem d2_4 : decode prog_12_method_1_code 4 = .ok (.aload_n 0, 1) := by decide +kernel
theorem d2_5 : decode prog_12_method_1_code 5 = .ok (.aload_n 1, 1) := by decide +kernel
theorem d2_6 : decode prog_12_method_1_code 6 = .ok (.putfield 7, 3) := by decide +kernel
theorem d2_9 : decode prog_12_method_1_code 9 = .ok (.aload_n 0, 1) := by decide +kernel
theorem d2_10 : decode prog_12_method_1_code 10 = .ok (.lload_n 2, 1) := by decide +kernel
theorem d2_11 : decode prog_12_method_1_code 11 = .ok (.putfield 13, 3) := by decide +kernel
theorem d2_14 : decode prog_12_method_1_code 14 = .ok (.aload_n 0, 1) := by decide +kernel
theorem d2_15 : decode prog_12_method_1_code 15 = .ok (.aload 4, 2) := by decide +kernel
theorem d2_17 : decode prog_12_method_1_code 17 = .ok (.putfield 17, 3) := by decide +kernel
theorem d2_20 : decode prog_12_method_1_code 20 = .ok (.aload_n 0, 1) := by decide +kernel
theorem d2_21 : decode prog_12_method_1_code 21 = .ok (.aload 5, 2) := by decide +kernel
theorem d2_23 : decode prog_12_method_1_code 23 = .ok (.aload 5, 2) := by decide +kernel
theorem d2_25 : decode prog_12_method_1_code 25 = .ok (.arraylength, 1) := by decide +kernel
theorem d2_26 : decode prog_12_method_1_code 26 = .ok (.invokestatic 20, 3) := by decide +kernel
theorem d2_29 : decode prog_12_method_1_code 29 = .ok (.putfield 26, 3) := by decide +kernel
theorem d2_32 : decode prog_12_method_1_code 32 = .ok (.return_, 1) := by decide +kernel
theorem d4_0 : decode jdk_65_method_121_code 0 = .ok (.iload_n 1, 1) := by decide +kernel
theorem d4_1 : decode jdk_65_method_121_code 1 = .ok (.aload_n 0, 1) := by decide +kernel
theorem d4_2 : decode jdk_65_method_121_code 2 = .ok (.arraylength, 1) := by decide +kernel
theorem d4_3 : decode jdk_65_method_121_code 3 = .ok (.if_icmp .ne 11, 3) := by decide +kernel
theorem d4_6 : decode jdk_65_method_121_code 6 = .ok (.aload_n 0, 1) := by decide +kernel
theorem d4_7 : decode jdk_65_method_121_code 7 = .ok (.invokevirtual 310, 3) := by decide +kernel
theorem d4_10 : decode jdk_65_method_121_code 10 = .ok (.checkcast 311, 3) := by decide +kernel
theorem d4_13 : decode jdk_65_method_121_code 13 = .ok (.areturn, 1) := by decide +kernel
theorem d5_0 : decode method_3_code 0 = .ok (.aload_n 0, 1) := by decide +kernel
theorem d5_1 : decode method_3_code 1 = .ok (.arraylength, 1) := by decide +kernel
theorem d5_2 : decode method_3_code 2 = .ok (.ifCond .le 12, 3) := by decide +kernel
theorem d5_5 : decode method_3_code 5 = .ok (.aload_n 0, 1) := by decide +kernel
theorem d5_6 : decode method_3_code 6 = .ok (.iconst 0, 1) := by decide +kernel
theorem d5_7 : decode method_3_code 7 = .ok (.aload_n 0, 1) := by decide +kernel
theorem d5_8 : decode method_3_code 8 = .ok (.iconst 0, 1) := by decide +kernel
theorem d5_9 : decode method_3_code 9 = .ok (.baload, 1) := by decide +kernel
theorem d5_10 : decode method_3_code 10 = .ok (.iconst 1, 1) := by decide +kernel
theorem d5_11 : decode method_3_code 11 = .ok (.iadd, 1) := by decide +kernel
theorem d5_12 : decode method_3_code 12 = .ok (.i2b, 1) := by decide +kernel
theorem d5_13 : decode method_3_code 13 = .ok (.bastore, 1) := by decide +kernel
theorem d5_14 : decode method_3_code 14 = .ok (.aload_n 0, 1) := by decide +kernel
theorem d5_15 : decode method_3_code 15 = .ok (.arraylength, 1) := by decide +kernel
theorem d5_16 : decode method_3_code 16 = .ok (.iconst 1, 1) := by decide +kernel
theorem d5_17 : decode method_3_code 17 = .ok (.if_icmp .le 12, 3) := by decide +kernel
theorem d5_20 : decode method_3_code 20 = .ok (.aload_n 0, 1) := by decide +kernel
theorem d5_21 : decode method_3_code 21 = .ok (.iconst 1, 1) := by decide +kernel
theorem d5_22 : decode method_3_code 22 = .ok (.aload_n 0, 1) := by decide +kernel
theorem d5_23 : decode method_3_code 23 = .ok (.iconst 1, 1) := by decide +kernel
theorem d5_24 : decode method_3_code 24 = .ok (.baload, 1) := by decide +kernel
theorem d5_25 : decode method_3_code 25 = .ok (.iconst 1, 1) := by decide +kernel
theorem d5_26 : decode method_3_code 26 = .ok (.iadd, 1) := by decide +kernel
theorem d5_27 : decode method_3_code 27 = .ok (.i2b, 1) := by decide +kernel
theorem d5_28 : decode method_3_code 28 = .ok (.bastore, 1) := by decide +kernel
theorem d5_29 : decode method_3_code 29 = .ok (.aload_n 0, 1) := by decide +kernel
theorem d5_30 : decode method_3_code 30 = .ok (.arraylength, 1) := by decide +kernel
theorem d5_31 : decode method_3_code 31 = .ok (.iconst 2, 1) := by decide +kernel
theorem d5_32 : decode method_3_code 32 = .ok (.if_icmp .le 12, 3) := by decide +kernel
theorem d5_35 : decode method_3_code 35 = .ok (.aload_n 0, 1) := by decide +kernel
theorem d5_36 : decode method_3_code 36 = .ok (.iconst 2, 1) := by decide +kernel
theorem d5_37 : decode method_3_code 37 = .ok (.aload_n 0, 1) := by decide +kernel
theorem d5_38 : decode method_3_code 38 = .ok (.iconst 2, 1) := by decide +kernel
theorem d5_39 : decode method_3_code 39 = .ok (.baload, 1) := by decide +kernel
theorem d5_40 : decode method_3_code 40 = .ok (.iconst 1, 1) := by decide +kernel
theorem d5_41 : decode method_3_code 41 = .ok (.iadd, 1) := by decide +kernel
theorem d5_42 : decode method_3_code 42 = .ok (.i2b, 1) := by decide +kernel
theorem d5_43 : decode method_3_code 43 = .ok (.bastore, 1) := by decide +kernel
theorem d5_44 : decode method_3_code 44 = .ok (.aload_n 0, 1) := by decide +kernel
theorem d5_45 : decode method_3_code 45 = .ok (.arraylength, 1) := by decide +kernel
theorem d5_46 : decode method_3_code 46 = .ok (.iconst 3, 1) := by decide +kernel
theorem d5_47 : decode method_3_code 47 = .ok (.if_icmp .le 12, 3) := by decide +kernel
theorem d5_50 : decode method_3_code 50 = .ok (.aload_n 0, 1) := by decide +kernel
theorem d5_51 : decode method_3_code 51 = .ok (.iconst 3, 1) := by decide +kernel
theorem d5_52 : decode method_3_code 52 = .ok (.aload_n 0, 1) := by decide +kernel
theorem d5_53 : decode method_3_code 53 = .ok (.iconst 3, 1) := by decide +kernel
theorem d5_54 : decode method_3_code 54 = .ok (.baload, 1) := by decide +kernel
theorem d5_55 : decode method_3_code 55 = .ok (.iconst 1, 1) := by decide +kernel
theorem d5_56 : decode method_3_code 56 = .ok (.iadd, 1) := by decide +kernel
theorem d5_57 : decode method_3_code 57 = .ok (.i2b, 1) := by decide +kernel
theorem d5_58 : decode method_3_code 58 = .ok (.bastore, 1) := by decide +kernel
theorem d5_59 : decode method_3_code 59 = .ok (.return_, 1) := by decide +kernel
theorem d6_0 : decode prog_12_method_5_code 0 = .ok (.aload_n 0, 1) := by decide +kernel
theorem d6_1 : decode prog_12_method_5_code 1 = .ok (.getfield 26, 3) := by decide +kernel
theorem d6_4 : decode prog_12_method_5_code 4 = .ok (.aload_n 0, 1) := by decide +kernel
theorem d6_5 : decode prog_12_method_5_code 5 = .ok (.getfield 26, 3) := by decide +kernel
theorem d6_8 : decode prog_12_method_5_code 8 = .ok (.arraylength, 1) := by decide +kernel
theorem d6_9 : decode prog_12_method_5_code 9 = .ok (.invokestatic 20, 3) := by decide +kernel
theorem d6_12 : decode prog_12_method_5_code 12 = .ok (.areturn, 1) := by decide +kernel
theorem d7_0 : decode method_4_code 0 = .ok (.aload_n 0, 1) := by decide +kernel
theorem d7_1 : decode method_4_code 1 = .ok (.ifnonnull 5, 3) := by decide +kernel
theorem d7_6 : decode method_4_code 6 = .ok (.aload_n 0, 1) := by decide +kernel
theorem d7_7 : decode method_4_code 7 = .ok (.arraylength, 1) := by decide +kernel
theorem d7_8 : decode method_4_code 8 = .ok (.iload_n 1, 1) := by decide +kernel
theorem d7_9 : decode method_4_code 9 = .ok (.if_icmp .eq 5, 3) := by decide +kernel
theorem d7_14 : decode method_4_code 14 = .ok (.iload_n 1, 1) := by decide +kernel
theorem d7_15 : decode method_4_code 15 = .ok (.ifCond .le 12, 3) := by decide +kernel
theorem d7_18 : decode method_4_code 18 = .ok (.aload_n 0, 1) := by decide +kernel
theorem d7_19 : decode method_4_code 19 = .ok (.iconst 0, 1) := by decide +kernel
theorem d7_20 : decode method_4_code 20 = .ok (.baload, 1) := by decide +kernel
theorem d7_21 : decode method_4_code 21 = .ok (.iload_n 2, 1) := by decide +kernel
theorem d7_22 : decode method_4_code 22 = .ok (.if_icmp .eq 5, 3) := by decide +kernel
theorem d7_27 : decode method_4_code 27 = .ok (.iload_n 1, 1) := by decide +kernel
theorem d7_28 : decode method_4_code 28 = .ok (.iconst 1, 1) := by decide +kernel
theorem d7_29 : decode method_4_code 29 = .ok (.if_icmp .le 12, 3) := by decide +kernel
theorem d7_32 : decode method_4_code 32 = .ok (.aload_n 0, 1) := by decide +kernel
theorem d7_33 : decode method_4_code 33 = .ok (.iconst 1, 1) := by decide +kernel
theorem d7_34 : decode method_4_code 34 = .ok (.baload, 1) := by decide +kernel
theorem d7_35 : decode method_4_code 35 = .ok (.iload_n 3, 1) := by decide +kernel
theorem d7_36 : decode method_4_code 36 = .ok (.if_icmp .eq 5, 3) := by decide +kernel
theorem d7_41 : decode method_4_code 41 = .ok (.iload_n 1, 1) := by decide +kernel
theorem d7_42 : decode method_4_code 42 = .ok (.iconst 2, 1) := by decide +kernel
theorem d7_43 : decode method_4_code 43 = .ok (.if_icmp .le 13, 3) := by decide +kernel
theorem d7_46 : decode method_4_code 46 = .ok (.aload_n 0, 1) := by decide +kernel
theorem d7_47 : decode method_4_code 47 = .ok (.iconst 2, 1) := by decide +kernel
theorem d7_48 : decode method_4_code 48 = .ok (.baload, 1) := by decide +kernel
theorem d7_49 : decode method_4_code 49 = .ok (.iload 4, 2) := by decide +kernel
theorem d7_51 : decode method_4_code 51 = .ok (.if_icmp .eq 5, 3) := by decide +kernel
theorem d7_56 : decode method_4_code 56 = .ok (.iload_n 1, 1) := by decide +kernel
theorem d7_57 : decode method_4_code 57 = .ok (.iconst 3, 1) := by decide +kernel
theorem d7_58 : decode method_4_code 58 = .ok (.if_icmp .le 13, 3) := by decide +kernel
theorem d7_61 : decode method_4_code 61 = .ok (.aload_n 0, 1) := by decide +kernel
theorem d7_62 : decode method_4_code 62 = .ok (.iconst 3, 1) := by decide +kernel
theorem d7_63 : decode method_4_code 63 = .ok (.baload, 1) := by decide +kernel
theorem d7_64 : decode method_4_code 64 = .ok (.iload 5, 2) := by decide +kernel
theorem d7_66 : decode method_4_code 66 = .ok (.if_icmp .eq 5, 3) := by decide +kernel
theorem d7_71 : decode method_4_code 71 = .ok (.iconst 1, 1) := by decide +kernel
theorem d7_72 : decode method_4_code 72 = .ok (.ireturn, 1) := by decide +kernel
theorem pd_0 : parseMethodDescriptor "([BI)[B" = some ⟨[(.array .byte), .int], some (.array .byte)⟩ := by decide +kernel
theorem pd_1 : parseMethodDescriptor "(IBBBB)[B" = some ⟨[.int, .byte, .byte, .byte, .byte], some (.array .byte)⟩ := by decide +kernel
theorem pd_2 : parseMethodDescriptor "(Ljava/lang/String;JLjava/lang/String;[B)V" = some ⟨[(.object "java/lang/String"), .long, (.object "java/lang/String"), (.array .byte)], none⟩ := by decide +kernel
theorem pd_3 : parseMethodDescriptor "([B)V" = some ⟨[(.array .byte)], none⟩ := by decide +kernel
theorem pd_4 : parseMethodDescriptor "()[B" = some ⟨[], some (.array .byte)⟩ := by decide +kernel
theorem pd_5 : parseMethodDescriptor "([BIBBBB)Z" = some ⟨[(.array .byte), .int, .byte, .byte, .byte, .byte], some .boolean⟩ := by decide +kernel
theorem pn_1 : plainName "com/example/thorough_factfind/thoroughfactfind/foundation/db/EventDataPinLaw" = true := by first | (simp [plainName, overriddenIn]; done) | decide +kernel
theorem pn_4 : plainName "java/util/Arrays" = true := by first | (simp [plainName, overriddenIn]; done) | decide +kernel
theorem pn_2 : plainName "com/example/thorough_factfind/thoroughfactfind/foundation/db/Event" = true := by first | (simp [plainName, overriddenIn]; done) | decide +kernel
theorem ef_mk0 (m : MethodId) (x0 : Int32) (x1 : Int32) (x2 : Int32) (x3 : Int32) (x4 : Int32) : entryFrame m #[(.int x0), (.int x1), (.int x2), (.int x3), (.int x4)] 5 = mkF m 0 #[.val (.int x0), .val (.int x1), .val (.int x2), .val (.int x3), .val (.int x4)] [] := by first | (simp [entryFrame, mkF, argsToLocals, Value.category]; done) | rfl
theorem ef_bu0 (m : MethodId) (x0 : Addr) : entryFrame m #[(.ref x0)] 1 = mkF m 0 #[.val (.ref x0)] [] := by first | (simp [entryFrame, mkF, argsToLocals, Value.category]; done) | rfl
theorem ef_sa0 (m : MethodId) (x0 : Addr) (x1 : Int32) (x2 : Int32) (x3 : Int32) (x4 : Int32) (x5 : Int32) : entryFrame m #[(.ref x0), (.int x1), (.int x2), (.int x3), (.int x4), (.int x5)] 6 = mkF m 0 #[.val (.ref x0), .val (.int x1), .val (.int x2), .val (.int x3), .val (.int x4), .val (.int x5)] [] := by first | (simp [entryFrame, mkF, argsToLocals, Value.category]; done) | rfl
theorem ef_mk1 (m : MethodId) (x0 : Int32) (x1 : Int32) (x2 : Int32) (x3 : Int32) (x4 : Int32) : entryFrame m #[(.int x0), (.int x1), (.int x2), (.int x3), (.int x4)] 5 = mkF m 0 #[.val (.int x0), .val (.int x1), .val (.int x2), .val (.int x3), .val (.int x4)] [] := by first | (simp [entryFrame, mkF, argsToLocals, Value.category]; done) | rfl
theorem ef_bu1 (m : MethodId) (x0 : Addr) : entryFrame m #[(.ref x0)] 1 = mkF m 0 #[.val (.ref x0)] [] := by first | (simp [entryFrame, mkF, argsToLocals, Value.category]; done) | rfl
theorem ef_sa1 (m : MethodId) (x0 : Addr) (x1 : Int32) (x2 : Int32) (x3 : Int32) (x4 : Int32) (x5 : Int32) : entryFrame m #[(.ref x0), (.int x1), (.int x2), (.int x3), (.int x4), (.int x5)] 6 = mkF m 0 #[.val (.ref x0), .val (.int x1), .val (.int x2), .val (.int x3), .val (.int x4), .val (.int x5)] [] := by first | (simp [entryFrame, mkF, argsToLocals, Value.category]; done) | rfl
theorem ef_mk2 (m : MethodId) (x0 : Int32) (x1 : Int32) (x2 : Int32) (x3 : Int32) (x4 : Int32) : entryFrame m #[(.int x0), (.int x1), (.int x2), (.int x3), (.int x4)] 5 = mkF m 0 #[.val (.int x0), .val (.int x1), .val (.int x2), .val (.int x3), .val (.int x4)] [] := by first | (simp [entryFrame, mkF, argsToLocals, Value.category]; done) | rfl
theorem ef_bu2 (m : MethodId) (x0 : Addr) : entryFrame m #[(.ref x0)] 1 = mkF m 0 #[.val (.ref x0)] [] := by first | (simp [entryFrame, mkF, argsToLocals, Value.category]; done) | rfl
theorem ef_sa2 (m : MethodId) (x0 : Addr) (x1 : Int32) (x2 : Int32) (x3 : Int32) (x4 : Int32) (x5 : Int32) : entryFrame m #[(.ref x0), (.int x1), (.int x2), (.int x3), (.int x4), (.int x5)] 6 = mkF m 0 #[.val (.ref x0), .val (.int x1), .val (.int x2), .val (.int x3), .val (.int x4), .val (.int x5)] [] := by first | (simp [entryFrame, mkF, argsToLocals, Value.category]; done) | rfl
theorem ef_mk3 (m : MethodId) (x0 : Int32) (x1 : Int32) (x2 : Int32) (x3 : Int32) (x4 : Int32) : entryFrame m #[(.int x0), (.int x1), (.int x2), (.int x3), (.int x4)] 5 = mkF m 0 #[.val (.int x0), .val (.int x1), .val (.int x2), .val (.int x3), .val (.int x4)] [] := by first | (simp [entryFrame, mkF, argsToLocals, Value.category]; done) | rfl
theorem ef_bu3 (m : MethodId) (x0 : Addr) : entryFrame m #[(.ref x0)] 1 = mkF m 0 #[.val (.ref x0)] [] := by first | (simp [entryFrame, mkF, argsToLocals, Value.category]; done) | rfl
theorem ef_sa3 (m : MethodId) (x0 : Addr) (x1 : Int32) (x2 : Int32) (x3 : Int32) (x4 : Int32) (x5 : Int32) : entryFrame m #[(.ref x0), (.int x1), (.int x2), (.int x3), (.int x4), (.int x5)] 6 = mkF m 0 #[.val (.ref x0), .val (.int x1), .val (.int x2), .val (.int x3), .val (.int x4), .val (.int x5)] [] := by first | (simp [entryFrame, mkF, argsToLocals, Value.category]; done) | rfl
theorem ef_mk4 (m : MethodId) (x0 : Int32) (x1 : Int32) (x2 : Int32) (x3 : Int32) (x4 : Int32) : entryFrame m #[(.int x0), (.int x1), (.int x2), (.int x3), (.int x4)] 5 = mkF m 0 #[.val (.int x0), .val (.int x1), .val (.int x2), .val (.int x3), .val (.int x4)] [] := by first | (simp [entryFrame, mkF, argsToLocals, Value.category]; done) | rfl
theorem ef_bu4 (m : MethodId) (x0 : Addr) : entryFrame m #[(.ref x0)] 1 = mkF m 0 #[.val (.ref x0)] [] := by first | (simp [entryFrame, mkF, argsToLocals, Value.category]; done) | rfl
theorem ef_sa4 (m : MethodId) (x0 : Addr) (x1 : Int32) (x2 : Int32) (x3 : Int32) (x4 : Int32) (x5 : Int32) : entryFrame m #[(.ref x0), (.int x1), (.int x2), (.int x3), (.int x4), (.int x5)] 6 = mkF m 0 #[.val (.ref x0), .val (.int x1), .val (.int x2), .val (.int x3), .val (.int x4), .val (.int x5)] [] := by first | (simp [entryFrame, mkF, argsToLocals, Value.category]; done) | rfl
theorem ef_cpy (m : MethodId) (x0 : Addr) (x1 : Int32) : entryFrame m #[(.ref x0), (.int x1)] 3 = mkF m 0 #[.val (.ref x0), .val (.int x1), .unset] [] := by first | (simp [entryFrame, mkF, argsToLocals, Value.category]; done) | rfl
theorem ef_ini (m : MethodId) (x0 : Addr) (x1 : Addr) (x2 : Int64) (x3 : Addr) (x4 : Addr) : entryFrame m #[(.ref x0), (.ref x1), (.long x2), (.ref x3), (.ref x4)] 6 = mkF m 0 #[.val (.ref x0), .val (.ref x1), .val (.long x2), .second, .val (.ref x3), .val (.ref x4)] [] := by first | (simp [entryFrame, mkF, argsToLocals, Value.category]; done) | rfl
theorem ef_dat (m : MethodId) (x0 : Addr) : entryFrame m #[(.ref x0)] 1 = mkF m 0 #[.val (.ref x0)] [] := by first | (simp [entryFrame, mkF, argsToLocals, Value.category]; done) | rfl
theorem ef_0 (m : MethodId) (x0 : Int32) (x1 : Int32) (x2 : Int32) (x3 : Int64) : entryFrame m #[(.int x0), (.int x1), (.int x2), (.long x3)] maxLocals = mkF m 0 #[.val (.int x0), .val (.int x1), .val (.int x2), .val (.long x3), .second, .unset, .unset, .unset, .unset, .unset, .unset, .unset, .unset, .unset] [] := by first | (simp [entryFrame, mkF, argsToLocals, Value.category, maxLocals]; done) | rfl
def Qmk0 (Z : State) (x0 : Int32) (x1 : Int32) (x2 : Int32) (x3 : Int32) (h0 : Heap) (n0 : Nat) (v : Option Value) (h : Heap) (L : List Loc) : Prop := ∃ (a : Addr) (kc : ClassId), v = some (.ref a) ∧ Fr n0 L ∧ Keep h0 h [] ∧ Arv Z h a kc .byte (0 : Int32) [] (.int (0 : Int32)) ∧ Exa Z h a "[B" ∧ h0.size ≤ a
set_option maxRecDepth 65536 in
set_option maxHeartbeats 40000000 in
theorem rmmk0 (l : Launch) (Z : State) (a0 : Array Value) (hw : ∀ d ∈ tables_1, d.before a0 Z = true) (ws : List Jvm.Cond) (x0 : Int32) (x1 : Int32) (x2 : Int32) (x3 : Int32) (h0 : Heap) (n0 : Nat) (Z0 : n0 ≤ h0.size) (hx0 : nar .byte x0 = x0) (hx1 : nar .byte x1 = x1) (hx2 : nar .byte x2 = x2) (hx3 : nar .byte x3 = x3) :
    MetFree l (⟨"com/example/thorough_factfind/thoroughfactfind/foundation/db/EventDataPinLaw", "make", "(IBBBB)[B"⟩ : MethodName) (head1 (Jvm.Cond.code (⟨"com/example/thorough_factfind/thoroughfactfind/foundation/db/EventDataPinLaw", "make", "(IBBBB)[B"⟩ : MethodName) method_2_code 5 (some (.array .byte)) :: ws) ({ frames := 0, cells := 1, slots := 0, locals := 0 } : Room)) (fun as_ UU => as_ = #[(.int (0 : Int32)), (.int x0), (.int x1), (.int x2), (.int x3)] ∧ Z.Warmed39 UU.vm ∧ UU.heap = h0) (fun _ _ _ _ _ => True) (fun _ UU oo UU' => ∃ vv LL, oo = .returned vv ∧ (Qmk0 Z x0 x1 x2 x3 h0 n0) vv UU'.heap LL ∧ FrameEnd UU oo UU' LL ({ frames := 0, cells := 1, slots := 0, locals := 0 } : Room).cells ({ frames := 0, cells := 1, slots := 0, locals := 0 } : Room).slots) := by
  refine own_met (plainFor_of_name pn_1) ?_
  intro p e s m below meth c s₁ X0 hx hby hml hret hlk hown hnm hZ e0
  have N0 := Fr.nil n0
  have Z_ := Z0
  refine OwnGo.cast (ef_mk0 m (0 : Int32) x0 x1 x2 x3) ?_
  show OwnGo p e below s _ _ _ s₁ (mkF m 0 #[.val (.int (0 : Int32)), .val (.int x0), .val (.int x1), .val (.int x2), .val (.int x3)] [])
  have Kp : Keep h0 h0 [] := Keep.refl h0 []
  refine OwnGo.st (fun _ k => XS.iloadN X0.here hx rfl (hb hby d1_0) rfl  k) ?_
  show OwnGo p e below s _ _ _ s₁ (mkF m 1 #[.val (.int (0 : Int32)), .val (.int x0), .val (.int x1), .val (.int x2), .val (.int x3)] [(.int (0 : Int32))])
  refine OwnGo.st (fun _ k => XS.ifNo X0.here hx rfl (hb hby d1_1) rfl ((if0 _ _).trans (teq ((by decide) : (0 : Int32) = (0 : Int32))).2) k) ?_
  show OwnGo p e below s _ _ _ s₁ (mkF m 4 #[.val (.int (0 : Int32)), .val (.int x0), .val (.int x1), .val (.int x2), .val (.int x3)] [])
  refine OwnGo.st (fun _ k => XS.iconst X0.here hx rfl (hb hby d1_4) k) ?_
  show OwnGo p e below s _ _ _ s₁ (mkF m 5 #[.val (.int (0 : Int32)), .val (.int x0), .val (.int x1), .val (.int x2), .val (.int x3)] [(.int (0 : Int32))])
  obtain ⟨T1, h1, k1, X1, e1, E1, A1, Ex1, st1⟩ := newPE X0 hx hZ (hw _ (List.mem_of_getElem? (i := 5) rfl)) e0 (g := (mkF m 5 #[.val (.int (0 : Int32)), .val (.int x0), .val (.int x1), .val (.int x2), .val (.int x3)] [(.int (0 : Int32))])) rfl (hb hby d1_5) rfl (by decide) (cap := 0) (by decide) (by decide) (by decide) (by decide) (ad := "[B") (by decide)
  obtain ⟨b1, g1⟩ : ∃ z, z = h0.size := ⟨_, rfl⟩
  rw [← g1] at A1 Ex1 st1
  have g_b1 : n0 ≤ b1 := Nat.le_trans Z_ (Nat.le_of_eq g1.symm)
  have sz_b1 : h0.size ≤ b1 := Nat.le_trans Kp.1 (Nat.le_of_eq g1.symm)
  have Kp := Kp.ext E1
  have Z_ : n0 ≤ h1.size := Nat.le_trans Z_ E1.1
  have V_b1 : Arv Z h1 b1 k1 .byte (0 : Int32) [] (.int (0 : Int32)) := (Arv.new A1 (by decide)).pad (pad_rep [] (.int (0 : Int32)) 0)
  have E_b1 := Ex1
  refine OwnGo.st st1 ?_
  show OwnGo p e below s _ _ _ T1 (mkF m 7 #[.val (.int (0 : Int32)), .val (.int x0), .val (.int x1), .val (.int x2), .val (.int x3)] [(.ref b1)])
  exact OwnGo.ret X1 hx hret hlk rfl (Or.inr (Or.inr (Or.inr (Or.inr ⟨rfl, rfl, rfl⟩)))) (hb hby d1_7) (by show Qmk0 Z x0 x1 x2 x3 h0 n0 _ T1.heap _; rw [e1]; exact ⟨b1, k1, rfl, N0, Kp, V_b1, E_b1, sz_b1⟩) (by decide) (by decide)
def Qbu0 (Z : State) (a : Addr) (kc : ClassId) (h0 : Heap) (n0 : Nat) (v : Option Value) (h : Heap) (L : List Loc) : Prop := v = none ∧ Fr n0 L ∧ Keep h0 h [a]
set_option maxRecDepth 65536 in
set_option maxHeartbeats 40000000 in
theorem rmbu0 (l : Launch) (Z : State) (a0 : Array Value) (hw : ∀ d ∈ tables_1, d.before a0 Z = true) (ws : List Jvm.Cond) (a : Addr) (kc : ClassId) (h0 : Heap) (n0 : Nat) (Z0 : n0 ≤ h0.size) (V : Arv Z h0 a kc .byte (0 : Int32) [] (.int (0 : Int32))) (g_a : n0 ≤ a) :
    MetFree l (⟨"com/example/thorough_factfind/thoroughfactfind/foundation/db/EventDataPinLaw", "bump", "([B)V"⟩ : MethodName) (head1 (Jvm.Cond.code (⟨"com/example/thorough_factfind/thoroughfactfind/foundation/db/EventDataPinLaw", "bump", "([B)V"⟩ : MethodName) method_3_code 1 none :: ws) ({ frames := 0, cells := 0, slots := 0, locals := 0 } : Room)) (fun as_ UU => as_ = #[(.ref a)] ∧ Z.Warmed39 UU.vm ∧ UU.heap = h0) (fun _ _ _ _ _ => True) (fun _ UU oo UU' => ∃ vv LL, oo = .returned vv ∧ (Qbu0 Z a kc h0 n0) vv UU'.heap LL ∧ FrameEnd UU oo UU' LL ({ frames := 0, cells := 0, slots := 0, locals := 0 } : Room).cells ({ frames := 0, cells := 0, slots := 0, locals := 0 } : Room).slots) := by
  refine own_met (plainFor_of_name pn_1) ?_
  intro p e s m below meth c s₁ X0 hx hby hml hret hlk hown hnm hZ e0
  have N0 := Fr.nil n0
  have Z_ := Z0
  refine OwnGo.cast (ef_bu0 m a) ?_
  show OwnGo p e below s _ _ _ s₁ (mkF m 0 #[.val (.ref a)] [])
  have Kp : Keep h0 h0 [a] := Keep.refl h0 [a]
  refine OwnGo.st (fun _ k => XS.aloadN X0.here hx rfl (hb hby d5_0) rfl rfl  k) ?_
  show OwnGo p e below s _ _ _ s₁ (mkF m 1 #[.val (.ref a)] [(.ref a)])
  obtain ⟨cl2, Ar2, -, S2, N2, -, -⟩ := id V
  refine OwnGo.st (fun _ k => own_len hZ (len_of S2 N2) Ar2 X0 e0 hx (g := (mkF m 1 #[.val (.ref a)] [(.ref a)])) rfl rfl (hb hby d5_1) _ k) ?_
  show OwnGo p e below s _ _ _ s₁ (mkF m 2 #[.val (.ref a)] [(.int (0 : Int32))])
  refine OwnGo.st (fun _ k => XS.ifYes X0.here hx rfl (pc0 := 2) (pc' := 14) rfl (hb hby d5_2) rfl ((if0 _ _).trans (flt ((by decide) : ¬ ((0 : Int32) < (0 : Int32)))).2.2.2) (by decide) (by decide) k) ?_
  show OwnGo p e below s _ _ _ s₁ (mkF m 14 #[.val (.ref a)] [])
  refine OwnGo.st (fun _ k => XS.aloadN X0.here hx rfl (hb hby d5_14) rfl rfl  k) ?_
  show OwnGo p e below s _ _ _ s₁ (mkF m 15 #[.val (.ref a)] [(.ref a)])
  obtain ⟨cl3, Ar3, -, S3, N3, -, -⟩ := id V
  refine OwnGo.st (fun _ k => own_len hZ (len_of S3 N3) Ar3 X0 e0 hx (g := (mkF m 15 #[.val (.ref a)] [(.ref a)])) rfl rfl (hb hby d5_15) _ k) ?_
  show OwnGo p e below s _ _ _ s₁ (mkF m 16 #[.val (.ref a)] [(.int (0 : Int32))])
  refine OwnGo.st (fun _ k => XS.iconst X0.here hx rfl (hb hby d5_16) k) ?_
  show OwnGo p e below s _ _ _ s₁ (mkF m 17 #[.val (.ref a)] [(.int (1 : Int32)), (.int (0 : Int32))])
  refine OwnGo.st (fun _ k => XS.icmpYes X0.here hx rfl (pc0 := 17) (pc' := 29) rfl (hb hby d5_17) rfl (flt ((by decide) : ¬ ((1 : Int32) < (0 : Int32)))).2.2.2 (by decide) (by decide) k) ?_
  show OwnGo p e below s _ _ _ s₁ (mkF m 29 #[.val (.ref a)] [])
  refine OwnGo.st (fun _ k => XS.aloadN X0.here hx rfl (hb hby d5_29) rfl rfl  k) ?_
  show OwnGo p e below s _ _ _ s₁ (mkF m 30 #[.val (.ref a)] [(.ref a)])
  obtain ⟨cl4, Ar4, -, S4, N4, -, -⟩ := id V
  refine OwnGo.st (fun _ k => own_len hZ (len_of S4 N4) Ar4 X0 e0 hx (g := (mkF m 30 #[.val (.ref a)] [(.ref a)])) rfl rfl (hb hby d5_30) _ k) ?_
  show OwnGo p e below s _ _ _ s₁ (mkF m 31 #[.val (.ref a)] [(.int (0 : Int32))])
  refine OwnGo.st (fun _ k => XS.iconst X0.here hx rfl (hb hby d5_31) k) ?_
  show OwnGo p e below s _ _ _ s₁ (mkF m 32 #[.val (.ref a)] [(.int (2 : Int32)), (.int (0 : Int32))])
  refine OwnGo.st (fun _ k => XS.icmpYes X0.here hx rfl (pc0 := 32) (pc' := 44) rfl (hb hby d5_32) rfl (flt ((by decide) : ¬ ((2 : Int32) < (0 : Int32)))).2.2.2 (by decide) (by decide) k) ?_
  show OwnGo p e below s _ _ _ s₁ (mkF m 44 #[.val (.ref a)] [])
  refine OwnGo.st (fun _ k => XS.aloadN X0.here hx rfl (hb hby d5_44) rfl rfl  k) ?_
  show OwnGo p e below s _ _ _ s₁ (mkF m 45 #[.val (.ref a)] [(.ref a)])
  obtain ⟨cl5, Ar5, -, S5, N5, -, -⟩ := id V
  refine OwnGo.st (fun _ k => own_len hZ (len_of S5 N5) Ar5 X0 e0 hx (g := (mkF m 45 #[.val (.ref a)] [(.ref a)])) rfl rfl (hb hby d5_45) _ k) ?_
  show OwnGo p e below s _ _ _ s₁ (mkF m 46 #[.val (.ref a)] [(.int (0 : Int32))])
  refine OwnGo.st (fun _ k => XS.iconst X0.here hx rfl (hb hby d5_46) k) ?_
  show OwnGo p e below s _ _ _ s₁ (mkF m 47 #[.val (.ref a)] [(.int (3 : Int32)), (.int (0 : Int32))])
  refine OwnGo.st (fun _ k => XS.icmpYes X0.here hx rfl (pc0 := 47) (pc' := 59) rfl (hb hby d5_47) rfl (flt ((by decide) : ¬ ((3 : Int32) < (0 : Int32)))).2.2.2 (by decide) (by decide) k) ?_
  show OwnGo p e below s _ _ _ s₁ (mkF m 59 #[.val (.ref a)] [])
  exact OwnGo.retV X0 hx hret hlk (hb hby d5_59) (by show Qbu0 Z a kc h0 n0 _ s₁.heap _; rw [e0]; exact ⟨rfl, N0, Kp⟩) (by decide) (by decide)
def Qsa0 (Z : State) (a : Addr) (kc : ClassId) (x0 : Int32) (x1 : Int32) (x2 : Int32) (x3 : Int32) (h0 : Heap) (n0 : Nat) (v : Option Value) (h : Heap) (L : List Loc) : Prop := v = some (.int (1 : Int32)) ∧ Fr n0 L ∧ h = h0
set_option maxRecDepth 65536 in
set_option maxHeartbeats 40000000 in
theorem rmsa0 (l : Launch) (Z : State) (a0 : Array Value) (hw : ∀ d ∈ tables_1, d.before a0 Z = true) (ws : List Jvm.Cond) (a : Addr) (kc : ClassId) (x0 : Int32) (x1 : Int32) (x2 : Int32) (x3 : Int32) (h0 : Heap) (n0 : Nat) (Z0 : n0 ≤ h0.size) (V : Arv Z h0 a kc .byte (0 : Int32) [] (.int (0 : Int32))) :
    MetFree l (⟨"com/example/thorough_factfind/thoroughfactfind/foundation/db/EventDataPinLaw", "same", "([BIBBBB)Z"⟩ : MethodName) (head1 (Jvm.Cond.code (⟨"com/example/thorough_factfind/thoroughfactfind/foundation/db/EventDataPinLaw", "same", "([BIBBBB)Z"⟩ : MethodName) method_4_code 6 (some .boolean) :: ws) ({ frames := 0, cells := 0, slots := 0, locals := 0 } : Room)) (fun as_ UU => as_ = #[(.ref a), (.int (0 : Int32)), (.int x0), (.int x1), (.int x2), (.int x3)] ∧ Z.Warmed39 UU.vm ∧ UU.heap = h0) (fun _ _ _ _ _ => True) (fun _ UU oo UU' => ∃ vv LL, oo = .returned vv ∧ (Qsa0 Z a kc x0 x1 x2 x3 h0 n0) vv UU'.heap LL ∧ FrameEnd UU oo UU' LL ({ frames := 0, cells := 0, slots := 0, locals := 0 } : Room).cells ({ frames := 0, cells := 0, slots := 0, locals := 0 } : Room).slots) := by
  refine own_met (plainFor_of_name pn_1) ?_
  intro p e s m below meth c s₁ X0 hx hby hml hret hlk hown hnm hZ e0
  have N0 := Fr.nil n0
  have Z_ := Z0
  refine OwnGo.cast (ef_sa0 m a (0 : Int32) x0 x1 x2 x3) ?_
  show OwnGo p e below s _ _ _ s₁ (mkF m 0 #[.val (.ref a), .val (.int (0 : Int32)), .val (.int x0), .val (.int x1), .val (.int x2), .val (.int x3)] [])
  refine OwnGo.st (fun _ k => XS.aloadN X0.here hx rfl (hb hby d7_0) rfl rfl  k) ?_
  show OwnGo p e below s _ _ _ s₁ (mkF m 1 #[.val (.ref a), .val (.int (0 : Int32)), .val (.int x0), .val (.int x1), .val (.int x2), .val (.int x3)] [(.ref a)])
  refine OwnGo.st (fun _ k => XS.ifnonnullYes X0.here hx rfl (pc0 := 1) (pc' := 6) rfl (hb hby d7_1) rfl (by decide) (by decide) k) ?_
  show OwnGo p e below s _ _ _ s₁ (mkF m 6 #[.val (.ref a), .val (.int (0 : Int32)), .val (.int x0), .val (.int x1), .val (.int x2), .val (.int x3)] [])
  refine OwnGo.st (fun _ k => XS.aloadN X0.here hx rfl (hb hby d7_6) rfl rfl  k) ?_
  show OwnGo p e below s _ _ _ s₁ (mkF m 7 #[.val (.ref a), .val (.int (0 : Int32)), .val (.int x0), .val (.int x1), .val (.int x2), .val (.int x3)] [(.ref a)])
  obtain ⟨cl6, Ar6, -, S6, N6, -, -⟩ := id V
  refine OwnGo.st (fun _ k => own_len hZ (len_of S6 N6) Ar6 X0 e0 hx (g := (mkF m 7 #[.val (.ref a), .val (.int (0 : Int32)), .val (.int x0), .val (.int x1), .val (.int x2), .val (.int x3)] [(.ref a)])) rfl rfl (hb hby d7_7) _ k) ?_
  show OwnGo p e below s _ _ _ s₁ (mkF m 8 #[.val (.ref a), .val (.int (0 : Int32)), .val (.int x0), .val (.int x1), .val (.int x2), .val (.int x3)] [(.int (0 : Int32))])
  refine OwnGo.st (fun _ k => XS.iloadN X0.here hx rfl (hb hby d7_8) rfl  k) ?_
  show OwnGo p e below s _ _ _ s₁ (mkF m 9 #[.val (.ref a), .val (.int (0 : Int32)), .val (.int x0), .val (.int x1), .val (.int x2), .val (.int x3)] [(.int (0 : Int32)), (.int (0 : Int32))])
  refine OwnGo.st (fun _ k => XS.icmpYes X0.here hx rfl (pc0 := 9) (pc' := 14) rfl (hb hby d7_9) rfl (teq (rfl : (0 : Int32) = (0 : Int32))).1 (by decide) (by decide) k) ?_
  show OwnGo p e below s _ _ _ s₁ (mkF m 14 #[.val (.ref a), .val (.int (0 : Int32)), .val (.int x0), .val (.int x1), .val (.int x2), .val (.int x3)] [])
  refine OwnGo.st (fun _ k => XS.iloadN X0.here hx rfl (hb hby d7_14) rfl  k) ?_
  show OwnGo p e below s _ _ _ s₁ (mkF m 15 #[.val (.ref a), .val (.int (0 : Int32)), .val (.int x0), .val (.int x1), .val (.int x2), .val (.int x3)] [(.int (0 : Int32))])
  refine OwnGo.st (fun _ k => XS.ifYes X0.here hx rfl (pc0 := 15) (pc' := 27) rfl (hb hby d7_15) rfl ((if0 _ _).trans (flt ((by decide) : ¬ ((0 : Int32) < (0 : Int32)))).2.2.2) (by decide) (by decide) k) ?_
  show OwnGo p e below s _ _ _ s₁ (mkF m 27 #[.val (.ref a), .val (.int (0 : Int32)), .val (.int x0), .val (.int x1), .val (.int x2), .val (.int x3)] [])
  refine OwnGo.st (fun _ k => XS.iloadN X0.here hx rfl (hb hby d7_27) rfl  k) ?_
  show OwnGo p e below s _ _ _ s₁ (mkF m 28 #[.val (.ref a), .val (.int (0 : Int32)), .val (.int x0), .val (.int x1), .val (.int x2), .val (.int x3)] [(.int (0 : Int32))])
  refine OwnGo.st (fun _ k => XS.iconst X0.here hx rfl (hb hby d7_28) k) ?_
  show OwnGo p e below s _ _ _ s₁ (mkF m 29 #[.val (.ref a), .val (.int (0 : Int32)), .val (.int x0), .val (.int x1), .val (.int x2), .val (.int x3)] [(.int (1 : Int32)), (.int (0 : Int32))])
  refine OwnGo.st (fun _ k => XS.icmpYes X0.here hx rfl (pc0 := 29) (pc' := 41) rfl (hb hby d7_29) rfl (flt ((by decide) : ¬ ((1 : Int32) < (0 : Int32)))).2.2.2 (by decide) (by decide) k) ?_
  show OwnGo p e below s _ _ _ s₁ (mkF m 41 #[.val (.ref a), .val (.int (0 : Int32)), .val (.int x0), .val (.int x1), .val (.int x2), .val (.int x3)] [])
  refine OwnGo.st (fun _ k => XS.iloadN X0.here hx rfl (hb hby d7_41) rfl  k) ?_
  show OwnGo p e below s _ _ _ s₁ (mkF m 42 #[.val (.ref a), .val (.int (0 : Int32)), .val (.int x0), .val (.int x1), .val (.int x2), .val (.int x3)] [(.int (0 : Int32))])
  refine OwnGo.st (fun _ k => XS.iconst X0.here hx rfl (hb hby d7_42) k) ?_
  show OwnGo p e below s _ _ _ s₁ (mkF m 43 #[.val (.ref a), .val (.int (0 : Int32)), .val (.int x0), .val (.int x1), .val (.int x2), .val (.int x3)] [(.int (2 : Int32)), (.int (0 : Int32))])
  refine OwnGo.st (fun _ k => XS.icmpYes X0.here hx rfl (pc0 := 43) (pc' := 56) rfl (hb hby d7_43) rfl (flt ((by decide) : ¬ ((2 : Int32) < (0 : Int32)))).2.2.2 (by decide) (by decide) k) ?_
  show OwnGo p e below s _ _ _ s₁ (mkF m 56 #[.val (.ref a), .val (.int (0 : Int32)), .val (.int x0), .val (.int x1), .val (.int x2), .val (.int x3)] [])
  refine OwnGo.st (fun _ k => XS.iloadN X0.here hx rfl (hb hby d7_56) rfl  k) ?_
  show OwnGo p e below s _ _ _ s₁ (mkF m 57 #[.val (.ref a), .val (.int (0 : Int32)), .val (.int x0), .val (.int x1), .val (.int x2), .val (.int x3)] [(.int (0 : Int32))])
  refine OwnGo.st (fun _ k => XS.iconst X0.here hx rfl (hb hby d7_57) k) ?_
  show OwnGo p e below s _ _ _ s₁ (mkF m 58 #[.val (.ref a), .val (.int (0 : Int32)), .val (.int x0), .val (.int x1), .val (.int x2), .val (.int x3)] [(.int (3 : Int32)), (.int (0 : Int32))])
  refine OwnGo.st (fun _ k => XS.icmpYes X0.here hx rfl (pc0 := 58) (pc' := 71) rfl (hb hby d7_58) rfl (flt ((by decide) : ¬ ((3 : Int32) < (0 : Int32)))).2.2.2 (by decide) (by decide) k) ?_
  show OwnGo p e below s _ _ _ s₁ (mkF m 71 #[.val (.ref a), .val (.int (0 : Int32)), .val (.int x0), .val (.int x1), .val (.int x2), .val (.int x3)] [])
  refine OwnGo.st (fun _ k => XS.iconst X0.here hx rfl (hb hby d7_71) k) ?_
  show OwnGo p e below s _ _ _ s₁ (mkF m 72 #[.val (.ref a), .val (.int (0 : Int32)), .val (.int x0), .val (.int x1), .val (.int x2), .val (.int x3)] [(.int (1 : Int32))])
  exact OwnGo.retN X0 hx (t := .boolean) hret hlk (by simp) (hb hby d7_72) (by show Qsa0 Z a kc x0 x1 x2 x3 h0 n0 _ s₁.heap _; rw [e0]; exact ⟨rfl, N0, rfl⟩) (by decide) (by decide)
def Qmk1 (Z : State) (x0 : Int32) (x1 : Int32) (x2 : Int32) (x3 : Int32) (h0 : Heap) (n0 : Nat) (v : Option Value) (h : Heap) (L : List Loc) : Prop := ∃ (a : Addr) (kc : ClassId), v = some (.ref a) ∧ Fr n0 L ∧ Keep h0 h [] ∧ Arv Z h a kc .byte (1 : Int32) [(.int x0)] (.int (0 : Int32)) ∧ Exa Z h a "[B" ∧ h0.size ≤ a
set_option maxRecDepth 65536 in
set_option maxHeartbeats 40000000 in
theorem rmmk1 (l : Launch) (Z : State) (a0 : Array Value) (hw : ∀ d ∈ tables_1, d.before a0 Z = true) (ws : List Jvm.Cond) (x0 : Int32) (x1 : Int32) (x2 : Int32) (x3 : Int32) (h0 : Heap) (n0 : Nat) (Z0 : n0 ≤ h0.size) (hx0 : nar .byte x0 = x0) (hx1 : nar .byte x1 = x1) (hx2 : nar .byte x2 = x2) (hx3 : nar .byte x3 = x3) :
    MetFree l (⟨"com/example/thorough_factfind/thoroughfactfind/foundation/db/EventDataPinLaw", "make", "(IBBBB)[B"⟩ : MethodName) (head1 (Jvm.Cond.code (⟨"com/example/thorough_factfind/thoroughfactfind/foundation/db/EventDataPinLaw", "make", "(IBBBB)[B"⟩ : MethodName) method_2_code 5 (some (.array .byte)) :: ws) ({ frames := 0, cells := 1, slots := 1, locals := 0 } : Room)) (fun as_ UU => as_ = #[(.int (1 : Int32)), (.int x0), (.int x1), (.int x2), (.int x3)] ∧ Z.Warmed39 UU.vm ∧ UU.heap = h0) (fun _ _ _ _ _ => True) (fun _ UU oo UU' => ∃ vv LL, oo = .returned vv ∧ (Qmk1 Z x0 x1 x2 x3 h0 n0) vv UU'.heap LL ∧ FrameEnd UU oo UU' LL ({ frames := 0, cells := 1, slots := 1, locals := 0 } : Room).cells ({ frames := 0, cells := 1, slots := 1, locals := 0 } : Room).slots) := by
  refine own_met (plainFor_of_name pn_1) ?_
  intro p e s m below meth c s₁ X0 hx hby hml hret hlk hown hnm hZ e0
  have N0 := Fr.nil n0
  have Z_ := Z0
  refine OwnGo.cast (ef_mk1 m (1 : Int32) x0 x1 x2 x3) ?_
  show OwnGo p e below s _ _ _ s₁ (mkF m 0 #[.val (.int (1 : Int32)), .val (.int x0), .val (.int x1), .val (.int x2), .val (.int x3)] [])
  have Kp : Keep h0 h0 [] := Keep.refl h0 []
  refine OwnGo.st (fun _ k => XS.iloadN X0.here hx rfl (hb hby d1_0) rfl  k) ?_
  show OwnGo p e below s _ _ _ s₁ (mkF m 1 #[.val (.int (1 : Int32)), .val (.int x0), .val (.int x1), .val (.int x2), .val (.int x3)] [(.int (1 : Int32))])
  refine OwnGo.st (fun _ k => XS.ifYes X0.here hx rfl (pc0 := 1) (pc' := 8) rfl (hb hby d1_1) rfl ((if0 _ _).trans (feq ((by decide) : ¬ ((1 : Int32) = (0 : Int32)))).2) (by decide) (by decide) k) ?_
  show OwnGo p e below s _ _ _ s₁ (mkF m 8 #[.val (.int (1 : Int32)), .val (.int x0), .val (.int x1), .val (.int x2), .val (.int x3)] [])
  refine OwnGo.st (fun _ k => XS.iloadN X0.here hx rfl (hb hby d1_8) rfl  k) ?_
  show OwnGo p e below s _ _ _ s₁ (mkF m 9 #[.val (.int (1 : Int32)), .val (.int x0), .val (.int x1), .val (.int x2), .val (.int x3)] [(.int (1 : Int32))])
  refine OwnGo.st (fun _ k => XS.iconst X0.here hx rfl (hb hby d1_9) k) ?_
  show OwnGo p e below s _ _ _ s₁ (mkF m 10 #[.val (.int (1 : Int32)), .val (.int x0), .val (.int x1), .val (.int x2), .val (.int x3)] [(.int (1 : Int32)), (.int (1 : Int32))])
  refine OwnGo.st (fun _ k => XS.icmpNo X0.here hx rfl (hb hby d1_10) rfl (teq ((by decide) : (1 : Int32) = (1 : Int32))).2 k) ?_
  show OwnGo p e below s _ _ _ s₁ (mkF m 13 #[.val (.int (1 : Int32)), .val (.int x0), .val (.int x1), .val (.int x2), .val (.int x3)] [])
  refine OwnGo.st (fun _ k => XS.iconst X0.here hx rfl (hb hby d1_13) k) ?_
  show OwnGo p e below s _ _ _ s₁ (mkF m 14 #[.val (.int (1 : Int32)), .val (.int x0), .val (.int x1), .val (.int x2), .val (.int x3)] [(.int (1 : Int32))])
  obtain ⟨T7, h7, k7, X7, e7, E7, A7, Ex7, st7⟩ := newPE X0 hx hZ (hw _ (List.mem_of_getElem? (i := 5) rfl)) e0 (g := (mkF m 14 #[.val (.int (1 : Int32)), .val (.int x0), .val (.int x1), .val (.int x2), .val (.int x3)] [(.int (1 : Int32))])) rfl (hb hby d1_14) rfl (by decide) (cap := 1) (by decide) (by decide) (by decide) (by decide) (ad := "[B") (by decide)
  obtain ⟨b7, g7⟩ : ∃ z, z = h0.size := ⟨_, rfl⟩
  rw [← g7] at A7 Ex7 st7
  have g_b7 : n0 ≤ b7 := Nat.le_trans Z_ (Nat.le_of_eq g7.symm)
  have sz_b7 : h0.size ≤ b7 := Nat.le_trans Kp.1 (Nat.le_of_eq g7.symm)
  have Kp := Kp.ext E7
  have Z_ : n0 ≤ h7.size := Nat.le_trans Z_ E7.1
  have V_b7 : Arv Z h7 b7 k7 .byte (1 : Int32) [(.int (0 : Int32))] (.int (0 : Int32)) := (Arv.new A7 (by decide)).pad (pad_rep [] (.int (0 : Int32)) 1)
  have E_b7 := Ex7
  refine OwnGo.st st7 ?_
  show OwnGo p e below s _ _ _ T7 (mkF m 16 #[.val (.int (1 : Int32)), .val (.int x0), .val (.int x1), .val (.int x2), .val (.int x3)] [(.ref b7)])
  refine OwnGo.st (fun _ k => XS.dup X7.here hx rfl (hb hby d1_16) rfl rfl k) ?_
  show OwnGo p e below s _ _ _ T7 (mkF m 17 #[.val (.int (1 : Int32)), .val (.int x0), .val (.int x1), .val (.int x2), .val (.int x3)] [(.ref b7), (.ref b7)])
  refine OwnGo.st (fun _ k => XS.iconst X7.here hx rfl (hb hby d1_17) k) ?_
  show OwnGo p e below s _ _ _ T7 (mkF m 18 #[.val (.int (1 : Int32)), .val (.int x0), .val (.int x1), .val (.int x2), .val (.int x3)] [(.int (0 : Int32)), (.ref b7), (.ref b7)])
  refine OwnGo.st (fun _ k => XS.iloadN X7.here hx rfl (hb hby d1_18) rfl  k) ?_
  show OwnGo p e below s _ _ _ T7 (mkF m 19 #[.val (.int (1 : Int32)), .val (.int x0), .val (.int x1), .val (.int x2), .val (.int x3)] [(.int x0), (.int (0 : Int32)), (.ref b7), (.ref b7)])
  obtain ⟨cl8, Ar8, q8, S8, N8, H8, G8⟩ := id V_b7
  have hin8 : ¬ ((0 : Int32) < 0 ∨ cl8.slots.size ≤ ((0 : Int32)).toNatClampNeg) := inb_of S8 ⟨by decide, by decide⟩
  obtain ⟨T8, h8, X8, e8, W8, st8⟩ := stB X7 hx hZ e7 Ar8 (j := (0 : Int32)) hin8 (g := (mkF m 19 #[.val (.int (1 : Int32)), .val (.int x0), .val (.int x1), .val (.int x2), .val (.int x3)] [(.int x0), (.int (0 : Int32)), (.ref b7), (.ref b7)])) rfl rfl (hb hby d1_19)
  have V_b7 : Arv Z h8 b7 k7 .byte (1 : Int32) [(.int (nar .byte x0))] (.int (0 : Int32)) := Arv.set Ar8 q8 S8 N8 H8 G8 (fits_nar_byte _) W8 0 rfl (Nat.le_of_ble_eq_true rfl)
  rw [show nar .byte x0 = x0 from hx0] at V_b7
  have E_b7 := E_b7.wr W8
  have Kp := Kp.wr W8 (Or.inr sz_b7)
  have N8 := Fr.snoc X8 N0 g_b7
  have Z_ : n0 ≤ h8.size := by rw [W8.size]; exact Z_
  refine OwnGo.st st8 ?_
  show OwnGo p e below s _ _ _ T8 (mkF m 20 #[.val (.int (1 : Int32)), .val (.int x0), .val (.int x1), .val (.int x2), .val (.int x3)] [(.ref b7)])
  exact OwnGo.ret X8 hx hret hlk rfl (Or.inr (Or.inr (Or.inr (Or.inr ⟨rfl, rfl, rfl⟩)))) (hb hby d1_20) (by show Qmk1 Z x0 x1 x2 x3 h0 n0 _ T8.heap _; rw [e8]; exact ⟨b7, k7, rfl, N8, Kp, V_b7, E_b7, sz_b7⟩) (by decide) (by decide)
def Qbu1 (Z : State) (a : Addr) (kc : ClassId) (b0 : Int32) (h0 : Heap) (n0 : Nat) (v : Option Value) (h : Heap) (L : List Loc) : Prop := v = none ∧ Fr n0 L ∧ Keep h0 h [a]
set_option maxRecDepth 65536 in
set_option maxHeartbeats 40000000 in
theorem rmbu1 (l : Launch) (Z : State) (a0 : Array Value) (hw : ∀ d ∈ tables_1, d.before a0 Z = true) (ws : List Jvm.Cond) (a : Addr) (kc : ClassId) (b0 : Int32) (h0 : Heap) (n0 : Nat) (Z0 : n0 ≤ h0.size) (V : Arv Z h0 a kc .byte (1 : Int32) [(.int b0)] (.int (0 : Int32))) (g_a : n0 ≤ a) :
    MetFree l (⟨"com/example/thorough_factfind/thoroughfactfind/foundation/db/EventDataPinLaw", "bump", "([B)V"⟩ : MethodName) (head1 (Jvm.Cond.code (⟨"com/example/thorough_factfind/thoroughfactfind/foundation/db/EventDataPinLaw", "bump", "([B)V"⟩ : MethodName) method_3_code 1 none :: ws) ({ frames := 0, cells := 0, slots := 0, locals := 0 } : Room)) (fun as_ UU => as_ = #[(.ref a)] ∧ Z.Warmed39 UU.vm ∧ UU.heap = h0) (fun _ _ _ _ _ => True) (fun _ UU oo UU' => ∃ vv LL, oo = .returned vv ∧ (Qbu1 Z a kc b0 h0 n0) vv UU'.heap LL ∧ FrameEnd UU oo UU' LL ({ frames := 0, cells := 0, slots := 0, locals := 0 } : Room).cells ({ frames := 0, cells := 0, slots := 0, locals := 0 } : Room).slots) := by
  refine own_met (plainFor_of_name pn_1) ?_
  intro p e s m below meth c s₁ X0 hx hby hml hret hlk hown hnm hZ e0
  have N0 := Fr.nil n0
  have Z_ := Z0
  refine OwnGo.cast (ef_bu1 m a) ?_
  show OwnGo p e below s _ _ _ s₁ (mkF m 0 #[.val (.ref a)] [])
  have Kp : Keep h0 h0 [a] := Keep.refl h0 [a]
  refine OwnGo.st (fun _ k => XS.aloadN X0.here hx rfl (hb hby d5_0) rfl rfl  k) ?_
  show OwnGo p e below s _ _ _ s₁ (mkF m 1 #[.val (.ref a)] [(.ref a)])
  obtain ⟨cl9, Ar9, -, S9, N9, -, -⟩ := id V
  refine OwnGo.st (fun _ k => own_len hZ (len_of S9 N9) Ar9 X0 e0 hx (g := (mkF m 1 #[.val (.ref a)] [(.ref a)])) rfl rfl (hb hby d5_1) _ k) ?_
  show OwnGo p e below s _ _ _ s₁ (mkF m 2 #[.val (.ref a)] [(.int (1 : Int32))])
  refine OwnGo.st (fun _ k => XS.ifNo X0.here hx rfl (hb hby d5_2) rfl ((if0 _ _).trans (tlt ((by decide) : (0 : Int32) < (1 : Int32))).2.2.2) k) ?_
  show OwnGo p e below s _ _ _ s₁ (mkF m 5 #[.val (.ref a)] [])
  refine OwnGo.st (fun _ k => XS.aloadN X0.here hx rfl (hb hby d5_5) rfl rfl  k) ?_
  show OwnGo p e below s _ _ _ s₁ (mkF m 6 #[.val (.ref a)] [(.ref a)])
  refine OwnGo.st (fun _ k => XS.iconst X0.here hx rfl (hb hby d5_6) k) ?_
  show OwnGo p e below s _ _ _ s₁ (mkF m 7 #[.val (.ref a)] [(.int (0 : Int32)), (.ref a)])
  refine OwnGo.st (fun _ k => XS.aloadN X0.here hx rfl (hb hby d5_7) rfl rfl  k) ?_
  show OwnGo p e below s _ _ _ s₁ (mkF m 8 #[.val (.ref a)] [(.ref a), (.int (0 : Int32)), (.ref a)])
  refine OwnGo.st (fun _ k => XS.iconst X0.here hx rfl (hb hby d5_8) k) ?_
  show OwnGo p e below s _ _ _ s₁ (mkF m 9 #[.val (.ref a)] [(.int (0 : Int32)), (.ref a), (.int (0 : Int32)), (.ref a)])
  obtain ⟨cl10, Ar10, -, S10, -, H10, -⟩ := id V
  have hin10 : ¬ ((0 : Int32) < 0 ∨ cl10.slots.size ≤ ((0 : Int32)).toNatClampNeg) := inb_of S10 ⟨by decide, by decide⟩
  refine OwnGo.st (fun _ k => X0.baloadBytes hx (j := (0 : Int32)) (v := (.int b0)) (by rw [e0]; exact Ar10.1) (State.isArrayOf_alike hZ.alike Ar10.2.1) Ar10.2.2 hin10 (H10.at hin10 rfl) (g := (mkF m 9 #[.val (.ref a)] [(.int (0 : Int32)), (.ref a), (.int (0 : Int32)), (.ref a)])) rfl rfl (hb hby d5_9) _ k) ?_
  show OwnGo p e below s _ _ _ s₁ (mkF m 10 #[.val (.ref a)] [(.int b0), (.int (0 : Int32)), (.ref a)])
  refine OwnGo.st (fun _ k => XS.iconst X0.here hx rfl (hb hby d5_10) k) ?_
  show OwnGo p e below s _ _ _ s₁ (mkF m 11 #[.val (.ref a)] [(.int (1 : Int32)), (.int b0), (.int (0 : Int32)), (.ref a)])
  refine OwnGo.st (fun _ k => XS.iadd X0.here hx rfl (hb hby d5_11) rfl k) ?_
  show OwnGo p e below s _ _ _ s₁ (mkF m 12 #[.val (.ref a)] [(.int (b0 + (1 : Int32))), (.int (0 : Int32)), (.ref a)])
  refine OwnGo.st (fun _ k => XS.i2b X0.here hx rfl (hb hby d5_12) rfl k) ?_
  show OwnGo p e below s _ _ _ s₁ (mkF m 13 #[.val (.ref a)] [(.int ((b0 + (1 : Int32)).toInt8.toInt32)), (.int (0 : Int32)), (.ref a)])
  obtain ⟨cl11, Ar11, q11, S11, N11, H11, G11⟩ := id V
  have hin11 : ¬ ((0 : Int32) < 0 ∨ cl11.slots.size ≤ ((0 : Int32)).toNatClampNeg) := inb_of S11 ⟨by decide, by decide⟩
  obtain ⟨T11, h11, X11, e11, W11, st11⟩ := stB X0 hx hZ e0 Ar11 (j := (0 : Int32)) hin11 (g := (mkF m 13 #[.val (.ref a)] [(.int ((b0 + (1 : Int32)).toInt8.toInt32)), (.int (0 : Int32)), (.ref a)])) rfl rfl (hb hby d5_13)
  have V : Arv Z h11 a kc .byte (1 : Int32) [(.int (nar .byte ((b0 + (1 : Int32)).toInt8.toInt32)))] (.int (0 : Int32)) := Arv.set Ar11 q11 S11 N11 H11 G11 (fits_nar_byte _) W11 0 rfl (Nat.le_of_ble_eq_true rfl)
  rw [show nar .byte ((b0 + (1 : Int32)).toInt8.toInt32) = ((b0 + (1 : Int32)).toInt8.toInt32) from own_nb _] at V
  have Kp := Kp.wr W11 (Or.inl (List.mem_of_getElem? (i := 0) rfl))
  have N11 := Fr.snoc X11 N0 g_a
  have Z_ : n0 ≤ h11.size := by rw [W11.size]; exact Z_
  refine OwnGo.st st11 ?_
  show OwnGo p e below s _ _ _ T11 (mkF m 14 #[.val (.ref a)] [])
  refine OwnGo.st (fun _ k => XS.aloadN X11.here hx rfl (hb hby d5_14) rfl rfl  k) ?_
  show OwnGo p e below s _ _ _ T11 (mkF m 15 #[.val (.ref a)] [(.ref a)])
  obtain ⟨cl12, Ar12, -, S12, N12, -, -⟩ := id V
  refine OwnGo.st (fun _ k => own_len hZ (len_of S12 N12) Ar12 X11 e11 hx (g := (mkF m 15 #[.val (.ref a)] [(.ref a)])) rfl rfl (hb hby d5_15) _ k) ?_
  show OwnGo p e below s _ _ _ T11 (mkF m 16 #[.val (.ref a)] [(.int (1 : Int32))])
  refine OwnGo.st (fun _ k => XS.iconst X11.here hx rfl (hb hby d5_16) k) ?_
  show OwnGo p e below s _ _ _ T11 (mkF m 17 #[.val (.ref a)] [(.int (1 : Int32)), (.int (1 : Int32))])
  refine OwnGo.st (fun _ k => XS.icmpYes X11.here hx rfl (pc0 := 17) (pc' := 29) rfl (hb hby d5_17) rfl (flt ((by decide) : ¬ ((1 : Int32) < (1 : Int32)))).2.2.2 (by decide) (by decide) k) ?_
  show OwnGo p e below s _ _ _ T11 (mkF m 29 #[.val (.ref a)] [])
  refine OwnGo.st (fun _ k => XS.aloadN X11.here hx rfl (hb hby d5_29) rfl rfl  k) ?_
  show OwnGo p e below s _ _ _ T11 (mkF m 30 #[.val (.ref a)] [(.ref a)])
  obtain ⟨cl13, Ar13, -, S13, N13, -, -⟩ := id V
  refine OwnGo.st (fun _ k => own_len hZ (len_of S13 N13) Ar13 X11 e11 hx (g := (mkF m 30 #[.val (.ref a)] [(.ref a)])) rfl rfl (hb hby d5_30) _ k) ?_
  show OwnGo p e below s _ _ _ T11 (mkF m 31 #[.val (.ref a)] [(.int (1 : Int32))])
  refine OwnGo.st (fun _ k => XS.iconst X11.here hx rfl (hb hby d5_31) k) ?_
  show OwnGo p e below s _ _ _ T11 (mkF m 32 #[.val (.ref a)] [(.int (2 : Int32)), (.int (1 : Int32))])
  refine OwnGo.st (fun _ k => XS.icmpYes X11.here hx rfl (pc0 := 32) (pc' := 44) rfl (hb hby d5_32) rfl (flt ((by decide) : ¬ ((2 : Int32) < (1 : Int32)))).2.2.2 (by decide) (by decide) k) ?_
  show OwnGo p e below s _ _ _ T11 (mkF m 44 #[.val (.ref a)] [])
  refine OwnGo.st (fun _ k => XS.aloadN X11.here hx rfl (hb hby d5_44) rfl rfl  k) ?_
  show OwnGo p e below s _ _ _ T11 (mkF m 45 #[.val (.ref a)] [(.ref a)])
  obtain ⟨cl14, Ar14, -, S14, N14, -, -⟩ := id V
  refine OwnGo.st (fun _ k => own_len hZ (len_of S14 N14) Ar14 X11 e11 hx (g := (mkF m 45 #[.val (.ref a)] [(.ref a)])) rfl rfl (hb hby d5_45) _ k) ?_
  show OwnGo p e below s _ _ _ T11 (mkF m 46 #[.val (.ref a)] [(.int (1 : Int32))])
  refine OwnGo.st (fun _ k => XS.iconst X11.here hx rfl (hb hby d5_46) k) ?_
  show OwnGo p e below s _ _ _ T11 (mkF m 47 #[.val (.ref a)] [(.int (3 : Int32)), (.int (1 : Int32))])
  refine OwnGo.st (fun _ k => XS.icmpYes X11.here hx rfl (pc0 := 47) (pc' := 59) rfl (hb hby d5_47) rfl (flt ((by decide) : ¬ ((3 : Int32) < (1 : Int32)))).2.2.2 (by decide) (by decide) k) ?_
  show OwnGo p e below s _ _ _ T11 (mkF m 59 #[.val (.ref a)] [])
  exact OwnGo.retV X11 hx hret hlk (hb hby d5_59) (by show Qbu1 Z a kc b0 h0 n0 _ T11.heap _; rw [e11]; exact ⟨rfl, N11, Kp⟩) (by decide) (by decide)
def Qsa1 (Z : State) (a : Addr) (kc : ClassId) (x0 : Int32) (x1 : Int32) (x2 : Int32) (x3 : Int32) (h0 : Heap) (n0 : Nat) (v : Option Value) (h : Heap) (L : List Loc) : Prop := v = some (.int (1 : Int32)) ∧ Fr n0 L ∧ h = h0
set_option maxRecDepth 65536 in
set_option maxHeartbeats 40000000 in
theorem rmsa1 (l : Launch) (Z : State) (a0 : Array Value) (hw : ∀ d ∈ tables_1, d.before a0 Z = true) (ws : List Jvm.Cond) (a : Addr) (kc : ClassId) (x0 : Int32) (x1 : Int32) (x2 : Int32) (x3 : Int32) (h0 : Heap) (n0 : Nat) (Z0 : n0 ≤ h0.size) (V : Arv Z h0 a kc .byte (1 : Int32) [(.int x0)] (.int (0 : Int32))) :
    MetFree l (⟨"com/example/thorough_factfind/thoroughfactfind/foundation/db/EventDataPinLaw", "same", "([BIBBBB)Z"⟩ : MethodName) (head1 (Jvm.Cond.code (⟨"com/example/thorough_factfind/thoroughfactfind/foundation/db/EventDataPinLaw", "same", "([BIBBBB)Z"⟩ : MethodName) method_4_code 6 (some .boolean) :: ws) ({ frames := 0, cells := 0, slots := 0, locals := 0 } : Room)) (fun as_ UU => as_ = #[(.ref a), (.int (1 : Int32)), (.int x0), (.int x1), (.int x2), (.int x3)] ∧ Z.Warmed39 UU.vm ∧ UU.heap = h0) (fun _ _ _ _ _ => True) (fun _ UU oo UU' => ∃ vv LL, oo = .returned vv ∧ (Qsa1 Z a kc x0 x1 x2 x3 h0 n0) vv UU'.heap LL ∧ FrameEnd UU oo UU' LL ({ frames := 0, cells := 0, slots := 0, locals := 0 } : Room).cells ({ frames := 0, cells := 0, slots := 0, locals := 0 } : Room).slots) := by
  refine own_met (plainFor_of_name pn_1) ?_
  intro p e s m below meth c s₁ X0 hx hby hml hret hlk hown hnm hZ e0
  have N0 := Fr.nil n0
  have Z_ := Z0
  refine OwnGo.cast (ef_sa1 m a (1 : Int32) x0 x1 x2 x3) ?_
  show OwnGo p e below s _ _ _ s₁ (mkF m 0 #[.val (.ref a), .val (.int (1 : Int32)), .val (.int x0), .val (.int x1), .val (.int x2), .val (.int x3)] [])
  refine OwnGo.st (fun _ k => XS.aloadN X0.here hx rfl (hb hby d7_0) rfl rfl  k) ?_
  show OwnGo p e below s _ _ _ s₁ (mkF m 1 #[.val (.ref a), .val (.int (1 : Int32)), .val (.int x0), .val (.int x1), .val (.int x2), .val (.int x3)] [(.ref a)])
  refine OwnGo.st (fun _ k => XS.ifnonnullYes X0.here hx rfl (pc0 := 1) (pc' := 6) rfl (hb hby d7_1) rfl (by decide) (by decide) k) ?_
  show OwnGo p e below s _ _ _ s₁ (mkF m 6 #[.val (.ref a), .val (.int (1 : Int32)), .val (.int x0), .val (.int x1), .val (.int x2), .val (.int x3)] [])
  refine OwnGo.st (fun _ k => XS.aloadN X0.here hx rfl (hb hby d7_6) rfl rfl  k) ?_
  show OwnGo p e below s _ _ _ s₁ (mkF m 7 #[.val (.ref a), .val (.int (1 : Int32)), .val (.int x0), .val (.int x1), .val (.int x2), .val (.int x3)] [(.ref a)])
  obtain ⟨cl15, Ar15, -, S15, N15, -, -⟩ := id V
  refine OwnGo.st (fun _ k => own_len hZ (len_of S15 N15) Ar15 X0 e0 hx (g := (mkF m 7 #[.val (.ref a), .val (.int (1 : Int32)), .val (.int x0), .val (.int x1), .val (.int x2), .val (.int x3)] [(.ref a)])) rfl rfl (hb hby d7_7) _ k) ?_
  show OwnGo p e below s _ _ _ s₁ (mkF m 8 #[.val (.ref a), .val (.int (1 : Int32)), .val (.int x0), .val (.int x1), .val (.int x2), .val (.int x3)] [(.int (1 : Int32))])
  refine OwnGo.st (fun _ k => XS.iloadN X0.here hx rfl (hb hby d7_8) rfl  k) ?_
  show OwnGo p e below s _ _ _ s₁ (mkF m 9 #[.val (.ref a), .val (.int (1 : Int32)), .val (.int x0), .val (.int x1), .val (.int x2), .val (.int x3)] [(.int (1 : Int32)), (.int (1 : Int32))])
  refine OwnGo.st (fun _ k => XS.icmpYes X0.here hx rfl (pc0 := 9) (pc' := 14) rfl (hb hby d7_9) rfl (teq (rfl : (1 : Int32) = (1 : Int32))).1 (by decide) (by decide) k) ?_
  show OwnGo p e below s _ _ _ s₁ (mkF m 14 #[.val (.ref a), .val (.int (1 : Int32)), .val (.int x0), .val (.int x1), .val (.int x2), .val (.int x3)] [])
  refine OwnGo.st (fun _ k => XS.iloadN X0.here hx rfl (hb hby d7_14) rfl  k) ?_
  show OwnGo p e below s _ _ _ s₁ (mkF m 15 #[.val (.ref a), .val (.int (1 : Int32)), .val (.int x0), .val (.int x1), .val (.int x2), .val (.int x3)] [(.int (1 : Int32))])
  refine OwnGo.st (fun _ k => XS.ifNo X0.here hx rfl (hb hby d7_15) rfl ((if0 _ _).trans (tlt ((by decide) : (0 : Int32) < (1 : Int32))).2.2.2) k) ?_
  show OwnGo p e below s _ _ _ s₁ (mkF m 18 #[.val (.ref a), .val (.int (1 : Int32)), .val (.int x0), .val (.int x1), .val (.int x2), .val (.int x3)] [])
  refine OwnGo.st (fun _ k => XS.aloadN X0.here hx rfl (hb hby d7_18) rfl rfl  k) ?_
  show OwnGo p e below s _ _ _ s₁ (mkF m 19 #[.val (.ref a), .val (.int (1 : Int32)), .val (.int x0), .val (.int x1), .val (.int x2), .val (.int x3)] [(.ref a)])
  refine OwnGo.st (fun _ k => XS.iconst X0.here hx rfl (hb hby d7_19) k) ?_
  show OwnGo p e below s _ _ _ s₁ (mkF m 20 #[.val (.ref a), .val (.int (1 : Int32)), .val (.int x0), .val (.int x1), .val (.int x2), .val (.int x3)] [(.int (0 : Int32)), (.ref a)])
  obtain ⟨cl16, Ar16, -, S16, -, H16, -⟩ := id V
  have hin16 : ¬ ((0 : Int32) < 0 ∨ cl16.slots.size ≤ ((0 : Int32)).toNatClampNeg) := inb_of S16 ⟨by decide, by decide⟩
  refine OwnGo.st (fun _ k => X0.baloadBytes hx (j := (0 : Int32)) (v := (.int x0)) (by rw [e0]; exact Ar16.1) (State.isArrayOf_alike hZ.alike Ar16.2.1) Ar16.2.2 hin16 (H16.at hin16 rfl) (g := (mkF m 20 #[.val (.ref a), .val (.int (1 : Int32)), .val (.int x0), .val (.int x1), .val (.int x2), .val (.int x3)] [(.int (0 : Int32)), (.ref a)])) rfl rfl (hb hby d7_20) _ k) ?_
  show OwnGo p e below s _ _ _ s₁ (mkF m 21 #[.val (.ref a), .val (.int (1 : Int32)), .val (.int x0), .val (.int x1), .val (.int x2), .val (.int x3)] [(.int x0)])
  refine OwnGo.st (fun _ k => XS.iloadN X0.here hx rfl (hb hby d7_21) rfl  k) ?_
  show OwnGo p e below s _ _ _ s₁ (mkF m 22 #[.val (.ref a), .val (.int (1 : Int32)), .val (.int x0), .val (.int x1), .val (.int x2), .val (.int x3)] [(.int x0), (.int x0)])
  refine OwnGo.st (fun _ k => XS.icmpYes X0.here hx rfl (pc0 := 22) (pc' := 27) rfl (hb hby d7_22) rfl (teq (rfl : x0 = x0)).1 (by decide) (by decide) k) ?_
  show OwnGo p e below s _ _ _ s₁ (mkF m 27 #[.val (.ref a), .val (.int (1 : Int32)), .val (.int x0), .val (.int x1), .val (.int x2), .val (.int x3)] [])
  refine OwnGo.st (fun _ k => XS.iloadN X0.here hx rfl (hb hby d7_27) rfl  k) ?_
  show OwnGo p e below s _ _ _ s₁ (mkF m 28 #[.val (.ref a), .val (.int (1 : Int32)), .val (.int x0), .val (.int x1), .val (.int x2), .val (.int x3)] [(.int (1 : Int32))])
  refine OwnGo.st (fun _ k => XS.iconst X0.here hx rfl (hb hby d7_28) k) ?_
  show OwnGo p e below s _ _ _ s₁ (mkF m 29 #[.val (.ref a), .val (.int (1 : Int32)), .val (.int x0), .val (.int x1), .val (.int x2), .val (.int x3)] [(.int (1 : Int32)), (.int (1 : Int32))])
  refine OwnGo.st (fun _ k => XS.icmpYes X0.here hx rfl (pc0 := 29) (pc' := 41) rfl (hb hby d7_29) rfl (flt ((by decide) : ¬ ((1 : Int32) < (1 : Int32)))).2.2.2 (by decide) (by decide) k) ?_
  show OwnGo p e below s _ _ _ s₁ (mkF m 41 #[.val (.ref a), .val (.int (1 : Int32)), .val (.int x0), .val (.int x1), .val (.int x2), .val (.int x3)] [])
  refine OwnGo.st (fun _ k => XS.iloadN X0.here hx rfl (hb hby d7_41) rfl  k) ?_
  show OwnGo p e below s _ _ _ s₁ (mkF m 42 #[.val (.ref a), .val (.int (1 : Int32)), .val (.int x0), .val (.int x1), .val (.int x2), .val (.int x3)] [(.int (1 : Int32))])
  refine OwnGo.st (fun _ k => XS.iconst X0.here hx rfl (hb hby d7_42) k) ?_
  show OwnGo p e below s _ _ _ s₁ (mkF m 43 #[.val (.ref a), .val (.int (1 : Int32)), .val (.int x0), .val (.int x1), .val (.int x2), .val (.int x3)] [(.int (2 : Int32)), (.int (1 : Int32))])
  refine OwnGo.st (fun _ k => XS.icmpYes X0.here hx rfl (pc0 := 43) (pc' := 56) rfl (hb hby d7_43) rfl (flt ((by decide) : ¬ ((2 : Int32) < (1 : Int32)))).2.2.2 (by decide) (by decide) k) ?_
  show OwnGo p e below s _ _ _ s₁ (mkF m 56 #[.val (.ref a), .val (.int (1 : Int32)), .val (.int x0), .val (.int x1), .val (.int x2), .val (.int x3)] [])
  refine OwnGo.st (fun _ k => XS.iloadN X0.here hx rfl (hb hby d7_56) rfl  k) ?_
  show OwnGo p e below s _ _ _ s₁ (mkF m 57 #[.val (.ref a), .val (.int (1 : Int32)), .val (.int x0), .val (.int x1), .val (.int x2), .val (.int x3)] [(.int (1 : Int32))])
  refine OwnGo.st (fun _ k => XS.iconst X0.here hx rfl (hb hby d7_57) k) ?_
  show OwnGo p e below s _ _ _ s₁ (mkF m 58 #[.val (.ref a), .val (.int (1 : Int32)), .val (.int x0), .val (.int x1), .val (.int x2), .val (.int x3)] [(.int (3 : Int32)), (.int (1 : Int32))])
  refine OwnGo.st (fun _ k => XS.icmpYes X0.here hx rfl (pc0 := 58) (pc' := 71) rfl (hb hby d7_58) rfl (flt ((by decide) : ¬ ((3 : Int32) < (1 : Int32)))).2.2.2 (by decide) (by decide) k) ?_
  show OwnGo p e below s _ _ _ s₁ (mkF m 71 #[.val (.ref a), .val (.int (1 : Int32)), .val (.int x0), .val (.int x1), .val (.int x2), .val (.int x3)] [])
  refine OwnGo.st (fun _ k => XS.iconst X0.here hx rfl (hb hby d7_71) k) ?_
  show OwnGo p e below s _ _ _ s₁ (mkF m 72 #[.val (.ref a), .val (.int (1 : Int32)), .val (.int x0), .val (.int x1), .val (.int x2), .val (.int x3)] [(.int (1 : Int32))])
  exact OwnGo.retN X0 hx (t := .boolean) hret hlk (by simp) (hb hby d7_72) (by show Qsa1 Z a kc x0 x1 x2 x3 h0 n0 _ s₁.heap _; rw [e0]; exact ⟨rfl, N0, rfl⟩) (by decide) (by decide)
def Qmk2 (Z : State) (x0 : Int32) (x1 : Int32) (x2 : Int32) (x3 : Int32) (h0 : Heap) (n0 : Nat) (v : Option Value) (h : Heap) (L : List Loc) : Prop := ∃ (a : Addr) (kc : ClassId), v = some (.ref a) ∧ Fr n0 L ∧ Keep h0 h [] ∧ Arv Z h a kc .byte (2 : Int32) [(.int x0), (.int x1)] (.int (0 : Int32)) ∧ Exa Z h a "[B" ∧ h0.size ≤ a
set_option maxRecDepth 65536 in
set_option maxHeartbeats 40000000 in
theorem rmmk2 (l : Launch) (Z : State) (a0 : Array Value) (hw : ∀ d ∈ tables_1, d.before a0 Z = true) (ws : List Jvm.Cond) (x0 : Int32) (x1 : Int32) (x2 : Int32) (x3 : Int32) (h0 : Heap) (n0 : Nat) (Z0 : n0 ≤ h0.size) (hx0 : nar .byte x0 = x0) (hx1 : nar .byte x1 = x1) (hx2 : nar .byte x2 = x2) (hx3 : nar .byte x3 = x3) :
    MetFree l (⟨"com/example/thorough_factfind/thoroughfactfind/foundation/db/EventDataPinLaw", "make", "(IBBBB)[B"⟩ : MethodName) (head1 (Jvm.Cond.code (⟨"com/example/thorough_factfind/thoroughfactfind/foundation/db/EventDataPinLaw", "make", "(IBBBB)[B"⟩ : MethodName) method_2_code 5 (some (.array .byte)) :: ws) ({ frames := 0, cells := 1, slots := 2, locals := 0 } : Room)) (fun as_ UU => as_ = #[(.int (2 : Int32)), (.int x0), (.int x1), (.int x2), (.int x3)] ∧ Z.Warmed39 UU.vm ∧ UU.heap = h0) (fun _ _ _ _ _ => True) (fun _ UU oo UU' => ∃ vv LL, oo = .returned vv ∧ (Qmk2 Z x0 x1 x2 x3 h0 n0) vv UU'.heap LL ∧ FrameEnd UU oo UU' LL ({ frames := 0, cells := 1, slots := 2, locals := 0 } : Room).cells ({ frames := 0, cells := 1, slots := 2, locals := 0 } : Room).slots) := by
  refine own_met (plainFor_of_name pn_1) ?_
  intro p e s m below meth c s₁ X0 hx hby hml hret hlk hown hnm hZ e0
  have N0 := Fr.nil n0
  have Z_ := Z0
  refine OwnGo.cast (ef_mk2 m (2 : Int32) x0 x1 x2 x3) ?_
  show OwnGo p e below s _ _ _ s₁ (mkF m 0 #[.val (.int (2 : Int32)), .val (.int x0), .val (.int x1), .val (.int x2), .val (.int x3)] [])
  have Kp : Keep h0 h0 [] := Keep.refl h0 []
  refine OwnGo.st (fun _ k => XS.iloadN X0.here hx rfl (hb hby d1_0) rfl  k) ?_
  show OwnGo p e below s _ _ _ s₁ (mkF m 1 #[.val (.int (2 : Int32)), .val (.int x0), .val (.int x1), .val (.int x2), .val (.int x3)] [(.int (2 : Int32))])
  refine OwnGo.st (fun _ k => XS.ifYes X0.here hx rfl (pc0 := 1) (pc' := 8) rfl (hb hby d1_1) rfl ((if0 _ _).trans (feq ((by decide) : ¬ ((2 : Int32) = (0 : Int32)))).2) (by decide) (by decide) k) ?_
  show OwnGo p e below s _ _ _ s₁ (mkF m 8 #[.val (.int (2 : Int32)), .val (.int x0), .val (.int x1), .val (.int x2), .val (.int x3)] [])
  refine OwnGo.st (fun _ k => XS.iloadN X0.here hx rfl (hb hby d1_8) rfl  k) ?_
  show OwnGo p e below s _ _ _ s₁ (mkF m 9 #[.val (.int (2 : Int32)), .val (.int x0), .val (.int x1), .val (.int x2), .val (.int x3)] [(.int (2 : Int32))])
  refine OwnGo.st (fun _ k => XS.iconst X0.here hx rfl (hb hby d1_9) k) ?_
  show OwnGo p e below s _ _ _ s₁ (mkF m 10 #[.val (.int (2 : Int32)), .val (.int x0), .val (.int x1), .val (.int x2), .val (.int x3)] [(.int (1 : Int32)), (.int (2 : Int32))])
  refine OwnGo.st (fun _ k => XS.icmpYes X0.here hx rfl (pc0 := 10) (pc' := 21) rfl (hb hby d1_10) rfl (feq ((by decide) : ¬ ((2 : Int32) = (1 : Int32)))).2 (by decide) (by decide) k) ?_
  show OwnGo p e below s _ _ _ s₁ (mkF m 21 #[.val (.int (2 : Int32)), .val (.int x0), .val (.int x1), .val (.int x2), .val (.int x3)] [])
  refine OwnGo.st (fun _ k => XS.iloadN X0.here hx rfl (hb hby d1_21) rfl  k) ?_
  show OwnGo p e below s _ _ _ s₁ (mkF m 22 #[.val (.int (2 : Int32)), .val (.int x0), .val (.int x1), .val (.int x2), .val (.int x3)] [(.int (2 : Int32))])
  refine OwnGo.st (fun _ k => XS.iconst X0.here hx rfl (hb hby d1_22) k) ?_
  show OwnGo p e below s _ _ _ s₁ (mkF m 23 #[.val (.int (2 : Int32)), .val (.int x0), .val (.int x1), .val (.int x2), .val (.int x3)] [(.int (2 : Int32)), (.int (2 : Int32))])
  refine OwnGo.st (fun _ k => XS.icmpNo X0.here hx rfl (hb hby d1_23) rfl (teq ((by decide) : (2 : Int32) = (2 : Int32))).2 k) ?_
  show OwnGo p e below s _ _ _ s₁ (mkF m 26 #[.val (.int (2 : Int32)), .val (.int x0), .val (.int x1), .val (.int x2), .val (.int x3)] [])
  refine OwnGo.st (fun _ k => XS.iconst X0.here hx rfl (hb hby d1_26) k) ?_
  show OwnGo p e below s _ _ _ s₁ (mkF m 27 #[.val (.int (2 : Int32)), .val (.int x0), .val (.int x1), .val (.int x2), .val (.int x3)] [(.int (2 : Int32))])
  obtain ⟨T17, h17, k17, X17, e17, E17, A17, Ex17, st17⟩ := newPE X0 hx hZ (hw _ (List.mem_of_getElem? (i := 5) rfl)) e0 (g := (mkF m 27 #[.val (.int (2 : Int32)), .val (.int x0), .val (.int x1), .val (.int x2), .val (.int x3)] [(.int (2 : Int32))])) rfl (hb hby d1_27) rfl (by decide) (cap := 2) (by decide) (by decide) (by decide) (by decide) (ad := "[B") (by decide)
  obtain ⟨b17, g17⟩ : ∃ z, z = h0.size := ⟨_, rfl⟩
  rw [← g17] at A17 Ex17 st17
  have g_b17 : n0 ≤ b17 := Nat.le_trans Z_ (Nat.le_of_eq g17.symm)
  have sz_b17 : h0.size ≤ b17 := Nat.le_trans Kp.1 (Nat.le_of_eq g17.symm)
  have Kp := Kp.ext E17
  have Z_ : n0 ≤ h17.size := Nat.le_trans Z_ E17.1
  have V_b17 : Arv Z h17 b17 k17 .byte (2 : Int32) [(.int (0 : Int32)), (.int (0 : Int32))] (.int (0 : Int32)) := (Arv.new A17 (by decide)).pad (pad_rep [] (.int (0 : Int32)) 2)
  have E_b17 := Ex17
  refine OwnGo.st st17 ?_
  show OwnGo p e below s _ _ _ T17 (mkF m 29 #[.val (.int (2 : Int32)), .val (.int x0), .val (.int x1), .val (.int x2), .val (.int x3)] [(.ref b17)])
  refine OwnGo.st (fun _ k => XS.dup X17.here hx rfl (hb hby d1_29) rfl rfl k) ?_
  show OwnGo p e below s _ _ _ T17 (mkF m 30 #[.val (.int (2 : Int32)), .val (.int x0), .val (.int x1), .val (.int x2), .val (.int x3)] [(.ref b17), (.ref b17)])
  refine OwnGo.st (fun _ k => XS.iconst X17.here hx rfl (hb hby d1_30) k) ?_
  show OwnGo p e below s _ _ _ T17 (mkF m 31 #[.val (.int (2 : Int32)), .val (.int x0), .val (.int x1), .val (.int x2), .val (.int x3)] [(.int (0 : Int32)), (.ref b17), (.ref b17)])
  refine OwnGo.st (fun _ k => XS.iloadN X17.here hx rfl (hb hby d1_31) rfl  k) ?_
  show OwnGo p e below s _ _ _ T17 (mkF m 32 #[.val (.int (2 : Int32)), .val (.int x0), .val (.int x1), .val (.int x2), .val (.int x3)] [(.int x0), (.int (0 : Int32)), (.ref b17), (.ref b17)])
  obtain ⟨cl18, Ar18, q18, S18, N18, H18, G18⟩ := id V_b17
  have hin18 : ¬ ((0 : Int32) < 0 ∨ cl18.slots.size ≤ ((0 : Int32)).toNatClampNeg) := inb_of S18 ⟨by decide, by decide⟩
  obtain ⟨T18, h18, X18, e18, W18, st18⟩ := stB X17 hx hZ e17 Ar18 (j := (0 : Int32)) hin18 (g := (mkF m 32 #[.val (.int (2 : Int32)), .val (.int x0), .val (.int x1), .val (.int x2), .val (.int x3)] [(.int x0), (.int (0 : Int32)), (.ref b17), (.ref b17)])) rfl rfl (hb hby d1_32)
  have V_b17 : Arv Z h18 b17 k17 .byte (2 : Int32) [(.int (nar .byte x0)), (.int (0 : Int32))] (.int (0 : Int32)) := Arv.set Ar18 q18 S18 N18 H18 G18 (fits_nar_byte _) W18 0 rfl (Nat.le_of_ble_eq_true rfl)
  rw [show nar .byte x0 = x0 from hx0] at V_b17
  have E_b17 := E_b17.wr W18
  have Kp := Kp.wr W18 (Or.inr sz_b17)
  have N18 := Fr.snoc X18 N0 g_b17
  have Z_ : n0 ≤ h18.size := by rw [W18.size]; exact Z_
  refine OwnGo.st st18 ?_
  show OwnGo p e below s _ _ _ T18 (mkF m 33 #[.val (.int (2 : Int32)), .val (.int x0), .val (.int x1), .val (.int x2), .val (.int x3)] [(.ref b17)])
  refine OwnGo.st (fun _ k => XS.dup X18.here hx rfl (hb hby d1_33) rfl rfl k) ?_
  show OwnGo p e below s _ _ _ T18 (mkF m 34 #[.val (.int (2 : Int32)), .val (.int x0), .val (.int x1), .val (.int x2), .val (.int x3)] [(.ref b17), (.ref b17)])
  refine OwnGo.st (fun _ k => XS.iconst X18.here hx rfl (hb hby d1_34) k) ?_
  show OwnGo p e below s _ _ _ T18 (mkF m 35 #[.val (.int (2 : Int32)), .val (.int x0), .val (.int x1), .val (.int x2), .val (.int x3)] [(.int (1 : Int32)), (.ref b17), (.ref b17)])
  refine OwnGo.st (fun _ k => XS.iloadN X18.here hx rfl (hb hby d1_35) rfl  k) ?_
  show OwnGo p e below s _ _ _ T18 (mkF m 36 #[.val (.int (2 : Int32)), .val (.int x0), .val (.int x1), .val (.int x2), .val (.int x3)] [(.int x1), (.int (1 : Int32)), (.ref b17), (.ref b17)])
  obtain ⟨cl19, Ar19, q19, S19, N19, H19, G19⟩ := id V_b17
  have hin19 : ¬ ((1 : Int32) < 0 ∨ cl19.slots.size ≤ ((1 : Int32)).toNatClampNeg) := inb_of S19 ⟨by decide, by decide⟩
  obtain ⟨T19, h19, X19, e19, W19, st19⟩ := stB X18 hx hZ e18 Ar19 (j := (1 : Int32)) hin19 (g := (mkF m 36 #[.val (.int (2 : Int32)), .val (.int x0), .val (.int x1), .val (.int x2), .val (.int x3)] [(.int x1), (.int (1 : Int32)), (.ref b17), (.ref b17)])) rfl rfl (hb hby d1_36)
  have V_b17 : Arv Z h19 b17 k17 .byte (2 : Int32) [(.int x0), (.int (nar .byte x1))] (.int (0 : Int32)) := Arv.set Ar19 q19 S19 N19 H19 G19 (fits_nar_byte _) W19 1 rfl (Nat.le_of_ble_eq_true rfl)
  rw [show nar .byte x1 = x1 from hx1] at V_b17
  have E_b17 := E_b17.wr W19
  have Kp := Kp.wr W19 (Or.inr sz_b17)
  have N19 := Fr.snoc X19 N18 g_b17
  have Z_ : n0 ≤ h19.size := by rw [W19.size]; exact Z_
  refine OwnGo.st st19 ?_
  show OwnGo p e below s _ _ _ T19 (mkF m 37 #[.val (.int (2 : Int32)), .val (.int x0), .val (.int x1), .val (.int x2), .val (.int x3)] [(.ref b17)])
  exact OwnGo.ret X19 hx hret hlk rfl (Or.inr (Or.inr (Or.inr (Or.inr ⟨rfl, rfl, rfl⟩)))) (hb hby d1_37) (by show Qmk2 Z x0 x1 x2 x3 h0 n0 _ T19.heap _; rw [e19]; exact ⟨b17, k17, rfl, N19, Kp, V_b17, E_b17, sz_b17⟩) (by decide) (by decide)
def Qbu2 (Z : State) (a : Addr) (kc : ClassId) (b0 : Int32) (b1 : Int32) (h0 : Heap) (n0 : Nat) (v : Option Value) (h : Heap) (L : List Loc) : Prop := v = none ∧ Fr n0 L ∧ Keep h0 h [a]
set_option maxRecDepth 65536 in
set_option maxHeartbeats 40000000 in
theorem rmbu2 (l : Launch) (Z : State) (a0 : Array Value) (hw : ∀ d ∈ tables_1, d.before a0 Z = true) (ws : List Jvm.Cond) (a : Addr) (kc : ClassId) (b0 : Int32) (b1 : Int32) (h0 : Heap) (n0 : Nat) (Z0 : n0 ≤ h0.size) (V : Arv Z h0 a kc .byte (2 : Int32) [(.int b0), (.int b1)] (.int (0 : Int32))) (g_a : n0 ≤ a) :
    MetFree l (⟨"com/example/thorough_factfind/thoroughfactfind/foundation/db/EventDataPinLaw", "bump", "([B)V"⟩ : MethodName) (head1 (Jvm.Cond.code (⟨"com/example/thorough_factfind/thoroughfactfind/foundation/db/EventDataPinLaw", "bump", "([B)V"⟩ : MethodName) method_3_code 1 none :: ws) ({ frames := 0, cells := 0, slots := 0, locals := 0 } : Room)) (fun as_ UU => as_ = #[(.ref a)] ∧ Z.Warmed39 UU.vm ∧ UU.heap = h0) (fun _ _ _ _ _ => True) (fun _ UU oo UU' => ∃ vv LL, oo = .returned vv ∧ (Qbu2 Z a kc b0 b1 h0 n0) vv UU'.heap LL ∧ FrameEnd UU oo UU' LL ({ frames := 0, cells := 0, slots := 0, locals := 0 } : Room).cells ({ frames := 0, cells := 0, slots := 0, locals := 0 } : Room).slots) := by
  refine own_met (plainFor_of_name pn_1) ?_
  intro p e s m below meth c s₁ X0 hx hby hml hret hlk hown hnm hZ e0
  have N0 := Fr.nil n0
  have Z_ := Z0
  refine OwnGo.cast (ef_bu2 m a) ?_
  show OwnGo p e below s _ _ _ s₁ (mkF m 0 #[.val (.ref a)] [])
  have Kp : Keep h0 h0 [a] := Keep.refl h0 [a]
  refine OwnGo.st (fun _ k => XS.aloadN X0.here hx rfl (hb hby d5_0) rfl rfl  k) ?_
  show OwnGo p e below s _ _ _ s₁ (mkF m 1 #[.val (.ref a)] [(.ref a)])
  obtain ⟨cl20, Ar20, -, S20, N20, -, -⟩ := id V
  refine OwnGo.st (fun _ k => own_len hZ (len_of S20 N20) Ar20 X0 e0 hx (g := (mkF m 1 #[.val (.ref a)] [(.ref a)])) rfl rfl (hb hby d5_1) _ k) ?_
  show OwnGo p e below s _ _ _ s₁ (mkF m 2 #[.val (.ref a)] [(.int (2 : Int32))])
  refine OwnGo.st (fun _ k => XS.ifNo X0.here hx rfl (hb hby d5_2) rfl ((if0 _ _).trans (tlt ((by decide) : (0 : Int32) < (2 : Int32))).2.2.2) k) ?_
  show OwnGo p e below s _ _ _ s₁ (mkF m 5 #[.val (.ref a)] [])
  refine OwnGo.st (fun _ k => XS.aloadN X0.here hx rfl (hb hby d5_5) rfl rfl  k) ?_
  show OwnGo p e below s _ _ _ s₁ (mkF m 6 #[.val (.ref a)] [(.ref a)])
  refine OwnGo.st (fun _ k => XS.iconst X0.here hx rfl (hb hby d5_6) k) ?_
  show OwnGo p e below s _ _ _ s₁ (mkF m 7 #[.val (.ref a)] [(.int (0 : Int32)), (.ref a)])
  refine OwnGo.st (fun _ k => XS.aloadN X0.here hx rfl (hb hby d5_7) rfl rfl  k) ?_
  show OwnGo p e below s _ _ _ s₁ (mkF m 8 #[.val (.ref a)] [(.ref a), (.int (0 : Int32)), (.ref a)])
  refine OwnGo.st (fun _ k => XS.iconst X0.here hx rfl (hb hby d5_8) k) ?_
  show OwnGo p e below s _ _ _ s₁ (mkF m 9 #[.val (.ref a)] [(.int (0 : Int32)), (.ref a), (.int (0 : Int32)), (.ref a)])
  obtain ⟨cl21, Ar21, -, S21, -, H21, -⟩ := id V
  have hin21 : ¬ ((0 : Int32) < 0 ∨ cl21.slots.size ≤ ((0 : Int32)).toNatClampNeg) := inb_of S21 ⟨by decide, by decide⟩
  refine OwnGo.st (fun _ k => X0.baloadBytes hx (j := (0 : Int32)) (v := (.int b0)) (by rw [e0]; exact Ar21.1) (State.isArrayOf_alike hZ.alike Ar21.2.1) Ar21.2.2 hin21 (H21.at hin21 rfl) (g := (mkF m 9 #[.val (.ref a)] [(.int (0 : Int32)), (.ref a), (.int (0 : Int32)), (.ref a)])) rfl rfl (hb hby d5_9) _ k) ?_
  show OwnGo p e below s _ _ _ s₁ (mkF m 10 #[.val (.ref a)] [(.int b0), (.int (0 : Int32)), (.ref a)])
  refine OwnGo.st (fun _ k => XS.iconst X0.here hx rfl (hb hby d5_10) k) ?_
  show OwnGo p e below s _ _ _ s₁ (mkF m 11 #[.val (.ref a)] [(.int (1 : Int32)), (.int b0), (.int (0 : Int32)), (.ref a)])
  refine OwnGo.st (fun _ k => XS.iadd X0.here hx rfl (hb hby d5_11) rfl k) ?_
  show OwnGo p e below s _ _ _ s₁ (mkF m 12 #[.val (.ref a)] [(.int (b0 + (1 : Int32))), (.int (0 : Int32)), (.ref a)])
  refine OwnGo.st (fun _ k => XS.i2b X0.here hx rfl (hb hby d5_12) rfl k) ?_
  show OwnGo p e below s _ _ _ s₁ (mkF m 13 #[.val (.ref a)] [(.int ((b0 + (1 : Int32)).toInt8.toInt32)), (.int (0 : Int32)), (.ref a)])
  obtain ⟨cl22, Ar22, q22, S22, N22, H22, G22⟩ := id V
  have hin22 : ¬ ((0 : Int32) < 0 ∨ cl22.slots.size ≤ ((0 : Int32)).toNatClampNeg) := inb_of S22 ⟨by decide, by decide⟩
  obtain ⟨T22, h22, X22, e22, W22, st22⟩ := stB X0 hx hZ e0 Ar22 (j := (0 : Int32)) hin22 (g := (mkF m 13 #[.val (.ref a)] [(.int ((b0 + (1 : Int32)).toInt8.toInt32)), (.int (0 : Int32)), (.ref a)])) rfl rfl (hb hby d5_13)
  have V : Arv Z h22 a kc .byte (2 : Int32) [(.int (nar .byte ((b0 + (1 : Int32)).toInt8.toInt32))), (.int b1)] (.int (0 : Int32)) := Arv.set Ar22 q22 S22 N22 H22 G22 (fits_nar_byte _) W22 0 rfl (Nat.le_of_ble_eq_true rfl)
  rw [show nar .byte ((b0 + (1 : Int32)).toInt8.toInt32) = ((b0 + (1 : Int32)).toInt8.toInt32) from own_nb _] at V
  have Kp := Kp.wr W22 (Or.inl (List.mem_of_getElem? (i := 0) rfl))
  have N22 := Fr.snoc X22 N0 g_a
  have Z_ : n0 ≤ h22.size := by rw [W22.size]; exact Z_
  refine OwnGo.st st22 ?_
  show OwnGo p e below s _ _ _ T22 (mkF m 14 #[.val (.ref a)] [])
  refine OwnGo.st (fun _ k => XS.aloadN X22.here hx rfl (hb hby d5_14) rfl rfl  k) ?_
  show OwnGo p e below s _ _ _ T22 (mkF m 15 #[.val (.ref a)] [(.ref a)])
  obtain ⟨cl23, Ar23, -, S23, N23, -, -⟩ := id V
  refine OwnGo.st (fun _ k => own_len hZ (len_of S23 N23) Ar23 X22 e22 hx (g := (mkF m 15 #[.val (.ref a)] [(.ref a)])) rfl rfl (hb hby d5_15) _ k) ?_
  show OwnGo p e below s _ _ _ T22 (mkF m 16 #[.val (.ref a)] [(.int (2 : Int32))])
  refine OwnGo.st (fun _ k => XS.iconst X22.here hx rfl (hb hby d5_16) k) ?_
  show OwnGo p e below s _ _ _ T22 (mkF m 17 #[.val (.ref a)] [(.int (1 : Int32)), (.int (2 : Int32))])
  refine OwnGo.st (fun _ k => XS.icmpNo X22.here hx rfl (hb hby d5_17) rfl (tlt ((by decide) : (1 : Int32) < (2 : Int32))).2.2.2 k) ?_
  show OwnGo p e below s _ _ _ T22 (mkF m 20 #[.val (.ref a)] [])
  refine OwnGo.st (fun _ k => XS.aloadN X22.here hx rfl (hb hby d5_20) rfl rfl  k) ?_
  show OwnGo p e below s _ _ _ T22 (mkF m 21 #[.val (.ref a)] [(.ref a)])
  refine OwnGo.st (fun _ k => XS.iconst X22.here hx rfl (hb hby d5_21) k) ?_
  show OwnGo p e below s _ _ _ T22 (mkF m 22 #[.val (.ref a)] [(.int (1 : Int32)), (.ref a)])
  refine OwnGo.st (fun _ k => XS.aloadN X22.here hx rfl (hb hby d5_22) rfl rfl  k) ?_
  show OwnGo p e below s _ _ _ T22 (mkF m 23 #[.val (.ref a)] [(.ref a), (.int (1 : Int32)), (.ref a)])
  refine OwnGo.st (fun _ k => XS.iconst X22.here hx rfl (hb hby d5_23) k) ?_
  show OwnGo p e below s _ _ _ T22 (mkF m 24 #[.val (.ref a)] [(.int (1 : Int32)), (.ref a), (.int (1 : Int32)), (.ref a)])
  obtain ⟨cl24, Ar24, -, S24, -, H24, -⟩ := id V
  have hin24 : ¬ ((1 : Int32) < 0 ∨ cl24.slots.size ≤ ((1 : Int32)).toNatClampNeg) := inb_of S24 ⟨by decide, by decide⟩
  refine OwnGo.st (fun _ k => X22.baloadBytes hx (j := (1 : Int32)) (v := (.int b1)) (by rw [e22]; exact Ar24.1) (State.isArrayOf_alike hZ.alike Ar24.2.1) Ar24.2.2 hin24 (H24.at hin24 rfl) (g := (mkF m 24 #[.val (.ref a)] [(.int (1 : Int32)), (.ref a), (.int (1 : Int32)), (.ref a)])) rfl rfl (hb hby d5_24) _ k) ?_
  show OwnGo p e below s _ _ _ T22 (mkF m 25 #[.val (.ref a)] [(.int b1), (.int (1 : Int32)), (.ref a)])
  refine OwnGo.st (fun _ k => XS.iconst X22.here hx rfl (hb hby d5_25) k) ?_
  show OwnGo p e below s _ _ _ T22 (mkF m 26 #[.val (.ref a)] [(.int (1 : Int32)), (.int b1), (.int (1 : Int32)), (.ref a)])
  refine OwnGo.st (fun _ k => XS.iadd X22.here hx rfl (hb hby d5_26) rfl k) ?_
  show OwnGo p e below s _ _ _ T22 (mkF m 27 #[.val (.ref a)] [(.int (b1 + (1 : Int32))), (.int (1 : Int32)), (.ref a)])
  refine OwnGo.st (fun _ k => XS.i2b X22.here hx rfl (hb hby d5_27) rfl k) ?_
  show OwnGo p e below s _ _ _ T22 (mkF m 28 #[.val (.ref a)] [(.int ((b1 + (1 : Int32)).toInt8.toInt32)), (.int (1 : Int32)), (.ref a)])
  obtain ⟨cl25, Ar25, q25, S25, N25, H25, G25⟩ := id V
  have hin25 : ¬ ((1 : Int32) < 0 ∨ cl25.slots.size ≤ ((1 : Int32)).toNatClampNeg) := inb_of S25 ⟨by decide, by decide⟩
  obtain ⟨T25, h25, X25, e25, W25, st25⟩ := stB X22 hx hZ e22 Ar25 (j := (1 : Int32)) hin25 (g := (mkF m 28 #[.val (.ref a)] [(.int ((b1 + (1 : Int32)).toInt8.toInt32)), (.int (1 : Int32)), (.ref a)])) rfl rfl (hb hby d5_28)
  have V : Arv Z h25 a kc .byte (2 : Int32) [(.int ((b0 + (1 : Int32)).toInt8.toInt32)), (.int (nar .byte ((b1 + (1 : Int32)).toInt8.toInt32)))] (.int (0 : Int32)) := Arv.set Ar25 q25 S25 N25 H25 G25 (fits_nar_byte _) W25 1 rfl (Nat.le_of_ble_eq_true rfl)
  rw [show nar .byte ((b1 + (1 : Int32)).toInt8.toInt32) = ((b1 + (1 : Int32)).toInt8.toInt32) from own_nb _] at V
  have Kp := Kp.wr W25 (Or.inl (List.mem_of_getElem? (i := 0) rfl))
  have N25 := Fr.snoc X25 N22 g_a
  have Z_ : n0 ≤ h25.size := by rw [W25.size]; exact Z_
  refine OwnGo.st st25 ?_
  show OwnGo p e below s _ _ _ T25 (mkF m 29 #[.val (.ref a)] [])
  refine OwnGo.st (fun _ k => XS.aloadN X25.here hx rfl (hb hby d5_29) rfl rfl  k) ?_
  show OwnGo p e below s _ _ _ T25 (mkF m 30 #[.val (.ref a)] [(.ref a)])
  obtain ⟨cl26, Ar26, -, S26, N26, -, -⟩ := id V
  refine OwnGo.st (fun _ k => own_len hZ (len_of S26 N26) Ar26 X25 e25 hx (g := (mkF m 30 #[.val (.ref a)] [(.ref a)])) rfl rfl (hb hby d5_30) _ k) ?_
  show OwnGo p e below s _ _ _ T25 (mkF m 31 #[.val (.ref a)] [(.int (2 : Int32))])
  refine OwnGo.st (fun _ k => XS.iconst X25.here hx rfl (hb hby d5_31) k) ?_
  show OwnGo p e below s _ _ _ T25 (mkF m 32 #[.val (.ref a)] [(.int (2 : Int32)), (.int (2 : Int32))])
  refine OwnGo.st (fun _ k => XS.icmpYes X25.here hx rfl (pc0 := 32) (pc' := 44) rfl (hb hby d5_32) rfl (flt ((by decide) : ¬ ((2 : Int32) < (2 : Int32)))).2.2.2 (by decide) (by decide) k) ?_
  show OwnGo p e below s _ _ _ T25 (mkF m 44 #[.val (.ref a)] [])
  refine OwnGo.st (fun _ k => XS.aloadN X25.here hx rfl (hb hby d5_44) rfl rfl  k) ?_
  show OwnGo p e below s _ _ _ T25 (mkF m 45 #[.val (.ref a)] [(.ref a)])
  obtain ⟨cl27, Ar27, -, S27, N27, -, -⟩ := id V
  refine OwnGo.st (fun _ k => own_len hZ (len_of S27 N27) Ar27 X25 e25 hx (g := (mkF m 45 #[.val (.ref a)] [(.ref a)])) rfl rfl (hb hby d5_45) _ k) ?_
  show OwnGo p e below s _ _ _ T25 (mkF m 46 #[.val (.ref a)] [(.int (2 : Int32))])
  refine OwnGo.st (fun _ k => XS.iconst X25.here hx rfl (hb hby d5_46) k) ?_
  show OwnGo p e below s _ _ _ T25 (mkF m 47 #[.val (.ref a)] [(.int (3 : Int32)), (.int (2 : Int32))])
  refine OwnGo.st (fun _ k => XS.icmpYes X25.here hx rfl (pc0 := 47) (pc' := 59) rfl (hb hby d5_47) rfl (flt ((by decide) : ¬ ((3 : Int32) < (2 : Int32)))).2.2.2 (by decide) (by decide) k) ?_
  show OwnGo p e below s _ _ _ T25 (mkF m 59 #[.val (.ref a)] [])
  exact OwnGo.retV X25 hx hret hlk (hb hby d5_59) (by show Qbu2 Z a kc b0 b1 h0 n0 _ T25.heap _; rw [e25]; exact ⟨rfl, N25, Kp⟩) (by decide) (by decide)
def Qsa2 (Z : State) (a : Addr) (kc : ClassId) (x0 : Int32) (x1 : Int32) (x2 : Int32) (x3 : Int32) (h0 : Heap) (n0 : Nat) (v : Option Value) (h : Heap) (L : List Loc) : Prop := v = some (.int (1 : Int32)) ∧ Fr n0 L ∧ h = h0
set_option maxRecDepth 65536 in
set_option maxHeartbeats 40000000 in
theorem rmsa2 (l : Launch) (Z : State) (a0 : Array Value) (hw : ∀ d ∈ tables_1, d.before a0 Z = true) (ws : List Jvm.Cond) (a : Addr) (kc : ClassId) (x0 : Int32) (x1 : Int32) (x2 : Int32) (x3 : Int32) (h0 : Heap) (n0 : Nat) (Z0 : n0 ≤ h0.size) (V : Arv Z h0 a kc .byte (2 : Int32) [(.int x0), (.int x1)] (.int (0 : Int32))) :
    MetFree l (⟨"com/example/thorough_factfind/thoroughfactfind/foundation/db/EventDataPinLaw", "same", "([BIBBBB)Z"⟩ : MethodName) (head1 (Jvm.Cond.code (⟨"com/example/thorough_factfind/thoroughfactfind/foundation/db/EventDataPinLaw", "same", "([BIBBBB)Z"⟩ : MethodName) method_4_code 6 (some .boolean) :: ws) ({ frames := 0, cells := 0, slots := 0, locals := 0 } : Room)) (fun as_ UU => as_ = #[(.ref a), (.int (2 : Int32)), (.int x0), (.int x1), (.int x2), (.int x3)] ∧ Z.Warmed39 UU.vm ∧ UU.heap = h0) (fun _ _ _ _ _ => True) (fun _ UU oo UU' => ∃ vv LL, oo = .returned vv ∧ (Qsa2 Z a kc x0 x1 x2 x3 h0 n0) vv UU'.heap LL ∧ FrameEnd UU oo UU' LL ({ frames := 0, cells := 0, slots := 0, locals := 0 } : Room).cells ({ frames := 0, cells := 0, slots := 0, locals := 0 } : Room).slots) := by
  refine own_met (plainFor_of_name pn_1) ?_
  intro p e s m below meth c s₁ X0 hx hby hml hret hlk hown hnm hZ e0
  have N0 := Fr.nil n0
  have Z_ := Z0
  refine OwnGo.cast (ef_sa2 m a (2 : Int32) x0 x1 x2 x3) ?_
  show OwnGo p e below s _ _ _ s₁ (mkF m 0 #[.val (.ref a), .val (.int (2 : Int32)), .val (.int x0), .val (.int x1), .val (.int x2), .val (.int x3)] [])
  refine OwnGo.st (fun _ k => XS.aloadN X0.here hx rfl (hb hby d7_0) rfl rfl  k) ?_
  show OwnGo p e below s _ _ _ s₁ (mkF m 1 #[.val (.ref a), .val (.int (2 : Int32)), .val (.int x0), .val (.int x1), .val (.int x2), .val (.int x3)] [(.ref a)])
  refine OwnGo.st (fun _ k => XS.ifnonnullYes X0.here hx rfl (pc0 := 1) (pc' := 6) rfl (hb hby d7_1) rfl (by decide) (by decide) k) ?_
  show OwnGo p e below s _ _ _ s₁ (mkF m 6 #[.val (.ref a), .val (.int (2 : Int32)), .val (.int x0), .val (.int x1), .val (.int x2), .val (.int x3)] [])
  refine OwnGo.st (fun _ k => XS.aloadN X0.here hx rfl (hb hby d7_6) rfl rfl  k) ?_
  show OwnGo p e below s _ _ _ s₁ (mkF m 7 #[.val (.ref a), .val (.int (2 : Int32)), .val (.int x0), .val (.int x1), .val (.int x2), .val (.int x3)] [(.ref a)])
  obtain ⟨cl28, Ar28, -, S28, N28, -, -⟩ := id V
  refine OwnGo.st (fun _ k => own_len hZ (len_of S28 N28) Ar28 X0 e0 hx (g := (mkF m 7 #[.val (.ref a), .val (.int (2 : Int32)), .val (.int x0), .val (.int x1), .val (.int x2), .val (.int x3)] [(.ref a)])) rfl rfl (hb hby d7_7) _ k) ?_
  show OwnGo p e below s _ _ _ s₁ (mkF m 8 #[.val (.ref a), .val (.int (2 : Int32)), .val (.int x0), .val (.int x1), .val (.int x2), .val (.int x3)] [(.int (2 : Int32))])
  refine OwnGo.st (fun _ k => XS.iloadN X0.here hx rfl (hb hby d7_8) rfl  k) ?_
  show OwnGo p e below s _ _ _ s₁ (mkF m 9 #[.val (.ref a), .val (.int (2 : Int32)), .val (.int x0), .val (.int x1), .val (.int x2), .val (.int x3)] [(.int (2 : Int32)), (.int (2 : Int32))])
  refine OwnGo.st (fun _ k => XS.icmpYes X0.here hx rfl (pc0 := 9) (pc' := 14) rfl (hb hby d7_9) rfl (teq (rfl : (2 : Int32) = (2 : Int32))).1 (by decide) (by decide) k) ?_
  show OwnGo p e below s _ _ _ s₁ (mkF m 14 #[.val (.ref a), .val (.int (2 : Int32)), .val (.int x0), .val (.int x1), .val (.int x2), .val (.int x3)] [])
  refine OwnGo.st (fun _ k => XS.iloadN X0.here hx rfl (hb hby d7_14) rfl  k) ?_
  show OwnGo p e below s _ _ _ s₁ (mkF m 15 #[.val (.ref a), .val (.int (2 : Int32)), .val (.int x0), .val (.int x1), .val (.int x2), .val (.int x3)] [(.int (2 : Int32))])
  refine OwnGo.st (fun _ k => XS.ifNo X0.here hx rfl (hb hby d7_15) rfl ((if0 _ _).trans (tlt ((by decide) : (0 : Int32) < (2 : Int32))).2.2.2) k) ?_
  show OwnGo p e below s _ _ _ s₁ (mkF m 18 #[.val (.ref a), .val (.int (2 : Int32)), .val (.int x0), .val (.int x1), .val (.int x2), .val (.int x3)] [])
  refine OwnGo.st (fun _ k => XS.aloadN X0.here hx rfl (hb hby d7_18) rfl rfl  k) ?_
  show OwnGo p e below s _ _ _ s₁ (mkF m 19 #[.val (.ref a), .val (.int (2 : Int32)), .val (.int x0), .val (.int x1), .val (.int x2), .val (.int x3)] [(.ref a)])
  refine OwnGo.st (fun _ k => XS.iconst X0.here hx rfl (hb hby d7_19) k) ?_
  show OwnGo p e below s _ _ _ s₁ (mkF m 20 #[.val (.ref a), .val (.int (2 : Int32)), .val (.int x0), .val (.int x1), .val (.int x2), .val (.int x3)] [(.int (0 : Int32)), (.ref a)])
  obtain ⟨cl29, Ar29, -, S29, -, H29, -⟩ := id V
  have hin29 : ¬ ((0 : Int32) < 0 ∨ cl29.slots.size ≤ ((0 : Int32)).toNatClampNeg) := inb_of S29 ⟨by decide, by decide⟩
  refine OwnGo.st (fun _ k => X0.baloadBytes hx (j := (0 : Int32)) (v := (.int x0)) (by rw [e0]; exact Ar29.1) (State.isArrayOf_alike hZ.alike Ar29.2.1) Ar29.2.2 hin29 (H29.at hin29 rfl) (g := (mkF m 20 #[.val (.ref a), .val (.int (2 : Int32)), .val (.int x0), .val (.int x1), .val (.int x2), .val (.int x3)] [(.int (0 : Int32)), (.ref a)])) rfl rfl (hb hby d7_20) _ k) ?_
  show OwnGo p e below s _ _ _ s₁ (mkF m 21 #[.val (.ref a), .val (.int (2 : Int32)), .val (.int x0), .val (.int x1), .val (.int x2), .val (.int x3)] [(.int x0)])
  refine OwnGo.st (fun _ k => XS.iloadN X0.here hx rfl (hb hby d7_21) rfl  k) ?_
  show OwnGo p e below s _ _ _ s₁ (mkF m 22 #[.val (.ref a), .val (.int (2 : Int32)), .val (.int x0), .val (.int x1), .val (.int x2), .val (.int x3)] [(.int x0), (.int x0)])
  refine OwnGo.st (fun _ k => XS.icmpYes X0.here hx rfl (pc0 := 22) (pc' := 27) rfl (hb hby d7_22) rfl (teq (rfl : x0 = x0)).1 (by decide) (by decide) k) ?_
  show OwnGo p e below s _ _ _ s₁ (mkF m 27 #[.val (.ref a), .val (.int (2 : Int32)), .val (.int x0), .val (.int x1), .val (.int x2), .val (.int x3)] [])
  refine OwnGo.st (fun _ k => XS.iloadN X0.here hx rfl (hb hby d7_27) rfl  k) ?_
  show OwnGo p e below s _ _ _ s₁ (mkF m 28 #[.val (.ref a), .val (.int (2 : Int32)), .val (.int x0), .val (.int x1), .val (.int x2), .val (.int x3)] [(.int (2 : Int32))])
  refine OwnGo.st (fun _ k => XS.iconst X0.here hx rfl (hb hby d7_28) k) ?_
  show OwnGo p e below s _ _ _ s₁ (mkF m 29 #[.val (.ref a), .val (.int (2 : Int32)), .val (.int x0), .val (.int x1), .val (.int x2), .val (.int x3)] [(.int (1 : Int32)), (.int (2 : Int32))])
  refine OwnGo.st (fun _ k => XS.icmpNo X0.here hx rfl (hb hby d7_29) rfl (tlt ((by decide) : (1 : Int32) < (2 : Int32))).2.2.2 k) ?_
  show OwnGo p e below s _ _ _ s₁ (mkF m 32 #[.val (.ref a), .val (.int (2 : Int32)), .val (.int x0), .val (.int x1), .val (.int x2), .val (.int x3)] [])
  refine OwnGo.st (fun _ k => XS.aloadN X0.here hx rfl (hb hby d7_32) rfl rfl  k) ?_
  show OwnGo p e below s _ _ _ s₁ (mkF m 33 #[.val (.ref a), .val (.int (2 : Int32)), .val (.int x0), .val (.int x1), .val (.int x2), .val (.int x3)] [(.ref a)])
  refine OwnGo.st (fun _ k => XS.iconst X0.here hx rfl (hb hby d7_33) k) ?_
  show OwnGo p e below s _ _ _ s₁ (mkF m 34 #[.val (.ref a), .val (.int (2 : Int32)), .val (.int x0), .val (.int x1), .val (.int x2), .val (.int x3)] [(.int (1 : Int32)), (.ref a)])
  obtain ⟨cl30, Ar30, -, S30, -, H30, -⟩ := id V
  have hin30 : ¬ ((1 : Int32) < 0 ∨ cl30.slots.size ≤ ((1 : Int32)).toNatClampNeg) := inb_of S30 ⟨by decide, by decide⟩
  refine OwnGo.st (fun _ k => X0.baloadBytes hx (j := (1 : Int32)) (v := (.int x1)) (by rw [e0]; exact Ar30.1) (State.isArrayOf_alike hZ.alike Ar30.2.1) Ar30.2.2 hin30 (H30.at hin30 rfl) (g := (mkF m 34 #[.val (.ref a), .val (.int (2 : Int32)), .val (.int x0), .val (.int x1), .val (.int x2), .val (.int x3)] [(.int (1 : Int32)), (.ref a)])) rfl rfl (hb hby d7_34) _ k) ?_
  show OwnGo p e below s _ _ _ s₁ (mkF m 35 #[.val (.ref a), .val (.int (2 : Int32)), .val (.int x0), .val (.int x1), .val (.int x2), .val (.int x3)] [(.int x1)])
  refine OwnGo.st (fun _ k => XS.iloadN X0.here hx rfl (hb hby d7_35) rfl  k) ?_
  show OwnGo p e below s _ _ _ s₁ (mkF m 36 #[.val (.ref a), .val (.int (2 : Int32)), .val (.int x0), .val (.int x1), .val (.int x2), .val (.int x3)] [(.int x1), (.int x1)])
  refine OwnGo.st (fun _ k => XS.icmpYes X0.here hx rfl (pc0 := 36) (pc' := 41) rfl (hb hby d7_36) rfl (teq (rfl : x1 = x1)).1 (by decide) (by decide) k) ?_
  show OwnGo p e below s _ _ _ s₁ (mkF m 41 #[.val (.ref a), .val (.int (2 : Int32)), .val (.int x0), .val (.int x1), .val (.int x2), .val (.int x3)] [])
  refine OwnGo.st (fun _ k => XS.iloadN X0.here hx rfl (hb hby d7_41) rfl  k) ?_
  show OwnGo p e below s _ _ _ s₁ (mkF m 42 #[.val (.ref a), .val (.int (2 : Int32)), .val (.int x0), .val (.int x1), .val (.int x2), .val (.int x3)] [(.int (2 : Int32))])
  refine OwnGo.st (fun _ k => XS.iconst X0.here hx rfl (hb hby d7_42) k) ?_
  show OwnGo p e below s _ _ _ s₁ (mkF m 43 #[.val (.ref a), .val (.int (2 : Int32)), .val (.int x0), .val (.int x1), .val (.int x2), .val (.int x3)] [(.int (2 : Int32)), (.int (2 : Int32))])
  refine OwnGo.st (fun _ k => XS.icmpYes X0.here hx rfl (pc0 := 43) (pc' := 56) rfl (hb hby d7_43) rfl (flt ((by decide) : ¬ ((2 : Int32) < (2 : Int32)))).2.2.2 (by decide) (by decide) k) ?_
  show OwnGo p e below s _ _ _ s₁ (mkF m 56 #[.val (.ref a), .val (.int (2 : Int32)), .val (.int x0), .val (.int x1), .val (.int x2), .val (.int x3)] [])
  refine OwnGo.st (fun _ k => XS.iloadN X0.here hx rfl (hb hby d7_56) rfl  k) ?_
  show OwnGo p e below s _ _ _ s₁ (mkF m 57 #[.val (.ref a), .val (.int (2 : Int32)), .val (.int x0), .val (.int x1), .val (.int x2), .val (.int x3)] [(.int (2 : Int32))])
  refine OwnGo.st (fun _ k => XS.iconst X0.here hx rfl (hb hby d7_57) k) ?_
  show OwnGo p e below s _ _ _ s₁ (mkF m 58 #[.val (.ref a), .val (.int (2 : Int32)), .val (.int x0), .val (.int x1), .val (.int x2), .val (.int x3)] [(.int (3 : Int32)), (.int (2 : Int32))])
  refine OwnGo.st (fun _ k => XS.icmpYes X0.here hx rfl (pc0 := 58) (pc' := 71) rfl (hb hby d7_58) rfl (flt ((by decide) : ¬ ((3 : Int32) < (2 : Int32)))).2.2.2 (by decide) (by decide) k) ?_
  show OwnGo p e below s _ _ _ s₁ (mkF m 71 #[.val (.ref a), .val (.int (2 : Int32)), .val (.int x0), .val (.int x1), .val (.int x2), .val (.int x3)] [])
  refine OwnGo.st (fun _ k => XS.iconst X0.here hx rfl (hb hby d7_71) k) ?_
  show OwnGo p e below s _ _ _ s₁ (mkF m 72 #[.val (.ref a), .val (.int (2 : Int32)), .val (.int x0), .val (.int x1), .val (.int x2), .val (.int x3)] [(.int (1 : Int32))])
  exact OwnGo.retN X0 hx (t := .boolean) hret hlk (by simp) (hb hby d7_72) (by show Qsa2 Z a kc x0 x1 x2 x3 h0 n0 _ s₁.heap _; rw [e0]; exact ⟨rfl, N0, rfl⟩) (by decide) (by decide)
def Qmk3 (Z : State) (x0 : Int32) (x1 : Int32) (x2 : Int32) (x3 : Int32) (h0 : Heap) (n0 : Nat) (v : Option Value) (h : Heap) (L : List Loc) : Prop := ∃ (a : Addr) (kc : ClassId), v = some (.ref a) ∧ Fr n0 L ∧ Keep h0 h [] ∧ Arv Z h a kc .byte (3 : Int32) [(.int x0), (.int x1), (.int x2)] (.int (0 : Int32)) ∧ Exa Z h a "[B" ∧ h0.size ≤ a
set_option maxRecDepth 65536 in
set_option maxHeartbeats 40000000 in
theorem rmmk3 (l : Launch) (Z : State) (a0 : Array Value) (hw : ∀ d ∈ tables_1, d.before a0 Z = true) (ws : List Jvm.Cond) (x0 : Int32) (x1 : Int32) (x2 : Int32) (x3 : Int32) (h0 : Heap) (n0 : Nat) (Z0 : n0 ≤ h0.size) (hx0 : nar .byte x0 = x0) (hx1 : nar .byte x1 = x1) (hx2 : nar .byte x2 = x2) (hx3 : nar .byte x3 = x3) :
    MetFree l (⟨"com/example/thorough_factfind/thoroughfactfind/foundation/db/EventDataPinLaw", "make", "(IBBBB)[B"⟩ : MethodName) (head1 (Jvm.Cond.code (⟨"com/example/thorough_factfind/thoroughfactfind/foundation/db/EventDataPinLaw", "make", "(IBBBB)[B"⟩ : MethodName) method_2_code 5 (some (.array .byte)) :: ws) ({ frames := 0, cells := 1, slots := 3, locals := 0 } : Room)) (fun as_ UU => as_ = #[(.int (3 : Int32)), (.int x0), (.int x1), (.int x2), (.int x3)] ∧ Z.Warmed39 UU.vm ∧ UU.heap = h0) (fun _ _ _ _ _ => True) (fun _ UU oo UU' => ∃ vv LL, oo = .returned vv ∧ (Qmk3 Z x0 x1 x2 x3 h0 n0) vv UU'.heap LL ∧ FrameEnd UU oo UU' LL ({ frames := 0, cells := 1, slots := 3, locals := 0 } : Room).cells ({ frames := 0, cells := 1, slots := 3, locals := 0 } : Room).slots) := by
  refine own_met (plainFor_of_name pn_1) ?_
  intro p e s m below meth c s₁ X0 hx hby hml hret hlk hown hnm hZ e0
  have N0 := Fr.nil n0
  have Z_ := Z0
  refine OwnGo.cast (ef_mk3 m (3 : Int32) x0 x1 x2 x3) ?_
  show OwnGo p e below s _ _ _ s₁ (mkF m 0 #[.val (.int (3 : Int32)), .val (.int x0), .val (.int x1), .val (.int x2), .val (.int x3)] [])
  have Kp : Keep h0 h0 [] := Keep.refl h0 []
  refine OwnGo.st (fun _ k => XS.iloadN X0.here hx rfl (hb hby d1_0) rfl  k) ?_
  show OwnGo p e below s _ _ _ s₁ (mkF m 1 #[.val (.int (3 : Int32)), .val (.int x0), .val (.int x1), .val (.int x2), .val (.int x3)] [(.int (3 : Int32))])
  refine OwnGo.st (fun _ k => XS.ifYes X0.here hx rfl (pc0 := 1) (pc' := 8) rfl (hb hby d1_1) rfl ((if0 _ _).trans (feq ((by decide) : ¬ ((3 : Int32) = (0 : Int32)))).2) (by decide) (by decide) k) ?_
  show OwnGo p e below s _ _ _ s₁ (mkF m 8 #[.val (.int (3 : Int32)), .val (.int x0), .val (.int x1), .val (.int x2), .val (.int x3)] [])
  refine OwnGo.st (fun _ k => XS.iloadN X0.here hx rfl (hb hby d1_8) rfl  k) ?_
  show OwnGo p e below s _ _ _ s₁ (mkF m 9 #[.val (.int (3 : Int32)), .val (.int x0), .val (.int x1), .val (.int x2), .val (.int x3)] [(.int (3 : Int32))])
  refine OwnGo.st (fun _ k => XS.iconst X0.here hx rfl (hb hby d1_9) k) ?_
  show OwnGo p e below s _ _ _ s₁ (mkF m 10 #[.val (.int (3 : Int32)), .val (.int x0), .val (.int x1), .val (.int x2), .val (.int x3)] [(.int (1 : Int32)), (.int (3 : Int32))])
  refine OwnGo.st (fun _ k => XS.icmpYes X0.here hx rfl (pc0 := 10) (pc' := 21) rfl (hb hby d1_10) rfl (feq ((by decide) : ¬ ((3 : Int32) = (1 : Int32)))).2 (by decide) (by decide) k) ?_
  show OwnGo p e below s _ _ _ s₁ (mkF m 21 #[.val (.int (3 : Int32)), .val (.int x0), .val (.int x1), .val (.int x2), .val (.int x3)] [])
  refine OwnGo.st (fun _ k => XS.iloadN X0.here hx rfl (hb hby d1_21) rfl  k) ?_
  show OwnGo p e below s _ _ _ s₁ (mkF m 22 #[.val (.int (3 : Int32)), .val (.int x0), .val (.int x1), .val (.int x2), .val (.int x3)] [(.int (3 : Int32))])
  refine OwnGo.st (fun _ k => XS.iconst X0.here hx rfl (hb hby d1_22) k) ?_
  show OwnGo p e below s _ _ _ s₁ (mkF m 23 #[.val (.int (3 : Int32)), .val (.int x0), .val (.int x1), .val (.int x2), .val (.int x3)] [(.int (2 : Int32)), (.int (3 : Int32))])
  refine OwnGo.st (fun _ k => XS.icmpYes X0.here hx rfl (pc0 := 23) (pc' := 38) rfl (hb hby d1_23) rfl (feq ((by decide) : ¬ ((3 : Int32) = (2 : Int32)))).2 (by decide) (by decide) k) ?_
  show OwnGo p e below s _ _ _ s₁ (mkF m 38 #[.val (.int (3 : Int32)), .val (.int x0), .val (.int x1), .val (.int x2), .val (.int x3)] [])
  refine OwnGo.st (fun _ k => XS.iloadN X0.here hx rfl (hb hby d1_38) rfl  k) ?_
  show OwnGo p e below s _ _ _ s₁ (mkF m 39 #[.val (.int (3 : Int32)), .val (.int x0), .val (.int x1), .val (.int x2), .val (.int x3)] [(.int (3 : Int32))])
  refine OwnGo.st (fun _ k => XS.iconst X0.here hx rfl (hb hby d1_39) k) ?_
  show OwnGo p e below s _ _ _ s₁ (mkF m 40 #[.val (.int (3 : Int32)), .val (.int x0), .val (.int x1), .val (.int x2), .val (.int x3)] [(.int (3 : Int32)), (.int (3 : Int32))])
  refine OwnGo.st (fun _ k => XS.icmpNo X0.here hx rfl (hb hby d1_40) rfl (teq ((by decide) : (3 : Int32) = (3 : Int32))).2 k) ?_
  show OwnGo p e below s _ _ _ s₁ (mkF m 43 #[.val (.int (3 : Int32)), .val (.int x0), .val (.int x1), .val (.int x2), .val (.int x3)] [])
  refine OwnGo.st (fun _ k => XS.iconst X0.here hx rfl (hb hby d1_43) k) ?_
  show OwnGo p e below s _ _ _ s₁ (mkF m 44 #[.val (.int (3 : Int32)), .val (.int x0), .val (.int x1), .val (.int x2), .val (.int x3)] [(.int (3 : Int32))])
  obtain ⟨T31, h31, k31, X31, e31, E31, A31, Ex31, st31⟩ := newPE X0 hx hZ (hw _ (List.mem_of_getElem? (i := 5) rfl)) e0 (g := (mkF m 44 #[.val (.int (3 : Int32)), .val (.int x0), .val (.int x1), .val (.int x2), .val (.int x3)] [(.int (3 : Int32))])) rfl (hb hby d1_44) rfl (by decide) (cap := 3) (by decide) (by decide) (by decide) (by decide) (ad := "[B") (by decide)
  obtain ⟨b31, g31⟩ : ∃ z, z = h0.size := ⟨_, rfl⟩
  rw [← g31] at A31 Ex31 st31
  have g_b31 : n0 ≤ b31 := Nat.le_trans Z_ (Nat.le_of_eq g31.symm)
  have sz_b31 : h0.size ≤ b31 := Nat.le_trans Kp.1 (Nat.le_of_eq g31.symm)
  have Kp := Kp.ext E31
  have Z_ : n0 ≤ h31.size := Nat.le_trans Z_ E31.1
  have V_b31 : Arv Z h31 b31 k31 .byte (3 : Int32) [(.int (0 : Int32)), (.int (0 : Int32)), (.int (0 : Int32))] (.int (0 : Int32)) := (Arv.new A31 (by decide)).pad (pad_rep [] (.int (0 : Int32)) 3)
  have E_b31 := Ex31
  refine OwnGo.st st31 ?_
  show OwnGo p e below s _ _ _ T31 (mkF m 46 #[.val (.int (3 : Int32)), .val (.int x0), .val (.int x1), .val (.int x2), .val (.int x3)] [(.ref b31)])
  refine OwnGo.st (fun _ k => XS.dup X31.here hx rfl (hb hby d1_46) rfl rfl k) ?_
  show OwnGo p e below s _ _ _ T31 (mkF m 47 #[.val (.int (3 : Int32)), .val (.int x0), .val (.int x1), .val (.int x2), .val (.int x3)] [(.ref b31), (.ref b31)])
  refine OwnGo.st (fun _ k => XS.iconst X31.here hx rfl (hb hby d1_47) k) ?_
  show OwnGo p e below s _ _ _ T31 (mkF m 48 #[.val (.int (3 : Int32)), .val (.int x0), .val (.int x1), .val (.int x2), .val (.int x3)] [(.int (0 : Int32)), (.ref b31), (.ref b31)])
  refine OwnGo.st (fun _ k => XS.iloadN X31.here hx rfl (hb hby d1_48) rfl  k) ?_
  show OwnGo p e below s _ _ _ T31 (mkF m 49 #[.val (.int (3 : Int32)), .val (.int x0), .val (.int x1), .val (.int x2), .val (.int x3)] [(.int x0), (.int (0 : Int32)), (.ref b31), (.ref b31)])
  obtain ⟨cl32, Ar32, q32, S32, N32, H32, G32⟩ := id V_b31
  have hin32 : ¬ ((0 : Int32) < 0 ∨ cl32.slots.size ≤ ((0 : Int32)).toNatClampNeg) := inb_of S32 ⟨by decide, by decide⟩
  obtain ⟨T32, h32, X32, e32, W32, st32⟩ := stB X31 hx hZ e31 Ar32 (j := (0 : Int32)) hin32 (g := (mkF m 49 #[.val (.int (3 : Int32)), .val (.int x0), .val (.int x1), .val (.int x2), .val (.int x3)] [(.int x0), (.int (0 : Int32)), (.ref b31), (.ref b31)])) rfl rfl (hb hby d1_49)
  have V_b31 : Arv Z h32 b31 k31 .byte (3 : Int32) [(.int (nar .byte x0)), (.int (0 : Int32)), (.int (0 : Int32))] (.int (0 : Int32)) := Arv.set Ar32 q32 S32 N32 H32 G32 (fits_nar_byte _) W32 0 rfl (Nat.le_of_ble_eq_true rfl)
  rw [show nar .byte x0 = x0 from hx0] at V_b31
  have E_b31 := E_b31.wr W32
  have Kp := Kp.wr W32 (Or.inr sz_b31)
  have N32 := Fr.snoc X32 N0 g_b31
  have Z_ : n0 ≤ h32.size := by rw [W32.size]; exact Z_
  refine OwnGo.st st32 ?_
  show OwnGo p e below s _ _ _ T32 (mkF m 50 #[.val (.int (3 : Int32)), .val (.int x0), .val (.int x1), .val (.int x2), .val (.int x3)] [(.ref b31)])
  refine OwnGo.st (fun _ k => XS.dup X32.here hx rfl (hb hby d1_50) rfl rfl k) ?_
  show OwnGo p e below s _ _ _ T32 (mkF m 51 #[.val (.int (3 : Int32)), .val (.int x0), .val (.int x1), .val (.int x2), .val (.int x3)] [(.ref b31), (.ref b31)])
  refine OwnGo.st (fun _ k => XS.iconst X32.here hx rfl (hb hby d1_51) k) ?_
  show OwnGo p e below s _ _ _ T32 (mkF m 52 #[.val (.int (3 : Int32)), .val (.int x0), .val (.int x1), .val (.int x2), .val (.int x3)] [(.int (1 : Int32)), (.ref b31), (.ref b31)])
  refine OwnGo.st (fun _ k => XS.iloadN X32.here hx rfl (hb hby d1_52) rfl  k) ?_
  show OwnGo p e below s _ _ _ T32 (mkF m 53 #[.val (.int (3 : Int32)), .val (.int x0), .val (.int x1), .val (.int x2), .val (.int x3)] [(.int x1), (.int (1 : Int32)), (.ref b31), (.ref b31)])
  obtain ⟨cl33, Ar33, q33, S33, N33, H33, G33⟩ := id V_b31
  have hin33 : ¬ ((1 : Int32) < 0 ∨ cl33.slots.size ≤ ((1 : Int32)).toNatClampNeg) := inb_of S33 ⟨by decide, by decide⟩
  obtain ⟨T33, h33, X33, e33, W33, st33⟩ := stB X32 hx hZ e32 Ar33 (j := (1 : Int32)) hin33 (g := (mkF m 53 #[.val (.int (3 : Int32)), .val (.int x0), .val (.int x1), .val (.int x2), .val (.int x3)] [(.int x1), (.int (1 : Int32)), (.ref b31), (.ref b31)])) rfl rfl (hb hby d1_53)
  have V_b31 : Arv Z h33 b31 k31 .byte (3 : Int32) [(.int x0), (.int (nar .byte x1)), (.int (0 : Int32))] (.int (0 : Int32)) := Arv.set Ar33 q33 S33 N33 H33 G33 (fits_nar_byte _) W33 1 rfl (Nat.le_of_ble_eq_true rfl)
  rw [show nar .byte x1 = x1 from hx1] at V_b31
  have E_b31 := E_b31.wr W33
  have Kp := Kp.wr W33 (Or.inr sz_b31)
  have N33 := Fr.snoc X33 N32 g_b31
  have Z_ : n0 ≤ h33.size := by rw [W33.size]; exact Z_
  refine OwnGo.st st33 ?_
  show OwnGo p e below s _ _ _ T33 (mkF m 54 #[.val (.int (3 : Int32)), .val (.int x0), .val (.int x1), .val (.int x2), .val (.int x3)] [(.ref b31)])
  refine OwnGo.st (fun _ k => XS.dup X33.here hx rfl (hb hby d1_54) rfl rfl k) ?_
  show OwnGo p e below s _ _ _ T33 (mkF m 55 #[.val (.int (3 : Int32)), .val (.int x0), .val (.int x1), .val (.int x2), .val (.int x3)] [(.ref b31), (.ref b31)])
  refine OwnGo.st (fun _ k => XS.iconst X33.here hx rfl (hb hby d1_55) k) ?_
  show OwnGo p e below s _ _ _ T33 (mkF m 56 #[.val (.int (3 : Int32)), .val (.int x0), .val (.int x1), .val (.int x2), .val (.int x3)] [(.int (2 : Int32)), (.ref b31), (.ref b31)])
  refine OwnGo.st (fun _ k => XS.iloadN X33.here hx rfl (hb hby d1_56) rfl  k) ?_
  show OwnGo p e below s _ _ _ T33 (mkF m 57 #[.val (.int (3 : Int32)), .val (.int x0), .val (.int x1), .val (.int x2), .val (.int x3)] [(.int x2), (.int (2 : Int32)), (.ref b31), (.ref b31)])
  obtain ⟨cl34, Ar34, q34, S34, N34, H34, G34⟩ := id V_b31
  have hin34 : ¬ ((2 : Int32) < 0 ∨ cl34.slots.size ≤ ((2 : Int32)).toNatClampNeg) := inb_of S34 ⟨by decide, by decide⟩
  obtain ⟨T34, h34, X34, e34, W34, st34⟩ := stB X33 hx hZ e33 Ar34 (j := (2 : Int32)) hin34 (g := (mkF m 57 #[.val (.int (3 : Int32)), .val (.int x0), .val (.int x1), .val (.int x2), .val (.int x3)] [(.int x2), (.int (2 : Int32)), (.ref b31), (.ref b31)])) rfl rfl (hb hby d1_57)
  have V_b31 : Arv Z h34 b31 k31 .byte (3 : Int32) [(.int x0), (.int x1), (.int (nar .byte x2))] (.int (0 : Int32)) := Arv.set Ar34 q34 S34 N34 H34 G34 (fits_nar_byte _) W34 2 rfl (Nat.le_of_ble_eq_true rfl)
  rw [show nar .byte x2 = x2 from hx2] at V_b31
  have E_b31 := E_b31.wr W34
  have Kp := Kp.wr W34 (Or.inr sz_b31)
  have N34 := Fr.snoc X34 N33 g_b31
  have Z_ : n0 ≤ h34.size := by rw [W34.size]; exact Z_
  refine OwnGo.st st34 ?_
  show OwnGo p e below s _ _ _ T34 (mkF m 58 #[.val (.int (3 : Int32)), .val (.int x0), .val (.int x1), .val (.int x2), .val (.int x3)] [(.ref b31)])
  exact OwnGo.ret X34 hx hret hlk rfl (Or.inr (Or.inr (Or.inr (Or.inr ⟨rfl, rfl, rfl⟩)))) (hb hby d1_58) (by show Qmk3 Z x0 x1 x2 x3 h0 n0 _ T34.heap _; rw [e34]; exact ⟨b31, k31, rfl, N34, Kp, V_b31, E_b31, sz_b31⟩) (by decide) (by decide)
def Qbu3 (Z : State) (a : Addr) (kc : ClassId) (b0 : Int32) (b1 : Int32) (b2 : Int32) (h0 : Heap) (n0 : Nat) (v : Option Value) (h : Heap) (L : List Loc) : Prop := v = none ∧ Fr n0 L ∧ Keep h0 h [a]
set_option maxRecDepth 65536 in
set_option maxHeartbeats 40000000 in
theorem rmbu3 (l : Launch) (Z : State) (a0 : Array Value) (hw : ∀ d ∈ tables_1, d.before a0 Z = true) (ws : List Jvm.Cond) (a : Addr) (kc : ClassId) (b0 : Int32) (b1 : Int32) (b2 : Int32) (h0 : Heap) (n0 : Nat) (Z0 : n0 ≤ h0.size) (V : Arv Z h0 a kc .byte (3 : Int32) [(.int b0), (.int b1), (.int b2)] (.int (0 : Int32))) (g_a : n0 ≤ a) :
    MetFree l (⟨"com/example/thorough_factfind/thoroughfactfind/foundation/db/EventDataPinLaw", "bump", "([B)V"⟩ : MethodName) (head1 (Jvm.Cond.code (⟨"com/example/thorough_factfind/thoroughfactfind/foundation/db/EventDataPinLaw", "bump", "([B)V"⟩ : MethodName) method_3_code 1 none :: ws) ({ frames := 0, cells := 0, slots := 0, locals := 0 } : Room)) (fun as_ UU => as_ = #[(.ref a)] ∧ Z.Warmed39 UU.vm ∧ UU.heap = h0) (fun _ _ _ _ _ => True) (fun _ UU oo UU' => ∃ vv LL, oo = .returned vv ∧ (Qbu3 Z a kc b0 b1 b2 h0 n0) vv UU'.heap LL ∧ FrameEnd UU oo UU' LL ({ frames := 0, cells := 0, slots := 0, locals := 0 } : Room).cells ({ frames := 0, cells := 0, slots := 0, locals := 0 } : Room).slots) := by
  refine own_met (plainFor_of_name pn_1) ?_
  intro p e s m below meth c s₁ X0 hx hby hml hret hlk hown hnm hZ e0
  have N0 := Fr.nil n0
  have Z_ := Z0
  refine OwnGo.cast (ef_bu3 m a) ?_
  show OwnGo p e below s _ _ _ s₁ (mkF m 0 #[.val (.ref a)] [])
  have Kp : Keep h0 h0 [a] := Keep.refl h0 [a]
  refine OwnGo.st (fun _ k => XS.aloadN X0.here hx rfl (hb hby d5_0) rfl rfl  k) ?_
  show OwnGo p e below s _ _ _ s₁ (mkF m 1 #[.val (.ref a)] [(.ref a)])
  obtain ⟨cl35, Ar35, -, S35, N35, -, -⟩ := id V
  refine OwnGo.st (fun _ k => own_len hZ (len_of S35 N35) Ar35 X0 e0 hx (g := (mkF m 1 #[.val (.ref a)] [(.ref a)])) rfl rfl (hb hby d5_1) _ k) ?_
  show OwnGo p e below s _ _ _ s₁ (mkF m 2 #[.val (.ref a)] [(.int (3 : Int32))])
  refine OwnGo.st (fun _ k => XS.ifNo X0.here hx rfl (hb hby d5_2) rfl ((if0 _ _).trans (tlt ((by decide) : (0 : Int32) < (3 : Int32))).2.2.2) k) ?_
  show OwnGo p e below s _ _ _ s₁ (mkF m 5 #[.val (.ref a)] [])
  refine OwnGo.st (fun _ k => XS.aloadN X0.here hx rfl (hb hby d5_5) rfl rfl  k) ?_
  show OwnGo p e below s _ _ _ s₁ (mkF m 6 #[.val (.ref a)] [(.ref a)])
  refine OwnGo.st (fun _ k => XS.iconst X0.here hx rfl (hb hby d5_6) k) ?_
  show OwnGo p e below s _ _ _ s₁ (mkF m 7 #[.val (.ref a)] [(.int (0 : Int32)), (.ref a)])
  refine OwnGo.st (fun _ k => XS.aloadN X0.here hx rfl (hb hby d5_7) rfl rfl  k) ?_
  show OwnGo p e below s _ _ _ s₁ (mkF m 8 #[.val (.ref a)] [(.ref a), (.int (0 : Int32)), (.ref a)])
  refine OwnGo.st (fun _ k => XS.iconst X0.here hx rfl (hb hby d5_8) k) ?_
  show OwnGo p e below s _ _ _ s₁ (mkF m 9 #[.val (.ref a)] [(.int (0 : Int32)), (.ref a), (.int (0 : Int32)), (.ref a)])
  obtain ⟨cl36, Ar36, -, S36, -, H36, -⟩ := id V
  have hin36 : ¬ ((0 : Int32) < 0 ∨ cl36.slots.size ≤ ((0 : Int32)).toNatClampNeg) := inb_of S36 ⟨by decide, by decide⟩
  refine OwnGo.st (fun _ k => X0.baloadBytes hx (j := (0 : Int32)) (v := (.int b0)) (by rw [e0]; exact Ar36.1) (State.isArrayOf_alike hZ.alike Ar36.2.1) Ar36.2.2 hin36 (H36.at hin36 rfl) (g := (mkF m 9 #[.val (.ref a)] [(.int (0 : Int32)), (.ref a), (.int (0 : Int32)), (.ref a)])) rfl rfl (hb hby d5_9) _ k) ?_
  show OwnGo p e below s _ _ _ s₁ (mkF m 10 #[.val (.ref a)] [(.int b0), (.int (0 : Int32)), (.ref a)])
  refine OwnGo.st (fun _ k => XS.iconst X0.here hx rfl (hb hby d5_10) k) ?_
  show OwnGo p e below s _ _ _ s₁ (mkF m 11 #[.val (.ref a)] [(.int (1 : Int32)), (.int b0), (.int (0 : Int32)), (.ref a)])
  refine OwnGo.st (fun _ k => XS.iadd X0.here hx rfl (hb hby d5_11) rfl k) ?_
  show OwnGo p e below s _ _ _ s₁ (mkF m 12 #[.val (.ref a)] [(.int (b0 + (1 : Int32))), (.int (0 : Int32)), (.ref a)])
  refine OwnGo.st (fun _ k => XS.i2b X0.here hx rfl (hb hby d5_12) rfl k) ?_
  show OwnGo p e below s _ _ _ s₁ (mkF m 13 #[.val (.ref a)] [(.int ((b0 + (1 : Int32)).toInt8.toInt32)), (.int (0 : Int32)), (.ref a)])
  obtain ⟨cl37, Ar37, q37, S37, N37, H37, G37⟩ := id V
  have hin37 : ¬ ((0 : Int32) < 0 ∨ cl37.slots.size ≤ ((0 : Int32)).toNatClampNeg) := inb_of S37 ⟨by decide, by decide⟩
  obtain ⟨T37, h37, X37, e37, W37, st37⟩ := stB X0 hx hZ e0 Ar37 (j := (0 : Int32)) hin37 (g := (mkF m 13 #[.val (.ref a)] [(.int ((b0 + (1 : Int32)).toInt8.toInt32)), (.int (0 : Int32)), (.ref a)])) rfl rfl (hb hby d5_13)
  have V : Arv Z h37 a kc .byte (3 : Int32) [(.int (nar .byte ((b0 + (1 : Int32)).toInt8.toInt32))), (.int b1), (.int b2)] (.int (0 : Int32)) := Arv.set Ar37 q37 S37 N37 H37 G37 (fits_nar_byte _) W37 0 rfl (Nat.le_of_ble_eq_true rfl)
  rw [show nar .byte ((b0 + (1 : Int32)).toInt8.toInt32) = ((b0 + (1 : Int32)).toInt8.toInt32) from own_nb _] at V
  have Kp := Kp.wr W37 (Or.inl (List.mem_of_getElem? (i := 0) rfl))
  have N37 := Fr.snoc X37 N0 g_a
  have Z_ : n0 ≤ h37.size := by rw [W37.size]; exact Z_
  refine OwnGo.st st37 ?_
  show OwnGo p e below s _ _ _ T37 (mkF m 14 #[.val (.ref a)] [])
  refine OwnGo.st (fun _ k => XS.aloadN X37.here hx rfl (hb hby d5_14) rfl rfl  k) ?_
  show OwnGo p e below s _ _ _ T37 (mkF m 15 #[.val (.ref a)] [(.ref a)])
  obtain ⟨cl38, Ar38, -, S38, N38, -, -⟩ := id V
  refine OwnGo.st (fun _ k => own_len hZ (len_of S38 N38) Ar38 X37 e37 hx (g := (mkF m 15 #[.val (.ref a)] [(.ref a)])) rfl rfl (hb hby d5_15) _ k) ?_
  show OwnGo p e below s _ _ _ T37 (mkF m 16 #[.val (.ref a)] [(.int (3 : Int32))])
  refine OwnGo.st (fun _ k => XS.iconst X37.here hx rfl (hb hby d5_16) k) ?_
  show OwnGo p e below s _ _ _ T37 (mkF m 17 #[.val (.ref a)] [(.int (1 : Int32)), (.int (3 : Int32))])
  refine OwnGo.st (fun _ k => XS.icmpNo X37.here hx rfl (hb hby d5_17) rfl (tlt ((by decide) : (1 : Int32) < (3 : Int32))).2.2.2 k) ?_
  show OwnGo p e below s _ _ _ T37 (mkF m 20 #[.val (.ref a)] [])
  refine OwnGo.st (fun _ k => XS.aloadN X37.here hx rfl (hb hby d5_20) rfl rfl  k) ?_
  show OwnGo p e below s _ _ _ T37 (mkF m 21 #[.val (.ref a)] [(.ref a)])
  refine OwnGo.st (fun _ k => XS.iconst X37.here hx rfl (hb hby d5_21) k) ?_
  show OwnGo p e below s _ _ _ T37 (mkF m 22 #[.val (.ref a)] [(.int (1 : Int32)), (.ref a)])
  refine OwnGo.st (fun _ k => XS.aloadN X37.here hx rfl (hb hby d5_22) rfl rfl  k) ?_
  show OwnGo p e below s _ _ _ T37 (mkF m 23 #[.val (.ref a)] [(.ref a), (.int (1 : Int32)), (.ref a)])
  refine OwnGo.st (fun _ k => XS.iconst X37.here hx rfl (hb hby d5_23) k) ?_
  show OwnGo p e below s _ _ _ T37 (mkF m 24 #[.val (.ref a)] [(.int (1 : Int32)), (.ref a), (.int (1 : Int32)), (.ref a)])
  obtain ⟨cl39, Ar39, -, S39, -, H39, -⟩ := id V
  have hin39 : ¬ ((1 : Int32) < 0 ∨ cl39.slots.size ≤ ((1 : Int32)).toNatClampNeg) := inb_of S39 ⟨by decide, by decide⟩
  refine OwnGo.st (fun _ k => X37.baloadBytes hx (j := (1 : Int32)) (v := (.int b1)) (by rw [e37]; exact Ar39.1) (State.isArrayOf_alike hZ.alike Ar39.2.1) Ar39.2.2 hin39 (H39.at hin39 rfl) (g := (mkF m 24 #[.val (.ref a)] [(.int (1 : Int32)), (.ref a), (.int (1 : Int32)), (.ref a)])) rfl rfl (hb hby d5_24) _ k) ?_
  show OwnGo p e below s _ _ _ T37 (mkF m 25 #[.val (.ref a)] [(.int b1), (.int (1 : Int32)), (.ref a)])
  refine OwnGo.st (fun _ k => XS.iconst X37.here hx rfl (hb hby d5_25) k) ?_
  show OwnGo p e below s _ _ _ T37 (mkF m 26 #[.val (.ref a)] [(.int (1 : Int32)), (.int b1), (.int (1 : Int32)), (.ref a)])
  refine OwnGo.st (fun _ k => XS.iadd X37.here hx rfl (hb hby d5_26) rfl k) ?_
  show OwnGo p e below s _ _ _ T37 (mkF m 27 #[.val (.ref a)] [(.int (b1 + (1 : Int32))), (.int (1 : Int32)), (.ref a)])
  refine OwnGo.st (fun _ k => XS.i2b X37.here hx rfl (hb hby d5_27) rfl k) ?_
  show OwnGo p e below s _ _ _ T37 (mkF m 28 #[.val (.ref a)] [(.int ((b1 + (1 : Int32)).toInt8.toInt32)), (.int (1 : Int32)), (.ref a)])
  obtain ⟨cl40, Ar40, q40, S40, N40, H40, G40⟩ := id V
  have hin40 : ¬ ((1 : Int32) < 0 ∨ cl40.slots.size ≤ ((1 : Int32)).toNatClampNeg) := inb_of S40 ⟨by decide, by decide⟩
  obtain ⟨T40, h40, X40, e40, W40, st40⟩ := stB X37 hx hZ e37 Ar40 (j := (1 : Int32)) hin40 (g := (mkF m 28 #[.val (.ref a)] [(.int ((b1 + (1 : Int32)).toInt8.toInt32)), (.int (1 : Int32)), (.ref a)])) rfl rfl (hb hby d5_28)
  have V : Arv Z h40 a kc .byte (3 : Int32) [(.int ((b0 + (1 : Int32)).toInt8.toInt32)), (.int (nar .byte ((b1 + (1 : Int32)).toInt8.toInt32))), (.int b2)] (.int (0 : Int32)) := Arv.set Ar40 q40 S40 N40 H40 G40 (fits_nar_byte _) W40 1 rfl (Nat.le_of_ble_eq_true rfl)
  rw [show nar .byte ((b1 + (1 : Int32)).toInt8.toInt32) = ((b1 + (1 : Int32)).toInt8.toInt32) from own_nb _] at V
  have Kp := Kp.wr W40 (Or.inl (List.mem_of_getElem? (i := 0) rfl))
  have N40 := Fr.snoc X40 N37 g_a
  have Z_ : n0 ≤ h40.size := by rw [W40.size]; exact Z_
  refine OwnGo.st st40 ?_
  show OwnGo p e below s _ _ _ T40 (mkF m 29 #[.val (.ref a)] [])
  refine OwnGo.st (fun _ k => XS.aloadN X40.here hx rfl (hb hby d5_29) rfl rfl  k) ?_
  show OwnGo p e below s _ _ _ T40 (mkF m 30 #[.val (.ref a)] [(.ref a)])
  obtain ⟨cl41, Ar41, -, S41, N41, -, -⟩ := id V
  refine OwnGo.st (fun _ k => own_len hZ (len_of S41 N41) Ar41 X40 e40 hx (g := (mkF m 30 #[.val (.ref a)] [(.ref a)])) rfl rfl (hb hby d5_30) _ k) ?_
  show OwnGo p e below s _ _ _ T40 (mkF m 31 #[.val (.ref a)] [(.int (3 : Int32))])
  refine OwnGo.st (fun _ k => XS.iconst X40.here hx rfl (hb hby d5_31) k) ?_
  show OwnGo p e below s _ _ _ T40 (mkF m 32 #[.val (.ref a)] [(.int (2 : Int32)), (.int (3 : Int32))])
  refine OwnGo.st (fun _ k => XS.icmpNo X40.here hx rfl (hb hby d5_32) rfl (tlt ((by decide) : (2 : Int32) < (3 : Int32))).2.2.2 k) ?_
  show OwnGo p e below s _ _ _ T40 (mkF m 35 #[.val (.ref a)] [])
  refine OwnGo.st (fun _ k => XS.aloadN X40.here hx rfl (hb hby d5_35) rfl rfl  k) ?_
  show OwnGo p e below s _ _ _ T40 (mkF m 36 #[.val (.ref a)] [(.ref a)])
  refine OwnGo.st (fun _ k => XS.iconst X40.here hx rfl (hb hby d5_36) k) ?_
  show OwnGo p e below s _ _ _ T40 (mkF m 37 #[.val (.ref a)] [(.int (2 : Int32)), (.ref a)])
  refine OwnGo.st (fun _ k => XS.aloadN X40.here hx rfl (hb hby d5_37) rfl rfl  k) ?_
  show OwnGo p e below s _ _ _ T40 (mkF m 38 #[.val (.ref a)] [(.ref a), (.int (2 : Int32)), (.ref a)])
  refine OwnGo.st (fun _ k => XS.iconst X40.here hx rfl (hb hby d5_38) k) ?_
  show OwnGo p e below s _ _ _ T40 (mkF m 39 #[.val (.ref a)] [(.int (2 : Int32)), (.ref a), (.int (2 : Int32)), (.ref a)])
  obtain ⟨cl42, Ar42, -, S42, -, H42, -⟩ := id V
  have hin42 : ¬ ((2 : Int32) < 0 ∨ cl42.slots.size ≤ ((2 : Int32)).toNatClampNeg) := inb_of S42 ⟨by decide, by decide⟩
  refine OwnGo.st (fun _ k => X40.baloadBytes hx (j := (2 : Int32)) (v := (.int b2)) (by rw [e40]; exact Ar42.1) (State.isArrayOf_alike hZ.alike Ar42.2.1) Ar42.2.2 hin42 (H42.at hin42 rfl) (g := (mkF m 39 #[.val (.ref a)] [(.int (2 : Int32)), (.ref a), (.int (2 : Int32)), (.ref a)])) rfl rfl (hb hby d5_39) _ k) ?_
  show OwnGo p e below s _ _ _ T40 (mkF m 40 #[.val (.ref a)] [(.int b2), (.int (2 : Int32)), (.ref a)])
  refine OwnGo.st (fun _ k => XS.iconst X40.here hx rfl (hb hby d5_40) k) ?_
  show OwnGo p e below s _ _ _ T40 (mkF m 41 #[.val (.ref a)] [(.int (1 : Int32)), (.int b2), (.int (2 : Int32)), (.ref a)])
  refine OwnGo.st (fun _ k => XS.iadd X40.here hx rfl (hb hby d5_41) rfl k) ?_
  show OwnGo p e below s _ _ _ T40 (mkF m 42 #[.val (.ref a)] [(.int (b2 + (1 : Int32))), (.int (2 : Int32)), (.ref a)])
  refine OwnGo.st (fun _ k => XS.i2b X40.here hx rfl (hb hby d5_42) rfl k) ?_
  show OwnGo p e below s _ _ _ T40 (mkF m 43 #[.val (.ref a)] [(.int ((b2 + (1 : Int32)).toInt8.toInt32)), (.int (2 : Int32)), (.ref a)])
  obtain ⟨cl43, Ar43, q43, S43, N43, H43, G43⟩ := id V
  have hin43 : ¬ ((2 : Int32) < 0 ∨ cl43.slots.size ≤ ((2 : Int32)).toNatClampNeg) := inb_of S43 ⟨by decide, by decide⟩
  obtain ⟨T43, h43, X43, e43, W43, st43⟩ := stB X40 hx hZ e40 Ar43 (j := (2 : Int32)) hin43 (g := (mkF m 43 #[.val (.ref a)] [(.int ((b2 + (1 : Int32)).toInt8.toInt32)), (.int (2 : Int32)), (.ref a)])) rfl rfl (hb hby d5_43)
  have V : Arv Z h43 a kc .byte (3 : Int32) [(.int ((b0 + (1 : Int32)).toInt8.toInt32)), (.int ((b1 + (1 : Int32)).toInt8.toInt32)), (.int (nar .byte ((b2 + (1 : Int32)).toInt8.toInt32)))] (.int (0 : Int32)) := Arv.set Ar43 q43 S43 N43 H43 G43 (fits_nar_byte _) W43 2 rfl (Nat.le_of_ble_eq_true rfl)
  rw [show nar .byte ((b2 + (1 : Int32)).toInt8.toInt32) = ((b2 + (1 : Int32)).toInt8.toInt32) from own_nb _] at V
  have Kp := Kp.wr W43 (Or.inl (List.mem_of_getElem? (i := 0) rfl))
  have N43 := Fr.snoc X43 N40 g_a
  have Z_ : n0 ≤ h43.size := by rw [W43.size]; exact Z_
  refine OwnGo.st st43 ?_
  show OwnGo p e below s _ _ _ T43 (mkF m 44 #[.val (.ref a)] [])
  refine OwnGo.st (fun _ k => XS.aloadN X43.here hx rfl (hb hby d5_44) rfl rfl  k) ?_
  show OwnGo p e below s _ _ _ T43 (mkF m 45 #[.val (.ref a)] [(.ref a)])
  obtain ⟨cl44, Ar44, -, S44, N44, -, -⟩ := id V
  refine OwnGo.st (fun _ k => own_len hZ (len_of S44 N44) Ar44 X43 e43 hx (g := (mkF m 45 #[.val (.ref a)] [(.ref a)])) rfl rfl (hb hby d5_45) _ k) ?_
  show OwnGo p e below s _ _ _ T43 (mkF m 46 #[.val (.ref a)] [(.int (3 : Int32))])
  refine OwnGo.st (fun _ k => XS.iconst X43.here hx rfl (hb hby d5_46) k) ?_
  show OwnGo p e below s _ _ _ T43 (mkF m 47 #[.val (.ref a)] [(.int (3 : Int32)), (.int (3 : Int32))])
  refine OwnGo.st (fun _ k => XS.icmpYes X43.here hx rfl (pc0 := 47) (pc' := 59) rfl (hb hby d5_47) rfl (flt ((by decide) : ¬ ((3 : Int32) < (3 : Int32)))).2.2.2 (by decide) (by decide) k) ?_
  show OwnGo p e below s _ _ _ T43 (mkF m 59 #[.val (.ref a)] [])
  exact OwnGo.retV X43 hx hret hlk (hb hby d5_59) (by show Qbu3 Z a kc b0 b1 b2 h0 n0 _ T43.heap _; rw [e43]; exact ⟨rfl, N43, Kp⟩) (by decide) (by decide)
def Qsa3 (Z : State) (a : Addr) (kc : ClassId) (x0 : Int32) (x1 : Int32) (x2 : Int32) (x3 : Int32) (h0 : Heap) (n0 : Nat) (v : Option Value) (h : Heap) (L : List Loc) : Prop := v = some (.int (1 : Int32)) ∧ Fr n0 L ∧ h = h0
set_option maxRecDepth 65536 in
set_option maxHeartbeats 40000000 in
theorem rmsa3 (l : Launch) (Z : State) (a0 : Array Value) (hw : ∀ d ∈ tables_1, d.before a0 Z = true) (ws : List Jvm.Cond) (a : Addr) (kc : ClassId) (x0 : Int32) (x1 : Int32) (x2 : Int32) (x3 : Int32) (h0 : Heap) (n0 : Nat) (Z0 : n0 ≤ h0.size) (V : Arv Z h0 a kc .byte (3 : Int32) [(.int x0), (.int x1), (.int x2)] (.int (0 : Int32))) :
    MetFree l (⟨"com/example/thorough_factfind/thoroughfactfind/foundation/db/EventDataPinLaw", "same", "([BIBBBB)Z"⟩ : MethodName) (head1 (Jvm.Cond.code (⟨"com/example/thorough_factfind/thoroughfactfind/foundation/db/EventDataPinLaw", "same", "([BIBBBB)Z"⟩ : MethodName) method_4_code 6 (some .boolean) :: ws) ({ frames := 0, cells := 0, slots := 0, locals := 0 } : Room)) (fun as_ UU => as_ = #[(.ref a), (.int (3 : Int32)), (.int x0), (.int x1), (.int x2), (.int x3)] ∧ Z.Warmed39 UU.vm ∧ UU.heap = h0) (fun _ _ _ _ _ => True) (fun _ UU oo UU' => ∃ vv LL, oo = .returned vv ∧ (Qsa3 Z a kc x0 x1 x2 x3 h0 n0) vv UU'.heap LL ∧ FrameEnd UU oo UU' LL ({ frames := 0, cells := 0, slots := 0, locals := 0 } : Room).cells ({ frames := 0, cells := 0, slots := 0, locals := 0 } : Room).slots) := by
  refine own_met (plainFor_of_name pn_1) ?_
  intro p e s m below meth c s₁ X0 hx hby hml hret hlk hown hnm hZ e0
  have N0 := Fr.nil n0
  have Z_ := Z0
  refine OwnGo.cast (ef_sa3 m a (3 : Int32) x0 x1 x2 x3) ?_
  show OwnGo p e below s _ _ _ s₁ (mkF m 0 #[.val (.ref a), .val (.int (3 : Int32)), .val (.int x0), .val (.int x1), .val (.int x2), .val (.int x3)] [])
  refine OwnGo.st (fun _ k => XS.aloadN X0.here hx rfl (hb hby d7_0) rfl rfl  k) ?_
  show OwnGo p e below s _ _ _ s₁ (mkF m 1 #[.val (.ref a), .val (.int (3 : Int32)), .val (.int x0), .val (.int x1), .val (.int x2), .val (.int x3)] [(.ref a)])
  refine OwnGo.st (fun _ k => XS.ifnonnullYes X0.here hx rfl (pc0 := 1) (pc' := 6) rfl (hb hby d7_1) rfl (by decide) (by decide) k) ?_
  show OwnGo p e below s _ _ _ s₁ (mkF m 6 #[.val (.ref a), .val (.int (3 : Int32)), .val (.int x0), .val (.int x1), .val (.int x2), .val (.int x3)] [])
  refine OwnGo.st (fun _ k => XS.aloadN X0.here hx rfl (hb hby d7_6) rfl rfl  k) ?_
  show OwnGo p e below s _ _ _ s₁ (mkF m 7 #[.val (.ref a), .val (.int (3 : Int32)), .val (.int x0), .val (.int x1), .val (.int x2), .val (.int x3)] [(.ref a)])
  obtain ⟨cl45, Ar45, -, S45, N45, -, -⟩ := id V
  refine OwnGo.st (fun _ k => own_len hZ (len_of S45 N45) Ar45 X0 e0 hx (g := (mkF m 7 #[.val (.ref a), .val (.int (3 : Int32)), .val (.int x0), .val (.int x1), .val (.int x2), .val (.int x3)] [(.ref a)])) rfl rfl (hb hby d7_7) _ k) ?_
  show OwnGo p e below s _ _ _ s₁ (mkF m 8 #[.val (.ref a), .val (.int (3 : Int32)), .val (.int x0), .val (.int x1), .val (.int x2), .val (.int x3)] [(.int (3 : Int32))])
  refine OwnGo.st (fun _ k => XS.iloadN X0.here hx rfl (hb hby d7_8) rfl  k) ?_
  show OwnGo p e below s _ _ _ s₁ (mkF m 9 #[.val (.ref a), .val (.int (3 : Int32)), .val (.int x0), .val (.int x1), .val (.int x2), .val (.int x3)] [(.int (3 : Int32)), (.int (3 : Int32))])
  refine OwnGo.st (fun _ k => XS.icmpYes X0.here hx rfl (pc0 := 9) (pc' := 14) rfl (hb hby d7_9) rfl (teq (rfl : (3 : Int32) = (3 : Int32))).1 (by decide) (by decide) k) ?_
  show OwnGo p e below s _ _ _ s₁ (mkF m 14 #[.val (.ref a), .val (.int (3 : Int32)), .val (.int x0), .val (.int x1), .val (.int x2), .val (.int x3)] [])
  refine OwnGo.st (fun _ k => XS.iloadN X0.here hx rfl (hb hby d7_14) rfl  k) ?_
  show OwnGo p e below s _ _ _ s₁ (mkF m 15 #[.val (.ref a), .val (.int (3 : Int32)), .val (.int x0), .val (.int x1), .val (.int x2), .val (.int x3)] [(.int (3 : Int32))])
  refine OwnGo.st (fun _ k => XS.ifNo X0.here hx rfl (hb hby d7_15) rfl ((if0 _ _).trans (tlt ((by decide) : (0 : Int32) < (3 : Int32))).2.2.2) k) ?_
  show OwnGo p e below s _ _ _ s₁ (mkF m 18 #[.val (.ref a), .val (.int (3 : Int32)), .val (.int x0), .val (.int x1), .val (.int x2), .val (.int x3)] [])
  refine OwnGo.st (fun _ k => XS.aloadN X0.here hx rfl (hb hby d7_18) rfl rfl  k) ?_
  show OwnGo p e below s _ _ _ s₁ (mkF m 19 #[.val (.ref a), .val (.int (3 : Int32)), .val (.int x0), .val (.int x1), .val (.int x2), .val (.int x3)] [(.ref a)])
  refine OwnGo.st (fun _ k => XS.iconst X0.here hx rfl (hb hby d7_19) k) ?_
  show OwnGo p e below s _ _ _ s₁ (mkF m 20 #[.val (.ref a), .val (.int (3 : Int32)), .val (.int x0), .val (.int x1), .val (.int x2), .val (.int x3)] [(.int (0 : Int32)), (.ref a)])
  obtain ⟨cl46, Ar46, -, S46, -, H46, -⟩ := id V
  have hin46 : ¬ ((0 : Int32) < 0 ∨ cl46.slots.size ≤ ((0 : Int32)).toNatClampNeg) := inb_of S46 ⟨by decide, by decide⟩
  refine OwnGo.st (fun _ k => X0.baloadBytes hx (j := (0 : Int32)) (v := (.int x0)) (by rw [e0]; exact Ar46.1) (State.isArrayOf_alike hZ.alike Ar46.2.1) Ar46.2.2 hin46 (H46.at hin46 rfl) (g := (mkF m 20 #[.val (.ref a), .val (.int (3 : Int32)), .val (.int x0), .val (.int x1), .val (.int x2), .val (.int x3)] [(.int (0 : Int32)), (.ref a)])) rfl rfl (hb hby d7_20) _ k) ?_
  show OwnGo p e below s _ _ _ s₁ (mkF m 21 #[.val (.ref a), .val (.int (3 : Int32)), .val (.int x0), .val (.int x1), .val (.int x2), .val (.int x3)] [(.int x0)])
  refine OwnGo.st (fun _ k => XS.iloadN X0.here hx rfl (hb hby d7_21) rfl  k) ?_
  show OwnGo p e below s _ _ _ s₁ (mkF m 22 #[.val (.ref a), .val (.int (3 : Int32)), .val (.int x0), .val (.int x1), .val (.int x2), .val (.int x3)] [(.int x0), (.int x0)])
  refine OwnGo.st (fun _ k => XS.icmpYes X0.here hx rfl (pc0 := 22) (pc' := 27) rfl (hb hby d7_22) rfl (teq (rfl : x0 = x0)).1 (by decide) (by decide) k) ?_
  show OwnGo p e below s _ _ _ s₁ (mkF m 27 #[.val (.ref a), .val (.int (3 : Int32)), .val (.int x0), .val (.int x1), .val (.int x2), .val (.int x3)] [])
  refine OwnGo.st (fun _ k => XS.iloadN X0.here hx rfl (hb hby d7_27) rfl  k) ?_
  show OwnGo p e below s _ _ _ s₁ (mkF m 28 #[.val (.ref a), .val (.int (3 : Int32)), .val (.int x0), .val (.int x1), .val (.int x2), .val (.int x3)] [(.int (3 : Int32))])
  refine OwnGo.st (fun _ k => XS.iconst X0.here hx rfl (hb hby d7_28) k) ?_
  show OwnGo p e below s _ _ _ s₁ (mkF m 29 #[.val (.ref a), .val (.int (3 : Int32)), .val (.int x0), .val (.int x1), .val (.int x2), .val (.int x3)] [(.int (1 : Int32)), (.int (3 : Int32))])
  refine OwnGo.st (fun _ k => XS.icmpNo X0.here hx rfl (hb hby d7_29) rfl (tlt ((by decide) : (1 : Int32) < (3 : Int32))).2.2.2 k) ?_
  show OwnGo p e below s _ _ _ s₁ (mkF m 32 #[.val (.ref a), .val (.int (3 : Int32)), .val (.int x0), .val (.int x1), .val (.int x2), .val (.int x3)] [])
  refine OwnGo.st (fun _ k => XS.aloadN X0.here hx rfl (hb hby d7_32) rfl rfl  k) ?_
  show OwnGo p e below s _ _ _ s₁ (mkF m 33 #[.val (.ref a), .val (.int (3 : Int32)), .val (.int x0), .val (.int x1), .val (.int x2), .val (.int x3)] [(.ref a)])
  refine OwnGo.st (fun _ k => XS.iconst X0.here hx rfl (hb hby d7_33) k) ?_
  show OwnGo p e below s _ _ _ s₁ (mkF m 34 #[.val (.ref a), .val (.int (3 : Int32)), .val (.int x0), .val (.int x1), .val (.int x2), .val (.int x3)] [(.int (1 : Int32)), (.ref a)])
  obtain ⟨cl47, Ar47, -, S47, -, H47, -⟩ := id V
  have hin47 : ¬ ((1 : Int32) < 0 ∨ cl47.slots.size ≤ ((1 : Int32)).toNatClampNeg) := inb_of S47 ⟨by decide, by decide⟩
  refine OwnGo.st (fun _ k => X0.baloadBytes hx (j := (1 : Int32)) (v := (.int x1)) (by rw [e0]; exact Ar47.1) (State.isArrayOf_alike hZ.alike Ar47.2.1) Ar47.2.2 hin47 (H47.at hin47 rfl) (g := (mkF m 34 #[.val (.ref a), .val (.int (3 : Int32)), .val (.int x0), .val (.int x1), .val (.int x2), .val (.int x3)] [(.int (1 : Int32)), (.ref a)])) rfl rfl (hb hby d7_34) _ k) ?_
  show OwnGo p e below s _ _ _ s₁ (mkF m 35 #[.val (.ref a), .val (.int (3 : Int32)), .val (.int x0), .val (.int x1), .val (.int x2), .val (.int x3)] [(.int x1)])
  refine OwnGo.st (fun _ k => XS.iloadN X0.here hx rfl (hb hby d7_35) rfl  k) ?_
  show OwnGo p e below s _ _ _ s₁ (mkF m 36 #[.val (.ref a), .val (.int (3 : Int32)), .val (.int x0), .val (.int x1), .val (.int x2), .val (.int x3)] [(.int x1), (.int x1)])
  refine OwnGo.st (fun _ k => XS.icmpYes X0.here hx rfl (pc0 := 36) (pc' := 41) rfl (hb hby d7_36) rfl (teq (rfl : x1 = x1)).1 (by decide) (by decide) k) ?_
  show OwnGo p e below s _ _ _ s₁ (mkF m 41 #[.val (.ref a), .val (.int (3 : Int32)), .val (.int x0), .val (.int x1), .val (.int x2), .val (.int x3)] [])
  refine OwnGo.st (fun _ k => XS.iloadN X0.here hx rfl (hb hby d7_41) rfl  k) ?_
  show OwnGo p e below s _ _ _ s₁ (mkF m 42 #[.val (.ref a), .val (.int (3 : Int32)), .val (.int x0), .val (.int x1), .val (.int x2), .val (.int x3)] [(.int (3 : Int32))])
  refine OwnGo.st (fun _ k => XS.iconst X0.here hx rfl (hb hby d7_42) k) ?_
  show OwnGo p e below s _ _ _ s₁ (mkF m 43 #[.val (.ref a), .val (.int (3 : Int32)), .val (.int x0), .val (.int x1), .val (.int x2), .val (.int x3)] [(.int (2 : Int32)), (.int (3 : Int32))])
  refine OwnGo.st (fun _ k => XS.icmpNo X0.here hx rfl (hb hby d7_43) rfl (tlt ((by decide) : (2 : Int32) < (3 : Int32))).2.2.2 k) ?_
  show OwnGo p e below s _ _ _ s₁ (mkF m 46 #[.val (.ref a), .val (.int (3 : Int32)), .val (.int x0), .val (.int x1), .val (.int x2), .val (.int x3)] [])
  refine OwnGo.st (fun _ k => XS.aloadN X0.here hx rfl (hb hby d7_46) rfl rfl  k) ?_
  show OwnGo p e below s _ _ _ s₁ (mkF m 47 #[.val (.ref a), .val (.int (3 : Int32)), .val (.int x0), .val (.int x1), .val (.int x2), .val (.int x3)] [(.ref a)])
  refine OwnGo.st (fun _ k => XS.iconst X0.here hx rfl (hb hby d7_47) k) ?_
  show OwnGo p e below s _ _ _ s₁ (mkF m 48 #[.val (.ref a), .val (.int (3 : Int32)), .val (.int x0), .val (.int x1), .val (.int x2), .val (.int x3)] [(.int (2 : Int32)), (.ref a)])
  obtain ⟨cl48, Ar48, -, S48, -, H48, -⟩ := id V
  have hin48 : ¬ ((2 : Int32) < 0 ∨ cl48.slots.size ≤ ((2 : Int32)).toNatClampNeg) := inb_of S48 ⟨by decide, by decide⟩
  refine OwnGo.st (fun _ k => X0.baloadBytes hx (j := (2 : Int32)) (v := (.int x2)) (by rw [e0]; exact Ar48.1) (State.isArrayOf_alike hZ.alike Ar48.2.1) Ar48.2.2 hin48 (H48.at hin48 rfl) (g := (mkF m 48 #[.val (.ref a), .val (.int (3 : Int32)), .val (.int x0), .val (.int x1), .val (.int x2), .val (.int x3)] [(.int (2 : Int32)), (.ref a)])) rfl rfl (hb hby d7_48) _ k) ?_
  show OwnGo p e below s _ _ _ s₁ (mkF m 49 #[.val (.ref a), .val (.int (3 : Int32)), .val (.int x0), .val (.int x1), .val (.int x2), .val (.int x3)] [(.int x2)])
  refine OwnGo.st (fun _ k => XS.iload X0.here hx rfl (hb hby d7_49) rfl  k) ?_
  show OwnGo p e below s _ _ _ s₁ (mkF m 51 #[.val (.ref a), .val (.int (3 : Int32)), .val (.int x0), .val (.int x1), .val (.int x2), .val (.int x3)] [(.int x2), (.int x2)])
  refine OwnGo.st (fun _ k => XS.icmpYes X0.here hx rfl (pc0 := 51) (pc' := 56) rfl (hb hby d7_51) rfl (teq (rfl : x2 = x2)).1 (by decide) (by decide) k) ?_
  show OwnGo p e below s _ _ _ s₁ (mkF m 56 #[.val (.ref a), .val (.int (3 : Int32)), .val (.int x0), .val (.int x1), .val (.int x2), .val (.int x3)] [])
  refine OwnGo.st (fun _ k => XS.iloadN X0.here hx rfl (hb hby d7_56) rfl  k) ?_
  show OwnGo p e below s _ _ _ s₁ (mkF m 57 #[.val (.ref a), .val (.int (3 : Int32)), .val (.int x0), .val (.int x1), .val (.int x2), .val (.int x3)] [(.int (3 : Int32))])
  refine OwnGo.st (fun _ k => XS.iconst X0.here hx rfl (hb hby d7_57) k) ?_
  show OwnGo p e below s _ _ _ s₁ (mkF m 58 #[.val (.ref a), .val (.int (3 : Int32)), .val (.int x0), .val (.int x1), .val (.int x2), .val (.int x3)] [(.int (3 : Int32)), (.int (3 : Int32))])
  refine OwnGo.st (fun _ k => XS.icmpYes X0.here hx rfl (pc0 := 58) (pc' := 71) rfl (hb hby d7_58) rfl (flt ((by decide) : ¬ ((3 : Int32) < (3 : Int32)))).2.2.2 (by decide) (by decide) k) ?_
  show OwnGo p e below s _ _ _ s₁ (mkF m 71 #[.val (.ref a), .val (.int (3 : Int32)), .val (.int x0), .val (.int x1), .val (.int x2), .val (.int x3)] [])
  refine OwnGo.st (fun _ k => XS.iconst X0.here hx rfl (hb hby d7_71) k) ?_
  show OwnGo p e below s _ _ _ s₁ (mkF m 72 #[.val (.ref a), .val (.int (3 : Int32)), .val (.int x0), .val (.int x1), .val (.int x2), .val (.int x3)] [(.int (1 : Int32))])
  exact OwnGo.retN X0 hx (t := .boolean) hret hlk (by simp) (hb hby d7_72) (by show Qsa3 Z a kc x0 x1 x2 x3 h0 n0 _ s₁.heap _; rw [e0]; exact ⟨rfl, N0, rfl⟩) (by decide) (by decide)
def Qmk4 (Z : State) (x0 : Int32) (x1 : Int32) (x2 : Int32) (x3 : Int32) (h0 : Heap) (n0 : Nat) (v : Option Value) (h : Heap) (L : List Loc) : Prop := ∃ (a : Addr) (kc : ClassId), v = some (.ref a) ∧ Fr n0 L ∧ Keep h0 h [] ∧ Arv Z h a kc .byte (4 : Int32) [(.int x0), (.int x1), (.int x2), (.int x3)] (.int (0 : Int32)) ∧ Exa Z h a "[B" ∧ h0.size ≤ a
set_option maxRecDepth 65536 in
set_option maxHeartbeats 40000000 in
theorem rmmk4 (l : Launch) (Z : State) (a0 : Array Value) (hw : ∀ d ∈ tables_1, d.before a0 Z = true) (ws : List Jvm.Cond) (x0 : Int32) (x1 : Int32) (x2 : Int32) (x3 : Int32) (h0 : Heap) (n0 : Nat) (Z0 : n0 ≤ h0.size) (hx0 : nar .byte x0 = x0) (hx1 : nar .byte x1 = x1) (hx2 : nar .byte x2 = x2) (hx3 : nar .byte x3 = x3) :
    MetFree l (⟨"com/example/thorough_factfind/thoroughfactfind/foundation/db/EventDataPinLaw", "make", "(IBBBB)[B"⟩ : MethodName) (head1 (Jvm.Cond.code (⟨"com/example/thorough_factfind/thoroughfactfind/foundation/db/EventDataPinLaw", "make", "(IBBBB)[B"⟩ : MethodName) method_2_code 5 (some (.array .byte)) :: ws) ({ frames := 0, cells := 1, slots := 4, locals := 0 } : Room)) (fun as_ UU => as_ = #[(.int (4 : Int32)), (.int x0), (.int x1), (.int x2), (.int x3)] ∧ Z.Warmed39 UU.vm ∧ UU.heap = h0) (fun _ _ _ _ _ => True) (fun _ UU oo UU' => ∃ vv LL, oo = .returned vv ∧ (Qmk4 Z x0 x1 x2 x3 h0 n0) vv UU'.heap LL ∧ FrameEnd UU oo UU' LL ({ frames := 0, cells := 1, slots := 4, locals := 0 } : Room).cells ({ frames := 0, cells := 1, slots := 4, locals := 0 } : Room).slots) := by
  refine own_met (plainFor_of_name pn_1) ?_
  intro p e s m below meth c s₁ X0 hx hby hml hret hlk hown hnm hZ e0
  have N0 := Fr.nil n0
  have Z_ := Z0
  refine OwnGo.cast (ef_mk4 m (4 : Int32) x0 x1 x2 x3) ?_
  show OwnGo p e below s _ _ _ s₁ (mkF m 0 #[.val (.int (4 : Int32)), .val (.int x0), .val (.int x1), .val (.int x2), .val (.int x3)] [])
  have Kp : Keep h0 h0 [] := Keep.refl h0 []
  refine OwnGo.st (fun _ k => XS.iloadN X0.here hx rfl (hb hby d1_0) rfl  k) ?_
  show OwnGo p e below s _ _ _ s₁ (mkF m 1 #[.val (.int (4 : Int32)), .val (.int x0), .val (.int x1), .val (.int x2), .val (.int x3)] [(.int (4 : Int32))])
  refine OwnGo.st (fun _ k => XS.ifYes X0.here hx rfl (pc0 := 1) (pc' := 8) rfl (hb hby d1_1) rfl ((if0 _ _).trans (feq ((by decide) : ¬ ((4 : Int32) = (0 : Int32)))).2) (by decide) (by decide) k) ?_
  show OwnGo p e below s _ _ _ s₁ (mkF m 8 #[.val (.int (4 : Int32)), .val (.int x0), .val (.int x1), .val (.int x2), .val (.int x3)] [])
  refine OwnGo.st (fun _ k => XS.iloadN X0.here hx rfl (hb hby d1_8) rfl  k) ?_
  show OwnGo p e below s _ _ _ s₁ (mkF m 9 #[.val (.int (4 : Int32)), .val (.int x0), .val (.int x1), .val (.int x2), .val (.int x3)] [(.int (4 : Int32))])
  refine OwnGo.st (fun _ k => XS.iconst X0.here hx rfl (hb hby d1_9) k) ?_
  show OwnGo p e below s _ _ _ s₁ (mkF m 10 #[.val (.int (4 : Int32)), .val (.int x0), .val (.int x1), .val (.int x2), .val (.int x3)] [(.int (1 : Int32)), (.int (4 : Int32))])
  refine OwnGo.st (fun _ k => XS.icmpYes X0.here hx rfl (pc0 := 10) (pc' := 21) rfl (hb hby d1_10) rfl (feq ((by decide) : ¬ ((4 : Int32) = (1 : Int32)))).2 (by decide) (by decide) k) ?_
  show OwnGo p e below s _ _ _ s₁ (mkF m 21 #[.val (.int (4 : Int32)), .val (.int x0), .val (.int x1), .val (.int x2), .val (.int x3)] [])
  refine OwnGo.st (fun _ k => XS.iloadN X0.here hx rfl (hb hby d1_21) rfl  k) ?_
  show OwnGo p e below s _ _ _ s₁ (mkF m 22 #[.val (.int (4 : Int32)), .val (.int x0), .val (.int x1), .val (.int x2), .val (.int x3)] [(.int (4 : Int32))])
  refine OwnGo.st (fun _ k => XS.iconst X0.here hx rfl (hb hby d1_22) k) ?_
  show OwnGo p e below s _ _ _ s₁ (mkF m 23 #[.val (.int (4 : Int32)), .val (.int x0), .val (.int x1), .val (.int x2), .val (.int x3)] [(.int (2 : Int32)), (.int (4 : Int32))])
  refine OwnGo.st (fun _ k => XS.icmpYes X0.here hx rfl (pc0 := 23) (pc' := 38) rfl (hb hby d1_23) rfl (feq ((by decide) : ¬ ((4 : Int32) = (2 : Int32)))).2 (by decide) (by decide) k) ?_
  show OwnGo p e below s _ _ _ s₁ (mkF m 38 #[.val (.int (4 : Int32)), .val (.int x0), .val (.int x1), .val (.int x2), .val (.int x3)] [])
  refine OwnGo.st (fun _ k => XS.iloadN X0.here hx rfl (hb hby d1_38) rfl  k) ?_
  show OwnGo p e below s _ _ _ s₁ (mkF m 39 #[.val (.int (4 : Int32)), .val (.int x0), .val (.int x1), .val (.int x2), .val (.int x3)] [(.int (4 : Int32))])
  refine OwnGo.st (fun _ k => XS.iconst X0.here hx rfl (hb hby d1_39) k) ?_
  show OwnGo p e below s _ _ _ s₁ (mkF m 40 #[.val (.int (4 : Int32)), .val (.int x0), .val (.int x1), .val (.int x2), .val (.int x3)] [(.int (3 : Int32)), (.int (4 : Int32))])
  refine OwnGo.st (fun _ k => XS.icmpYes X0.here hx rfl (pc0 := 40) (pc' := 59) rfl (hb hby d1_40) rfl (feq ((by decide) : ¬ ((4 : Int32) = (3 : Int32)))).2 (by decide) (by decide) k) ?_
  show OwnGo p e below s _ _ _ s₁ (mkF m 59 #[.val (.int (4 : Int32)), .val (.int x0), .val (.int x1), .val (.int x2), .val (.int x3)] [])
  refine OwnGo.st (fun _ k => XS.iconst X0.here hx rfl (hb hby d1_59) k) ?_
  show OwnGo p e below s _ _ _ s₁ (mkF m 60 #[.val (.int (4 : Int32)), .val (.int x0), .val (.int x1), .val (.int x2), .val (.int x3)] [(.int (4 : Int32))])
  obtain ⟨T49, h49, k49, X49, e49, E49, A49, Ex49, st49⟩ := newPE X0 hx hZ (hw _ (List.mem_of_getElem? (i := 5) rfl)) e0 (g := (mkF m 60 #[.val (.int (4 : Int32)), .val (.int x0), .val (.int x1), .val (.int x2), .val (.int x3)] [(.int (4 : Int32))])) rfl (hb hby d1_60) rfl (by decide) (cap := 4) (by decide) (by decide) (by decide) (by decide) (ad := "[B") (by decide)
  obtain ⟨b49, g49⟩ : ∃ z, z = h0.size := ⟨_, rfl⟩
  rw [← g49] at A49 Ex49 st49
  have g_b49 : n0 ≤ b49 := Nat.le_trans Z_ (Nat.le_of_eq g49.symm)
  have sz_b49 : h0.size ≤ b49 := Nat.le_trans Kp.1 (Nat.le_of_eq g49.symm)
  have Kp := Kp.ext E49
  have Z_ : n0 ≤ h49.size := Nat.le_trans Z_ E49.1
  have V_b49 : Arv Z h49 b49 k49 .byte (4 : Int32) [(.int (0 : Int32)), (.int (0 : Int32)), (.int (0 : Int32)), (.int (0 : Int32))] (.int (0 : Int32)) := (Arv.new A49 (by decide)).pad (pad_rep [] (.int (0 : Int32)) 4)
  have E_b49 := Ex49
  refine OwnGo.st st49 ?_
  show OwnGo p e below s _ _ _ T49 (mkF m 62 #[.val (.int (4 : Int32)), .val (.int x0), .val (.int x1), .val (.int x2), .val (.int x3)] [(.ref b49)])
  refine OwnGo.st (fun _ k => XS.dup X49.here hx rfl (hb hby d1_62) rfl rfl k) ?_
  show OwnGo p e below s _ _ _ T49 (mkF m 63 #[.val (.int (4 : Int32)), .val (.int x0), .val (.int x1), .val (.int x2), .val (.int x3)] [(.ref b49), (.ref b49)])
  refine OwnGo.st (fun _ k => XS.iconst X49.here hx rfl (hb hby d1_63) k) ?_
  show OwnGo p e below s _ _ _ T49 (mkF m 64 #[.val (.int (4 : Int32)), .val (.int x0), .val (.int x1), .val (.int x2), .val (.int x3)] [(.int (0 : Int32)), (.ref b49), (.ref b49)])
  refine OwnGo.st (fun _ k => XS.iloadN X49.here hx rfl (hb hby d1_64) rfl  k) ?_
  show OwnGo p e below s _ _ _ T49 (mkF m 65 #[.val (.int (4 : Int32)), .val (.int x0), .val (.int x1), .val (.int x2), .val (.int x3)] [(.int x0), (.int (0 : Int32)), (.ref b49), (.ref b49)])
  obtain ⟨cl50, Ar50, q50, S50, N50, H50, G50⟩ := id V_b49
  have hin50 : ¬ ((0 : Int32) < 0 ∨ cl50.slots.size ≤ ((0 : Int32)).toNatClampNeg) := inb_of S50 ⟨by decide, by decide⟩
  obtain ⟨T50, h50, X50, e50, W50, st50⟩ := stB X49 hx hZ e49 Ar50 (j := (0 : Int32)) hin50 (g := (mkF m 65 #[.val (.int (4 : Int32)), .val (.int x0), .val (.int x1), .val (.int x2), .val (.int x3)] [(.int x0), (.int (0 : Int32)), (.ref b49), (.ref b49)])) rfl rfl (hb hby d1_65)
  have V_b49 : Arv Z h50 b49 k49 .byte (4 : Int32) [(.int (nar .byte x0)), (.int (0 : Int32)), (.int (0 : Int32)), (.int (0 : Int32))] (.int (0 : Int32)) := Arv.set Ar50 q50 S50 N50 H50 G50 (fits_nar_byte _) W50 0 rfl (Nat.le_of_ble_eq_true rfl)
  rw [show nar .byte x0 = x0 from hx0] at V_b49
  have E_b49 := E_b49.wr W50
  have Kp := Kp.wr W50 (Or.inr sz_b49)
  have N50 := Fr.snoc X50 N0 g_b49
  have Z_ : n0 ≤ h50.size := by rw [W50.size]; exact Z_
  refine OwnGo.st st50 ?_
  show OwnGo p e below s _ _ _ T50 (mkF m 66 #[.val (.int (4 : Int32)), .val (.int x0), .val (.int x1), .val (.int x2), .val (.int x3)] [(.ref b49)])
  refine OwnGo.st (fun _ k => XS.dup X50.here hx rfl (hb hby d1_66) rfl rfl k) ?_
  show OwnGo p e below s _ _ _ T50 (mkF m 67 #[.val (.int (4 : Int32)), .val (.int x0), .val (.int x1), .val (.int x2), .val (.int x3)] [(.ref b49), (.ref b49)])
  refine OwnGo.st (fun _ k => XS.iconst X50.here hx rfl (hb hby d1_67) k) ?_
  show OwnGo p e below s _ _ _ T50 (mkF m 68 #[.val (.int (4 : Int32)), .val (.int x0), .val (.int x1), .val (.int x2), .val (.int x3)] [(.int (1 : Int32)), (.ref b49), (.ref b49)])
  refine OwnGo.st (fun _ k => XS.iloadN X50.here hx rfl (hb hby d1_68) rfl  k) ?_
  show OwnGo p e below s _ _ _ T50 (mkF m 69 #[.val (.int (4 : Int32)), .val (.int x0), .val (.int x1), .val (.int x2), .val (.int x3)] [(.int x1), (.int (1 : Int32)), (.ref b49), (.ref b49)])
  obtain ⟨cl51, Ar51, q51, S51, N51, H51, G51⟩ := id V_b49
  have hin51 : ¬ ((1 : Int32) < 0 ∨ cl51.slots.size ≤ ((1 : Int32)).toNatClampNeg) := inb_of S51 ⟨by decide, by decide⟩
  obtain ⟨T51, h51, X51, e51, W51, st51⟩ := stB X50 hx hZ e50 Ar51 (j := (1 : Int32)) hin51 (g := (mkF m 69 #[.val (.int (4 : Int32)), .val (.int x0), .val (.int x1), .val (.int x2), .val (.int x3)] [(.int x1), (.int (1 : Int32)), (.ref b49), (.ref b49)])) rfl rfl (hb hby d1_69)
  have V_b49 : Arv Z h51 b49 k49 .byte (4 : Int32) [(.int x0), (.int (nar .byte x1)), (.int (0 : Int32)), (.int (0 : Int32))] (.int (0 : Int32)) := Arv.set Ar51 q51 S51 N51 H51 G51 (fits_nar_byte _) W51 1 rfl (Nat.le_of_ble_eq_true rfl)
  rw [show nar .byte x1 = x1 from hx1] at V_b49
  have E_b49 := E_b49.wr W51
  have Kp := Kp.wr W51 (Or.inr sz_b49)
  have N51 := Fr.snoc X51 N50 g_b49
  have Z_ : n0 ≤ h51.size := by rw [W51.size]; exact Z_
  refine OwnGo.st st51 ?_
  show OwnGo p e below s _ _ _ T51 (mkF m 70 #[.val (.int (4 : Int32)), .val (.int x0), .val (.int x1), .val (.int x2), .val (.int x3)] [(.ref b49)])
  refine OwnGo.st (fun _ k => XS.dup X51.here hx rfl (hb hby d1_70) rfl rfl k) ?_
  show OwnGo p e below s _ _ _ T51 (mkF m 71 #[.val (.int (4 : Int32)), .val (.int x0), .val (.int x1), .val (.int x2), .val (.int x3)] [(.ref b49), (.ref b49)])
  refine OwnGo.st (fun _ k => XS.iconst X51.here hx rfl (hb hby d1_71) k) ?_
  show OwnGo p e below s _ _ _ T51 (mkF m 72 #[.val (.int (4 : Int32)), .val (.int x0), .val (.int x1), .val (.int x2), .val (.int x3)] [(.int (2 : Int32)), (.ref b49), (.ref b49)])
  refine OwnGo.st (fun _ k => XS.iloadN X51.here hx rfl (hb hby d1_72) rfl  k) ?_
  show OwnGo p e below s _ _ _ T51 (mkF m 73 #[.val (.int (4 : Int32)), .val (.int x0), .val (.int x1), .val (.int x2), .val (.int x3)] [(.int x2), (.int (2 : Int32)), (.ref b49), (.ref b49)])
  obtain ⟨cl52, Ar52, q52, S52, N52, H52, G52⟩ := id V_b49
  have hin52 : ¬ ((2 : Int32) < 0 ∨ cl52.slots.size ≤ ((2 : Int32)).toNatClampNeg) := inb_of S52 ⟨by decide, by decide⟩
  obtain ⟨T52, h52, X52, e52, W52, st52⟩ := stB X51 hx hZ e51 Ar52 (j := (2 : Int32)) hin52 (g := (mkF m 73 #[.val (.int (4 : Int32)), .val (.int x0), .val (.int x1), .val (.int x2), .val (.int x3)] [(.int x2), (.int (2 : Int32)), (.ref b49), (.ref b49)])) rfl rfl (hb hby d1_73)
  have V_b49 : Arv Z h52 b49 k49 .byte (4 : Int32) [(.int x0), (.int x1), (.int (nar .byte x2)), (.int (0 : Int32))] (.int (0 : Int32)) := Arv.set Ar52 q52 S52 N52 H52 G52 (fits_nar_byte _) W52 2 rfl (Nat.le_of_ble_eq_true rfl)
  rw [show nar .byte x2 = x2 from hx2] at V_b49
  have E_b49 := E_b49.wr W52
  have Kp := Kp.wr W52 (Or.inr sz_b49)
  have N52 := Fr.snoc X52 N51 g_b49
  have Z_ : n0 ≤ h52.size := by rw [W52.size]; exact Z_
  refine OwnGo.st st52 ?_
  show OwnGo p e below s _ _ _ T52 (mkF m 74 #[.val (.int (4 : Int32)), .val (.int x0), .val (.int x1), .val (.int x2), .val (.int x3)] [(.ref b49)])
  refine OwnGo.st (fun _ k => XS.dup X52.here hx rfl (hb hby d1_74) rfl rfl k) ?_
  show OwnGo p e below s _ _ _ T52 (mkF m 75 #[.val (.int (4 : Int32)), .val (.int x0), .val (.int x1), .val (.int x2), .val (.int x3)] [(.ref b49), (.ref b49)])
  refine OwnGo.st (fun _ k => XS.iconst X52.here hx rfl (hb hby d1_75) k) ?_
  show OwnGo p e below s _ _ _ T52 (mkF m 76 #[.val (.int (4 : Int32)), .val (.int x0), .val (.int x1), .val (.int x2), .val (.int x3)] [(.int (3 : Int32)), (.ref b49), (.ref b49)])
  refine OwnGo.st (fun _ k => XS.iload X52.here hx rfl (hb hby d1_76) rfl  k) ?_
  show OwnGo p e below s _ _ _ T52 (mkF m 78 #[.val (.int (4 : Int32)), .val (.int x0), .val (.int x1), .val (.int x2), .val (.int x3)] [(.int x3), (.int (3 : Int32)), (.ref b49), (.ref b49)])
  obtain ⟨cl53, Ar53, q53, S53, N53, H53, G53⟩ := id V_b49
  have hin53 : ¬ ((3 : Int32) < 0 ∨ cl53.slots.size ≤ ((3 : Int32)).toNatClampNeg) := inb_of S53 ⟨by decide, by decide⟩
  obtain ⟨T53, h53, X53, e53, W53, st53⟩ := stB X52 hx hZ e52 Ar53 (j := (3 : Int32)) hin53 (g := (mkF m 78 #[.val (.int (4 : Int32)), .val (.int x0), .val (.int x1), .val (.int x2), .val (.int x3)] [(.int x3), (.int (3 : Int32)), (.ref b49), (.ref b49)])) rfl rfl (hb hby d1_78)
  have V_b49 : Arv Z h53 b49 k49 .byte (4 : Int32) [(.int x0), (.int x1), (.int x2), (.int (nar .byte x3))] (.int (0 : Int32)) := Arv.set Ar53 q53 S53 N53 H53 G53 (fits_nar_byte _) W53 3 rfl (Nat.le_of_ble_eq_true rfl)
  rw [show nar .byte x3 = x3 from hx3] at V_b49
  have E_b49 := E_b49.wr W53
  have Kp := Kp.wr W53 (Or.inr sz_b49)
  have N53 := Fr.snoc X53 N52 g_b49
  have Z_ : n0 ≤ h53.size := by rw [W53.size]; exact Z_
  refine OwnGo.st st53 ?_
  show OwnGo p e below s _ _ _ T53 (mkF m 79 #[.val (.int (4 : Int32)), .val (.int x0), .val (.int x1), .val (.int x2), .val (.int x3)] [(.ref b49)])
  exact OwnGo.ret X53 hx hret hlk rfl (Or.inr (Or.inr (Or.inr (Or.inr ⟨rfl, rfl, rfl⟩)))) (hb hby d1_79) (by show Qmk4 Z x0 x1 x2 x3 h0 n0 _ T53.heap _; rw [e53]; exact ⟨b49, k49, rfl, N53, Kp, V_b49, E_b49, sz_b49⟩) (by decide) (by decide)
def Qbu4 (Z : State) (a : Addr) (kc : ClassId) (b0 : Int32) (b1 : Int32) (b2 : Int32) (b3 : Int32) (h0 : Heap) (n0 : Nat) (v : Option Value) (h : Heap) (L : List Loc) : Prop := v = none ∧ Fr n0 L ∧ Keep h0 h [a]
set_option maxRecDepth 65536 in
set_option maxHeartbeats 40000000 in
theorem rmbu4 (l : Launch) (Z : State) (a0 : Array Value) (hw : ∀ d ∈ tables_1, d.before a0 Z = true) (ws : List Jvm.Cond) (a : Addr) (kc : ClassId) (b0 : Int32) (b1 : Int32) (b2 : Int32) (b3 : Int32) (h0 : Heap) (n0 : Nat) (Z0 : n0 ≤ h0.size) (V : Arv Z h0 a kc .byte (4 : Int32) [(.int b0), (.int b1), (.int b2), (.int b3)] (.int (0 : Int32))) (g_a : n0 ≤ a) :
    MetFree l (⟨"com/example/thorough_factfind/thoroughfactfind/foundation/db/EventDataPinLaw", "bump", "([B)V"⟩ : MethodName) (head1 (Jvm.Cond.code (⟨"com/example/thorough_factfind/thoroughfactfind/foundation/db/EventDataPinLaw", "bump", "([B)V"⟩ : MethodName) method_3_code 1 none :: ws) ({ frames := 0, cells := 0, slots := 0, locals := 0 } : Room)) (fun as_ UU => as_ = #[(.ref a)] ∧ Z.Warmed39 UU.vm ∧ UU.heap = h0) (fun _ _ _ _ _ => True) (fun _ UU oo UU' => ∃ vv LL, oo = .returned vv ∧ (Qbu4 Z a kc b0 b1 b2 b3 h0 n0) vv UU'.heap LL ∧ FrameEnd UU oo UU' LL ({ frames := 0, cells := 0, slots := 0, locals := 0 } : Room).cells ({ frames := 0, cells := 0, slots := 0, locals := 0 } : Room).slots) := by
  refine own_met (plainFor_of_name pn_1) ?_
  intro p e s m below meth c s₁ X0 hx hby hml hret hlk hown hnm hZ e0
  have N0 := Fr.nil n0
  have Z_ := Z0
  refine OwnGo.cast (ef_bu4 m a) ?_
  show OwnGo p e below s _ _ _ s₁ (mkF m 0 #[.val (.ref a)] [])
  have Kp : Keep h0 h0 [a] := Keep.refl h0 [a]
  refine OwnGo.st (fun _ k => XS.aloadN X0.here hx rfl (hb hby d5_0) rfl rfl  k) ?_
  show OwnGo p e below s _ _ _ s₁ (mkF m 1 #[.val (.ref a)] [(.ref a)])
  obtain ⟨cl54, Ar54, -, S54, N54, -, -⟩ := id V
  refine OwnGo.st (fun _ k => own_len hZ (len_of S54 N54) Ar54 X0 e0 hx (g := (mkF m 1 #[.val (.ref a)] [(.ref a)])) rfl rfl (hb hby d5_1) _ k) ?_
  show OwnGo p e below s _ _ _ s₁ (mkF m 2 #[.val (.ref a)] [(.int (4 : Int32))])
  refine OwnGo.st (fun _ k => XS.ifNo X0.here hx rfl (hb hby d5_2) rfl ((if0 _ _).trans (tlt ((by decide) : (0 : Int32) < (4 : Int32))).2.2.2) k) ?_
  show OwnGo p e below s _ _ _ s₁ (mkF m 5 #[.val (.ref a)] [])
  refine OwnGo.st (fun _ k => XS.aloadN X0.here hx rfl (hb hby d5_5) rfl rfl  k) ?_
  show OwnGo p e below s _ _ _ s₁ (mkF m 6 #[.val (.ref a)] [(.ref a)])
  refine OwnGo.st (fun _ k => XS.iconst X0.here hx rfl (hb hby d5_6) k) ?_
  show OwnGo p e below s _ _ _ s₁ (mkF m 7 #[.val (.ref a)] [(.int (0 : Int32)), (.ref a)])
  refine OwnGo.st (fun _ k => XS.aloadN X0.here hx rfl (hb hby d5_7) rfl rfl  k) ?_
  show OwnGo p e below s _ _ _ s₁ (mkF m 8 #[.val (.ref a)] [(.ref a), (.int (0 : Int32)), (.ref a)])
  refine OwnGo.st (fun _ k => XS.iconst X0.here hx rfl (hb hby d5_8) k) ?_
  show OwnGo p e below s _ _ _ s₁ (mkF m 9 #[.val (.ref a)] [(.int (0 : Int32)), (.ref a), (.int (0 : Int32)), (.ref a)])
  obtain ⟨cl55, Ar55, -, S55, -, H55, -⟩ := id V
  have hin55 : ¬ ((0 : Int32) < 0 ∨ cl55.slots.size ≤ ((0 : Int32)).toNatClampNeg) := inb_of S55 ⟨by decide, by decide⟩
  refine OwnGo.st (fun _ k => X0.baloadBytes hx (j := (0 : Int32)) (v := (.int b0)) (by rw [e0]; exact Ar55.1) (State.isArrayOf_alike hZ.alike Ar55.2.1) Ar55.2.2 hin55 (H55.at hin55 rfl) (g := (mkF m 9 #[.val (.ref a)] [(.int (0 : Int32)), (.ref a), (.int (0 : Int32)), (.ref a)])) rfl rfl (hb hby d5_9) _ k) ?_
  show OwnGo p e below s _ _ _ s₁ (mkF m 10 #[.val (.ref a)] [(.int b0), (.int (0 : Int32)), (.ref a)])
  refine OwnGo.st (fun _ k => XS.iconst X0.here hx rfl (hb hby d5_10) k) ?_
  show OwnGo p e below s _ _ _ s₁ (mkF m 11 #[.val (.ref a)] [(.int (1 : Int32)), (.int b0), (.int (0 : Int32)), (.ref a)])
  refine OwnGo.st (fun _ k => XS.iadd X0.here hx rfl (hb hby d5_11) rfl k) ?_
  show OwnGo p e below s _ _ _ s₁ (mkF m 12 #[.val (.ref a)] [(.int (b0 + (1 : Int32))), (.int (0 : Int32)), (.ref a)])
  refine OwnGo.st (fun _ k => XS.i2b X0.here hx rfl (hb hby d5_12) rfl k) ?_
  show OwnGo p e below s _ _ _ s₁ (mkF m 13 #[.val (.ref a)] [(.int ((b0 + (1 : Int32)).toInt8.toInt32)), (.int (0 : Int32)), (.ref a)])
  obtain ⟨cl56, Ar56, q56, S56, N56, H56, G56⟩ := id V
  have hin56 : ¬ ((0 : Int32) < 0 ∨ cl56.slots.size ≤ ((0 : Int32)).toNatClampNeg) := inb_of S56 ⟨by decide, by decide⟩
  obtain ⟨T56, h56, X56, e56, W56, st56⟩ := stB X0 hx hZ e0 Ar56 (j := (0 : Int32)) hin56 (g := (mkF m 13 #[.val (.ref a)] [(.int ((b0 + (1 : Int32)).toInt8.toInt32)), (.int (0 : Int32)), (.ref a)])) rfl rfl (hb hby d5_13)
  have V : Arv Z h56 a kc .byte (4 : Int32) [(.int (nar .byte ((b0 + (1 : Int32)).toInt8.toInt32))), (.int b1), (.int b2), (.int b3)] (.int (0 : Int32)) := Arv.set Ar56 q56 S56 N56 H56 G56 (fits_nar_byte _) W56 0 rfl (Nat.le_of_ble_eq_true rfl)
  rw [show nar .byte ((b0 + (1 : Int32)).toInt8.toInt32) = ((b0 + (1 : Int32)).toInt8.toInt32) from own_nb _] at V
  have Kp := Kp.wr W56 (Or.inl (List.mem_of_getElem? (i := 0) rfl))
  have N56 := Fr.snoc X56 N0 g_a
  have Z_ : n0 ≤ h56.size := by rw [W56.size]; exact Z_
  refine OwnGo.st st56 ?_
  show OwnGo p e below s _ _ _ T56 (mkF m 14 #[.val (.ref a)] [])
  refine OwnGo.st (fun _ k => XS.aloadN X56.here hx rfl (hb hby d5_14) rfl rfl  k) ?_
  show OwnGo p e below s _ _ _ T56 (mkF m 15 #[.val (.ref a)] [(.ref a)])
  obtain ⟨cl57, Ar57, -, S57, N57, -, -⟩ := id V
  refine OwnGo.st (fun _ k => own_len hZ (len_of S57 N57) Ar57 X56 e56 hx (g := (mkF m 15 #[.val (.ref a)] [(.ref a)])) rfl rfl (hb hby d5_15) _ k) ?_
  show OwnGo p e below s _ _ _ T56 (mkF m 16 #[.val (.ref a)] [(.int (4 : Int32))])
  refine OwnGo.st (fun _ k => XS.iconst X56.here hx rfl (hb hby d5_16) k) ?_
  show OwnGo p e below s _ _ _ T56 (mkF m 17 #[.val (.ref a)] [(.int (1 : Int32)), (.int (4 : Int32))])
  refine OwnGo.st (fun _ k => XS.icmpNo X56.here hx rfl (hb hby d5_17) rfl (tlt ((by decide) : (1 : Int32) < (4 : Int32))).2.2.2 k) ?_
  show OwnGo p e below s _ _ _ T56 (mkF m 20 #[.val (.ref a)] [])
  refine OwnGo.st (fun _ k => XS.aloadN X56.here hx rfl (hb hby d5_20) rfl rfl  k) ?_
  show OwnGo p e below s _ _ _ T56 (mkF m 21 #[.val (.ref a)] [(.ref a)])
  refine OwnGo.st (fun _ k => XS.iconst X56.here hx rfl (hb hby d5_21) k) ?_
  show OwnGo p e below s _ _ _ T56 (mkF m 22 #[.val (.ref a)] [(.int (1 : Int32)), (.ref a)])
  refine OwnGo.st (fun _ k => XS.aloadN X56.here hx rfl (hb hby d5_22) rfl rfl  k) ?_
  show OwnGo p e below s _ _ _ T56 (mkF m 23 #[.val (.ref a)] [(.ref a), (.int (1 : Int32)), (.ref a)])
  refine OwnGo.st (fun _ k => XS.iconst X56.here hx rfl (hb hby d5_23) k) ?_
  show OwnGo p e below s _ _ _ T56 (mkF m 24 #[.val (.ref a)] [(.int (1 : Int32)), (.ref a), (.int (1 : Int32)), (.ref a)])
  obtain ⟨cl58, Ar58, -, S58, -, H58, -⟩ := id V
  have hin58 : ¬ ((1 : Int32) < 0 ∨ cl58.slots.size ≤ ((1 : Int32)).toNatClampNeg) := inb_of S58 ⟨by decide, by decide⟩
  refine OwnGo.st (fun _ k => X56.baloadBytes hx (j := (1 : Int32)) (v := (.int b1)) (by rw [e56]; exact Ar58.1) (State.isArrayOf_alike hZ.alike Ar58.2.1) Ar58.2.2 hin58 (H58.at hin58 rfl) (g := (mkF m 24 #[.val (.ref a)] [(.int (1 : Int32)), (.ref a), (.int (1 : Int32)), (.ref a)])) rfl rfl (hb hby d5_24) _ k) ?_
  show OwnGo p e below s _ _ _ T56 (mkF m 25 #[.val (.ref a)] [(.int b1), (.int (1 : Int32)), (.ref a)])
  refine OwnGo.st (fun _ k => XS.iconst X56.here hx rfl (hb hby d5_25) k) ?_
  show OwnGo p e below s _ _ _ T56 (mkF m 26 #[.val (.ref a)] [(.int (1 : Int32)), (.int b1), (.int (1 : Int32)), (.ref a)])
  refine OwnGo.st (fun _ k => XS.iadd X56.here hx rfl (hb hby d5_26) rfl k) ?_
  show OwnGo p e below s _ _ _ T56 (mkF m 27 #[.val (.ref a)] [(.int (b1 + (1 : Int32))), (.int (1 : Int32)), (.ref a)])
  refine OwnGo.st (fun _ k => XS.i2b X56.here hx rfl (hb hby d5_27) rfl k) ?_
  show OwnGo p e below s _ _ _ T56 (mkF m 28 #[.val (.ref a)] [(.int ((b1 + (1 : Int32)).toInt8.toInt32)), (.int (1 : Int32)), (.ref a)])
  obtain ⟨cl59, Ar59, q59, S59, N59, H59, G59⟩ := id V
  have hin59 : ¬ ((1 : Int32) < 0 ∨ cl59.slots.size ≤ ((1 : Int32)).toNatClampNeg) := inb_of S59 ⟨by decide, by decide⟩
  obtain ⟨T59, h59, X59, e59, W59, st59⟩ := stB X56 hx hZ e56 Ar59 (j := (1 : Int32)) hin59 (g := (mkF m 28 #[.val (.ref a)] [(.int ((b1 + (1 : Int32)).toInt8.toInt32)), (.int (1 : Int32)), (.ref a)])) rfl rfl (hb hby d5_28)
  have V : Arv Z h59 a kc .byte (4 : Int32) [(.int ((b0 + (1 : Int32)).toInt8.toInt32)), (.int (nar .byte ((b1 + (1 : Int32)).toInt8.toInt32))), (.int b2), (.int b3)] (.int (0 : Int32)) := Arv.set Ar59 q59 S59 N59 H59 G59 (fits_nar_byte _) W59 1 rfl (Nat.le_of_ble_eq_true rfl)
  rw [show nar .byte ((b1 + (1 : Int32)).toInt8.toInt32) = ((b1 + (1 : Int32)).toInt8.toInt32) from own_nb _] at V
  have Kp := Kp.wr W59 (Or.inl (List.mem_of_getElem? (i := 0) rfl))
  have N59 := Fr.snoc X59 N56 g_a
  have Z_ : n0 ≤ h59.size := by rw [W59.size]; exact Z_
  refine OwnGo.st st59 ?_
  show OwnGo p e below s _ _ _ T59 (mkF m 29 #[.val (.ref a)] [])
  refine OwnGo.st (fun _ k => XS.aloadN X59.here hx rfl (hb hby d5_29) rfl rfl  k) ?_
  show OwnGo p e below s _ _ _ T59 (mkF m 30 #[.val (.ref a)] [(.ref a)])
  obtain ⟨cl60, Ar60, -, S60, N60, -, -⟩ := id V
  refine OwnGo.st (fun _ k => own_len hZ (len_of S60 N60) Ar60 X59 e59 hx (g := (mkF m 30 #[.val (.ref a)] [(.ref a)])) rfl rfl (hb hby d5_30) _ k) ?_
  show OwnGo p e below s _ _ _ T59 (mkF m 31 #[.val (.ref a)] [(.int (4 : Int32))])
  refine OwnGo.st (fun _ k => XS.iconst X59.here hx rfl (hb hby d5_31) k) ?_
  show OwnGo p e below s _ _ _ T59 (mkF m 32 #[.val (.ref a)] [(.int (2 : Int32)), (.int (4 : Int32))])
  refine OwnGo.st (fun _ k => XS.icmpNo X59.here hx rfl (hb hby d5_32) rfl (tlt ((by decide) : (2 : Int32) < (4 : Int32))).2.2.2 k) ?_
  show OwnGo p e below s _ _ _ T59 (mkF m 35 #[.val (.ref a)] [])
  refine OwnGo.st (fun _ k => XS.aloadN X59.here hx rfl (hb hby d5_35) rfl rfl  k) ?_
  show OwnGo p e below s _ _ _ T59 (mkF m 36 #[.val (.ref a)] [(.ref a)])
  refine OwnGo.st (fun _ k => XS.iconst X59.here hx rfl (hb hby d5_36) k) ?_
  show OwnGo p e below s _ _ _ T59 (mkF m 37 #[.val (.ref a)] [(.int (2 : Int32)), (.ref a)])
  refine OwnGo.st (fun _ k => XS.aloadN X59.here hx rfl (hb hby d5_37) rfl rfl  k) ?_
  show OwnGo p e below s _ _ _ T59 (mkF m 38 #[.val (.ref a)] [(.ref a), (.int (2 : Int32)), (.ref a)])
  refine OwnGo.st (fun _ k => XS.iconst X59.here hx rfl (hb hby d5_38) k) ?_
  show OwnGo p e below s _ _ _ T59 (mkF m 39 #[.val (.ref a)] [(.int (2 : Int32)), (.ref a), (.int (2 : Int32)), (.ref a)])
  obtain ⟨cl61, Ar61, -, S61, -, H61, -⟩ := id V
  have hin61 : ¬ ((2 : Int32) < 0 ∨ cl61.slots.size ≤ ((2 : Int32)).toNatClampNeg) := inb_of S61 ⟨by decide, by decide⟩
  refine OwnGo.st (fun _ k => X59.baloadBytes hx (j := (2 : Int32)) (v := (.int b2)) (by rw [e59]; exact Ar61.1) (State.isArrayOf_alike hZ.alike Ar61.2.1) Ar61.2.2 hin61 (H61.at hin61 rfl) (g := (mkF m 39 #[.val (.ref a)] [(.int (2 : Int32)), (.ref a), (.int (2 : Int32)), (.ref a)])) rfl rfl (hb hby d5_39) _ k) ?_
  show OwnGo p e below s _ _ _ T59 (mkF m 40 #[.val (.ref a)] [(.int b2), (.int (2 : Int32)), (.ref a)])
  refine OwnGo.st (fun _ k => XS.iconst X59.here hx rfl (hb hby d5_40) k) ?_
  show OwnGo p e below s _ _ _ T59 (mkF m 41 #[.val (.ref a)] [(.int (1 : Int32)), (.int b2), (.int (2 : Int32)), (.ref a)])
  refine OwnGo.st (fun _ k => XS.iadd X59.here hx rfl (hb hby d5_41) rfl k) ?_
  show OwnGo p e below s _ _ _ T59 (mkF m 42 #[.val (.ref a)] [(.int (b2 + (1 : Int32))), (.int (2 : Int32)), (.ref a)])
  refine OwnGo.st (fun _ k => XS.i2b X59.here hx rfl (hb hby d5_42) rfl k) ?_
  show OwnGo p e below s _ _ _ T59 (mkF m 43 #[.val (.ref a)] [(.int ((b2 + (1 : Int32)).toInt8.toInt32)), (.int (2 : Int32)), (.ref a)])
  obtain ⟨cl62, Ar62, q62, S62, N62, H62, G62⟩ := id V
  have hin62 : ¬ ((2 : Int32) < 0 ∨ cl62.slots.size ≤ ((2 : Int32)).toNatClampNeg) := inb_of S62 ⟨by decide, by decide⟩
  obtain ⟨T62, h62, X62, e62, W62, st62⟩ := stB X59 hx hZ e59 Ar62 (j := (2 : Int32)) hin62 (g := (mkF m 43 #[.val (.ref a)] [(.int ((b2 + (1 : Int32)).toInt8.toInt32)), (.int (2 : Int32)), (.ref a)])) rfl rfl (hb hby d5_43)
  have V : Arv Z h62 a kc .byte (4 : Int32) [(.int ((b0 + (1 : Int32)).toInt8.toInt32)), (.int ((b1 + (1 : Int32)).toInt8.toInt32)), (.int (nar .byte ((b2 + (1 : Int32)).toInt8.toInt32))), (.int b3)] (.int (0 : Int32)) := Arv.set Ar62 q62 S62 N62 H62 G62 (fits_nar_byte _) W62 2 rfl (Nat.le_of_ble_eq_true rfl)
  rw [show nar .byte ((b2 + (1 : Int32)).toInt8.toInt32) = ((b2 + (1 : Int32)).toInt8.toInt32) from own_nb _] at V
  have Kp := Kp.wr W62 (Or.inl (List.mem_of_getElem? (i := 0) rfl))
  have N62 := Fr.snoc X62 N59 g_a
  have Z_ : n0 ≤ h62.size := by rw [W62.size]; exact Z_
  refine OwnGo.st st62 ?_
  show OwnGo p e below s _ _ _ T62 (mkF m 44 #[.val (.ref a)] [])
  refine OwnGo.st (fun _ k => XS.aloadN X62.here hx rfl (hb hby d5_44) rfl rfl  k) ?_
  show OwnGo p e below s _ _ _ T62 (mkF m 45 #[.val (.ref a)] [(.ref a)])
  obtain ⟨cl63, Ar63, -, S63, N63, -, -⟩ := id V
  refine OwnGo.st (fun _ k => own_len hZ (len_of S63 N63) Ar63 X62 e62 hx (g := (mkF m 45 #[.val (.ref a)] [(.ref a)])) rfl rfl (hb hby d5_45) _ k) ?_
  show OwnGo p e below s _ _ _ T62 (mkF m 46 #[.val (.ref a)] [(.int (4 : Int32))])
  refine OwnGo.st (fun _ k => XS.iconst X62.here hx rfl (hb hby d5_46) k) ?_
  show OwnGo p e below s _ _ _ T62 (mkF m 47 #[.val (.ref a)] [(.int (3 : Int32)), (.int (4 : Int32))])
  refine OwnGo.st (fun _ k => XS.icmpNo X62.here hx rfl (hb hby d5_47) rfl (tlt ((by decide) : (3 : Int32) < (4 : Int32))).2.2.2 k) ?_
  show OwnGo p e below s _ _ _ T62 (mkF m 50 #[.val (.ref a)] [])
  refine OwnGo.st (fun _ k => XS.aloadN X62.here hx rfl (hb hby d5_50) rfl rfl  k) ?_
  show OwnGo p e below s _ _ _ T62 (mkF m 51 #[.val (.ref a)] [(.ref a)])
  refine OwnGo.st (fun _ k => XS.iconst X62.here hx rfl (hb hby d5_51) k) ?_
  show OwnGo p e below s _ _ _ T62 (mkF m 52 #[.val (.ref a)] [(.int (3 : Int32)), (.ref a)])
  refine OwnGo.st (fun _ k => XS.aloadN X62.here hx rfl (hb hby d5_52) rfl rfl  k) ?_
  show OwnGo p e below s _ _ _ T62 (mkF m 53 #[.val (.ref a)] [(.ref a), (.int (3 : Int32)), (.ref a)])
  refine OwnGo.st (fun _ k => XS.iconst X62.here hx rfl (hb hby d5_53) k) ?_
  show OwnGo p e below s _ _ _ T62 (mkF m 54 #[.val (.ref a)] [(.int (3 : Int32)), (.ref a), (.int (3 : Int32)), (.ref a)])
  obtain ⟨cl64, Ar64, -, S64, -, H64, -⟩ := id V
  have hin64 : ¬ ((3 : Int32) < 0 ∨ cl64.slots.size ≤ ((3 : Int32)).toNatClampNeg) := inb_of S64 ⟨by decide, by decide⟩
  refine OwnGo.st (fun _ k => X62.baloadBytes hx (j := (3 : Int32)) (v := (.int b3)) (by rw [e62]; exact Ar64.1) (State.isArrayOf_alike hZ.alike Ar64.2.1) Ar64.2.2 hin64 (H64.at hin64 rfl) (g := (mkF m 54 #[.val (.ref a)] [(.int (3 : Int32)), (.ref a), (.int (3 : Int32)), (.ref a)])) rfl rfl (hb hby d5_54) _ k) ?_
  show OwnGo p e below s _ _ _ T62 (mkF m 55 #[.val (.ref a)] [(.int b3), (.int (3 : Int32)), (.ref a)])
  refine OwnGo.st (fun _ k => XS.iconst X62.here hx rfl (hb hby d5_55) k) ?_
  show OwnGo p e below s _ _ _ T62 (mkF m 56 #[.val (.ref a)] [(.int (1 : Int32)), (.int b3), (.int (3 : Int32)), (.ref a)])
  refine OwnGo.st (fun _ k => XS.iadd X62.here hx rfl (hb hby d5_56) rfl k) ?_
  show OwnGo p e below s _ _ _ T62 (mkF m 57 #[.val (.ref a)] [(.int (b3 + (1 : Int32))), (.int (3 : Int32)), (.ref a)])
  refine OwnGo.st (fun _ k => XS.i2b X62.here hx rfl (hb hby d5_57) rfl k) ?_
  show OwnGo p e below s _ _ _ T62 (mkF m 58 #[.val (.ref a)] [(.int ((b3 + (1 : Int32)).toInt8.toInt32)), (.int (3 : Int32)), (.ref a)])
  obtain ⟨cl65, Ar65, q65, S65, N65, H65, G65⟩ := id V
  have hin65 : ¬ ((3 : Int32) < 0 ∨ cl65.slots.size ≤ ((3 : Int32)).toNatClampNeg) := inb_of S65 ⟨by decide, by decide⟩
  obtain ⟨T65, h65, X65, e65, W65, st65⟩ := stB X62 hx hZ e62 Ar65 (j := (3 : Int32)) hin65 (g := (mkF m 58 #[.val (.ref a)] [(.int ((b3 + (1 : Int32)).toInt8.toInt32)), (.int (3 : Int32)), (.ref a)])) rfl rfl (hb hby d5_58)
  have V : Arv Z h65 a kc .byte (4 : Int32) [(.int ((b0 + (1 : Int32)).toInt8.toInt32)), (.int ((b1 + (1 : Int32)).toInt8.toInt32)), (.int ((b2 + (1 : Int32)).toInt8.toInt32)), (.int (nar .byte ((b3 + (1 : Int32)).toInt8.toInt32)))] (.int (0 : Int32)) := Arv.set Ar65 q65 S65 N65 H65 G65 (fits_nar_byte _) W65 3 rfl (Nat.le_of_ble_eq_true rfl)
  rw [show nar .byte ((b3 + (1 : Int32)).toInt8.toInt32) = ((b3 + (1 : Int32)).toInt8.toInt32) from own_nb _] at V
  have Kp := Kp.wr W65 (Or.inl (List.mem_of_getElem? (i := 0) rfl))
  have N65 := Fr.snoc X65 N62 g_a
  have Z_ : n0 ≤ h65.size := by rw [W65.size]; exact Z_
  refine OwnGo.st st65 ?_
  show OwnGo p e below s _ _ _ T65 (mkF m 59 #[.val (.ref a)] [])
  exact OwnGo.retV X65 hx hret hlk (hb hby d5_59) (by show Qbu4 Z a kc b0 b1 b2 b3 h0 n0 _ T65.heap _; rw [e65]; exact ⟨rfl, N65, Kp⟩) (by decide) (by decide)
def Qsa4 (Z : State) (a : Addr) (kc : ClassId) (x0 : Int32) (x1 : Int32) (x2 : Int32) (x3 : Int32) (h0 : Heap) (n0 : Nat) (v : Option Value) (h : Heap) (L : List Loc) : Prop := v = some (.int (1 : Int32)) ∧ Fr n0 L ∧ h = h0
set_option maxRecDepth 65536 in
set_option maxHeartbeats 40000000 in
theorem rmsa4 (l : Launch) (Z : State) (a0 : Array Value) (hw : ∀ d ∈ tables_1, d.before a0 Z = true) (ws : List Jvm.Cond) (a : Addr) (kc : ClassId) (x0 : Int32) (x1 : Int32) (x2 : Int32) (x3 : Int32) (h0 : Heap) (n0 : Nat) (Z0 : n0 ≤ h0.size) (V : Arv Z h0 a kc .byte (4 : Int32) [(.int x0), (.int x1), (.int x2), (.int x3)] (.int (0 : Int32))) :
    MetFree l (⟨"com/example/thorough_factfind/thoroughfactfind/foundation/db/EventDataPinLaw", "same", "([BIBBBB)Z"⟩ : MethodName) (head1 (Jvm.Cond.code (⟨"com/example/thorough_factfind/thoroughfactfind/foundation/db/EventDataPinLaw", "same", "([BIBBBB)Z"⟩ : MethodName) method_4_code 6 (some .boolean) :: ws) ({ frames := 0, cells := 0, slots := 0, locals := 0 } : Room)) (fun as_ UU => as_ = #[(.ref a), (.int (4 : Int32)), (.int x0), (.int x1), (.int x2), (.int x3)] ∧ Z.Warmed39 UU.vm ∧ UU.heap = h0) (fun _ _ _ _ _ => True) (fun _ UU oo UU' => ∃ vv LL, oo = .returned vv ∧ (Qsa4 Z a kc x0 x1 x2 x3 h0 n0) vv UU'.heap LL ∧ FrameEnd UU oo UU' LL ({ frames := 0, cells := 0, slots := 0, locals := 0 } : Room).cells ({ frames := 0, cells := 0, slots := 0, locals := 0 } : Room).slots) := by
  refine own_met (plainFor_of_name pn_1) ?_
  intro p e s m below meth c s₁ X0 hx hby hml hret hlk hown hnm hZ e0
  have N0 := Fr.nil n0
  have Z_ := Z0
  refine OwnGo.cast (ef_sa4 m a (4 : Int32) x0 x1 x2 x3) ?_
  show OwnGo p e below s _ _ _ s₁ (mkF m 0 #[.val (.ref a), .val (.int (4 : Int32)), .val (.int x0), .val (.int x1), .val (.int x2), .val (.int x3)] [])
  refine OwnGo.st (fun _ k => XS.aloadN X0.here hx rfl (hb hby d7_0) rfl rfl  k) ?_
  show OwnGo p e below s _ _ _ s₁ (mkF m 1 #[.val (.ref a), .val (.int (4 : Int32)), .val (.int x0), .val (.int x1), .val (.int x2), .val (.int x3)] [(.ref a)])
  refine OwnGo.st (fun _ k => XS.ifnonnullYes X0.here hx rfl (pc0 := 1) (pc' := 6) rfl (hb hby d7_1) rfl (by decide) (by decide) k) ?_
  show OwnGo p e below s _ _ _ s₁ (mkF m 6 #[.val (.ref a), .val (.int (4 : Int32)), .val (.int x0), .val (.int x1), .val (.int x2), .val (.int x3)] [])
  refine OwnGo.st (fun _ k => XS.aloadN X0.here hx rfl (hb hby d7_6) rfl rfl  k) ?_
  show OwnGo p e below s _ _ _ s₁ (mkF m 7 #[.val (.ref a), .val (.int (4 : Int32)), .val (.int x0), .val (.int x1), .val (.int x2), .val (.int x3)] [(.ref a)])
  obtain ⟨cl66, Ar66, -, S66, N66, -, -⟩ := id V
  refine OwnGo.st (fun _ k => own_len hZ (len_of S66 N66) Ar66 X0 e0 hx (g := (mkF m 7 #[.val (.ref a), .val (.int (4 : Int32)), .val (.int x0), .val (.int x1), .val (.int x2), .val (.int x3)] [(.ref a)])) rfl rfl (hb hby d7_7) _ k) ?_
  show OwnGo p e below s _ _ _ s₁ (mkF m 8 #[.val (.ref a), .val (.int (4 : Int32)), .val (.int x0), .val (.int x1), .val (.int x2), .val (.int x3)] [(.int (4 : Int32))])
  refine OwnGo.st (fun _ k => XS.iloadN X0.here hx rfl (hb hby d7_8) rfl  k) ?_
  show OwnGo p e below s _ _ _ s₁ (mkF m 9 #[.val (.ref a), .val (.int (4 : Int32)), .val (.int x0), .val (.int x1), .val (.int x2), .val (.int x3)] [(.int (4 : Int32)), (.int (4 : Int32))])
  refine OwnGo.st (fun _ k => XS.icmpYes X0.here hx rfl (pc0 := 9) (pc' := 14) rfl (hb hby d7_9) rfl (teq (rfl : (4 : Int32) = (4 : Int32))).1 (by decide) (by decide) k) ?_
  show OwnGo p e below s _ _ _ s₁ (mkF m 14 #[.val (.ref a), .val (.int (4 : Int32)), .val (.int x0), .val (.int x1), .val (.int x2), .val (.int x3)] [])
  refine OwnGo.st (fun _ k => XS.iloadN X0.here hx rfl (hb hby d7_14) rfl  k) ?_
  show OwnGo p e below s _ _ _ s₁ (mkF m 15 #[.val (.ref a), .val (.int (4 : Int32)), .val (.int x0), .val (.int x1), .val (.int x2), .val (.int x3)] [(.int (4 : Int32))])
  refine OwnGo.st (fun _ k => XS.ifNo X0.here hx rfl (hb hby d7_15) rfl ((if0 _ _).trans (tlt ((by decide) : (0 : Int32) < (4 : Int32))).2.2.2) k) ?_
  show OwnGo p e below s _ _ _ s₁ (mkF m 18 #[.val (.ref a), .val (.int (4 : Int32)), .val (.int x0), .val (.int x1), .val (.int x2), .val (.int x3)] [])
  refine OwnGo.st (fun _ k => XS.aloadN X0.here hx rfl (hb hby d7_18) rfl rfl  k) ?_
  show OwnGo p e below s _ _ _ s₁ (mkF m 19 #[.val (.ref a), .val (.int (4 : Int32)), .val (.int x0), .val (.int x1), .val (.int x2), .val (.int x3)] [(.ref a)])
  refine OwnGo.st (fun _ k => XS.iconst X0.here hx rfl (hb hby d7_19) k) ?_
  show OwnGo p e below s _ _ _ s₁ (mkF m 20 #[.val (.ref a), .val (.int (4 : Int32)), .val (.int x0), .val (.int x1), .val (.int x2), .val (.int x3)] [(.int (0 : Int32)), (.ref a)])
  obtain ⟨cl67, Ar67, -, S67, -, H67, -⟩ := id V
  have hin67 : ¬ ((0 : Int32) < 0 ∨ cl67.slots.size ≤ ((0 : Int32)).toNatClampNeg) := inb_of S67 ⟨by decide, by decide⟩
  refine OwnGo.st (fun _ k => X0.baloadBytes hx (j := (0 : Int32)) (v := (.int x0)) (by rw [e0]; exact Ar67.1) (State.isArrayOf_alike hZ.alike Ar67.2.1) Ar67.2.2 hin67 (H67.at hin67 rfl) (g := (mkF m 20 #[.val (.ref a), .val (.int (4 : Int32)), .val (.int x0), .val (.int x1), .val (.int x2), .val (.int x3)] [(.int (0 : Int32)), (.ref a)])) rfl rfl (hb hby d7_20) _ k) ?_
  show OwnGo p e below s _ _ _ s₁ (mkF m 21 #[.val (.ref a), .val (.int (4 : Int32)), .val (.int x0), .val (.int x1), .val (.int x2), .val (.int x3)] [(.int x0)])
  refine OwnGo.st (fun _ k => XS.iloadN X0.here hx rfl (hb hby d7_21) rfl  k) ?_
  show OwnGo p e below s _ _ _ s₁ (mkF m 22 #[.val (.ref a), .val (.int (4 : Int32)), .val (.int x0), .val (.int x1), .val (.int x2), .val (.int x3)] [(.int x0), (.int x0)])
  refine OwnGo.st (fun _ k => XS.icmpYes X0.here hx rfl (pc0 := 22) (pc' := 27) rfl (hb hby d7_22) rfl (teq (rfl : x0 = x0)).1 (by decide) (by decide) k) ?_
  show OwnGo p e below s _ _ _ s₁ (mkF m 27 #[.val (.ref a), .val (.int (4 : Int32)), .val (.int x0), .val (.int x1), .val (.int x2), .val (.int x3)] [])
  refine OwnGo.st (fun _ k => XS.iloadN X0.here hx rfl (hb hby d7_27) rfl  k) ?_
  show OwnGo p e below s _ _ _ s₁ (mkF m 28 #[.val (.ref a), .val (.int (4 : Int32)), .val (.int x0), .val (.int x1), .val (.int x2), .val (.int x3)] [(.int (4 : Int32))])
  refine OwnGo.st (fun _ k => XS.iconst X0.here hx rfl (hb hby d7_28) k) ?_
  show OwnGo p e below s _ _ _ s₁ (mkF m 29 #[.val (.ref a), .val (.int (4 : Int32)), .val (.int x0), .val (.int x1), .val (.int x2), .val (.int x3)] [(.int (1 : Int32)), (.int (4 : Int32))])
  refine OwnGo.st (fun _ k => XS.icmpNo X0.here hx rfl (hb hby d7_29) rfl (tlt ((by decide) : (1 : Int32) < (4 : Int32))).2.2.2 k) ?_
  show OwnGo p e below s _ _ _ s₁ (mkF m 32 #[.val (.ref a), .val (.int (4 : Int32)), .val (.int x0), .val (.int x1), .val (.int x2), .val (.int x3)] [])
  refine OwnGo.st (fun _ k => XS.aloadN X0.here hx rfl (hb hby d7_32) rfl rfl  k) ?_
  show OwnGo p e below s _ _ _ s₁ (mkF m 33 #[.val (.ref a), .val (.int (4 : Int32)), .val (.int x0), .val (.int x1), .val (.int x2), .val (.int x3)] [(.ref a)])
  refine OwnGo.st (fun _ k => XS.iconst X0.here hx rfl (hb hby d7_33) k) ?_
  show OwnGo p e below s _ _ _ s₁ (mkF m 34 #[.val (.ref a), .val (.int (4 : Int32)), .val (.int x0), .val (.int x1), .val (.int x2), .val (.int x3)] [(.int (1 : Int32)), (.ref a)])
  obtain ⟨cl68, Ar68, -, S68, -, H68, -⟩ := id V
  have hin68 : ¬ ((1 : Int32) < 0 ∨ cl68.slots.size ≤ ((1 : Int32)).toNatClampNeg) := inb_of S68 ⟨by decide, by decide⟩
  refine OwnGo.st (fun _ k => X0.baloadBytes hx (j := (1 : Int32)) (v := (.int x1)) (by rw [e0]; exact Ar68.1) (State.isArrayOf_alike hZ.alike Ar68.2.1) Ar68.2.2 hin68 (H68.at hin68 rfl) (g := (mkF m 34 #[.val (.ref a), .val (.int (4 : Int32)), .val (.int x0), .val (.int x1), .val (.int x2), .val (.int x3)] [(.int (1 : Int32)), (.ref a)])) rfl rfl (hb hby d7_34) _ k) ?_
  show OwnGo p e below s _ _ _ s₁ (mkF m 35 #[.val (.ref a), .val (.int (4 : Int32)), .val (.int x0), .val (.int x1), .val (.int x2), .val (.int x3)] [(.int x1)])
  refine OwnGo.st (fun _ k => XS.iloadN X0.here hx rfl (hb hby d7_35) rfl  k) ?_
  show OwnGo p e below s _ _ _ s₁ (mkF m 36 #[.val (.ref a), .val (.int (4 : Int32)), .val (.int x0), .val (.int x1), .val (.int x2), .val (.int x3)] [(.int x1), (.int x1)])
  refine OwnGo.st (fun _ k => XS.icmpYes X0.here hx rfl (pc0 := 36) (pc' := 41) rfl (hb hby d7_36) rfl (teq (rfl : x1 = x1)).1 (by decide) (by decide) k) ?_
  show OwnGo p e below s _ _ _ s₁ (mkF m 41 #[.val (.ref a), .val (.int (4 : Int32)), .val (.int x0), .val (.int x1), .val (.int x2), .val (.int x3)] [])
  refine OwnGo.st (fun _ k => XS.iloadN X0.here hx rfl (hb hby d7_41) rfl  k) ?_
  show OwnGo p e below s _ _ _ s₁ (mkF m 42 #[.val (.ref a), .val (.int (4 : Int32)), .val (.int x0), .val (.int x1), .val (.int x2), .val (.int x3)] [(.int (4 : Int32))])
  refine OwnGo.st (fun _ k => XS.iconst X0.here hx rfl (hb hby d7_42) k) ?_
  show OwnGo p e below s _ _ _ s₁ (mkF m 43 #[.val (.ref a), .val (.int (4 : Int32)), .val (.int x0), .val (.int x1), .val (.int x2), .val (.int x3)] [(.int (2 : Int32)), (.int (4 : Int32))])
  refine OwnGo.st (fun _ k => XS.icmpNo X0.here hx rfl (hb hby d7_43) rfl (tlt ((by decide) : (2 : Int32) < (4 : Int32))).2.2.2 k) ?_
  show OwnGo p e below s _ _ _ s₁ (mkF m 46 #[.val (.ref a), .val (.int (4 : Int32)), .val (.int x0), .val (.int x1), .val (.int x2), .val (.int x3)] [])
  refine OwnGo.st (fun _ k => XS.aloadN X0.here hx rfl (hb hby d7_46) rfl rfl  k) ?_
  show OwnGo p e below s _ _ _ s₁ (mkF m 47 #[.val (.ref a), .val (.int (4 : Int32)), .val (.int x0), .val (.int x1), .val (.int x2), .val (.int x3)] [(.ref a)])
  refine OwnGo.st (fun _ k => XS.iconst X0.here hx rfl (hb hby d7_47) k) ?_
  show OwnGo p e below s _ _ _ s₁ (mkF m 48 #[.val (.ref a), .val (.int (4 : Int32)), .val (.int x0), .val (.int x1), .val (.int x2), .val (.int x3)] [(.int (2 : Int32)), (.ref a)])
  obtain ⟨cl69, Ar69, -, S69, -, H69, -⟩ := id V
  have hin69 : ¬ ((2 : Int32) < 0 ∨ cl69.slots.size ≤ ((2 : Int32)).toNatClampNeg) := inb_of S69 ⟨by decide, by decide⟩
  refine OwnGo.st (fun _ k => X0.baloadBytes hx (j := (2 : Int32)) (v := (.int x2)) (by rw [e0]; exact Ar69.1) (State.isArrayOf_alike hZ.alike Ar69.2.1) Ar69.2.2 hin69 (H69.at hin69 rfl) (g := (mkF m 48 #[.val (.ref a), .val (.int (4 : Int32)), .val (.int x0), .val (.int x1), .val (.int x2), .val (.int x3)] [(.int (2 : Int32)), (.ref a)])) rfl rfl (hb hby d7_48) _ k) ?_
  show OwnGo p e below s _ _ _ s₁ (mkF m 49 #[.val (.ref a), .val (.int (4 : Int32)), .val (.int x0), .val (.int x1), .val (.int x2), .val (.int x3)] [(.int x2)])
  refine OwnGo.st (fun _ k => XS.iload X0.here hx rfl (hb hby d7_49) rfl  k) ?_
  show OwnGo p e below s _ _ _ s₁ (mkF m 51 #[.val (.ref a), .val (.int (4 : Int32)), .val (.int x0), .val (.int x1), .val (.int x2), .val (.int x3)] [(.int x2), (.int x2)])
  refine OwnGo.st (fun _ k => XS.icmpYes X0.here hx rfl (pc0 := 51) (pc' := 56) rfl (hb hby d7_51) rfl (teq (rfl : x2 = x2)).1 (by decide) (by decide) k) ?_
  show OwnGo p e below s _ _ _ s₁ (mkF m 56 #[.val (.ref a), .val (.int (4 : Int32)), .val (.int x0), .val (.int x1), .val (.int x2), .val (.int x3)] [])
  refine OwnGo.st (fun _ k => XS.iloadN X0.here hx rfl (hb hby d7_56) rfl  k) ?_
  show OwnGo p e below s _ _ _ s₁ (mkF m 57 #[.val (.ref a), .val (.int (4 : Int32)), .val (.int x0), .val (.int x1), .val (.int x2), .val (.int x3)] [(.int (4 : Int32))])
  refine OwnGo.st (fun _ k => XS.iconst X0.here hx rfl (hb hby d7_57) k) ?_
  show OwnGo p e below s _ _ _ s₁ (mkF m 58 #[.val (.ref a), .val (.int (4 : Int32)), .val (.int x0), .val (.int x1), .val (.int x2), .val (.int x3)] [(.int (3 : Int32)), (.int (4 : Int32))])
  refine OwnGo.st (fun _ k => XS.icmpNo X0.here hx rfl (hb hby d7_58) rfl (tlt ((by decide) : (3 : Int32) < (4 : Int32))).2.2.2 k) ?_
  show OwnGo p e below s _ _ _ s₁ (mkF m 61 #[.val (.ref a), .val (.int (4 : Int32)), .val (.int x0), .val (.int x1), .val (.int x2), .val (.int x3)] [])
  refine OwnGo.st (fun _ k => XS.aloadN X0.here hx rfl (hb hby d7_61) rfl rfl  k) ?_
  show OwnGo p e below s _ _ _ s₁ (mkF m 62 #[.val (.ref a), .val (.int (4 : Int32)), .val (.int x0), .val (.int x1), .val (.int x2), .val (.int x3)] [(.ref a)])
  refine OwnGo.st (fun _ k => XS.iconst X0.here hx rfl (hb hby d7_62) k) ?_
  show OwnGo p e below s _ _ _ s₁ (mkF m 63 #[.val (.ref a), .val (.int (4 : Int32)), .val (.int x0), .val (.int x1), .val (.int x2), .val (.int x3)] [(.int (3 : Int32)), (.ref a)])
  obtain ⟨cl70, Ar70, -, S70, -, H70, -⟩ := id V
  have hin70 : ¬ ((3 : Int32) < 0 ∨ cl70.slots.size ≤ ((3 : Int32)).toNatClampNeg) := inb_of S70 ⟨by decide, by decide⟩
  refine OwnGo.st (fun _ k => X0.baloadBytes hx (j := (3 : Int32)) (v := (.int x3)) (by rw [e0]; exact Ar70.1) (State.isArrayOf_alike hZ.alike Ar70.2.1) Ar70.2.2 hin70 (H70.at hin70 rfl) (g := (mkF m 63 #[.val (.ref a), .val (.int (4 : Int32)), .val (.int x0), .val (.int x1), .val (.int x2), .val (.int x3)] [(.int (3 : Int32)), (.ref a)])) rfl rfl (hb hby d7_63) _ k) ?_
  show OwnGo p e below s _ _ _ s₁ (mkF m 64 #[.val (.ref a), .val (.int (4 : Int32)), .val (.int x0), .val (.int x1), .val (.int x2), .val (.int x3)] [(.int x3)])
  refine OwnGo.st (fun _ k => XS.iload X0.here hx rfl (hb hby d7_64) rfl  k) ?_
  show OwnGo p e below s _ _ _ s₁ (mkF m 66 #[.val (.ref a), .val (.int (4 : Int32)), .val (.int x0), .val (.int x1), .val (.int x2), .val (.int x3)] [(.int x3), (.int x3)])
  refine OwnGo.st (fun _ k => XS.icmpYes X0.here hx rfl (pc0 := 66) (pc' := 71) rfl (hb hby d7_66) rfl (teq (rfl : x3 = x3)).1 (by decide) (by decide) k) ?_
  show OwnGo p e below s _ _ _ s₁ (mkF m 71 #[.val (.ref a), .val (.int (4 : Int32)), .val (.int x0), .val (.int x1), .val (.int x2), .val (.int x3)] [])
  refine OwnGo.st (fun _ k => XS.iconst X0.here hx rfl (hb hby d7_71) k) ?_
  show OwnGo p e below s _ _ _ s₁ (mkF m 72 #[.val (.ref a), .val (.int (4 : Int32)), .val (.int x0), .val (.int x1), .val (.int x2), .val (.int x3)] [(.int (1 : Int32))])
  exact OwnGo.retN X0 hx (t := .boolean) hret hlk (by simp) (hb hby d7_72) (by show Qsa4 Z a kc x0 x1 x2 x3 h0 n0 _ s₁.heap _; rw [e0]; exact ⟨rfl, N0, rfl⟩) (by decide) (by decide)
def Qcpy (Z : State) (a : Addr) (kc : ClassId) (z : Int32) (vs : List Value) (h0 : Heap) (n0 : Nat) (v : Option Value) (h : Heap) (L : List Loc) : Prop := ∃ c : Addr, v = some (.ref c) ∧ Fr n0 L ∧ Keep h0 h [] ∧ Arv Z h c kc .byte z vs (.int (0 : Int32)) ∧ Exa Z h c "[B" ∧ h0.size ≤ c
set_option maxRecDepth 65536 in
set_option maxHeartbeats 40000000 in
theorem rmcpy (l : Launch) (Z : State) (a0 : Array Value) (hw : ∀ d ∈ tables_1, d.before a0 Z = true) (ws : List Jvm.Cond) (a : Addr) (kc : ClassId) (z : Int32) (vs : List Value) (h0 : Heap) (n0 : Nat) (Z0 : n0 ≤ h0.size) (V : Arv Z h0 a kc .byte z vs (.int (0 : Int32))) (E : Exa Z h0 a "[B") (hz : z.toNatClampNeg ≤ 4) :
    MetFree l (⟨"java/util/Arrays", "copyOf", "([BI)[B"⟩ : MethodName) (head1 (Jvm.Cond.code (⟨"java/util/Arrays", "copyOf", "([BI)[B"⟩ : MethodName) jdk_65_method_121_code 3 (some (.array .byte)) :: ws) ({ frames := 1, cells := 1, slots := 4, locals := 14 } : Room)) (fun as_ UU => as_ = #[(.ref a), (.int z)] ∧ Z.Warmed39 UU.vm ∧ UU.heap = h0) (fun _ _ _ _ _ => True) (fun _ UU oo UU' => ∃ vv LL, oo = .returned vv ∧ (Qcpy Z a kc z vs h0 n0) vv UU'.heap LL ∧ FrameEnd UU oo UU' LL ({ frames := 1, cells := 1, slots := 4, locals := 14 } : Room).cells ({ frames := 1, cells := 1, slots := 4, locals := 14 } : Room).slots) := by
  refine own_met (plainFor_of_name pn_4) ?_
  intro p e s m below meth c s₁ X0 hx hby hml hret hlk hown hnm hZ e0
  have N0 := Fr.nil n0
  have Z_ := Z0
  refine OwnGo.cast (ef_cpy m a z) ?_
  show OwnGo p e below s _ _ _ s₁ (mkF m 0 #[.val (.ref a), .val (.int z), .unset] [])
  have Kp : Keep h0 h0 [] := Keep.refl h0 []
  refine OwnGo.st (fun _ k => XS.iloadN X0.here hx rfl (hb hby d4_0) rfl  k) ?_
  show OwnGo p e below s _ _ _ s₁ (mkF m 1 #[.val (.ref a), .val (.int z), .unset] [(.int z)])
  refine OwnGo.st (fun _ k => XS.aloadN X0.here hx rfl (hb hby d4_1) rfl rfl  k) ?_
  show OwnGo p e below s _ _ _ s₁ (mkF m 2 #[.val (.ref a), .val (.int z), .unset] [(.ref a), (.int z)])
  obtain ⟨cl71, Ar71, -, S71, N71, -, -⟩ := id V
  refine OwnGo.st (fun _ k => own_len hZ (len_of S71 N71) Ar71 X0 e0 hx (g := (mkF m 2 #[.val (.ref a), .val (.int z), .unset] [(.ref a), (.int z)])) rfl rfl (hb hby d4_2) _ k) ?_
  show OwnGo p e below s _ _ _ s₁ (mkF m 3 #[.val (.ref a), .val (.int z), .unset] [(.int z), (.int z)])
  refine OwnGo.st (fun _ k => XS.icmpNo X0.here hx rfl (hb hby d4_3) rfl (teq (rfl : z = z)).2 k) ?_
  show OwnGo p e below s _ _ _ s₁ (mkF m 6 #[.val (.ref a), .val (.int z), .unset] [])
  refine OwnGo.st (fun _ k => XS.aloadN X0.here hx rfl (hb hby d4_6) rfl rfl  k) ?_
  show OwnGo p e below s _ _ _ s₁ (mkF m 7 #[.val (.ref a), .val (.int z), .unset] [(.ref a)])
  obtain ⟨T72, h72, X72, e72, E72, Vn72, Ex72, st72⟩ := cloneH X0 hx hZ hown (hw _ (List.mem_of_getElem? (i := 33) rfl)) (hw _ (List.mem_of_getElem? (i := 34) rfl)) (hw _ (List.mem_of_getElem? (i := 38) rfl)) (hw _ (List.mem_of_getElem? (i := 36) rfl)) (hw _ (List.mem_of_getElem? (i := 37) rfl)) (hw _ (List.mem_of_getElem? (i := 39) rfl)) e0 V.arh E (g := (mkF m 7 #[.val (.ref a), .val (.int z), .unset] [(.ref a)])) rfl (by rw [hml]; rfl) rfl (hb hby d4_7) (by decide) (W := 0) (by show 2 * 0 + _ ≤ _; exact Nat.le_of_eq rfl) (by decide) (cap := 4) hz (by decide) (by decide)
  obtain ⟨b72, g72⟩ : ∃ z, z = h0.size := ⟨_, rfl⟩
  rw [← g72] at Vn72 Ex72 st72
  have ne_a_b72 : a ≠ b72 := Nat.ne_of_lt (Nat.lt_of_lt_of_le V.lt (Nat.le_of_eq g72.symm))
  have g_b72 : n0 ≤ b72 := Nat.le_trans Z_ (Nat.le_of_eq g72.symm)
  have sz_b72 : h0.size ≤ b72 := Nat.le_trans Kp.1 (Nat.le_of_eq g72.symm)
  have V := V.ext E72
  have E := E.ext E72
  have Kp := Kp.ext E72
  have Z_ : n0 ≤ h72.size := Nat.le_trans Z_ E72.1
  have V_b72 : Arv Z h72 b72 kc .byte z vs (.int (0 : Int32)) := Vn72
  have E_b72 := Ex72
  refine OwnGo.st st72 ?_
  show OwnGo p e below s _ _ _ T72 (mkF m 10 #[.val (.ref a), .val (.int z), .unset] [(.ref b72)])
  obtain ⟨T73, X73, e73, st73⟩ := castY X72 hx hZ hown (hw _ (List.mem_of_getElem? (i := 40) rfl)) e72 (Ins.self E_b72) (g := (mkF m 10 #[.val (.ref a), .val (.int z), .unset] [(.ref b72)])) rfl rfl (hb hby d4_10)
  refine OwnGo.st st73 ?_
  show OwnGo p e below s _ _ _ T73 (mkF m 13 #[.val (.ref a), .val (.int z), .unset] [(.ref b72)])
  exact OwnGo.ret X73 hx hret hlk rfl (Or.inr (Or.inr (Or.inr (Or.inr ⟨rfl, rfl, rfl⟩)))) (hb hby d4_13) (by show Qcpy Z a kc z vs h0 n0 _ T73.heap _; rw [e73]; exact ⟨b72, rfl, N0, Kp, V_b72, E_b72, sz_b72⟩) (by decide) (by decide)
def Qini (Z : State) (o : Addr) (s1 : Addr) (idv : Int64) (s2 : Addr) (a : Addr) (kc : ClassId) (z : Int32) (vs : List Value) (h0 : Heap) (n0 : Nat) (v : Option Value) (h : Heap) (L : List Loc) : Prop := v = none ∧ Fr n0 L ∧ Keep h0 h [o] ∧ Exa Z h o "com/example/thorough_factfind/thoroughfactfind/foundation/db/Event" ∧ ∃ c : Addr, Fld Z h o "com/example/thorough_factfind/thoroughfactfind/foundation/db/Event" "_data" "[B" (.ref c) ∧ Arv Z h c kc .byte z vs (.int (0 : Int32)) ∧ Exa Z h c "[B" ∧ h0.size ≤ c
set_option maxRecDepth 65536 in
set_option maxHeartbeats 40000000 in
theorem rmini (l : Launch) (Z : State) (a0 : Array Value) (hw : ∀ d ∈ tables_1, d.before a0 Z = true) (ws : List Jvm.Cond) (o : Addr) (s1 : Addr) (idv : Int64) (s2 : Addr) (a : Addr) (kc : ClassId) (z : Int32) (vs : List Value) (h0 : Heap) (n0 : Nat) (Z0 : n0 ≤ h0.size) (E_o : Exa Z h0 o "com/example/thorough_factfind/thoroughfactfind/foundation/db/Event") (g_o : n0 ≤ o) (ne_a_o : a ≠ o) (F_type_o : Fld Z h0 o "com/example/thorough_factfind/thoroughfactfind/foundation/db/Event" "_type" "Ljava/lang/String;" .null) (F_clientId_o : Fld Z h0 o "com/example/thorough_factfind/thoroughfactfind/foundation/db/Event" "_clientId" "J" (.long (0 : Int64))) (F_subject_o : Fld Z h0 o "com/example/thorough_factfind/thoroughfactfind/foundation/db/Event" "_subject" "Ljava/lang/String;" .null) (F_data_o : Fld Z h0 o "com/example/thorough_factfind/thoroughfactfind/foundation/db/Event" "_data" "[B" .null) (V : Arv Z h0 a kc .byte z vs (.int (0 : Int32))) (E : Exa Z h0 a "[B") (hz : z.toNatClampNeg ≤ 4) :
    MetFree l (⟨"com/example/thorough_factfind/thoroughfactfind/foundation/db/Event", "<init>", "(Ljava/lang/String;JLjava/lang/String;[B)V"⟩ : MethodName) (head1 (Jvm.Cond.code (⟨"com/example/thorough_factfind/thoroughfactfind/foundation/db/Event", "<init>", "(Ljava/lang/String;JLjava/lang/String;[B)V"⟩ : MethodName) prog_12_method_1_code 6 none :: ws) ({ frames := 2, cells := 1, slots := 4, locals := 29 } : Room)) (fun as_ UU => as_ = #[(.ref o), (.ref s1), (.long idv), (.ref s2), (.ref a)] ∧ Z.Warmed39 UU.vm ∧ UU.heap = h0) (fun _ _ _ _ _ => True) (fun _ UU oo UU' => ∃ vv LL, oo = .returned vv ∧ (Qini Z o s1 idv s2 a kc z vs h0 n0) vv UU'.heap LL ∧ FrameEnd UU oo UU' LL ({ frames := 2, cells := 1, slots := 4, locals := 29 } : Room).cells ({ frames := 2, cells := 1, slots := 4, locals := 29 } : Room).slots) := by
  refine own_met (plainFor_of_name pn_2) ?_
  intro p e s m below meth c s₁ X0 hx hby hml hret hlk hown hnm hZ e0
  have N0 := Fr.nil n0
  have Z_ := Z0
  refine OwnGo.cast (ef_ini m o s1 idv s2 a) ?_
  show OwnGo p e below s _ _ _ s₁ (mkF m 0 #[.val (.ref o), .val (.ref s1), .val (.long idv), .second, .val (.ref s2), .val (.ref a)] [])
  have Kp : Keep h0 h0 [o] := Keep.refl h0 [o]
  refine OwnGo.st (fun _ k => XS.aloadN X0.here hx rfl (hb hby d2_0) rfl rfl  k) ?_
  show OwnGo p e below s _ _ _ s₁ (mkF m 1 #[.val (.ref o), .val (.ref s1), .val (.long idv), .second, .val (.ref s2), .val (.ref a)] [(.ref o)])
  obtain ⟨T74, X74, e74, st74⟩ := initO X0 hx hZ hown (hw _ (List.mem_of_getElem? (i := 20) rfl)) (hw _ (List.mem_of_getElem? (i := 21) rfl)) (hw _ (List.mem_of_getElem? (i := 22) rfl)) e0 (g := (mkF m 1 #[.val (.ref o), .val (.ref s1), .val (.long idv), .second, .val (.ref s2), .val (.ref a)] [(.ref o)])) rfl (by rw [hml]; rfl) rfl (hb hby d2_1) (by decide) (W := 0) (by show 2 * 0 + _ ≤ _; exact Nat.le_of_eq rfl) (by decide)
  refine OwnGo.st st74 ?_
  show OwnGo p e below s _ _ _ T74 (mkF m 4 #[.val (.ref o), .val (.ref s1), .val (.long idv), .second, .val (.ref s2), .val (.ref a)] [])
  refine OwnGo.st (fun _ k => XS.aloadN X74.here hx rfl (hb hby d2_4) rfl rfl  k) ?_
  show OwnGo p e below s _ _ _ T74 (mkF m 5 #[.val (.ref o), .val (.ref s1), .val (.long idv), .second, .val (.ref s2), .val (.ref a)] [(.ref o)])
  refine OwnGo.st (fun _ k => XS.aloadN X74.here hx rfl (hb hby d2_5) rfl rfl  k) ?_
  show OwnGo p e below s _ _ _ T74 (mkF m 6 #[.val (.ref o), .val (.ref s1), .val (.long idv), .second, .val (.ref s2), .val (.ref a)] [(.ref s1), (.ref o)])
  obtain ⟨T75, h75, X75, e75, W75, st75⟩ := putF X74 hx hZ hown (host := "") (Or.inl (hw _ (List.mem_of_getElem? (i := 23) rfl))) Via.refl e74 F_type_o E_o (Or.inr ⟨(hw _ (List.mem_of_getElem? (i := 24) rfl)), rfl, hnm⟩) (hw _ (List.mem_of_getElem? (i := 7) rfl)) (ty := (.object "java/lang/String")) (by decide) rfl rfl (g := (mkF m 6 #[.val (.ref o), .val (.ref s1), .val (.long idv), .second, .val (.ref s2), .val (.ref a)] [(.ref s1), (.ref o)])) rfl rfl (hb hby d2_6)
  have E_o := E_o.wr W75
  have V := V.other W75 ne_a_o
  have E := E.wr W75
  have F_type_o := F_type_o.same W75
  have F_clientId_o := F_clientId_o.other W75 (Or.inr (slot_ne (Or.inr (hw _ (List.mem_of_getElem? (i := 26) rfl))) (Or.inr (hw _ (List.mem_of_getElem? (i := 24) rfl))) (by decide) (t := .long) (t' := (.object "java/lang/String")) (by decide) (by decide)))
  have F_subject_o := F_subject_o.other W75 (Or.inr (slot_ne (Or.inr (hw _ (List.mem_of_getElem? (i := 28) rfl))) (Or.inr (hw _ (List.mem_of_getElem? (i := 24) rfl))) (by decide) (t := (.object "java/lang/String")) (t' := (.object "java/lang/String")) (by decide) (by decide)))
  have F_data_o := F_data_o.other W75 (Or.inr (slot_ne (Or.inr (hw _ (List.mem_of_getElem? (i := 43) rfl))) (Or.inr (hw _ (List.mem_of_getElem? (i := 24) rfl))) (by decide) (t := (.array .byte)) (t' := (.object "java/lang/String")) (by decide) (by decide)))
  have Kp := Kp.wr W75 (Or.inl (List.mem_of_getElem? (i := 0) rfl))
  have N75 := Fr.snoc X75 N0 g_o
  have Z_ : n0 ≤ h75.size := by rw [W75.size]; exact Z_
  refine OwnGo.st st75 ?_
  show OwnGo p e below s _ _ _ T75 (mkF m 9 #[.val (.ref o), .val (.ref s1), .val (.long idv), .second, .val (.ref s2), .val (.ref a)] [])
  refine OwnGo.st (fun _ k => XS.aloadN X75.here hx rfl (hb hby d2_9) rfl rfl  k) ?_
  show OwnGo p e below s _ _ _ T75 (mkF m 10 #[.val (.ref o), .val (.ref s1), .val (.long idv), .second, .val (.ref s2), .val (.ref a)] [(.ref o)])
  refine OwnGo.st (fun _ k => XS.lloadN X75.here hx rfl (hb hby d2_10) rfl  k) ?_
  show OwnGo p e below s _ _ _ T75 (mkF m 11 #[.val (.ref o), .val (.ref s1), .val (.long idv), .second, .val (.ref s2), .val (.ref a)] [(.long idv), (.ref o)])
  obtain ⟨T76, h76, X76, e76, W76, st76⟩ := putF X75 hx hZ hown (host := "") (Or.inl (hw _ (List.mem_of_getElem? (i := 25) rfl))) Via.refl e75 F_clientId_o E_o (Or.inr ⟨(hw _ (List.mem_of_getElem? (i := 26) rfl)), rfl, hnm⟩) (hw _ (List.mem_of_getElem? (i := 7) rfl)) (ty := .long) (by decide) rfl rfl (g := (mkF m 11 #[.val (.ref o), .val (.ref s1), .val (.long idv), .second, .val (.ref s2), .val (.ref a)] [(.long idv), (.ref o)])) rfl rfl (hb hby d2_11)
  have E_o := E_o.wr W76
  have V := V.other W76 ne_a_o
  have E := E.wr W76
  have F_type_o := F_type_o.other W76 (Or.inr (slot_ne (Or.inr (hw _ (List.mem_of_getElem? (i := 24) rfl))) (Or.inr (hw _ (List.mem_of_getElem? (i := 26) rfl))) (by decide) (t := (.object "java/lang/String")) (t' := .long) (by decide) (by decide)))
  have F_clientId_o := F_clientId_o.same W76
  have F_subject_o := F_subject_o.other W76 (Or.inr (slot_ne (Or.inr (hw _ (List.mem_of_getElem? (i := 28) rfl))) (Or.inr (hw _ (List.mem_of_getElem? (i := 26) rfl))) (by decide) (t := (.object "java/lang/String")) (t' := .long) (by decide) (by decide)))
  have F_data_o := F_data_o.other W76 (Or.inr (slot_ne (Or.inr (hw _ (List.mem_of_getElem? (i := 43) rfl))) (Or.inr (hw _ (List.mem_of_getElem? (i := 26) rfl))) (by decide) (t := (.array .byte)) (t' := .long) (by decide) (by decide)))
  have Kp := Kp.wr W76 (Or.inl (List.mem_of_getElem? (i := 0) rfl))
  have N76 := Fr.snoc X76 N75 g_o
  have Z_ : n0 ≤ h76.size := by rw [W76.size]; exact Z_
  refine OwnGo.st st76 ?_
  show OwnGo p e below s _ _ _ T76 (mkF m 14 #[.val (.ref o), .val (.ref s1), .val (.long idv), .second, .val (.ref s2), .val (.ref a)] [])
  refine OwnGo.st (fun _ k => XS.aloadN X76.here hx rfl (hb hby d2_14) rfl rfl  k) ?_
  show OwnGo p e below s _ _ _ T76 (mkF m 15 #[.val (.ref o), .val (.ref s1), .val (.long idv), .second, .val (.ref s2), .val (.ref a)] [(.ref o)])
  refine OwnGo.st (fun _ k => XS.aload X76.here hx rfl (hb hby d2_15) rfl rfl  k) ?_
  show OwnGo p e below s _ _ _ T76 (mkF m 17 #[.val (.ref o), .val (.ref s1), .val (.long idv), .second, .val (.ref s2), .val (.ref a)] [(.ref s2), (.ref o)])
  obtain ⟨T77, h77, X77, e77, W77, st77⟩ := putF X76 hx hZ hown (host := "") (Or.inl (hw _ (List.mem_of_getElem? (i := 27) rfl))) Via.refl e76 F_subject_o E_o (Or.inr ⟨(hw _ (List.mem_of_getElem? (i := 28) rfl)), rfl, hnm⟩) (hw _ (List.mem_of_getElem? (i := 7) rfl)) (ty := (.object "java/lang/String")) (by decide) rfl rfl (g := (mkF m 17 #[.val (.ref o), .val (.ref s1), .val (.long idv), .second, .val (.ref s2), .val (.ref a)] [(.ref s2), (.ref o)])) rfl rfl (hb hby d2_17)
  have E_o := E_o.wr W77
  have V := V.other W77 ne_a_o
  have E := E.wr W77
  have F_type_o := F_type_o.other W77 (Or.inr (slot_ne (Or.inr (hw _ (List.mem_of_getElem? (i := 24) rfl))) (Or.inr (hw _ (List.mem_of_getElem? (i := 28) rfl))) (by decide) (t := (.object "java/lang/String")) (t' := (.object "java/lang/String")) (by decide) (by decide)))
  have F_clientId_o := F_clientId_o.other W77 (Or.inr (slot_ne (Or.inr (hw _ (List.mem_of_getElem? (i := 26) rfl))) (Or.inr (hw _ (List.mem_of_getElem? (i := 28) rfl))) (by decide) (t := .long) (t' := (.object "java/lang/String")) (by decide) (by decide)))
  have F_subject_o := F_subject_o.same W77
  have F_data_o := F_data_o.other W77 (Or.inr (slot_ne (Or.inr (hw _ (List.mem_of_getElem? (i := 43) rfl))) (Or.inr (hw _ (List.mem_of_getElem? (i := 28) rfl))) (by decide) (t := (.array .byte)) (t' := (.object "java/lang/String")) (by decide) (by decide)))
  have Kp := Kp.wr W77 (Or.inl (List.mem_of_getElem? (i := 0) rfl))
  have N77 := Fr.snoc X77 N76 g_o
  have Z_ : n0 ≤ h77.size := by rw [W77.size]; exact Z_
  refine OwnGo.st st77 ?_
  show OwnGo p e below s _ _ _ T77 (mkF m 20 #[.val (.ref o), .val (.ref s1), .val (.long idv), .second, .val (.ref s2), .val (.ref a)] [])
  refine OwnGo.st (fun _ k => XS.aloadN X77.here hx rfl (hb hby d2_20) rfl rfl  k) ?_
  show OwnGo p e below s _ _ _ T77 (mkF m 21 #[.val (.ref o), .val (.ref s1), .val (.long idv), .second, .val (.ref s2), .val (.ref a)] [(.ref o)])
  refine OwnGo.st (fun _ k => XS.aload X77.here hx rfl (hb hby d2_21) rfl rfl  k) ?_
  show OwnGo p e below s _ _ _ T77 (mkF m 23 #[.val (.ref o), .val (.ref s1), .val (.long idv), .second, .val (.ref s2), .val (.ref a)] [(.ref a), (.ref o)])
  refine OwnGo.st (fun _ k => XS.aload X77.here hx rfl (hb hby d2_23) rfl rfl  k) ?_
  show OwnGo p e below s _ _ _ T77 (mkF m 25 #[.val (.ref o), .val (.ref s1), .val (.long idv), .second, .val (.ref s2), .val (.ref a)] [(.ref a), (.ref a), (.ref o)])
  obtain ⟨cl78, Ar78, -, S78, N78, -, -⟩ := id V
  refine OwnGo.st (fun _ k => own_len hZ (len_of S78 N78) Ar78 X77 e77 hx (g := (mkF m 25 #[.val (.ref o), .val (.ref s1), .val (.long idv), .second, .val (.ref s2), .val (.ref a)] [(.ref a), (.ref a), (.ref o)])) rfl rfl (hb hby d2_25) _ k) ?_
  show OwnGo p e below s _ _ _ T77 (mkF m 26 #[.val (.ref o), .val (.ref s1), .val (.long idv), .second, .val (.ref s2), .val (.ref a)] [(.int z), (.ref a), (.ref o)])
  obtain ⟨_, _, ⟨T79, L79, k79, n79⟩, -, X79, ⟨Lc79, hQ79, l79, y79, z79⟩, st79⟩ := Jvm.LawKit.callS X77 hx (y := (⟨"java/util/Arrays", "copyOf", "([BI)[B"⟩ : MethodName)) hown (mvT hZ (hw _ (List.mem_of_getElem? (i := 29) rfl))) (mvT hZ (hw _ (List.mem_of_getElem? (i := 30) rfl))) (mvT hZ (hw _ (List.mem_of_getElem? (i := 31) rfl))) (mvT hZ (hw _ (List.mem_of_getElem? (i := 32) rfl))) (by decide) (backOf (W := 1) (rmcpy l Z a0 hw [] a kc z vs h77 n0 Z_ V E hz) hZ (hw _ (List.mem_of_getElem? (i := 32) rfl)) (hw _ (List.mem_of_getElem? (i := 31) rfl)) (by decide) (by decide)) (g := (mkF m 26 #[.val (.ref o), .val (.ref s1), .val (.long idv), .second, .val (.ref s2), .val (.ref a)] [(.int z), (.ref a), (.ref o)])) rfl (by rw [hml]; rfl) (argsL := [(.ref a), (.int z)]) (rest := [(.ref o)]) (lenOf pd_0 rfl) rfl (by show 2 * 0 + _ ≤ _; exact Nat.le_of_eq rfl) (hb hby d2_26) (fun _ _ => ⟨rfl, e77, (by decide : 0 + 1 ≤ _), (by decide : 0 + 4 ≤ _)⟩)
  dsimp only [Pt.U, Pt.locs, Pt.cells, Pt.slots] at X79 l79 y79 z79 st79 hQ79
  subst l79 y79 z79
  obtain ⟨c79, rfl, N79q, K79, V79, E79, zc79⟩ := hQ79
  have N79 := Fr.app N77 N79q
  have ne_o_c79 : o ≠ c79 := Nat.ne_of_lt (Nat.lt_of_lt_of_le E_o.lt zc79)
  have ne_a_c79 : a ≠ c79 := Nat.ne_of_lt (Nat.lt_of_lt_of_le V.lt zc79)
  have g_c79 : n0 ≤ c79 := Nat.le_trans Z_ zc79
  have sz_c79 : h0.size ≤ c79 := Nat.le_trans Kp.1 zc79
  have Z_ : n0 ≤ T79.heap.size := Nat.le_trans Z_ K79.1
  have E_o := E_o.keep K79
  have V := V.keep K79 nin0
  have E := E.keep K79
  have F_type_o := F_type_o.keep K79 nin0
  have F_clientId_o := F_clientId_o.keep K79 nin0
  have F_subject_o := F_subject_o.keep K79 nin0
  have F_data_o := F_data_o.keep K79 nin0
  have Kp := Kp.trans K79 all0
  refine OwnGo.st st79 ?_
  show OwnGo p e below s _ _ _ T79 (mkF m 29 #[.val (.ref o), .val (.ref s1), .val (.long idv), .second, .val (.ref s2), .val (.ref a)] [(.ref c79), (.ref o)])
  obtain ⟨T80, h80, X80, e80, W80, st80⟩ := putF X79 hx hZ hown (host := "") (Or.inl (hw _ (List.mem_of_getElem? (i := 42) rfl))) Via.refl rfl F_data_o E_o (Or.inr ⟨(hw _ (List.mem_of_getElem? (i := 43) rfl)), rfl, hnm⟩) (hw _ (List.mem_of_getElem? (i := 7) rfl)) (ty := (.array .byte)) (by decide) rfl rfl (g := (mkF m 29 #[.val (.ref o), .val (.ref s1), .val (.long idv), .second, .val (.ref s2), .val (.ref a)] [(.ref c79), (.ref o)])) rfl rfl (hb hby d2_29)
  have E_o := E_o.wr W80
  have V := V.other W80 ne_a_o
  have E := E.wr W80
  have F_type_o := F_type_o.other W80 (Or.inr (slot_ne (Or.inr (hw _ (List.mem_of_getElem? (i := 24) rfl))) (Or.inr (hw _ (List.mem_of_getElem? (i := 43) rfl))) (by decide) (t := (.object "java/lang/String")) (t' := (.array .byte)) (by decide) (by decide)))
  have F_clientId_o := F_clientId_o.other W80 (Or.inr (slot_ne (Or.inr (hw _ (List.mem_of_getElem? (i := 26) rfl))) (Or.inr (hw _ (List.mem_of_getElem? (i := 43) rfl))) (by decide) (t := .long) (t' := (.array .byte)) (by decide) (by decide)))
  have F_subject_o := F_subject_o.other W80 (Or.inr (slot_ne (Or.inr (hw _ (List.mem_of_getElem? (i := 28) rfl))) (Or.inr (hw _ (List.mem_of_getElem? (i := 43) rfl))) (by decide) (t := (.object "java/lang/String")) (t' := (.array .byte)) (by decide) (by decide)))
  have F_data_o := F_data_o.same W80
  have V79 := V79.other W80 (Ne.symm ne_o_c79)
  have E79 := E79.wr W80
  have Kp := Kp.wr W80 (Or.inl (List.mem_of_getElem? (i := 0) rfl))
  have N80 := Fr.snoc X80 N79 g_o
  have Z_ : n0 ≤ h80.size := by rw [W80.size]; exact Z_
  refine OwnGo.st st80 ?_
  show OwnGo p e below s _ _ _ T80 (mkF m 32 #[.val (.ref o), .val (.ref s1), .val (.long idv), .second, .val (.ref s2), .val (.ref a)] [])
  exact OwnGo.retV X80 hx hret hlk (hb hby d2_32) (by show Qini Z o s1 idv s2 a kc z vs h0 n0 _ T80.heap _; rw [e80]; exact ⟨rfl, N80, Kp, E_o, c79, F_data_o, V79, E79, sz_c79⟩) (by decide) (by decide)
def Qdat (Z : State) (o : Addr) (a : Addr) (kc : ClassId) (z : Int32) (vs : List Value) (h0 : Heap) (n0 : Nat) (v : Option Value) (h : Heap) (L : List Loc) : Prop := ∃ c : Addr, v = some (.ref c) ∧ Fr n0 L ∧ Keep h0 h [] ∧ Arv Z h c kc .byte z vs (.int (0 : Int32)) ∧ Exa Z h c "[B" ∧ h0.size ≤ c
set_option maxRecDepth 65536 in
set_option maxHeartbeats 40000000 in
theorem rmdat (l : Launch) (Z : State) (a0 : Array Value) (hw : ∀ d ∈ tables_1, d.before a0 Z = true) (ws : List Jvm.Cond) (o : Addr) (a : Addr) (kc : ClassId) (z : Int32) (vs : List Value) (h0 : Heap) (n0 : Nat) (Z0 : n0 ≤ h0.size) (F : Fld Z h0 o "com/example/thorough_factfind/thoroughfactfind/foundation/db/Event" "_data" "[B" (.ref a)) (V : Arv Z h0 a kc .byte z vs (.int (0 : Int32))) (E : Exa Z h0 a "[B") (hz : z.toNatClampNeg ≤ 4) :
    MetFree l (⟨"com/example/thorough_factfind/thoroughfactfind/foundation/db/Event", "data", "()[B"⟩ : MethodName) (head1 (Jvm.Cond.code (⟨"com/example/thorough_factfind/thoroughfactfind/foundation/db/Event", "data", "()[B"⟩ : MethodName) prog_12_method_5_code 1 (some (.array .byte)) :: ws) ({ frames := 2, cells := 1, slots := 4, locals := 28 } : Room)) (fun as_ UU => as_ = #[(.ref o)] ∧ Z.Warmed39 UU.vm ∧ UU.heap = h0) (fun _ _ _ _ _ => True) (fun _ UU oo UU' => ∃ vv LL, oo = .returned vv ∧ (Qdat Z o a kc z vs h0 n0) vv UU'.heap LL ∧ FrameEnd UU oo UU' LL ({ frames := 2, cells := 1, slots := 4, locals := 28 } : Room).cells ({ frames := 2, cells := 1, slots := 4, locals := 28 } : Room).slots) := by
  refine own_met (plainFor_of_name pn_2) ?_
  intro p e s m below meth c s₁ X0 hx hby hml hret hlk hown hnm hZ e0
  have N0 := Fr.nil n0
  have Z_ := Z0
  refine OwnGo.cast (ef_dat m o) ?_
  show OwnGo p e below s _ _ _ s₁ (mkF m 0 #[.val (.ref o)] [])
  have Kp : Keep h0 h0 [] := Keep.refl h0 []
  refine OwnGo.st (fun _ k => XS.aloadN X0.here hx rfl (hb hby d6_0) rfl rfl  k) ?_
  show OwnGo p e below s _ _ _ s₁ (mkF m 1 #[.val (.ref o)] [(.ref o)])
  obtain ⟨T81, X81, e81, st81⟩ := getF X0 hx hZ hown (host := "") (Or.inl (hw _ (List.mem_of_getElem? (i := 42) rfl))) Via.refl e0 F (g := (mkF m 1 #[.val (.ref o)] [(.ref o)])) rfl rfl (hb hby d6_1)
  refine OwnGo.st st81 ?_
  show OwnGo p e below s _ _ _ T81 (mkF m 4 #[.val (.ref o)] [(.ref a)])
  refine OwnGo.st (fun _ k => XS.aloadN X81.here hx rfl (hb hby d6_4) rfl rfl  k) ?_
  show OwnGo p e below s _ _ _ T81 (mkF m 5 #[.val (.ref o)] [(.ref o), (.ref a)])
  obtain ⟨T82, X82, e82, st82⟩ := getF X81 hx hZ hown (host := "") (Or.inl (hw _ (List.mem_of_getElem? (i := 42) rfl))) Via.refl e81 F (g := (mkF m 5 #[.val (.ref o)] [(.ref o), (.ref a)])) rfl rfl (hb hby d6_5)
  refine OwnGo.st st82 ?_
  show OwnGo p e below s _ _ _ T82 (mkF m 8 #[.val (.ref o)] [(.ref a), (.ref a)])
  obtain ⟨cl83, Ar83, -, S83, N83, -, -⟩ := id V
  refine OwnGo.st (fun _ k => own_len hZ (len_of S83 N83) Ar83 X82 e82 hx (g := (mkF m 8 #[.val (.ref o)] [(.ref a), (.ref a)])) rfl rfl (hb hby d6_8) _ k) ?_
  show OwnGo p e below s _ _ _ T82 (mkF m 9 #[.val (.ref o)] [(.int z), (.ref a)])
  obtain ⟨_, _, ⟨T84, L84, k84, n84⟩, -, X84, ⟨Lc84, hQ84, l84, y84, z84⟩, st84⟩ := Jvm.LawKit.callS X82 hx (y := (⟨"java/util/Arrays", "copyOf", "([BI)[B"⟩ : MethodName)) hown (mvT hZ (hw _ (List.mem_of_getElem? (i := 29) rfl))) (mvT hZ (hw _ (List.mem_of_getElem? (i := 30) rfl))) (mvT hZ (hw _ (List.mem_of_getElem? (i := 31) rfl))) (mvT hZ (hw _ (List.mem_of_getElem? (i := 32) rfl))) (by decide) (backOf (W := 0) (rmcpy l Z a0 hw [] a kc z vs h0 n0 Z_ V E hz) hZ (hw _ (List.mem_of_getElem? (i := 32) rfl)) (hw _ (List.mem_of_getElem? (i := 31) rfl)) (by decide) (by decide)) (g := (mkF m 9 #[.val (.ref o)] [(.int z), (.ref a)])) rfl (by rw [hml]; rfl) (argsL := [(.ref a), (.int z)]) (rest := []) (lenOf pd_0 rfl) rfl (by show 2 * 0 + _ ≤ _; exact Nat.le_of_eq rfl) (hb hby d6_9) (fun _ _ => ⟨rfl, e82, (by decide : 0 + 1 ≤ _), (by decide : 0 + 4 ≤ _)⟩)
  dsimp only [Pt.U, Pt.locs, Pt.cells, Pt.slots] at X84 l84 y84 z84 st84 hQ84
  subst l84 y84 z84
  obtain ⟨c84, rfl, N84q, K84, V84, E84, zc84⟩ := hQ84
  have N84 := Fr.app N0 N84q
  have ne_o_c84 : o ≠ c84 := Nat.ne_of_lt (Nat.lt_of_lt_of_le F.lt zc84)
  have ne_a_c84 : a ≠ c84 := Nat.ne_of_lt (Nat.lt_of_lt_of_le V.lt zc84)
  have g_c84 : n0 ≤ c84 := Nat.le_trans Z_ zc84
  have sz_c84 : h0.size ≤ c84 := Nat.le_trans Kp.1 zc84
  have Z_ : n0 ≤ T84.heap.size := Nat.le_trans Z_ K84.1
  have F := F.keep K84 nin0
  have V := V.keep K84 nin0
  have E := E.keep K84
  have Kp := Kp.trans K84 all0
  refine OwnGo.st st84 ?_
  show OwnGo p e below s _ _ _ T84 (mkF m 12 #[.val (.ref o)] [(.ref c84)])
  exact OwnGo.ret X84 hx hret hlk rfl (Or.inr (Or.inr (Or.inr (Or.inr ⟨rfl, rfl, rfl⟩)))) (hb hby d6_12) (by show Qdat Z o a kc z vs h0 n0 _ T84.heap _; exact ⟨c84, rfl, N84, Kp, V84, E84, sz_c84⟩) (by decide) (by decide)
def Q0 (Z : State) (p1 : Int32) (p2 : Int32) (p3 : Int32) (p4 : Int64) (h0 : Heap) (n0 : Nat) (v : Option Value) (h : Heap) (L : List Loc) : Prop := v = some (.int (1 : Int32)) ∧ Fr n0 L
set_option maxRecDepth 65536 in
set_option maxHeartbeats 40000000 in
theorem rm0 (l : Launch) (Z : State) (a0 : Array Value) (hw : ∀ d ∈ tables_1, d.before a0 Z = true) (ws : List Jvm.Cond) (p1 : Int32) (p2 : Int32) (p3 : Int32) (p4 : Int64) (h0 : Heap) (n0 : Nat) (Z0 : n0 ≤ h0.size) :
    MetFree l x (head1 (Jvm.Cond.code x code maxLocals ret :: ws) room_1) (fun as_ UU => as_ = #[(.int p1), (.int p2), (.int p3), (.long p4)] ∧ Z.Warmed39 UU.vm ∧ UU.heap = h0 ∧ CHv Z own_EL UU.vm h0) (fun _ _ _ _ _ => True) (fun _ UU oo UU' => ∃ vv LL, oo = .returned vv ∧ (Q0 Z p1 p2 p3 p4 h0 n0) vv UU'.heap LL ∧ CHr Z own_EL UU.vm UU.heap UU'.vm UU'.heap ∧ ReturnedEndW UU oo UU' LL room_1.cells room_1.slots) := by
  refine own_metW (EL := own_EL) (plainFor_of_name pn_1) ?_
  intro p e s m below meth c s₁ X0 hx hby hml hret hlk hown hnm hZ e0 hS_ CR
  have hk_ := Nat.le_refl h0.size
  have N0 := Fr.nil n0
  have Z_ := Z0
  refine OwnGoW.cast (ef_0 m p1 p2 p3 p4) ?_
  have hml : c.maxLocals = 14 := hml
  show OwnGoW p e below s Z own_EL _ _ _ s₁ (mkF m 0 #[.val (.int p1), .val (.int p2), .val (.int p3), .val (.long p4), .second, .unset, .unset, .unset, .unset, .unset, .unset, .unset, .unset, .unset] [])
  refine OwnGoW.st (fun _ k => XS.iloadN X0.here hx rfl (hb hby at_0) rfl  k) ?_
  show OwnGoW p e below s Z own_EL _ _ _ s₁ (mkF m 1 #[.val (.int p1), .val (.int p2), .val (.int p3), .val (.long p4), .second, .unset, .unset, .unset, .unset, .unset, .unset, .unset, .unset, .unset] [(.int p3)])
  refine OwnGoW.st (fun _ k => X0.ldcInt hx hown (mvT hZ (hw _ (List.mem_of_getElem? (i := 0) rfl))) (g := (mkF m 1 #[.val (.int p1), .val (.int p2), .val (.int p3), .val (.long p4), .second, .unset, .unset, .unset, .unset, .unset, .unset, .unset, .unset, .unset] [(.int p3)])) rfl (hb hby at_1) _ k) ?_
  show OwnGoW p e below s Z own_EL _ _ _ s₁ (mkF m 3 #[.val (.int p1), .val (.int p2), .val (.int p3), .val (.long p4), .second, .unset, .unset, .unset, .unset, .unset, .unset, .unset, .unset, .unset] [(.int (2147483647 : Int32)), (.int p3)])
  refine OwnGoW.st (fun _ k => XS.iand X0.here hx rfl (hb hby at_3) rfl k) ?_
  show OwnGoW p e below s Z own_EL _ _ _ s₁ (mkF m 4 #[.val (.int p1), .val (.int p2), .val (.int p3), .val (.long p4), .second, .unset, .unset, .unset, .unset, .unset, .unset, .unset, .unset, .unset] [(.int (p3 &&& (2147483647 : Int32)))])
  refine OwnGoW.st (fun _ k => XS.iconst X0.here hx rfl (hb hby at_4) k) ?_
  show OwnGoW p e below s Z own_EL _ _ _ s₁ (mkF m 5 #[.val (.int p1), .val (.int p2), .val (.int p3), .val (.long p4), .second, .unset, .unset, .unset, .unset, .unset, .unset, .unset, .unset, .unset] [(.int (5 : Int32)), (.int (p3 &&& (2147483647 : Int32)))])
  refine OwnGoW.st (fun _ k => iremM (g := (mkF m 5 #[.val (.int p1), .val (.int p2), .val (.int p3), .val (.long p4), .second, .unset, .unset, .unset, .unset, .unset, .unset, .unset, .unset, .unset] [(.int (5 : Int32)), (.int (p3 &&& (2147483647 : Int32)))])) X0 hx rfl (hb hby at_5) rfl (by decide) k) ?_
  show OwnGoW p e below s Z own_EL _ _ _ s₁ (mkF m 6 #[.val (.int p1), .val (.int p2), .val (.int p3), .val (.long p4), .second, .unset, .unset, .unset, .unset, .unset, .unset, .unset, .unset, .unset] [(.int ((p3 &&& (2147483647 : Int32)) % (5 : Int32)))])
  obtain ⟨nn, hnn⟩ : ∃ z : Int32, z = ((p3 &&& (2147483647 : Int32)) % (5 : Int32)) := ⟨_, rfl⟩
  rw [← hnn]
  show OwnGoW p e below s Z own_EL _ _ _ s₁ (mkF m 6 #[.val (.int p1), .val (.int p2), .val (.int p3), .val (.long p4), .second, .unset, .unset, .unset, .unset, .unset, .unset, .unset, .unset, .unset] [(.int nn)])
  refine OwnGoW.st (fun _ k => XS.istore X0.here hx rfl (hb hby at_6) rfl (l' := #[.val (.int p1), .val (.int p2), .val (.int p3), .val (.long p4), .second, .val (.int nn), .unset, .unset, .unset, .unset, .unset, .unset, .unset, .unset]) rfl k) ?_
  show OwnGoW p e below s Z own_EL _ _ _ s₁ (mkF m 8 #[.val (.int p1), .val (.int p2), .val (.int p3), .val (.long p4), .second, .val (.int nn), .unset, .unset, .unset, .unset, .unset, .unset, .unset, .unset] [])
  refine OwnGoW.st (fun _ k => XS.iloadN X0.here hx rfl (hb hby at_8) rfl  k) ?_
  show OwnGoW p e below s Z own_EL _ _ _ s₁ (mkF m 9 #[.val (.int p1), .val (.int p2), .val (.int p3), .val (.long p4), .second, .val (.int nn), .unset, .unset, .unset, .unset, .unset, .unset, .unset, .unset] [(.int p1)])
  refine OwnGoW.st (fun _ k => XS.i2b X0.here hx rfl (hb hby at_9) rfl k) ?_
  show OwnGoW p e below s Z own_EL _ _ _ s₁ (mkF m 10 #[.val (.int p1), .val (.int p2), .val (.int p3), .val (.long p4), .second, .val (.int nn), .unset, .unset, .unset, .unset, .unset, .unset, .unset, .unset] [(.int (p1.toInt8.toInt32))])
  obtain ⟨y0, hy0⟩ : ∃ z : Int32, z = (p1.toInt8.toInt32) := ⟨_, rfl⟩
  rw [← hy0]
  show OwnGoW p e below s Z own_EL _ _ _ s₁ (mkF m 10 #[.val (.int p1), .val (.int p2), .val (.int p3), .val (.long p4), .second, .val (.int nn), .unset, .unset, .unset, .unset, .unset, .unset, .unset, .unset] [(.int y0)])
  refine OwnGoW.st (fun _ k => XS.istore X0.here hx rfl (hb hby at_10) rfl (l' := #[.val (.int p1), .val (.int p2), .val (.int p3), .val (.long p4), .second, .val (.int nn), .val (.int y0), .unset, .unset, .unset, .unset, .unset, .unset, .unset]) rfl k) ?_
  show OwnGoW p e below s Z own_EL _ _ _ s₁ (mkF m 12 #[.val (.int p1), .val (.int p2), .val (.int p3), .val (.long p4), .second, .val (.int nn), .val (.int y0), .unset, .unset, .unset, .unset, .unset, .unset, .unset] [])
  refine OwnGoW.st (fun _ k => XS.iloadN X0.here hx rfl (hb hby at_12) rfl  k) ?_
  show OwnGoW p e below s Z own_EL _ _ _ s₁ (mkF m 13 #[.val (.int p1), .val (.int p2), .val (.int p3), .val (.long p4), .second, .val (.int nn), .val (.int y0), .unset, .unset, .unset, .unset, .unset, .unset, .unset] [(.int p1)])
  refine OwnGoW.st (fun _ k => XS.bipush X0.here hx rfl (hb hby at_13) k) ?_
  show OwnGoW p e below s Z own_EL _ _ _ s₁ (mkF m 15 #[.val (.int p1), .val (.int p2), .val (.int p3), .val (.long p4), .second, .val (.int nn), .val (.int y0), .unset, .unset, .unset, .unset, .unset, .unset, .unset] [(.int (8 : Int32)), (.int p1)])
  refine OwnGoW.st (fun _ k => XS.ishr X0.here hx rfl (hb hby at_15) rfl k) ?_
  show OwnGoW p e below s Z own_EL _ _ _ s₁ (mkF m 16 #[.val (.int p1), .val (.int p2), .val (.int p3), .val (.long p4), .second, .val (.int nn), .val (.int y0), .unset, .unset, .unset, .unset, .unset, .unset, .unset] [(.int (p1 >>> ((8 : Int32) &&& 31)))])
  refine OwnGoW.st (fun _ k => XS.i2b X0.here hx rfl (hb hby at_16) rfl k) ?_
  show OwnGoW p e below s Z own_EL _ _ _ s₁ (mkF m 17 #[.val (.int p1), .val (.int p2), .val (.int p3), .val (.long p4), .second, .val (.int nn), .val (.int y0), .unset, .unset, .unset, .unset, .unset, .unset, .unset] [(.int ((p1 >>> ((8 : Int32) &&& 31)).toInt8.toInt32))])
  obtain ⟨y1, hy1⟩ : ∃ z : Int32, z = ((p1 >>> ((8 : Int32) &&& 31)).toInt8.toInt32) := ⟨_, rfl⟩
  rw [← hy1]
  show OwnGoW p e below s Z own_EL _ _ _ s₁ (mkF m 17 #[.val (.int p1), .val (.int p2), .val (.int p3), .val (.long p4), .second, .val (.int nn), .val (.int y0), .unset, .unset, .unset, .unset, .unset, .unset, .unset] [(.int y1)])
  refine OwnGoW.st (fun _ k => XS.istore X0.here hx rfl (hb hby at_17) rfl (l' := #[.val (.int p1), .val (.int p2), .val (.int p3), .val (.long p4), .second, .val (.int nn), .val (.int y0), .val (.int y1), .unset, .unset, .unset, .unset, .unset, .unset]) rfl k) ?_
  show OwnGoW p e below s Z own_EL _ _ _ s₁ (mkF m 19 #[.val (.int p1), .val (.int p2), .val (.int p3), .val (.long p4), .second, .val (.int nn), .val (.int y0), .val (.int y1), .unset, .unset, .unset, .unset, .unset, .unset] [])
  refine OwnGoW.st (fun _ k => XS.iloadN X0.here hx rfl (hb hby at_19) rfl  k) ?_
  show OwnGoW p e below s Z own_EL _ _ _ s₁ (mkF m 20 #[.val (.int p1), .val (.int p2), .val (.int p3), .val (.long p4), .second, .val (.int nn), .val (.int y0), .val (.int y1), .unset, .unset, .unset, .unset, .unset, .unset] [(.int p1)])
  refine OwnGoW.st (fun _ k => XS.bipush X0.here hx rfl (hb hby at_20) k) ?_
  show OwnGoW p e below s Z own_EL _ _ _ s₁ (mkF m 22 #[.val (.int p1), .val (.int p2), .val (.int p3), .val (.long p4), .second, .val (.int nn), .val (.int y0), .val (.int y1), .unset, .unset, .unset, .unset, .unset, .unset] [(.int (16 : Int32)), (.int p1)])
  refine OwnGoW.st (fun _ k => XS.ishr X0.here hx rfl (hb hby at_22) rfl k) ?_
  show OwnGoW p e below s Z own_EL _ _ _ s₁ (mkF m 23 #[.val (.int p1), .val (.int p2), .val (.int p3), .val (.long p4), .second, .val (.int nn), .val (.int y0), .val (.int y1), .unset, .unset, .unset, .unset, .unset, .unset] [(.int (p1 >>> ((16 : Int32) &&& 31)))])
  refine OwnGoW.st (fun _ k => XS.i2b X0.here hx rfl (hb hby at_23) rfl k) ?_
  show OwnGoW p e below s Z own_EL _ _ _ s₁ (mkF m 24 #[.val (.int p1), .val (.int p2), .val (.int p3), .val (.long p4), .second, .val (.int nn), .val (.int y0), .val (.int y1), .unset, .unset, .unset, .unset, .unset, .unset] [(.int ((p1 >>> ((16 : Int32) &&& 31)).toInt8.toInt32))])
  obtain ⟨y2, hy2⟩ : ∃ z : Int32, z = ((p1 >>> ((16 : Int32) &&& 31)).toInt8.toInt32) := ⟨_, rfl⟩
  rw [← hy2]
  show OwnGoW p e below s Z own_EL _ _ _ s₁ (mkF m 24 #[.val (.int p1), .val (.int p2), .val (.int p3), .val (.long p4), .second, .val (.int nn), .val (.int y0), .val (.int y1), .unset, .unset, .unset, .unset, .unset, .unset] [(.int y2)])
  refine OwnGoW.st (fun _ k => XS.istore X0.here hx rfl (hb hby at_24) rfl (l' := #[.val (.int p1), .val (.int p2), .val (.int p3), .val (.long p4), .second, .val (.int nn), .val (.int y0), .val (.int y1), .val (.int y2), .unset, .unset, .unset, .unset, .unset]) rfl k) ?_
  show OwnGoW p e below s Z own_EL _ _ _ s₁ (mkF m 26 #[.val (.int p1), .val (.int p2), .val (.int p3), .val (.long p4), .second, .val (.int nn), .val (.int y0), .val (.int y1), .val (.int y2), .unset, .unset, .unset, .unset, .unset] [])
  refine OwnGoW.st (fun _ k => XS.iloadN X0.here hx rfl (hb hby at_26) rfl  k) ?_
  show OwnGoW p e below s Z own_EL _ _ _ s₁ (mkF m 27 #[.val (.int p1), .val (.int p2), .val (.int p3), .val (.long p4), .second, .val (.int nn), .val (.int y0), .val (.int y1), .val (.int y2), .unset, .unset, .unset, .unset, .unset] [(.int p2)])
  refine OwnGoW.st (fun _ k => XS.i2b X0.here hx rfl (hb hby at_27) rfl k) ?_
  show OwnGoW p e below s Z own_EL _ _ _ s₁ (mkF m 28 #[.val (.int p1), .val (.int p2), .val (.int p3), .val (.long p4), .second, .val (.int nn), .val (.int y0), .val (.int y1), .val (.int y2), .unset, .unset, .unset, .unset, .unset] [(.int (p2.toInt8.toInt32))])
  obtain ⟨y3, hy3⟩ : ∃ z : Int32, z = (p2.toInt8.toInt32) := ⟨_, rfl⟩
  rw [← hy3]
  show OwnGoW p e below s Z own_EL _ _ _ s₁ (mkF m 28 #[.val (.int p1), .val (.int p2), .val (.int p3), .val (.long p4), .second, .val (.int nn), .val (.int y0), .val (.int y1), .val (.int y2), .unset, .unset, .unset, .unset, .unset] [(.int y3)])
  refine OwnGoW.st (fun _ k => XS.istore X0.here hx rfl (hb hby at_28) rfl (l' := #[.val (.int p1), .val (.int p2), .val (.int p3), .val (.long p4), .second, .val (.int nn), .val (.int y0), .val (.int y1), .val (.int y2), .val (.int y3), .unset, .unset, .unset, .unset]) rfl k) ?_
  show OwnGoW p e below s Z own_EL _ _ _ s₁ (mkF m 30 #[.val (.int p1), .val (.int p2), .val (.int p3), .val (.long p4), .second, .val (.int nn), .val (.int y0), .val (.int y1), .val (.int y2), .val (.int y3), .unset, .unset, .unset, .unset] [])
  rcases own_m5 p3 _ hnn with rfl | rfl | rfl | rfl | rfl
  · show OwnGoW p e below s Z own_EL _ _ _ s₁ (mkF m 30 #[.val (.int p1), .val (.int p2), .val (.int p3), .val (.long p4), .second, .val (.int (0 : Int32)), .val (.int y0), .val (.int y1), .val (.int y2), .val (.int y3), .unset, .unset, .unset, .unset] [])
    refine OwnGoW.st (fun _ k => XS.iload X0.here hx rfl (hb hby at_30) rfl  k) ?_
    show OwnGoW p e below s Z own_EL _ _ _ s₁ (mkF m 32 #[.val (.int p1), .val (.int p2), .val (.int p3), .val (.long p4), .second, .val (.int (0 : Int32)), .val (.int y0), .val (.int y1), .val (.int y2), .val (.int y3), .unset, .unset, .unset, .unset] [(.int (0 : Int32))])
    refine OwnGoW.st (fun _ k => XS.iload X0.here hx rfl (hb hby at_32) rfl  k) ?_
    show OwnGoW p e below s Z own_EL _ _ _ s₁ (mkF m 34 #[.val (.int p1), .val (.int p2), .val (.int p3), .val (.long p4), .second, .val (.int (0 : Int32)), .val (.int y0), .val (.int y1), .val (.int y2), .val (.int y3), .unset, .unset, .unset, .unset] [(.int y0), (.int (0 : Int32))])
    refine OwnGoW.st (fun _ k => XS.iload X0.here hx rfl (hb hby at_34) rfl  k) ?_
    show OwnGoW p e below s Z own_EL _ _ _ s₁ (mkF m 36 #[.val (.int p1), .val (.int p2), .val (.int p3), .val (.long p4), .second, .val (.int (0 : Int32)), .val (.int y0), .val (.int y1), .val (.int y2), .val (.int y3), .unset, .unset, .unset, .unset] [(.int y1), (.int y0), (.int (0 : Int32))])
    refine OwnGoW.st (fun _ k => XS.iload X0.here hx rfl (hb hby at_36) rfl  k) ?_
    show OwnGoW p e below s Z own_EL _ _ _ s₁ (mkF m 38 #[.val (.int p1), .val (.int p2), .val (.int p3), .val (.long p4), .second, .val (.int (0 : Int32)), .val (.int y0), .val (.int y1), .val (.int y2), .val (.int y3), .unset, .unset, .unset, .unset] [(.int y2), (.int y1), (.int y0), (.int (0 : Int32))])
    refine OwnGoW.st (fun _ k => XS.iload X0.here hx rfl (hb hby at_38) rfl  k) ?_
    show OwnGoW p e below s Z own_EL _ _ _ s₁ (mkF m 40 #[.val (.int p1), .val (.int p2), .val (.int p3), .val (.long p4), .second, .val (.int (0 : Int32)), .val (.int y0), .val (.int y1), .val (.int y2), .val (.int y3), .unset, .unset, .unset, .unset] [(.int y3), (.int y2), (.int y1), (.int y0), (.int (0 : Int32))])
    obtain ⟨_, _, ⟨T85, L85, k85, n85⟩, -, X85, ⟨Lc85, hQ85, l85, y85, z85⟩, st85⟩ := Jvm.LawKit.callS X0 hx (y := (⟨"com/example/thorough_factfind/thoroughfactfind/foundation/db/EventDataPinLaw", "make", "(IBBBB)[B"⟩ : MethodName)) hown (mvT hZ (hw _ (List.mem_of_getElem? (i := 1) rfl))) (mvT hZ (hw _ (List.mem_of_getElem? (i := 2) rfl))) (mvT hZ (hw _ (List.mem_of_getElem? (i := 3) rfl))) (mvT hZ (hw _ (List.mem_of_getElem? (i := 4) rfl))) (by decide) (backOf (W := 0) (rmmk0 l Z a0 hw [] y0 y1 y2 y3 h0 n0 Z_ (by rw [hy0]; exact own_nb _) (by rw [hy1]; exact own_nb _) (by rw [hy2]; exact own_nb _) (by rw [hy3]; exact own_nb _)) hZ (hw _ (List.mem_of_getElem? (i := 4) rfl)) (hw _ (List.mem_of_getElem? (i := 3) rfl)) (by decide) (by decide)) (g := (mkF m 40 #[.val (.int p1), .val (.int p2), .val (.int p3), .val (.long p4), .second, .val (.int (0 : Int32)), .val (.int y0), .val (.int y1), .val (.int y2), .val (.int y3), .unset, .unset, .unset, .unset] [(.int y3), (.int y2), (.int y1), (.int y0), (.int (0 : Int32))])) rfl (by rw [hml]; rfl) (argsL := [(.int (0 : Int32)), (.int y0), (.int y1), (.int y2), (.int y3)]) (rest := []) (lenOf pd_1 rfl) rfl (by show 2 * 0 + _ ≤ _; exact Nat.le_of_eq rfl) (hb hby at_40) (fun _ _ => ⟨rfl, e0, (by decide : 0 + 1 ≤ _), (by decide : 0 + 0 ≤ _)⟩)
    dsimp only [Pt.U, Pt.locs, Pt.cells, Pt.slots] at X85 l85 y85 z85 st85 hQ85
    subst l85 y85 z85
    obtain ⟨a85, kc85, rfl, N85q, K85, V85, E85, za85⟩ := hQ85
    have N85 := Fr.app N0 N85q
    have g_a85 : n0 ≤ a85 := Nat.le_trans Z_ za85
    have Z_ : n0 ≤ T85.heap.size := Nat.le_trans Z_ K85.1
    have CR := CR.trans (CHr.keep K85 sf0 CR.1)
    have hk_ := Nat.le_trans hk_ K85.1
    refine OwnGoW.st st85 ?_
    show OwnGoW p e below s Z own_EL _ _ _ T85 (mkF m 43 #[.val (.int p1), .val (.int p2), .val (.int p3), .val (.long p4), .second, .val (.int (0 : Int32)), .val (.int y0), .val (.int y1), .val (.int y2), .val (.int y3), .unset, .unset, .unset, .unset] [(.ref a85)])
    refine OwnGoW.st (fun _ k => XS.astore X85.here hx rfl (hb hby at_43) rfl rfl (l' := #[.val (.int p1), .val (.int p2), .val (.int p3), .val (.long p4), .second, .val (.int (0 : Int32)), .val (.int y0), .val (.int y1), .val (.int y2), .val (.int y3), .val (.ref a85), .unset, .unset, .unset]) rfl k) ?_
    show OwnGoW p e below s Z own_EL _ _ _ T85 (mkF m 45 #[.val (.int p1), .val (.int p2), .val (.int p3), .val (.long p4), .second, .val (.int (0 : Int32)), .val (.int y0), .val (.int y1), .val (.int y2), .val (.int y3), .val (.ref a85), .unset, .unset, .unset] [])
    obtain ⟨T86, h86, X86, e86, E86, A86, D86, -, st86⟩ := newO X85 hx hZ hown (hw _ (List.mem_of_getElem? (i := 6) rfl)) (hw _ (List.mem_of_getElem? (i := 7) rfl)) (hw _ (List.mem_of_getElem? (i := 8) rfl)) rfl (g := (mkF m 45 #[.val (.int p1), .val (.int p2), .val (.int p3), .val (.long p4), .second, .val (.int (0 : Int32)), .val (.int y0), .val (.int y1), .val (.int y2), .val (.int y3), .val (.ref a85), .unset, .unset, .unset] [])) rfl (hb hby at_45) (by decide) (by decide)
    obtain ⟨b86, g86⟩ : ∃ z, z = T85.heap.size := ⟨_, rfl⟩
    rw [← g86] at A86 D86 st86
    have ne_a85_b86 : a85 ≠ b86 := Nat.ne_of_lt (Nat.lt_of_lt_of_le V85.lt (Nat.le_of_eq g86.symm))
    have g_b86 : n0 ≤ b86 := Nat.le_trans Z_ (Nat.le_of_eq g86.symm)
    have V85 := V85.ext E86
    have E85 := E85.ext E86
    have CR := CR.trans (CHr.ext E86 CR.1)
    have hk_ := Nat.le_trans hk_ E86.1
    have Z_ : n0 ≤ h86.size := Nat.le_trans Z_ E86.1
    have E_b86 := A86
    have F__type_b86 : Fld Z h86 b86 "com/example/thorough_factfind/thoroughfactfind/foundation/db/Event" "_type" "Ljava/lang/String;" .null := D86 (Or.inr (hw _ (List.mem_of_getElem? (i := 24) rfl))) (ty := (.object "java/lang/String")) (by decide)
    have F__clientId_b86 : Fld Z h86 b86 "com/example/thorough_factfind/thoroughfactfind/foundation/db/Event" "_clientId" "J" (.long (0 : Int64)) := D86 (Or.inr (hw _ (List.mem_of_getElem? (i := 26) rfl))) (ty := .long) (by decide)
    have F__subject_b86 : Fld Z h86 b86 "com/example/thorough_factfind/thoroughfactfind/foundation/db/Event" "_subject" "Ljava/lang/String;" .null := D86 (Or.inr (hw _ (List.mem_of_getElem? (i := 28) rfl))) (ty := (.object "java/lang/String")) (by decide)
    have F__data_b86 : Fld Z h86 b86 "com/example/thorough_factfind/thoroughfactfind/foundation/db/Event" "_data" "[B" .null := D86 (Or.inr (hw _ (List.mem_of_getElem? (i := 43) rfl))) (ty := (.array .byte)) (by decide)
    refine OwnGoW.st st86 ?_
    show OwnGoW p e below s Z own_EL _ _ _ T86 (mkF m 48 #[.val (.int p1), .val (.int p2), .val (.int p3), .val (.long p4), .second, .val (.int (0 : Int32)), .val (.int y0), .val (.int y1), .val (.int y2), .val (.int y3), .val (.ref a85), .unset, .unset, .unset] [(.ref b86)])
    refine OwnGoW.st (fun _ k => XS.dup X86.here hx rfl (hb hby at_48) rfl rfl k) ?_
    show OwnGoW p e below s Z own_EL _ _ _ T86 (mkF m 49 #[.val (.int p1), .val (.int p2), .val (.int p3), .val (.long p4), .second, .val (.int (0 : Int32)), .val (.int y0), .val (.int y1), .val (.int y2), .val (.int y3), .val (.ref a85), .unset, .unset, .unset] [(.ref b86), (.ref b86)])
    obtain ⟨a87, T87, h87, k1_87, X87, e87, E87, hS_, hkN, hZ, hown, CN, -, st87⟩ := ldcOH (s := s) (vm0 := s.vm) X86 hx hZ hown (hw _ (List.mem_of_getElem? (i := 9) rfl)) (own_wS hw) e86 hS_ hk_ (own_hEL hw) CR.1 (g := (mkF m 49 #[.val (.int p1), .val (.int p2), .val (.int p3), .val (.long p4), .second, .val (.int (0 : Int32)), .val (.int y0), .val (.int y1), .val (.int y2), .val (.int y3), .val (.ref a85), .unset, .unset, .unset] [(.ref b86), (.ref b86)])) rfl (hb hby at_49) (n := 52) (by decide) (by decide) (by decide) (by decide)
    have V85 := V85.ext E87
    have E85 := E85.ext E87
    have E_b86 := E_b86.ext E87
    have F__type_b86 := F__type_b86.ext E87
    have F__clientId_b86 := F__clientId_b86.ext E87
    have F__subject_b86 := F__subject_b86.ext E87
    have F__data_b86 := F__data_b86.ext E87
    have CR := CR.trans CN
    have hk_ := hkN
    have Z_ : n0 ≤ h87.size := Nat.le_trans Z_ E87.1
    refine OwnGoW.st st87 ?_
    show OwnGoW p e below s Z own_EL _ _ _ T87 (mkF m 51 #[.val (.int p1), .val (.int p2), .val (.int p3), .val (.long p4), .second, .val (.int (0 : Int32)), .val (.int y0), .val (.int y1), .val (.int y2), .val (.int y3), .val (.ref a85), .unset, .unset, .unset] [(.ref a87), (.ref b86), (.ref b86)])
    refine OwnGoW.st (fun _ k => XS.lloadN X87.here hx rfl (hb hby at_51) rfl  k) ?_
    show OwnGoW p e below s Z own_EL _ _ _ T87 (mkF m 52 #[.val (.int p1), .val (.int p2), .val (.int p3), .val (.long p4), .second, .val (.int (0 : Int32)), .val (.int y0), .val (.int y1), .val (.int y2), .val (.int y3), .val (.ref a85), .unset, .unset, .unset] [(.long p4), (.ref a87), (.ref b86), (.ref b86)])
    obtain ⟨a88, T88, h88, k1_88, X88, e88, E88, hS_, hkN, hZ, hown, CN, -, st88⟩ := ldcOH (s := s) (vm0 := T87.vm) X87 hx hZ hown (hw _ (List.mem_of_getElem? (i := 16) rfl)) (own_wS hw) e87 hS_ hk_ (own_hEL hw) CR.1 (g := (mkF m 52 #[.val (.int p1), .val (.int p2), .val (.int p3), .val (.long p4), .second, .val (.int (0 : Int32)), .val (.int y0), .val (.int y1), .val (.int y2), .val (.int y3), .val (.ref a85), .unset, .unset, .unset] [(.long p4), (.ref a87), (.ref b86), (.ref b86)])) rfl (hb hby at_52) (n := 52) (by decide) (by decide) (by decide) (by decide)
    have V85 := V85.ext E88
    have E85 := E85.ext E88
    have E_b86 := E_b86.ext E88
    have F__type_b86 := F__type_b86.ext E88
    have F__clientId_b86 := F__clientId_b86.ext E88
    have F__subject_b86 := F__subject_b86.ext E88
    have F__data_b86 := F__data_b86.ext E88
    have CR := CR.trans CN
    have hk_ := hkN
    have Z_ : n0 ≤ h88.size := Nat.le_trans Z_ E88.1
    refine OwnGoW.st st88 ?_
    show OwnGoW p e below s Z own_EL _ _ _ T88 (mkF m 54 #[.val (.int p1), .val (.int p2), .val (.int p3), .val (.long p4), .second, .val (.int (0 : Int32)), .val (.int y0), .val (.int y1), .val (.int y2), .val (.int y3), .val (.ref a85), .unset, .unset, .unset] [(.ref a88), (.long p4), (.ref a87), (.ref b86), (.ref b86)])
    refine OwnGoW.st (fun _ k => XS.aload X88.here hx rfl (hb hby at_54) rfl rfl  k) ?_
    show OwnGoW p e below s Z own_EL _ _ _ T88 (mkF m 56 #[.val (.int p1), .val (.int p2), .val (.int p3), .val (.long p4), .second, .val (.int (0 : Int32)), .val (.int y0), .val (.int y1), .val (.int y2), .val (.int y3), .val (.ref a85), .unset, .unset, .unset] [(.ref a85), (.ref a88), (.long p4), (.ref a87), (.ref b86), (.ref b86)])
    obtain ⟨_, _, ⟨T89, L89, k89, n89⟩, -, X89, ⟨Lc89, hQ89, l89, y89, z89⟩, st89⟩ := X88.specialBack hx (y := (⟨"com/example/thorough_factfind/thoroughfactfind/foundation/db/Event", "<init>", "(Ljava/lang/String;JLjava/lang/String;[B)V"⟩ : MethodName)) rfl hown (mvT hZ (hw _ (List.mem_of_getElem? (i := 17) rfl))) (mvT hZ (hw _ (List.mem_of_getElem? (i := 18) rfl))) (mvT hZ (hw _ (List.mem_of_getElem? (i := 19) rfl))) (by decide) (backOf (W := 1) (rmini l Z a0 hw [] b86 a87 p4 a88 a85 kc85 (0 : Int32) [] h88 n0 Z_ E_b86 g_b86 ne_a85_b86 F__type_b86 F__clientId_b86 F__subject_b86 F__data_b86 V85 E85 (by decide)) hZ (hw _ (List.mem_of_getElem? (i := 19) rfl)) (hw _ (List.mem_of_getElem? (i := 8) rfl)) (by decide) (by decide)) (g := (mkF m 56 #[.val (.int p1), .val (.int p2), .val (.int p3), .val (.long p4), .second, .val (.int (0 : Int32)), .val (.int y0), .val (.int y1), .val (.int y2), .val (.int y3), .val (.ref a85), .unset, .unset, .unset] [(.ref a85), (.ref a88), (.long p4), (.ref a87), (.ref b86), (.ref b86)])) rfl (by rw [hml]; rfl) (Steps.refl _) (a := b86) (argsL := [(.ref a87), (.long p4), (.ref a88), (.ref a85)]) (rest := [(.ref b86)]) (lenOf pd_2 rfl) rfl (by show 2 * 0 + _ ≤ _; exact Nat.le_of_eq rfl) (hb hby at_56) (fun _ _ => ⟨rfl, e88, (by decide : 6 + 1 ≤ _), (by decide : 116 + 4 ≤ _)⟩)
    dsimp only [Pt.U, Pt.locs, Pt.cells, Pt.slots] at X89 l89 y89 z89 st89 hQ89
    subst l89 y89 z89
    obtain ⟨rfl, N89q, K89, Eo89, c89, F89, V89, E89, zc89⟩ := hQ89
    have N89 := Fr.app N85 N89q
    have ne_a85_c89 : a85 ≠ c89 := Nat.ne_of_lt (Nat.lt_of_lt_of_le V85.lt zc89)
    have ne_b86_c89 : b86 ≠ c89 := Nat.ne_of_lt (Nat.lt_of_lt_of_le E_b86.lt zc89)
    have g_c89 : n0 ≤ c89 := Nat.le_trans Z_ zc89
    have Z_ : n0 ≤ T89.heap.size := Nat.le_trans Z_ K89.1
    have V85 := V85.keep K89 (ninS ne_a85_b86 nin0)
    have E85 := E85.keep K89
    have E_b86 := E_b86.keep K89
    have CR := CR.trans (CHr.keep K89 (sfS own_safe sf0) CR.1)
    have hk_ := Nat.le_trans hk_ K89.1
    refine OwnGoW.st (fun _ k => st89.trans k) ?_
    show OwnGoW p e below s Z own_EL _ _ _ T89 (mkF m 59 #[.val (.int p1), .val (.int p2), .val (.int p3), .val (.long p4), .second, .val (.int (0 : Int32)), .val (.int y0), .val (.int y1), .val (.int y2), .val (.int y3), .val (.ref a85), .unset, .unset, .unset] [(.ref b86)])
    refine OwnGoW.st (fun _ k => XS.astore X89.here hx rfl (hb hby at_59) rfl rfl (l' := #[.val (.int p1), .val (.int p2), .val (.int p3), .val (.long p4), .second, .val (.int (0 : Int32)), .val (.int y0), .val (.int y1), .val (.int y2), .val (.int y3), .val (.ref a85), .val (.ref b86), .unset, .unset]) rfl k) ?_
    show OwnGoW p e below s Z own_EL _ _ _ T89 (mkF m 61 #[.val (.int p1), .val (.int p2), .val (.int p3), .val (.long p4), .second, .val (.int (0 : Int32)), .val (.int y0), .val (.int y1), .val (.int y2), .val (.int y3), .val (.ref a85), .val (.ref b86), .unset, .unset] [])
    refine OwnGoW.st (fun _ k => XS.aload X89.here hx rfl (hb hby at_61) rfl rfl  k) ?_
    show OwnGoW p e below s Z own_EL _ _ _ T89 (mkF m 63 #[.val (.int p1), .val (.int p2), .val (.int p3), .val (.long p4), .second, .val (.int (0 : Int32)), .val (.int y0), .val (.int y1), .val (.int y2), .val (.int y3), .val (.ref a85), .val (.ref b86), .unset, .unset] [(.ref a85)])
    obtain ⟨_, _, ⟨T90, L90, k90, n90⟩, -, X90, ⟨Lc90, hQ90, l90, y90, z90⟩, st90⟩ := Jvm.LawKit.callS X89 hx (y := (⟨"com/example/thorough_factfind/thoroughfactfind/foundation/db/EventDataPinLaw", "bump", "([B)V"⟩ : MethodName)) hown (mvT hZ (hw _ (List.mem_of_getElem? (i := 44) rfl))) (mvT hZ (hw _ (List.mem_of_getElem? (i := 45) rfl))) (mvT hZ (hw _ (List.mem_of_getElem? (i := 3) rfl))) (mvT hZ (hw _ (List.mem_of_getElem? (i := 46) rfl))) (by decide) (backOf (W := 0) (rmbu0 l Z a0 hw [] a85 kc85 T89.heap n0 Z_ V85 g_a85) hZ (hw _ (List.mem_of_getElem? (i := 46) rfl)) (hw _ (List.mem_of_getElem? (i := 3) rfl)) (by decide) (by decide)) (g := (mkF m 63 #[.val (.int p1), .val (.int p2), .val (.int p3), .val (.long p4), .second, .val (.int (0 : Int32)), .val (.int y0), .val (.int y1), .val (.int y2), .val (.int y3), .val (.ref a85), .val (.ref b86), .unset, .unset] [(.ref a85)])) rfl (by rw [hml]; rfl) (argsL := [(.ref a85)]) (rest := []) (lenOf pd_3 rfl) rfl (by show 2 * 0 + _ ≤ _; exact Nat.le_of_eq rfl) (hb hby at_63) (fun _ _ => ⟨rfl, rfl, (by decide : 7 + 0 ≤ _), (by decide : 120 + 0 ≤ _)⟩)
    dsimp only [Pt.U, Pt.locs, Pt.cells, Pt.slots] at X90 l90 y90 z90 st90 hQ90
    subst l90 y90 z90
    obtain ⟨rfl, N90q, K90⟩ := hQ90
    have N90 := Fr.app N89 N90q
    have Z_ : n0 ≤ T90.heap.size := Nat.le_trans Z_ K90.1
    have E85 := E85.keep K90
    have E_b86 := E_b86.keep K90
    have F89 := F89.keep K90 (ninS (Ne.symm ne_a85_b86) nin0)
    have V89 := V89.keep K90 (ninS (Ne.symm ne_a85_c89) nin0)
    have E89 := E89.keep K90
    have CR := CR.trans (CHr.keep K90 (sfS own_safe sf0) CR.1)
    have hk_ := Nat.le_trans hk_ K90.1
    refine OwnGoW.st st90 ?_
    show OwnGoW p e below s Z own_EL _ _ _ T90 (mkF m 66 #[.val (.int p1), .val (.int p2), .val (.int p3), .val (.long p4), .second, .val (.int (0 : Int32)), .val (.int y0), .val (.int y1), .val (.int y2), .val (.int y3), .val (.ref a85), .val (.ref b86), .unset, .unset] [])
    refine OwnGoW.st (fun _ k => XS.aload X90.here hx rfl (hb hby at_66) rfl rfl  k) ?_
    show OwnGoW p e below s Z own_EL _ _ _ T90 (mkF m 68 #[.val (.int p1), .val (.int p2), .val (.int p3), .val (.long p4), .second, .val (.int (0 : Int32)), .val (.int y0), .val (.int y1), .val (.int y2), .val (.int y3), .val (.ref a85), .val (.ref b86), .unset, .unset] [(.ref b86)])
    obtain ⟨cq91, kq91, q91a, q91b, q91c⟩ := isOf hZ rfl E_b86
    obtain ⟨_, _, ⟨T91, L91, k91, n91⟩, -, X91, ⟨Lc91, hQ91, l91, y91, z91⟩, st91⟩ := X90.virtualBack hx (y := (⟨"com/example/thorough_factfind/thoroughfactfind/foundation/db/Event", "data", "()[B"⟩ : MethodName)) (z := (⟨"com/example/thorough_factfind/thoroughfactfind/foundation/db/Event", "data", "()[B"⟩ : MethodName)) hown (mvT hZ (hw _ (List.mem_of_getElem? (i := 47) rfl))) (mvT hZ (hw _ (List.mem_of_getElem? (i := 48) rfl))) (notFace_of_selects (args := #[]) (mvT hZ (hw _ (List.mem_of_getElem? (i := 50) rfl)))) (mvT hZ (hw _ (List.mem_of_getElem? (i := 50) rfl))) (mvT hZ (hw _ (List.mem_of_getElem? (i := 49) rfl))) (by decide) (backOf (W := 0) (rmdat l Z a0 hw [] b86 c89 kc85 (0 : Int32) [] T90.heap n0 Z_ F89 V89 E89 (by decide)) hZ (hw _ (List.mem_of_getElem? (i := 51) rfl)) (hw _ (List.mem_of_getElem? (i := 8) rfl)) (by decide) (by decide)) q91a q91c (g := (mkF m 68 #[.val (.int p1), .val (.int p2), .val (.int p3), .val (.long p4), .second, .val (.int (0 : Int32)), .val (.int y0), .val (.int y1), .val (.int y2), .val (.int y3), .val (.ref a85), .val (.ref b86), .unset, .unset] [(.ref b86)])) rfl (by rw [hml]; rfl) (Steps.refl _) (argsL := []) (rest := []) (lenOf pd_4 rfl) rfl (by show 2 * 0 + _ ≤ _; exact Nat.le_of_eq rfl) (hb hby at_68) (fun _ _ => ⟨rfl, rfl, (by decide : 7 + 1 ≤ _), (by decide : 120 + 4 ≤ _)⟩)
    dsimp only [Pt.U, Pt.locs, Pt.cells, Pt.slots] at X91 l91 y91 z91 st91 hQ91
    subst l91 y91 z91
    obtain ⟨c91, rfl, N91q, K91, V91, E91, zc91⟩ := hQ91
    have N91 := Fr.app N90 N91q
    have ne_a85_c91 : a85 ≠ c91 := Nat.ne_of_lt (Nat.lt_of_lt_of_le E85.lt zc91)
    have ne_b86_c91 : b86 ≠ c91 := Nat.ne_of_lt (Nat.lt_of_lt_of_le E_b86.lt zc91)
    have ne_c89_c91 : c89 ≠ c91 := Nat.ne_of_lt (Nat.lt_of_lt_of_le V89.lt zc91)
    have g_c91 : n0 ≤ c91 := Nat.le_trans Z_ zc91
    have Z_ : n0 ≤ T91.heap.size := Nat.le_trans Z_ K91.1
    have E85 := E85.keep K91
    have E_b86 := E_b86.keep K91
    have F89 := F89.keep K91 nin0
    have V89 := V89.keep K91 nin0
    have E89 := E89.keep K91
    have CR := CR.trans (CHr.keep K91 sf0 CR.1)
    have hk_ := Nat.le_trans hk_ K91.1
    refine OwnGoW.st (fun _ k => st91.trans k) ?_
    show OwnGoW p e below s Z own_EL _ _ _ T91 (mkF m 71 #[.val (.int p1), .val (.int p2), .val (.int p3), .val (.long p4), .second, .val (.int (0 : Int32)), .val (.int y0), .val (.int y1), .val (.int y2), .val (.int y3), .val (.ref a85), .val (.ref b86), .unset, .unset] [(.ref c91)])
    refine OwnGoW.st (fun _ k => XS.astore X91.here hx rfl (hb hby at_71) rfl rfl (l' := #[.val (.int p1), .val (.int p2), .val (.int p3), .val (.long p4), .second, .val (.int (0 : Int32)), .val (.int y0), .val (.int y1), .val (.int y2), .val (.int y3), .val (.ref a85), .val (.ref b86), .val (.ref c91), .unset]) rfl k) ?_
    show OwnGoW p e below s Z own_EL _ _ _ T91 (mkF m 73 #[.val (.int p1), .val (.int p2), .val (.int p3), .val (.long p4), .second, .val (.int (0 : Int32)), .val (.int y0), .val (.int y1), .val (.int y2), .val (.int y3), .val (.ref a85), .val (.ref b86), .val (.ref c91), .unset] [])
    refine OwnGoW.st (fun _ k => XS.aload X91.here hx rfl (hb hby at_73) rfl rfl  k) ?_
    show OwnGoW p e below s Z own_EL _ _ _ T91 (mkF m 75 #[.val (.int p1), .val (.int p2), .val (.int p3), .val (.long p4), .second, .val (.int (0 : Int32)), .val (.int y0), .val (.int y1), .val (.int y2), .val (.int y3), .val (.ref a85), .val (.ref b86), .val (.ref c91), .unset] [(.ref c91)])
    refine OwnGoW.st (fun _ k => XS.iload X91.here hx rfl (hb hby at_75) rfl  k) ?_
    show OwnGoW p e below s Z own_EL _ _ _ T91 (mkF m 77 #[.val (.int p1), .val (.int p2), .val (.int p3), .val (.long p4), .second, .val (.int (0 : Int32)), .val (.int y0), .val (.int y1), .val (.int y2), .val (.int y3), .val (.ref a85), .val (.ref b86), .val (.ref c91), .unset] [(.int (0 : Int32)), (.ref c91)])
    refine OwnGoW.st (fun _ k => XS.iload X91.here hx rfl (hb hby at_77) rfl  k) ?_
    show OwnGoW p e below s Z own_EL _ _ _ T91 (mkF m 79 #[.val (.int p1), .val (.int p2), .val (.int p3), .val (.long p4), .second, .val (.int (0 : Int32)), .val (.int y0), .val (.int y1), .val (.int y2), .val (.int y3), .val (.ref a85), .val (.ref b86), .val (.ref c91), .unset] [(.int y0), (.int (0 : Int32)), (.ref c91)])
    refine OwnGoW.st (fun _ k => XS.iload X91.here hx rfl (hb hby at_79) rfl  k) ?_
    show OwnGoW p e below s Z own_EL _ _ _ T91 (mkF m 81 #[.val (.int p1), .val (.int p2), .val (.int p3), .val (.long p4), .second, .val (.int (0 : Int32)), .val (.int y0), .val (.int y1), .val (.int y2), .val (.int y3), .val (.ref a85), .val (.ref b86), .val (.ref c91), .unset] [(.int y1), (.int y0), (.int (0 : Int32)), (.ref c91)])
    refine OwnGoW.st (fun _ k => XS.iload X91.here hx rfl (hb hby at_81) rfl  k) ?_
    show OwnGoW p e below s Z own_EL _ _ _ T91 (mkF m 83 #[.val (.int p1), .val (.int p2), .val (.int p3), .val (.long p4), .second, .val (.int (0 : Int32)), .val (.int y0), .val (.int y1), .val (.int y2), .val (.int y3), .val (.ref a85), .val (.ref b86), .val (.ref c91), .unset] [(.int y2), (.int y1), (.int y0), (.int (0 : Int32)), (.ref c91)])
    refine OwnGoW.st (fun _ k => XS.iload X91.here hx rfl (hb hby at_83) rfl  k) ?_
    show OwnGoW p e below s Z own_EL _ _ _ T91 (mkF m 85 #[.val (.int p1), .val (.int p2), .val (.int p3), .val (.long p4), .second, .val (.int (0 : Int32)), .val (.int y0), .val (.int y1), .val (.int y2), .val (.int y3), .val (.ref a85), .val (.ref b86), .val (.ref c91), .unset] [(.int y3), (.int y2), (.int y1), (.int y0), (.int (0 : Int32)), (.ref c91)])
    obtain ⟨_, _, ⟨T92, L92, k92, n92⟩, -, X92, ⟨Lc92, hQ92, l92, y92, z92⟩, st92⟩ := Jvm.LawKit.callS X91 hx (y := (⟨"com/example/thorough_factfind/thoroughfactfind/foundation/db/EventDataPinLaw", "same", "([BIBBBB)Z"⟩ : MethodName)) hown (mvT hZ (hw _ (List.mem_of_getElem? (i := 52) rfl))) (mvT hZ (hw _ (List.mem_of_getElem? (i := 53) rfl))) (mvT hZ (hw _ (List.mem_of_getElem? (i := 3) rfl))) (mvT hZ (hw _ (List.mem_of_getElem? (i := 54) rfl))) (by decide) (backOf (W := 0) (rmsa0 l Z a0 hw [] c91 kc85 y0 y1 y2 y3 T91.heap n0 Z_ V91) hZ (hw _ (List.mem_of_getElem? (i := 54) rfl)) (hw _ (List.mem_of_getElem? (i := 3) rfl)) (by decide) (by decide)) (g := (mkF m 85 #[.val (.int p1), .val (.int p2), .val (.int p3), .val (.long p4), .second, .val (.int (0 : Int32)), .val (.int y0), .val (.int y1), .val (.int y2), .val (.int y3), .val (.ref a85), .val (.ref b86), .val (.ref c91), .unset] [(.int y3), (.int y2), (.int y1), (.int y0), (.int (0 : Int32)), (.ref c91)])) rfl (by rw [hml]; rfl) (argsL := [(.ref c91), (.int (0 : Int32)), (.int y0), (.int y1), (.int y2), (.int y3)]) (rest := []) (lenOf pd_5 rfl) rfl (by show 2 * 0 + _ ≤ _; exact Nat.le_of_eq rfl) (hb hby at_85) (fun _ _ => ⟨rfl, rfl, (by decide : 8 + 0 ≤ _), (by decide : 124 + 0 ≤ _)⟩)
    dsimp only [Pt.U, Pt.locs, Pt.cells, Pt.slots] at X92 l92 y92 z92 st92 hQ92
    subst l92 y92 z92
    obtain ⟨rfl, N92q, e92⟩ := hQ92
    have N92 := Fr.app N91 N92q
    refine OwnGoW.st st92 ?_
    show OwnGoW p e below s Z own_EL _ _ _ T92 (mkF m 88 #[.val (.int p1), .val (.int p2), .val (.int p3), .val (.long p4), .second, .val (.int (0 : Int32)), .val (.int y0), .val (.int y1), .val (.int y2), .val (.int y3), .val (.ref a85), .val (.ref b86), .val (.ref c91), .unset] [(.int (1 : Int32))])
    refine OwnGoW.st (fun _ k => XS.ifYes X92.here hx rfl (pc0 := 88) (pc' := 93) rfl (hb hby at_88) rfl ((if0 _ _).trans (feq ((by decide) : ¬ ((1 : Int32) = (0 : Int32)))).2) (by decide) (by decide) k) ?_
    show OwnGoW p e below s Z own_EL _ _ _ T92 (mkF m 93 #[.val (.int p1), .val (.int p2), .val (.int p3), .val (.long p4), .second, .val (.int (0 : Int32)), .val (.int y0), .val (.int y1), .val (.int y2), .val (.int y3), .val (.ref a85), .val (.ref b86), .val (.ref c91), .unset] [])
    refine OwnGoW.st (fun _ k => XS.aload X92.here hx rfl (hb hby at_93) rfl rfl  k) ?_
    show OwnGoW p e below s Z own_EL _ _ _ T92 (mkF m 95 #[.val (.int p1), .val (.int p2), .val (.int p3), .val (.long p4), .second, .val (.int (0 : Int32)), .val (.int y0), .val (.int y1), .val (.int y2), .val (.int y3), .val (.ref a85), .val (.ref b86), .val (.ref c91), .unset] [(.ref c91)])
    obtain ⟨_, _, ⟨T93, L93, k93, n93⟩, -, X93, ⟨Lc93, hQ93, l93, y93, z93⟩, st93⟩ := Jvm.LawKit.callS X92 hx (y := (⟨"com/example/thorough_factfind/thoroughfactfind/foundation/db/EventDataPinLaw", "bump", "([B)V"⟩ : MethodName)) hown (mvT hZ (hw _ (List.mem_of_getElem? (i := 44) rfl))) (mvT hZ (hw _ (List.mem_of_getElem? (i := 45) rfl))) (mvT hZ (hw _ (List.mem_of_getElem? (i := 3) rfl))) (mvT hZ (hw _ (List.mem_of_getElem? (i := 46) rfl))) (by decide) (backOf (W := 0) (rmbu0 l Z a0 hw [] c91 kc85 T91.heap n0 Z_ V91 g_c91) hZ (hw _ (List.mem_of_getElem? (i := 46) rfl)) (hw _ (List.mem_of_getElem? (i := 3) rfl)) (by decide) (by decide)) (g := (mkF m 95 #[.val (.int p1), .val (.int p2), .val (.int p3), .val (.long p4), .second, .val (.int (0 : Int32)), .val (.int y0), .val (.int y1), .val (.int y2), .val (.int y3), .val (.ref a85), .val (.ref b86), .val (.ref c91), .unset] [(.ref c91)])) rfl (by rw [hml]; rfl) (argsL := [(.ref c91)]) (rest := []) (lenOf pd_3 rfl) rfl (by show 2 * 0 + _ ≤ _; exact Nat.le_of_eq rfl) (hb hby at_95) (fun _ _ => ⟨rfl, e92, (by decide : 8 + 0 ≤ _), (by decide : 124 + 0 ≤ _)⟩)
    dsimp only [Pt.U, Pt.locs, Pt.cells, Pt.slots] at X93 l93 y93 z93 st93 hQ93
    subst l93 y93 z93
    obtain ⟨rfl, N93q, K93⟩ := hQ93
    have N93 := Fr.app N92 N93q
    have Z_ : n0 ≤ T93.heap.size := Nat.le_trans Z_ K93.1
    have E85 := E85.keep K93
    have E_b86 := E_b86.keep K93
    have F89 := F89.keep K93 (ninS ne_b86_c91 nin0)
    have V89 := V89.keep K93 (ninS ne_c89_c91 nin0)
    have E89 := E89.keep K93
    have E91 := E91.keep K93
    have CR := CR.trans (CHr.keep K93 (sfS own_safe sf0) CR.1)
    have hk_ := Nat.le_trans hk_ K93.1
    refine OwnGoW.st st93 ?_
    show OwnGoW p e below s Z own_EL _ _ _ T93 (mkF m 98 #[.val (.int p1), .val (.int p2), .val (.int p3), .val (.long p4), .second, .val (.int (0 : Int32)), .val (.int y0), .val (.int y1), .val (.int y2), .val (.int y3), .val (.ref a85), .val (.ref b86), .val (.ref c91), .unset] [])
    refine OwnGoW.st (fun _ k => XS.aload X93.here hx rfl (hb hby at_98) rfl rfl  k) ?_
    show OwnGoW p e below s Z own_EL _ _ _ T93 (mkF m 100 #[.val (.int p1), .val (.int p2), .val (.int p3), .val (.long p4), .second, .val (.int (0 : Int32)), .val (.int y0), .val (.int y1), .val (.int y2), .val (.int y3), .val (.ref a85), .val (.ref b86), .val (.ref c91), .unset] [(.ref b86)])
    obtain ⟨cq94, kq94, q94a, q94b, q94c⟩ := isOf hZ rfl E_b86
    obtain ⟨_, _, ⟨T94, L94, k94, n94⟩, -, X94, ⟨Lc94, hQ94, l94, y94, z94⟩, st94⟩ := X93.virtualBack hx (y := (⟨"com/example/thorough_factfind/thoroughfactfind/foundation/db/Event", "data", "()[B"⟩ : MethodName)) (z := (⟨"com/example/thorough_factfind/thoroughfactfind/foundation/db/Event", "data", "()[B"⟩ : MethodName)) hown (mvT hZ (hw _ (List.mem_of_getElem? (i := 47) rfl))) (mvT hZ (hw _ (List.mem_of_getElem? (i := 48) rfl))) (notFace_of_selects (args := #[]) (mvT hZ (hw _ (List.mem_of_getElem? (i := 50) rfl)))) (mvT hZ (hw _ (List.mem_of_getElem? (i := 50) rfl))) (mvT hZ (hw _ (List.mem_of_getElem? (i := 49) rfl))) (by decide) (backOf (W := 0) (rmdat l Z a0 hw [] b86 c89 kc85 (0 : Int32) [] T93.heap n0 Z_ F89 V89 E89 (by decide)) hZ (hw _ (List.mem_of_getElem? (i := 51) rfl)) (hw _ (List.mem_of_getElem? (i := 8) rfl)) (by decide) (by decide)) q94a q94c (g := (mkF m 100 #[.val (.int p1), .val (.int p2), .val (.int p3), .val (.long p4), .second, .val (.int (0 : Int32)), .val (.int y0), .val (.int y1), .val (.int y2), .val (.int y3), .val (.ref a85), .val (.ref b86), .val (.ref c91), .unset] [(.ref b86)])) rfl (by rw [hml]; rfl) (Steps.refl _) (argsL := []) (rest := []) (lenOf pd_4 rfl) rfl (by show 2 * 0 + _ ≤ _; exact Nat.le_of_eq rfl) (hb hby at_100) (fun _ _ => ⟨rfl, rfl, (by decide : 8 + 1 ≤ _), (by decide : 124 + 4 ≤ _)⟩)
    dsimp only [Pt.U, Pt.locs, Pt.cells, Pt.slots] at X94 l94 y94 z94 st94 hQ94
    subst l94 y94 z94
    obtain ⟨c94, rfl, N94q, K94, V94, E94, zc94⟩ := hQ94
    have N94 := Fr.app N93 N94q
    have ne_a85_c94 : a85 ≠ c94 := Nat.ne_of_lt (Nat.lt_of_lt_of_le E85.lt zc94)
    have ne_b86_c94 : b86 ≠ c94 := Nat.ne_of_lt (Nat.lt_of_lt_of_le E_b86.lt zc94)
    have ne_c89_c94 : c89 ≠ c94 := Nat.ne_of_lt (Nat.lt_of_lt_of_le V89.lt zc94)
    have ne_c91_c94 : c91 ≠ c94 := Nat.ne_of_lt (Nat.lt_of_lt_of_le E91.lt zc94)
    have g_c94 : n0 ≤ c94 := Nat.le_trans Z_ zc94
    have Z_ : n0 ≤ T94.heap.size := Nat.le_trans Z_ K94.1
    have E85 := E85.keep K94
    have E_b86 := E_b86.keep K94
    have F89 := F89.keep K94 nin0
    have V89 := V89.keep K94 nin0
    have E89 := E89.keep K94
    have E91 := E91.keep K94
    have CR := CR.trans (CHr.keep K94 sf0 CR.1)
    have hk_ := Nat.le_trans hk_ K94.1
    refine OwnGoW.st (fun _ k => st94.trans k) ?_
    show OwnGoW p e below s Z own_EL _ _ _ T94 (mkF m 103 #[.val (.int p1), .val (.int p2), .val (.int p3), .val (.long p4), .second, .val (.int (0 : Int32)), .val (.int y0), .val (.int y1), .val (.int y2), .val (.int y3), .val (.ref a85), .val (.ref b86), .val (.ref c91), .unset] [(.ref c94)])
    refine OwnGoW.st (fun _ k => XS.astore X94.here hx rfl (hb hby at_103) rfl rfl (l' := #[.val (.int p1), .val (.int p2), .val (.int p3), .val (.long p4), .second, .val (.int (0 : Int32)), .val (.int y0), .val (.int y1), .val (.int y2), .val (.int y3), .val (.ref a85), .val (.ref b86), .val (.ref c91), .val (.ref c94)]) rfl k) ?_
    show OwnGoW p e below s Z own_EL _ _ _ T94 (mkF m 105 #[.val (.int p1), .val (.int p2), .val (.int p3), .val (.long p4), .second, .val (.int (0 : Int32)), .val (.int y0), .val (.int y1), .val (.int y2), .val (.int y3), .val (.ref a85), .val (.ref b86), .val (.ref c91), .val (.ref c94)] [])
    refine OwnGoW.st (fun _ k => XS.aload X94.here hx rfl (hb hby at_105) rfl rfl  k) ?_
    show OwnGoW p e below s Z own_EL _ _ _ T94 (mkF m 107 #[.val (.int p1), .val (.int p2), .val (.int p3), .val (.long p4), .second, .val (.int (0 : Int32)), .val (.int y0), .val (.int y1), .val (.int y2), .val (.int y3), .val (.ref a85), .val (.ref b86), .val (.ref c91), .val (.ref c94)] [(.ref c94)])
    refine OwnGoW.st (fun _ k => XS.iload X94.here hx rfl (hb hby at_107) rfl  k) ?_
    show OwnGoW p e below s Z own_EL _ _ _ T94 (mkF m 109 #[.val (.int p1), .val (.int p2), .val (.int p3), .val (.long p4), .second, .val (.int (0 : Int32)), .val (.int y0), .val (.int y1), .val (.int y2), .val (.int y3), .val (.ref a85), .val (.ref b86), .val (.ref c91), .val (.ref c94)] [(.int (0 : Int32)), (.ref c94)])
    refine OwnGoW.st (fun _ k => XS.iload X94.here hx rfl (hb hby at_109) rfl  k) ?_
    show OwnGoW p e below s Z own_EL _ _ _ T94 (mkF m 111 #[.val (.int p1), .val (.int p2), .val (.int p3), .val (.long p4), .second, .val (.int (0 : Int32)), .val (.int y0), .val (.int y1), .val (.int y2), .val (.int y3), .val (.ref a85), .val (.ref b86), .val (.ref c91), .val (.ref c94)] [(.int y0), (.int (0 : Int32)), (.ref c94)])
    refine OwnGoW.st (fun _ k => XS.iload X94.here hx rfl (hb hby at_111) rfl  k) ?_
    show OwnGoW p e below s Z own_EL _ _ _ T94 (mkF m 113 #[.val (.int p1), .val (.int p2), .val (.int p3), .val (.long p4), .second, .val (.int (0 : Int32)), .val (.int y0), .val (.int y1), .val (.int y2), .val (.int y3), .val (.ref a85), .val (.ref b86), .val (.ref c91), .val (.ref c94)] [(.int y1), (.int y0), (.int (0 : Int32)), (.ref c94)])
    refine OwnGoW.st (fun _ k => XS.iload X94.here hx rfl (hb hby at_113) rfl  k) ?_
    show OwnGoW p e below s Z own_EL _ _ _ T94 (mkF m 115 #[.val (.int p1), .val (.int p2), .val (.int p3), .val (.long p4), .second, .val (.int (0 : Int32)), .val (.int y0), .val (.int y1), .val (.int y2), .val (.int y3), .val (.ref a85), .val (.ref b86), .val (.ref c91), .val (.ref c94)] [(.int y2), (.int y1), (.int y0), (.int (0 : Int32)), (.ref c94)])
    refine OwnGoW.st (fun _ k => XS.iload X94.here hx rfl (hb hby at_115) rfl  k) ?_
    show OwnGoW p e below s Z own_EL _ _ _ T94 (mkF m 117 #[.val (.int p1), .val (.int p2), .val (.int p3), .val (.long p4), .second, .val (.int (0 : Int32)), .val (.int y0), .val (.int y1), .val (.int y2), .val (.int y3), .val (.ref a85), .val (.ref b86), .val (.ref c91), .val (.ref c94)] [(.int y3), (.int y2), (.int y1), (.int y0), (.int (0 : Int32)), (.ref c94)])
    obtain ⟨_, _, ⟨T95, L95, k95, n95⟩, -, X95, ⟨Lc95, hQ95, l95, y95, z95⟩, st95⟩ := Jvm.LawKit.callS X94 hx (y := (⟨"com/example/thorough_factfind/thoroughfactfind/foundation/db/EventDataPinLaw", "same", "([BIBBBB)Z"⟩ : MethodName)) hown (mvT hZ (hw _ (List.mem_of_getElem? (i := 52) rfl))) (mvT hZ (hw _ (List.mem_of_getElem? (i := 53) rfl))) (mvT hZ (hw _ (List.mem_of_getElem? (i := 3) rfl))) (mvT hZ (hw _ (List.mem_of_getElem? (i := 54) rfl))) (by decide) (backOf (W := 0) (rmsa0 l Z a0 hw [] c94 kc85 y0 y1 y2 y3 T94.heap n0 Z_ V94) hZ (hw _ (List.mem_of_getElem? (i := 54) rfl)) (hw _ (List.mem_of_getElem? (i := 3) rfl)) (by decide) (by decide)) (g := (mkF m 117 #[.val (.int p1), .val (.int p2), .val (.int p3), .val (.long p4), .second, .val (.int (0 : Int32)), .val (.int y0), .val (.int y1), .val (.int y2), .val (.int y3), .val (.ref a85), .val (.ref b86), .val (.ref c91), .val (.ref c94)] [(.int y3), (.int y2), (.int y1), (.int y0), (.int (0 : Int32)), (.ref c94)])) rfl (by rw [hml]; rfl) (argsL := [(.ref c94), (.int (0 : Int32)), (.int y0), (.int y1), (.int y2), (.int y3)]) (rest := []) (lenOf pd_5 rfl) rfl (by show 2 * 0 + _ ≤ _; exact Nat.le_of_eq rfl) (hb hby at_117) (fun _ _ => ⟨rfl, rfl, (by decide : 9 + 0 ≤ _), (by decide : 128 + 0 ≤ _)⟩)
    dsimp only [Pt.U, Pt.locs, Pt.cells, Pt.slots] at X95 l95 y95 z95 st95 hQ95
    subst l95 y95 z95
    obtain ⟨rfl, N95q, e95⟩ := hQ95
    have N95 := Fr.app N94 N95q
    refine OwnGoW.st st95 ?_
    show OwnGoW p e below s Z own_EL _ _ _ T95 (mkF m 120 #[.val (.int p1), .val (.int p2), .val (.int p3), .val (.long p4), .second, .val (.int (0 : Int32)), .val (.int y0), .val (.int y1), .val (.int y2), .val (.int y3), .val (.ref a85), .val (.ref b86), .val (.ref c91), .val (.ref c94)] [(.int (1 : Int32))])
    exact OwnGoW.retN (s := s) (vm0 := T88.vm) X95 hS_ hk_ e95 hZ (own_hEL hw) CR hx (t := .boolean) hret hlk (by simp) (hb hby at_120) (by show Q0 Z p1 p2 p3 p4 h0 n0 _ T95.heap _; rw [e95]; exact ⟨rfl, N95⟩) (by decide) (by decide)
  · show OwnGoW p e below s Z own_EL _ _ _ s₁ (mkF m 30 #[.val (.int p1), .val (.int p2), .val (.int p3), .val (.long p4), .second, .val (.int (1 : Int32)), .val (.int y0), .val (.int y1), .val (.int y2), .val (.int y3), .unset, .unset, .unset, .unset] [])
    refine OwnGoW.st (fun _ k => XS.iload X0.here hx rfl (hb hby at_30) rfl  k) ?_
    show OwnGoW p e below s Z own_EL _ _ _ s₁ (mkF m 32 #[.val (.int p1), .val (.int p2), .val (.int p3), .val (.long p4), .second, .val (.int (1 : Int32)), .val (.int y0), .val (.int y1), .val (.int y2), .val (.int y3), .unset, .unset, .unset, .unset] [(.int (1 : Int32))])
    refine OwnGoW.st (fun _ k => XS.iload X0.here hx rfl (hb hby at_32) rfl  k) ?_
    show OwnGoW p e below s Z own_EL _ _ _ s₁ (mkF m 34 #[.val (.int p1), .val (.int p2), .val (.int p3), .val (.long p4), .second, .val (.int (1 : Int32)), .val (.int y0), .val (.int y1), .val (.int y2), .val (.int y3), .unset, .unset, .unset, .unset] [(.int y0), (.int (1 : Int32))])
    refine OwnGoW.st (fun _ k => XS.iload X0.here hx rfl (hb hby at_34) rfl  k) ?_
    show OwnGoW p e below s Z own_EL _ _ _ s₁ (mkF m 36 #[.val (.int p1), .val (.int p2), .val (.int p3), .val (.long p4), .second, .val (.int (1 : Int32)), .val (.int y0), .val (.int y1), .val (.int y2), .val (.int y3), .unset, .unset, .unset, .unset] [(.int y1), (.int y0), (.int (1 : Int32))])
    refine OwnGoW.st (fun _ k => XS.iload X0.here hx rfl (hb hby at_36) rfl  k) ?_
    show OwnGoW p e below s Z own_EL _ _ _ s₁ (mkF m 38 #[.val (.int p1), .val (.int p2), .val (.int p3), .val (.long p4), .second, .val (.int (1 : Int32)), .val (.int y0), .val (.int y1), .val (.int y2), .val (.int y3), .unset, .unset, .unset, .unset] [(.int y2), (.int y1), (.int y0), (.int (1 : Int32))])
    refine OwnGoW.st (fun _ k => XS.iload X0.here hx rfl (hb hby at_38) rfl  k) ?_
    show OwnGoW p e below s Z own_EL _ _ _ s₁ (mkF m 40 #[.val (.int p1), .val (.int p2), .val (.int p3), .val (.long p4), .second, .val (.int (1 : Int32)), .val (.int y0), .val (.int y1), .val (.int y2), .val (.int y3), .unset, .unset, .unset, .unset] [(.int y3), (.int y2), (.int y1), (.int y0), (.int (1 : Int32))])
    obtain ⟨_, _, ⟨T96, L96, k96, n96⟩, -, X96, ⟨Lc96, hQ96, l96, y96, z96⟩, st96⟩ := Jvm.LawKit.callS X0 hx (y := (⟨"com/example/thorough_factfind/thoroughfactfind/foundation/db/EventDataPinLaw", "make", "(IBBBB)[B"⟩ : MethodName)) hown (mvT hZ (hw _ (List.mem_of_getElem? (i := 1) rfl))) (mvT hZ (hw _ (List.mem_of_getElem? (i := 2) rfl))) (mvT hZ (hw _ (List.mem_of_getElem? (i := 3) rfl))) (mvT hZ (hw _ (List.mem_of_getElem? (i := 4) rfl))) (by decide) (backOf (W := 0) (rmmk1 l Z a0 hw [] y0 y1 y2 y3 h0 n0 Z_ (by rw [hy0]; exact own_nb _) (by rw [hy1]; exact own_nb _) (by rw [hy2]; exact own_nb _) (by rw [hy3]; exact own_nb _)) hZ (hw _ (List.mem_of_getElem? (i := 4) rfl)) (hw _ (List.mem_of_getElem? (i := 3) rfl)) (by decide) (by decide)) (g := (mkF m 40 #[.val (.int p1), .val (.int p2), .val (.int p3), .val (.long p4), .second, .val (.int (1 : Int32)), .val (.int y0), .val (.int y1), .val (.int y2), .val (.int y3), .unset, .unset, .unset, .unset] [(.int y3), (.int y2), (.int y1), (.int y0), (.int (1 : Int32))])) rfl (by rw [hml]; rfl) (argsL := [(.int (1 : Int32)), (.int y0), (.int y1), (.int y2), (.int y3)]) (rest := []) (lenOf pd_1 rfl) rfl (by show 2 * 0 + _ ≤ _; exact Nat.le_of_eq rfl) (hb hby at_40) (fun _ _ => ⟨rfl, e0, (by decide : 0 + 1 ≤ _), (by decide : 0 + 1 ≤ _)⟩)
    dsimp only [Pt.U, Pt.locs, Pt.cells, Pt.slots] at X96 l96 y96 z96 st96 hQ96
    subst l96 y96 z96
    obtain ⟨a96, kc96, rfl, N96q, K96, V96, E96, za96⟩ := hQ96
    have N96 := Fr.app N0 N96q
    have g_a96 : n0 ≤ a96 := Nat.le_trans Z_ za96
    have Z_ : n0 ≤ T96.heap.size := Nat.le_trans Z_ K96.1
    have CR := CR.trans (CHr.keep K96 sf0 CR.1)
    have hk_ := Nat.le_trans hk_ K96.1
    refine OwnGoW.st st96 ?_
    show OwnGoW p e below s Z own_EL _ _ _ T96 (mkF m 43 #[.val (.int p1), .val (.int p2), .val (.int p3), .val (.long p4), .second, .val (.int (1 : Int32)), .val (.int y0), .val (.int y1), .val (.int y2), .val (.int y3), .unset, .unset, .unset, .unset] [(.ref a96)])
    refine OwnGoW.st (fun _ k => XS.astore X96.here hx rfl (hb hby at_43) rfl rfl (l' := #[.val (.int p1), .val (.int p2), .val (.int p3), .val (.long p4), .second, .val (.int (1 : Int32)), .val (.int y0), .val (.int y1), .val (.int y2), .val (.int y3), .val (.ref a96), .unset, .unset, .unset]) rfl k) ?_
    show OwnGoW p e below s Z own_EL _ _ _ T96 (mkF m 45 #[.val (.int p1), .val (.int p2), .val (.int p3), .val (.long p4), .second, .val (.int (1 : Int32)), .val (.int y0), .val (.int y1), .val (.int y2), .val (.int y3), .val (.ref a96), .unset, .unset, .unset] [])
    obtain ⟨T97, h97, X97, e97, E97, A97, D97, -, st97⟩ := newO X96 hx hZ hown (hw _ (List.mem_of_getElem? (i := 6) rfl)) (hw _ (List.mem_of_getElem? (i := 7) rfl)) (hw _ (List.mem_of_getElem? (i := 8) rfl)) rfl (g := (mkF m 45 #[.val (.int p1), .val (.int p2), .val (.int p3), .val (.long p4), .second, .val (.int (1 : Int32)), .val (.int y0), .val (.int y1), .val (.int y2), .val (.int y3), .val (.ref a96), .unset, .unset, .unset] [])) rfl (hb hby at_45) (by decide) (by decide)
    obtain ⟨b97, g97⟩ : ∃ z, z = T96.heap.size := ⟨_, rfl⟩
    rw [← g97] at A97 D97 st97
    have ne_a96_b97 : a96 ≠ b97 := Nat.ne_of_lt (Nat.lt_of_lt_of_le V96.lt (Nat.le_of_eq g97.symm))
    have g_b97 : n0 ≤ b97 := Nat.le_trans Z_ (Nat.le_of_eq g97.symm)
    have V96 := V96.ext E97
    have E96 := E96.ext E97
    have CR := CR.trans (CHr.ext E97 CR.1)
    have hk_ := Nat.le_trans hk_ E97.1
    have Z_ : n0 ≤ h97.size := Nat.le_trans Z_ E97.1
    have E_b97 := A97
    have F__type_b97 : Fld Z h97 b97 "com/example/thorough_factfind/thoroughfactfind/foundation/db/Event" "_type" "Ljava/lang/String;" .null := D97 (Or.inr (hw _ (List.mem_of_getElem? (i := 24) rfl))) (ty := (.object "java/lang/String")) (by decide)
    have F__clientId_b97 : Fld Z h97 b97 "com/example/thorough_factfind/thoroughfactfind/foundation/db/Event" "_clientId" "J" (.long (0 : Int64)) := D97 (Or.inr (hw _ (List.mem_of_getElem? (i := 26) rfl))) (ty := .long) (by decide)
    have F__subject_b97 : Fld Z h97 b97 "com/example/thorough_factfind/thoroughfactfind/foundation/db/Event" "_subject" "Ljava/lang/String;" .null := D97 (Or.inr (hw _ (List.mem_of_getElem? (i := 28) rfl))) (ty := (.object "java/lang/String")) (by decide)
    have F__data_b97 : Fld Z h97 b97 "com/example/thorough_factfind/thoroughfactfind/foundation/db/Event" "_data" "[B" .null := D97 (Or.inr (hw _ (List.mem_of_getElem? (i := 43) rfl))) (ty := (.array .byte)) (by decide)
    refine OwnGoW.st st97 ?_
    show OwnGoW p e below s Z own_EL _ _ _ T97 (mkF m 48 #[.val (.int p1), .val (.int p2), .val (.int p3), .val (.long p4), .second, .val (.int (1 : Int32)), .val (.int y0), .val (.int y1), .val (.int y2), .val (.int y3), .val (.ref a96), .unset, .unset, .unset] [(.ref b97)])
    refine OwnGoW.st (fun _ k => XS.dup X97.here hx rfl (hb hby at_48) rfl rfl k) ?_
    show OwnGoW p e below s Z own_EL _ _ _ T97 (mkF m 49 #[.val (.int p1), .val (.int p2), .val (.int p3), .val (.long p4), .second, .val (.int (1 : Int32)), .val (.int y0), .val (.int y1), .val (.int y2), .val (.int y3), .val (.ref a96), .unset, .unset, .unset] [(.ref b97), (.ref b97)])
    obtain ⟨a98, T98, h98, k1_98, X98, e98, E98, hS_, hkN, hZ, hown, CN, -, st98⟩ := ldcOH (s := s) (vm0 := s.vm) X97 hx hZ hown (hw _ (List.mem_of_getElem? (i := 9) rfl)) (own_wS hw) e97 hS_ hk_ (own_hEL hw) CR.1 (g := (mkF m 49 #[.val (.int p1), .val (.int p2), .val (.int p3), .val (.long p4), .second, .val (.int (1 : Int32)), .val (.int y0), .val (.int y1), .val (.int y2), .val (.int y3), .val (.ref a96), .unset, .unset, .unset] [(.ref b97), (.ref b97)])) rfl (hb hby at_49) (n := 52) (by decide) (by decide) (by decide) (by decide)
    have V96 := V96.ext E98
    have E96 := E96.ext E98
    have E_b97 := E_b97.ext E98
    have F__type_b97 := F__type_b97.ext E98
    have F__clientId_b97 := F__clientId_b97.ext E98
    have F__subject_b97 := F__subject_b97.ext E98
    have F__data_b97 := F__data_b97.ext E98
    have CR := CR.trans CN
    have hk_ := hkN
    have Z_ : n0 ≤ h98.size := Nat.le_trans Z_ E98.1
    refine OwnGoW.st st98 ?_
    show OwnGoW p e below s Z own_EL _ _ _ T98 (mkF m 51 #[.val (.int p1), .val (.int p2), .val (.int p3), .val (.long p4), .second, .val (.int (1 : Int32)), .val (.int y0), .val (.int y1), .val (.int y2), .val (.int y3), .val (.ref a96), .unset, .unset, .unset] [(.ref a98), (.ref b97), (.ref b97)])
    refine OwnGoW.st (fun _ k => XS.lloadN X98.here hx rfl (hb hby at_51) rfl  k) ?_
    show OwnGoW p e below s Z own_EL _ _ _ T98 (mkF m 52 #[.val (.int p1), .val (.int p2), .val (.int p3), .val (.long p4), .second, .val (.int (1 : Int32)), .val (.int y0), .val (.int y1), .val (.int y2), .val (.int y3), .val (.ref a96), .unset, .unset, .unset] [(.long p4), (.ref a98), (.ref b97), (.ref b97)])
    obtain ⟨a99, T99, h99, k1_99, X99, e99, E99, hS_, hkN, hZ, hown, CN, -, st99⟩ := ldcOH (s := s) (vm0 := T98.vm) X98 hx hZ hown (hw _ (List.mem_of_getElem? (i := 16) rfl)) (own_wS hw) e98 hS_ hk_ (own_hEL hw) CR.1 (g := (mkF m 52 #[.val (.int p1), .val (.int p2), .val (.int p3), .val (.long p4), .second, .val (.int (1 : Int32)), .val (.int y0), .val (.int y1), .val (.int y2), .val (.int y3), .val (.ref a96), .unset, .unset, .unset] [(.long p4), (.ref a98), (.ref b97), (.ref b97)])) rfl (hb hby at_52) (n := 52) (by decide) (by decide) (by decide) (by decide)
    have V96 := V96.ext E99
    have E96 := E96.ext E99
    have E_b97 := E_b97.ext E99
    have F__type_b97 := F__type_b97.ext E99
    have F__clientId_b97 := F__clientId_b97.ext E99
    have F__subject_b97 := F__subject_b97.ext E99
    have F__data_b97 := F__data_b97.ext E99
    have CR := CR.trans CN
    have hk_ := hkN
    have Z_ : n0 ≤ h99.size := Nat.le_trans Z_ E99.1
    refine OwnGoW.st st99 ?_
    show OwnGoW p e below s Z own_EL _ _ _ T99 (mkF m 54 #[.val (.int p1), .val (.int p2), .val (.int p3), .val (.long p4), .second, .val (.int (1 : Int32)), .val (.int y0), .val (.int y1), .val (.int y2), .val (.int y3), .val (.ref a96), .unset, .unset, .unset] [(.ref a99), (.long p4), (.ref a98), (.ref b97), (.ref b97)])
    refine OwnGoW.st (fun _ k => XS.aload X99.here hx rfl (hb hby at_54) rfl rfl  k) ?_
    show OwnGoW p e below s Z own_EL _ _ _ T99 (mkF m 56 #[.val (.int p1), .val (.int p2), .val (.int p3), .val (.long p4), .second, .val (.int (1 : Int32)), .val (.int y0), .val (.int y1), .val (.int y2), .val (.int y3), .val (.ref a96), .unset, .unset, .unset] [(.ref a96), (.ref a99), (.long p4), (.ref a98), (.ref b97), (.ref b97)])
    obtain ⟨_, _, ⟨T100, L100, k100, n100⟩, -, X100, ⟨Lc100, hQ100, l100, y100, z100⟩, st100⟩ := X99.specialBack hx (y := (⟨"com/example/thorough_factfind/thoroughfactfind/foundation/db/Event", "<init>", "(Ljava/lang/String;JLjava/lang/String;[B)V"⟩ : MethodName)) rfl hown (mvT hZ (hw _ (List.mem_of_getElem? (i := 17) rfl))) (mvT hZ (hw _ (List.mem_of_getElem? (i := 18) rfl))) (mvT hZ (hw _ (List.mem_of_getElem? (i := 19) rfl))) (by decide) (backOf (W := 1) (rmini l Z a0 hw [] b97 a98 p4 a99 a96 kc96 (1 : Int32) [(.int y0)] h99 n0 Z_ E_b97 g_b97 ne_a96_b97 F__type_b97 F__clientId_b97 F__subject_b97 F__data_b97 V96 E96 (by decide)) hZ (hw _ (List.mem_of_getElem? (i := 19) rfl)) (hw _ (List.mem_of_getElem? (i := 8) rfl)) (by decide) (by decide)) (g := (mkF m 56 #[.val (.int p1), .val (.int p2), .val (.int p3), .val (.long p4), .second, .val (.int (1 : Int32)), .val (.int y0), .val (.int y1), .val (.int y2), .val (.int y3), .val (.ref a96), .unset, .unset, .unset] [(.ref a96), (.ref a99), (.long p4), (.ref a98), (.ref b97), (.ref b97)])) rfl (by rw [hml]; rfl) (Steps.refl _) (a := b97) (argsL := [(.ref a98), (.long p4), (.ref a99), (.ref a96)]) (rest := [(.ref b97)]) (lenOf pd_2 rfl) rfl (by show 2 * 0 + _ ≤ _; exact Nat.le_of_eq rfl) (hb hby at_56) (fun _ _ => ⟨rfl, e99, (by decide : 6 + 1 ≤ _), (by decide : 117 + 4 ≤ _)⟩)
    dsimp only [Pt.U, Pt.locs, Pt.cells, Pt.slots] at X100 l100 y100 z100 st100 hQ100
    subst l100 y100 z100
    obtain ⟨rfl, N100q, K100, Eo100, c100, F100, V100, E100, zc100⟩ := hQ100
    have N100 := Fr.app N96 N100q
    have ne_a96_c100 : a96 ≠ c100 := Nat.ne_of_lt (Nat.lt_of_lt_of_le V96.lt zc100)
    have ne_b97_c100 : b97 ≠ c100 := Nat.ne_of_lt (Nat.lt_of_lt_of_le E_b97.lt zc100)
    have g_c100 : n0 ≤ c100 := Nat.le_trans Z_ zc100
    have Z_ : n0 ≤ T100.heap.size := Nat.le_trans Z_ K100.1
    have V96 := V96.keep K100 (ninS ne_a96_b97 nin0)
    have E96 := E96.keep K100
    have E_b97 := E_b97.keep K100
    have CR := CR.trans (CHr.keep K100 (sfS own_safe sf0) CR.1)
    have hk_ := Nat.le_trans hk_ K100.1
    refine OwnGoW.st (fun _ k => st100.trans k) ?_
    show OwnGoW p e below s Z own_EL _ _ _ T100 (mkF m 59 #[.val (.int p1), .val (.int p2), .val (.int p3), .val (.long p4), .second, .val (.int (1 : Int32)), .val (.int y0), .val (.int y1), .val (.int y2), .val (.int y3), .val (.ref a96), .unset, .unset, .unset] [(.ref b97)])
    refine OwnGoW.st (fun _ k => XS.astore X100.here hx rfl (hb hby at_59) rfl rfl (l' := #[.val (.int p1), .val (.int p2), .val (.int p3), .val (.long p4), .second, .val (.int (1 : Int32)), .val (.int y0), .val (.int y1), .val (.int y2), .val (.int y3), .val (.ref a96), .val (.ref b97), .unset, .unset]) rfl k) ?_
    show OwnGoW p e below s Z own_EL _ _ _ T100 (mkF m 61 #[.val (.int p1), .val (.int p2), .val (.int p3), .val (.long p4), .second, .val (.int (1 : Int32)), .val (.int y0), .val (.int y1), .val (.int y2), .val (.int y3), .val (.ref a96), .val (.ref b97), .unset, .unset] [])
    refine OwnGoW.st (fun _ k => XS.aload X100.here hx rfl (hb hby at_61) rfl rfl  k) ?_
    show OwnGoW p e below s Z own_EL _ _ _ T100 (mkF m 63 #[.val (.int p1), .val (.int p2), .val (.int p3), .val (.long p4), .second, .val (.int (1 : Int32)), .val (.int y0), .val (.int y1), .val (.int y2), .val (.int y3), .val (.ref a96), .val (.ref b97), .unset, .unset] [(.ref a96)])
    obtain ⟨_, _, ⟨T101, L101, k101, n101⟩, -, X101, ⟨Lc101, hQ101, l101, y101, z101⟩, st101⟩ := Jvm.LawKit.callS X100 hx (y := (⟨"com/example/thorough_factfind/thoroughfactfind/foundation/db/EventDataPinLaw", "bump", "([B)V"⟩ : MethodName)) hown (mvT hZ (hw _ (List.mem_of_getElem? (i := 44) rfl))) (mvT hZ (hw _ (List.mem_of_getElem? (i := 45) rfl))) (mvT hZ (hw _ (List.mem_of_getElem? (i := 3) rfl))) (mvT hZ (hw _ (List.mem_of_getElem? (i := 46) rfl))) (by decide) (backOf (W := 0) (rmbu1 l Z a0 hw [] a96 kc96 y0 T100.heap n0 Z_ V96 g_a96) hZ (hw _ (List.mem_of_getElem? (i := 46) rfl)) (hw _ (List.mem_of_getElem? (i := 3) rfl)) (by decide) (by decide)) (g := (mkF m 63 #[.val (.int p1), .val (.int p2), .val (.int p3), .val (.long p4), .second, .val (.int (1 : Int32)), .val (.int y0), .val (.int y1), .val (.int y2), .val (.int y3), .val (.ref a96), .val (.ref b97), .unset, .unset] [(.ref a96)])) rfl (by rw [hml]; rfl) (argsL := [(.ref a96)]) (rest := []) (lenOf pd_3 rfl) rfl (by show 2 * 0 + _ ≤ _; exact Nat.le_of_eq rfl) (hb hby at_63) (fun _ _ => ⟨rfl, rfl, (by decide : 7 + 0 ≤ _), (by decide : 121 + 0 ≤ _)⟩)
    dsimp only [Pt.U, Pt.locs, Pt.cells, Pt.slots] at X101 l101 y101 z101 st101 hQ101
    subst l101 y101 z101
    obtain ⟨rfl, N101q, K101⟩ := hQ101
    have N101 := Fr.app N100 N101q
    have Z_ : n0 ≤ T101.heap.size := Nat.le_trans Z_ K101.1
    have E96 := E96.keep K101
    have E_b97 := E_b97.keep K101
    have F100 := F100.keep K101 (ninS (Ne.symm ne_a96_b97) nin0)
    have V100 := V100.keep K101 (ninS (Ne.symm ne_a96_c100) nin0)
    have E100 := E100.keep K101
    have CR := CR.trans (CHr.keep K101 (sfS own_safe sf0) CR.1)
    have hk_ := Nat.le_trans hk_ K101.1
    refine OwnGoW.st st101 ?_
    show OwnGoW p e below s Z own_EL _ _ _ T101 (mkF m 66 #[.val (.int p1), .val (.int p2), .val (.int p3), .val (.long p4), .second, .val (.int (1 : Int32)), .val (.int y0), .val (.int y1), .val (.int y2), .val (.int y3), .val (.ref a96), .val (.ref b97), .unset, .unset] [])
    refine OwnGoW.st (fun _ k => XS.aload X101.here hx rfl (hb hby at_66) rfl rfl  k) ?_
    show OwnGoW p e below s Z own_EL _ _ _ T101 (mkF m 68 #[.val (.int p1), .val (.int p2), .val (.int p3), .val (.long p4), .second, .val (.int (1 : Int32)), .val (.int y0), .val (.int y1), .val (.int y2), .val (.int y3), .val (.ref a96), .val (.ref b97), .unset, .unset] [(.ref b97)])
    obtain ⟨cq102, kq102, q102a, q102b, q102c⟩ := isOf hZ rfl E_b97
    obtain ⟨_, _, ⟨T102, L102, k102, n102⟩, -, X102, ⟨Lc102, hQ102, l102, y102, z102⟩, st102⟩ := X101.virtualBack hx (y := (⟨"com/example/thorough_factfind/thoroughfactfind/foundation/db/Event", "data", "()[B"⟩ : MethodName)) (z := (⟨"com/example/thorough_factfind/thoroughfactfind/foundation/db/Event", "data", "()[B"⟩ : MethodName)) hown (mvT hZ (hw _ (List.mem_of_getElem? (i := 47) rfl))) (mvT hZ (hw _ (List.mem_of_getElem? (i := 48) rfl))) (notFace_of_selects (args := #[]) (mvT hZ (hw _ (List.mem_of_getElem? (i := 50) rfl)))) (mvT hZ (hw _ (List.mem_of_getElem? (i := 50) rfl))) (mvT hZ (hw _ (List.mem_of_getElem? (i := 49) rfl))) (by decide) (backOf (W := 0) (rmdat l Z a0 hw [] b97 c100 kc96 (1 : Int32) [(.int y0)] T101.heap n0 Z_ F100 V100 E100 (by decide)) hZ (hw _ (List.mem_of_getElem? (i := 51) rfl)) (hw _ (List.mem_of_getElem? (i := 8) rfl)) (by decide) (by decide)) q102a q102c (g := (mkF m 68 #[.val (.int p1), .val (.int p2), .val (.int p3), .val (.long p4), .second, .val (.int (1 : Int32)), .val (.int y0), .val (.int y1), .val (.int y2), .val (.int y3), .val (.ref a96), .val (.ref b97), .unset, .unset] [(.ref b97)])) rfl (by rw [hml]; rfl) (Steps.refl _) (argsL := []) (rest := []) (lenOf pd_4 rfl) rfl (by show 2 * 0 + _ ≤ _; exact Nat.le_of_eq rfl) (hb hby at_68) (fun _ _ => ⟨rfl, rfl, (by decide : 7 + 1 ≤ _), (by decide : 121 + 4 ≤ _)⟩)
    dsimp only [Pt.U, Pt.locs, Pt.cells, Pt.slots] at X102 l102 y102 z102 st102 hQ102
    subst l102 y102 z102
    obtain ⟨c102, rfl, N102q, K102, V102, E102, zc102⟩ := hQ102
    have N102 := Fr.app N101 N102q
    have ne_a96_c102 : a96 ≠ c102 := Nat.ne_of_lt (Nat.lt_of_lt_of_le E96.lt zc102)
    have ne_b97_c102 : b97 ≠ c102 := Nat.ne_of_lt (Nat.lt_of_lt_of_le E_b97.lt zc102)
    have ne_c100_c102 : c100 ≠ c102 := Nat.ne_of_lt (Nat.lt_of_lt_of_le V100.lt zc102)
    have g_c102 : n0 ≤ c102 := Nat.le_trans Z_ zc102
    have Z_ : n0 ≤ T102.heap.size := Nat.le_trans Z_ K102.1
    have E96 := E96.keep K102
    have E_b97 := E_b97.keep K102
    have F100 := F100.keep K102 nin0
    have V100 := V100.keep K102 nin0
    have E100 := E100.keep K102
    have CR := CR.trans (CHr.keep K102 sf0 CR.1)
    have hk_ := Nat.le_trans hk_ K102.1
    refine OwnGoW.st (fun _ k => st102.trans k) ?_
    show OwnGoW p e below s Z own_EL _ _ _ T102 (mkF m 71 #[.val (.int p1), .val (.int p2), .val (.int p3), .val (.long p4), .second, .val (.int (1 : Int32)), .val (.int y0), .val (.int y1), .val (.int y2), .val (.int y3), .val (.ref a96), .val (.ref b97), .unset, .unset] [(.ref c102)])
    refine OwnGoW.st (fun _ k => XS.astore X102.here hx rfl (hb hby at_71) rfl rfl (l' := #[.val (.int p1), .val (.int p2), .val (.int p3), .val (.long p4), .second, .val (.int (1 : Int32)), .val (.int y0), .val (.int y1), .val (.int y2), .val (.int y3), .val (.ref a96), .val (.ref b97), .val (.ref c102), .unset]) rfl k) ?_
    show OwnGoW p e below s Z own_EL _ _ _ T102 (mkF m 73 #[.val (.int p1), .val (.int p2), .val (.int p3), .val (.long p4), .second, .val (.int (1 : Int32)), .val (.int y0), .val (.int y1), .val (.int y2), .val (.int y3), .val (.ref a96), .val (.ref b97), .val (.ref c102), .unset] [])
    refine OwnGoW.st (fun _ k => XS.aload X102.here hx rfl (hb hby at_73) rfl rfl  k) ?_
    show OwnGoW p e below s Z own_EL _ _ _ T102 (mkF m 75 #[.val (.int p1), .val (.int p2), .val (.int p3), .val (.long p4), .second, .val (.int (1 : Int32)), .val (.int y0), .val (.int y1), .val (.int y2), .val (.int y3), .val (.ref a96), .val (.ref b97), .val (.ref c102), .unset] [(.ref c102)])
    refine OwnGoW.st (fun _ k => XS.iload X102.here hx rfl (hb hby at_75) rfl  k) ?_
    show OwnGoW p e below s Z own_EL _ _ _ T102 (mkF m 77 #[.val (.int p1), .val (.int p2), .val (.int p3), .val (.long p4), .second, .val (.int (1 : Int32)), .val (.int y0), .val (.int y1), .val (.int y2), .val (.int y3), .val (.ref a96), .val (.ref b97), .val (.ref c102), .unset] [(.int (1 : Int32)), (.ref c102)])
    refine OwnGoW.st (fun _ k => XS.iload X102.here hx rfl (hb hby at_77) rfl  k) ?_
    show OwnGoW p e below s Z own_EL _ _ _ T102 (mkF m 79 #[.val (.int p1), .val (.int p2), .val (.int p3), .val (.long p4), .second, .val (.int (1 : Int32)), .val (.int y0), .val (.int y1), .val (.int y2), .val (.int y3), .val (.ref a96), .val (.ref b97), .val (.ref c102), .unset] [(.int y0), (.int (1 : Int32)), (.ref c102)])
    refine OwnGoW.st (fun _ k => XS.iload X102.here hx rfl (hb hby at_79) rfl  k) ?_
    show OwnGoW p e below s Z own_EL _ _ _ T102 (mkF m 81 #[.val (.int p1), .val (.int p2), .val (.int p3), .val (.long p4), .second, .val (.int (1 : Int32)), .val (.int y0), .val (.int y1), .val (.int y2), .val (.int y3), .val (.ref a96), .val (.ref b97), .val (.ref c102), .unset] [(.int y1), (.int y0), (.int (1 : Int32)), (.ref c102)])
    refine OwnGoW.st (fun _ k => XS.iload X102.here hx rfl (hb hby at_81) rfl  k) ?_
    show OwnGoW p e below s Z own_EL _ _ _ T102 (mkF m 83 #[.val (.int p1), .val (.int p2), .val (.int p3), .val (.long p4), .second, .val (.int (1 : Int32)), .val (.int y0), .val (.int y1), .val (.int y2), .val (.int y3), .val (.ref a96), .val (.ref b97), .val (.ref c102), .unset] [(.int y2), (.int y1), (.int y0), (.int (1 : Int32)), (.ref c102)])
    refine OwnGoW.st (fun _ k => XS.iload X102.here hx rfl (hb hby at_83) rfl  k) ?_
    show OwnGoW p e below s Z own_EL _ _ _ T102 (mkF m 85 #[.val (.int p1), .val (.int p2), .val (.int p3), .val (.long p4), .second, .val (.int (1 : Int32)), .val (.int y0), .val (.int y1), .val (.int y2), .val (.int y3), .val (.ref a96), .val (.ref b97), .val (.ref c102), .unset] [(.int y3), (.int y2), (.int y1), (.int y0), (.int (1 : Int32)), (.ref c102)])
    obtain ⟨_, _, ⟨T103, L103, k103, n103⟩, -, X103, ⟨Lc103, hQ103, l103, y103, z103⟩, st103⟩ := Jvm.LawKit.callS X102 hx (y := (⟨"com/example/thorough_factfind/thoroughfactfind/foundation/db/EventDataPinLaw", "same", "([BIBBBB)Z"⟩ : MethodName)) hown (mvT hZ (hw _ (List.mem_of_getElem? (i := 52) rfl))) (mvT hZ (hw _ (List.mem_of_getElem? (i := 53) rfl))) (mvT hZ (hw _ (List.mem_of_getElem? (i := 3) rfl))) (mvT hZ (hw _ (List.mem_of_getElem? (i := 54) rfl))) (by decide) (backOf (W := 0) (rmsa1 l Z a0 hw [] c102 kc96 y0 y1 y2 y3 T102.heap n0 Z_ V102) hZ (hw _ (List.mem_of_getElem? (i := 54) rfl)) (hw _ (List.mem_of_getElem? (i := 3) rfl)) (by decide) (by decide)) (g := (mkF m 85 #[.val (.int p1), .val (.int p2), .val (.int p3), .val (.long p4), .second, .val (.int (1 : Int32)), .val (.int y0), .val (.int y1), .val (.int y2), .val (.int y3), .val (.ref a96), .val (.ref b97), .val (.ref c102), .unset] [(.int y3), (.int y2), (.int y1), (.int y0), (.int (1 : Int32)), (.ref c102)])) rfl (by rw [hml]; rfl) (argsL := [(.ref c102), (.int (1 : Int32)), (.int y0), (.int y1), (.int y2), (.int y3)]) (rest := []) (lenOf pd_5 rfl) rfl (by show 2 * 0 + _ ≤ _; exact Nat.le_of_eq rfl) (hb hby at_85) (fun _ _ => ⟨rfl, rfl, (by decide : 8 + 0 ≤ _), (by decide : 125 + 0 ≤ _)⟩)
    dsimp only [Pt.U, Pt.locs, Pt.cells, Pt.slots] at X103 l103 y103 z103 st103 hQ103
    subst l103 y103 z103
    obtain ⟨rfl, N103q, e103⟩ := hQ103
    have N103 := Fr.app N102 N103q
    refine OwnGoW.st st103 ?_
    show OwnGoW p e below s Z own_EL _ _ _ T103 (mkF m 88 #[.val (.int p1), .val (.int p2), .val (.int p3), .val (.long p4), .second, .val (.int (1 : Int32)), .val (.int y0), .val (.int y1), .val (.int y2), .val (.int y3), .val (.ref a96), .val (.ref b97), .val (.ref c102), .unset] [(.int (1 : Int32))])
    refine OwnGoW.st (fun _ k => XS.ifYes X103.here hx rfl (pc0 := 88) (pc' := 93) rfl (hb hby at_88) rfl ((if0 _ _).trans (feq ((by decide) : ¬ ((1 : Int32) = (0 : Int32)))).2) (by decide) (by decide) k) ?_
    show OwnGoW p e below s Z own_EL _ _ _ T103 (mkF m 93 #[.val (.int p1), .val (.int p2), .val (.int p3), .val (.long p4), .second, .val (.int (1 : Int32)), .val (.int y0), .val (.int y1), .val (.int y2), .val (.int y3), .val (.ref a96), .val (.ref b97), .val (.ref c102), .unset] [])
    refine OwnGoW.st (fun _ k => XS.aload X103.here hx rfl (hb hby at_93) rfl rfl  k) ?_
    show OwnGoW p e below s Z own_EL _ _ _ T103 (mkF m 95 #[.val (.int p1), .val (.int p2), .val (.int p3), .val (.long p4), .second, .val (.int (1 : Int32)), .val (.int y0), .val (.int y1), .val (.int y2), .val (.int y3), .val (.ref a96), .val (.ref b97), .val (.ref c102), .unset] [(.ref c102)])
    obtain ⟨_, _, ⟨T104, L104, k104, n104⟩, -, X104, ⟨Lc104, hQ104, l104, y104, z104⟩, st104⟩ := Jvm.LawKit.callS X103 hx (y := (⟨"com/example/thorough_factfind/thoroughfactfind/foundation/db/EventDataPinLaw", "bump", "([B)V"⟩ : MethodName)) hown (mvT hZ (hw _ (List.mem_of_getElem? (i := 44) rfl))) (mvT hZ (hw _ (List.mem_of_getElem? (i := 45) rfl))) (mvT hZ (hw _ (List.mem_of_getElem? (i := 3) rfl))) (mvT hZ (hw _ (List.mem_of_getElem? (i := 46) rfl))) (by decide) (backOf (W := 0) (rmbu1 l Z a0 hw [] c102 kc96 y0 T102.heap n0 Z_ V102 g_c102) hZ (hw _ (List.mem_of_getElem? (i := 46) rfl)) (hw _ (List.mem_of_getElem? (i := 3) rfl)) (by decide) (by decide)) (g := (mkF m 95 #[.val (.int p1), .val (.int p2), .val (.int p3), .val (.long p4), .second, .val (.int (1 : Int32)), .val (.int y0), .val (.int y1), .val (.int y2), .val (.int y3), .val (.ref a96), .val (.ref b97), .val (.ref c102), .unset] [(.ref c102)])) rfl (by rw [hml]; rfl) (argsL := [(.ref c102)]) (rest := []) (lenOf pd_3 rfl) rfl (by show 2 * 0 + _ ≤ _; exact Nat.le_of_eq rfl) (hb hby at_95) (fun _ _ => ⟨rfl, e103, (by decide : 8 + 0 ≤ _), (by decide : 125 + 0 ≤ _)⟩)
    dsimp only [Pt.U, Pt.locs, Pt.cells, Pt.slots] at X104 l104 y104 z104 st104 hQ104
    subst l104 y104 z104
    obtain ⟨rfl, N104q, K104⟩ := hQ104
    have N104 := Fr.app N103 N104q
    have Z_ : n0 ≤ T104.heap.size := Nat.le_trans Z_ K104.1
    have E96 := E96.keep K104
    have E_b97 := E_b97.keep K104
    have F100 := F100.keep K104 (ninS ne_b97_c102 nin0)
    have V100 := V100.keep K104 (ninS ne_c100_c102 nin0)
    have E100 := E100.keep K104
    have E102 := E102.keep K104
    have CR := CR.trans (CHr.keep K104 (sfS own_safe sf0) CR.1)
    have hk_ := Nat.le_trans hk_ K104.1
    refine OwnGoW.st st104 ?_
    show OwnGoW p e below s Z own_EL _ _ _ T104 (mkF m 98 #[.val (.int p1), .val (.int p2), .val (.int p3), .val (.long p4), .second, .val (.int (1 : Int32)), .val (.int y0), .val (.int y1), .val (.int y2), .val (.int y3), .val (.ref a96), .val (.ref b97), .val (.ref c102), .unset] [])
    refine OwnGoW.st (fun _ k => XS.aload X104.here hx rfl (hb hby at_98) rfl rfl  k) ?_
    show OwnGoW p e below s Z own_EL _ _ _ T104 (mkF m 100 #[.val (.int p1), .val (.int p2), .val (.int p3), .val (.long p4), .second, .val (.int (1 : Int32)), .val (.int y0), .val (.int y1), .val (.int y2), .val (.int y3), .val (.ref a96), .val (.ref b97), .val (.ref c102), .unset] [(.ref b97)])
    obtain ⟨cq105, kq105, q105a, q105b, q105c⟩ := isOf hZ rfl E_b97
    obtain ⟨_, _, ⟨T105, L105, k105, n105⟩, -, X105, ⟨Lc105, hQ105, l105, y105, z105⟩, st105⟩ := X104.virtualBack hx (y := (⟨"com/example/thorough_factfind/thoroughfactfind/foundation/db/Event", "data", "()[B"⟩ : MethodName)) (z := (⟨"com/example/thorough_factfind/thoroughfactfind/foundation/db/Event", "data", "()[B"⟩ : MethodName)) hown (mvT hZ (hw _ (List.mem_of_getElem? (i := 47) rfl))) (mvT hZ (hw _ (List.mem_of_getElem? (i := 48) rfl))) (notFace_of_selects (args := #[]) (mvT hZ (hw _ (List.mem_of_getElem? (i := 50) rfl)))) (mvT hZ (hw _ (List.mem_of_getElem? (i := 50) rfl))) (mvT hZ (hw _ (List.mem_of_getElem? (i := 49) rfl))) (by decide) (backOf (W := 0) (rmdat l Z a0 hw [] b97 c100 kc96 (1 : Int32) [(.int y0)] T104.heap n0 Z_ F100 V100 E100 (by decide)) hZ (hw _ (List.mem_of_getElem? (i := 51) rfl)) (hw _ (List.mem_of_getElem? (i := 8) rfl)) (by decide) (by decide)) q105a q105c (g := (mkF m 100 #[.val (.int p1), .val (.int p2), .val (.int p3), .val (.long p4), .second, .val (.int (1 : Int32)), .val (.int y0), .val (.int y1), .val (.int y2), .val (.int y3), .val (.ref a96), .val (.ref b97), .val (.ref c102), .unset] [(.ref b97)])) rfl (by rw [hml]; rfl) (Steps.refl _) (argsL := []) (rest := []) (lenOf pd_4 rfl) rfl (by show 2 * 0 + _ ≤ _; exact Nat.le_of_eq rfl) (hb hby at_100) (fun _ _ => ⟨rfl, rfl, (by decide : 8 + 1 ≤ _), (by decide : 125 + 4 ≤ _)⟩)
    dsimp only [Pt.U, Pt.locs, Pt.cells, Pt.slots] at X105 l105 y105 z105 st105 hQ105
    subst l105 y105 z105
    obtain ⟨c105, rfl, N105q, K105, V105, E105, zc105⟩ := hQ105
    have N105 := Fr.app N104 N105q
    have ne_a96_c105 : a96 ≠ c105 := Nat.ne_of_lt (Nat.lt_of_lt_of_le E96.lt zc105)
    have ne_b97_c105 : b97 ≠ c105 := Nat.ne_of_lt (Nat.lt_of_lt_of_le E_b97.lt zc105)
    have ne_c100_c105 : c100 ≠ c105 := Nat.ne_of_lt (Nat.lt_of_lt_of_le V100.lt zc105)
    have ne_c102_c105 : c102 ≠ c105 := Nat.ne_of_lt (Nat.lt_of_lt_of_le E102.lt zc105)
    have g_c105 : n0 ≤ c105 := Nat.le_trans Z_ zc105
    have Z_ : n0 ≤ T105.heap.size := Nat.le_trans Z_ K105.1
    have E96 := E96.keep K105
    have E_b97 := E_b97.keep K105
    have F100 := F100.keep K105 nin0
    have V100 := V100.keep K105 nin0
    have E100 := E100.keep K105
    have E102 := E102.keep K105
    have CR := CR.trans (CHr.keep K105 sf0 CR.1)
    have hk_ := Nat.le_trans hk_ K105.1
    refine OwnGoW.st (fun _ k => st105.trans k) ?_
    show OwnGoW p e below s Z own_EL _ _ _ T105 (mkF m 103 #[.val (.int p1), .val (.int p2), .val (.int p3), .val (.long p4), .second, .val (.int (1 : Int32)), .val (.int y0), .val (.int y1), .val (.int y2), .val (.int y3), .val (.ref a96), .val (.ref b97), .val (.ref c102), .unset] [(.ref c105)])
    refine OwnGoW.st (fun _ k => XS.astore X105.here hx rfl (hb hby at_103) rfl rfl (l' := #[.val (.int p1), .val (.int p2), .val (.int p3), .val (.long p4), .second, .val (.int (1 : Int32)), .val (.int y0), .val (.int y1), .val (.int y2), .val (.int y3), .val (.ref a96), .val (.ref b97), .val (.ref c102), .val (.ref c105)]) rfl k) ?_
    show OwnGoW p e below s Z own_EL _ _ _ T105 (mkF m 105 #[.val (.int p1), .val (.int p2), .val (.int p3), .val (.long p4), .second, .val (.int (1 : Int32)), .val (.int y0), .val (.int y1), .val (.int y2), .val (.int y3), .val (.ref a96), .val (.ref b97), .val (.ref c102), .val (.ref c105)] [])
    refine OwnGoW.st (fun _ k => XS.aload X105.here hx rfl (hb hby at_105) rfl rfl  k) ?_
    show OwnGoW p e below s Z own_EL _ _ _ T105 (mkF m 107 #[.val (.int p1), .val (.int p2), .val (.int p3), .val (.long p4), .second, .val (.int (1 : Int32)), .val (.int y0), .val (.int y1), .val (.int y2), .val (.int y3), .val (.ref a96), .val (.ref b97), .val (.ref c102), .val (.ref c105)] [(.ref c105)])
    refine OwnGoW.st (fun _ k => XS.iload X105.here hx rfl (hb hby at_107) rfl  k) ?_
    show OwnGoW p e below s Z own_EL _ _ _ T105 (mkF m 109 #[.val (.int p1), .val (.int p2), .val (.int p3), .val (.long p4), .second, .val (.int (1 : Int32)), .val (.int y0), .val (.int y1), .val (.int y2), .val (.int y3), .val (.ref a96), .val (.ref b97), .val (.ref c102), .val (.ref c105)] [(.int (1 : Int32)), (.ref c105)])
    refine OwnGoW.st (fun _ k => XS.iload X105.here hx rfl (hb hby at_109) rfl  k) ?_
    show OwnGoW p e below s Z own_EL _ _ _ T105 (mkF m 111 #[.val (.int p1), .val (.int p2), .val (.int p3), .val (.long p4), .second, .val (.int (1 : Int32)), .val (.int y0), .val (.int y1), .val (.int y2), .val (.int y3), .val (.ref a96), .val (.ref b97), .val (.ref c102), .val (.ref c105)] [(.int y0), (.int (1 : Int32)), (.ref c105)])
    refine OwnGoW.st (fun _ k => XS.iload X105.here hx rfl (hb hby at_111) rfl  k) ?_
    show OwnGoW p e below s Z own_EL _ _ _ T105 (mkF m 113 #[.val (.int p1), .val (.int p2), .val (.int p3), .val (.long p4), .second, .val (.int (1 : Int32)), .val (.int y0), .val (.int y1), .val (.int y2), .val (.int y3), .val (.ref a96), .val (.ref b97), .val (.ref c102), .val (.ref c105)] [(.int y1), (.int y0), (.int (1 : Int32)), (.ref c105)])
    refine OwnGoW.st (fun _ k => XS.iload X105.here hx rfl (hb hby at_113) rfl  k) ?_
    show OwnGoW p e below s Z own_EL _ _ _ T105 (mkF m 115 #[.val (.int p1), .val (.int p2), .val (.int p3), .val (.long p4), .second, .val (.int (1 : Int32)), .val (.int y0), .val (.int y1), .val (.int y2), .val (.int y3), .val (.ref a96), .val (.ref b97), .val (.ref c102), .val (.ref c105)] [(.int y2), (.int y1), (.int y0), (.int (1 : Int32)), (.ref c105)])
    refine OwnGoW.st (fun _ k => XS.iload X105.here hx rfl (hb hby at_115) rfl  k) ?_
    show OwnGoW p e below s Z own_EL _ _ _ T105 (mkF m 117 #[.val (.int p1), .val (.int p2), .val (.int p3), .val (.long p4), .second, .val (.int (1 : Int32)), .val (.int y0), .val (.int y1), .val (.int y2), .val (.int y3), .val (.ref a96), .val (.ref b97), .val (.ref c102), .val (.ref c105)] [(.int y3), (.int y2), (.int y1), (.int y0), (.int (1 : Int32)), (.ref c105)])
    obtain ⟨_, _, ⟨T106, L106, k106, n106⟩, -, X106, ⟨Lc106, hQ106, l106, y106, z106⟩, st106⟩ := Jvm.LawKit.callS X105 hx (y := (⟨"com/example/thorough_factfind/thoroughfactfind/foundation/db/EventDataPinLaw", "same", "([BIBBBB)Z"⟩ : MethodName)) hown (mvT hZ (hw _ (List.mem_of_getElem? (i := 52) rfl))) (mvT hZ (hw _ (List.mem_of_getElem? (i := 53) rfl))) (mvT hZ (hw _ (List.mem_of_getElem? (i := 3) rfl))) (mvT hZ (hw _ (List.mem_of_getElem? (i := 54) rfl))) (by decide) (backOf (W := 0) (rmsa1 l Z a0 hw [] c105 kc96 y0 y1 y2 y3 T105.heap n0 Z_ V105) hZ (hw _ (List.mem_of_getElem? (i := 54) rfl)) (hw _ (List.mem_of_getElem? (i := 3) rfl)) (by decide) (by decide)) (g := (mkF m 117 #[.val (.int p1), .val (.int p2), .val (.int p3), .val (.long p4), .second, .val (.int (1 : Int32)), .val (.int y0), .val (.int y1), .val (.int y2), .val (.int y3), .val (.ref a96), .val (.ref b97), .val (.ref c102), .val (.ref c105)] [(.int y3), (.int y2), (.int y1), (.int y0), (.int (1 : Int32)), (.ref c105)])) rfl (by rw [hml]; rfl) (argsL := [(.ref c105), (.int (1 : Int32)), (.int y0), (.int y1), (.int y2), (.int y3)]) (rest := []) (lenOf pd_5 rfl) rfl (by show 2 * 0 + _ ≤ _; exact Nat.le_of_eq rfl) (hb hby at_117) (fun _ _ => ⟨rfl, rfl, (by decide : 9 + 0 ≤ _), (by decide : 129 + 0 ≤ _)⟩)
    dsimp only [Pt.U, Pt.locs, Pt.cells, Pt.slots] at X106 l106 y106 z106 st106 hQ106
    subst l106 y106 z106
    obtain ⟨rfl, N106q, e106⟩ := hQ106
    have N106 := Fr.app N105 N106q
    refine OwnGoW.st st106 ?_
    show OwnGoW p e below s Z own_EL _ _ _ T106 (mkF m 120 #[.val (.int p1), .val (.int p2), .val (.int p3), .val (.long p4), .second, .val (.int (1 : Int32)), .val (.int y0), .val (.int y1), .val (.int y2), .val (.int y3), .val (.ref a96), .val (.ref b97), .val (.ref c102), .val (.ref c105)] [(.int (1 : Int32))])
    exact OwnGoW.retN (s := s) (vm0 := T99.vm) X106 hS_ hk_ e106 hZ (own_hEL hw) CR hx (t := .boolean) hret hlk (by simp) (hb hby at_120) (by show Q0 Z p1 p2 p3 p4 h0 n0 _ T106.heap _; rw [e106]; exact ⟨rfl, N106⟩) (by decide) (by decide)
  · show OwnGoW p e below s Z own_EL _ _ _ s₁ (mkF m 30 #[.val (.int p1), .val (.int p2), .val (.int p3), .val (.long p4), .second, .val (.int (2 : Int32)), .val (.int y0), .val (.int y1), .val (.int y2), .val (.int y3), .unset, .unset, .unset, .unset] [])
    refine OwnGoW.st (fun _ k => XS.iload X0.here hx rfl (hb hby at_30) rfl  k) ?_
    show OwnGoW p e below s Z own_EL _ _ _ s₁ (mkF m 32 #[.val (.int p1), .val (.int p2), .val (.int p3), .val (.long p4), .second, .val (.int (2 : Int32)), .val (.int y0), .val (.int y1), .val (.int y2), .val (.int y3), .unset, .unset, .unset, .unset] [(.int (2 : Int32))])
    refine OwnGoW.st (fun _ k => XS.iload X0.here hx rfl (hb hby at_32) rfl  k) ?_
    show OwnGoW p e below s Z own_EL _ _ _ s₁ (mkF m 34 #[.val (.int p1), .val (.int p2), .val (.int p3), .val (.long p4), .second, .val (.int (2 : Int32)), .val (.int y0), .val (.int y1), .val (.int y2), .val (.int y3), .unset, .unset, .unset, .unset] [(.int y0), (.int (2 : Int32))])
    refine OwnGoW.st (fun _ k => XS.iload X0.here hx rfl (hb hby at_34) rfl  k) ?_
    show OwnGoW p e below s Z own_EL _ _ _ s₁ (mkF m 36 #[.val (.int p1), .val (.int p2), .val (.int p3), .val (.long p4), .second, .val (.int (2 : Int32)), .val (.int y0), .val (.int y1), .val (.int y2), .val (.int y3), .unset, .unset, .unset, .unset] [(.int y1), (.int y0), (.int (2 : Int32))])
    refine OwnGoW.st (fun _ k => XS.iload X0.here hx rfl (hb hby at_36) rfl  k) ?_
    show OwnGoW p e below s Z own_EL _ _ _ s₁ (mkF m 38 #[.val (.int p1), .val (.int p2), .val (.int p3), .val (.long p4), .second, .val (.int (2 : Int32)), .val (.int y0), .val (.int y1), .val (.int y2), .val (.int y3), .unset, .unset, .unset, .unset] [(.int y2), (.int y1), (.int y0), (.int (2 : Int32))])
    refine OwnGoW.st (fun _ k => XS.iload X0.here hx rfl (hb hby at_38) rfl  k) ?_
    show OwnGoW p e below s Z own_EL _ _ _ s₁ (mkF m 40 #[.val (.int p1), .val (.int p2), .val (.int p3), .val (.long p4), .second, .val (.int (2 : Int32)), .val (.int y0), .val (.int y1), .val (.int y2), .val (.int y3), .unset, .unset, .unset, .unset] [(.int y3), (.int y2), (.int y1), (.int y0), (.int (2 : Int32))])
    obtain ⟨_, _, ⟨T107, L107, k107, n107⟩, -, X107, ⟨Lc107, hQ107, l107, y107, z107⟩, st107⟩ := Jvm.LawKit.callS X0 hx (y := (⟨"com/example/thorough_factfind/thoroughfactfind/foundation/db/EventDataPinLaw", "make", "(IBBBB)[B"⟩ : MethodName)) hown (mvT hZ (hw _ (List.mem_of_getElem? (i := 1) rfl))) (mvT hZ (hw _ (List.mem_of_getElem? (i := 2) rfl))) (mvT hZ (hw _ (List.mem_of_getElem? (i := 3) rfl))) (mvT hZ (hw _ (List.mem_of_getElem? (i := 4) rfl))) (by decide) (backOf (W := 0) (rmmk2 l Z a0 hw [] y0 y1 y2 y3 h0 n0 Z_ (by rw [hy0]; exact own_nb _) (by rw [hy1]; exact own_nb _) (by rw [hy2]; exact own_nb _) (by rw [hy3]; exact own_nb _)) hZ (hw _ (List.mem_of_getElem? (i := 4) rfl)) (hw _ (List.mem_of_getElem? (i := 3) rfl)) (by decide) (by decide)) (g := (mkF m 40 #[.val (.int p1), .val (.int p2), .val (.int p3), .val (.long p4), .second, .val (.int (2 : Int32)), .val (.int y0), .val (.int y1), .val (.int y2), .val (.int y3), .unset, .unset, .unset, .unset] [(.int y3), (.int y2), (.int y1), (.int y0), (.int (2 : Int32))])) rfl (by rw [hml]; rfl) (argsL := [(.int (2 : Int32)), (.int y0), (.int y1), (.int y2), (.int y3)]) (rest := []) (lenOf pd_1 rfl) rfl (by show 2 * 0 + _ ≤ _; exact Nat.le_of_eq rfl) (hb hby at_40) (fun _ _ => ⟨rfl, e0, (by decide : 0 + 1 ≤ _), (by decide : 0 + 2 ≤ _)⟩)
    dsimp only [Pt.U, Pt.locs, Pt.cells, Pt.slots] at X107 l107 y107 z107 st107 hQ107
    subst l107 y107 z107
    obtain ⟨a107, kc107, rfl, N107q, K107, V107, E107, za107⟩ := hQ107
    have N107 := Fr.app N0 N107q
    have g_a107 : n0 ≤ a107 := Nat.le_trans Z_ za107
    have Z_ : n0 ≤ T107.heap.size := Nat.le_trans Z_ K107.1
    have CR := CR.trans (CHr.keep K107 sf0 CR.1)
    have hk_ := Nat.le_trans hk_ K107.1
    refine OwnGoW.st st107 ?_
    show OwnGoW p e below s Z own_EL _ _ _ T107 (mkF m 43 #[.val (.int p1), .val (.int p2), .val (.int p3), .val (.long p4), .second, .val (.int (2 : Int32)), .val (.int y0), .val (.int y1), .val (.int y2), .val (.int y3), .unset, .unset, .unset, .unset] [(.ref a107)])
    refine OwnGoW.st (fun _ k => XS.astore X107.here hx rfl (hb hby at_43) rfl rfl (l' := #[.val (.int p1), .val (.int p2), .val (.int p3), .val (.long p4), .second, .val (.int (2 : Int32)), .val (.int y0), .val (.int y1), .val (.int y2), .val (.int y3), .val (.ref a107), .unset, .unset, .unset]) rfl k) ?_
    show OwnGoW p e below s Z own_EL _ _ _ T107 (mkF m 45 #[.val (.int p1), .val (.int p2), .val (.int p3), .val (.long p4), .second, .val (.int (2 : Int32)), .val (.int y0), .val (.int y1), .val (.int y2), .val (.int y3), .val (.ref a107), .unset, .unset, .unset] [])
    obtain ⟨T108, h108, X108, e108, E108, A108, D108, -, st108⟩ := newO X107 hx hZ hown (hw _ (List.mem_of_getElem? (i := 6) rfl)) (hw _ (List.mem_of_getElem? (i := 7) rfl)) (hw _ (List.mem_of_getElem? (i := 8) rfl)) rfl (g := (mkF m 45 #[.val (.int p1), .val (.int p2), .val (.int p3), .val (.long p4), .second, .val (.int (2 : Int32)), .val (.int y0), .val (.int y1), .val (.int y2), .val (.int y3), .val (.ref a107), .unset, .unset, .unset] [])) rfl (hb hby at_45) (by decide) (by decide)
    obtain ⟨b108, g108⟩ : ∃ z, z = T107.heap.size := ⟨_, rfl⟩
    rw [← g108] at A108 D108 st108
    have ne_a107_b108 : a107 ≠ b108 := Nat.ne_of_lt (Nat.lt_of_lt_of_le V107.lt (Nat.le_of_eq g108.symm))
    have g_b108 : n0 ≤ b108 := Nat.le_trans Z_ (Nat.le_of_eq g108.symm)
    have V107 := V107.ext E108
    have E107 := E107.ext E108
    have CR := CR.trans (CHr.ext E108 CR.1)
    have hk_ := Nat.le_trans hk_ E108.1
    have Z_ : n0 ≤ h108.size := Nat.le_trans Z_ E108.1
    have E_b108 := A108
    have F__type_b108 : Fld Z h108 b108 "com/example/thorough_factfind/thoroughfactfind/foundation/db/Event" "_type" "Ljava/lang/String;" .null := D108 (Or.inr (hw _ (List.mem_of_getElem? (i := 24) rfl))) (ty := (.object "java/lang/String")) (by decide)
    have F__clientId_b108 : Fld Z h108 b108 "com/example/thorough_factfind/thoroughfactfind/foundation/db/Event" "_clientId" "J" (.long (0 : Int64)) := D108 (Or.inr (hw _ (List.mem_of_getElem? (i := 26) rfl))) (ty := .long) (by decide)
    have F__subject_b108 : Fld Z h108 b108 "com/example/thorough_factfind/thoroughfactfind/foundation/db/Event" "_subject" "Ljava/lang/String;" .null := D108 (Or.inr (hw _ (List.mem_of_getElem? (i := 28) rfl))) (ty := (.object "java/lang/String")) (by decide)
    have F__data_b108 : Fld Z h108 b108 "com/example/thorough_factfind/thoroughfactfind/foundation/db/Event" "_data" "[B" .null := D108 (Or.inr (hw _ (List.mem_of_getElem? (i := 43) rfl))) (ty := (.array .byte)) (by decide)
    refine OwnGoW.st st108 ?_
    show OwnGoW p e below s Z own_EL _ _ _ T108 (mkF m 48 #[.val (.int p1), .val (.int p2), .val (.int p3), .val (.long p4), .second, .val (.int (2 : Int32)), .val (.int y0), .val (.int y1), .val (.int y2), .val (.int y3), .val (.ref a107), .unset, .unset, .unset] [(.ref b108)])
    refine OwnGoW.st (fun _ k => XS.dup X108.here hx rfl (hb hby at_48) rfl rfl k) ?_
    show OwnGoW p e below s Z own_EL _ _ _ T108 (mkF m 49 #[.val (.int p1), .val (.int p2), .val (.int p3), .val (.long p4), .second, .val (.int (2 : Int32)), .val (.int y0), .val (.int y1), .val (.int y2), .val (.int y3), .val (.ref a107), .unset, .unset, .unset] [(.ref b108), (.ref b108)])
    obtain ⟨a109, T109, h109, k1_109, X109, e109, E109, hS_, hkN, hZ, hown, CN, -, st109⟩ := ldcOH (s := s) (vm0 := s.vm) X108 hx hZ hown (hw _ (List.mem_of_getElem? (i := 9) rfl)) (own_wS hw) e108 hS_ hk_ (own_hEL hw) CR.1 (g := (mkF m 49 #[.val (.int p1), .val (.int p2), .val (.int p3), .val (.long p4), .second, .val (.int (2 : Int32)), .val (.int y0), .val (.int y1), .val (.int y2), .val (.int y3), .val (.ref a107), .unset, .unset, .unset] [(.ref b108), (.ref b108)])) rfl (hb hby at_49) (n := 52) (by decide) (by decide) (by decide) (by decide)
    have V107 := V107.ext E109
    have E107 := E107.ext E109
    have E_b108 := E_b108.ext E109
    have F__type_b108 := F__type_b108.ext E109
    have F__clientId_b108 := F__clientId_b108.ext E109
    have F__subject_b108 := F__subject_b108.ext E109
    have F__data_b108 := F__data_b108.ext E109
    have CR := CR.trans CN
    have hk_ := hkN
    have Z_ : n0 ≤ h109.size := Nat.le_trans Z_ E109.1
    refine OwnGoW.st st109 ?_
    show OwnGoW p e below s Z own_EL _ _ _ T109 (mkF m 51 #[.val (.int p1), .val (.int p2), .val (.int p3), .val (.long p4), .second, .val (.int (2 : Int32)), .val (.int y0), .val (.int y1), .val (.int y2), .val (.int y3), .val (.ref a107), .unset, .unset, .unset] [(.ref a109), (.ref b108), (.ref b108)])
    refine OwnGoW.st (fun _ k => XS.lloadN X109.here hx rfl (hb hby at_51) rfl  k) ?_
    show OwnGoW p e below s Z own_EL _ _ _ T109 (mkF m 52 #[.val (.int p1), .val (.int p2), .val (.int p3), .val (.long p4), .second, .val (.int (2 : Int32)), .val (.int y0), .val (.int y1), .val (.int y2), .val (.int y3), .val (.ref a107), .unset, .unset, .unset] [(.long p4), (.ref a109), (.ref b108), (.ref b108)])
    obtain ⟨a110, T110, h110, k1_110, X110, e110, E110, hS_, hkN, hZ, hown, CN, -, st110⟩ := ldcOH (s := s) (vm0 := T109.vm) X109 hx hZ hown (hw _ (List.mem_of_getElem? (i := 16) rfl)) (own_wS hw) e109 hS_ hk_ (own_hEL hw) CR.1 (g := (mkF m 52 #[.val (.int p1), .val (.int p2), .val (.int p3), .val (.long p4), .second, .val (.int (2 : Int32)), .val (.int y0), .val (.int y1), .val (.int y2), .val (.int y3), .val (.ref a107), .unset, .unset, .unset] [(.long p4), (.ref a109), (.ref b108), (.ref b108)])) rfl (hb hby at_52) (n := 52) (by decide) (by decide) (by decide) (by decide)
    have V107 := V107.ext E110
    have E107 := E107.ext E110
    have E_b108 := E_b108.ext E110
    have F__type_b108 := F__type_b108.ext E110
    have F__clientId_b108 := F__clientId_b108.ext E110
    have F__subject_b108 := F__subject_b108.ext E110
    have F__data_b108 := F__data_b108.ext E110
    have CR := CR.trans CN
    have hk_ := hkN
    have Z_ : n0 ≤ h110.size := Nat.le_trans Z_ E110.1
    refine OwnGoW.st st110 ?_
    show OwnGoW p e below s Z own_EL _ _ _ T110 (mkF m 54 #[.val (.int p1), .val (.int p2), .val (.int p3), .val (.long p4), .second, .val (.int (2 : Int32)), .val (.int y0), .val (.int y1), .val (.int y2), .val (.int y3), .val (.ref a107), .unset, .unset, .unset] [(.ref a110), (.long p4), (.ref a109), (.ref b108), (.ref b108)])
    refine OwnGoW.st (fun _ k => XS.aload X110.here hx rfl (hb hby at_54) rfl rfl  k) ?_
    show OwnGoW p e below s Z own_EL _ _ _ T110 (mkF m 56 #[.val (.int p1), .val (.int p2), .val (.int p3), .val (.long p4), .second, .val (.int (2 : Int32)), .val (.int y0), .val (.int y1), .val (.int y2), .val (.int y3), .val (.ref a107), .unset, .unset, .unset] [(.ref a107), (.ref a110), (.long p4), (.ref a109), (.ref b108), (.ref b108)])
    obtain ⟨_, _, ⟨T111, L111, k111, n111⟩, -, X111, ⟨Lc111, hQ111, l111, y111, z111⟩, st111⟩ := X110.specialBack hx (y := (⟨"com/example/thorough_factfind/thoroughfactfind/foundation/db/Event", "<init>", "(Ljava/lang/String;JLjava/lang/String;[B)V"⟩ : MethodName)) rfl hown (mvT hZ (hw _ (List.mem_of_getElem? (i := 17) rfl))) (mvT hZ (hw _ (List.mem_of_getElem? (i := 18) rfl))) (mvT hZ (hw _ (List.mem_of_getElem? (i := 19) rfl))) (by decide) (backOf (W := 1) (rmini l Z a0 hw [] b108 a109 p4 a110 a107 kc107 (2 : Int32) [(.int y0), (.int y1)] h110 n0 Z_ E_b108 g_b108 ne_a107_b108 F__type_b108 F__clientId_b108 F__subject_b108 F__data_b108 V107 E107 (by decide)) hZ (hw _ (List.mem_of_getElem? (i := 19) rfl)) (hw _ (List.mem_of_getElem? (i := 8) rfl)) (by decide) (by decide)) (g := (mkF m 56 #[.val (.int p1), .val (.int p2), .val (.int p3), .val (.long p4), .second, .val (.int (2 : Int32)), .val (.int y0), .val (.int y1), .val (.int y2), .val (.int y3), .val (.ref a107), .unset, .unset, .unset] [(.ref a107), (.ref a110), (.long p4), (.ref a109), (.ref b108), (.ref b108)])) rfl (by rw [hml]; rfl) (Steps.refl _) (a := b108) (argsL := [(.ref a109), (.long p4), (.ref a110), (.ref a107)]) (rest := [(.ref b108)]) (lenOf pd_2 rfl) rfl (by show 2 * 0 + _ ≤ _; exact Nat.le_of_eq rfl) (hb hby at_56) (fun _ _ => ⟨rfl, e110, (by decide : 6 + 1 ≤ _), (by decide : 118 + 4 ≤ _)⟩)
    dsimp only [Pt.U, Pt.locs, Pt.cells, Pt.slots] at X111 l111 y111 z111 st111 hQ111
    subst l111 y111 z111
    obtain ⟨rfl, N111q, K111, Eo111, c111, F111, V111, E111, zc111⟩ := hQ111
    have N111 := Fr.app N107 N111q
    have ne_a107_c111 : a107 ≠ c111 := Nat.ne_of_lt (Nat.lt_of_lt_of_le V107.lt zc111)
    have ne_b108_c111 : b108 ≠ c111 := Nat.ne_of_lt (Nat.lt_of_lt_of_le E_b108.lt zc111)
    have g_c111 : n0 ≤ c111 := Nat.le_trans Z_ zc111
    have Z_ : n0 ≤ T111.heap.size := Nat.le_trans Z_ K111.1
    have V107 := V107.keep K111 (ninS ne_a107_b108 nin0)
    have E107 := E107.keep K111
    have E_b108 := E_b108.keep K111
    have CR := CR.trans (CHr.keep K111 (sfS own_safe sf0) CR.1)
    have hk_ := Nat.le_trans hk_ K111.1
    refine OwnGoW.st (fun _ k => st111.trans k) ?_
    show OwnGoW p e below s Z own_EL _ _ _ T111 (mkF m 59 #[.val (.int p1), .val (.int p2), .val (.int p3), .val (.long p4), .second, .val (.int (2 : Int32)), .val (.int y0), .val (.int y1), .val (.int y2), .val (.int y3), .val (.ref a107), .unset, .unset, .unset] [(.ref b108)])
    refine OwnGoW.st (fun _ k => XS.astore X111.here hx rfl (hb hby at_59) rfl rfl (l' := #[.val (.int p1), .val (.int p2), .val (.int p3), .val (.long p4), .second, .val (.int (2 : Int32)), .val (.int y0), .val (.int y1), .val (.int y2), .val (.int y3), .val (.ref a107), .val (.ref b108), .unset, .unset]) rfl k) ?_
    show OwnGoW p e below s Z own_EL _ _ _ T111 (mkF m 61 #[.val (.int p1), .val (.int p2), .val (.int p3), .val (.long p4), .second, .val (.int (2 : Int32)), .val (.int y0), .val (.int y1), .val (.int y2), .val (.int y3), .val (.ref a107), .val (.ref b108), .unset, .unset] [])
    refine OwnGoW.st (fun _ k => XS.aload X111.here hx rfl (hb hby at_61) rfl rfl  k) ?_
    show OwnGoW p e below s Z own_EL _ _ _ T111 (mkF m 63 #[.val (.int p1), .val (.int p2), .val (.int p3), .val (.long p4), .second, .val (.int (2 : Int32)), .val (.int y0), .val (.int y1), .val (.int y2), .val (.int y3), .val (.ref a107), .val (.ref b108), .unset, .unset] [(.ref a107)])
    obtain ⟨_, _, ⟨T112, L112, k112, n112⟩, -, X112, ⟨Lc112, hQ112, l112, y112, z112⟩, st112⟩ := Jvm.LawKit.callS X111 hx (y := (⟨"com/example/thorough_factfind/thoroughfactfind/foundation/db/EventDataPinLaw", "bump", "([B)V"⟩ : MethodName)) hown (mvT hZ (hw _ (List.mem_of_getElem? (i := 44) rfl))) (mvT hZ (hw _ (List.mem_of_getElem? (i := 45) rfl))) (mvT hZ (hw _ (List.mem_of_getElem? (i := 3) rfl))) (mvT hZ (hw _ (List.mem_of_getElem? (i := 46) rfl))) (by decide) (backOf (W := 0) (rmbu2 l Z a0 hw [] a107 kc107 y0 y1 T111.heap n0 Z_ V107 g_a107) hZ (hw _ (List.mem_of_getElem? (i := 46) rfl)) (hw _ (List.mem_of_getElem? (i := 3) rfl)) (by decide) (by decide)) (g := (mkF m 63 #[.val (.int p1), .val (.int p2), .val (.int p3), .val (.long p4), .second, .val (.int (2 : Int32)), .val (.int y0), .val (.int y1), .val (.int y2), .val (.int y3), .val (.ref a107), .val (.ref b108), .unset, .unset] [(.ref a107)])) rfl (by rw [hml]; rfl) (argsL := [(.ref a107)]) (rest := []) (lenOf pd_3 rfl) rfl (by show 2 * 0 + _ ≤ _; exact Nat.le_of_eq rfl) (hb hby at_63) (fun _ _ => ⟨rfl, rfl, (by decide : 7 + 0 ≤ _), (by decide : 122 + 0 ≤ _)⟩)
    dsimp only [Pt.U, Pt.locs, Pt.cells, Pt.slots] at X112 l112 y112 z112 st112 hQ112
    subst l112 y112 z112
    obtain ⟨rfl, N112q, K112⟩ := hQ112
    have N112 := Fr.app N111 N112q
    have Z_ : n0 ≤ T112.heap.size := Nat.le_trans Z_ K112.1
    have E107 := E107.keep K112
    have E_b108 := E_b108.keep K112
    have F111 := F111.keep K112 (ninS (Ne.symm ne_a107_b108) nin0)
    have V111 := V111.keep K112 (ninS (Ne.symm ne_a107_c111) nin0)
    have E111 := E111.keep K112
    have CR := CR.trans (CHr.keep K112 (sfS own_safe sf0) CR.1)
    have hk_ := Nat.le_trans hk_ K112.1
    refine OwnGoW.st st112 ?_
    show OwnGoW p e below s Z own_EL _ _ _ T112 (mkF m 66 #[.val (.int p1), .val (.int p2), .val (.int p3), .val (.long p4), .second, .val (.int (2 : Int32)), .val (.int y0), .val (.int y1), .val (.int y2), .val (.int y3), .val (.ref a107), .val (.ref b108), .unset, .unset] [])
    refine OwnGoW.st (fun _ k => XS.aload X112.here hx rfl (hb hby at_66) rfl rfl  k) ?_
    show OwnGoW p e below s Z own_EL _ _ _ T112 (mkF m 68 #[.val (.int p1), .val (.int p2), .val (.int p3), .val (.long p4), .second, .val (.int (2 : Int32)), .val (.int y0), .val (.int y1), .val (.int y2), .val (.int y3), .val (.ref a107), .val (.ref b108), .unset, .unset] [(.ref b108)])
    obtain ⟨cq113, kq113, q113a, q113b, q113c⟩ := isOf hZ rfl E_b108
    obtain ⟨_, _, ⟨T113, L113, k113, n113⟩, -, X113, ⟨Lc113, hQ113, l113, y113, z113⟩, st113⟩ := X112.virtualBack hx (y := (⟨"com/example/thorough_factfind/thoroughfactfind/foundation/db/Event", "data", "()[B"⟩ : MethodName)) (z := (⟨"com/example/thorough_factfind/thoroughfactfind/foundation/db/Event", "data", "()[B"⟩ : MethodName)) hown (mvT hZ (hw _ (List.mem_of_getElem? (i := 47) rfl))) (mvT hZ (hw _ (List.mem_of_getElem? (i := 48) rfl))) (notFace_of_selects (args := #[]) (mvT hZ (hw _ (List.mem_of_getElem? (i := 50) rfl)))) (mvT hZ (hw _ (List.mem_of_getElem? (i := 50) rfl))) (mvT hZ (hw _ (List.mem_of_getElem? (i := 49) rfl))) (by decide) (backOf (W := 0) (rmdat l Z a0 hw [] b108 c111 kc107 (2 : Int32) [(.int y0), (.int y1)] T112.heap n0 Z_ F111 V111 E111 (by decide)) hZ (hw _ (List.mem_of_getElem? (i := 51) rfl)) (hw _ (List.mem_of_getElem? (i := 8) rfl)) (by decide) (by decide)) q113a q113c (g := (mkF m 68 #[.val (.int p1), .val (.int p2), .val (.int p3), .val (.long p4), .second, .val (.int (2 : Int32)), .val (.int y0), .val (.int y1), .val (.int y2), .val (.int y3), .val (.ref a107), .val (.ref b108), .unset, .unset] [(.ref b108)])) rfl (by rw [hml]; rfl) (Steps.refl _) (argsL := []) (rest := []) (lenOf pd_4 rfl) rfl (by show 2 * 0 + _ ≤ _; exact Nat.le_of_eq rfl) (hb hby at_68) (fun _ _ => ⟨rfl, rfl, (by decide : 7 + 1 ≤ _), (by decide : 122 + 4 ≤ _)⟩)
    dsimp only [Pt.U, Pt.locs, Pt.cells, Pt.slots] at X113 l113 y113 z113 st113 hQ113
    subst l113 y113 z113
    obtain ⟨c113, rfl, N113q, K113, V113, E113, zc113⟩ := hQ113
    have N113 := Fr.app N112 N113q
    have ne_a107_c113 : a107 ≠ c113 := Nat.ne_of_lt (Nat.lt_of_lt_of_le E107.lt zc113)
    have ne_b108_c113 : b108 ≠ c113 := Nat.ne_of_lt (Nat.lt_of_lt_of_le E_b108.lt zc113)
    have ne_c111_c113 : c111 ≠ c113 := Nat.ne_of_lt (Nat.lt_of_lt_of_le V111.lt zc113)
    have g_c113 : n0 ≤ c113 := Nat.le_trans Z_ zc113
    have Z_ : n0 ≤ T113.heap.size := Nat.le_trans Z_ K113.1
    have E107 := E107.keep K113
    have E_b108 := E_b108.keep K113
    have F111 := F111.keep K113 nin0
    have V111 := V111.keep K113 nin0
    have E111 := E111.keep K113
    have CR := CR.trans (CHr.keep K113 sf0 CR.1)
    have hk_ := Nat.le_trans hk_ K113.1
    refine OwnGoW.st (fun _ k => st113.trans k) ?_
    show OwnGoW p e below s Z own_EL _ _ _ T113 (mkF m 71 #[.val (.int p1), .val (.int p2), .val (.int p3), .val (.long p4), .second, .val (.int (2 : Int32)), .val (.int y0), .val (.int y1), .val (.int y2), .val (.int y3), .val (.ref a107), .val (.ref b108), .unset, .unset] [(.ref c113)])
    refine OwnGoW.st (fun _ k => XS.astore X113.here hx rfl (hb hby at_71) rfl rfl (l' := #[.val (.int p1), .val (.int p2), .val (.int p3), .val (.long p4), .second, .val (.int (2 : Int32)), .val (.int y0), .val (.int y1), .val (.int y2), .val (.int y3), .val (.ref a107), .val (.ref b108), .val (.ref c113), .unset]) rfl k) ?_
    show OwnGoW p e below s Z own_EL _ _ _ T113 (mkF m 73 #[.val (.int p1), .val (.int p2), .val (.int p3), .val (.long p4), .second, .val (.int (2 : Int32)), .val (.int y0), .val (.int y1), .val (.int y2), .val (.int y3), .val (.ref a107), .val (.ref b108), .val (.ref c113), .unset] [])
    refine OwnGoW.st (fun _ k => XS.aload X113.here hx rfl (hb hby at_73) rfl rfl  k) ?_
    show OwnGoW p e below s Z own_EL _ _ _ T113 (mkF m 75 #[.val (.int p1), .val (.int p2), .val (.int p3), .val (.long p4), .second, .val (.int (2 : Int32)), .val (.int y0), .val (.int y1), .val (.int y2), .val (.int y3), .val (.ref a107), .val (.ref b108), .val (.ref c113), .unset] [(.ref c113)])
    refine OwnGoW.st (fun _ k => XS.iload X113.here hx rfl (hb hby at_75) rfl  k) ?_
    show OwnGoW p e below s Z own_EL _ _ _ T113 (mkF m 77 #[.val (.int p1), .val (.int p2), .val (.int p3), .val (.long p4), .second, .val (.int (2 : Int32)), .val (.int y0), .val (.int y1), .val (.int y2), .val (.int y3), .val (.ref a107), .val (.ref b108), .val (.ref c113), .unset] [(.int (2 : Int32)), (.ref c113)])
    refine OwnGoW.st (fun _ k => XS.iload X113.here hx rfl (hb hby at_77) rfl  k) ?_
    show OwnGoW p e below s Z own_EL _ _ _ T113 (mkF m 79 #[.val (.int p1), .val (.int p2), .val (.int p3), .val (.long p4), .second, .val (.int (2 : Int32)), .val (.int y0), .val (.int y1), .val (.int y2), .val (.int y3), .val (.ref a107), .val (.ref b108), .val (.ref c113), .unset] [(.int y0), (.int (2 : Int32)), (.ref c113)])
    refine OwnGoW.st (fun _ k => XS.iload X113.here hx rfl (hb hby at_79) rfl  k) ?_
    show OwnGoW p e below s Z own_EL _ _ _ T113 (mkF m 81 #[.val (.int p1), .val (.int p2), .val (.int p3), .val (.long p4), .second, .val (.int (2 : Int32)), .val (.int y0), .val (.int y1), .val (.int y2), .val (.int y3), .val (.ref a107), .val (.ref b108), .val (.ref c113), .unset] [(.int y1), (.int y0), (.int (2 : Int32)), (.ref c113)])
    refine OwnGoW.st (fun _ k => XS.iload X113.here hx rfl (hb hby at_81) rfl  k) ?_
    show OwnGoW p e below s Z own_EL _ _ _ T113 (mkF m 83 #[.val (.int p1), .val (.int p2), .val (.int p3), .val (.long p4), .second, .val (.int (2 : Int32)), .val (.int y0), .val (.int y1), .val (.int y2), .val (.int y3), .val (.ref a107), .val (.ref b108), .val (.ref c113), .unset] [(.int y2), (.int y1), (.int y0), (.int (2 : Int32)), (.ref c113)])
    refine OwnGoW.st (fun _ k => XS.iload X113.here hx rfl (hb hby at_83) rfl  k) ?_
    show OwnGoW p e below s Z own_EL _ _ _ T113 (mkF m 85 #[.val (.int p1), .val (.int p2), .val (.int p3), .val (.long p4), .second, .val (.int (2 : Int32)), .val (.int y0), .val (.int y1), .val (.int y2), .val (.int y3), .val (.ref a107), .val (.ref b108), .val (.ref c113), .unset] [(.int y3), (.int y2), (.int y1), (.int y0), (.int (2 : Int32)), (.ref c113)])
    obtain ⟨_, _, ⟨T114, L114, k114, n114⟩, -, X114, ⟨Lc114, hQ114, l114, y114, z114⟩, st114⟩ := Jvm.LawKit.callS X113 hx (y := (⟨"com/example/thorough_factfind/thoroughfactfind/foundation/db/EventDataPinLaw", "same", "([BIBBBB)Z"⟩ : MethodName)) hown (mvT hZ (hw _ (List.mem_of_getElem? (i := 52) rfl))) (mvT hZ (hw _ (List.mem_of_getElem? (i := 53) rfl))) (mvT hZ (hw _ (List.mem_of_getElem? (i := 3) rfl))) (mvT hZ (hw _ (List.mem_of_getElem? (i := 54) rfl))) (by decide) (backOf (W := 0) (rmsa2 l Z a0 hw [] c113 kc107 y0 y1 y2 y3 T113.heap n0 Z_ V113) hZ (hw _ (List.mem_of_getElem? (i := 54) rfl)) (hw _ (List.mem_of_getElem? (i := 3) rfl)) (by decide) (by decide)) (g := (mkF m 85 #[.val (.int p1), .val (.int p2), .val (.int p3), .val (.long p4), .second, .val (.int (2 : Int32)), .val (.int y0), .val (.int y1), .val (.int y2), .val (.int y3), .val (.ref a107), .val (.ref b108), .val (.ref c113), .unset] [(.int y3), (.int y2), (.int y1), (.int y0), (.int (2 : Int32)), (.ref c113)])) rfl (by rw [hml]; rfl) (argsL := [(.ref c113), (.int (2 : Int32)), (.int y0), (.int y1), (.int y2), (.int y3)]) (rest := []) (lenOf pd_5 rfl) rfl (by show 2 * 0 + _ ≤ _; exact Nat.le_of_eq rfl) (hb hby at_85) (fun _ _ => ⟨rfl, rfl, (by decide : 8 + 0 ≤ _), (by decide : 126 + 0 ≤ _)⟩)
    dsimp only [Pt.U, Pt.locs, Pt.cells, Pt.slots] at X114 l114 y114 z114 st114 hQ114
    subst l114 y114 z114
    obtain ⟨rfl, N114q, e114⟩ := hQ114
    have N114 := Fr.app N113 N114q
    refine OwnGoW.st st114 ?_
    show OwnGoW p e below s Z own_EL _ _ _ T114 (mkF m 88 #[.val (.int p1), .val (.int p2), .val (.int p3), .val (.long p4), .second, .val (.int (2 : Int32)), .val (.int y0), .val (.int y1), .val (.int y2), .val (.int y3), .val (.ref a107), .val (.ref b108), .val (.ref c113), .unset] [(.int (1 : Int32))])
    refine OwnGoW.st (fun _ k => XS.ifYes X114.here hx rfl (pc0 := 88) (pc' := 93) rfl (hb hby at_88) rfl ((if0 _ _).trans (feq ((by decide) : ¬ ((1 : Int32) = (0 : Int32)))).2) (by decide) (by decide) k) ?_
    show OwnGoW p e below s Z own_EL _ _ _ T114 (mkF m 93 #[.val (.int p1), .val (.int p2), .val (.int p3), .val (.long p4), .second, .val (.int (2 : Int32)), .val (.int y0), .val (.int y1), .val (.int y2), .val (.int y3), .val (.ref a107), .val (.ref b108), .val (.ref c113), .unset] [])
    refine OwnGoW.st (fun _ k => XS.aload X114.here hx rfl (hb hby at_93) rfl rfl  k) ?_
    show OwnGoW p e below s Z own_EL _ _ _ T114 (mkF m 95 #[.val (.int p1), .val (.int p2), .val (.int p3), .val (.long p4), .second, .val (.int (2 : Int32)), .val (.int y0), .val (.int y1), .val (.int y2), .val (.int y3), .val (.ref a107), .val (.ref b108), .val (.ref c113), .unset] [(.ref c113)])
    obtain ⟨_, _, ⟨T115, L115, k115, n115⟩, -, X115, ⟨Lc115, hQ115, l115, y115, z115⟩, st115⟩ := Jvm.LawKit.callS X114 hx (y := (⟨"com/example/thorough_factfind/thoroughfactfind/foundation/db/EventDataPinLaw", "bump", "([B)V"⟩ : MethodName)) hown (mvT hZ (hw _ (List.mem_of_getElem? (i := 44) rfl))) (mvT hZ (hw _ (List.mem_of_getElem? (i := 45) rfl))) (mvT hZ (hw _ (List.mem_of_getElem? (i := 3) rfl))) (mvT hZ (hw _ (List.mem_of_getElem? (i := 46) rfl))) (by decide) (backOf (W := 0) (rmbu2 l Z a0 hw [] c113 kc107 y0 y1 T113.heap n0 Z_ V113 g_c113) hZ (hw _ (List.mem_of_getElem? (i := 46) rfl)) (hw _ (List.mem_of_getElem? (i := 3) rfl)) (by decide) (by decide)) (g := (mkF m 95 #[.val (.int p1), .val (.int p2), .val (.int p3), .val (.long p4), .second, .val (.int (2 : Int32)), .val (.int y0), .val (.int y1), .val (.int y2), .val (.int y3), .val (.ref a107), .val (.ref b108), .val (.ref c113), .unset] [(.ref c113)])) rfl (by rw [hml]; rfl) (argsL := [(.ref c113)]) (rest := []) (lenOf pd_3 rfl) rfl (by show 2 * 0 + _ ≤ _; exact Nat.le_of_eq rfl) (hb hby at_95) (fun _ _ => ⟨rfl, e114, (by decide : 8 + 0 ≤ _), (by decide : 126 + 0 ≤ _)⟩)
    dsimp only [Pt.U, Pt.locs, Pt.cells, Pt.slots] at X115 l115 y115 z115 st115 hQ115
    subst l115 y115 z115
    obtain ⟨rfl, N115q, K115⟩ := hQ115
    have N115 := Fr.app N114 N115q
    have Z_ : n0 ≤ T115.heap.size := Nat.le_trans Z_ K115.1
    have E107 := E107.keep K115
    have E_b108 := E_b108.keep K115
    have F111 := F111.keep K115 (ninS ne_b108_c113 nin0)
    have V111 := V111.keep K115 (ninS ne_c111_c113 nin0)
    have E111 := E111.keep K115
    have E113 := E113.keep K115
    have CR := CR.trans (CHr.keep K115 (sfS own_safe sf0) CR.1)
    have hk_ := Nat.le_trans hk_ K115.1
    refine OwnGoW.st st115 ?_
    show OwnGoW p e below s Z own_EL _ _ _ T115 (mkF m 98 #[.val (.int p1), .val (.int p2), .val (.int p3), .val (.long p4), .second, .val (.int (2 : Int32)), .val (.int y0), .val (.int y1), .val (.int y2), .val (.int y3), .val (.ref a107), .val (.ref b108), .val (.ref c113), .unset] [])
    refine OwnGoW.st (fun _ k => XS.aload X115.here hx rfl (hb hby at_98) rfl rfl  k) ?_
    show OwnGoW p e below s Z own_EL _ _ _ T115 (mkF m 100 #[.val (.int p1), .val (.int p2), .val (.int p3), .val (.long p4), .second, .val (.int (2 : Int32)), .val (.int y0), .val (.int y1), .val (.int y2), .val (.int y3), .val (.ref a107), .val (.ref b108), .val (.ref c113), .unset] [(.ref b108)])
    obtain ⟨cq116, kq116, q116a, q116b, q116c⟩ := isOf hZ rfl E_b108
    obtain ⟨_, _, ⟨T116, L116, k116, n116⟩, -, X116, ⟨Lc116, hQ116, l116, y116, z116⟩, st116⟩ := X115.virtualBack hx (y := (⟨"com/example/thorough_factfind/thoroughfactfind/foundation/db/Event", "data", "()[B"⟩ : MethodName)) (z := (⟨"com/example/thorough_factfind/thoroughfactfind/foundation/db/Event", "data", "()[B"⟩ : MethodName)) hown (mvT hZ (hw _ (List.mem_of_getElem? (i := 47) rfl))) (mvT hZ (hw _ (List.mem_of_getElem? (i := 48) rfl))) (notFace_of_selects (args := #[]) (mvT hZ (hw _ (List.mem_of_getElem? (i := 50) rfl)))) (mvT hZ (hw _ (List.mem_of_getElem? (i := 50) rfl))) (mvT hZ (hw _ (List.mem_of_getElem? (i := 49) rfl))) (by decide) (backOf (W := 0) (rmdat l Z a0 hw [] b108 c111 kc107 (2 : Int32) [(.int y0), (.int y1)] T115.heap n0 Z_ F111 V111 E111 (by decide)) hZ (hw _ (List.mem_of_getElem? (i := 51) rfl)) (hw _ (List.mem_of_getElem? (i := 8) rfl)) (by decide) (by decide)) q116a q116c (g := (mkF m 100 #[.val (.int p1), .val (.int p2), .val (.int p3), .val (.long p4), .second, .val (.int (2 : Int32)), .val (.int y0), .val (.int y1), .val (.int y2), .val (.int y3), .val (.ref a107), .val (.ref b108), .val (.ref c113), .unset] [(.ref b108)])) rfl (by rw [hml]; rfl) (Steps.refl _) (argsL := []) (rest := []) (lenOf pd_4 rfl) rfl (by show 2 * 0 + _ ≤ _; exact Nat.le_of_eq rfl) (hb hby at_100) (fun _ _ => ⟨rfl, rfl, (by decide : 8 + 1 ≤ _), (by decide : 126 + 4 ≤ _)⟩)
    dsimp only [Pt.U, Pt.locs, Pt.cells, Pt.slots] at X116 l116 y116 z116 st116 hQ116
    subst l116 y116 z116
    obtain ⟨c116, rfl, N116q, K116, V116, E116, zc116⟩ := hQ116
    have N116 := Fr.app N115 N116q
    have ne_a107_c116 : a107 ≠ c116 := Nat.ne_of_lt (Nat.lt_of_lt_of_le E107.lt zc116)
    have ne_b108_c116 : b108 ≠ c116 := Nat.ne_of_lt (Nat.lt_of_lt_of_le E_b108.lt zc116)
    have ne_c111_c116 : c111 ≠ c116 := Nat.ne_of_lt (Nat.lt_of_lt_of_le V111.lt zc116)
    have ne_c113_c116 : c113 ≠ c116 := Nat.ne_of_lt (Nat.lt_of_lt_of_le E113.lt zc116)
    have g_c116 : n0 ≤ c116 := Nat.le_trans Z_ zc116
    have Z_ : n0 ≤ T116.heap.size := Nat.le_trans Z_ K116.1
    have E107 := E107.keep K116
    have E_b108 := E_b108.keep K116
    have F111 := F111.keep K116 nin0
    have V111 := V111.keep K116 nin0
    have E111 := E111.keep K116
    have E113 := E113.keep K116
    have CR := CR.trans (CHr.keep K116 sf0 CR.1)
    have hk_ := Nat.le_trans hk_ K116.1
    refine OwnGoW.st (fun _ k => st116.trans k) ?_
    show OwnGoW p e below s Z own_EL _ _ _ T116 (mkF m 103 #[.val (.int p1), .val (.int p2), .val (.int p3), .val (.long p4), .second, .val (.int (2 : Int32)), .val (.int y0), .val (.int y1), .val (.int y2), .val (.int y3), .val (.ref a107), .val (.ref b108), .val (.ref c113), .unset] [(.ref c116)])
    refine OwnGoW.st (fun _ k => XS.astore X116.here hx rfl (hb hby at_103) rfl rfl (l' := #[.val (.int p1), .val (.int p2), .val (.int p3), .val (.long p4), .second, .val (.int (2 : Int32)), .val (.int y0), .val (.int y1), .val (.int y2), .val (.int y3), .val (.ref a107), .val (.ref b108), .val (.ref c113), .val (.ref c116)]) rfl k) ?_
    show OwnGoW p e below s Z own_EL _ _ _ T116 (mkF m 105 #[.val (.int p1), .val (.int p2), .val (.int p3), .val (.long p4), .second, .val (.int (2 : Int32)), .val (.int y0), .val (.int y1), .val (.int y2), .val (.int y3), .val (.ref a107), .val (.ref b108), .val (.ref c113), .val (.ref c116)] [])
    refine OwnGoW.st (fun _ k => XS.aload X116.here hx rfl (hb hby at_105) rfl rfl  k) ?_
    show OwnGoW p e below s Z own_EL _ _ _ T116 (mkF m 107 #[.val (.int p1), .val (.int p2), .val (.int p3), .val (.long p4), .second, .val (.int (2 : Int32)), .val (.int y0), .val (.int y1), .val (.int y2), .val (.int y3), .val (.ref a107), .val (.ref b108), .val (.ref c113), .val (.ref c116)] [(.ref c116)])
    refine OwnGoW.st (fun _ k => XS.iload X116.here hx rfl (hb hby at_107) rfl  k) ?_
    show OwnGoW p e below s Z own_EL _ _ _ T116 (mkF m 109 #[.val (.int p1), .val (.int p2), .val (.int p3), .val (.long p4), .second, .val (.int (2 : Int32)), .val (.int y0), .val (.int y1), .val (.int y2), .val (.int y3), .val (.ref a107), .val (.ref b108), .val (.ref c113), .val (.ref c116)] [(.int (2 : Int32)), (.ref c116)])
    refine OwnGoW.st (fun _ k => XS.iload X116.here hx rfl (hb hby at_109) rfl  k) ?_
    show OwnGoW p e below s Z own_EL _ _ _ T116 (mkF m 111 #[.val (.int p1), .val (.int p2), .val (.int p3), .val (.long p4), .second, .val (.int (2 : Int32)), .val (.int y0), .val (.int y1), .val (.int y2), .val (.int y3), .val (.ref a107), .val (.ref b108), .val (.ref c113), .val (.ref c116)] [(.int y0), (.int (2 : Int32)), (.ref c116)])
    refine OwnGoW.st (fun _ k => XS.iload X116.here hx rfl (hb hby at_111) rfl  k) ?_
    show OwnGoW p e below s Z own_EL _ _ _ T116 (mkF m 113 #[.val (.int p1), .val (.int p2), .val (.int p3), .val (.long p4), .second, .val (.int (2 : Int32)), .val (.int y0), .val (.int y1), .val (.int y2), .val (.int y3), .val (.ref a107), .val (.ref b108), .val (.ref c113), .val (.ref c116)] [(.int y1), (.int y0), (.int (2 : Int32)), (.ref c116)])
    refine OwnGoW.st (fun _ k => XS.iload X116.here hx rfl (hb hby at_113) rfl  k) ?_
    show OwnGoW p e below s Z own_EL _ _ _ T116 (mkF m 115 #[.val (.int p1), .val (.int p2), .val (.int p3), .val (.long p4), .second, .val (.int (2 : Int32)), .val (.int y0), .val (.int y1), .val (.int y2), .val (.int y3), .val (.ref a107), .val (.ref b108), .val (.ref c113), .val (.ref c116)] [(.int y2), (.int y1), (.int y0), (.int (2 : Int32)), (.ref c116)])
    refine OwnGoW.st (fun _ k => XS.iload X116.here hx rfl (hb hby at_115) rfl  k) ?_
    show OwnGoW p e below s Z own_EL _ _ _ T116 (mkF m 117 #[.val (.int p1), .val (.int p2), .val (.int p3), .val (.long p4), .second, .val (.int (2 : Int32)), .val (.int y0), .val (.int y1), .val (.int y2), .val (.int y3), .val (.ref a107), .val (.ref b108), .val (.ref c113), .val (.ref c116)] [(.int y3), (.int y2), (.int y1), (.int y0), (.int (2 : Int32)), (.ref c116)])
    obtain ⟨_, _, ⟨T117, L117, k117, n117⟩, -, X117, ⟨Lc117, hQ117, l117, y117, z117⟩, st117⟩ := Jvm.LawKit.callS X116 hx (y := (⟨"com/example/thorough_factfind/thoroughfactfind/foundation/db/EventDataPinLaw", "same", "([BIBBBB)Z"⟩ : MethodName)) hown (mvT hZ (hw _ (List.mem_of_getElem? (i := 52) rfl))) (mvT hZ (hw _ (List.mem_of_getElem? (i := 53) rfl))) (mvT hZ (hw _ (List.mem_of_getElem? (i := 3) rfl))) (mvT hZ (hw _ (List.mem_of_getElem? (i := 54) rfl))) (by decide) (backOf (W := 0) (rmsa2 l Z a0 hw [] c116 kc107 y0 y1 y2 y3 T116.heap n0 Z_ V116) hZ (hw _ (List.mem_of_getElem? (i := 54) rfl)) (hw _ (List.mem_of_getElem? (i := 3) rfl)) (by decide) (by decide)) (g := (mkF m 117 #[.val (.int p1), .val (.int p2), .val (.int p3), .val (.long p4), .second, .val (.int (2 : Int32)), .val (.int y0), .val (.int y1), .val (.int y2), .val (.int y3), .val (.ref a107), .val (.ref b108), .val (.ref c113), .val (.ref c116)] [(.int y3), (.int y2), (.int y1), (.int y0), (.int (2 : Int32)), (.ref c116)])) rfl (by rw [hml]; rfl) (argsL := [(.ref c116), (.int (2 : Int32)), (.int y0), (.int y1), (.int y2), (.int y3)]) (rest := []) (lenOf pd_5 rfl) rfl (by show 2 * 0 + _ ≤ _; exact Nat.le_of_eq rfl) (hb hby at_117) (fun _ _ => ⟨rfl, rfl, (by decide : 9 + 0 ≤ _), (by decide : 130 + 0 ≤ _)⟩)
    dsimp only [Pt.U, Pt.locs, Pt.cells, Pt.slots] at X117 l117 y117 z117 st117 hQ117
    subst l117 y117 z117
    obtain ⟨rfl, N117q, e117⟩ := hQ117
    have N117 := Fr.app N116 N117q
    refine OwnGoW.st st117 ?_
    show OwnGoW p e below s Z own_EL _ _ _ T117 (mkF m 120 #[.val (.int p1), .val (.int p2), .val (.int p3), .val (.long p4), .second, .val (.int (2 : Int32)), .val (.int y0), .val (.int y1), .val (.int y2), .val (.int y3), .val (.ref a107), .val (.ref b108), .val (.ref c113), .val (.ref c116)] [(.int (1 : Int32))])
    exact OwnGoW.retN (s := s) (vm0 := T110.vm) X117 hS_ hk_ e117 hZ (own_hEL hw) CR hx (t := .boolean) hret hlk (by simp) (hb hby at_120) (by show Q0 Z p1 p2 p3 p4 h0 n0 _ T117.heap _; rw [e117]; exact ⟨rfl, N117⟩) (by decide) (by decide)
  · show OwnGoW p e below s Z own_EL _ _ _ s₁ (mkF m 30 #[.val (.int p1), .val (.int p2), .val (.int p3), .val (.long p4), .second, .val (.int (3 : Int32)), .val (.int y0), .val (.int y1), .val (.int y2), .val (.int y3), .unset, .unset, .unset, .unset] [])
    refine OwnGoW.st (fun _ k => XS.iload X0.here hx rfl (hb hby at_30) rfl  k) ?_
    show OwnGoW p e below s Z own_EL _ _ _ s₁ (mkF m 32 #[.val (.int p1), .val (.int p2), .val (.int p3), .val (.long p4), .second, .val (.int (3 : Int32)), .val (.int y0), .val (.int y1), .val (.int y2), .val (.int y3), .unset, .unset, .unset, .unset] [(.int (3 : Int32))])
    refine OwnGoW.st (fun _ k => XS.iload X0.here hx rfl (hb hby at_32) rfl  k) ?_
    show OwnGoW p e below s Z own_EL _ _ _ s₁ (mkF m 34 #[.val (.int p1), .val (.int p2), .val (.int p3), .val (.long p4), .second, .val (.int (3 : Int32)), .val (.int y0), .val (.int y1), .val (.int y2), .val (.int y3), .unset, .unset, .unset, .unset] [(.int y0), (.int (3 : Int32))])
    refine OwnGoW.st (fun _ k => XS.iload X0.here hx rfl (hb hby at_34) rfl  k) ?_
    show OwnGoW p e below s Z own_EL _ _ _ s₁ (mkF m 36 #[.val (.int p1), .val (.int p2), .val (.int p3), .val (.long p4), .second, .val (.int (3 : Int32)), .val (.int y0), .val (.int y1), .val (.int y2), .val (.int y3), .unset, .unset, .unset, .unset] [(.int y1), (.int y0), (.int (3 : Int32))])
    refine OwnGoW.st (fun _ k => XS.iload X0.here hx rfl (hb hby at_36) rfl  k) ?_
    show OwnGoW p e below s Z own_EL _ _ _ s₁ (mkF m 38 #[.val (.int p1), .val (.int p2), .val (.int p3), .val (.long p4), .second, .val (.int (3 : Int32)), .val (.int y0), .val (.int y1), .val (.int y2), .val (.int y3), .unset, .unset, .unset, .unset] [(.int y2), (.int y1), (.int y0), (.int (3 : Int32))])
    refine OwnGoW.st (fun _ k => XS.iload X0.here hx rfl (hb hby at_38) rfl  k) ?_
    show OwnGoW p e below s Z own_EL _ _ _ s₁ (mkF m 40 #[.val (.int p1), .val (.int p2), .val (.int p3), .val (.long p4), .second, .val (.int (3 : Int32)), .val (.int y0), .val (.int y1), .val (.int y2), .val (.int y3), .unset, .unset, .unset, .unset] [(.int y3), (.int y2), (.int y1), (.int y0), (.int (3 : Int32))])
    obtain ⟨_, _, ⟨T118, L118, k118, n118⟩, -, X118, ⟨Lc118, hQ118, l118, y118, z118⟩, st118⟩ := Jvm.LawKit.callS X0 hx (y := (⟨"com/example/thorough_factfind/thoroughfactfind/foundation/db/EventDataPinLaw", "make", "(IBBBB)[B"⟩ : MethodName)) hown (mvT hZ (hw _ (List.mem_of_getElem? (i := 1) rfl))) (mvT hZ (hw _ (List.mem_of_getElem? (i := 2) rfl))) (mvT hZ (hw _ (List.mem_of_getElem? (i := 3) rfl))) (mvT hZ (hw _ (List.mem_of_getElem? (i := 4) rfl))) (by decide) (backOf (W := 0) (rmmk3 l Z a0 hw [] y0 y1 y2 y3 h0 n0 Z_ (by rw [hy0]; exact own_nb _) (by rw [hy1]; exact own_nb _) (by rw [hy2]; exact own_nb _) (by rw [hy3]; exact own_nb _)) hZ (hw _ (List.mem_of_getElem? (i := 4) rfl)) (hw _ (List.mem_of_getElem? (i := 3) rfl)) (by decide) (by decide)) (g := (mkF m 40 #[.val (.int p1), .val (.int p2), .val (.int p3), .val (.long p4), .second, .val (.int (3 : Int32)), .val (.int y0), .val (.int y1), .val (.int y2), .val (.int y3), .unset, .unset, .unset, .unset] [(.int y3), (.int y2), (.int y1), (.int y0), (.int (3 : Int32))])) rfl (by rw [hml]; rfl) (argsL := [(.int (3 : Int32)), (.int y0), (.int y1), (.int y2), (.int y3)]) (rest := []) (lenOf pd_1 rfl) rfl (by show 2 * 0 + _ ≤ _; exact Nat.le_of_eq rfl) (hb hby at_40) (fun _ _ => ⟨rfl, e0, (by decide : 0 + 1 ≤ _), (by decide : 0 + 3 ≤ _)⟩)
    dsimp only [Pt.U, Pt.locs, Pt.cells, Pt.slots] at X118 l118 y118 z118 st118 hQ118
    subst l118 y118 z118
    obtain ⟨a118, kc118, rfl, N118q, K118, V118, E118, za118⟩ := hQ118
    have N118 := Fr.app N0 N118q
    have g_a118 : n0 ≤ a118 := Nat.le_trans Z_ za118
    have Z_ : n0 ≤ T118.heap.size := Nat.le_trans Z_ K118.1
    have CR := CR.trans (CHr.keep K118 sf0 CR.1)
    have hk_ := Nat.le_trans hk_ K118.1
    refine OwnGoW.st st118 ?_
    show OwnGoW p e below s Z own_EL _ _ _ T118 (mkF m 43 #[.val (.int p1), .val (.int p2), .val (.int p3), .val (.long p4), .second, .val (.int (3 : Int32)), .val (.int y0), .val (.int y1), .val (.int y2), .val (.int y3), .unset, .unset, .unset, .unset] [(.ref a118)])
    refine OwnGoW.st (fun _ k => XS.astore X118.here hx rfl (hb hby at_43) rfl rfl (l' := #[.val (.int p1), .val (.int p2), .val (.int p3), .val (.long p4), .second, .val (.int (3 : Int32)), .val (.int y0), .val (.int y1), .val (.int y2), .val (.int y3), .val (.ref a118), .unset, .unset, .unset]) rfl k) ?_
    show OwnGoW p e below s Z own_EL _ _ _ T118 (mkF m 45 #[.val (.int p1), .val (.int p2), .val (.int p3), .val (.long p4), .second, .val (.int (3 : Int32)), .val (.int y0), .val (.int y1), .val (.int y2), .val (.int y3), .val (.ref a118), .unset, .unset, .unset] [])
    obtain ⟨T119, h119, X119, e119, E119, A119, D119, -, st119⟩ := newO X118 hx hZ hown (hw _ (List.mem_of_getElem? (i := 6) rfl)) (hw _ (List.mem_of_getElem? (i := 7) rfl)) (hw _ (List.mem_of_getElem? (i := 8) rfl)) rfl (g := (mkF m 45 #[.val (.int p1), .val (.int p2), .val (.int p3), .val (.long p4), .second, .val (.int (3 : Int32)), .val (.int y0), .val (.int y1), .val (.int y2), .val (.int y3), .val (.ref a118), .unset, .unset, .unset] [])) rfl (hb hby at_45) (by decide) (by decide)
    obtain ⟨b119, g119⟩ : ∃ z, z = T118.heap.size := ⟨_, rfl⟩
    rw [← g119] at A119 D119 st119
    have ne_a118_b119 : a118 ≠ b119 := Nat.ne_of_lt (Nat.lt_of_lt_of_le V118.lt (Nat.le_of_eq g119.symm))
    have g_b119 : n0 ≤ b119 := Nat.le_trans Z_ (Nat.le_of_eq g119.symm)
    have V118 := V118.ext E119
    have E118 := E118.ext E119
    have CR := CR.trans (CHr.ext E119 CR.1)
    have hk_ := Nat.le_trans hk_ E119.1
    have Z_ : n0 ≤ h119.size := Nat.le_trans Z_ E119.1
    have E_b119 := A119
    have F__type_b119 : Fld Z h119 b119 "com/example/thorough_factfind/thoroughfactfind/foundation/db/Event" "_type" "Ljava/lang/String;" .null := D119 (Or.inr (hw _ (List.mem_of_getElem? (i := 24) rfl))) (ty := (.object "java/lang/String")) (by decide)
    have F__clientId_b119 : Fld Z h119 b119 "com/example/thorough_factfind/thoroughfactfind/foundation/db/Event" "_clientId" "J" (.long (0 : Int64)) := D119 (Or.inr (hw _ (List.mem_of_getElem? (i := 26) rfl))) (ty := .long) (by decide)
    have F__subject_b119 : Fld Z h119 b119 "com/example/thorough_factfind/thoroughfactfind/foundation/db/Event" "_subject" "Ljava/lang/String;" .null := D119 (Or.inr (hw _ (List.mem_of_getElem? (i := 28) rfl))) (ty := (.object "java/lang/String")) (by decide)
    have F__data_b119 : Fld Z h119 b119 "com/example/thorough_factfind/thoroughfactfind/foundation/db/Event" "_data" "[B" .null := D119 (Or.inr (hw _ (List.mem_of_getElem? (i := 43) rfl))) (ty := (.array .byte)) (by decide)
    refine OwnGoW.st st119 ?_
    show OwnGoW p e below s Z own_EL _ _ _ T119 (mkF m 48 #[.val (.int p1), .val (.int p2), .val (.int p3), .val (.long p4), .second, .val (.int (3 : Int32)), .val (.int y0), .val (.int y1), .val (.int y2), .val (.int y3), .val (.ref a118), .unset, .unset, .unset] [(.ref b119)])
    refine OwnGoW.st (fun _ k => XS.dup X119.here hx rfl (hb hby at_48) rfl rfl k) ?_
    show OwnGoW p e below s Z own_EL _ _ _ T119 (mkF m 49 #[.val (.int p1), .val (.int p2), .val (.int p3), .val (.long p4), .second, .val (.int (3 : Int32)), .val (.int y0), .val (.int y1), .val (.int y2), .val (.int y3), .val (.ref a118), .unset, .unset, .unset] [(.ref b119), (.ref b119)])
    obtain ⟨a120, T120, h120, k1_120, X120, e120, E120, hS_, hkN, hZ, hown, CN, -, st120⟩ := ldcOH (s := s) (vm0 := s.vm) X119 hx hZ hown (hw _ (List.mem_of_getElem? (i := 9) rfl)) (own_wS hw) e119 hS_ hk_ (own_hEL hw) CR.1 (g := (mkF m 49 #[.val (.int p1), .val (.int p2), .val (.int p3), .val (.long p4), .second, .val (.int (3 : Int32)), .val (.int y0), .val (.int y1), .val (.int y2), .val (.int y3), .val (.ref a118), .unset, .unset, .unset] [(.ref b119), (.ref b119)])) rfl (hb hby at_49) (n := 52) (by decide) (by decide) (by decide) (by decide)
    have V118 := V118.ext E120
    have E118 := E118.ext E120
    have E_b119 := E_b119.ext E120
    have F__type_b119 := F__type_b119.ext E120
    have F__clientId_b119 := F__clientId_b119.ext E120
    have F__subject_b119 := F__subject_b119.ext E120
    have F__data_b119 := F__data_b119.ext E120
    have CR := CR.trans CN
    have hk_ := hkN
    have Z_ : n0 ≤ h120.size := Nat.le_trans Z_ E120.1
    refine OwnGoW.st st120 ?_
    show OwnGoW p e below s Z own_EL _ _ _ T120 (mkF m 51 #[.val (.int p1), .val (.int p2), .val (.int p3), .val (.long p4), .second, .val (.int (3 : Int32)), .val (.int y0), .val (.int y1), .val (.int y2), .val (.int y3), .val (.ref a118), .unset, .unset, .unset] [(.ref a120), (.ref b119), (.ref b119)])
    refine OwnGoW.st (fun _ k => XS.lloadN X120.here hx rfl (hb hby at_51) rfl  k) ?_
    show OwnGoW p e below s Z own_EL _ _ _ T120 (mkF m 52 #[.val (.int p1), .val (.int p2), .val (.int p3), .val (.long p4), .second, .val (.int (3 : Int32)), .val (.int y0), .val (.int y1), .val (.int y2), .val (.int y3), .val (.ref a118), .unset, .unset, .unset] [(.long p4), (.ref a120), (.ref b119), (.ref b119)])
    obtain ⟨a121, T121, h121, k1_121, X121, e121, E121, hS_, hkN, hZ, hown, CN, -, st121⟩ := ldcOH (s := s) (vm0 := T120.vm) X120 hx hZ hown (hw _ (List.mem_of_getElem? (i := 16) rfl)) (own_wS hw) e120 hS_ hk_ (own_hEL hw) CR.1 (g := (mkF m 52 #[.val (.int p1), .val (.int p2), .val (.int p3), .val (.long p4), .second, .val (.int (3 : Int32)), .val (.int y0), .val (.int y1), .val (.int y2), .val (.int y3), .val (.ref a118), .unset, .unset, .unset] [(.long p4), (.ref a120), (.ref b119), (.ref b119)])) rfl (hb hby at_52) (n := 52) (by decide) (by decide) (by decide) (by decide)
    have V118 := V118.ext E121
    have E118 := E118.ext E121
    have E_b119 := E_b119.ext E121
    have F__type_b119 := F__type_b119.ext E121
    have F__clientId_b119 := F__clientId_b119.ext E121
    have F__subject_b119 := F__subject_b119.ext E121
    have F__data_b119 := F__data_b119.ext E121
    have CR := CR.trans CN
    have hk_ := hkN
    have Z_ : n0 ≤ h121.size := Nat.le_trans Z_ E121.1
    refine OwnGoW.st st121 ?_
    show OwnGoW p e below s Z own_EL _ _ _ T121 (mkF m 54 #[.val (.int p1), .val (.int p2), .val (.int p3), .val (.long p4), .second, .val (.int (3 : Int32)), .val (.int y0), .val (.int y1), .val (.int y2), .val (.int y3), .val (.ref a118), .unset, .unset, .unset] [(.ref a121), (.long p4), (.ref a120), (.ref b119), (.ref b119)])
    refine OwnGoW.st (fun _ k => XS.aload X121.here hx rfl (hb hby at_54) rfl rfl  k) ?_
    show OwnGoW p e below s Z own_EL _ _ _ T121 (mkF m 56 #[.val (.int p1), .val (.int p2), .val (.int p3), .val (.long p4), .second, .val (.int (3 : Int32)), .val (.int y0), .val (.int y1), .val (.int y2), .val (.int y3), .val (.ref a118), .unset, .unset, .unset] [(.ref a118), (.ref a121), (.long p4), (.ref a120), (.ref b119), (.ref b119)])
    obtain ⟨_, _, ⟨T122, L122, k122, n122⟩, -, X122, ⟨Lc122, hQ122, l122, y122, z122⟩, st122⟩ := X121.specialBack hx (y := (⟨"com/example/thorough_factfind/thoroughfactfind/foundation/db/Event", "<init>", "(Ljava/lang/String;JLjava/lang/String;[B)V"⟩ : MethodName)) rfl hown (mvT hZ (hw _ (List.mem_of_getElem? (i := 17) rfl))) (mvT hZ (hw _ (List.mem_of_getElem? (i := 18) rfl))) (mvT hZ (hw _ (List.mem_of_getElem? (i := 19) rfl))) (by decide) (backOf (W := 1) (rmini l Z a0 hw [] b119 a120 p4 a121 a118 kc118 (3 : Int32) [(.int y0), (.int y1), (.int y2)] h121 n0 Z_ E_b119 g_b119 ne_a118_b119 F__type_b119 F__clientId_b119 F__subject_b119 F__data_b119 V118 E118 (by decide)) hZ (hw _ (List.mem_of_getElem? (i := 19) rfl)) (hw _ (List.mem_of_getElem? (i := 8) rfl)) (by decide) (by decide)) (g := (mkF m 56 #[.val (.int p1), .val (.int p2), .val (.int p3), .val (.long p4), .second, .val (.int (3 : Int32)), .val (.int y0), .val (.int y1), .val (.int y2), .val (.int y3), .val (.ref a118), .unset, .unset, .unset] [(.ref a118), (.ref a121), (.long p4), (.ref a120), (.ref b119), (.ref b119)])) rfl (by rw [hml]; rfl) (Steps.refl _) (a := b119) (argsL := [(.ref a120), (.long p4), (.ref a121), (.ref a118)]) (rest := [(.ref b119)]) (lenOf pd_2 rfl) rfl (by show 2 * 0 + _ ≤ _; exact Nat.le_of_eq rfl) (hb hby at_56) (fun _ _ => ⟨rfl, e121, (by decide : 6 + 1 ≤ _), (by decide : 119 + 4 ≤ _)⟩)
    dsimp only [Pt.U, Pt.locs, Pt.cells, Pt.slots] at X122 l122 y122 z122 st122 hQ122
    subst l122 y122 z122
    obtain ⟨rfl, N122q, K122, Eo122, c122, F122, V122, E122, zc122⟩ := hQ122
    have N122 := Fr.app N118 N122q
    have ne_a118_c122 : a118 ≠ c122 := Nat.ne_of_lt (Nat.lt_of_lt_of_le V118.lt zc122)
    have ne_b119_c122 : b119 ≠ c122 := Nat.ne_of_lt (Nat.lt_of_lt_of_le E_b119.lt zc122)
    have g_c122 : n0 ≤ c122 := Nat.le_trans Z_ zc122
    have Z_ : n0 ≤ T122.heap.size := Nat.le_trans Z_ K122.1
    have V118 := V118.keep K122 (ninS ne_a118_b119 nin0)
    have E118 := E118.keep K122
    have E_b119 := E_b119.keep K122
    have CR := CR.trans (CHr.keep K122 (sfS own_safe sf0) CR.1)
    have hk_ := Nat.le_trans hk_ K122.1
    refine OwnGoW.st (fun _ k => st122.trans k) ?_
    show OwnGoW p e below s Z own_EL _ _ _ T122 (mkF m 59 #[.val (.int p1), .val (.int p2), .val (.int p3), .val (.long p4), .second, .val (.int (3 : Int32)), .val (.int y0), .val (.int y1), .val (.int y2), .val (.int y3), .val (.ref a118), .unset, .unset, .unset] [(.ref b119)])
    refine OwnGoW.st (fun _ k => XS.astore X122.here hx rfl (hb hby at_59) rfl rfl (l' := #[.val (.int p1), .val (.int p2), .val (.int p3), .val (.long p4), .second, .val (.int (3 : Int32)), .val (.int y0), .val (.int y1), .val (.int y2), .val (.int y3), .val (.ref a118), .val (.ref b119), .unset, .unset]) rfl k) ?_
    show OwnGoW p e below s Z own_EL _ _ _ T122 (mkF m 61 #[.val (.int p1), .val (.int p2), .val (.int p3), .val (.long p4), .second, .val (.int (3 : Int32)), .val (.int y0), .val (.int y1), .val (.int y2), .val (.int y3), .val (.ref a118), .val (.ref b119), .unset, .unset] [])
    refine OwnGoW.st (fun _ k => XS.aload X122.here hx rfl (hb hby at_61) rfl rfl  k) ?_
    show OwnGoW p e below s Z own_EL _ _ _ T122 (mkF m 63 #[.val (.int p1), .val (.int p2), .val (.int p3), .val (.long p4), .second, .val (.int (3 : Int32)), .val (.int y0), .val (.int y1), .val (.int y2), .val (.int y3), .val (.ref a118), .val (.ref b119), .unset, .unset] [(.ref a118)])
    obtain ⟨_, _, ⟨T123, L123, k123, n123⟩, -, X123, ⟨Lc123, hQ123, l123, y123, z123⟩, st123⟩ := Jvm.LawKit.callS X122 hx (y := (⟨"com/example/thorough_factfind/thoroughfactfind/foundation/db/EventDataPinLaw", "bump", "([B)V"⟩ : MethodName)) hown (mvT hZ (hw _ (List.mem_of_getElem? (i := 44) rfl))) (mvT hZ (hw _ (List.mem_of_getElem? (i := 45) rfl))) (mvT hZ (hw _ (List.mem_of_getElem? (i := 3) rfl))) (mvT hZ (hw _ (List.mem_of_getElem? (i := 46) rfl))) (by decide) (backOf (W := 0) (rmbu3 l Z a0 hw [] a118 kc118 y0 y1 y2 T122.heap n0 Z_ V118 g_a118) hZ (hw _ (List.mem_of_getElem? (i := 46) rfl)) (hw _ (List.mem_of_getElem? (i := 3) rfl)) (by decide) (by decide)) (g := (mkF m 63 #[.val (.int p1), .val (.int p2), .val (.int p3), .val (.long p4), .second, .val (.int (3 : Int32)), .val (.int y0), .val (.int y1), .val (.int y2), .val (.int y3), .val (.ref a118), .val (.ref b119), .unset, .unset] [(.ref a118)])) rfl (by rw [hml]; rfl) (argsL := [(.ref a118)]) (rest := []) (lenOf pd_3 rfl) rfl (by show 2 * 0 + _ ≤ _; exact Nat.le_of_eq rfl) (hb hby at_63) (fun _ _ => ⟨rfl, rfl, (by decide : 7 + 0 ≤ _), (by decide : 123 + 0 ≤ _)⟩)
    dsimp only [Pt.U, Pt.locs, Pt.cells, Pt.slots] at X123 l123 y123 z123 st123 hQ123
    subst l123 y123 z123
    obtain ⟨rfl, N123q, K123⟩ := hQ123
    have N123 := Fr.app N122 N123q
    have Z_ : n0 ≤ T123.heap.size := Nat.le_trans Z_ K123.1
    have E118 := E118.keep K123
    have E_b119 := E_b119.keep K123
    have F122 := F122.keep K123 (ninS (Ne.symm ne_a118_b119) nin0)
    have V122 := V122.keep K123 (ninS (Ne.symm ne_a118_c122) nin0)
    have E122 := E122.keep K123
    have CR := CR.trans (CHr.keep K123 (sfS own_safe sf0) CR.1)
    have hk_ := Nat.le_trans hk_ K123.1
    refine OwnGoW.st st123 ?_
    show OwnGoW p e below s Z own_EL _ _ _ T123 (mkF m 66 #[.val (.int p1), .val (.int p2), .val (.int p3), .val (.long p4), .second, .val (.int (3 : Int32)), .val (.int y0), .val (.int y1), .val (.int y2), .val (.int y3), .val (.ref a118), .val (.ref b119), .unset, .unset] [])
    refine OwnGoW.st (fun _ k => XS.aload X123.here hx rfl (hb hby at_66) rfl rfl  k) ?_
    show OwnGoW p e below s Z own_EL _ _ _ T123 (mkF m 68 #[.val (.int p1), .val (.int p2), .val (.int p3), .val (.long p4), .second, .val (.int (3 : Int32)), .val (.int y0), .val (.int y1), .val (.int y2), .val (.int y3), .val (.ref a118), .val (.ref b119), .unset, .unset] [(.ref b119)])
    obtain ⟨cq124, kq124, q124a, q124b, q124c⟩ := isOf hZ rfl E_b119
    obtain ⟨_, _, ⟨T124, L124, k124, n124⟩, -, X124, ⟨Lc124, hQ124, l124, y124, z124⟩, st124⟩ := X123.virtualBack hx (y := (⟨"com/example/thorough_factfind/thoroughfactfind/foundation/db/Event", "data", "()[B"⟩ : MethodName)) (z := (⟨"com/example/thorough_factfind/thoroughfactfind/foundation/db/Event", "data", "()[B"⟩ : MethodName)) hown (mvT hZ (hw _ (List.mem_of_getElem? (i := 47) rfl))) (mvT hZ (hw _ (List.mem_of_getElem? (i := 48) rfl))) (notFace_of_selects (args := #[]) (mvT hZ (hw _ (List.mem_of_getElem? (i := 50) rfl)))) (mvT hZ (hw _ (List.mem_of_getElem? (i := 50) rfl))) (mvT hZ (hw _ (List.mem_of_getElem? (i := 49) rfl))) (by decide) (backOf (W := 0) (rmdat l Z a0 hw [] b119 c122 kc118 (3 : Int32) [(.int y0), (.int y1), (.int y2)] T123.heap n0 Z_ F122 V122 E122 (by decide)) hZ (hw _ (List.mem_of_getElem? (i := 51) rfl)) (hw _ (List.mem_of_getElem? (i := 8) rfl)) (by decide) (by decide)) q124a q124c (g := (mkF m 68 #[.val (.int p1), .val (.int p2), .val (.int p3), .val (.long p4), .second, .val (.int (3 : Int32)), .val (.int y0), .val (.int y1), .val (.int y2), .val (.int y3), .val (.ref a118), .val (.ref b119), .unset, .unset] [(.ref b119)])) rfl (by rw [hml]; rfl) (Steps.refl _) (argsL := []) (rest := []) (lenOf pd_4 rfl) rfl (by show 2 * 0 + _ ≤ _; exact Nat.le_of_eq rfl) (hb hby at_68) (fun _ _ => ⟨rfl, rfl, (by decide : 7 + 1 ≤ _), (by decide : 123 + 4 ≤ _)⟩)
    dsimp only [Pt.U, Pt.locs, Pt.cells, Pt.slots] at X124 l124 y124 z124 st124 hQ124
    subst l124 y124 z124
    obtain ⟨c124, rfl, N124q, K124, V124, E124, zc124⟩ := hQ124
    have N124 := Fr.app N123 N124q
    have ne_a118_c124 : a118 ≠ c124 := Nat.ne_of_lt (Nat.lt_of_lt_of_le E118.lt zc124)
    have ne_b119_c124 : b119 ≠ c124 := Nat.ne_of_lt (Nat.lt_of_lt_of_le E_b119.lt zc124)
    have ne_c122_c124 : c122 ≠ c124 := Nat.ne_of_lt (Nat.lt_of_lt_of_le V122.lt zc124)
    have g_c124 : n0 ≤ c124 := Nat.le_trans Z_ zc124
    have Z_ : n0 ≤ T124.heap.size := Nat.le_trans Z_ K124.1
    have E118 := E118.keep K124
    have E_b119 := E_b119.keep K124
    have F122 := F122.keep K124 nin0
    have V122 := V122.keep K124 nin0
    have E122 := E122.keep K124
    have CR := CR.trans (CHr.keep K124 sf0 CR.1)
    have hk_ := Nat.le_trans hk_ K124.1
    refine OwnGoW.st (fun _ k => st124.trans k) ?_
    show OwnGoW p e below s Z own_EL _ _ _ T124 (mkF m 71 #[.val (.int p1), .val (.int p2), .val (.int p3), .val (.long p4), .second, .val (.int (3 : Int32)), .val (.int y0), .val (.int y1), .val (.int y2), .val (.int y3), .val (.ref a118), .val (.ref b119), .unset, .unset] [(.ref c124)])
    refine OwnGoW.st (fun _ k => XS.astore X124.here hx rfl (hb hby at_71) rfl rfl (l' := #[.val (.int p1), .val (.int p2), .val (.int p3), .val (.long p4), .second, .val (.int (3 : Int32)), .val (.int y0), .val (.int y1), .val (.int y2), .val (.int y3), .val (.ref a118), .val (.ref b119), .val (.ref c124), .unset]) rfl k) ?_
    show OwnGoW p e below s Z own_EL _ _ _ T124 (mkF m 73 #[.val (.int p1), .val (.int p2), .val (.int p3), .val (.long p4), .second, .val (.int (3 : Int32)), .val (.int y0), .val (.int y1), .val (.int y2), .val (.int y3), .val (.ref a118), .val (.ref b119), .val (.ref c124), .unset] [])
    refine OwnGoW.st (fun _ k => XS.aload X124.here hx rfl (hb hby at_73) rfl rfl  k) ?_
    show OwnGoW p e below s Z own_EL _ _ _ T124 (mkF m 75 #[.val (.int p1), .val (.int p2), .val (.int p3), .val (.long p4), .second, .val (.int (3 : Int32)), .val (.int y0), .val (.int y1), .val (.int y2), .val (.int y3), .val (.ref a118), .val (.ref b119), .val (.ref c124), .unset] [(.ref c124)])
    refine OwnGoW.st (fun _ k => XS.iload X124.here hx rfl (hb hby at_75) rfl  k) ?_
    show OwnGoW p e below s Z own_EL _ _ _ T124 (mkF m 77 #[.val (.int p1), .val (.int p2), .val (.int p3), .val (.long p4), .second, .val (.int (3 : Int32)), .val (.int y0), .val (.int y1), .val (.int y2), .val (.int y3), .val (.ref a118), .val (.ref b119), .val (.ref c124), .unset] [(.int (3 : Int32)), (.ref c124)])
    refine OwnGoW.st (fun _ k => XS.iload X124.here hx rfl (hb hby at_77) rfl  k) ?_
    show OwnGoW p e below s Z own_EL _ _ _ T124 (mkF m 79 #[.val (.int p1), .val (.int p2), .val (.int p3), .val (.long p4), .second, .val (.int (3 : Int32)), .val (.int y0), .val (.int y1), .val (.int y2), .val (.int y3), .val (.ref a118), .val (.ref b119), .val (.ref c124), .unset] [(.int y0), (.int (3 : Int32)), (.ref c124)])
    refine OwnGoW.st (fun _ k => XS.iload X124.here hx rfl (hb hby at_79) rfl  k) ?_
    show OwnGoW p e below s Z own_EL _ _ _ T124 (mkF m 81 #[.val (.int p1), .val (.int p2), .val (.int p3), .val (.long p4), .second, .val (.int (3 : Int32)), .val (.int y0), .val (.int y1), .val (.int y2), .val (.int y3), .val (.ref a118), .val (.ref b119), .val (.ref c124), .unset] [(.int y1), (.int y0), (.int (3 : Int32)), (.ref c124)])
    refine OwnGoW.st (fun _ k => XS.iload X124.here hx rfl (hb hby at_81) rfl  k) ?_
    show OwnGoW p e below s Z own_EL _ _ _ T124 (mkF m 83 #[.val (.int p1), .val (.int p2), .val (.int p3), .val (.long p4), .second, .val (.int (3 : Int32)), .val (.int y0), .val (.int y1), .val (.int y2), .val (.int y3), .val (.ref a118), .val (.ref b119), .val (.ref c124), .unset] [(.int y2), (.int y1), (.int y0), (.int (3 : Int32)), (.ref c124)])
    refine OwnGoW.st (fun _ k => XS.iload X124.here hx rfl (hb hby at_83) rfl  k) ?_
    show OwnGoW p e below s Z own_EL _ _ _ T124 (mkF m 85 #[.val (.int p1), .val (.int p2), .val (.int p3), .val (.long p4), .second, .val (.int (3 : Int32)), .val (.int y0), .val (.int y1), .val (.int y2), .val (.int y3), .val (.ref a118), .val (.ref b119), .val (.ref c124), .unset] [(.int y3), (.int y2), (.int y1), (.int y0), (.int (3 : Int32)), (.ref c124)])
    obtain ⟨_, _, ⟨T125, L125, k125, n125⟩, -, X125, ⟨Lc125, hQ125, l125, y125, z125⟩, st125⟩ := Jvm.LawKit.callS X124 hx (y := (⟨"com/example/thorough_factfind/thoroughfactfind/foundation/db/EventDataPinLaw", "same", "([BIBBBB)Z"⟩ : MethodName)) hown (mvT hZ (hw _ (List.mem_of_getElem? (i := 52) rfl))) (mvT hZ (hw _ (List.mem_of_getElem? (i := 53) rfl))) (mvT hZ (hw _ (List.mem_of_getElem? (i := 3) rfl))) (mvT hZ (hw _ (List.mem_of_getElem? (i := 54) rfl))) (by decide) (backOf (W := 0) (rmsa3 l Z a0 hw [] c124 kc118 y0 y1 y2 y3 T124.heap n0 Z_ V124) hZ (hw _ (List.mem_of_getElem? (i := 54) rfl)) (hw _ (List.mem_of_getElem? (i := 3) rfl)) (by decide) (by decide)) (g := (mkF m 85 #[.val (.int p1), .val (.int p2), .val (.int p3), .val (.long p4), .second, .val (.int (3 : Int32)), .val (.int y0), .val (.int y1), .val (.int y2), .val (.int y3), .val (.ref a118), .val (.ref b119), .val (.ref c124), .unset] [(.int y3), (.int y2), (.int y1), (.int y0), (.int (3 : Int32)), (.ref c124)])) rfl (by rw [hml]; rfl) (argsL := [(.ref c124), (.int (3 : Int32)), (.int y0), (.int y1), (.int y2), (.int y3)]) (rest := []) (lenOf pd_5 rfl) rfl (by show 2 * 0 + _ ≤ _; exact Nat.le_of_eq rfl) (hb hby at_85) (fun _ _ => ⟨rfl, rfl, (by decide : 8 + 0 ≤ _), (by decide : 127 + 0 ≤ _)⟩)
    dsimp only [Pt.U, Pt.locs, Pt.cells, Pt.slots] at X125 l125 y125 z125 st125 hQ125
    subst l125 y125 z125
    obtain ⟨rfl, N125q, e125⟩ := hQ125
    have N125 := Fr.app N124 N125q
    refine OwnGoW.st st125 ?_
    show OwnGoW p e below s Z own_EL _ _ _ T125 (mkF m 88 #[.val (.int p1), .val (.int p2), .val (.int p3), .val (.long p4), .second, .val (.int (3 : Int32)), .val (.int y0), .val (.int y1), .val (.int y2), .val (.int y3), .val (.ref a118), .val (.ref b119), .val (.ref c124), .unset] [(.int (1 : Int32))])
    refine OwnGoW.st (fun _ k => XS.ifYes X125.here hx rfl (pc0 := 88) (pc' := 93) rfl (hb hby at_88) rfl ((if0 _ _).trans (feq ((by decide) : ¬ ((1 : Int32) = (0 : Int32)))).2) (by decide) (by decide) k) ?_
    show OwnGoW p e below s Z own_EL _ _ _ T125 (mkF m 93 #[.val (.int p1), .val (.int p2), .val (.int p3), .val (.long p4), .second, .val (.int (3 : Int32)), .val (.int y0), .val (.int y1), .val (.int y2), .val (.int y3), .val (.ref a118), .val (.ref b119), .val (.ref c124), .unset] [])
    refine OwnGoW.st (fun _ k => XS.aload X125.here hx rfl (hb hby at_93) rfl rfl  k) ?_
    show OwnGoW p e below s Z own_EL _ _ _ T125 (mkF m 95 #[.val (.int p1), .val (.int p2), .val (.int p3), .val (.long p4), .second, .val (.int (3 : Int32)), .val (.int y0), .val (.int y1), .val (.int y2), .val (.int y3), .val (.ref a118), .val (.ref b119), .val (.ref c124), .unset] [(.ref c124)])
    obtain ⟨_, _, ⟨T126, L126, k126, n126⟩, -, X126, ⟨Lc126, hQ126, l126, y126, z126⟩, st126⟩ := Jvm.LawKit.callS X125 hx (y := (⟨"com/example/thorough_factfind/thoroughfactfind/foundation/db/EventDataPinLaw", "bump", "([B)V"⟩ : MethodName)) hown (mvT hZ (hw _ (List.mem_of_getElem? (i := 44) rfl))) (mvT hZ (hw _ (List.mem_of_getElem? (i := 45) rfl))) (mvT hZ (hw _ (List.mem_of_getElem? (i := 3) rfl))) (mvT hZ (hw _ (List.mem_of_getElem? (i := 46) rfl))) (by decide) (backOf (W := 0) (rmbu3 l Z a0 hw [] c124 kc118 y0 y1 y2 T124.heap n0 Z_ V124 g_c124) hZ (hw _ (List.mem_of_getElem? (i := 46) rfl)) (hw _ (List.mem_of_getElem? (i := 3) rfl)) (by decide) (by decide)) (g := (mkF m 95 #[.val (.int p1), .val (.int p2), .val (.int p3), .val (.long p4), .second, .val (.int (3 : Int32)), .val (.int y0), .val (.int y1), .val (.int y2), .val (.int y3), .val (.ref a118), .val (.ref b119), .val (.ref c124), .unset] [(.ref c124)])) rfl (by rw [hml]; rfl) (argsL := [(.ref c124)]) (rest := []) (lenOf pd_3 rfl) rfl (by show 2 * 0 + _ ≤ _; exact Nat.le_of_eq rfl) (hb hby at_95) (fun _ _ => ⟨rfl, e125, (by decide : 8 + 0 ≤ _), (by decide : 127 + 0 ≤ _)⟩)
    dsimp only [Pt.U, Pt.locs, Pt.cells, Pt.slots] at X126 l126 y126 z126 st126 hQ126
    subst l126 y126 z126
    obtain ⟨rfl, N126q, K126⟩ := hQ126
    have N126 := Fr.app N125 N126q
    have Z_ : n0 ≤ T126.heap.size := Nat.le_trans Z_ K126.1
    have E118 := E118.keep K126
    have E_b119 := E_b119.keep K126
    have F122 := F122.keep K126 (ninS ne_b119_c124 nin0)
    have V122 := V122.keep K126 (ninS ne_c122_c124 nin0)
    have E122 := E122.keep K126
    have E124 := E124.keep K126
    have CR := CR.trans (CHr.keep K126 (sfS own_safe sf0) CR.1)
    have hk_ := Nat.le_trans hk_ K126.1
    refine OwnGoW.st st126 ?_
    show OwnGoW p e below s Z own_EL _ _ _ T126 (mkF m 98 #[.val (.int p1), .val (.int p2), .val (.int p3), .val (.long p4), .second, .val (.int (3 : Int32)), .val (.int y0), .val (.int y1), .val (.int y2), .val (.int y3), .val (.ref a118), .val (.ref b119), .val (.ref c124), .unset] [])
    refine OwnGoW.st (fun _ k => XS.aload X126.here hx rfl (hb hby at_98) rfl rfl  k) ?_
    show OwnGoW p e below s Z own_EL _ _ _ T126 (mkF m 100 #[.val (.int p1), .val (.int p2), .val (.int p3), .val (.long p4), .second, .val (.int (3 : Int32)), .val (.int y0), .val (.int y1), .val (.int y2), .val (.int y3), .val (.ref a118), .val (.ref b119), .val (.ref c124), .unset] [(.ref b119)])
    obtain ⟨cq127, kq127, q127a, q127b, q127c⟩ := isOf hZ rfl E_b119
    obtain ⟨_, _, ⟨T127, L127, k127, n127⟩, -, X127, ⟨Lc127, hQ127, l127, y127, z127⟩, st127⟩ := X126.virtualBack hx (y := (⟨"com/example/thorough_factfind/thoroughfactfind/foundation/db/Event", "data", "()[B"⟩ : MethodName)) (z := (⟨"com/example/thorough_factfind/thoroughfactfind/foundation/db/Event", "data", "()[B"⟩ : MethodName)) hown (mvT hZ (hw _ (List.mem_of_getElem? (i := 47) rfl))) (mvT hZ (hw _ (List.mem_of_getElem? (i := 48) rfl))) (notFace_of_selects (args := #[]) (mvT hZ (hw _ (List.mem_of_getElem? (i := 50) rfl)))) (mvT hZ (hw _ (List.mem_of_getElem? (i := 50) rfl))) (mvT hZ (hw _ (List.mem_of_getElem? (i := 49) rfl))) (by decide) (backOf (W := 0) (rmdat l Z a0 hw [] b119 c122 kc118 (3 : Int32) [(.int y0), (.int y1), (.int y2)] T126.heap n0 Z_ F122 V122 E122 (by decide)) hZ (hw _ (List.mem_of_getElem? (i := 51) rfl)) (hw _ (List.mem_of_getElem? (i := 8) rfl)) (by decide) (by decide)) q127a q127c (g := (mkF m 100 #[.val (.int p1), .val (.int p2), .val (.int p3), .val (.long p4), .second, .val (.int (3 : Int32)), .val (.int y0), .val (.int y1), .val (.int y2), .val (.int y3), .val (.ref a118), .val (.ref b119), .val (.ref c124), .unset] [(.ref b119)])) rfl (by rw [hml]; rfl) (Steps.refl _) (argsL := []) (rest := []) (lenOf pd_4 rfl) rfl (by show 2 * 0 + _ ≤ _; exact Nat.le_of_eq rfl) (hb hby at_100) (fun _ _ => ⟨rfl, rfl, (by decide : 8 + 1 ≤ _), (by decide : 127 + 4 ≤ _)⟩)
    dsimp only [Pt.U, Pt.locs, Pt.cells, Pt.slots] at X127 l127 y127 z127 st127 hQ127
    subst l127 y127 z127
    obtain ⟨c127, rfl, N127q, K127, V127, E127, zc127⟩ := hQ127
    have N127 := Fr.app N126 N127q
    have ne_a118_c127 : a118 ≠ c127 := Nat.ne_of_lt (Nat.lt_of_lt_of_le E118.lt zc127)
    have ne_b119_c127 : b119 ≠ c127 := Nat.ne_of_lt (Nat.lt_of_lt_of_le E_b119.lt zc127)
    have ne_c122_c127 : c122 ≠ c127 := Nat.ne_of_lt (Nat.lt_of_lt_of_le V122.lt zc127)
    have ne_c124_c127 : c124 ≠ c127 := Nat.ne_of_lt (Nat.lt_of_lt_of_le E124.lt zc127)
    have g_c127 : n0 ≤ c127 := Nat.le_trans Z_ zc127
    have Z_ : n0 ≤ T127.heap.size := Nat.le_trans Z_ K127.1
    have E118 := E118.keep K127
    have E_b119 := E_b119.keep K127
    have F122 := F122.keep K127 nin0
    have V122 := V122.keep K127 nin0
    have E122 := E122.keep K127
    have E124 := E124.keep K127
    have CR := CR.trans (CHr.keep K127 sf0 CR.1)
    have hk_ := Nat.le_trans hk_ K127.1
    refine OwnGoW.st (fun _ k => st127.trans k) ?_
    show OwnGoW p e below s Z own_EL _ _ _ T127 (mkF m 103 #[.val (.int p1), .val (.int p2), .val (.int p3), .val (.long p4), .second, .val (.int (3 : Int32)), .val (.int y0), .val (.int y1), .val (.int y2), .val (.int y3), .val (.ref a118), .val (.ref b119), .val (.ref c124), .unset] [(.ref c127)])
    refine OwnGoW.st (fun _ k => XS.astore X127.here hx rfl (hb hby at_103) rfl rfl (l' := #[.val (.int p1), .val (.int p2), .val (.int p3), .val (.long p4), .second, .val (.int (3 : Int32)), .val (.int y0), .val (.int y1), .val (.int y2), .val (.int y3), .val (.ref a118), .val (.ref b119), .val (.ref c124), .val (.ref c127)]) rfl k) ?_
    show OwnGoW p e below s Z own_EL _ _ _ T127 (mkF m 105 #[.val (.int p1), .val (.int p2), .val (.int p3), .val (.long p4), .second, .val (.int (3 : Int32)), .val (.int y0), .val (.int y1), .val (.int y2), .val (.int y3), .val (.ref a118), .val (.ref b119), .val (.ref c124), .val (.ref c127)] [])
    refine OwnGoW.st (fun _ k => XS.aload X127.here hx rfl (hb hby at_105) rfl rfl  k) ?_
    show OwnGoW p e below s Z own_EL _ _ _ T127 (mkF m 107 #[.val (.int p1), .val (.int p2), .val (.int p3), .val (.long p4), .second, .val (.int (3 : Int32)), .val (.int y0), .val (.int y1), .val (.int y2), .val (.int y3), .val (.ref a118), .val (.ref b119), .val (.ref c124), .val (.ref c127)] [(.ref c127)])
    refine OwnGoW.st (fun _ k => XS.iload X127.here hx rfl (hb hby at_107) rfl  k) ?_
    show OwnGoW p e below s Z own_EL _ _ _ T127 (mkF m 109 #[.val (.int p1), .val (.int p2), .val (.int p3), .val (.long p4), .second, .val (.int (3 : Int32)), .val (.int y0), .val (.int y1), .val (.int y2), .val (.int y3), .val (.ref a118), .val (.ref b119), .val (.ref c124), .val (.ref c127)] [(.int (3 : Int32)), (.ref c127)])
    refine OwnGoW.st (fun _ k => XS.iload X127.here hx rfl (hb hby at_109) rfl  k) ?_
    show OwnGoW p e below s Z own_EL _ _ _ T127 (mkF m 111 #[.val (.int p1), .val (.int p2), .val (.int p3), .val (.long p4), .second, .val (.int (3 : Int32)), .val (.int y0), .val (.int y1), .val (.int y2), .val (.int y3), .val (.ref a118), .val (.ref b119), .val (.ref c124), .val (.ref c127)] [(.int y0), (.int (3 : Int32)), (.ref c127)])
    refine OwnGoW.st (fun _ k => XS.iload X127.here hx rfl (hb hby at_111) rfl  k) ?_
    show OwnGoW p e below s Z own_EL _ _ _ T127 (mkF m 113 #[.val (.int p1), .val (.int p2), .val (.int p3), .val (.long p4), .second, .val (.int (3 : Int32)), .val (.int y0), .val (.int y1), .val (.int y2), .val (.int y3), .val (.ref a118), .val (.ref b119), .val (.ref c124), .val (.ref c127)] [(.int y1), (.int y0), (.int (3 : Int32)), (.ref c127)])
    refine OwnGoW.st (fun _ k => XS.iload X127.here hx rfl (hb hby at_113) rfl  k) ?_
    show OwnGoW p e below s Z own_EL _ _ _ T127 (mkF m 115 #[.val (.int p1), .val (.int p2), .val (.int p3), .val (.long p4), .second, .val (.int (3 : Int32)), .val (.int y0), .val (.int y1), .val (.int y2), .val (.int y3), .val (.ref a118), .val (.ref b119), .val (.ref c124), .val (.ref c127)] [(.int y2), (.int y1), (.int y0), (.int (3 : Int32)), (.ref c127)])
    refine OwnGoW.st (fun _ k => XS.iload X127.here hx rfl (hb hby at_115) rfl  k) ?_
    show OwnGoW p e below s Z own_EL _ _ _ T127 (mkF m 117 #[.val (.int p1), .val (.int p2), .val (.int p3), .val (.long p4), .second, .val (.int (3 : Int32)), .val (.int y0), .val (.int y1), .val (.int y2), .val (.int y3), .val (.ref a118), .val (.ref b119), .val (.ref c124), .val (.ref c127)] [(.int y3), (.int y2), (.int y1), (.int y0), (.int (3 : Int32)), (.ref c127)])
    obtain ⟨_, _, ⟨T128, L128, k128, n128⟩, -, X128, ⟨Lc128, hQ128, l128, y128, z128⟩, st128⟩ := Jvm.LawKit.callS X127 hx (y := (⟨"com/example/thorough_factfind/thoroughfactfind/foundation/db/EventDataPinLaw", "same", "([BIBBBB)Z"⟩ : MethodName)) hown (mvT hZ (hw _ (List.mem_of_getElem? (i := 52) rfl))) (mvT hZ (hw _ (List.mem_of_getElem? (i := 53) rfl))) (mvT hZ (hw _ (List.mem_of_getElem? (i := 3) rfl))) (mvT hZ (hw _ (List.mem_of_getElem? (i := 54) rfl))) (by decide) (backOf (W := 0) (rmsa3 l Z a0 hw [] c127 kc118 y0 y1 y2 y3 T127.heap n0 Z_ V127) hZ (hw _ (List.mem_of_getElem? (i := 54) rfl)) (hw _ (List.mem_of_getElem? (i := 3) rfl)) (by decide) (by decide)) (g := (mkF m 117 #[.val (.int p1), .val (.int p2), .val (.int p3), .val (.long p4), .second, .val (.int (3 : Int32)), .val (.int y0), .val (.int y1), .val (.int y2), .val (.int y3), .val (.ref a118), .val (.ref b119), .val (.ref c124), .val (.ref c127)] [(.int y3), (.int y2), (.int y1), (.int y0), (.int (3 : Int32)), (.ref c127)])) rfl (by rw [hml]; rfl) (argsL := [(.ref c127), (.int (3 : Int32)), (.int y0), (.int y1), (.int y2), (.int y3)]) (rest := []) (lenOf pd_5 rfl) rfl (by show 2 * 0 + _ ≤ _; exact Nat.le_of_eq rfl) (hb hby at_117) (fun _ _ => ⟨rfl, rfl, (by decide : 9 + 0 ≤ _), (by decide : 131 + 0 ≤ _)⟩)
    dsimp only [Pt.U, Pt.locs, Pt.cells, Pt.slots] at X128 l128 y128 z128 st128 hQ128
    subst l128 y128 z128
    obtain ⟨rfl, N128q, e128⟩ := hQ128
    have N128 := Fr.app N127 N128q
    refine OwnGoW.st st128 ?_
    show OwnGoW p e below s Z own_EL _ _ _ T128 (mkF m 120 #[.val (.int p1), .val (.int p2), .val (.int p3), .val (.long p4), .second, .val (.int (3 : Int32)), .val (.int y0), .val (.int y1), .val (.int y2), .val (.int y3), .val (.ref a118), .val (.ref b119), .val (.ref c124), .val (.ref c127)] [(.int (1 : Int32))])
    exact OwnGoW.retN (s := s) (vm0 := T121.vm) X128 hS_ hk_ e128 hZ (own_hEL hw) CR hx (t := .boolean) hret hlk (by simp) (hb hby at_120) (by show Q0 Z p1 p2 p3 p4 h0 n0 _ T128.heap _; rw [e128]; exact ⟨rfl, N128⟩) (by decide) (by decide)
  · show OwnGoW p e below s Z own_EL _ _ _ s₁ (mkF m 30 #[.val (.int p1), .val (.int p2), .val (.int p3), .val (.long p4), .second, .val (.int (4 : Int32)), .val (.int y0), .val (.int y1), .val (.int y2), .val (.int y3), .unset, .unset, .unset, .unset] [])
    refine OwnGoW.st (fun _ k => XS.iload X0.here hx rfl (hb hby at_30) rfl  k) ?_
    show OwnGoW p e below s Z own_EL _ _ _ s₁ (mkF m 32 #[.val (.int p1), .val (.int p2), .val (.int p3), .val (.long p4), .second, .val (.int (4 : Int32)), .val (.int y0), .val (.int y1), .val (.int y2), .val (.int y3), .unset, .unset, .unset, .unset] [(.int (4 : Int32))])
    refine OwnGoW.st (fun _ k => XS.iload X0.here hx rfl (hb hby at_32) rfl  k) ?_
    show OwnGoW p e below s Z own_EL _ _ _ s₁ (mkF m 34 #[.val (.int p1), .val (.int p2), .val (.int p3), .val (.long p4), .second, .val (.int (4 : Int32)), .val (.int y0), .val (.int y1), .val (.int y2), .val (.int y3), .unset, .unset, .unset, .unset] [(.int y0), (.int (4 : Int32))])
    refine OwnGoW.st (fun _ k => XS.iload X0.here hx rfl (hb hby at_34) rfl  k) ?_
    show OwnGoW p e below s Z own_EL _ _ _ s₁ (mkF m 36 #[.val (.int p1), .val (.int p2), .val (.int p3), .val (.long p4), .second, .val (.int (4 : Int32)), .val (.int y0), .val (.int y1), .val (.int y2), .val (.int y3), .unset, .unset, .unset, .unset] [(.int y1), (.int y0), (.int (4 : Int32))])
    refine OwnGoW.st (fun _ k => XS.iload X0.here hx rfl (hb hby at_36) rfl  k) ?_
    show OwnGoW p e below s Z own_EL _ _ _ s₁ (mkF m 38 #[.val (.int p1), .val (.int p2), .val (.int p3), .val (.long p4), .second, .val (.int (4 : Int32)), .val (.int y0), .val (.int y1), .val (.int y2), .val (.int y3), .unset, .unset, .unset, .unset] [(.int y2), (.int y1), (.int y0), (.int (4 : Int32))])
    refine OwnGoW.st (fun _ k => XS.iload X0.here hx rfl (hb hby at_38) rfl  k) ?_
    show OwnGoW p e below s Z own_EL _ _ _ s₁ (mkF m 40 #[.val (.int p1), .val (.int p2), .val (.int p3), .val (.long p4), .second, .val (.int (4 : Int32)), .val (.int y0), .val (.int y1), .val (.int y2), .val (.int y3), .unset, .unset, .unset, .unset] [(.int y3), (.int y2), (.int y1), (.int y0), (.int (4 : Int32))])
    obtain ⟨_, _, ⟨T129, L129, k129, n129⟩, -, X129, ⟨Lc129, hQ129, l129, y129, z129⟩, st129⟩ := Jvm.LawKit.callS X0 hx (y := (⟨"com/example/thorough_factfind/thoroughfactfind/foundation/db/EventDataPinLaw", "make", "(IBBBB)[B"⟩ : MethodName)) hown (mvT hZ (hw _ (List.mem_of_getElem? (i := 1) rfl))) (mvT hZ (hw _ (List.mem_of_getElem? (i := 2) rfl))) (mvT hZ (hw _ (List.mem_of_getElem? (i := 3) rfl))) (mvT hZ (hw _ (List.mem_of_getElem? (i := 4) rfl))) (by decide) (backOf (W := 0) (rmmk4 l Z a0 hw [] y0 y1 y2 y3 h0 n0 Z_ (by rw [hy0]; exact own_nb _) (by rw [hy1]; exact own_nb _) (by rw [hy2]; exact own_nb _) (by rw [hy3]; exact own_nb _)) hZ (hw _ (List.mem_of_getElem? (i := 4) rfl)) (hw _ (List.mem_of_getElem? (i := 3) rfl)) (by decide) (by decide)) (g := (mkF m 40 #[.val (.int p1), .val (.int p2), .val (.int p3), .val (.long p4), .second, .val (.int (4 : Int32)), .val (.int y0), .val (.int y1), .val (.int y2), .val (.int y3), .unset, .unset, .unset, .unset] [(.int y3), (.int y2), (.int y1), (.int y0), (.int (4 : Int32))])) rfl (by rw [hml]; rfl) (argsL := [(.int (4 : Int32)), (.int y0), (.int y1), (.int y2), (.int y3)]) (rest := []) (lenOf pd_1 rfl) rfl (by show 2 * 0 + _ ≤ _; exact Nat.le_of_eq rfl) (hb hby at_40) (fun _ _ => ⟨rfl, e0, (by decide : 0 + 1 ≤ _), (by decide : 0 + 4 ≤ _)⟩)
    dsimp only [Pt.U, Pt.locs, Pt.cells, Pt.slots] at X129 l129 y129 z129 st129 hQ129
    subst l129 y129 z129
    obtain ⟨a129, kc129, rfl, N129q, K129, V129, E129, za129⟩ := hQ129
    have N129 := Fr.app N0 N129q
    have g_a129 : n0 ≤ a129 := Nat.le_trans Z_ za129
    have Z_ : n0 ≤ T129.heap.size := Nat.le_trans Z_ K129.1
    have CR := CR.trans (CHr.keep K129 sf0 CR.1)
    have hk_ := Nat.le_trans hk_ K129.1
    refine OwnGoW.st st129 ?_
    show OwnGoW p e below s Z own_EL _ _ _ T129 (mkF m 43 #[.val (.int p1), .val (.int p2), .val (.int p3), .val (.long p4), .second, .val (.int (4 : Int32)), .val (.int y0), .val (.int y1), .val (.int y2), .val (.int y3), .unset, .unset, .unset, .unset] [(.ref a129)])
    refine OwnGoW.st (fun _ k => XS.astore X129.here hx rfl (hb hby at_43) rfl rfl (l' := #[.val (.int p1), .val (.int p2), .val (.int p3), .val (.long p4), .second, .val (.int (4 : Int32)), .val (.int y0), .val (.int y1), .val (.int y2), .val (.int y3), .val (.ref a129), .unset, .unset, .unset]) rfl k) ?_
    show OwnGoW p e below s Z own_EL _ _ _ T129 (mkF m 45 #[.val (.int p1), .val (.int p2), .val (.int p3), .val (.long p4), .second, .val (.int (4 : Int32)), .val (.int y0), .val (.int y1), .val (.int y2), .val (.int y3), .val (.ref a129), .unset, .unset, .unset] [])
    obtain ⟨T130, h130, X130, e130, E130, A130, D130, -, st130⟩ := newO X129 hx hZ hown (hw _ (List.mem_of_getElem? (i := 6) rfl)) (hw _ (List.mem_of_getElem? (i := 7) rfl)) (hw _ (List.mem_of_getElem? (i := 8) rfl)) rfl (g := (mkF m 45 #[.val (.int p1), .val (.int p2), .val (.int p3), .val (.long p4), .second, .val (.int (4 : Int32)), .val (.int y0), .val (.int y1), .val (.int y2), .val (.int y3), .val (.ref a129), .unset, .unset, .unset] [])) rfl (hb hby at_45) (by decide) (by decide)
    obtain ⟨b130, g130⟩ : ∃ z, z = T129.heap.size := ⟨_, rfl⟩
    rw [← g130] at A130 D130 st130
    have ne_a129_b130 : a129 ≠ b130 := Nat.ne_of_lt (Nat.lt_of_lt_of_le V129.lt (Nat.le_of_eq g130.symm))
    have g_b130 : n0 ≤ b130 := Nat.le_trans Z_ (Nat.le_of_eq g130.symm)
    have V129 := V129.ext E130
    have E129 := E129.ext E130
    have CR := CR.trans (CHr.ext E130 CR.1)
    have hk_ := Nat.le_trans hk_ E130.1
    have Z_ : n0 ≤ h130.size := Nat.le_trans Z_ E130.1
    have E_b130 := A130
    have F__type_b130 : Fld Z h130 b130 "com/example/thorough_factfind/thoroughfactfind/foundation/db/Event" "_type" "Ljava/lang/String;" .null := D130 (Or.inr (hw _ (List.mem_of_getElem? (i := 24) rfl))) (ty := (.object "java/lang/String")) (by decide)
    have F__clientId_b130 : Fld Z h130 b130 "com/example/thorough_factfind/thoroughfactfind/foundation/db/Event" "_clientId" "J" (.long (0 : Int64)) := D130 (Or.inr (hw _ (List.mem_of_getElem? (i := 26) rfl))) (ty := .long) (by decide)
    have F__subject_b130 : Fld Z h130 b130 "com/example/thorough_factfind/thoroughfactfind/foundation/db/Event" "_subject" "Ljava/lang/String;" .null := D130 (Or.inr (hw _ (List.mem_of_getElem? (i := 28) rfl))) (ty := (.object "java/lang/String")) (by decide)
    have F__data_b130 : Fld Z h130 b130 "com/example/thorough_factfind/thoroughfactfind/foundation/db/Event" "_data" "[B" .null := D130 (Or.inr (hw _ (List.mem_of_getElem? (i := 43) rfl))) (ty := (.array .byte)) (by decide)
    refine OwnGoW.st st130 ?_
    show OwnGoW p e below s Z own_EL _ _ _ T130 (mkF m 48 #[.val (.int p1), .val (.int p2), .val (.int p3), .val (.long p4), .second, .val (.int (4 : Int32)), .val (.int y0), .val (.int y1), .val (.int y2), .val (.int y3), .val (.ref a129), .unset, .unset, .unset] [(.ref b130)])
    refine OwnGoW.st (fun _ k => XS.dup X130.here hx rfl (hb hby at_48) rfl rfl k) ?_
    show OwnGoW p e below s Z own_EL _ _ _ T130 (mkF m 49 #[.val (.int p1), .val (.int p2), .val (.int p3), .val (.long p4), .second, .val (.int (4 : Int32)), .val (.int y0), .val (.int y1), .val (.int y2), .val (.int y3), .val (.ref a129), .unset, .unset, .unset] [(.ref b130), (.ref b130)])
    obtain ⟨a131, T131, h131, k1_131, X131, e131, E131, hS_, hkN, hZ, hown, CN, -, st131⟩ := ldcOH (s := s) (vm0 := s.vm) X130 hx hZ hown (hw _ (List.mem_of_getElem? (i := 9) rfl)) (own_wS hw) e130 hS_ hk_ (own_hEL hw) CR.1 (g := (mkF m 49 #[.val (.int p1), .val (.int p2), .val (.int p3), .val (.long p4), .second, .val (.int (4 : Int32)), .val (.int y0), .val (.int y1), .val (.int y2), .val (.int y3), .val (.ref a129), .unset, .unset, .unset] [(.ref b130), (.ref b130)])) rfl (hb hby at_49) (n := 52) (by decide) (by decide) (by decide) (by decide)
    have V129 := V129.ext E131
    have E129 := E129.ext E131
    have E_b130 := E_b130.ext E131
    have F__type_b130 := F__type_b130.ext E131
    have F__clientId_b130 := F__clientId_b130.ext E131
    have F__subject_b130 := F__subject_b130.ext E131
    have F__data_b130 := F__data_b130.ext E131
    have CR := CR.trans CN
    have hk_ := hkN
    have Z_ : n0 ≤ h131.size := Nat.le_trans Z_ E131.1
    refine OwnGoW.st st131 ?_
    show OwnGoW p e below s Z own_EL _ _ _ T131 (mkF m 51 #[.val (.int p1), .val (.int p2), .val (.int p3), .val (.long p4), .second, .val (.int (4 : Int32)), .val (.int y0), .val (.int y1), .val (.int y2), .val (.int y3), .val (.ref a129), .unset, .unset, .unset] [(.ref a131), (.ref b130), (.ref b130)])
    refine OwnGoW.st (fun _ k => XS.lloadN X131.here hx rfl (hb hby at_51) rfl  k) ?_
    show OwnGoW p e below s Z own_EL _ _ _ T131 (mkF m 52 #[.val (.int p1), .val (.int p2), .val (.int p3), .val (.long p4), .second, .val (.int (4 : Int32)), .val (.int y0), .val (.int y1), .val (.int y2), .val (.int y3), .val (.ref a129), .unset, .unset, .unset] [(.long p4), (.ref a131), (.ref b130), (.ref b130)])
    obtain ⟨a132, T132, h132, k1_132, X132, e132, E132, hS_, hkN, hZ, hown, CN, -, st132⟩ := ldcOH (s := s) (vm0 := T131.vm) X131 hx hZ hown (hw _ (List.mem_of_getElem? (i := 16) rfl)) (own_wS hw) e131 hS_ hk_ (own_hEL hw) CR.1 (g := (mkF m 52 #[.val (.int p1), .val (.int p2), .val (.int p3), .val (.long p4), .second, .val (.int (4 : Int32)), .val (.int y0), .val (.int y1), .val (.int y2), .val (.int y3), .val (.ref a129), .unset, .unset, .unset] [(.long p4), (.ref a131), (.ref b130), (.ref b130)])) rfl (hb hby at_52) (n := 52) (by decide) (by decide) (by decide) (by decide)
    have V129 := V129.ext E132
    have E129 := E129.ext E132
    have E_b130 := E_b130.ext E132
    have F__type_b130 := F__type_b130.ext E132
    have F__clientId_b130 := F__clientId_b130.ext E132
    have F__subject_b130 := F__subject_b130.ext E132
    have F__data_b130 := F__data_b130.ext E132
    have CR := CR.trans CN
    have hk_ := hkN
    have Z_ : n0 ≤ h132.size := Nat.le_trans Z_ E132.1
    refine OwnGoW.st st132 ?_
    show OwnGoW p e below s Z own_EL _ _ _ T132 (mkF m 54 #[.val (.int p1), .val (.int p2), .val (.int p3), .val (.long p4), .second, .val (.int (4 : Int32)), .val (.int y0), .val (.int y1), .val (.int y2), .val (.int y3), .val (.ref a129), .unset, .unset, .unset] [(.ref a132), (.long p4), (.ref a131), (.ref b130), (.ref b130)])
    refine OwnGoW.st (fun _ k => XS.aload X132.here hx rfl (hb hby at_54) rfl rfl  k) ?_
    show OwnGoW p e below s Z own_EL _ _ _ T132 (mkF m 56 #[.val (.int p1), .val (.int p2), .val (.int p3), .val (.long p4), .second, .val (.int (4 : Int32)), .val (.int y0), .val (.int y1), .val (.int y2), .val (.int y3), .val (.ref a129), .unset, .unset, .unset] [(.ref a129), (.ref a132), (.long p4), (.ref a131), (.ref b130), (.ref b130)])
    obtain ⟨_, _, ⟨T133, L133, k133, n133⟩, -, X133, ⟨Lc133, hQ133, l133, y133, z133⟩, st133⟩ := X132.specialBack hx (y := (⟨"com/example/thorough_factfind/thoroughfactfind/foundation/db/Event", "<init>", "(Ljava/lang/String;JLjava/lang/String;[B)V"⟩ : MethodName)) rfl hown (mvT hZ (hw _ (List.mem_of_getElem? (i := 17) rfl))) (mvT hZ (hw _ (List.mem_of_getElem? (i := 18) rfl))) (mvT hZ (hw _ (List.mem_of_getElem? (i := 19) rfl))) (by decide) (backOf (W := 1) (rmini l Z a0 hw [] b130 a131 p4 a132 a129 kc129 (4 : Int32) [(.int y0), (.int y1), (.int y2), (.int y3)] h132 n0 Z_ E_b130 g_b130 ne_a129_b130 F__type_b130 F__clientId_b130 F__subject_b130 F__data_b130 V129 E129 (by decide)) hZ (hw _ (List.mem_of_getElem? (i := 19) rfl)) (hw _ (List.mem_of_getElem? (i := 8) rfl)) (by decide) (by decide)) (g := (mkF m 56 #[.val (.int p1), .val (.int p2), .val (.int p3), .val (.long p4), .second, .val (.int (4 : Int32)), .val (.int y0), .val (.int y1), .val (.int y2), .val (.int y3), .val (.ref a129), .unset, .unset, .unset] [(.ref a129), (.ref a132), (.long p4), (.ref a131), (.ref b130), (.ref b130)])) rfl (by rw [hml]; rfl) (Steps.refl _) (a := b130) (argsL := [(.ref a131), (.long p4), (.ref a132), (.ref a129)]) (rest := [(.ref b130)]) (lenOf pd_2 rfl) rfl (by show 2 * 0 + _ ≤ _; exact Nat.le_of_eq rfl) (hb hby at_56) (fun _ _ => ⟨rfl, e132, (by decide : 6 + 1 ≤ _), (by decide : 120 + 4 ≤ _)⟩)
    dsimp only [Pt.U, Pt.locs, Pt.cells, Pt.slots] at X133 l133 y133 z133 st133 hQ133
    subst l133 y133 z133
    obtain ⟨rfl, N133q, K133, Eo133, c133, F133, V133, E133, zc133⟩ := hQ133
    have N133 := Fr.app N129 N133q
    have ne_a129_c133 : a129 ≠ c133 := Nat.ne_of_lt (Nat.lt_of_lt_of_le V129.lt zc133)
    have ne_b130_c133 : b130 ≠ c133 := Nat.ne_of_lt (Nat.lt_of_lt_of_le E_b130.lt zc133)
    have g_c133 : n0 ≤ c133 := Nat.le_trans Z_ zc133
    have Z_ : n0 ≤ T133.heap.size := Nat.le_trans Z_ K133.1
    have V129 := V129.keep K133 (ninS ne_a129_b130 nin0)
    have E129 := E129.keep K133
    have E_b130 := E_b130.keep K133
    have CR := CR.trans (CHr.keep K133 (sfS own_safe sf0) CR.1)
    have hk_ := Nat.le_trans hk_ K133.1
    refine OwnGoW.st (fun _ k => st133.trans k) ?_
    show OwnGoW p e below s Z own_EL _ _ _ T133 (mkF m 59 #[.val (.int p1), .val (.int p2), .val (.int p3), .val (.long p4), .second, .val (.int (4 : Int32)), .val (.int y0), .val (.int y1), .val (.int y2), .val (.int y3), .val (.ref a129), .unset, .unset, .unset] [(.ref b130)])
    refine OwnGoW.st (fun _ k => XS.astore X133.here hx rfl (hb hby at_59) rfl rfl (l' := #[.val (.int p1), .val (.int p2), .val (.int p3), .val (.long p4), .second, .val (.int (4 : Int32)), .val (.int y0), .val (.int y1), .val (.int y2), .val (.int y3), .val (.ref a129), .val (.ref b130), .unset, .unset]) rfl k) ?_
    show OwnGoW p e below s Z own_EL _ _ _ T133 (mkF m 61 #[.val (.int p1), .val (.int p2), .val (.int p3), .val (.long p4), .second, .val (.int (4 : Int32)), .val (.int y0), .val (.int y1), .val (.int y2), .val (.int y3), .val (.ref a129), .val (.ref b130), .unset, .unset] [])
    refine OwnGoW.st (fun _ k => XS.aload X133.here hx rfl (hb hby at_61) rfl rfl  k) ?_
    show OwnGoW p e below s Z own_EL _ _ _ T133 (mkF m 63 #[.val (.int p1), .val (.int p2), .val (.int p3), .val (.long p4), .second, .val (.int (4 : Int32)), .val (.int y0), .val (.int y1), .val (.int y2), .val (.int y3), .val (.ref a129), .val (.ref b130), .unset, .unset] [(.ref a129)])
    obtain ⟨_, _, ⟨T134, L134, k134, n134⟩, -, X134, ⟨Lc134, hQ134, l134, y134, z134⟩, st134⟩ := Jvm.LawKit.callS X133 hx (y := (⟨"com/example/thorough_factfind/thoroughfactfind/foundation/db/EventDataPinLaw", "bump", "([B)V"⟩ : MethodName)) hown (mvT hZ (hw _ (List.mem_of_getElem? (i := 44) rfl))) (mvT hZ (hw _ (List.mem_of_getElem? (i := 45) rfl))) (mvT hZ (hw _ (List.mem_of_getElem? (i := 3) rfl))) (mvT hZ (hw _ (List.mem_of_getElem? (i := 46) rfl))) (by decide) (backOf (W := 0) (rmbu4 l Z a0 hw [] a129 kc129 y0 y1 y2 y3 T133.heap n0 Z_ V129 g_a129) hZ (hw _ (List.mem_of_getElem? (i := 46) rfl)) (hw _ (List.mem_of_getElem? (i := 3) rfl)) (by decide) (by decide)) (g := (mkF m 63 #[.val (.int p1), .val (.int p2), .val (.int p3), .val (.long p4), .second, .val (.int (4 : Int32)), .val (.int y0), .val (.int y1), .val (.int y2), .val (.int y3), .val (.ref a129), .val (.ref b130), .unset, .unset] [(.ref a129)])) rfl (by rw [hml]; rfl) (argsL := [(.ref a129)]) (rest := []) (lenOf pd_3 rfl) rfl (by show 2 * 0 + _ ≤ _; exact Nat.le_of_eq rfl) (hb hby at_63) (fun _ _ => ⟨rfl, rfl, (by decide : 7 + 0 ≤ _), (by decide : 124 + 0 ≤ _)⟩)
    dsimp only [Pt.U, Pt.locs, Pt.cells, Pt.slots] at X134 l134 y134 z134 st134 hQ134
    subst l134 y134 z134
    obtain ⟨rfl, N134q, K134⟩ := hQ134
    have N134 := Fr.app N133 N134q
    have Z_ : n0 ≤ T134.heap.size := Nat.le_trans Z_ K134.1
    have E129 := E129.keep K134
    have E_b130 := E_b130.keep K134
    have F133 := F133.keep K134 (ninS (Ne.symm ne_a129_b130) nin0)
    have V133 := V133.keep K134 (ninS (Ne.symm ne_a129_c133) nin0)
    have E133 := E133.keep K134
    have CR := CR.trans (CHr.keep K134 (sfS own_safe sf0) CR.1)
    have hk_ := Nat.le_trans hk_ K134.1
    refine OwnGoW.st st134 ?_
    show OwnGoW p e below s Z own_EL _ _ _ T134 (mkF m 66 #[.val (.int p1), .val (.int p2), .val (.int p3), .val (.long p4), .second, .val (.int (4 : Int32)), .val (.int y0), .val (.int y1), .val (.int y2), .val (.int y3), .val (.ref a129), .val (.ref b130), .unset, .unset] [])
    refine OwnGoW.st (fun _ k => XS.aload X134.here hx rfl (hb hby at_66) rfl rfl  k) ?_
    show OwnGoW p e below s Z own_EL _ _ _ T134 (mkF m 68 #[.val (.int p1), .val (.int p2), .val (.int p3), .val (.long p4), .second, .val (.int (4 : Int32)), .val (.int y0), .val (.int y1), .val (.int y2), .val (.int y3), .val (.ref a129), .val (.ref b130), .unset, .unset] [(.ref b130)])
    obtain ⟨cq135, kq135, q135a, q135b, q135c⟩ := isOf hZ rfl E_b130
    obtain ⟨_, _, ⟨T135, L135, k135, n135⟩, -, X135, ⟨Lc135, hQ135, l135, y135, z135⟩, st135⟩ := X134.virtualBack hx (y := (⟨"com/example/thorough_factfind/thoroughfactfind/foundation/db/Event", "data", "()[B"⟩ : MethodName)) (z := (⟨"com/example/thorough_factfind/thoroughfactfind/foundation/db/Event", "data", "()[B"⟩ : MethodName)) hown (mvT hZ (hw _ (List.mem_of_getElem? (i := 47) rfl))) (mvT hZ (hw _ (List.mem_of_getElem? (i := 48) rfl))) (notFace_of_selects (args := #[]) (mvT hZ (hw _ (List.mem_of_getElem? (i := 50) rfl)))) (mvT hZ (hw _ (List.mem_of_getElem? (i := 50) rfl))) (mvT hZ (hw _ (List.mem_of_getElem? (i := 49) rfl))) (by decide) (backOf (W := 0) (rmdat l Z a0 hw [] b130 c133 kc129 (4 : Int32) [(.int y0), (.int y1), (.int y2), (.int y3)] T134.heap n0 Z_ F133 V133 E133 (by decide)) hZ (hw _ (List.mem_of_getElem? (i := 51) rfl)) (hw _ (List.mem_of_getElem? (i := 8) rfl)) (by decide) (by decide)) q135a q135c (g := (mkF m 68 #[.val (.int p1), .val (.int p2), .val (.int p3), .val (.long p4), .second, .val (.int (4 : Int32)), .val (.int y0), .val (.int y1), .val (.int y2), .val (.int y3), .val (.ref a129), .val (.ref b130), .unset, .unset] [(.ref b130)])) rfl (by rw [hml]; rfl) (Steps.refl _) (argsL := []) (rest := []) (lenOf pd_4 rfl) rfl (by show 2 * 0 + _ ≤ _; exact Nat.le_of_eq rfl) (hb hby at_68) (fun _ _ => ⟨rfl, rfl, (by decide : 7 + 1 ≤ _), (by decide : 124 + 4 ≤ _)⟩)
    dsimp only [Pt.U, Pt.locs, Pt.cells, Pt.slots] at X135 l135 y135 z135 st135 hQ135
    subst l135 y135 z135
    obtain ⟨c135, rfl, N135q, K135, V135, E135, zc135⟩ := hQ135
    have N135 := Fr.app N134 N135q
    have ne_a129_c135 : a129 ≠ c135 := Nat.ne_of_lt (Nat.lt_of_lt_of_le E129.lt zc135)
    have ne_b130_c135 : b130 ≠ c135 := Nat.ne_of_lt (Nat.lt_of_lt_of_le E_b130.lt zc135)
    have ne_c133_c135 : c133 ≠ c135 := Nat.ne_of_lt (Nat.lt_of_lt_of_le V133.lt zc135)
    have g_c135 : n0 ≤ c135 := Nat.le_trans Z_ zc135
    have Z_ : n0 ≤ T135.heap.size := Nat.le_trans Z_ K135.1
    have E129 := E129.keep K135
    have E_b130 := E_b130.keep K135
    have F133 := F133.keep K135 nin0
    have V133 := V133.keep K135 nin0
    have E133 := E133.keep K135
    have CR := CR.trans (CHr.keep K135 sf0 CR.1)
    have hk_ := Nat.le_trans hk_ K135.1
    refine OwnGoW.st (fun _ k => st135.trans k) ?_
    show OwnGoW p e below s Z own_EL _ _ _ T135 (mkF m 71 #[.val (.int p1), .val (.int p2), .val (.int p3), .val (.long p4), .second, .val (.int (4 : Int32)), .val (.int y0), .val (.int y1), .val (.int y2), .val (.int y3), .val (.ref a129), .val (.ref b130), .unset, .unset] [(.ref c135)])
    refine OwnGoW.st (fun _ k => XS.astore X135.here hx rfl (hb hby at_71) rfl rfl (l' := #[.val (.int p1), .val (.int p2), .val (.int p3), .val (.long p4), .second, .val (.int (4 : Int32)), .val (.int y0), .val (.int y1), .val (.int y2), .val (.int y3), .val (.ref a129), .val (.ref b130), .val (.ref c135), .unset]) rfl k) ?_
    show OwnGoW p e below s Z own_EL _ _ _ T135 (mkF m 73 #[.val (.int p1), .val (.int p2), .val (.int p3), .val (.long p4), .second, .val (.int (4 : Int32)), .val (.int y0), .val (.int y1), .val (.int y2), .val (.int y3), .val (.ref a129), .val (.ref b130), .val (.ref c135), .unset] [])
    refine OwnGoW.st (fun _ k => XS.aload X135.here hx rfl (hb hby at_73) rfl rfl  k) ?_
    show OwnGoW p e below s Z own_EL _ _ _ T135 (mkF m 75 #[.val (.int p1), .val (.int p2), .val (.int p3), .val (.long p4), .second, .val (.int (4 : Int32)), .val (.int y0), .val (.int y1), .val (.int y2), .val (.int y3), .val (.ref a129), .val (.ref b130), .val (.ref c135), .unset] [(.ref c135)])
    refine OwnGoW.st (fun _ k => XS.iload X135.here hx rfl (hb hby at_75) rfl  k) ?_
    show OwnGoW p e below s Z own_EL _ _ _ T135 (mkF m 77 #[.val (.int p1), .val (.int p2), .val (.int p3), .val (.long p4), .second, .val (.int (4 : Int32)), .val (.int y0), .val (.int y1), .val (.int y2), .val (.int y3), .val (.ref a129), .val (.ref b130), .val (.ref c135), .unset] [(.int (4 : Int32)), (.ref c135)])
    refine OwnGoW.st (fun _ k => XS.iload X135.here hx rfl (hb hby at_77) rfl  k) ?_
    show OwnGoW p e below s Z own_EL _ _ _ T135 (mkF m 79 #[.val (.int p1), .val (.int p2), .val (.int p3), .val (.long p4), .second, .val (.int (4 : Int32)), .val (.int y0), .val (.int y1), .val (.int y2), .val (.int y3), .val (.ref a129), .val (.ref b130), .val (.ref c135), .unset] [(.int y0), (.int (4 : Int32)), (.ref c135)])
    refine OwnGoW.st (fun _ k => XS.iload X135.here hx rfl (hb hby at_79) rfl  k) ?_
    show OwnGoW p e below s Z own_EL _ _ _ T135 (mkF m 81 #[.val (.int p1), .val (.int p2), .val (.int p3), .val (.long p4), .second, .val (.int (4 : Int32)), .val (.int y0), .val (.int y1), .val (.int y2), .val (.int y3), .val (.ref a129), .val (.ref b130), .val (.ref c135), .unset] [(.int y1), (.int y0), (.int (4 : Int32)), (.ref c135)])
    refine OwnGoW.st (fun _ k => XS.iload X135.here hx rfl (hb hby at_81) rfl  k) ?_
    show OwnGoW p e below s Z own_EL _ _ _ T135 (mkF m 83 #[.val (.int p1), .val (.int p2), .val (.int p3), .val (.long p4), .second, .val (.int (4 : Int32)), .val (.int y0), .val (.int y1), .val (.int y2), .val (.int y3), .val (.ref a129), .val (.ref b130), .val (.ref c135), .unset] [(.int y2), (.int y1), (.int y0), (.int (4 : Int32)), (.ref c135)])
    refine OwnGoW.st (fun _ k => XS.iload X135.here hx rfl (hb hby at_83) rfl  k) ?_
    show OwnGoW p e below s Z own_EL _ _ _ T135 (mkF m 85 #[.val (.int p1), .val (.int p2), .val (.int p3), .val (.long p4), .second, .val (.int (4 : Int32)), .val (.int y0), .val (.int y1), .val (.int y2), .val (.int y3), .val (.ref a129), .val (.ref b130), .val (.ref c135), .unset] [(.int y3), (.int y2), (.int y1), (.int y0), (.int (4 : Int32)), (.ref c135)])
    obtain ⟨_, _, ⟨T136, L136, k136, n136⟩, -, X136, ⟨Lc136, hQ136, l136, y136, z136⟩, st136⟩ := Jvm.LawKit.callS X135 hx (y := (⟨"com/example/thorough_factfind/thoroughfactfind/foundation/db/EventDataPinLaw", "same", "([BIBBBB)Z"⟩ : MethodName)) hown (mvT hZ (hw _ (List.mem_of_getElem? (i := 52) rfl))) (mvT hZ (hw _ (List.mem_of_getElem? (i := 53) rfl))) (mvT hZ (hw _ (List.mem_of_getElem? (i := 3) rfl))) (mvT hZ (hw _ (List.mem_of_getElem? (i := 54) rfl))) (by decide) (backOf (W := 0) (rmsa4 l Z a0 hw [] c135 kc129 y0 y1 y2 y3 T135.heap n0 Z_ V135) hZ (hw _ (List.mem_of_getElem? (i := 54) rfl)) (hw _ (List.mem_of_getElem? (i := 3) rfl)) (by decide) (by decide)) (g := (mkF m 85 #[.val (.int p1), .val (.int p2), .val (.int p3), .val (.long p4), .second, .val (.int (4 : Int32)), .val (.int y0), .val (.int y1), .val (.int y2), .val (.int y3), .val (.ref a129), .val (.ref b130), .val (.ref c135), .unset] [(.int y3), (.int y2), (.int y1), (.int y0), (.int (4 : Int32)), (.ref c135)])) rfl (by rw [hml]; rfl) (argsL := [(.ref c135), (.int (4 : Int32)), (.int y0), (.int y1), (.int y2), (.int y3)]) (rest := []) (lenOf pd_5 rfl) rfl (by show 2 * 0 + _ ≤ _; exact Nat.le_of_eq rfl) (hb hby at_85) (fun _ _ => ⟨rfl, rfl, (by decide : 8 + 0 ≤ _), (by decide : 128 + 0 ≤ _)⟩)
    dsimp only [Pt.U, Pt.locs, Pt.cells, Pt.slots] at X136 l136 y136 z136 st136 hQ136
    subst l136 y136 z136
    obtain ⟨rfl, N136q, e136⟩ := hQ136
    have N136 := Fr.app N135 N136q
    refine OwnGoW.st st136 ?_
    show OwnGoW p e below s Z own_EL _ _ _ T136 (mkF m 88 #[.val (.int p1), .val (.int p2), .val (.int p3), .val (.long p4), .second, .val (.int (4 : Int32)), .val (.int y0), .val (.int y1), .val (.int y2), .val (.int y3), .val (.ref a129), .val (.ref b130), .val (.ref c135), .unset] [(.int (1 : Int32))])
    refine OwnGoW.st (fun _ k => XS.ifYes X136.here hx rfl (pc0 := 88) (pc' := 93) rfl (hb hby at_88) rfl ((if0 _ _).trans (feq ((by decide) : ¬ ((1 : Int32) = (0 : Int32)))).2) (by decide) (by decide) k) ?_
    show OwnGoW p e below s Z own_EL _ _ _ T136 (mkF m 93 #[.val (.int p1), .val (.int p2), .val (.int p3), .val (.long p4), .second, .val (.int (4 : Int32)), .val (.int y0), .val (.int y1), .val (.int y2), .val (.int y3), .val (.ref a129), .val (.ref b130), .val (.ref c135), .unset] [])
    refine OwnGoW.st (fun _ k => XS.aload X136.here hx rfl (hb hby at_93) rfl rfl  k) ?_
    show OwnGoW p e below s Z own_EL _ _ _ T136 (mkF m 95 #[.val (.int p1), .val (.int p2), .val (.int p3), .val (.long p4), .second, .val (.int (4 : Int32)), .val (.int y0), .val (.int y1), .val (.int y2), .val (.int y3), .val (.ref a129), .val (.ref b130), .val (.ref c135), .unset] [(.ref c135)])
    obtain ⟨_, _, ⟨T137, L137, k137, n137⟩, -, X137, ⟨Lc137, hQ137, l137, y137, z137⟩, st137⟩ := Jvm.LawKit.callS X136 hx (y := (⟨"com/example/thorough_factfind/thoroughfactfind/foundation/db/EventDataPinLaw", "bump", "([B)V"⟩ : MethodName)) hown (mvT hZ (hw _ (List.mem_of_getElem? (i := 44) rfl))) (mvT hZ (hw _ (List.mem_of_getElem? (i := 45) rfl))) (mvT hZ (hw _ (List.mem_of_getElem? (i := 3) rfl))) (mvT hZ (hw _ (List.mem_of_getElem? (i := 46) rfl))) (by decide) (backOf (W := 0) (rmbu4 l Z a0 hw [] c135 kc129 y0 y1 y2 y3 T135.heap n0 Z_ V135 g_c135) hZ (hw _ (List.mem_of_getElem? (i := 46) rfl)) (hw _ (List.mem_of_getElem? (i := 3) rfl)) (by decide) (by decide)) (g := (mkF m 95 #[.val (.int p1), .val (.int p2), .val (.int p3), .val (.long p4), .second, .val (.int (4 : Int32)), .val (.int y0), .val (.int y1), .val (.int y2), .val (.int y3), .val (.ref a129), .val (.ref b130), .val (.ref c135), .unset] [(.ref c135)])) rfl (by rw [hml]; rfl) (argsL := [(.ref c135)]) (rest := []) (lenOf pd_3 rfl) rfl (by show 2 * 0 + _ ≤ _; exact Nat.le_of_eq rfl) (hb hby at_95) (fun _ _ => ⟨rfl, e136, (by decide : 8 + 0 ≤ _), (by decide : 128 + 0 ≤ _)⟩)
    dsimp only [Pt.U, Pt.locs, Pt.cells, Pt.slots] at X137 l137 y137 z137 st137 hQ137
    subst l137 y137 z137
    obtain ⟨rfl, N137q, K137⟩ := hQ137
    have N137 := Fr.app N136 N137q
    have Z_ : n0 ≤ T137.heap.size := Nat.le_trans Z_ K137.1
    have E129 := E129.keep K137
    have E_b130 := E_b130.keep K137
    have F133 := F133.keep K137 (ninS ne_b130_c135 nin0)
    have V133 := V133.keep K137 (ninS ne_c133_c135 nin0)
    have E133 := E133.keep K137
    have E135 := E135.keep K137
    have CR := CR.trans (CHr.keep K137 (sfS own_safe sf0) CR.1)
    have hk_ := Nat.le_trans hk_ K137.1
    refine OwnGoW.st st137 ?_
    show OwnGoW p e below s Z own_EL _ _ _ T137 (mkF m 98 #[.val (.int p1), .val (.int p2), .val (.int p3), .val (.long p4), .second, .val (.int (4 : Int32)), .val (.int y0), .val (.int y1), .val (.int y2), .val (.int y3), .val (.ref a129), .val (.ref b130), .val (.ref c135), .unset] [])
    refine OwnGoW.st (fun _ k => XS.aload X137.here hx rfl (hb hby at_98) rfl rfl  k) ?_
    show OwnGoW p e below s Z own_EL _ _ _ T137 (mkF m 100 #[.val (.int p1), .val (.int p2), .val (.int p3), .val (.long p4), .second, .val (.int (4 : Int32)), .val (.int y0), .val (.int y1), .val (.int y2), .val (.int y3), .val (.ref a129), .val (.ref b130), .val (.ref c135), .unset] [(.ref b130)])
    obtain ⟨cq138, kq138, q138a, q138b, q138c⟩ := isOf hZ rfl E_b130
    obtain ⟨_, _, ⟨T138, L138, k138, n138⟩, -, X138, ⟨Lc138, hQ138, l138, y138, z138⟩, st138⟩ := X137.virtualBack hx (y := (⟨"com/example/thorough_factfind/thoroughfactfind/foundation/db/Event", "data", "()[B"⟩ : MethodName)) (z := (⟨"com/example/thorough_factfind/thoroughfactfind/foundation/db/Event", "data", "()[B"⟩ : MethodName)) hown (mvT hZ (hw _ (List.mem_of_getElem? (i := 47) rfl))) (mvT hZ (hw _ (List.mem_of_getElem? (i := 48) rfl))) (notFace_of_selects (args := #[]) (mvT hZ (hw _ (List.mem_of_getElem? (i := 50) rfl)))) (mvT hZ (hw _ (List.mem_of_getElem? (i := 50) rfl))) (mvT hZ (hw _ (List.mem_of_getElem? (i := 49) rfl))) (by decide) (backOf (W := 0) (rmdat l Z a0 hw [] b130 c133 kc129 (4 : Int32) [(.int y0), (.int y1), (.int y2), (.int y3)] T137.heap n0 Z_ F133 V133 E133 (by decide)) hZ (hw _ (List.mem_of_getElem? (i := 51) rfl)) (hw _ (List.mem_of_getElem? (i := 8) rfl)) (by decide) (by decide)) q138a q138c (g := (mkF m 100 #[.val (.int p1), .val (.int p2), .val (.int p3), .val (.long p4), .second, .val (.int (4 : Int32)), .val (.int y0), .val (.int y1), .val (.int y2), .val (.int y3), .val (.ref a129), .val (.ref b130), .val (.ref c135), .unset] [(.ref b130)])) rfl (by rw [hml]; rfl) (Steps.refl _) (argsL := []) (rest := []) (lenOf pd_4 rfl) rfl (by show 2 * 0 + _ ≤ _; exact Nat.le_of_eq rfl) (hb hby at_100) (fun _ _ => ⟨rfl, rfl, (by decide : 8 + 1 ≤ _), (by decide : 128 + 4 ≤ _)⟩)
    dsimp only [Pt.U, Pt.locs, Pt.cells, Pt.slots] at X138 l138 y138 z138 st138 hQ138
    subst l138 y138 z138
    obtain ⟨c138, rfl, N138q, K138, V138, E138, zc138⟩ := hQ138
    have N138 := Fr.app N137 N138q
    have ne_a129_c138 : a129 ≠ c138 := Nat.ne_of_lt (Nat.lt_of_lt_of_le E129.lt zc138)
    have ne_b130_c138 : b130 ≠ c138 := Nat.ne_of_lt (Nat.lt_of_lt_of_le E_b130.lt zc138)
    have ne_c133_c138 : c133 ≠ c138 := Nat.ne_of_lt (Nat.lt_of_lt_of_le V133.lt zc138)
    have ne_c135_c138 : c135 ≠ c138 := Nat.ne_of_lt (Nat.lt_of_lt_of_le E135.lt zc138)
    have g_c138 : n0 ≤ c138 := Nat.le_trans Z_ zc138
    have Z_ : n0 ≤ T138.heap.size := Nat.le_trans Z_ K138.1
    have E129 := E129.keep K138
    have E_b130 := E_b130.keep K138
    have F133 := F133.keep K138 nin0
    have V133 := V133.keep K138 nin0
    have E133 := E133.keep K138
    have E135 := E135.keep K138
    have CR := CR.trans (CHr.keep K138 sf0 CR.1)
    have hk_ := Nat.le_trans hk_ K138.1
    refine OwnGoW.st (fun _ k => st138.trans k) ?_
    show OwnGoW p e below s Z own_EL _ _ _ T138 (mkF m 103 #[.val (.int p1), .val (.int p2), .val (.int p3), .val (.long p4), .second, .val (.int (4 : Int32)), .val (.int y0), .val (.int y1), .val (.int y2), .val (.int y3), .val (.ref a129), .val (.ref b130), .val (.ref c135), .unset] [(.ref c138)])
    refine OwnGoW.st (fun _ k => XS.astore X138.here hx rfl (hb hby at_103) rfl rfl (l' := #[.val (.int p1), .val (.int p2), .val (.int p3), .val (.long p4), .second, .val (.int (4 : Int32)), .val (.int y0), .val (.int y1), .val (.int y2), .val (.int y3), .val (.ref a129), .val (.ref b130), .val (.ref c135), .val (.ref c138)]) rfl k) ?_
    show OwnGoW p e below s Z own_EL _ _ _ T138 (mkF m 105 #[.val (.int p1), .val (.int p2), .val (.int p3), .val (.long p4), .second, .val (.int (4 : Int32)), .val (.int y0), .val (.int y1), .val (.int y2), .val (.int y3), .val (.ref a129), .val (.ref b130), .val (.ref c135), .val (.ref c138)] [])
    refine OwnGoW.st (fun _ k => XS.aload X138.here hx rfl (hb hby at_105) rfl rfl  k) ?_
    show OwnGoW p e below s Z own_EL _ _ _ T138 (mkF m 107 #[.val (.int p1), .val (.int p2), .val (.int p3), .val (.long p4), .second, .val (.int (4 : Int32)), .val (.int y0), .val (.int y1), .val (.int y2), .val (.int y3), .val (.ref a129), .val (.ref b130), .val (.ref c135), .val (.ref c138)] [(.ref c138)])
    refine OwnGoW.st (fun _ k => XS.iload X138.here hx rfl (hb hby at_107) rfl  k) ?_
    show OwnGoW p e below s Z own_EL _ _ _ T138 (mkF m 109 #[.val (.int p1), .val (.int p2), .val (.int p3), .val (.long p4), .second, .val (.int (4 : Int32)), .val (.int y0), .val (.int y1), .val (.int y2), .val (.int y3), .val (.ref a129), .val (.ref b130), .val (.ref c135), .val (.ref c138)] [(.int (4 : Int32)), (.ref c138)])
    refine OwnGoW.st (fun _ k => XS.iload X138.here hx rfl (hb hby at_109) rfl  k) ?_
    show OwnGoW p e below s Z own_EL _ _ _ T138 (mkF m 111 #[.val (.int p1), .val (.int p2), .val (.int p3), .val (.long p4), .second, .val (.int (4 : Int32)), .val (.int y0), .val (.int y1), .val (.int y2), .val (.int y3), .val (.ref a129), .val (.ref b130), .val (.ref c135), .val (.ref c138)] [(.int y0), (.int (4 : Int32)), (.ref c138)])
    refine OwnGoW.st (fun _ k => XS.iload X138.here hx rfl (hb hby at_111) rfl  k) ?_
    show OwnGoW p e below s Z own_EL _ _ _ T138 (mkF m 113 #[.val (.int p1), .val (.int p2), .val (.int p3), .val (.long p4), .second, .val (.int (4 : Int32)), .val (.int y0), .val (.int y1), .val (.int y2), .val (.int y3), .val (.ref a129), .val (.ref b130), .val (.ref c135), .val (.ref c138)] [(.int y1), (.int y0), (.int (4 : Int32)), (.ref c138)])
    refine OwnGoW.st (fun _ k => XS.iload X138.here hx rfl (hb hby at_113) rfl  k) ?_
    show OwnGoW p e below s Z own_EL _ _ _ T138 (mkF m 115 #[.val (.int p1), .val (.int p2), .val (.int p3), .val (.long p4), .second, .val (.int (4 : Int32)), .val (.int y0), .val (.int y1), .val (.int y2), .val (.int y3), .val (.ref a129), .val (.ref b130), .val (.ref c135), .val (.ref c138)] [(.int y2), (.int y1), (.int y0), (.int (4 : Int32)), (.ref c138)])
    refine OwnGoW.st (fun _ k => XS.iload X138.here hx rfl (hb hby at_115) rfl  k) ?_
    show OwnGoW p e below s Z own_EL _ _ _ T138 (mkF m 117 #[.val (.int p1), .val (.int p2), .val (.int p3), .val (.long p4), .second, .val (.int (4 : Int32)), .val (.int y0), .val (.int y1), .val (.int y2), .val (.int y3), .val (.ref a129), .val (.ref b130), .val (.ref c135), .val (.ref c138)] [(.int y3), (.int y2), (.int y1), (.int y0), (.int (4 : Int32)), (.ref c138)])
    obtain ⟨_, _, ⟨T139, L139, k139, n139⟩, -, X139, ⟨Lc139, hQ139, l139, y139, z139⟩, st139⟩ := Jvm.LawKit.callS X138 hx (y := (⟨"com/example/thorough_factfind/thoroughfactfind/foundation/db/EventDataPinLaw", "same", "([BIBBBB)Z"⟩ : MethodName)) hown (mvT hZ (hw _ (List.mem_of_getElem? (i := 52) rfl))) (mvT hZ (hw _ (List.mem_of_getElem? (i := 53) rfl))) (mvT hZ (hw _ (List.mem_of_getElem? (i := 3) rfl))) (mvT hZ (hw _ (List.mem_of_getElem? (i := 54) rfl))) (by decide) (backOf (W := 0) (rmsa4 l Z a0 hw [] c138 kc129 y0 y1 y2 y3 T138.heap n0 Z_ V138) hZ (hw _ (List.mem_of_getElem? (i := 54) rfl)) (hw _ (List.mem_of_getElem? (i := 3) rfl)) (by decide) (by decide)) (g := (mkF m 117 #[.val (.int p1), .val (.int p2), .val (.int p3), .val (.long p4), .second, .val (.int (4 : Int32)), .val (.int y0), .val (.int y1), .val (.int y2), .val (.int y3), .val (.ref a129), .val (.ref b130), .val (.ref c135), .val (.ref c138)] [(.int y3), (.int y2), (.int y1), (.int y0), (.int (4 : Int32)), (.ref c138)])) rfl (by rw [hml]; rfl) (argsL := [(.ref c138), (.int (4 : Int32)), (.int y0), (.int y1), (.int y2), (.int y3)]) (rest := []) (lenOf pd_5 rfl) rfl (by show 2 * 0 + _ ≤ _; exact Nat.le_of_eq rfl) (hb hby at_117) (fun _ _ => ⟨rfl, rfl, (by decide : 9 + 0 ≤ _), (by decide : 132 + 0 ≤ _)⟩)
    dsimp only [Pt.U, Pt.locs, Pt.cells, Pt.slots] at X139 l139 y139 z139 st139 hQ139
    subst l139 y139 z139
    obtain ⟨rfl, N139q, e139⟩ := hQ139
    have N139 := Fr.app N138 N139q
    refine OwnGoW.st st139 ?_
    show OwnGoW p e below s Z own_EL _ _ _ T139 (mkF m 120 #[.val (.int p1), .val (.int p2), .val (.int p3), .val (.long p4), .second, .val (.int (4 : Int32)), .val (.int y0), .val (.int y1), .val (.int y2), .val (.int y3), .val (.ref a129), .val (.ref b130), .val (.ref c135), .val (.ref c138)] [(.int (1 : Int32))])
    exact OwnGoW.retN (s := s) (vm0 := T132.vm) X139 hS_ hk_ e139 hZ (own_hEL hw) CR hx (t := .boolean) hret hlk (by simp) (hb hby at_120) (by show Q0 Z p1 p2 p3 p4 h0 n0 _ T139.heap _; rw [e139]; exact ⟨rfl, N139⟩) (by decide) (by decide)
set_option maxRecDepth 65536 in
set_option maxHeartbeats 40000000 in
theorem comes_1 {Post : Tables → Env → Array Value → State → Outcome → State → Prop} (hpost : ∀ tb e args s v u, (limb_1_1.after args s (.returned v) u = true ∧ limb_1_2.after args s (.returned v) u = true ∧ True) → ReturnedEndW s (.returned v) u (Jvm.fieldLocs frame_1_writes args s ++ Jvm.arrayLocs frame_1_arrays args s ++ Jvm.staticLocs frame_1_statics s) 24 2176 → Post tb e args s (.returned v) u) :
    ArmFor flags0 classFile x code maxLocals ret World_1 tables_1 room_1 Calls_1 rest_1 Pre_1 Post := by
  intro l hfl _ _ p e ha hc hk s m args below hf hA hF happ hP
  obtain ⟨hcalls, hrest, hpre⟩ := hP
  obtain ⟨-, -, -, hnamed, -, -, -, hat⟩ := (Spec.applies_iff hf).mp happ
  obtain ⟨hg, hn⟩ := and_e (Cond.before_iff.mp (show (Jvm.Cond.and given_1 narrow_1).before args s = true from hpre))
  obtain ⟨hcnt, hg⟩ := and_e hg
  obtain ⟨hg0, hg⟩ := and_e hg
  obtain ⟨hg1, hg⟩ := and_e hg
  obtain ⟨hg2, hg⟩ := and_e hg
  have hg3 := hg
  obtain ⟨w0, w1, w2, w3, rfl⟩ : ∃ w0 w1 w2 w3 : Value, args = #[w0, w1, w2, w3] := by
    have hs : args.size = 4 := by simpa [Cond.value, given_1] using hcnt
    obtain ⟨L⟩ := args
    match L, hs with
    | [w0, w1, w2, w3], _ => exact ⟨w0, w1, w2, w3, rfl⟩
  have hw := fun d (hd : d ∈ tables_1) => atoms_spec (ws := Jvm.Cond.code x code maxLocals ret :: tables_1) hat d (List.mem_cons_of_mem _ hd)
  have hfit : Fit s := fun {y c} hc i hi => by
    obtain ⟨ha, rfl⟩ := Array.getElem?_eq_some_iff.mp hc
    have q := List.all_eq_true.mp ((Array.all_eq_true_iff_forall_mem.mp hF) _ (Array.getElem_mem ha)) i (List.mem_range.mpr hi)
    simpa [Array.getElem?_eq_getElem hi] using q
  obtain ⟨i0, ei0⟩ := is_v hg0
  obtain rfl : w0 = (.int i0) := Option.some.inj ei0
  obtain ⟨i1, ei1⟩ := is_v hg1
  obtain rfl : w1 = (.int i1) := Option.some.inj ei1
  obtain ⟨i2, ei2⟩ := is_v hg2
  obtain rfl : w2 = (.int i2) := Option.some.inj ei2
  obtain ⟨i3, ei3⟩ := isL_v hg3
  obtain rfl : w3 = (.long i3) := Option.some.inj ei3
  obtain ⟨n, o, h1, h2, h3, _, L, rfl, ⟨rfl, N⟩, -, hq⟩ := rm0 l s _ hw tables_1 i0 i1 i2 i3 s.heap s.heap.size (Nat.le_refl _)   p e ha hc hk s m _ below hf ((Spec.applies_iff_loose hf).mp happ).1 ⟨rfl, State.Warmed39.refl s, rfl, (by intro q hq; simp [own_EL] at hq)⟩ trivial
  refine ⟨n, _, h1, h2, h3, hpost _ _ _ _ _ _ ⟨Cond.after_iff.mpr rfl, Cond.after_iff.mpr (eq_i res_at (Term.int_eval (1)) rfl), trivial⟩ ⟨hq.1, hq.2.1, hq.2.2.1, (hq.2.2.2.sift fun y hy => Or.inr (N y hy)).mono (by decide) (by decide)⟩⟩
theorem main_1_1 : Claimed_1_1 := comes_1 fun _ _ _ _ _ _ h hF => ⟨h.1, hF⟩
theorem main_1_2 : Claimed_1_2 := comes_1 fun _ _ _ _ _ _ h hF => ⟨h.2.1, hF⟩
end Jvm.Pilot.@@N@@
namespace Jvm.Pilot.@@N@@
open Jvm Jvm.ClassFile Sem Op Lib Jvm.Free Jvm.Stand Jvm.Pilot.@@N@@.Jvm.D
/-! MADE BY PROGRAM (witnessworld.py) out of the Statement's table words and the real class files: 15 classes; the members and pool entries that the words name. The judged class is class 1, her method 4. -/
namespace start1
open Jvm.ClassFile
def u (s : String) : CpInfo := .utf8 (stringToUtf16 s)
/-- a pool by its gaps: so many unusable entries, then the entry; so many at the end -/
def gap : Nat → List CpInfo → List CpInfo
  | 0, r => r
  | n + 1, r => .unusable :: gap n r
def poolList (es : List (Nat × CpInfo)) (last : Nat) : List CpInfo := es.foldr (fun e r => gap e.1 (e.2 :: r)) (gap last [])
def pool (es : List (Nat × CpInfo)) (last : Nat) : Array CpInfo := ⟨poolList es last⟩
def fileOf (pool : Array CpInfo) (this : Nat) (attrs : Array Attribute := #[]) (ms : Array MethodInfo := #[]) (fl : Nat := 33) (sup : Nat := 0) (ifs : Array Nat := #[]) (fds : Array FieldInfo := #[]) : ClassFile where
  minorVersion := 0
  majorVersion := 65
  constantPool := pool
  accessFlags := fl
  thisClass := this
  superClass := sup
  interfaces := ifs
  fields := fds
  methods := ms
  attributes := attrs
def plain (name : String) (sup : Option ClassId) : Class where
  name := name
  kind := .ordinary
  loader := none
  accessFlags := 33
  super := sup
  interfaces := #[]
  cf := none
  fields := #[]
  methods := #[]
  instanceTypes := #[]
  staticTypes := #[]
  resolved := #[]
  callSites := []
  init := .initialized
  statics := none
  mirror := none

def pool0 : Array CpInfo := pool [(5, u "<init>"), (0, u "()V"), (1, .class_ 10), (1, u "java/lang/Object"), (85, u "clone"), (0, u "()Ljava/lang/Object;")] 26

def k0c0 : Code := { maxStack := 0, maxLocals := 1, code := object_method_1_code, exceptionTable := #[], attributes := #[] }
def k0m0 : Method := { name := "<init>", desc := "()V", sig := { parameters := [], returnType := none }, accessFlags := 1, code := some k0c0 }
def k0m1 : Method := { name := "clone", desc := "()Ljava/lang/Object;", sig := { parameters := [], returnType := some (.object "java/lang/Object") }, accessFlags := 260, code := none }
/-- java/lang/Object -/
def k0 : Class := { plain "java/lang/Object" none with
  accessFlags := 33
  interfaces := #[]
  cf := some (fileOf pool0 8 #[] #[{ accessFlags := 1, nameIndex := 5, descriptorIndex := 6, attributes := #[] }, { accessFlags := 260, nameIndex := 96, descriptorIndex := 97, attributes := #[] }] 33 0 #[] #[])
  fields := #[]
  methods := #[k0m0, k0m1]
  instanceTypes := #[]
  staticTypes := #[]
  resolved := Array.replicate 124 none
  statics := none }

def pool1 : Array CpInfo := pool [(2, .class_ 4), (1, u "java/lang/Object"), (0, u "<init>"), (0, u "()V"), (0, .integer 2147483647), (0, .methodref 9 10), (0, .class_ 11), (0, .nameAndType 12 13), (0, u "com/example/thorough_factfind/thoroughfactfind/foundation/db/EventDataPinLaw"), (0, u "make"), (0, u "(IBBBB)[B"), (0, .class_ 15), (0, u "com/example/thorough_factfind/thoroughfactfind/foundation/db/Event"), (0, .string 17), (0, u "IncomeCreated"), (0, .string 19), (0, u "/v3/clients/1"), (0, .methodref 14 21), (0, .nameAndType 5 22), (0, u "(Ljava/lang/String;JLjava/lang/String;[B)V"), (0, .methodref 9 24), (0, .nameAndType 25 26), (0, u "bump"), (0, u "([B)V"), (0, .methodref 14 28), (0, .nameAndType 29 30), (0, u "data"), (0, u "()[B"), (0, .methodref 9 32), (0, .nameAndType 33 34), (0, u "same"), (0, u "([BIBBBB)Z"), (3, u "law"), (0, u "(IIIJ)Z")] 4

def k1m0 : Method := { name := "<init>", desc := "()V", sig := { parameters := [], returnType := none }, accessFlags := 2, code := none }
def k1c1 : Code := { maxStack := 4, maxLocals := 5, code := method_2_code, exceptionTable := #[], attributes := #[] }
def k1m1 : Method := { name := "make", desc := "(IBBBB)[B", sig := { parameters := [.int, .byte, .byte, .byte, .byte], returnType := some (.array .byte) }, accessFlags := 10, code := some k1c1 }
def k1c2 : Code := { maxStack := 4, maxLocals := 1, code := method_3_code, exceptionTable := #[], attributes := #[] }
def k1m2 : Method := { name := "bump", desc := "([B)V", sig := { parameters := [(.array .byte)], returnType := none }, accessFlags := 10, code := some k1c2 }
def k1c3 : Code := { maxStack := 2, maxLocals := 6, code := method_4_code, exceptionTable := #[], attributes := #[] }
def k1m3 : Method := { name := "same", desc := "([BIBBBB)Z", sig := { parameters := [(.array .byte), .int, .byte, .byte, .byte, .byte], returnType := some .boolean }, accessFlags := 10, code := some k1c3 }
def k1c4 : Code := { maxStack := 7, maxLocals := 14, code := code, exceptionTable := #[], attributes := #[] }
def k1m4 : Method := { name := "law", desc := "(IIIJ)Z", sig := { parameters := [.int, .int, .int, .long], returnType := some .boolean }, accessFlags := 9, code := some k1c4 }
/-- com/example/thorough_factfind/thoroughfactfind/foundation/db/EventDataPinLaw -/
def k1 : Class := { plain "com/example/thorough_factfind/thoroughfactfind/foundation/db/EventDataPinLaw" (some 0) with
  accessFlags := 49
  interfaces := #[]
  cf := some (fileOf pool1 9 #[] #[{ accessFlags := 2, nameIndex := 5, descriptorIndex := 6, attributes := #[] }, { accessFlags := 10, nameIndex := 12, descriptorIndex := 13, attributes := #[] }, { accessFlags := 10, nameIndex := 25, descriptorIndex := 26, attributes := #[] }, { accessFlags := 10, nameIndex := 33, descriptorIndex := 34, attributes := #[] }, { accessFlags := 9, nameIndex := 38, descriptorIndex := 39, attributes := #[] }] 49 2 #[] #[])
  fields := #[]
  methods := #[k1m0, k1m1, k1m2, k1m3, k1m4]
  instanceTypes := #[]
  staticTypes := #[]
  resolved := Array.replicate 44 none
  statics := none }

def pool2 : Array CpInfo := pool [(1, .methodref 2 3), (0, .class_ 4), (0, .nameAndType 5 6), (0, u "java/lang/Object"), (0, u "<init>"), (0, u "()V"), (0, .fieldref 8 9), (0, .class_ 10), (0, .nameAndType 11 12), (0, u "com/example/thorough_factfind/thoroughfactfind/foundation/db/Event"), (0, u "_type"), (0, u "Ljava/lang/String;"), (0, .fieldref 8 14), (0, .nameAndType 15 16), (0, u "_clientId"), (0, u "J"), (0, .fieldref 8 18), (0, .nameAndType 19 12), (0, u "_subject"), (0, .methodref 21 22), (0, .class_ 23), (0, .nameAndType 24 25), (0, u "java/util/Arrays"), (0, u "copyOf"), (0, u "([BI)[B"), (0, .fieldref 8 27), (0, .nameAndType 28 29), (0, u "_data"), (0, u "[B"), (0, u "(Ljava/lang/String;JLjava/lang/String;[B)V"), (7, u "data"), (0, u "()[B")] 2

def k2c0 : Code := { maxStack := 3, maxLocals := 6, code := prog_12_method_1_code, exceptionTable := #[], attributes := #[] }
def k2m0 : Method := { name := "<init>", desc := "(Ljava/lang/String;JLjava/lang/String;[B)V", sig := { parameters := [(.object "java/lang/String"), .long, (.object "java/lang/String"), (.array .byte)], returnType := none }, accessFlags := 1, code := some k2c0 }
def k2c1 : Code := { maxStack := 2, maxLocals := 1, code := prog_12_method_5_code, exceptionTable := #[], attributes := #[] }
def k2m1 : Method := { name := "data", desc := "()[B", sig := { parameters := [], returnType := some (.array .byte) }, accessFlags := 1, code := some k2c1 }
/-- com/example/thorough_factfind/thoroughfactfind/foundation/db/Event -/
def k2 : Class := { plain "com/example/thorough_factfind/thoroughfactfind/foundation/db/Event" (some 0) with
  accessFlags := 49
  interfaces := #[]
  cf := some (fileOf pool2 8 #[] #[{ accessFlags := 1, nameIndex := 5, descriptorIndex := 30, attributes := #[] }, { accessFlags := 1, nameIndex := 38, descriptorIndex := 39, attributes := #[] }] 49 2 #[] #[{ accessFlags := 18, nameIndex := 11, descriptorIndex := 12, attributes := #[] }, { accessFlags := 18, nameIndex := 15, descriptorIndex := 16, attributes := #[] }, { accessFlags := 18, nameIndex := 19, descriptorIndex := 12, attributes := #[] }, { accessFlags := 18, nameIndex := 28, descriptorIndex := 29, attributes := #[] }])
  fields := #[{ name := "_type", type := (.object "java/lang/String"), accessFlags := 18, slot := 0, constantValue := 0 }, { name := "_clientId", type := .long, accessFlags := 18, slot := 1, constantValue := 0 }, { name := "_subject", type := (.object "java/lang/String"), accessFlags := 18, slot := 2, constantValue := 0 }, { name := "_data", type := (.array .byte), accessFlags := 18, slot := 3, constantValue := 0 }]
  methods := #[k2m0, k2m1]
  instanceTypes := #[(.object "java/lang/String"), .long, (.object "java/lang/String"), (.array .byte)]
  staticTypes := #[]
  resolved := Array.replicate 42 none
  statics := none }

def pool3 : Array CpInfo := pool [(1, .class_ 2), (0, u "java/io/Serializable"), (0, .class_ 4), (0, u "java/lang/Object")] 2

/-- java/io/Serializable -/
def k3 : Class := { plain "java/io/Serializable" (some 0) with
  accessFlags := 1537
  interfaces := #[]
  cf := some (fileOf pool3 1 #[] #[] 1537 3 #[] #[])
  fields := #[]
  methods := #[]
  instanceTypes := #[]
  staticTypes := #[]
  resolved := Array.replicate 7 none
  statics := none }

def pool4 : Array CpInfo := pool [(1, .class_ 2), (0, u "java/lang/Comparable"), (0, .class_ 4), (0, u "java/lang/Object")] 7

/-- java/lang/Comparable -/
def k4 : Class := { plain "java/lang/Comparable" (some 0) with
  accessFlags := 1537
  interfaces := #[]
  cf := some (fileOf pool4 1 #[] #[] 1537 3 #[] #[])
  fields := #[]
  methods := #[]
  instanceTypes := #[]
  staticTypes := #[]
  resolved := Array.replicate 12 none
  statics := none }

def pool5 : Array CpInfo := pool [(2, .class_ 4), (1, u "java/lang/CharSequence"), (42, .class_ 48), (0, u "java/lang/CharSequence$1CodePointIterator"), (10, .class_ 60), (0, u "java/lang/CharSequence$1CharIterator"), (5, .class_ 67), (0, u "java/lang/Object")] 63

/-- java/lang/CharSequence -/
def k5 : Class := { plain "java/lang/CharSequence" (some 0) with
  accessFlags := 1537
  interfaces := #[]
  cf := some (fileOf pool5 2 #[.nestMembers #[47, 59]] #[] 1537 66 #[] #[])
  fields := #[]
  methods := #[]
  instanceTypes := #[]
  staticTypes := #[]
  resolved := Array.replicate 131 none
  statics := none }

def pool6 : Array CpInfo := pool [(1, .class_ 2), (0, u "java/lang/constant/Constable"), (0, .class_ 4), (0, u "java/lang/Object")] 6

/-- java/lang/constant/Constable -/
def k6 : Class := { plain "java/lang/constant/Constable" (some 0) with
  accessFlags := 1537
  interfaces := #[]
  cf := some (fileOf pool6 1 #[] #[] 1537 3 #[] #[])
  fields := #[]
  methods := #[]
  instanceTypes := #[]
  staticTypes := #[]
  resolved := Array.replicate 11 none
  statics := none }

def pool7 : Array CpInfo := pool [(1, .class_ 2), (0, u "java/lang/constant/ConstantDesc"), (0, .class_ 4), (0, u "java/lang/Object")] 32

/-- java/lang/constant/ConstantDesc -/
def k7 : Class := { plain "java/lang/constant/ConstantDesc" (some 0) with
  accessFlags := 1537
  interfaces := #[]
  cf := some (fileOf pool7 1 #[] #[] 1537 3 #[] #[])
  fields := #[]
  methods := #[]
  instanceTypes := #[]
  staticTypes := #[]
  resolved := Array.replicate 37 none
  statics := none }

def pool8 : Array CpInfo := pool [(2, .class_ 4), (1, u "java/lang/Object"), (0, u "<init>"), (0, u "()V"), (3, .class_ 12), (1, u "java/lang/String"), (0, u "value"), (0, u "[B"), (2, u "coder"), (0, u "B"), (2, u "hash"), (0, u "I"), (2, u "hashIsZero"), (0, u "Z"), (13, u "COMPACT_STRINGS"), (534, .class_ 576), (0, u "java/lang/CharSequence"), (22, u "CASE_INSENSITIVE_ORDER"), (0, u "Ljava/util/Comparator;"), (500, u "serialPersistentFields"), (0, u "[Ljava/io/ObjectStreamField;"), (0, .class_ 1104), (0, u "java/lang/String$CaseInsensitiveComparator"), (1, .class_ 1107), (0, u "java/io/Serializable"), (0, .class_ 1109), (0, u "java/lang/Comparable"), (0, .class_ 1111), (0, u "java/lang/constant/Constable"), (0, .class_ 1113), (0, u "java/lang/constant/ConstantDesc"), (2, u "serialVersionUID"), (0, u "J"), (3, u "REPL"), (0, u "C"), (2, u "LATIN1"), (1, u "UTF16")] 323

def k8m0 : Method := { name := "<init>", desc := "()V", sig := { parameters := [], returnType := none }, accessFlags := 1, code := none }
/-- java/lang/String -/
def k8 : Class := { plain "java/lang/String" (some 0) with
  accessFlags := 49
  interfaces := #[3, 4, 5, 6, 7]
  cf := some (fileOf pool8 10 #[.nestMembers #[1103]] #[{ accessFlags := 1, nameIndex := 5, descriptorIndex := 6, attributes := #[] }] 49 2 #[1106, 1108, 575, 1110, 1112] #[{ accessFlags := 18, nameIndex := 13, descriptorIndex := 14, attributes := #[] }, { accessFlags := 18, nameIndex := 17, descriptorIndex := 18, attributes := #[] }, { accessFlags := 2, nameIndex := 21, descriptorIndex := 22, attributes := #[] }, { accessFlags := 2, nameIndex := 25, descriptorIndex := 26, attributes := #[] }, { accessFlags := 26, nameIndex := 1116, descriptorIndex := 1117, attributes := #[] }, { accessFlags := 24, nameIndex := 40, descriptorIndex := 26, attributes := #[] }, { accessFlags := 26, nameIndex := 1101, descriptorIndex := 1102, attributes := #[] }, { accessFlags := 26, nameIndex := 1121, descriptorIndex := 1122, attributes := #[] }, { accessFlags := 25, nameIndex := 599, descriptorIndex := 600, attributes := #[] }, { accessFlags := 24, nameIndex := 1125, descriptorIndex := 18, attributes := #[] }, { accessFlags := 24, nameIndex := 1127, descriptorIndex := 18, attributes := #[] }])
  fields := #[{ name := "value", type := (.array .byte), accessFlags := 18, slot := 0, constantValue := 0 }, { name := "coder", type := .byte, accessFlags := 18, slot := 1, constantValue := 0 }, { name := "hash", type := .int, accessFlags := 2, slot := 2, constantValue := 0 }, { name := "hashIsZero", type := .boolean, accessFlags := 2, slot := 3, constantValue := 0 }, { name := "serialVersionUID", type := .long, accessFlags := 26, slot := 0, constantValue := 0 }, { name := "COMPACT_STRINGS", type := .boolean, accessFlags := 24, slot := 1, constantValue := 0 }, { name := "serialPersistentFields", type := (.array (.object "java/io/ObjectStreamField")), accessFlags := 26, slot := 2, constantValue := 0 }, { name := "REPL", type := .char, accessFlags := 26, slot := 3, constantValue := 0 }, { name := "CASE_INSENSITIVE_ORDER", type := (.object "java/util/Comparator"), accessFlags := 25, slot := 4, constantValue := 0 }, { name := "LATIN1", type := .byte, accessFlags := 24, slot := 5, constantValue := 0 }, { name := "UTF16", type := .byte, accessFlags := 24, slot := 6, constantValue := 0 }]
  methods := #[k8m0]
  instanceTypes := #[(.array .byte), .byte, .int, .boolean]
  staticTypes := #[.long, .boolean, (.array (.object "java/io/ObjectStreamField")), .char, (.object "java/util/Comparator"), .byte, .byte]
  resolved := Array.replicate 1451 none
  statics := none }

def pool9 : Array CpInfo := pool [(2, .class_ 4), (1, u "java/lang/Object"), (0, u "<init>"), (0, u "()V"), (7, .class_ 16), (1, u "java/util/Arrays"), (57, .class_ 76), (1, u "java/util/Arrays$NaturalOrder"), (32, u "()Ljava/lang/Object;"), (3, .class_ 115), (1, u "java/util/Arrays$LegacyMergeSort"), (1, u "Z"), (10, .nameAndType 129 109), (0, u "clone"), (172, u "copyOf"), (7, .methodref 311 128), (0, .class_ 312), (0, u "[B"), (62, .class_ 376), (0, u "java/util/Arrays$ArrayList"), (68, u "$assertionsDisabled"), (269, u "MIN_ARRAY_SORT_GRAN"), (0, u "I"), (2, u "INSERTIONSORT_THRESHOLD"), (149, u "([BI)[B"), (105, .class_ 976), (0, u "java/util/Arrays$ArrayItr")] 52

def k9m0 : Method := { name := "<init>", desc := "()V", sig := { parameters := [], returnType := none }, accessFlags := 2, code := none }
def k9c1 : Code := { maxStack := 6, maxLocals := 3, code := jdk_65_method_121_code, exceptionTable := #[], attributes := #[] }
def k9m1 : Method := { name := "copyOf", desc := "([BI)[B", sig := { parameters := [(.array .byte), .int], returnType := some (.array .byte) }, accessFlags := 9, code := some k9c1 }
/-- java/util/Arrays -/
def k9 : Class := { plain "java/util/Arrays" (some 0) with
  accessFlags := 49
  interfaces := #[]
  cf := some (fileOf pool9 14 #[.nestMembers #[975, 375, 113, 74]] #[{ accessFlags := 2, nameIndex := 5, descriptorIndex := 6, attributes := #[] }, { accessFlags := 9, nameIndex := 302, descriptorIndex := 869, attributes := #[] }] 49 2 #[] #[{ accessFlags := 26, nameIndex := 715, descriptorIndex := 716, attributes := #[] }, { accessFlags := 26, nameIndex := 719, descriptorIndex := 716, attributes := #[] }, { accessFlags := 4120, nameIndex := 445, descriptorIndex := 117, attributes := #[] }])
  fields := #[{ name := "MIN_ARRAY_SORT_GRAN", type := .int, accessFlags := 26, slot := 0, constantValue := 0 }, { name := "INSERTIONSORT_THRESHOLD", type := .int, accessFlags := 26, slot := 1, constantValue := 0 }, { name := "$assertionsDisabled", type := .boolean, accessFlags := 4120, slot := 2, constantValue := 0 }]
  methods := #[k9m0, k9m1]
  instanceTypes := #[]
  staticTypes := #[.int, .int, .boolean]
  resolved := Array.replicate 1029 none
  statics := none }

def pool10 : Array CpInfo := pool [(1, .class_ 2), (0, u "java/lang/Cloneable"), (0, .class_ 4), (0, u "java/lang/Object")] 2

/-- java/lang/Cloneable -/
def k10 : Class := { plain "java/lang/Cloneable" (some 0) with
  accessFlags := 1537
  interfaces := #[]
  cf := some (fileOf pool10 1 #[] #[] 1537 3 #[] #[])
  fields := #[]
  methods := #[]
  instanceTypes := #[]
  staticTypes := #[]
  resolved := Array.replicate 7 none
  statics := none }

/-- the primitive byte -/
def k11 : Class := { plain "byte" none with kind := .primitive 'B', accessFlags := 0x411 }
/-- [B -/
def k12 : Class := { plain "[B" (some 0) with kind := .array 11 .byte, interfaces := #[10, 3], accessFlags := 1041 }

/-- the primitive int -/
def k13 : Class := { plain "int" none with kind := .primitive 'I', accessFlags := 0x411 }
/-- [I -/
def k14 : Class := { plain "[I" (some 0) with kind := .array 13 .int, interfaces := #[10, 3], accessFlags := 1041 }

def heap : Heap := #[]
def classes : Array Class := #[k0, k1, k2, k3, k4, k5, k6, k7, k8, k9, k10, k11, k12, k13, k14]
def interned : List (Array UInt16 × Addr) := []
def slotsUsed : Nat := 0
def theMethod : MethodId := ⟨1, 4⟩
def args0 : Array Value := #[.int 3, .int 1, .int 2, .long 3]
def aboutOver (below : List Frame) : State where
  vm := { classes := classes, interned := interned.toArray }
  heap := heap
  slotsUsed := slotsUsed
  threads := #[{ frames := .invoking theMethod args0 :: below }]
def below0 : List Frame := [.native { method := ⟨0, 0⟩, args := #[] }]
def about1 : State := aboutOver below0
def p0 : Program := .bare "" "" ""
def e0 : Env := launch0.env 0 0 0
theorem w_frames : about1.frames = Frame.invoking theMethod args0 :: below0 := rfl
set_option maxRecDepth 65536 in
theorem w_args : argsFit about1.vm theMethod args0 = true := by decide +kernel
set_option maxRecDepth 65536 in
theorem w_heap : heapFits about1 = true := by decide +kernel
set_option maxRecDepth 65536 in
theorem w_runnable : about1.curStatus? = some .runnable := by decide +kernel
set_option maxRecDepth 65536 in
theorem w_alone : about1.alone = true := by decide +kernel
set_option maxRecDepth 65536 in
theorem w_named : about1.methodNamed? x = some theMethod := by decide +kernel
set_option maxRecDepth 65536 in
theorem w_hears : about1.hears theMethod below0 = true := by decide +kernel
set_option maxRecDepth 65536 in
theorem w_ripe : about1.ripe theMethod args0 below0 = true := by decide +kernel
theorem w_running : about1.status = .running := rfl
set_option maxRecDepth 65536 in
theorem w_room : about1.hasRoom e0.platform room_1 = true :=
  launch0.hasRoom_least _ room_1 (by decide +kernel) (by decide +kernel) (by decide +kernel) (by decide +kernel) (by decide +kernel) (by decide +kernel)
theorem allAtoms_all (ts : List Jvm.Cond) (a : Array Jvm.Value) (st : Jvm.State) : (allAtoms ts).before a st = ts.all (fun c => c.before a st) := by
  induction ts with
  | nil => rfl
  | cons c t ih =>
    show (Jvm.Cond.and c (allAtoms t)).before a st = _
    rw [Jvm.Cond.before_and, ih, List.all_cons]
def words1 : List Jvm.Cond := Jvm.Cond.code x code maxLocals ret :: tables_1
/-- a 'code' word, met by the world's own term for the bytes: nothing is compared byte by byte -/
theorem code_word {y : MethodName} {bytes : ByteArray} {mx : Nat} {rt : Option FieldType} {a : Array Value} {s : State} {m : MethodId} {meth : Method} {c : Code} (h1 : s.methodNamed? y = some m) (h2 : s.vm.method? m = some meth) (h3 : meth.code = some c) (h4 : c.code = bytes)
    (h5 : (c.maxLocals == mx && c.exceptionTable.isEmpty && decide (c.maxStack ≤ mostOperands) && decide (meth.sig.returnType = rt) && !meth.locks && decide (parseMethodDescriptor y.desc = some meth.sig)) = true) : (Jvm.Cond.code y bytes mx rt).before a s = true := by
  simp only [Bool.and_eq_true, beq_iff_eq, Bool.not_eq_true', decide_eq_true_eq] at h5
  obtain ⟨⟨⟨⟨⟨g1, g2⟩, g3⟩, g4⟩, g5⟩, g6⟩ := h5
  simp [Cond.before, Cond.holds, Cond.value, h1, h2, h3, h4, g1, g2, g3, g4, g5, g6]
def isCode : Jvm.Cond → Bool
  | .code _ _ _ _ => true
  | _ => false
theorem all_split {L : List Jvm.Cond} {P : Jvm.Cond → Bool} (h1 : L.all (fun c => isCode c || P c) = true) (h2 : ∀ c ∈ L.filter isCode, P c = true) : L.all P = true := by
  refine List.all_eq_true.mpr fun c hc => ?_
  have h := List.all_eq_true.mp h1 c hc
  rcases Bool.eq_false_or_eq_true (isCode c) with hi | hi
  · exact h2 c (List.mem_filter.mpr ⟨hc, hi⟩)
  · simpa [hi] using h
set_option maxRecDepth 65536 in
theorem w_c0 : (Jvm.Cond.code x code maxLocals ret).before args0 about1 = true := code_word (m := ⟨1, 4⟩) (meth := k1m4) (c := k1c4) (by decide +kernel) rfl rfl rfl (by decide +kernel)
set_option maxRecDepth 65536 in
theorem w_c1 : (Jvm.Cond.code ({ cls := "com/example/thorough_factfind/thoroughfactfind/foundation/db/EventDataPinLaw", name := "make", desc := "(IBBBB)[B" } : Jvm.MethodName) method_2_code (5 : Nat) (Option.some (Jvm.ClassFile.FieldType.array Jvm.ClassFile.FieldType.byte))).before args0 about1 = true := code_word (m := ⟨1, 1⟩) (meth := k1m1) (c := k1c1) (by decide +kernel) rfl rfl rfl (by decide +kernel)
set_option maxRecDepth 65536 in
theorem w_c2 : (Jvm.Cond.code ({ cls := "com/example/thorough_factfind/thoroughfactfind/foundation/db/Event", name := "<init>", desc := "(Ljava/lang/String;JLjava/lang/String;[B)V" } : Jvm.MethodName) prog_12_method_1_code (6 : Nat) (Option.none : Option Jvm.ClassFile.FieldType)).before args0 about1 = true := code_word (m := ⟨2, 0⟩) (meth := k2m0) (c := k2c0) (by decide +kernel) rfl rfl rfl (by decide +kernel)
set_option maxRecDepth 65536 in
theorem w_c3 : (Jvm.Cond.code ({ cls := "java/lang/Object", name := "<init>", desc := "()V" } : Jvm.MethodName) object_method_1_code (1 : Nat) (Option.none : Option Jvm.ClassFile.FieldType)).before args0 about1 = true := code_word (m := ⟨0, 0⟩) (meth := k0m0) (c := k0c0) (by decide +kernel) rfl rfl rfl (by decide +kernel)
set_option maxRecDepth 65536 in
theorem w_c4 : (Jvm.Cond.code ({ cls := "java/util/Arrays", name := "copyOf", desc := "([BI)[B" } : Jvm.MethodName) jdk_65_method_121_code (3 : Nat) (Option.some (Jvm.ClassFile.FieldType.array Jvm.ClassFile.FieldType.byte))).before args0 about1 = true := code_word (m := ⟨9, 1⟩) (meth := k9m1) (c := k9c1) (by decide +kernel) rfl rfl rfl (by decide +kernel)
set_option maxRecDepth 65536 in
theorem w_c5 : (Jvm.Cond.code ({ cls := "com/example/thorough_factfind/thoroughfactfind/foundation/db/EventDataPinLaw", name := "bump", desc := "([B)V" } : Jvm.MethodName) method_3_code (1 : Nat) (Option.none : Option Jvm.ClassFile.FieldType)).before args0 about1 = true := code_word (m := ⟨1, 2⟩) (meth := k1m2) (c := k1c2) (by decide +kernel) rfl rfl rfl (by decide +kernel)
set_option maxRecDepth 65536 in
theorem w_c6 : (Jvm.Cond.code ({ cls := "com/example/thorough_factfind/thoroughfactfind/foundation/db/Event", name := "data", desc := "()[B" } : Jvm.MethodName) prog_12_method_5_code (1 : Nat) (Option.some (Jvm.ClassFile.FieldType.array Jvm.ClassFile.FieldType.byte))).before args0 about1 = true := code_word (m := ⟨2, 1⟩) (meth := k2m1) (c := k2c1) (by decide +kernel) rfl rfl rfl (by decide +kernel)
set_option maxRecDepth 65536 in
theorem w_c7 : (Jvm.Cond.code ({ cls := "com/example/thorough_factfind/thoroughfactfind/foundation/db/EventDataPinLaw", name := "same", desc := "([BIBBBB)Z" } : Jvm.MethodName) method_4_code (6 : Nat) (Option.some Jvm.ClassFile.FieldType.boolean)).before args0 about1 = true := code_word (m := ⟨1, 3⟩) (meth := k1m3) (c := k1c3) (by decide +kernel) rfl rfl rfl (by decide +kernel)
def codes1 : List Jvm.Cond := [Jvm.Cond.code x code maxLocals ret, Jvm.Cond.code ({ cls := "com/example/thorough_factfind/thoroughfactfind/foundation/db/EventDataPinLaw", name := "make", desc := "(IBBBB)[B" } : Jvm.MethodName) method_2_code (5 : Nat) (Option.some (Jvm.ClassFile.FieldType.array Jvm.ClassFile.FieldType.byte)), Jvm.Cond.code ({ cls := "com/example/thorough_factfind/thoroughfactfind/foundation/db/Event", name := "<init>", desc := "(Ljava/lang/String;JLjava/lang/String;[B)V" } : Jvm.MethodName) prog_12_method_1_code (6 : Nat) (Option.none : Option Jvm.ClassFile.FieldType), Jvm.Cond.code ({ cls := "java/lang/Object", name := "<init>", desc := "()V" } : Jvm.MethodName) object_method_1_code (1 : Nat) (Option.none : Option Jvm.ClassFile.FieldType), Jvm.Cond.code ({ cls := "java/util/Arrays", name := "copyOf", desc := "([BI)[B" } : Jvm.MethodName) jdk_65_method_121_code (3 : Nat) (Option.some (Jvm.ClassFile.FieldType.array Jvm.ClassFile.FieldType.byte)), Jvm.Cond.code ({ cls := "com/example/thorough_factfind/thoroughfactfind/foundation/db/EventDataPinLaw", name := "bump", desc := "([B)V" } : Jvm.MethodName) method_3_code (1 : Nat) (Option.none : Option Jvm.ClassFile.FieldType), Jvm.Cond.code ({ cls := "com/example/thorough_factfind/thoroughfactfind/foundation/db/Event", name := "data", desc := "()[B" } : Jvm.MethodName) prog_12_method_5_code (1 : Nat) (Option.some (Jvm.ClassFile.FieldType.array Jvm.ClassFile.FieldType.byte)), Jvm.Cond.code ({ cls := "com/example/thorough_factfind/thoroughfactfind/foundation/db/EventDataPinLaw", name := "same", desc := "([BIBBBB)Z" } : Jvm.MethodName) method_4_code (6 : Nat) (Option.some Jvm.ClassFile.FieldType.boolean)]
set_option maxRecDepth 65536 in
theorem codes_eq : words1.filter isCode = codes1 := rfl
theorem w_codes : ∀ c ∈ words1.filter isCode, c.before args0 about1 = true := by
  rw [codes_eq]
  intro c hc
  simp only [codes1, List.mem_cons, List.not_mem_nil, or_false] at hc
  rcases hc with rfl | rfl | rfl | rfl | rfl | rfl | rfl | rfl
  · exact w_c0
  · exact w_c1
  · exact w_c2
  · exact w_c3
  · exact w_c4
  · exact w_c5
  · exact w_c6
  · exact w_c7
set_option maxRecDepth 65536 in
theorem w_t1 : (words1.take 24).all (fun c => isCode c || c.before args0 about1) = true := by decide +kernel
set_option maxRecDepth 65536 in
theorem w_t2 : ((words1.drop 24).take 24).all (fun c => isCode c || c.before args0 about1) = true := by decide +kernel
set_option maxRecDepth 65536 in
theorem w_t3 : ((words1.drop 24).drop 24).all (fun c => isCode c || c.before args0 about1) = true := by decide +kernel
theorem w_tables : (allAtoms (Jvm.Cond.code x code maxLocals ret :: tables_1)).before args0 about1 = true := by
  rw [allAtoms_all]
  show words1.all (fun c => c.before args0 about1) = true
  refine all_split ?_ w_codes
  rw [← List.take_append_drop 24 words1, List.all_append, w_t1, ← List.take_append_drop 24 (words1.drop 24), List.all_append, w_t2, w_t3]
  rfl
set_option maxRecDepth 65536 in
theorem w_case : (Jvm.Cond.and given_1 narrow_1).before args0 about1 = true := by decide +kernel
theorem w_applies : (headSpec (Jvm.Cond.code x code maxLocals ret :: tables_1) room_1).applies x e0.platform about1 = true :=
  (Spec.applies_iff w_frames).mpr ⟨w_running, w_runnable, w_alone, w_named, w_hears, w_ripe, w_room, w_tables⟩
theorem atStart : AtStart classFile x code maxLocals ret World_1 tables_1 room_1 Calls_1 rest_1 Pre_1 launch0 p0 e0 about1 theMethod args0 below0 :=
  ⟨lists_1, trivial, launch0.admits_env _ _ _, launch0.least_env, fairChoices_fair.cas, fairChoices_fair.clock, w_frames, w_args, w_heap, w_applies, trivial, trivial, w_case⟩
end start1
theorem witness_1 : WitnessClaimed_1 := ⟨start1.p0, start1.e0, start1.about1, start1.theMethod, start1.args0, start1.below0, start1.atStart⟩
end Jvm.Pilot.@@N@@
