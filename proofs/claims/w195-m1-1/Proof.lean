import JvmDerived
import JvmDerived.Pilot.@@N@@Statement
import JvmDerived.Pilot.@@N@@Code
set_option linter.unusedVariables false
set_option linter.unusedSimpArgs false
namespace Jvm.RoadKit
open Sem ClassFile Op Lib Jvm.Stand Jvm.Free Jvm.LawKit
section Own
variable {p : Program} {l : Launch} {e : Env} {R : Room} {s : State} {m : MethodId} {args : Array Value} {below : List Frame} {meth : Method} {c : Code} {T T' : State} {locs : List Loc} {cells slots rc rs : Nat} {Q : Option Value → Heap → List Loc → Prop} {g g' : JFrame}
/-- from the state T with the top frame g the run ends in a return of which Q is true -/
def OwnGo (p : Program) (e : Env) (below : List Frame) (s : State) (rc rs : Nat) (Q : Option Value → Heap → List Loc → Prop) (T : State) (g : JFrame) : Prop :=
  ∃ (U : State) (o : Outcome), Steps p.tables e below (T.setTop g) U ∧ U.status = .running ∧ Ended U below o ∧ ∃ v L, o = .returned v ∧ Q v U.heap L ∧ FrameEnd s o U L rc rs
theorem OwnGo.st (k : ∀ target, Steps p.tables e below (T'.setTop g') target → Steps p.tables e below (T.setTop g) target) (h : OwnGo p e below s rc rs Q T' g') : OwnGo p e below s rc rs Q T g := by
  obtain ⟨U, o, h1, h2⟩ := h
  exact ⟨U, o, k _ h1, h2⟩
theorem OwnGo.cast (q : g = g') (h : OwnGo p e below s rc rs Q T g') : OwnGo p e below s rc rs Q T g := q ▸ h
theorem OwnGo.ret (X : Stand p l e R s m args below meth c T locs cells slots) (hx : p.tables.exec = Jvm.exec) {pc : Nat} {Ls : Array Slot} {w : Value} {t : FieldType} {i : Instr} {rest : List Value} (hret : meth.sig.returnType = some t) (hlk : meth.locks = false) (hn : narrow t w = w)
    (hi : (i = .ireturn ∧ (t = .int ∨ t = .boolean ∨ t = .byte ∨ t = .char ∨ t = .short) ∧ ∃ z, w = .int z) ∨ (i = .lreturn ∧ t = .long ∧ ∃ z, w = .long z) ∨ (i = .dreturn ∧ t = .double ∧ ∃ z, w = .double z) ∨ (i = .freturn ∧ t = .float ∧ ∃ z, w = .float z) ∨ (i = .areturn ∧ t.isReference = true ∧ w.isRef = true))
    (hd : decode c.code pc = .ok (i, 1)) (hQ : Q (some w) T.heap locs) (hc : cells ≤ rc) (hs : slots ≤ rs) : OwnGo p e below s rc rs Q T (mkF m pc Ls (w :: rest)) := by
  obtain ⟨fs, hr, hrun, hended, hW, hsame⟩ := X.leave (v := some w) (fun h => by rw [hret] at h; cases h) hlk
  exact ⟨_, _, retOut X hx hret hn hi hd hr, hrun, hended, _, _, rfl, hQ, ⟨_, rfl⟩, hW, hsame.mono hc hs⟩
theorem OwnGo.retN (X : Stand p l e R s m args below meth c T locs cells slots) (hx : p.tables.exec = Jvm.exec) {pc : Nat} {Ls : Array Slot} {z : Int32} {t : FieldType} {rest : List Value} (hret : meth.sig.returnType = some t) (hlk : meth.locks = false) (ht : t = .boolean ∨ t = .byte ∨ t = .char ∨ t = .short)
    (hd : decode c.code pc = .ok (.ireturn, 1)) (hQ : Q (some (.int (nar t z))) T.heap locs) (hc : cells ≤ rc) (hs : slots ≤ rs) : OwnGo p e below s rc rs Q T (mkF m pc Ls (.int z :: rest)) := by
  obtain ⟨fs, hr, hrun, hended, hW, hsame⟩ := X.leave (v := some (.int (nar t z))) (fun h => by rw [hret] at h; cases h) hlk
  exact ⟨_, _, Jvm.RoadKit.retN X hx hret ht hd hr, hrun, hended, _, _, rfl, hQ, ⟨_, rfl⟩, hW, hsame.mono hc hs⟩
theorem OwnGo.retV (X : Stand p l e R s m args below meth c T locs cells slots) (hx : p.tables.exec = Jvm.exec) {pc : Nat} {Ls : Array Slot} (hret : meth.sig.returnType = none) (hlk : meth.locks = false)
    (hd : decode c.code pc = .ok (.return_, 1)) (hQ : Q none T.heap locs) (hc : cells ≤ rc) (hs : slots ≤ rs) : OwnGo p e below s rc rs Q T (mkF m pc Ls []) := by
  obtain ⟨fs, hr, hrun, hended, hW, hsame⟩ := X.leave (v := none) (fun _ => rfl) hlk
  exact ⟨_, _, X.returnOut hx hret hd hr, hrun, hended, _, _, rfl, hQ, ⟨_, rfl⟩, hW, hsame.mono hc hs⟩
theorem own_met {y : MethodName} {bytes : ByteArray} {maxL : Nat} {ret : Option FieldType} {ws : List Jvm.Cond} {rm : Room} {Z : State} {as' : Array Value} {h0 : Heap} (hp : plainFor y = true)
    (body : ∀ (p : Program) (e : Env) (s : State) (m : MethodId) (below : List Frame) (meth : Method) (c : Code) (s₁ : State), Stand p l e rm s m as' below meth c s₁ [] 0 0 → p.tables.exec = Jvm.exec → c.code = bytes → c.maxLocals = maxL → meth.sig.returnType = ret → meth.locks = false → s.vm.findClass y.cls = some m.cls → meth.name = y.name → Z.Warmed39 s.vm → s₁.heap = h0 →
      OwnGo p e below s rm.cells rm.slots Q s₁ (entryFrame m as' maxL)) :
    MetFree l y (head1 (Jvm.Cond.code y bytes maxL ret :: ws) rm) (fun a U => a = as' ∧ Z.Warmed39 U.vm ∧ U.heap = h0) (fun _ _ _ _ _ => True) (fun _ U o U' => ∃ v L, o = .returned v ∧ Q v U'.heap L ∧ FrameEnd U o U' L rm.cells rm.slots) := by
  refine MetFree.of_bodySF hp hisR ?_
  intro p e s m args below meth c s₁ Bd hml0 hP hK
  obtain ⟨rfl, hZ, hh⟩ := hP
  exact body p e s m below meth c s₁ (Stand.of_body Bd) Bd.exec Bd.bytes hml0 Bd.returns Bd.notSynchronized (findClass_of_methodNamed Bd.named) (name_of_methodNamed Bd.named Bd.method).1 hZ (by rw [← hh, Bd.state]; rfl)
theorem own_len {Z : State} {h : Heap} {a : Addr} {cl : Cell} {ty : FieldType} {z : Int32} (hZ : Z.Warmed39 s.vm) (q : cl.slots.size.toInt32 = z) (A : Arr Z h a cl ty) (X : Stand p l e R s m args below meth c T locs cells slots) (eT : T.heap = h) (hx : p.tables.exec = Jvm.exec) {rest : List Value}
    (hg : g.method = m) (hst : g.stack = .ref a :: rest) (hd : decode c.code g.pc = .ok (.arraylength, 1)) (target : State) (k : Steps p.tables e below (T.setTop { g with pc := g.pc + 1, stack := .int z :: rest }) target) : Steps p.tables e below (T.setTop g) target := by
  refine X.arraylength hx (by rw [eT]; exact A.1) (State.isArrayOf_alike hZ.alike A.2.1) hg hst hd _ ?_
  rw [q]; exact k
theorem own_eqi {args : Array Value} {first U : State} {o : Option Outcome} {idx : List Nat} {a : Term} {k : Int32} (h : (Jvm.Cond.eq a (.int k)).value args first o U idx = some true) : a.eval args first o idx U = some (.int k) := Cond.eq_int (b := .int k) (by simp only [Cond.holds, h]; rfl) rfl
theorem own_eqv {args : Array Value} {first U : State} {o : Option Outcome} {idx : List Nat} {a b : Term} {v : Value} (h : (Jvm.Cond.eq a b).value args first o U idx = some true) (hb : b.eval args first o idx U = some v) (hv : v.isRef = true) : a.eval args first o idx U = some v := by
  obtain ⟨x, y, h1, h2, k1, k2⟩ := cmp_v (Or.inl h)
  cases h2.symm.trans hb
  have hx : x.isRef = true := by cases x <;> cases v <;> simp [Kin, Value.isRef] at k1 k2 hv ⊢
  rw [h1, gotT (eq_R h1 h2 hx hv) h]
theorem own_lenv {Z : State} {args : Array Value} {t : Term} {a : Addr} {cl : Cell} {ty : FieldType} {z : Int32} (ev : t.eval args Z none [] Z = some (.ref a)) (A : Arr Z Z.heap a cl ty) (h : (Jvm.Cond.eq (.length t) (.int z)).value args Z none Z [] = some true) : cl.slots.size < 2 ^ 31 ∧ cl.slots.size.toInt32 = z := by
  have e := own_eqi h
  have hA := A.fin (Vm.Alike.refl _)
  refine ⟨SBG.length_lt ev hA e, ?_⟩
  obtain ⟨a', c', e1, e2, e3⟩ := Term.length_spec e
  cases ev.symm.trans e1
  cases hA.symm.trans e2
  exact (Value.int.inj e3).symm
theorem own_elem {Z : State} {args : Array Value} {t : Term} {a : Addr} {cl : Cell} {ty : FieldType} {k : Int32} {v : Value} (ev : t.eval args Z none [] Z = some (.ref a)) (A : Arr Z Z.heap a cl ty) (h : (Term.elem t (.int k)).eval args Z none [] Z = some v) : cl.slots[k.toNatClampNeg]? = some v := (elem_in h ev rfl A.1).2
theorem own_narR {w : Value} {t : FieldType} (h : w.isRef = true) (ht : t.isReference = true) : narrow t w = w := by
  cases w <;> simp [Value.isRef] at h <;> cases t <;> simp [FieldType.isReference] at ht <;> rfl
theorem own_cat {w : Value} (h : w.isRef = true) : w.category = 1 := by cases w <;> simp [Value.isRef] at h <;> rfl
/-- an array of n places, whatever they hold -/
def OwnArr (Z : State) (h : Heap) (a : Addr) (ty : FieldType) (n : Nat) : Prop := ∃ cl : Cell, Arr Z h a cl ty ∧ cl.slots.size = n
theorem OwnArr.lt {Z : State} {h : Heap} {a : Addr} {ty : FieldType} {n : Nat} (F : OwnArr Z h a ty n) : a < h.size := by obtain ⟨_, A, -⟩ := F; exact A.lt
theorem OwnArr.ext {Z : State} {h h' : Heap} {a : Addr} {ty : FieldType} {n : Nat} (F : OwnArr Z h a ty n) (E : Ext h h') : OwnArr Z h' a ty n := by obtain ⟨c, A, S⟩ := F; exact ⟨c, A.ext E, S⟩
theorem OwnArr.keep {Z : State} {h h' : Heap} {a : Addr} {ty : FieldType} {n : Nat} {ws : List Addr} (F : OwnArr Z h a ty n) (K : Keep h h' ws) : OwnArr Z h' a ty n := by
  obtain ⟨c, ⟨A1, ⟨q1, q2⟩, A3⟩, S⟩ := F
  obtain ⟨c', e1, e2, e3, e4⟩ := K.2.2 _ _ A1
  exact ⟨c', ⟨e1, ⟨by rw [e3]; exact q1, by rw [e2]; exact q2⟩, by rw [e3]; exact A3⟩, e4.trans S⟩
theorem OwnArr.wr {Z : State} {h h' : Heap} {a b : Addr} {ty : FieldType} {n sl : Nat} {v : Value} (F : OwnArr Z h a ty n) (W : Wr h h' b sl v) : OwnArr Z h' a ty n := F.keep (Keep.of_wr W)
theorem OwnArr.of {Z : State} {h : Heap} {a : Addr} {k : ClassId} {ty : FieldType} {z : Int32} {vs : List Value} {d : Value} (F : Arv Z h a k ty z vs d) : OwnArr Z h a ty z.toNatClampNeg := by obtain ⟨c, A, -, S, -⟩ := F; exact ⟨c, A, S⟩
theorem own_nb (x : Int32) : nar .byte x.toInt8.toInt32 = x.toInt8.toInt32 := by
  show (x.toInt8.toInt32).toInt8.toInt32 = _
  rw [Int8.toInt8_toInt32]
end Own
end Jvm.RoadKit
namespace Jvm.RoadKit
open Sem ClassFile Op Lib Jvm.Stand Jvm.Free Jvm.LawKit
section OwnW
variable {p : Program} {l : Launch} {e : Env} {R : Room} {s : State} {vm0 : Vm} {m : MethodId} {args : Array Value} {below : List Frame} {meth : Method} {c : Code} {T T' Z : State} {locs : List Loc} {cells slots rc rs k0 : Nat} {Q : Option Value → Heap → List Loc → Prop} {g g' : JFrame} {EL : List (String × Nat)} {a0 : Array Value} {h0 h : Heap}
/-- the same, where String constants may be loaded: the wide frame, and the booked constants' invariant -/
def OwnGoW (p : Program) (e : Env) (below : List Frame) (s Z : State) (EL : List (String × Nat)) (rc rs : Nat) (Q : Option Value → Heap → List Loc → Prop) (T : State) (g : JFrame) : Prop :=
  ∃ (U : State) (o : Outcome), Steps p.tables e below (T.setTop g) U ∧ U.status = .running ∧ Ended U below o ∧ ∃ v L, o = .returned v ∧ Q v U.heap L ∧ CHr Z EL s.vm s.heap U.vm U.heap ∧ ReturnedEndW s o U L rc rs
theorem OwnGoW.st (k : ∀ target, Steps p.tables e below (T'.setTop g') target → Steps p.tables e below (T.setTop g) target) (h : OwnGoW p e below s Z EL rc rs Q T' g') : OwnGoW p e below s Z EL rc rs Q T g := by
  obtain ⟨U, o, h1, h2⟩ := h
  exact ⟨U, o, k _ h1, h2⟩
theorem OwnGoW.cast (q : g = g') (h : OwnGoW p e below s Z EL rc rs Q T g') : OwnGoW p e below s Z EL rc rs Q T g := q ▸ h
theorem OwnGoW.ret (X : Stand p l e R (s.setVm vm0) m args below meth c T locs cells slots) (hS : s.Since vm0 k0) (hk : k0 ≤ h.size) (eT : T.heap = h) (hZ : Z.Warmed39 (s.setVm vm0).vm) (hEL : EW Z a0 EL) (CR : CHr Z EL s.vm s.heap vm0 h) (hx : p.tables.exec = Jvm.exec) {pc : Nat} {Ls : Array Slot} {w : Value} {t : FieldType} {i : Instr} {rest : List Value} (hret : meth.sig.returnType = some t) (hlk : meth.locks = false) (hn : narrow t w = w)
    (hi : (i = .ireturn ∧ (t = .int ∨ t = .boolean ∨ t = .byte ∨ t = .char ∨ t = .short) ∧ ∃ z, w = .int z) ∨ (i = .lreturn ∧ t = .long ∧ ∃ z, w = .long z) ∨ (i = .dreturn ∧ t = .double ∧ ∃ z, w = .double z) ∨ (i = .freturn ∧ t = .float ∧ ∃ z, w = .float z) ∨ (i = .areturn ∧ t.isReference = true ∧ w.isRef = true))
    (hd : decode c.code pc = .ok (i, 1)) (hQ : Q (some w) T.heap locs) (hc : cells ≤ rc) (hs : slots ≤ rs) : OwnGoW p e below s Z EL rc rs Q T (mkF m pc Ls (w :: rest)) := by
  subst eT
  have CX : CHr Z EL vm0 T.heap T.vm T.heap := CHv.at X hZ hEL CR.1
  obtain ⟨fs, hr, hrun, hended, e1, e2, e3, e4⟩ := X.leaveW (v := some w) hS hk (fun h => by rw [hret] at h; cases h) hlk
  exact ⟨_, _, retOut X hx hret hn hi hd hr, hrun, hended, _, _, rfl, hQ, CR.trans CX, e1, e2, e3, e4.mono hc hs⟩
theorem OwnGoW.retN (X : Stand p l e R (s.setVm vm0) m args below meth c T locs cells slots) (hS : s.Since vm0 k0) (hk : k0 ≤ h.size) (eT : T.heap = h) (hZ : Z.Warmed39 (s.setVm vm0).vm) (hEL : EW Z a0 EL) (CR : CHr Z EL s.vm s.heap vm0 h) (hx : p.tables.exec = Jvm.exec) {pc : Nat} {Ls : Array Slot} {z : Int32} {t : FieldType} {rest : List Value} (hret : meth.sig.returnType = some t) (hlk : meth.locks = false) (ht : t = .boolean ∨ t = .byte ∨ t = .char ∨ t = .short)
    (hd : decode c.code pc = .ok (.ireturn, 1)) (hQ : Q (some (.int (nar t z))) T.heap locs) (hc : cells ≤ rc) (hs : slots ≤ rs) : OwnGoW p e below s Z EL rc rs Q T (mkF m pc Ls (.int z :: rest)) := by
  subst eT
  have CX : CHr Z EL vm0 T.heap T.vm T.heap := CHv.at X hZ hEL CR.1
  obtain ⟨fs, hr, hrun, hended, e1, e2, e3, e4⟩ := X.leaveW (v := some (.int (nar t z))) hS hk (fun h => by rw [hret] at h; cases h) hlk
  exact ⟨_, _, Jvm.RoadKit.retN X hx hret ht hd hr, hrun, hended, _, _, rfl, hQ, CR.trans CX, e1, e2, e3, e4.mono hc hs⟩
theorem OwnGoW.retV (X : Stand p l e R (s.setVm vm0) m args below meth c T locs cells slots) (hS : s.Since vm0 k0) (hk : k0 ≤ h.size) (eT : T.heap = h) (hZ : Z.Warmed39 (s.setVm vm0).vm) (hEL : EW Z a0 EL) (CR : CHr Z EL s.vm s.heap vm0 h) (hx : p.tables.exec = Jvm.exec) {pc : Nat} {Ls : Array Slot} (hret : meth.sig.returnType = none) (hlk : meth.locks = false)
    (hd : decode c.code pc = .ok (.return_, 1)) (hQ : Q none T.heap locs) (hc : cells ≤ rc) (hs : slots ≤ rs) : OwnGoW p e below s Z EL rc rs Q T (mkF m pc Ls []) := by
  subst eT
  have CX : CHr Z EL vm0 T.heap T.vm T.heap := CHv.at X hZ hEL CR.1
  obtain ⟨fs, hr, hrun, hended, e1, e2, e3, e4⟩ := X.leaveW (v := none) hS hk (fun _ => rfl) hlk
  exact ⟨_, _, X.returnOut hx hret hd hr, hrun, hended, _, _, rfl, hQ, CR.trans CX, e1, e2, e3, e4.mono hc hs⟩
theorem own_metW {y : MethodName} {bytes : ByteArray} {maxL : Nat} {ret : Option FieldType} {ws : List Jvm.Cond} {rm : Room} {as' : Array Value} (hp : plainFor y = true)
    (body : ∀ (p : Program) (e : Env) (s : State) (m : MethodId) (below : List Frame) (meth : Method) (c : Code) (s₁ : State), Stand p l e rm (s.setVm s.vm) m as' below meth c s₁ [] 0 0 → p.tables.exec = Jvm.exec → c.code = bytes → c.maxLocals = maxL → meth.sig.returnType = ret → meth.locks = false → (s.setVm s.vm).vm.findClass y.cls = some m.cls → meth.name = y.name → Z.Warmed39 (s.setVm s.vm).vm → s₁.heap = h0 →
      s.Since s.vm h0.size → CHr Z EL s.vm s.heap s.vm h0 → OwnGoW p e below s Z EL rm.cells rm.slots Q s₁ (entryFrame m as' maxL)) :
    MetFree l y (head1 (Jvm.Cond.code y bytes maxL ret :: ws) rm) (fun a U => a = as' ∧ Z.Warmed39 U.vm ∧ U.heap = h0 ∧ CHv Z EL U.vm h0) (fun _ _ _ _ _ => True) (fun _ U o U' => ∃ v L, o = .returned v ∧ Q v U'.heap L ∧ CHr Z EL U.vm U.heap U'.vm U'.heap ∧ ReturnedEndW U o U' L rm.cells rm.slots) := by
  refine MetFree.of_bodySF hp hisR ?_
  intro p e s m args below meth c s₁ Bd hml0 hP hK
  obtain ⟨rfl, hZ, hh, hC⟩ := hP
  subst hh
  exact body p e s m below meth c s₁ (Stand.of_body Bd) Bd.exec Bd.bytes hml0 Bd.returns Bd.notSynchronized (findClass_of_methodNamed Bd.named) (name_of_methodNamed Bd.named Bd.method).1 hZ (by rw [Bd.state]; rfl) ((State.WarmedH.refl s).since _) (CHr.refl hC)
end OwnW
end Jvm.RoadKit
namespace Jvm.Pilot.@@N@@
open Jvm Jvm.ClassFile Sem Op Lib Jvm.Free Jvm.Stand Jvm.LawKit Jvm.RoadKit Bundle Jvm.Pilot.@@N@@.Jvm.D
def own_EL : List (String × Nat) := [("com/example/tightrope/tightrope/OptimalityOfPinLaw", 27), ("com/example/tightrope/tightrope/OptimalityOfPinLaw", 35)]
theorem own_sAt : ∀ a ∈ Bundle.stringAtoms, a ∈ tables_1 := by decide +kernel
theorem own_wS {Z : State} {a0 : Array Value} (hw : ∀ d ∈ tables_1, d.before a0 Z = true) : ∀ a ∈ Bundle.stringAtoms, a.before a0 Z = true := fun a ha => hw a (own_sAt a ha)
theorem own_hEL {Z : State} {a0 : Array Value} (hw : ∀ d ∈ tables_1, d.before a0 Z = true) : EW Z a0 own_EL := (EW.cons (hw _ (List.mem_of_getElem? (i := 41) rfl)) (by decide) (EW.cons (hw _ (List.mem_of_getElem? (i := 18) rfl)) (by decide) EW.nil))
theorem d1_0 : decode prog_3_method_4_code 0 = .ok (.iload_n 0, 1) := by decide +kernel
theorem d1_1 : decode prog_3_method_4_code 1 = .ok (.ifCond .eq 9, 3) := by decide +kernel
theorem d1_4 : decode prog_3_method_4_code 4 = .ok (.getstatic 3, 3) := by decide +kernel
theorem d1_7 : decode prog_3_method_4_code 7 = .ok (.goto 6, 3) := by decide +kernel
theorem d1_10 : decode prog_3_method_4_code 10 = .ok (.getstatic 7, 3) := by decide +kernel
theorem d1_13 : decode prog_3_method_4_code 13 = .ok (.areturn, 1) := by decide +kernel
theorem d2_0 : decode prog_3_method_5_code 0 = .ok (.aload_n 0, 1) := by decide +kernel
theorem d2_1 : decode prog_3_method_5_code 1 = .ok (.getfield 32, 3) := by decide +kernel
theorem d2_4 : decode prog_3_method_5_code 4 = .ok (.areturn, 1) := by decide +kernel
theorem d3_0 : decode jdk_42_method_66_code 0 = .ok (.aload_n 0, 1) := by decide +kernel
theorem d3_1 : decode jdk_42_method_66_code 1 = .ok (.aload_n 1, 1) := by decide +kernel
theorem d3_2 : decode jdk_42_method_66_code 2 = .ok (.if_acmp .ne 5, 3) := by decide +kernel
theorem d3_5 : decode jdk_42_method_66_code 5 = .ok (.iconst 1, 1) := by decide +kernel
theorem d3_6 : decode jdk_42_method_66_code 6 = .ok (.ireturn, 1) := by decide +kernel
theorem d3_7 : decode jdk_42_method_66_code 7 = .ok (.aload_n 1, 1) := by decide +kernel
theorem d3_8 : decode jdk_42_method_66_code 8 = .ok (.instanceof 10, 3) := by decide +kernel
theorem d3_11 : decode jdk_42_method_66_code 11 = .ok (.ifCond .eq 43, 3) := by decide +kernel
theorem d3_14 : decode jdk_42_method_66_code 14 = .ok (.aload_n 1, 1) := by decide +kernel
theorem d3_15 : decode jdk_42_method_66_code 15 = .ok (.checkcast 10, 3) := by decide +kernel
theorem d3_18 : decode jdk_42_method_66_code 18 = .ok (.astore_n 2, 1) := by decide +kernel
theorem d3_19 : decode jdk_42_method_66_code 19 = .ok (.getstatic 38, 3) := by decide +kernel
theorem d3_22 : decode jdk_42_method_66_code 22 = .ok (.ifCond .eq 14, 3) := by decide +kernel
theorem d3_25 : decode jdk_42_method_66_code 25 = .ok (.aload_n 0, 1) := by decide +kernel
theorem d3_26 : decode jdk_42_method_66_code 26 = .ok (.getfield 15, 3) := by decide +kernel
theorem d3_29 : decode jdk_42_method_66_code 29 = .ok (.aload_n 2, 1) := by decide +kernel
theorem d3_30 : decode jdk_42_method_66_code 30 = .ok (.getfield 15, 3) := by decide +kernel
theorem d3_33 : decode jdk_42_method_66_code 33 = .ok (.if_icmp .ne 21, 3) := by decide +kernel
theorem d3_36 : decode jdk_42_method_66_code 36 = .ok (.aload_n 0, 1) := by decide +kernel
theorem d3_37 : decode jdk_42_method_66_code 37 = .ok (.getfield 9, 3) := by decide +kernel
theorem d3_40 : decode jdk_42_method_66_code 40 = .ok (.aload_n 2, 1) := by decide +kernel
theorem d3_41 : decode jdk_42_method_66_code 41 = .ok (.getfield 9, 3) := by decide +kernel
theorem d3_44 : decode jdk_42_method_66_code 44 = .ok (.invokestatic 541, 3) := by decide +kernel
theorem d3_47 : decode jdk_42_method_66_code 47 = .ok (.ifCond .eq 7, 3) := by decide +kernel
theorem d3_50 : decode jdk_42_method_66_code 50 = .ok (.iconst 1, 1) := by decide +kernel
theorem d3_51 : decode jdk_42_method_66_code 51 = .ok (.goto 4, 3) := by decide +kernel
theorem d3_55 : decode jdk_42_method_66_code 55 = .ok (.ireturn, 1) := by decide +kernel
theorem d4_0 : decode jdk_43_method_13_code 0 = .ok (.aload_n 0, 1) := by decide +kernel
theorem d4_1 : decode jdk_43_method_13_code 1 = .ok (.arraylength, 1) := by decide +kernel
theorem d4_2 : decode jdk_43_method_13_code 2 = .ok (.aload_n 1, 1) := by decide +kernel
theorem d4_3 : decode jdk_43_method_13_code 3 = .ok (.arraylength, 1) := by decide +kernel
theorem d4_4 : decode jdk_43_method_13_code 4 = .ok (.if_icmp .ne 30, 3) := by decide +kernel
theorem d4_7 : decode jdk_43_method_13_code 7 = .ok (.iconst 0, 1) := by decide +kernel
theorem d4_8 : decode jdk_43_method_13_code 8 = .ok (.istore_n 2, 1) := by decide +kernel
theorem d4_9 : decode jdk_43_method_13_code 9 = .ok (.iload_n 2, 1) := by decide +kernel
theorem d4_10 : decode jdk_43_method_13_code 10 = .ok (.aload_n 0, 1) := by decide +kernel
theorem d4_11 : decode jdk_43_method_13_code 11 = .ok (.arraylength, 1) := by decide +kernel
theorem d4_12 : decode jdk_43_method_13_code 12 = .ok (.if_icmp .ge 20, 3) := by decide +kernel
theorem d4_15 : decode jdk_43_method_13_code 15 = .ok (.aload_n 0, 1) := by decide +kernel
theorem d4_16 : decode jdk_43_method_13_code 16 = .ok (.iload_n 2, 1) := by decide +kernel
theorem d4_17 : decode jdk_43_method_13_code 17 = .ok (.baload, 1) := by decide +kernel
theorem d4_18 : decode jdk_43_method_13_code 18 = .ok (.aload_n 1, 1) := by decide +kernel
theorem d4_19 : decode jdk_43_method_13_code 19 = .ok (.iload_n 2, 1) := by decide +kernel
theorem d4_20 : decode jdk_43_method_13_code 20 = .ok (.baload, 1) := by decide +kernel
theorem d4_21 : decode jdk_43_method_13_code 21 = .ok (.if_icmp .eq 5, 3) := by decide +kernel
theorem d4_26 : decode jdk_43_method_13_code 26 = .ok (.iinc 2 1, 3) := by decide +kernel
theorem d4_29 : decode jdk_43_method_13_code 29 = .ok (.goto (-20), 3) := by decide +kernel
theorem d4_32 : decode jdk_43_method_13_code 32 = .ok (.iconst 1, 1) := by decide +kernel
theorem d4_33 : decode jdk_43_method_13_code 33 = .ok (.ireturn, 1) := by decide +kernel
theorem pd_0 : parseMethodDescriptor "([B[B)Z" = some ⟨[(.array .byte), (.array .byte)], some .boolean⟩ := by decide +kernel
theorem pd_1 : parseMethodDescriptor "(Z)Lcom/example/tightrope/tightrope/Optimality;" = some ⟨[.boolean], some (.object "com/example/tightrope/tightrope/Optimality")⟩ := by decide +kernel
theorem pd_2 : parseMethodDescriptor "()Ljava/lang/String;" = some ⟨[], some (.object "java/lang/String")⟩ := by decide +kernel
theorem pd_3 : parseMethodDescriptor "(Ljava/lang/Object;)Z" = some ⟨[(.object "java/lang/Object")], some .boolean⟩ := by decide +kernel
theorem pn_1 : plainName "com/example/tightrope/tightrope/Optimality" = true := by first | (simp [plainName, overriddenIn]; done) | decide +kernel
theorem pn_4 : plainName "java/lang/StringLatin1" = true := by first | (simp [plainName, overriddenIn]; done) | decide +kernel
theorem pn_3 : plainName "java/lang/String" = true := by first | (simp [plainName, overriddenIn]; done) | decide +kernel
theorem pn_0 : plainName "com/example/tightrope/tightrope/OptimalityOfPinLaw" = true := by first | (simp [plainName, overriddenIn]; done) | decide +kernel
theorem ef_of1 (m : MethodId) (x0 : Int32) : entryFrame m #[(.int x0)] 1 = mkF m 0 #[.val (.int x0)] [] := by first | (simp [entryFrame, mkF, argsToLocals, Value.category]; done) | rfl
theorem ef_of0 (m : MethodId) (x0 : Int32) : entryFrame m #[(.int x0)] 1 = mkF m 0 #[.val (.int x0)] [] := by first | (simp [entryFrame, mkF, argsToLocals, Value.category]; done) | rfl
theorem ef_2 (m : MethodId) (x0 : Addr) : entryFrame m #[(.ref x0)] 1 = mkF m 0 #[.val (.ref x0)] [] := by first | (simp [entryFrame, mkF, argsToLocals, Value.category]; done) | rfl
theorem ef_le_yes (m : MethodId) (x0 : Addr) (x1 : Addr) : entryFrame m #[(.ref x0), (.ref x1)] 3 = mkF m 0 #[.val (.ref x0), .val (.ref x1), .unset] [] := by first | (simp [entryFrame, mkF, argsToLocals, Value.category]; done) | rfl
theorem ef_se_yes (m : MethodId) (x0 : Addr) (x1 : Addr) : entryFrame m #[(.ref x0), (.ref x1)] 3 = mkF m 0 #[.val (.ref x0), .val (.ref x1), .unset] [] := by first | (simp [entryFrame, mkF, argsToLocals, Value.category]; done) | rfl
theorem ef_le_no (m : MethodId) (x0 : Addr) (x1 : Addr) : entryFrame m #[(.ref x0), (.ref x1)] 3 = mkF m 0 #[.val (.ref x0), .val (.ref x1), .unset] [] := by first | (simp [entryFrame, mkF, argsToLocals, Value.category]; done) | rfl
theorem ef_se_no (m : MethodId) (x0 : Addr) (x1 : Addr) : entryFrame m #[(.ref x0), (.ref x1)] 3 = mkF m 0 #[.val (.ref x0), .val (.ref x1), .unset] [] := by first | (simp [entryFrame, mkF, argsToLocals, Value.category]; done) | rfl
theorem ef_0 (m : MethodId) (x0 : Int32) : entryFrame m #[(.int x0)] maxLocals = mkF m 0 #[.val (.int x0), .unset, .unset, .unset] [] := by first | (simp [entryFrame, mkF, argsToLocals, Value.category, maxLocals]; done) | rfl
def Qof1 (Z : State) (u_Optimality_NO : Addr) (u_Optimality_NOT_APPLICABLE : Addr) (u_Optimality_YES : Addr) (u_Optimality_NO_text : Addr) (u_Optimality_NO_text_value : Addr) (u_Optimality_YES_text : Addr) (u_Optimality_YES_text_value : Addr) (u_Optimality_NOT_APPLICABLE_text : Addr) (u_Optimality_NOT_APPLICABLE_text_value : Addr) (kc_u_Optimality_NO_text_value : ClassId) (kc_u_Optimality_YES_text_value : ClassId) (kc_u_Optimality_NOT_APPLICABLE_text_value : ClassId) (zc : Int32) (h0 : Heap) (n0 : Nat) (v : Option Value) (h : Heap) (L : List Loc) : Prop := v = some (.ref u_Optimality_YES) ∧ Fr n0 L ∧ h = h0
set_option maxRecDepth 65536 in
set_option maxHeartbeats 40000000 in
theorem rmof1 (l : Launch) (Z : State) (a0 : Array Value) (hw : ∀ d ∈ tables_1, d.before a0 Z = true) (ws : List Jvm.Cond) (u_Optimality_NO : Addr) (u_Optimality_NOT_APPLICABLE : Addr) (u_Optimality_YES : Addr) (u_Optimality_NO_text : Addr) (u_Optimality_NO_text_value : Addr) (u_Optimality_YES_text : Addr) (u_Optimality_YES_text_value : Addr) (u_Optimality_NOT_APPLICABLE_text : Addr) (u_Optimality_NOT_APPLICABLE_text_value : Addr) (kc_u_Optimality_NO_text_value : ClassId) (kc_u_Optimality_YES_text_value : ClassId) (kc_u_Optimality_NOT_APPLICABLE_text_value : ClassId) (zc : Int32) (h0 : Heap) (n0 : Nat) (Z0 : n0 ≤ h0.size) (O_ : Old Z n0 h0) (S_u_Optimality_NO : Sta Z Z.heap "com/example/tightrope/tightrope/Optimality" "NO" "Lcom/example/tightrope/tightrope/Optimality;" (.ref u_Optimality_NO)) (E_u_Optimality_NO : Exa Z Z.heap u_Optimality_NO "com/example/tightrope/tightrope/Optimality") (S_u_Optimality_NOT_APPLICABLE : Sta Z Z.heap "com/example/tightrope/tightrope/Optimality" "NOT_APPLICABLE" "Lcom/example/tightrope/tightrope/Optimality;" (.ref u_Optimality_NOT_APPLICABLE)) (E_u_Optimality_NOT_APPLICABLE : Exa Z Z.heap u_Optimality_NOT_APPLICABLE "com/example/tightrope/tightrope/Optimality") (F_u_Optimality_NO_ordinal : Fld Z Z.heap u_Optimality_NO "java/lang/Enum" "ordinal" "I" (.int (1 : Int32))) (F_u_Optimality_NOT_APPLICABLE_ordinal : Fld Z Z.heap u_Optimality_NOT_APPLICABLE "java/lang/Enum" "ordinal" "I" (.int (2 : Int32))) (S_u_Optimality_YES : Sta Z Z.heap "com/example/tightrope/tightrope/Optimality" "YES" "Lcom/example/tightrope/tightrope/Optimality;" (.ref u_Optimality_YES)) (E_u_Optimality_YES : Exa Z Z.heap u_Optimality_YES "com/example/tightrope/tightrope/Optimality") (F_u_Optimality_YES_ordinal : Fld Z Z.heap u_Optimality_YES "java/lang/Enum" "ordinal" "I" (.int (0 : Int32))) (F_u_Optimality_NO_text : Fld Z Z.heap u_Optimality_NO "com/example/tightrope/tightrope/Optimality" "text" "Ljava/lang/String;" (.ref u_Optimality_NO_text)) (E_u_Optimality_NO_text : Exa Z Z.heap u_Optimality_NO_text "java/lang/String") (F_u_Optimality_NO_text_coder : Fld Z Z.heap u_Optimality_NO_text "java/lang/String" "coder" "B" (.int (0 : Int32))) (F_u_Optimality_NO_text_value : Fld Z Z.heap u_Optimality_NO_text "java/lang/String" "value" "[B" (.ref u_Optimality_NO_text_value)) (F_u_Optimality_YES_text : Fld Z Z.heap u_Optimality_YES "com/example/tightrope/tightrope/Optimality" "text" "Ljava/lang/String;" (.ref u_Optimality_YES_text)) (E_u_Optimality_YES_text : Exa Z Z.heap u_Optimality_YES_text "java/lang/String") (F_u_Optimality_YES_text_coder : Fld Z Z.heap u_Optimality_YES_text "java/lang/String" "coder" "B" (.int (0 : Int32))) (F_u_Optimality_YES_text_value : Fld Z Z.heap u_Optimality_YES_text "java/lang/String" "value" "[B" (.ref u_Optimality_YES_text_value)) (F_u_Optimality_NOT_APPLICABLE_text : Fld Z Z.heap u_Optimality_NOT_APPLICABLE "com/example/tightrope/tightrope/Optimality" "text" "Ljava/lang/String;" (.ref u_Optimality_NOT_APPLICABLE_text)) (E_u_Optimality_NOT_APPLICABLE_text : Exa Z Z.heap u_Optimality_NOT_APPLICABLE_text "java/lang/String") (F_u_Optimality_NOT_APPLICABLE_text_coder : Fld Z Z.heap u_Optimality_NOT_APPLICABLE_text "java/lang/String" "coder" "B" (.int (0 : Int32))) (F_u_Optimality_NOT_APPLICABLE_text_value : Fld Z Z.heap u_Optimality_NOT_APPLICABLE_text "java/lang/String" "value" "[B" (.ref u_Optimality_NOT_APPLICABLE_text_value)) (V_u_Optimality_NO_text_value : Arv Z Z.heap u_Optimality_NO_text_value kc_u_Optimality_NO_text_value Jvm.ClassFile.FieldType.byte (2 : Int32) [(.int (110 : Int32)), (.int (111 : Int32))] (.int (0 : Int32))) (V_u_Optimality_YES_text_value : Arv Z Z.heap u_Optimality_YES_text_value kc_u_Optimality_YES_text_value Jvm.ClassFile.FieldType.byte (3 : Int32) [(.int (121 : Int32)), (.int (101 : Int32)), (.int (115 : Int32))] (.int (0 : Int32))) (V_u_Optimality_NOT_APPLICABLE_text_value : Arv Z Z.heap u_Optimality_NOT_APPLICABLE_text_value kc_u_Optimality_NOT_APPLICABLE_text_value Jvm.ClassFile.FieldType.byte (3 : Int32) [(.int (110 : Int32)), (.int (47 : Int32)), (.int (97 : Int32))] (.int (0 : Int32))) (S_CS : Sta Z Z.heap "java/lang/String" "COMPACT_STRINGS" "Z" (.int zc)) (P_CS : ¬ zc = (0 : Int32)) :
    MetFree l (⟨"com/example/tightrope/tightrope/Optimality", "of", "(Z)Lcom/example/tightrope/tightrope/Optimality;"⟩ : MethodName) (head1 (Jvm.Cond.code (⟨"com/example/tightrope/tightrope/Optimality", "of", "(Z)Lcom/example/tightrope/tightrope/Optimality;"⟩ : MethodName) prog_3_method_4_code 1 (some (.object "com/example/tightrope/tightrope/Optimality")) :: ws) ({ frames := 0, cells := 0, slots := 0, locals := 0 } : Room)) (fun as_ UU => as_ = #[(.int (1 : Int32))] ∧ Z.Warmed39 UU.vm ∧ UU.heap = h0) (fun _ _ _ _ _ => True) (fun _ UU oo UU' => ∃ vv LL, oo = .returned vv ∧ (Qof1 Z u_Optimality_NO u_Optimality_NOT_APPLICABLE u_Optimality_YES u_Optimality_NO_text u_Optimality_NO_text_value u_Optimality_YES_text u_Optimality_YES_text_value u_Optimality_NOT_APPLICABLE_text u_Optimality_NOT_APPLICABLE_text_value kc_u_Optimality_NO_text_value kc_u_Optimality_YES_text_value kc_u_Optimality_NOT_APPLICABLE_text_value zc h0 n0) vv UU'.heap LL ∧ FrameEnd UU oo UU' LL ({ frames := 0, cells := 0, slots := 0, locals := 0 } : Room).cells ({ frames := 0, cells := 0, slots := 0, locals := 0 } : Room).slots) := by
  refine own_met (plainFor_of_name pn_1) ?_
  intro p e s m below meth c s₁ X0 hx hby hml hret hlk hown hnm hZ e0
  have N0 := Fr.nil n0
  have Z_ := Z0
  refine OwnGo.cast (ef_of1 m (1 : Int32)) ?_
  show OwnGo p e below s _ _ _ s₁ (mkF m 0 #[.val (.int (1 : Int32))] [])
  refine OwnGo.st (fun _ k => XS.iloadN X0.here hx rfl (hb hby d1_0) rfl  k) ?_
  show OwnGo p e below s _ _ _ s₁ (mkF m 1 #[.val (.int (1 : Int32))] [(.int (1 : Int32))])
  refine OwnGo.st (fun _ k => XS.ifNo X0.here hx rfl (hb hby d1_1) rfl ((if0 _ _).trans (feq ((by decide) : ¬ ((1 : Int32) = (0 : Int32)))).1) k) ?_
  show OwnGo p e below s _ _ _ s₁ (mkF m 4 #[.val (.int (1 : Int32))] [])
  obtain ⟨T1, X1, e1, st1⟩ := getS2 X0 hx hZ hown (host := "") (Or.inl (hw _ (List.mem_of_getElem? (i := 40) rfl))) Via.refl e0 (S_u_Optimality_YES.ext O_.2) (g := (mkF m 4 #[.val (.int (1 : Int32))] [])) rfl (hb hby d1_4)
  refine OwnGo.st st1 ?_
  show OwnGo p e below s _ _ _ T1 (mkF m 7 #[.val (.int (1 : Int32))] [(.ref u_Optimality_YES)])
  refine OwnGo.st (fun _ k => XS.goto X1.here hx rfl (pc0 := 7) (pc' := 13) rfl (hb hby d1_7) (by decide) (by decide) k) ?_
  show OwnGo p e below s _ _ _ T1 (mkF m 13 #[.val (.int (1 : Int32))] [(.ref u_Optimality_YES)])
  exact OwnGo.ret X1 hx hret hlk rfl (Or.inr (Or.inr (Or.inr (Or.inr ⟨rfl, rfl, rfl⟩)))) (hb hby d1_13) (by show Qof1 Z u_Optimality_NO u_Optimality_NOT_APPLICABLE u_Optimality_YES u_Optimality_NO_text u_Optimality_NO_text_value u_Optimality_YES_text u_Optimality_YES_text_value u_Optimality_NOT_APPLICABLE_text u_Optimality_NOT_APPLICABLE_text_value kc_u_Optimality_NO_text_value kc_u_Optimality_YES_text_value kc_u_Optimality_NOT_APPLICABLE_text_value zc h0 n0 _ T1.heap _; rw [e1]; exact ⟨rfl, N0, rfl⟩) (by decide) (by decide)
def Qof0 (Z : State) (u_Optimality_NO : Addr) (u_Optimality_NOT_APPLICABLE : Addr) (u_Optimality_YES : Addr) (u_Optimality_NO_text : Addr) (u_Optimality_NO_text_value : Addr) (u_Optimality_YES_text : Addr) (u_Optimality_YES_text_value : Addr) (u_Optimality_NOT_APPLICABLE_text : Addr) (u_Optimality_NOT_APPLICABLE_text_value : Addr) (kc_u_Optimality_NO_text_value : ClassId) (kc_u_Optimality_YES_text_value : ClassId) (kc_u_Optimality_NOT_APPLICABLE_text_value : ClassId) (zc : Int32) (h0 : Heap) (n0 : Nat) (v : Option Value) (h : Heap) (L : List Loc) : Prop := v = some (.ref u_Optimality_NO) ∧ Fr n0 L ∧ h = h0
set_option maxRecDepth 65536 in
set_option maxHeartbeats 40000000 in
theorem rmof0 (l : Launch) (Z : State) (a0 : Array Value) (hw : ∀ d ∈ tables_1, d.before a0 Z = true) (ws : List Jvm.Cond) (u_Optimality_NO : Addr) (u_Optimality_NOT_APPLICABLE : Addr) (u_Optimality_YES : Addr) (u_Optimality_NO_text : Addr) (u_Optimality_NO_text_value : Addr) (u_Optimality_YES_text : Addr) (u_Optimality_YES_text_value : Addr) (u_Optimality_NOT_APPLICABLE_text : Addr) (u_Optimality_NOT_APPLICABLE_text_value : Addr) (kc_u_Optimality_NO_text_value : ClassId) (kc_u_Optimality_YES_text_value : ClassId) (kc_u_Optimality_NOT_APPLICABLE_text_value : ClassId) (zc : Int32) (h0 : Heap) (n0 : Nat) (Z0 : n0 ≤ h0.size) (O_ : Old Z n0 h0) (S_u_Optimality_NO : Sta Z Z.heap "com/example/tightrope/tightrope/Optimality" "NO" "Lcom/example/tightrope/tightrope/Optimality;" (.ref u_Optimality_NO)) (E_u_Optimality_NO : Exa Z Z.heap u_Optimality_NO "com/example/tightrope/tightrope/Optimality") (S_u_Optimality_NOT_APPLICABLE : Sta Z Z.heap "com/example/tightrope/tightrope/Optimality" "NOT_APPLICABLE" "Lcom/example/tightrope/tightrope/Optimality;" (.ref u_Optimality_NOT_APPLICABLE)) (E_u_Optimality_NOT_APPLICABLE : Exa Z Z.heap u_Optimality_NOT_APPLICABLE "com/example/tightrope/tightrope/Optimality") (F_u_Optimality_NO_ordinal : Fld Z Z.heap u_Optimality_NO "java/lang/Enum" "ordinal" "I" (.int (1 : Int32))) (F_u_Optimality_NOT_APPLICABLE_ordinal : Fld Z Z.heap u_Optimality_NOT_APPLICABLE "java/lang/Enum" "ordinal" "I" (.int (2 : Int32))) (S_u_Optimality_YES : Sta Z Z.heap "com/example/tightrope/tightrope/Optimality" "YES" "Lcom/example/tightrope/tightrope/Optimality;" (.ref u_Optimality_YES)) (E_u_Optimality_YES : Exa Z Z.heap u_Optimality_YES "com/example/tightrope/tightrope/Optimality") (F_u_Optimality_YES_ordinal : Fld Z Z.heap u_Optimality_YES "java/lang/Enum" "ordinal" "I" (.int (0 : Int32))) (F_u_Optimality_NO_text : Fld Z Z.heap u_Optimality_NO "com/example/tightrope/tightrope/Optimality" "text" "Ljava/lang/String;" (.ref u_Optimality_NO_text)) (E_u_Optimality_NO_text : Exa Z Z.heap u_Optimality_NO_text "java/lang/String") (F_u_Optimality_NO_text_coder : Fld Z Z.heap u_Optimality_NO_text "java/lang/String" "coder" "B" (.int (0 : Int32))) (F_u_Optimality_NO_text_value : Fld Z Z.heap u_Optimality_NO_text "java/lang/String" "value" "[B" (.ref u_Optimality_NO_text_value)) (F_u_Optimality_YES_text : Fld Z Z.heap u_Optimality_YES "com/example/tightrope/tightrope/Optimality" "text" "Ljava/lang/String;" (.ref u_Optimality_YES_text)) (E_u_Optimality_YES_text : Exa Z Z.heap u_Optimality_YES_text "java/lang/String") (F_u_Optimality_YES_text_coder : Fld Z Z.heap u_Optimality_YES_text "java/lang/String" "coder" "B" (.int (0 : Int32))) (F_u_Optimality_YES_text_value : Fld Z Z.heap u_Optimality_YES_text "java/lang/String" "value" "[B" (.ref u_Optimality_YES_text_value)) (F_u_Optimality_NOT_APPLICABLE_text : Fld Z Z.heap u_Optimality_NOT_APPLICABLE "com/example/tightrope/tightrope/Optimality" "text" "Ljava/lang/String;" (.ref u_Optimality_NOT_APPLICABLE_text)) (E_u_Optimality_NOT_APPLICABLE_text : Exa Z Z.heap u_Optimality_NOT_APPLICABLE_text "java/lang/String") (F_u_Optimality_NOT_APPLICABLE_text_coder : Fld Z Z.heap u_Optimality_NOT_APPLICABLE_text "java/lang/String" "coder" "B" (.int (0 : Int32))) (F_u_Optimality_NOT_APPLICABLE_text_value : Fld Z Z.heap u_Optimality_NOT_APPLICABLE_text "java/lang/String" "value" "[B" (.ref u_Optimality_NOT_APPLICABLE_text_value)) (V_u_Optimality_NO_text_value : Arv Z Z.heap u_Optimality_NO_text_value kc_u_Optimality_NO_text_value Jvm.ClassFile.FieldType.byte (2 : Int32) [(.int (110 : Int32)), (.int (111 : Int32))] (.int (0 : Int32))) (V_u_Optimality_YES_text_value : Arv Z Z.heap u_Optimality_YES_text_value kc_u_Optimality_YES_text_value Jvm.ClassFile.FieldType.byte (3 : Int32) [(.int (121 : Int32)), (.int (101 : Int32)), (.int (115 : Int32))] (.int (0 : Int32))) (V_u_Optimality_NOT_APPLICABLE_text_value : Arv Z Z.heap u_Optimality_NOT_APPLICABLE_text_value kc_u_Optimality_NOT_APPLICABLE_text_value Jvm.ClassFile.FieldType.byte (3 : Int32) [(.int (110 : Int32)), (.int (47 : Int32)), (.int (97 : Int32))] (.int (0 : Int32))) (S_CS : Sta Z Z.heap "java/lang/String" "COMPACT_STRINGS" "Z" (.int zc)) (P_CS : ¬ zc = (0 : Int32)) :
    MetFree l (⟨"com/example/tightrope/tightrope/Optimality", "of", "(Z)Lcom/example/tightrope/tightrope/Optimality;"⟩ : MethodName) (head1 (Jvm.Cond.code (⟨"com/example/tightrope/tightrope/Optimality", "of", "(Z)Lcom/example/tightrope/tightrope/Optimality;"⟩ : MethodName) prog_3_method_4_code 1 (some (.object "com/example/tightrope/tightrope/Optimality")) :: ws) ({ frames := 0, cells := 0, slots := 0, locals := 0 } : Room)) (fun as_ UU => as_ = #[(.int (0 : Int32))] ∧ Z.Warmed39 UU.vm ∧ UU.heap = h0) (fun _ _ _ _ _ => True) (fun _ UU oo UU' => ∃ vv LL, oo = .returned vv ∧ (Qof0 Z u_Optimality_NO u_Optimality_NOT_APPLICABLE u_Optimality_YES u_Optimality_NO_text u_Optimality_NO_text_value u_Optimality_YES_text u_Optimality_YES_text_value u_Optimality_NOT_APPLICABLE_text u_Optimality_NOT_APPLICABLE_text_value kc_u_Optimality_NO_text_value kc_u_Optimality_YES_text_value kc_u_Optimality_NOT_APPLICABLE_text_value zc h0 n0) vv UU'.heap LL ∧ FrameEnd UU oo UU' LL ({ frames := 0, cells := 0, slots := 0, locals := 0 } : Room).cells ({ frames := 0, cells := 0, slots := 0, locals := 0 } : Room).slots) := by
  refine own_met (plainFor_of_name pn_1) ?_
  intro p e s m below meth c s₁ X0 hx hby hml hret hlk hown hnm hZ e0
  have N0 := Fr.nil n0
  have Z_ := Z0
  refine OwnGo.cast (ef_of0 m (0 : Int32)) ?_
  show OwnGo p e below s _ _ _ s₁ (mkF m 0 #[.val (.int (0 : Int32))] [])
  refine OwnGo.st (fun _ k => XS.iloadN X0.here hx rfl (hb hby d1_0) rfl  k) ?_
  show OwnGo p e below s _ _ _ s₁ (mkF m 1 #[.val (.int (0 : Int32))] [(.int (0 : Int32))])
  refine OwnGo.st (fun _ k => XS.ifYes X0.here hx rfl (pc0 := 1) (pc' := 10) rfl (hb hby d1_1) rfl ((if0 _ _).trans (teq ((by decide) : (0 : Int32) = (0 : Int32))).1) (by decide) (by decide) k) ?_
  show OwnGo p e below s _ _ _ s₁ (mkF m 10 #[.val (.int (0 : Int32))] [])
  obtain ⟨T2, X2, e2, st2⟩ := getS2 X0 hx hZ hown (host := "") (Or.inl (hw _ (List.mem_of_getElem? (i := 4) rfl))) Via.refl e0 (S_u_Optimality_NO.ext O_.2) (g := (mkF m 10 #[.val (.int (0 : Int32))] [])) rfl (hb hby d1_10)
  refine OwnGo.st st2 ?_
  show OwnGo p e below s _ _ _ T2 (mkF m 13 #[.val (.int (0 : Int32))] [(.ref u_Optimality_NO)])
  exact OwnGo.ret X2 hx hret hlk rfl (Or.inr (Or.inr (Or.inr (Or.inr ⟨rfl, rfl, rfl⟩)))) (hb hby d1_13) (by show Qof0 Z u_Optimality_NO u_Optimality_NOT_APPLICABLE u_Optimality_YES u_Optimality_NO_text u_Optimality_NO_text_value u_Optimality_YES_text u_Optimality_YES_text_value u_Optimality_NOT_APPLICABLE_text u_Optimality_NOT_APPLICABLE_text_value kc_u_Optimality_NO_text_value kc_u_Optimality_YES_text_value kc_u_Optimality_NOT_APPLICABLE_text_value zc h0 n0 _ T2.heap _; rw [e2]; exact ⟨rfl, N0, rfl⟩) (by decide) (by decide)
def Q2 (Z : State) (a : Addr) (b : Addr) (h0 : Heap) (n0 : Nat) (v : Option Value) (h : Heap) (L : List Loc) : Prop := v = some (.ref b) ∧ Fr n0 L ∧ h = h0
set_option maxRecDepth 65536 in
set_option maxHeartbeats 40000000 in
theorem rm2 (l : Launch) (Z : State) (a0 : Array Value) (hw : ∀ d ∈ tables_1, d.before a0 Z = true) (ws : List Jvm.Cond) (a : Addr) (b : Addr) (h0 : Heap) (n0 : Nat) (Z0 : n0 ≤ h0.size) (F : Fld Z h0 a "com/example/tightrope/tightrope/Optimality" "text" "Ljava/lang/String;" (.ref b)) :
    MetFree l (⟨"com/example/tightrope/tightrope/Optimality", "text", "()Ljava/lang/String;"⟩ : MethodName) (head1 (Jvm.Cond.code (⟨"com/example/tightrope/tightrope/Optimality", "text", "()Ljava/lang/String;"⟩ : MethodName) prog_3_method_5_code 1 (some (.object "java/lang/String")) :: ws) ({ frames := 0, cells := 0, slots := 0, locals := 0 } : Room)) (fun as_ UU => as_ = #[(.ref a)] ∧ Z.Warmed39 UU.vm ∧ UU.heap = h0) (fun _ _ _ _ _ => True) (fun _ UU oo UU' => ∃ vv LL, oo = .returned vv ∧ (Q2 Z a b h0 n0) vv UU'.heap LL ∧ FrameEnd UU oo UU' LL ({ frames := 0, cells := 0, slots := 0, locals := 0 } : Room).cells ({ frames := 0, cells := 0, slots := 0, locals := 0 } : Room).slots) := by
  refine own_met (plainFor_of_name pn_1) ?_
  intro p e s m below meth c s₁ X0 hx hby hml hret hlk hown hnm hZ e0
  have N0 := Fr.nil n0
  have Z_ := Z0
  refine OwnGo.cast (ef_2 m a) ?_
  show OwnGo p e below s _ _ _ s₁ (mkF m 0 #[.val (.ref a)] [])
  refine OwnGo.st (fun _ k => XS.aloadN X0.here hx rfl (hb hby d2_0) rfl rfl  k) ?_
  show OwnGo p e below s _ _ _ s₁ (mkF m 1 #[.val (.ref a)] [(.ref a)])
  obtain ⟨T3, X3, e3, st3⟩ := getF X0 hx hZ hown (host := "") (Or.inl (hw _ (List.mem_of_getElem? (i := 16) rfl))) Via.refl e0 F (g := (mkF m 1 #[.val (.ref a)] [(.ref a)])) rfl rfl (hb hby d2_1)
  refine OwnGo.st st3 ?_
  show OwnGo p e below s _ _ _ T3 (mkF m 4 #[.val (.ref a)] [(.ref b)])
  exact OwnGo.ret X3 hx hret hlk rfl (Or.inr (Or.inr (Or.inr (Or.inr ⟨rfl, rfl, rfl⟩)))) (hb hby d2_4) (by show Q2 Z a b h0 n0 _ T3.heap _; rw [e3]; exact ⟨rfl, N0, rfl⟩) (by decide) (by decide)
def Qle_yes (Z : State) (a : Addr) (b : Addr) (ka : ClassId) (kb : ClassId) (h0 : Heap) (n0 : Nat) (v : Option Value) (h : Heap) (L : List Loc) : Prop := v = some (.int (1 : Int32)) ∧ Fr n0 L ∧ h = h0
set_option maxRecDepth 65536 in
set_option maxHeartbeats 40000000 in
theorem rmle_yes (l : Launch) (Z : State) (a0 : Array Value) (hw : ∀ d ∈ tables_1, d.before a0 Z = true) (ws : List Jvm.Cond) (a : Addr) (b : Addr) (ka : ClassId) (kb : ClassId) (h0 : Heap) (n0 : Nat) (Z0 : n0 ≤ h0.size) (V_a : Arv Z h0 a ka .byte (3 : Int32) [(.int (121 : Int32)), (.int (101 : Int32)), (.int (115 : Int32))] (.int (0 : Int32))) (V_b : Arv Z h0 b kb .byte (3 : Int32) [(.int (121 : Int32)), (.int (101 : Int32)), (.int (115 : Int32))] (.int (0 : Int32))) :
    MetFree l (⟨"java/lang/StringLatin1", "equals", "([B[B)Z"⟩ : MethodName) (head1 (Jvm.Cond.code (⟨"java/lang/StringLatin1", "equals", "([B[B)Z"⟩ : MethodName) jdk_43_method_13_code 3 (some .boolean) :: ws) ({ frames := 0, cells := 0, slots := 0, locals := 0 } : Room)) (fun as_ UU => as_ = #[(.ref a), (.ref b)] ∧ Z.Warmed39 UU.vm ∧ UU.heap = h0) (fun _ _ _ _ _ => True) (fun _ UU oo UU' => ∃ vv LL, oo = .returned vv ∧ (Qle_yes Z a b ka kb h0 n0) vv UU'.heap LL ∧ FrameEnd UU oo UU' LL ({ frames := 0, cells := 0, slots := 0, locals := 0 } : Room).cells ({ frames := 0, cells := 0, slots := 0, locals := 0 } : Room).slots) := by
  refine own_met (plainFor_of_name pn_4) ?_
  intro p e s m below meth c s₁ X0 hx hby hml hret hlk hown hnm hZ e0
  have N0 := Fr.nil n0
  have Z_ := Z0
  refine OwnGo.cast (ef_le_yes m a b) ?_
  show OwnGo p e below s _ _ _ s₁ (mkF m 0 #[.val (.ref a), .val (.ref b), .unset] [])
  refine OwnGo.st (fun _ k => XS.aloadN X0.here hx rfl (hb hby d4_0) rfl rfl  k) ?_
  show OwnGo p e below s _ _ _ s₁ (mkF m 1 #[.val (.ref a), .val (.ref b), .unset] [(.ref a)])
  obtain ⟨cl4, Ar4, -, S4, N4, -, -⟩ := id V_a
  refine OwnGo.st (fun _ k => own_len hZ (len_of S4 N4) Ar4 X0 e0 hx (g := (mkF m 1 #[.val (.ref a), .val (.ref b), .unset] [(.ref a)])) rfl rfl (hb hby d4_1) _ k) ?_
  show OwnGo p e below s _ _ _ s₁ (mkF m 2 #[.val (.ref a), .val (.ref b), .unset] [(.int (3 : Int32))])
  refine OwnGo.st (fun _ k => XS.aloadN X0.here hx rfl (hb hby d4_2) rfl rfl  k) ?_
  show OwnGo p e below s _ _ _ s₁ (mkF m 3 #[.val (.ref a), .val (.ref b), .unset] [(.ref b), (.int (3 : Int32))])
  obtain ⟨cl5, Ar5, -, S5, N5, -, -⟩ := id V_b
  refine OwnGo.st (fun _ k => own_len hZ (len_of S5 N5) Ar5 X0 e0 hx (g := (mkF m 3 #[.val (.ref a), .val (.ref b), .unset] [(.ref b), (.int (3 : Int32))])) rfl rfl (hb hby d4_3) _ k) ?_
  show OwnGo p e below s _ _ _ s₁ (mkF m 4 #[.val (.ref a), .val (.ref b), .unset] [(.int (3 : Int32)), (.int (3 : Int32))])
  refine OwnGo.st (fun _ k => XS.icmpNo X0.here hx rfl (hb hby d4_4) rfl (teq (rfl : (3 : Int32) = (3 : Int32))).2 k) ?_
  show OwnGo p e below s _ _ _ s₁ (mkF m 7 #[.val (.ref a), .val (.ref b), .unset] [])
  refine OwnGo.st (fun _ k => XS.iconst X0.here hx rfl (hb hby d4_7) k) ?_
  show OwnGo p e below s _ _ _ s₁ (mkF m 8 #[.val (.ref a), .val (.ref b), .unset] [(.int (0 : Int32))])
  refine OwnGo.st (fun _ k => XS.istoreN X0.here hx rfl (hb hby d4_8) rfl (l' := #[.val (.ref a), .val (.ref b), .val (.int (0 : Int32))]) rfl k) ?_
  show OwnGo p e below s _ _ _ s₁ (mkF m 9 #[.val (.ref a), .val (.ref b), .val (.int (0 : Int32))] [])
  refine OwnGo.st (fun _ k => XS.iloadN X0.here hx rfl (hb hby d4_9) rfl  k) ?_
  show OwnGo p e below s _ _ _ s₁ (mkF m 10 #[.val (.ref a), .val (.ref b), .val (.int (0 : Int32))] [(.int (0 : Int32))])
  refine OwnGo.st (fun _ k => XS.aloadN X0.here hx rfl (hb hby d4_10) rfl rfl  k) ?_
  show OwnGo p e below s _ _ _ s₁ (mkF m 11 #[.val (.ref a), .val (.ref b), .val (.int (0 : Int32))] [(.ref a), (.int (0 : Int32))])
  obtain ⟨cl6, Ar6, -, S6, N6, -, -⟩ := id V_a
  refine OwnGo.st (fun _ k => own_len hZ (len_of S6 N6) Ar6 X0 e0 hx (g := (mkF m 11 #[.val (.ref a), .val (.ref b), .val (.int (0 : Int32))] [(.ref a), (.int (0 : Int32))])) rfl rfl (hb hby d4_11) _ k) ?_
  show OwnGo p e below s _ _ _ s₁ (mkF m 12 #[.val (.ref a), .val (.ref b), .val (.int (0 : Int32))] [(.int (3 : Int32)), (.int (0 : Int32))])
  refine OwnGo.st (fun _ k => XS.icmpNo X0.here hx rfl (hb hby d4_12) rfl (tlt ((by decide) : (0 : Int32) < (3 : Int32))).2.1 k) ?_
  show OwnGo p e below s _ _ _ s₁ (mkF m 15 #[.val (.ref a), .val (.ref b), .val (.int (0 : Int32))] [])
  refine OwnGo.st (fun _ k => XS.aloadN X0.here hx rfl (hb hby d4_15) rfl rfl  k) ?_
  show OwnGo p e below s _ _ _ s₁ (mkF m 16 #[.val (.ref a), .val (.ref b), .val (.int (0 : Int32))] [(.ref a)])
  refine OwnGo.st (fun _ k => XS.iloadN X0.here hx rfl (hb hby d4_16) rfl  k) ?_
  show OwnGo p e below s _ _ _ s₁ (mkF m 17 #[.val (.ref a), .val (.ref b), .val (.int (0 : Int32))] [(.int (0 : Int32)), (.ref a)])
  obtain ⟨cl7, Ar7, -, S7, -, H7, -⟩ := id V_a
  have hin7 : ¬ ((0 : Int32) < 0 ∨ cl7.slots.size ≤ ((0 : Int32)).toNatClampNeg) := inb_of S7 ⟨by decide, by decide⟩
  refine OwnGo.st (fun _ k => X0.baloadBytes hx (j := (0 : Int32)) (v := (.int (121 : Int32))) (by rw [e0]; exact Ar7.1) (State.isArrayOf_alike hZ.alike Ar7.2.1) Ar7.2.2 hin7 (H7.at hin7 rfl) (g := (mkF m 17 #[.val (.ref a), .val (.ref b), .val (.int (0 : Int32))] [(.int (0 : Int32)), (.ref a)])) rfl rfl (hb hby d4_17) _ k) ?_
  show OwnGo p e below s _ _ _ s₁ (mkF m 18 #[.val (.ref a), .val (.ref b), .val (.int (0 : Int32))] [(.int (121 : Int32))])
  refine OwnGo.st (fun _ k => XS.aloadN X0.here hx rfl (hb hby d4_18) rfl rfl  k) ?_
  show OwnGo p e below s _ _ _ s₁ (mkF m 19 #[.val (.ref a), .val (.ref b), .val (.int (0 : Int32))] [(.ref b), (.int (121 : Int32))])
  refine OwnGo.st (fun _ k => XS.iloadN X0.here hx rfl (hb hby d4_19) rfl  k) ?_
  show OwnGo p e below s _ _ _ s₁ (mkF m 20 #[.val (.ref a), .val (.ref b), .val (.int (0 : Int32))] [(.int (0 : Int32)), (.ref b), (.int (121 : Int32))])
  obtain ⟨cl8, Ar8, -, S8, -, H8, -⟩ := id V_b
  have hin8 : ¬ ((0 : Int32) < 0 ∨ cl8.slots.size ≤ ((0 : Int32)).toNatClampNeg) := inb_of S8 ⟨by decide, by decide⟩
  refine OwnGo.st (fun _ k => X0.baloadBytes hx (j := (0 : Int32)) (v := (.int (121 : Int32))) (by rw [e0]; exact Ar8.1) (State.isArrayOf_alike hZ.alike Ar8.2.1) Ar8.2.2 hin8 (H8.at hin8 rfl) (g := (mkF m 20 #[.val (.ref a), .val (.ref b), .val (.int (0 : Int32))] [(.int (0 : Int32)), (.ref b), (.int (121 : Int32))])) rfl rfl (hb hby d4_20) _ k) ?_
  show OwnGo p e below s _ _ _ s₁ (mkF m 21 #[.val (.ref a), .val (.ref b), .val (.int (0 : Int32))] [(.int (121 : Int32)), (.int (121 : Int32))])
  refine OwnGo.st (fun _ k => XS.icmpYes X0.here hx rfl (pc0 := 21) (pc' := 26) rfl (hb hby d4_21) rfl (teq (rfl : (121 : Int32) = (121 : Int32))).1 (by decide) (by decide) k) ?_
  show OwnGo p e below s _ _ _ s₁ (mkF m 26 #[.val (.ref a), .val (.ref b), .val (.int (0 : Int32))] [])
  refine OwnGo.st (fun _ k => XS.iinc X0.here hx rfl (hb hby d4_26) rfl (l' := #[.val (.ref a), .val (.ref b), .val (.int ((0 : Int32) + (1 : Int32)))]) rfl k) ?_
  show OwnGo p e below s _ _ _ s₁ (mkF m 29 #[.val (.ref a), .val (.ref b), .val (.int ((0 : Int32) + (1 : Int32)))] [])
  show OwnGo p e below s _ _ _ s₁ (mkF m 29 #[.val (.ref a), .val (.ref b), .val (.int (1 : Int32))] [])
  refine OwnGo.st (fun _ k => XS.goto X0.here hx rfl (pc0 := 29) (pc' := 9) rfl (hb hby d4_29) (by decide) (by decide) k) ?_
  show OwnGo p e below s _ _ _ s₁ (mkF m 9 #[.val (.ref a), .val (.ref b), .val (.int (1 : Int32))] [])
  refine OwnGo.st (fun _ k => XS.iloadN X0.here hx rfl (hb hby d4_9) rfl  k) ?_
  show OwnGo p e below s _ _ _ s₁ (mkF m 10 #[.val (.ref a), .val (.ref b), .val (.int (1 : Int32))] [(.int (1 : Int32))])
  refine OwnGo.st (fun _ k => XS.aloadN X0.here hx rfl (hb hby d4_10) rfl rfl  k) ?_
  show OwnGo p e below s _ _ _ s₁ (mkF m 11 #[.val (.ref a), .val (.ref b), .val (.int (1 : Int32))] [(.ref a), (.int (1 : Int32))])
  obtain ⟨cl9, Ar9, -, S9, N9, -, -⟩ := id V_a
  refine OwnGo.st (fun _ k => own_len hZ (len_of S9 N9) Ar9 X0 e0 hx (g := (mkF m 11 #[.val (.ref a), .val (.ref b), .val (.int (1 : Int32))] [(.ref a), (.int (1 : Int32))])) rfl rfl (hb hby d4_11) _ k) ?_
  show OwnGo p e below s _ _ _ s₁ (mkF m 12 #[.val (.ref a), .val (.ref b), .val (.int (1 : Int32))] [(.int (3 : Int32)), (.int (1 : Int32))])
  refine OwnGo.st (fun _ k => XS.icmpNo X0.here hx rfl (hb hby d4_12) rfl (tlt ((by decide) : (1 : Int32) < (3 : Int32))).2.1 k) ?_
  show OwnGo p e below s _ _ _ s₁ (mkF m 15 #[.val (.ref a), .val (.ref b), .val (.int (1 : Int32))] [])
  refine OwnGo.st (fun _ k => XS.aloadN X0.here hx rfl (hb hby d4_15) rfl rfl  k) ?_
  show OwnGo p e below s _ _ _ s₁ (mkF m 16 #[.val (.ref a), .val (.ref b), .val (.int (1 : Int32))] [(.ref a)])
  refine OwnGo.st (fun _ k => XS.iloadN X0.here hx rfl (hb hby d4_16) rfl  k) ?_
  show OwnGo p e below s _ _ _ s₁ (mkF m 17 #[.val (.ref a), .val (.ref b), .val (.int (1 : Int32))] [(.int (1 : Int32)), (.ref a)])
  obtain ⟨cl10, Ar10, -, S10, -, H10, -⟩ := id V_a
  have hin10 : ¬ ((1 : Int32) < 0 ∨ cl10.slots.size ≤ ((1 : Int32)).toNatClampNeg) := inb_of S10 ⟨by decide, by decide⟩
  refine OwnGo.st (fun _ k => X0.baloadBytes hx (j := (1 : Int32)) (v := (.int (101 : Int32))) (by rw [e0]; exact Ar10.1) (State.isArrayOf_alike hZ.alike Ar10.2.1) Ar10.2.2 hin10 (H10.at hin10 rfl) (g := (mkF m 17 #[.val (.ref a), .val (.ref b), .val (.int (1 : Int32))] [(.int (1 : Int32)), (.ref a)])) rfl rfl (hb hby d4_17) _ k) ?_
  show OwnGo p e below s _ _ _ s₁ (mkF m 18 #[.val (.ref a), .val (.ref b), .val (.int (1 : Int32))] [(.int (101 : Int32))])
  refine OwnGo.st (fun _ k => XS.aloadN X0.here hx rfl (hb hby d4_18) rfl rfl  k) ?_
  show OwnGo p e below s _ _ _ s₁ (mkF m 19 #[.val (.ref a), .val (.ref b), .val (.int (1 : Int32))] [(.ref b), (.int (101 : Int32))])
  refine OwnGo.st (fun _ k => XS.iloadN X0.here hx rfl (hb hby d4_19) rfl  k) ?_
  show OwnGo p e below s _ _ _ s₁ (mkF m 20 #[.val (.ref a), .val (.ref b), .val (.int (1 : Int32))] [(.int (1 : Int32)), (.ref b), (.int (101 : Int32))])
  obtain ⟨cl11, Ar11, -, S11, -, H11, -⟩ := id V_b
  have hin11 : ¬ ((1 : Int32) < 0 ∨ cl11.slots.size ≤ ((1 : Int32)).toNatClampNeg) := inb_of S11 ⟨by decide, by decide⟩
  refine OwnGo.st (fun _ k => X0.baloadBytes hx (j := (1 : Int32)) (v := (.int (101 : Int32))) (by rw [e0]; exact Ar11.1) (State.isArrayOf_alike hZ.alike Ar11.2.1) Ar11.2.2 hin11 (H11.at hin11 rfl) (g := (mkF m 20 #[.val (.ref a), .val (.ref b), .val (.int (1 : Int32))] [(.int (1 : Int32)), (.ref b), (.int (101 : Int32))])) rfl rfl (hb hby d4_20) _ k) ?_
  show OwnGo p e below s _ _ _ s₁ (mkF m 21 #[.val (.ref a), .val (.ref b), .val (.int (1 : Int32))] [(.int (101 : Int32)), (.int (101 : Int32))])
  refine OwnGo.st (fun _ k => XS.icmpYes X0.here hx rfl (pc0 := 21) (pc' := 26) rfl (hb hby d4_21) rfl (teq (rfl : (101 : Int32) = (101 : Int32))).1 (by decide) (by decide) k) ?_
  show OwnGo p e below s _ _ _ s₁ (mkF m 26 #[.val (.ref a), .val (.ref b), .val (.int (1 : Int32))] [])
  refine OwnGo.st (fun _ k => XS.iinc X0.here hx rfl (hb hby d4_26) rfl (l' := #[.val (.ref a), .val (.ref b), .val (.int ((1 : Int32) + (1 : Int32)))]) rfl k) ?_
  show OwnGo p e below s _ _ _ s₁ (mkF m 29 #[.val (.ref a), .val (.ref b), .val (.int ((1 : Int32) + (1 : Int32)))] [])
  show OwnGo p e below s _ _ _ s₁ (mkF m 29 #[.val (.ref a), .val (.ref b), .val (.int (2 : Int32))] [])
  refine OwnGo.st (fun _ k => XS.goto X0.here hx rfl (pc0 := 29) (pc' := 9) rfl (hb hby d4_29) (by decide) (by decide) k) ?_
  show OwnGo p e below s _ _ _ s₁ (mkF m 9 #[.val (.ref a), .val (.ref b), .val (.int (2 : Int32))] [])
  refine OwnGo.st (fun _ k => XS.iloadN X0.here hx rfl (hb hby d4_9) rfl  k) ?_
  show OwnGo p e below s _ _ _ s₁ (mkF m 10 #[.val (.ref a), .val (.ref b), .val (.int (2 : Int32))] [(.int (2 : Int32))])
  refine OwnGo.st (fun _ k => XS.aloadN X0.here hx rfl (hb hby d4_10) rfl rfl  k) ?_
  show OwnGo p e below s _ _ _ s₁ (mkF m 11 #[.val (.ref a), .val (.ref b), .val (.int (2 : Int32))] [(.ref a), (.int (2 : Int32))])
  obtain ⟨cl12, Ar12, -, S12, N12, -, -⟩ := id V_a
  refine OwnGo.st (fun _ k => own_len hZ (len_of S12 N12) Ar12 X0 e0 hx (g := (mkF m 11 #[.val (.ref a), .val (.ref b), .val (.int (2 : Int32))] [(.ref a), (.int (2 : Int32))])) rfl rfl (hb hby d4_11) _ k) ?_
  show OwnGo p e below s _ _ _ s₁ (mkF m 12 #[.val (.ref a), .val (.ref b), .val (.int (2 : Int32))] [(.int (3 : Int32)), (.int (2 : Int32))])
  refine OwnGo.st (fun _ k => XS.icmpNo X0.here hx rfl (hb hby d4_12) rfl (tlt ((by decide) : (2 : Int32) < (3 : Int32))).2.1 k) ?_
  show OwnGo p e below s _ _ _ s₁ (mkF m 15 #[.val (.ref a), .val (.ref b), .val (.int (2 : Int32))] [])
  refine OwnGo.st (fun _ k => XS.aloadN X0.here hx rfl (hb hby d4_15) rfl rfl  k) ?_
  show OwnGo p e below s _ _ _ s₁ (mkF m 16 #[.val (.ref a), .val (.ref b), .val (.int (2 : Int32))] [(.ref a)])
  refine OwnGo.st (fun _ k => XS.iloadN X0.here hx rfl (hb hby d4_16) rfl  k) ?_
  show OwnGo p e below s _ _ _ s₁ (mkF m 17 #[.val (.ref a), .val (.ref b), .val (.int (2 : Int32))] [(.int (2 : Int32)), (.ref a)])
  obtain ⟨cl13, Ar13, -, S13, -, H13, -⟩ := id V_a
  have hin13 : ¬ ((2 : Int32) < 0 ∨ cl13.slots.size ≤ ((2 : Int32)).toNatClampNeg) := inb_of S13 ⟨by decide, by decide⟩
  refine OwnGo.st (fun _ k => X0.baloadBytes hx (j := (2 : Int32)) (v := (.int (115 : Int32))) (by rw [e0]; exact Ar13.1) (State.isArrayOf_alike hZ.alike Ar13.2.1) Ar13.2.2 hin13 (H13.at hin13 rfl) (g := (mkF m 17 #[.val (.ref a), .val (.ref b), .val (.int (2 : Int32))] [(.int (2 : Int32)), (.ref a)])) rfl rfl (hb hby d4_17) _ k) ?_
  show OwnGo p e below s _ _ _ s₁ (mkF m 18 #[.val (.ref a), .val (.ref b), .val (.int (2 : Int32))] [(.int (115 : Int32))])
  refine OwnGo.st (fun _ k => XS.aloadN X0.here hx rfl (hb hby d4_18) rfl rfl  k) ?_
  show OwnGo p e below s _ _ _ s₁ (mkF m 19 #[.val (.ref a), .val (.ref b), .val (.int (2 : Int32))] [(.ref b), (.int (115 : Int32))])
  refine OwnGo.st (fun _ k => XS.iloadN X0.here hx rfl (hb hby d4_19) rfl  k) ?_
  show OwnGo p e below s _ _ _ s₁ (mkF m 20 #[.val (.ref a), .val (.ref b), .val (.int (2 : Int32))] [(.int (2 : Int32)), (.ref b), (.int (115 : Int32))])
  obtain ⟨cl14, Ar14, -, S14, -, H14, -⟩ := id V_b
  have hin14 : ¬ ((2 : Int32) < 0 ∨ cl14.slots.size ≤ ((2 : Int32)).toNatClampNeg) := inb_of S14 ⟨by decide, by decide⟩
  refine OwnGo.st (fun _ k => X0.baloadBytes hx (j := (2 : Int32)) (v := (.int (115 : Int32))) (by rw [e0]; exact Ar14.1) (State.isArrayOf_alike hZ.alike Ar14.2.1) Ar14.2.2 hin14 (H14.at hin14 rfl) (g := (mkF m 20 #[.val (.ref a), .val (.ref b), .val (.int (2 : Int32))] [(.int (2 : Int32)), (.ref b), (.int (115 : Int32))])) rfl rfl (hb hby d4_20) _ k) ?_
  show OwnGo p e below s _ _ _ s₁ (mkF m 21 #[.val (.ref a), .val (.ref b), .val (.int (2 : Int32))] [(.int (115 : Int32)), (.int (115 : Int32))])
  refine OwnGo.st (fun _ k => XS.icmpYes X0.here hx rfl (pc0 := 21) (pc' := 26) rfl (hb hby d4_21) rfl (teq (rfl : (115 : Int32) = (115 : Int32))).1 (by decide) (by decide) k) ?_
  show OwnGo p e below s _ _ _ s₁ (mkF m 26 #[.val (.ref a), .val (.ref b), .val (.int (2 : Int32))] [])
  refine OwnGo.st (fun _ k => XS.iinc X0.here hx rfl (hb hby d4_26) rfl (l' := #[.val (.ref a), .val (.ref b), .val (.int ((2 : Int32) + (1 : Int32)))]) rfl k) ?_
  show OwnGo p e below s _ _ _ s₁ (mkF m 29 #[.val (.ref a), .val (.ref b), .val (.int ((2 : Int32) + (1 : Int32)))] [])
  show OwnGo p e below s _ _ _ s₁ (mkF m 29 #[.val (.ref a), .val (.ref b), .val (.int (3 : Int32))] [])
  refine OwnGo.st (fun _ k => XS.goto X0.here hx rfl (pc0 := 29) (pc' := 9) rfl (hb hby d4_29) (by decide) (by decide) k) ?_
  show OwnGo p e below s _ _ _ s₁ (mkF m 9 #[.val (.ref a), .val (.ref b), .val (.int (3 : Int32))] [])
  refine OwnGo.st (fun _ k => XS.iloadN X0.here hx rfl (hb hby d4_9) rfl  k) ?_
  show OwnGo p e below s _ _ _ s₁ (mkF m 10 #[.val (.ref a), .val (.ref b), .val (.int (3 : Int32))] [(.int (3 : Int32))])
  refine OwnGo.st (fun _ k => XS.aloadN X0.here hx rfl (hb hby d4_10) rfl rfl  k) ?_
  show OwnGo p e below s _ _ _ s₁ (mkF m 11 #[.val (.ref a), .val (.ref b), .val (.int (3 : Int32))] [(.ref a), (.int (3 : Int32))])
  obtain ⟨cl15, Ar15, -, S15, N15, -, -⟩ := id V_a
  refine OwnGo.st (fun _ k => own_len hZ (len_of S15 N15) Ar15 X0 e0 hx (g := (mkF m 11 #[.val (.ref a), .val (.ref b), .val (.int (3 : Int32))] [(.ref a), (.int (3 : Int32))])) rfl rfl (hb hby d4_11) _ k) ?_
  show OwnGo p e below s _ _ _ s₁ (mkF m 12 #[.val (.ref a), .val (.ref b), .val (.int (3 : Int32))] [(.int (3 : Int32)), (.int (3 : Int32))])
  refine OwnGo.st (fun _ k => XS.icmpYes X0.here hx rfl (pc0 := 12) (pc' := 32) rfl (hb hby d4_12) rfl (flt ((by decide) : ¬ ((3 : Int32) < (3 : Int32)))).2.1 (by decide) (by decide) k) ?_
  show OwnGo p e below s _ _ _ s₁ (mkF m 32 #[.val (.ref a), .val (.ref b), .val (.int (3 : Int32))] [])
  refine OwnGo.st (fun _ k => XS.iconst X0.here hx rfl (hb hby d4_32) k) ?_
  show OwnGo p e below s _ _ _ s₁ (mkF m 33 #[.val (.ref a), .val (.ref b), .val (.int (3 : Int32))] [(.int (1 : Int32))])
  exact OwnGo.retN X0 hx (t := .boolean) hret hlk (by simp) (hb hby d4_33) (by show Qle_yes Z a b ka kb h0 n0 _ s₁.heap _; rw [e0]; exact ⟨rfl, N0, rfl⟩) (by decide) (by decide)
def Qse_yes (Z : State) (a : Addr) (b : Addr) (va : Addr) (vb : Addr) (ka : ClassId) (kb : ClassId) (zc : Int32) (h0 : Heap) (n0 : Nat) (v : Option Value) (h : Heap) (L : List Loc) : Prop := v = some (.int (1 : Int32)) ∧ Fr n0 L ∧ h = h0
set_option maxRecDepth 65536 in
set_option maxHeartbeats 40000000 in
theorem rmse_yes (l : Launch) (Z : State) (a0 : Array Value) (hw : ∀ d ∈ tables_1, d.before a0 Z = true) (ws : List Jvm.Cond) (a : Addr) (b : Addr) (va : Addr) (vb : Addr) (ka : ClassId) (kb : ClassId) (zc : Int32) (h0 : Heap) (n0 : Nat) (Z0 : n0 ≤ h0.size) (O_ : Old Z n0 h0) (S_CS : Sta Z Z.heap "java/lang/String" "COMPACT_STRINGS" "Z" (.int zc)) (P_CS : ¬ zc = (0 : Int32)) (E_a : Exa Z h0 a "java/lang/String") (Fc_a : Fld Z h0 a "java/lang/String" "coder" "B" (.int (0 : Int32))) (Fv_a : Fld Z h0 a "java/lang/String" "value" "[B" (.ref va)) (V_a : Arv Z h0 va ka .byte (3 : Int32) [(.int (121 : Int32)), (.int (101 : Int32)), (.int (115 : Int32))] (.int (0 : Int32))) (E_b : Exa Z h0 b "java/lang/String") (Fc_b : Fld Z h0 b "java/lang/String" "coder" "B" (.int (0 : Int32))) (Fv_b : Fld Z h0 b "java/lang/String" "value" "[B" (.ref vb)) (V_b : Arv Z h0 vb kb .byte (3 : Int32) [(.int (121 : Int32)), (.int (101 : Int32)), (.int (115 : Int32))] (.int (0 : Int32))) :
    MetFree l (⟨"java/lang/String", "equals", "(Ljava/lang/Object;)Z"⟩ : MethodName) (head1 (Jvm.Cond.code (⟨"java/lang/String", "equals", "(Ljava/lang/Object;)Z"⟩ : MethodName) jdk_42_method_66_code 3 (some .boolean) :: ws) ({ frames := 1, cells := 0, slots := 0, locals := 14 } : Room)) (fun as_ UU => as_ = #[(.ref a), (.ref b)] ∧ Z.Warmed39 UU.vm ∧ UU.heap = h0) (fun _ _ _ _ _ => True) (fun _ UU oo UU' => ∃ vv LL, oo = .returned vv ∧ (Qse_yes Z a b va vb ka kb zc h0 n0) vv UU'.heap LL ∧ FrameEnd UU oo UU' LL ({ frames := 1, cells := 0, slots := 0, locals := 14 } : Room).cells ({ frames := 1, cells := 0, slots := 0, locals := 14 } : Room).slots) := by
  refine own_met (plainFor_of_name pn_3) ?_
  intro p e s m below meth c s₁ X0 hx hby hml hret hlk hown hnm hZ e0
  have N0 := Fr.nil n0
  have Z_ := Z0
  refine OwnGo.cast (ef_se_yes m a b) ?_
  show OwnGo p e below s _ _ _ s₁ (mkF m 0 #[.val (.ref a), .val (.ref b), .unset] [])
  refine OwnGo.st (fun _ k => XS.aloadN X0.here hx rfl (hb hby d3_0) rfl rfl  k) ?_
  show OwnGo p e below s _ _ _ s₁ (mkF m 1 #[.val (.ref a), .val (.ref b), .unset] [(.ref a)])
  refine OwnGo.st (fun _ k => XS.aloadN X0.here hx rfl (hb hby d3_1) rfl rfl  k) ?_
  show OwnGo p e below s _ _ _ s₁ (mkF m 2 #[.val (.ref a), .val (.ref b), .unset] [(.ref b), (.ref a)])
  by_cases hab : a = b
  · refine OwnGo.st (fun _ k => Jvm.RoadKit.acmp (g := (mkF m 2 #[.val (.ref a), .val (.ref b), .unset] [(.ref b), (.ref a)])) X0 hx rfl rfl rfl (pc0 := 2) (pc' := 5) (same := true) rfl (hb hby d3_2) rfl (decide_eq_true (congrArg Value.ref hab)) (by decide) (by decide) k) ?_
    show OwnGo p e below s _ _ _ s₁ (mkF m 5 #[.val (.ref a), .val (.ref b), .unset] [])
    refine OwnGo.st (fun _ k => XS.iconst X0.here hx rfl (hb hby d3_5) k) ?_
    show OwnGo p e below s _ _ _ s₁ (mkF m 6 #[.val (.ref a), .val (.ref b), .unset] [(.int (1 : Int32))])
    exact OwnGo.retN X0 hx (t := .boolean) hret hlk (by simp) (hb hby d3_6) (by show Qse_yes Z a b va vb ka kb zc h0 n0 _ s₁.heap _; rw [e0]; exact ⟨rfl, N0, rfl⟩) (by decide) (by decide)
  · refine OwnGo.st (fun _ k => Jvm.RoadKit.acmp (g := (mkF m 2 #[.val (.ref a), .val (.ref b), .unset] [(.ref b), (.ref a)])) X0 hx rfl rfl rfl (pc0 := 2) (pc' := 7) (same := false) rfl (hb hby d3_2) rfl (decide_eq_false fun q => hab (Value.ref.inj q)) (by decide) (by decide) k) ?_
    show OwnGo p e below s _ _ _ s₁ (mkF m 7 #[.val (.ref a), .val (.ref b), .unset] [])
    refine OwnGo.st (fun _ k => XS.aloadN X0.here hx rfl (hb hby d3_7) rfl rfl  k) ?_
    show OwnGo p e below s _ _ _ s₁ (mkF m 8 #[.val (.ref a), .val (.ref b), .unset] [(.ref b)])
    obtain ⟨T16, X16, e16, st16⟩ := instY X0 hx hZ hown (hw _ (List.mem_of_getElem? (i := 31) rfl)) e0 (Ins.self E_b) (g := (mkF m 8 #[.val (.ref a), .val (.ref b), .unset] [(.ref b)])) rfl rfl (hb hby d3_8)
    refine OwnGo.st st16 ?_
    show OwnGo p e below s _ _ _ T16 (mkF m 11 #[.val (.ref a), .val (.ref b), .unset] [(.int (1 : Int32))])
    refine OwnGo.st (fun _ k => XS.ifNo X16.here hx rfl (hb hby d3_11) rfl ((if0 _ _).trans (feq ((by decide) : ¬ ((1 : Int32) = (0 : Int32)))).1) k) ?_
    show OwnGo p e below s _ _ _ T16 (mkF m 14 #[.val (.ref a), .val (.ref b), .unset] [])
    refine OwnGo.st (fun _ k => XS.aloadN X16.here hx rfl (hb hby d3_14) rfl rfl  k) ?_
    show OwnGo p e below s _ _ _ T16 (mkF m 15 #[.val (.ref a), .val (.ref b), .unset] [(.ref b)])
    obtain ⟨T17, X17, e17, st17⟩ := castY X16 hx hZ hown (hw _ (List.mem_of_getElem? (i := 31) rfl)) e16 (Ins.self E_b) (g := (mkF m 15 #[.val (.ref a), .val (.ref b), .unset] [(.ref b)])) rfl rfl (hb hby d3_15)
    refine OwnGo.st st17 ?_
    show OwnGo p e below s _ _ _ T17 (mkF m 18 #[.val (.ref a), .val (.ref b), .unset] [(.ref b)])
    refine OwnGo.st (fun _ k => XS.astoreN X17.here hx rfl (hb hby d3_18) rfl rfl (l' := #[.val (.ref a), .val (.ref b), .val (.ref b)]) rfl k) ?_
    show OwnGo p e below s _ _ _ T17 (mkF m 19 #[.val (.ref a), .val (.ref b), .val (.ref b)] [])
    obtain ⟨T18, X18, e18, st18⟩ := getS2 X17 hx hZ hown (host := "") (Or.inl (hw _ (List.mem_of_getElem? (i := 33) rfl))) Via.refl e17 (S_CS.ext O_.2) (g := (mkF m 19 #[.val (.ref a), .val (.ref b), .val (.ref b)] [])) rfl (hb hby d3_19)
    refine OwnGo.st st18 ?_
    show OwnGo p e below s _ _ _ T18 (mkF m 22 #[.val (.ref a), .val (.ref b), .val (.ref b)] [(.int zc)])
    refine OwnGo.st (fun _ k => XS.ifNo X18.here hx rfl (hb hby d3_22) rfl ((if0 _ _).trans (feq (P_CS : ¬ (zc = (0 : Int32)))).1) k) ?_
    show OwnGo p e below s _ _ _ T18 (mkF m 25 #[.val (.ref a), .val (.ref b), .val (.ref b)] [])
    refine OwnGo.st (fun _ k => XS.aloadN X18.here hx rfl (hb hby d3_25) rfl rfl  k) ?_
    show OwnGo p e below s _ _ _ T18 (mkF m 26 #[.val (.ref a), .val (.ref b), .val (.ref b)] [(.ref a)])
    obtain ⟨T19, X19, e19, st19⟩ := getF X18 hx hZ hown (host := "") (Or.inl (hw _ (List.mem_of_getElem? (i := 34) rfl))) Via.refl e18 Fc_a (g := (mkF m 26 #[.val (.ref a), .val (.ref b), .val (.ref b)] [(.ref a)])) rfl rfl (hb hby d3_26)
    refine OwnGo.st st19 ?_
    show OwnGo p e below s _ _ _ T19 (mkF m 29 #[.val (.ref a), .val (.ref b), .val (.ref b)] [(.int (0 : Int32))])
    refine OwnGo.st (fun _ k => XS.aloadN X19.here hx rfl (hb hby d3_29) rfl rfl  k) ?_
    show OwnGo p e below s _ _ _ T19 (mkF m 30 #[.val (.ref a), .val (.ref b), .val (.ref b)] [(.ref b), (.int (0 : Int32))])
    obtain ⟨T20, X20, e20, st20⟩ := getF X19 hx hZ hown (host := "") (Or.inl (hw _ (List.mem_of_getElem? (i := 34) rfl))) Via.refl e19 Fc_b (g := (mkF m 30 #[.val (.ref a), .val (.ref b), .val (.ref b)] [(.ref b), (.int (0 : Int32))])) rfl rfl (hb hby d3_30)
    refine OwnGo.st st20 ?_
    show OwnGo p e below s _ _ _ T20 (mkF m 33 #[.val (.ref a), .val (.ref b), .val (.ref b)] [(.int (0 : Int32)), (.int (0 : Int32))])
    refine OwnGo.st (fun _ k => XS.icmpNo X20.here hx rfl (hb hby d3_33) rfl (teq (rfl : (0 : Int32) = (0 : Int32))).2 k) ?_
    show OwnGo p e below s _ _ _ T20 (mkF m 36 #[.val (.ref a), .val (.ref b), .val (.ref b)] [])
    refine OwnGo.st (fun _ k => XS.aloadN X20.here hx rfl (hb hby d3_36) rfl rfl  k) ?_
    show OwnGo p e below s _ _ _ T20 (mkF m 37 #[.val (.ref a), .val (.ref b), .val (.ref b)] [(.ref a)])
    obtain ⟨T21, X21, e21, st21⟩ := getF X20 hx hZ hown (host := "") (Or.inl (hw _ (List.mem_of_getElem? (i := 35) rfl))) Via.refl e20 Fv_a (g := (mkF m 37 #[.val (.ref a), .val (.ref b), .val (.ref b)] [(.ref a)])) rfl rfl (hb hby d3_37)
    refine OwnGo.st st21 ?_
    show OwnGo p e below s _ _ _ T21 (mkF m 40 #[.val (.ref a), .val (.ref b), .val (.ref b)] [(.ref va)])
    refine OwnGo.st (fun _ k => XS.aloadN X21.here hx rfl (hb hby d3_40) rfl rfl  k) ?_
    show OwnGo p e below s _ _ _ T21 (mkF m 41 #[.val (.ref a), .val (.ref b), .val (.ref b)] [(.ref b), (.ref va)])
    obtain ⟨T22, X22, e22, st22⟩ := getF X21 hx hZ hown (host := "") (Or.inl (hw _ (List.mem_of_getElem? (i := 35) rfl))) Via.refl e21 Fv_b (g := (mkF m 41 #[.val (.ref a), .val (.ref b), .val (.ref b)] [(.ref b), (.ref va)])) rfl rfl (hb hby d3_41)
    refine OwnGo.st st22 ?_
    show OwnGo p e below s _ _ _ T22 (mkF m 44 #[.val (.ref a), .val (.ref b), .val (.ref b)] [(.ref vb), (.ref va)])
    obtain ⟨_, _, ⟨T23, L23, k23, n23⟩, -, X23, ⟨Lc23, hQ23, l23, y23, z23⟩, st23⟩ := Jvm.LawKit.callS X22 hx (y := (⟨"java/lang/StringLatin1", "equals", "([B[B)Z"⟩ : MethodName)) hown (mvT hZ (hw _ (List.mem_of_getElem? (i := 36) rfl))) (mvT hZ (hw _ (List.mem_of_getElem? (i := 37) rfl))) (mvT hZ (hw _ (List.mem_of_getElem? (i := 38) rfl))) (mvT hZ (hw _ (List.mem_of_getElem? (i := 39) rfl))) (by decide) (backOf (W := 0) (rmle_yes l Z a0 hw [] va vb ka kb h0 n0 Z_ V_a V_b) hZ (hw _ (List.mem_of_getElem? (i := 39) rfl)) (hw _ (List.mem_of_getElem? (i := 38) rfl)) (by decide) (by decide)) (g := (mkF m 44 #[.val (.ref a), .val (.ref b), .val (.ref b)] [(.ref vb), (.ref va)])) rfl (by rw [hml]; rfl) (argsL := [(.ref va), (.ref vb)]) (rest := []) (lenOf pd_0 rfl) rfl (by show 2 * 0 + _ ≤ _; exact Nat.le_of_eq rfl) (hb hby d3_44) (fun _ _ => ⟨rfl, e22, (by decide : 0 + 0 ≤ _), (by decide : 0 + 0 ≤ _)⟩)
    dsimp only [Pt.U, Pt.locs, Pt.cells, Pt.slots] at X23 l23 y23 z23 st23 hQ23
    subst l23 y23 z23
    obtain ⟨rfl, N23q, e23⟩ := hQ23
    have N23 := Fr.app N0 N23q
    refine OwnGo.st st23 ?_
    show OwnGo p e below s _ _ _ T23 (mkF m 47 #[.val (.ref a), .val (.ref b), .val (.ref b)] [(.int (1 : Int32))])
    refine OwnGo.st (fun _ k => XS.ifNo X23.here hx rfl (hb hby d3_47) rfl ((if0 _ _).trans (feq ((by decide) : ¬ ((1 : Int32) = (0 : Int32)))).1) k) ?_
    show OwnGo p e below s _ _ _ T23 (mkF m 50 #[.val (.ref a), .val (.ref b), .val (.ref b)] [])
    refine OwnGo.st (fun _ k => XS.iconst X23.here hx rfl (hb hby d3_50) k) ?_
    show OwnGo p e below s _ _ _ T23 (mkF m 51 #[.val (.ref a), .val (.ref b), .val (.ref b)] [(.int (1 : Int32))])
    refine OwnGo.st (fun _ k => XS.goto X23.here hx rfl (pc0 := 51) (pc' := 55) rfl (hb hby d3_51) (by decide) (by decide) k) ?_
    show OwnGo p e below s _ _ _ T23 (mkF m 55 #[.val (.ref a), .val (.ref b), .val (.ref b)] [(.int (1 : Int32))])
    exact OwnGo.retN X23 hx (t := .boolean) hret hlk (by simp) (hb hby d3_55) (by show Qse_yes Z a b va vb ka kb zc h0 n0 _ T23.heap _; rw [e23]; exact ⟨rfl, N23, rfl⟩) (by decide) (by decide)
def Qle_no (Z : State) (a : Addr) (b : Addr) (ka : ClassId) (kb : ClassId) (h0 : Heap) (n0 : Nat) (v : Option Value) (h : Heap) (L : List Loc) : Prop := v = some (.int (1 : Int32)) ∧ Fr n0 L ∧ h = h0
set_option maxRecDepth 65536 in
set_option maxHeartbeats 40000000 in
theorem rmle_no (l : Launch) (Z : State) (a0 : Array Value) (hw : ∀ d ∈ tables_1, d.before a0 Z = true) (ws : List Jvm.Cond) (a : Addr) (b : Addr) (ka : ClassId) (kb : ClassId) (h0 : Heap) (n0 : Nat) (Z0 : n0 ≤ h0.size) (V_a : Arv Z h0 a ka .byte (2 : Int32) [(.int (110 : Int32)), (.int (111 : Int32))] (.int (0 : Int32))) (V_b : Arv Z h0 b kb .byte (2 : Int32) [(.int (110 : Int32)), (.int (111 : Int32))] (.int (0 : Int32))) :
    MetFree l (⟨"java/lang/StringLatin1", "equals", "([B[B)Z"⟩ : MethodName) (head1 (Jvm.Cond.code (⟨"java/lang/StringLatin1", "equals", "([B[B)Z"⟩ : MethodName) jdk_43_method_13_code 3 (some .boolean) :: ws) ({ frames := 0, cells := 0, slots := 0, locals := 0 } : Room)) (fun as_ UU => as_ = #[(.ref a), (.ref b)] ∧ Z.Warmed39 UU.vm ∧ UU.heap = h0) (fun _ _ _ _ _ => True) (fun _ UU oo UU' => ∃ vv LL, oo = .returned vv ∧ (Qle_no Z a b ka kb h0 n0) vv UU'.heap LL ∧ FrameEnd UU oo UU' LL ({ frames := 0, cells := 0, slots := 0, locals := 0 } : Room).cells ({ frames := 0, cells := 0, slots := 0, locals := 0 } : Room).slots) := by
  refine own_met (plainFor_of_name pn_4) ?_
  intro p e s m below meth c s₁ X0 hx hby hml hret hlk hown hnm hZ e0
  have N0 := Fr.nil n0
  have Z_ := Z0
  refine OwnGo.cast (ef_le_no m a b) ?_
  show OwnGo p e below s _ _ _ s₁ (mkF m 0 #[.val (.ref a), .val (.ref b), .unset] [])
  refine OwnGo.st (fun _ k => XS.aloadN X0.here hx rfl (hb hby d4_0) rfl rfl  k) ?_
  show OwnGo p e below s _ _ _ s₁ (mkF m 1 #[.val (.ref a), .val (.ref b), .unset] [(.ref a)])
  obtain ⟨cl24, Ar24, -, S24, N24, -, -⟩ := id V_a
  refine OwnGo.st (fun _ k => own_len hZ (len_of S24 N24) Ar24 X0 e0 hx (g := (mkF m 1 #[.val (.ref a), .val (.ref b), .unset] [(.ref a)])) rfl rfl (hb hby d4_1) _ k) ?_
  show OwnGo p e below s _ _ _ s₁ (mkF m 2 #[.val (.ref a), .val (.ref b), .unset] [(.int (2 : Int32))])
  refine OwnGo.st (fun _ k => XS.aloadN X0.here hx rfl (hb hby d4_2) rfl rfl  k) ?_
  show OwnGo p e below s _ _ _ s₁ (mkF m 3 #[.val (.ref a), .val (.ref b), .unset] [(.ref b), (.int (2 : Int32))])
  obtain ⟨cl25, Ar25, -, S25, N25, -, -⟩ := id V_b
  refine OwnGo.st (fun _ k => own_len hZ (len_of S25 N25) Ar25 X0 e0 hx (g := (mkF m 3 #[.val (.ref a), .val (.ref b), .unset] [(.ref b), (.int (2 : Int32))])) rfl rfl (hb hby d4_3) _ k) ?_
  show OwnGo p e below s _ _ _ s₁ (mkF m 4 #[.val (.ref a), .val (.ref b), .unset] [(.int (2 : Int32)), (.int (2 : Int32))])
  refine OwnGo.st (fun _ k => XS.icmpNo X0.here hx rfl (hb hby d4_4) rfl (teq (rfl : (2 : Int32) = (2 : Int32))).2 k) ?_
  show OwnGo p e below s _ _ _ s₁ (mkF m 7 #[.val (.ref a), .val (.ref b), .unset] [])
  refine OwnGo.st (fun _ k => XS.iconst X0.here hx rfl (hb hby d4_7) k) ?_
  show OwnGo p e below s _ _ _ s₁ (mkF m 8 #[.val (.ref a), .val (.ref b), .unset] [(.int (0 : Int32))])
  refine OwnGo.st (fun _ k => XS.istoreN X0.here hx rfl (hb hby d4_8) rfl (l' := #[.val (.ref a), .val (.ref b), .val (.int (0 : Int32))]) rfl k) ?_
  show OwnGo p e below s _ _ _ s₁ (mkF m 9 #[.val (.ref a), .val (.ref b), .val (.int (0 : Int32))] [])
  refine OwnGo.st (fun _ k => XS.iloadN X0.here hx rfl (hb hby d4_9) rfl  k) ?_
  show OwnGo p e below s _ _ _ s₁ (mkF m 10 #[.val (.ref a), .val (.ref b), .val (.int (0 : Int32))] [(.int (0 : Int32))])
  refine OwnGo.st (fun _ k => XS.aloadN X0.here hx rfl (hb hby d4_10) rfl rfl  k) ?_
  show OwnGo p e below s _ _ _ s₁ (mkF m 11 #[.val (.ref a), .val (.ref b), .val (.int (0 : Int32))] [(.ref a), (.int (0 : Int32))])
  obtain ⟨cl26, Ar26, -, S26, N26, -, -⟩ := id V_a
  refine OwnGo.st (fun _ k => own_len hZ (len_of S26 N26) Ar26 X0 e0 hx (g := (mkF m 11 #[.val (.ref a), .val (.ref b), .val (.int (0 : Int32))] [(.ref a), (.int (0 : Int32))])) rfl rfl (hb hby d4_11) _ k) ?_
  show OwnGo p e below s _ _ _ s₁ (mkF m 12 #[.val (.ref a), .val (.ref b), .val (.int (0 : Int32))] [(.int (2 : Int32)), (.int (0 : Int32))])
  refine OwnGo.st (fun _ k => XS.icmpNo X0.here hx rfl (hb hby d4_12) rfl (tlt ((by decide) : (0 : Int32) < (2 : Int32))).2.1 k) ?_
  show OwnGo p e below s _ _ _ s₁ (mkF m 15 #[.val (.ref a), .val (.ref b), .val (.int (0 : Int32))] [])
  refine OwnGo.st (fun _ k => XS.aloadN X0.here hx rfl (hb hby d4_15) rfl rfl  k) ?_
  show OwnGo p e below s _ _ _ s₁ (mkF m 16 #[.val (.ref a), .val (.ref b), .val (.int (0 : Int32))] [(.ref a)])
  refine OwnGo.st (fun _ k => XS.iloadN X0.here hx rfl (hb hby d4_16) rfl  k) ?_
  show OwnGo p e below s _ _ _ s₁ (mkF m 17 #[.val (.ref a), .val (.ref b), .val (.int (0 : Int32))] [(.int (0 : Int32)), (.ref a)])
  obtain ⟨cl27, Ar27, -, S27, -, H27, -⟩ := id V_a
  have hin27 : ¬ ((0 : Int32) < 0 ∨ cl27.slots.size ≤ ((0 : Int32)).toNatClampNeg) := inb_of S27 ⟨by decide, by decide⟩
  refine OwnGo.st (fun _ k => X0.baloadBytes hx (j := (0 : Int32)) (v := (.int (110 : Int32))) (by rw [e0]; exact Ar27.1) (State.isArrayOf_alike hZ.alike Ar27.2.1) Ar27.2.2 hin27 (H27.at hin27 rfl) (g := (mkF m 17 #[.val (.ref a), .val (.ref b), .val (.int (0 : Int32))] [(.int (0 : Int32)), (.ref a)])) rfl rfl (hb hby d4_17) _ k) ?_
  show OwnGo p e below s _ _ _ s₁ (mkF m 18 #[.val (.ref a), .val (.ref b), .val (.int (0 : Int32))] [(.int (110 : Int32))])
  refine OwnGo.st (fun _ k => XS.aloadN X0.here hx rfl (hb hby d4_18) rfl rfl  k) ?_
  show OwnGo p e below s _ _ _ s₁ (mkF m 19 #[.val (.ref a), .val (.ref b), .val (.int (0 : Int32))] [(.ref b), (.int (110 : Int32))])
  refine OwnGo.st (fun _ k => XS.iloadN X0.here hx rfl (hb hby d4_19) rfl  k) ?_
  show OwnGo p e below s _ _ _ s₁ (mkF m 20 #[.val (.ref a), .val (.ref b), .val (.int (0 : Int32))] [(.int (0 : Int32)), (.ref b), (.int (110 : Int32))])
  obtain ⟨cl28, Ar28, -, S28, -, H28, -⟩ := id V_b
  have hin28 : ¬ ((0 : Int32) < 0 ∨ cl28.slots.size ≤ ((0 : Int32)).toNatClampNeg) := inb_of S28 ⟨by decide, by decide⟩
  refine OwnGo.st (fun _ k => X0.baloadBytes hx (j := (0 : Int32)) (v := (.int (110 : Int32))) (by rw [e0]; exact Ar28.1) (State.isArrayOf_alike hZ.alike Ar28.2.1) Ar28.2.2 hin28 (H28.at hin28 rfl) (g := (mkF m 20 #[.val (.ref a), .val (.ref b), .val (.int (0 : Int32))] [(.int (0 : Int32)), (.ref b), (.int (110 : Int32))])) rfl rfl (hb hby d4_20) _ k) ?_
  show OwnGo p e below s _ _ _ s₁ (mkF m 21 #[.val (.ref a), .val (.ref b), .val (.int (0 : Int32))] [(.int (110 : Int32)), (.int (110 : Int32))])
  refine OwnGo.st (fun _ k => XS.icmpYes X0.here hx rfl (pc0 := 21) (pc' := 26) rfl (hb hby d4_21) rfl (teq (rfl : (110 : Int32) = (110 : Int32))).1 (by decide) (by decide) k) ?_
  show OwnGo p e below s _ _ _ s₁ (mkF m 26 #[.val (.ref a), .val (.ref b), .val (.int (0 : Int32))] [])
  refine OwnGo.st (fun _ k => XS.iinc X0.here hx rfl (hb hby d4_26) rfl (l' := #[.val (.ref a), .val (.ref b), .val (.int ((0 : Int32) + (1 : Int32)))]) rfl k) ?_
  show OwnGo p e below s _ _ _ s₁ (mkF m 29 #[.val (.ref a), .val (.ref b), .val (.int ((0 : Int32) + (1 : Int32)))] [])
  show OwnGo p e below s _ _ _ s₁ (mkF m 29 #[.val (.ref a), .val (.ref b), .val (.int (1 : Int32))] [])
  refine OwnGo.st (fun _ k => XS.goto X0.here hx rfl (pc0 := 29) (pc' := 9) rfl (hb hby d4_29) (by decide) (by decide) k) ?_
  show OwnGo p e below s _ _ _ s₁ (mkF m 9 #[.val (.ref a), .val (.ref b), .val (.int (1 : Int32))] [])
  refine OwnGo.st (fun _ k => XS.iloadN X0.here hx rfl (hb hby d4_9) rfl  k) ?_
  show OwnGo p e below s _ _ _ s₁ (mkF m 10 #[.val (.ref a), .val (.ref b), .val (.int (1 : Int32))] [(.int (1 : Int32))])
  refine OwnGo.st (fun _ k => XS.aloadN X0.here hx rfl (hb hby d4_10) rfl rfl  k) ?_
  show OwnGo p e below s _ _ _ s₁ (mkF m 11 #[.val (.ref a), .val (.ref b), .val (.int (1 : Int32))] [(.ref a), (.int (1 : Int32))])
  obtain ⟨cl29, Ar29, -, S29, N29, -, -⟩ := id V_a
  refine OwnGo.st (fun _ k => own_len hZ (len_of S29 N29) Ar29 X0 e0 hx (g := (mkF m 11 #[.val (.ref a), .val (.ref b), .val (.int (1 : Int32))] [(.ref a), (.int (1 : Int32))])) rfl rfl (hb hby d4_11) _ k) ?_
  show OwnGo p e below s _ _ _ s₁ (mkF m 12 #[.val (.ref a), .val (.ref b), .val (.int (1 : Int32))] [(.int (2 : Int32)), (.int (1 : Int32))])
  refine OwnGo.st (fun _ k => XS.icmpNo X0.here hx rfl (hb hby d4_12) rfl (tlt ((by decide) : (1 : Int32) < (2 : Int32))).2.1 k) ?_
  show OwnGo p e below s _ _ _ s₁ (mkF m 15 #[.val (.ref a), .val (.ref b), .val (.int (1 : Int32))] [])
  refine OwnGo.st (fun _ k => XS.aloadN X0.here hx rfl (hb hby d4_15) rfl rfl  k) ?_
  show OwnGo p e below s _ _ _ s₁ (mkF m 16 #[.val (.ref a), .val (.ref b), .val (.int (1 : Int32))] [(.ref a)])
  refine OwnGo.st (fun _ k => XS.iloadN X0.here hx rfl (hb hby d4_16) rfl  k) ?_
  show OwnGo p e below s _ _ _ s₁ (mkF m 17 #[.val (.ref a), .val (.ref b), .val (.int (1 : Int32))] [(.int (1 : Int32)), (.ref a)])
  obtain ⟨cl30, Ar30, -, S30, -, H30, -⟩ := id V_a
  have hin30 : ¬ ((1 : Int32) < 0 ∨ cl30.slots.size ≤ ((1 : Int32)).toNatClampNeg) := inb_of S30 ⟨by decide, by decide⟩
  refine OwnGo.st (fun _ k => X0.baloadBytes hx (j := (1 : Int32)) (v := (.int (111 : Int32))) (by rw [e0]; exact Ar30.1) (State.isArrayOf_alike hZ.alike Ar30.2.1) Ar30.2.2 hin30 (H30.at hin30 rfl) (g := (mkF m 17 #[.val (.ref a), .val (.ref b), .val (.int (1 : Int32))] [(.int (1 : Int32)), (.ref a)])) rfl rfl (hb hby d4_17) _ k) ?_
  show OwnGo p e below s _ _ _ s₁ (mkF m 18 #[.val (.ref a), .val (.ref b), .val (.int (1 : Int32))] [(.int (111 : Int32))])
  refine OwnGo.st (fun _ k => XS.aloadN X0.here hx rfl (hb hby d4_18) rfl rfl  k) ?_
  show OwnGo p e below s _ _ _ s₁ (mkF m 19 #[.val (.ref a), .val (.ref b), .val (.int (1 : Int32))] [(.ref b), (.int (111 : Int32))])
  refine OwnGo.st (fun _ k => XS.iloadN X0.here hx rfl (hb hby d4_19) rfl  k) ?_
  show OwnGo p e below s _ _ _ s₁ (mkF m 20 #[.val (.ref a), .val (.ref b), .val (.int (1 : Int32))] [(.int (1 : Int32)), (.ref b), (.int (111 : Int32))])
  obtain ⟨cl31, Ar31, -, S31, -, H31, -⟩ := id V_b
  have hin31 : ¬ ((1 : Int32) < 0 ∨ cl31.slots.size ≤ ((1 : Int32)).toNatClampNeg) := inb_of S31 ⟨by decide, by decide⟩
  refine OwnGo.st (fun _ k => X0.baloadBytes hx (j := (1 : Int32)) (v := (.int (111 : Int32))) (by rw [e0]; exact Ar31.1) (State.isArrayOf_alike hZ.alike Ar31.2.1) Ar31.2.2 hin31 (H31.at hin31 rfl) (g := (mkF m 20 #[.val (.ref a), .val (.ref b), .val (.int (1 : Int32))] [(.int (1 : Int32)), (.ref b), (.int (111 : Int32))])) rfl rfl (hb hby d4_20) _ k) ?_
  show OwnGo p e below s _ _ _ s₁ (mkF m 21 #[.val (.ref a), .val (.ref b), .val (.int (1 : Int32))] [(.int (111 : Int32)), (.int (111 : Int32))])
  refine OwnGo.st (fun _ k => XS.icmpYes X0.here hx rfl (pc0 := 21) (pc' := 26) rfl (hb hby d4_21) rfl (teq (rfl : (111 : Int32) = (111 : Int32))).1 (by decide) (by decide) k) ?_
  show OwnGo p e below s _ _ _ s₁ (mkF m 26 #[.val (.ref a), .val (.ref b), .val (.int (1 : Int32))] [])
  refine OwnGo.st (fun _ k => XS.iinc X0.here hx rfl (hb hby d4_26) rfl (l' := #[.val (.ref a), .val (.ref b), .val (.int ((1 : Int32) + (1 : Int32)))]) rfl k) ?_
  show OwnGo p e below s _ _ _ s₁ (mkF m 29 #[.val (.ref a), .val (.ref b), .val (.int ((1 : Int32) + (1 : Int32)))] [])
  show OwnGo p e below s _ _ _ s₁ (mkF m 29 #[.val (.ref a), .val (.ref b), .val (.int (2 : Int32))] [])
  refine OwnGo.st (fun _ k => XS.goto X0.here hx rfl (pc0 := 29) (pc' := 9) rfl (hb hby d4_29) (by decide) (by decide) k) ?_
  show OwnGo p e below s _ _ _ s₁ (mkF m 9 #[.val (.ref a), .val (.ref b), .val (.int (2 : Int32))] [])
  refine OwnGo.st (fun _ k => XS.iloadN X0.here hx rfl (hb hby d4_9) rfl  k) ?_
  show OwnGo p e below s _ _ _ s₁ (mkF m 10 #[.val (.ref a), .val (.ref b), .val (.int (2 : Int32))] [(.int (2 : Int32))])
  refine OwnGo.st (fun _ k => XS.aloadN X0.here hx rfl (hb hby d4_10) rfl rfl  k) ?_
  show OwnGo p e below s _ _ _ s₁ (mkF m 11 #[.val (.ref a), .val (.ref b), .val (.int (2 : Int32))] [(.ref a), (.int (2 : Int32))])
  obtain ⟨cl32, Ar32, -, S32, N32, -, -⟩ := id V_a
  refine OwnGo.st (fun _ k => own_len hZ (len_of S32 N32) Ar32 X0 e0 hx (g := (mkF m 11 #[.val (.ref a), .val (.ref b), .val (.int (2 : Int32))] [(.ref a), (.int (2 : Int32))])) rfl rfl (hb hby d4_11) _ k) ?_
  show OwnGo p e below s _ _ _ s₁ (mkF m 12 #[.val (.ref a), .val (.ref b), .val (.int (2 : Int32))] [(.int (2 : Int32)), (.int (2 : Int32))])
  refine OwnGo.st (fun _ k => XS.icmpYes X0.here hx rfl (pc0 := 12) (pc' := 32) rfl (hb hby d4_12) rfl (flt ((by decide) : ¬ ((2 : Int32) < (2 : Int32)))).2.1 (by decide) (by decide) k) ?_
  show OwnGo p e below s _ _ _ s₁ (mkF m 32 #[.val (.ref a), .val (.ref b), .val (.int (2 : Int32))] [])
  refine OwnGo.st (fun _ k => XS.iconst X0.here hx rfl (hb hby d4_32) k) ?_
  show OwnGo p e below s _ _ _ s₁ (mkF m 33 #[.val (.ref a), .val (.ref b), .val (.int (2 : Int32))] [(.int (1 : Int32))])
  exact OwnGo.retN X0 hx (t := .boolean) hret hlk (by simp) (hb hby d4_33) (by show Qle_no Z a b ka kb h0 n0 _ s₁.heap _; rw [e0]; exact ⟨rfl, N0, rfl⟩) (by decide) (by decide)
def Qse_no (Z : State) (a : Addr) (b : Addr) (va : Addr) (vb : Addr) (ka : ClassId) (kb : ClassId) (zc : Int32) (h0 : Heap) (n0 : Nat) (v : Option Value) (h : Heap) (L : List Loc) : Prop := v = some (.int (1 : Int32)) ∧ Fr n0 L ∧ h = h0
set_option maxRecDepth 65536 in
set_option maxHeartbeats 40000000 in
theorem rmse_no (l : Launch) (Z : State) (a0 : Array Value) (hw : ∀ d ∈ tables_1, d.before a0 Z = true) (ws : List Jvm.Cond) (a : Addr) (b : Addr) (va : Addr) (vb : Addr) (ka : ClassId) (kb : ClassId) (zc : Int32) (h0 : Heap) (n0 : Nat) (Z0 : n0 ≤ h0.size) (O_ : Old Z n0 h0) (S_CS : Sta Z Z.heap "java/lang/String" "COMPACT_STRINGS" "Z" (.int zc)) (P_CS : ¬ zc = (0 : Int32)) (E_a : Exa Z h0 a "java/lang/String") (Fc_a : Fld Z h0 a "java/lang/String" "coder" "B" (.int (0 : Int32))) (Fv_a : Fld Z h0 a "java/lang/String" "value" "[B" (.ref va)) (V_a : Arv Z h0 va ka .byte (2 : Int32) [(.int (110 : Int32)), (.int (111 : Int32))] (.int (0 : Int32))) (E_b : Exa Z h0 b "java/lang/String") (Fc_b : Fld Z h0 b "java/lang/String" "coder" "B" (.int (0 : Int32))) (Fv_b : Fld Z h0 b "java/lang/String" "value" "[B" (.ref vb)) (V_b : Arv Z h0 vb kb .byte (2 : Int32) [(.int (110 : Int32)), (.int (111 : Int32))] (.int (0 : Int32))) :
    MetFree l (⟨"java/lang/String", "equals", "(Ljava/lang/Object;)Z"⟩ : MethodName) (head1 (Jvm.Cond.code (⟨"java/lang/String", "equals", "(Ljava/lang/Object;)Z"⟩ : MethodName) jdk_42_method_66_code 3 (some .boolean) :: ws) ({ frames := 1, cells := 0, slots := 0, locals := 14 } : Room)) (fun as_ UU => as_ = #[(.ref a), (.ref b)] ∧ Z.Warmed39 UU.vm ∧ UU.heap = h0) (fun _ _ _ _ _ => True) (fun _ UU oo UU' => ∃ vv LL, oo = .returned vv ∧ (Qse_no Z a b va vb ka kb zc h0 n0) vv UU'.heap LL ∧ FrameEnd UU oo UU' LL ({ frames := 1, cells := 0, slots := 0, locals := 14 } : Room).cells ({ frames := 1, cells := 0, slots := 0, locals := 14 } : Room).slots) := by
  refine own_met (plainFor_of_name pn_3) ?_
  intro p e s m below meth c s₁ X0 hx hby hml hret hlk hown hnm hZ e0
  have N0 := Fr.nil n0
  have Z_ := Z0
  refine OwnGo.cast (ef_se_no m a b) ?_
  show OwnGo p e below s _ _ _ s₁ (mkF m 0 #[.val (.ref a), .val (.ref b), .unset] [])
  refine OwnGo.st (fun _ k => XS.aloadN X0.here hx rfl (hb hby d3_0) rfl rfl  k) ?_
  show OwnGo p e below s _ _ _ s₁ (mkF m 1 #[.val (.ref a), .val (.ref b), .unset] [(.ref a)])
  refine OwnGo.st (fun _ k => XS.aloadN X0.here hx rfl (hb hby d3_1) rfl rfl  k) ?_
  show OwnGo p e below s _ _ _ s₁ (mkF m 2 #[.val (.ref a), .val (.ref b), .unset] [(.ref b), (.ref a)])
  by_cases hab : a = b
  · refine OwnGo.st (fun _ k => Jvm.RoadKit.acmp (g := (mkF m 2 #[.val (.ref a), .val (.ref b), .unset] [(.ref b), (.ref a)])) X0 hx rfl rfl rfl (pc0 := 2) (pc' := 5) (same := true) rfl (hb hby d3_2) rfl (decide_eq_true (congrArg Value.ref hab)) (by decide) (by decide) k) ?_
    show OwnGo p e below s _ _ _ s₁ (mkF m 5 #[.val (.ref a), .val (.ref b), .unset] [])
    refine OwnGo.st (fun _ k => XS.iconst X0.here hx rfl (hb hby d3_5) k) ?_
    show OwnGo p e below s _ _ _ s₁ (mkF m 6 #[.val (.ref a), .val (.ref b), .unset] [(.int (1 : Int32))])
    exact OwnGo.retN X0 hx (t := .boolean) hret hlk (by simp) (hb hby d3_6) (by show Qse_no Z a b va vb ka kb zc h0 n0 _ s₁.heap _; rw [e0]; exact ⟨rfl, N0, rfl⟩) (by decide) (by decide)
  · refine OwnGo.st (fun _ k => Jvm.RoadKit.acmp (g := (mkF m 2 #[.val (.ref a), .val (.ref b), .unset] [(.ref b), (.ref a)])) X0 hx rfl rfl rfl (pc0 := 2) (pc' := 7) (same := false) rfl (hb hby d3_2) rfl (decide_eq_false fun q => hab (Value.ref.inj q)) (by decide) (by decide) k) ?_
    show OwnGo p e below s _ _ _ s₁ (mkF m 7 #[.val (.ref a), .val (.ref b), .unset] [])
    refine OwnGo.st (fun _ k => XS.aloadN X0.here hx rfl (hb hby d3_7) rfl rfl  k) ?_
    show OwnGo p e below s _ _ _ s₁ (mkF m 8 #[.val (.ref a), .val (.ref b), .unset] [(.ref b)])
    obtain ⟨T33, X33, e33, st33⟩ := instY X0 hx hZ hown (hw _ (List.mem_of_getElem? (i := 31) rfl)) e0 (Ins.self E_b) (g := (mkF m 8 #[.val (.ref a), .val (.ref b), .unset] [(.ref b)])) rfl rfl (hb hby d3_8)
    refine OwnGo.st st33 ?_
    show OwnGo p e below s _ _ _ T33 (mkF m 11 #[.val (.ref a), .val (.ref b), .unset] [(.int (1 : Int32))])
    refine OwnGo.st (fun _ k => XS.ifNo X33.here hx rfl (hb hby d3_11) rfl ((if0 _ _).trans (feq ((by decide) : ¬ ((1 : Int32) = (0 : Int32)))).1) k) ?_
    show OwnGo p e below s _ _ _ T33 (mkF m 14 #[.val (.ref a), .val (.ref b), .unset] [])
    refine OwnGo.st (fun _ k => XS.aloadN X33.here hx rfl (hb hby d3_14) rfl rfl  k) ?_
    show OwnGo p e below s _ _ _ T33 (mkF m 15 #[.val (.ref a), .val (.ref b), .unset] [(.ref b)])
    obtain ⟨T34, X34, e34, st34⟩ := castY X33 hx hZ hown (hw _ (List.mem_of_getElem? (i := 31) rfl)) e33 (Ins.self E_b) (g := (mkF m 15 #[.val (.ref a), .val (.ref b), .unset] [(.ref b)])) rfl rfl (hb hby d3_15)
    refine OwnGo.st st34 ?_
    show OwnGo p e below s _ _ _ T34 (mkF m 18 #[.val (.ref a), .val (.ref b), .unset] [(.ref b)])
    refine OwnGo.st (fun _ k => XS.astoreN X34.here hx rfl (hb hby d3_18) rfl rfl (l' := #[.val (.ref a), .val (.ref b), .val (.ref b)]) rfl k) ?_
    show OwnGo p e below s _ _ _ T34 (mkF m 19 #[.val (.ref a), .val (.ref b), .val (.ref b)] [])
    obtain ⟨T35, X35, e35, st35⟩ := getS2 X34 hx hZ hown (host := "") (Or.inl (hw _ (List.mem_of_getElem? (i := 33) rfl))) Via.refl e34 (S_CS.ext O_.2) (g := (mkF m 19 #[.val (.ref a), .val (.ref b), .val (.ref b)] [])) rfl (hb hby d3_19)
    refine OwnGo.st st35 ?_
    show OwnGo p e below s _ _ _ T35 (mkF m 22 #[.val (.ref a), .val (.ref b), .val (.ref b)] [(.int zc)])
    refine OwnGo.st (fun _ k => XS.ifNo X35.here hx rfl (hb hby d3_22) rfl ((if0 _ _).trans (feq (P_CS : ¬ (zc = (0 : Int32)))).1) k) ?_
    show OwnGo p e below s _ _ _ T35 (mkF m 25 #[.val (.ref a), .val (.ref b), .val (.ref b)] [])
    refine OwnGo.st (fun _ k => XS.aloadN X35.here hx rfl (hb hby d3_25) rfl rfl  k) ?_
    show OwnGo p e below s _ _ _ T35 (mkF m 26 #[.val (.ref a), .val (.ref b), .val (.ref b)] [(.ref a)])
    obtain ⟨T36, X36, e36, st36⟩ := getF X35 hx hZ hown (host := "") (Or.inl (hw _ (List.mem_of_getElem? (i := 34) rfl))) Via.refl e35 Fc_a (g := (mkF m 26 #[.val (.ref a), .val (.ref b), .val (.ref b)] [(.ref a)])) rfl rfl (hb hby d3_26)
    refine OwnGo.st st36 ?_
    show OwnGo p e below s _ _ _ T36 (mkF m 29 #[.val (.ref a), .val (.ref b), .val (.ref b)] [(.int (0 : Int32))])
    refine OwnGo.st (fun _ k => XS.aloadN X36.here hx rfl (hb hby d3_29) rfl rfl  k) ?_
    show OwnGo p e below s _ _ _ T36 (mkF m 30 #[.val (.ref a), .val (.ref b), .val (.ref b)] [(.ref b), (.int (0 : Int32))])
    obtain ⟨T37, X37, e37, st37⟩ := getF X36 hx hZ hown (host := "") (Or.inl (hw _ (List.mem_of_getElem? (i := 34) rfl))) Via.refl e36 Fc_b (g := (mkF m 30 #[.val (.ref a), .val (.ref b), .val (.ref b)] [(.ref b), (.int (0 : Int32))])) rfl rfl (hb hby d3_30)
    refine OwnGo.st st37 ?_
    show OwnGo p e below s _ _ _ T37 (mkF m 33 #[.val (.ref a), .val (.ref b), .val (.ref b)] [(.int (0 : Int32)), (.int (0 : Int32))])
    refine OwnGo.st (fun _ k => XS.icmpNo X37.here hx rfl (hb hby d3_33) rfl (teq (rfl : (0 : Int32) = (0 : Int32))).2 k) ?_
    show OwnGo p e below s _ _ _ T37 (mkF m 36 #[.val (.ref a), .val (.ref b), .val (.ref b)] [])
    refine OwnGo.st (fun _ k => XS.aloadN X37.here hx rfl (hb hby d3_36) rfl rfl  k) ?_
    show OwnGo p e below s _ _ _ T37 (mkF m 37 #[.val (.ref a), .val (.ref b), .val (.ref b)] [(.ref a)])
    obtain ⟨T38, X38, e38, st38⟩ := getF X37 hx hZ hown (host := "") (Or.inl (hw _ (List.mem_of_getElem? (i := 35) rfl))) Via.refl e37 Fv_a (g := (mkF m 37 #[.val (.ref a), .val (.ref b), .val (.ref b)] [(.ref a)])) rfl rfl (hb hby d3_37)
    refine OwnGo.st st38 ?_
    show OwnGo p e below s _ _ _ T38 (mkF m 40 #[.val (.ref a), .val (.ref b), .val (.ref b)] [(.ref va)])
    refine OwnGo.st (fun _ k => XS.aloadN X38.here hx rfl (hb hby d3_40) rfl rfl  k) ?_
    show OwnGo p e below s _ _ _ T38 (mkF m 41 #[.val (.ref a), .val (.ref b), .val (.ref b)] [(.ref b), (.ref va)])
    obtain ⟨T39, X39, e39, st39⟩ := getF X38 hx hZ hown (host := "") (Or.inl (hw _ (List.mem_of_getElem? (i := 35) rfl))) Via.refl e38 Fv_b (g := (mkF m 41 #[.val (.ref a), .val (.ref b), .val (.ref b)] [(.ref b), (.ref va)])) rfl rfl (hb hby d3_41)
    refine OwnGo.st st39 ?_
    show OwnGo p e below s _ _ _ T39 (mkF m 44 #[.val (.ref a), .val (.ref b), .val (.ref b)] [(.ref vb), (.ref va)])
    obtain ⟨_, _, ⟨T40, L40, k40, n40⟩, -, X40, ⟨Lc40, hQ40, l40, y40, z40⟩, st40⟩ := Jvm.LawKit.callS X39 hx (y := (⟨"java/lang/StringLatin1", "equals", "([B[B)Z"⟩ : MethodName)) hown (mvT hZ (hw _ (List.mem_of_getElem? (i := 36) rfl))) (mvT hZ (hw _ (List.mem_of_getElem? (i := 37) rfl))) (mvT hZ (hw _ (List.mem_of_getElem? (i := 38) rfl))) (mvT hZ (hw _ (List.mem_of_getElem? (i := 39) rfl))) (by decide) (backOf (W := 0) (rmle_no l Z a0 hw [] va vb ka kb h0 n0 Z_ V_a V_b) hZ (hw _ (List.mem_of_getElem? (i := 39) rfl)) (hw _ (List.mem_of_getElem? (i := 38) rfl)) (by decide) (by decide)) (g := (mkF m 44 #[.val (.ref a), .val (.ref b), .val (.ref b)] [(.ref vb), (.ref va)])) rfl (by rw [hml]; rfl) (argsL := [(.ref va), (.ref vb)]) (rest := []) (lenOf pd_0 rfl) rfl (by show 2 * 0 + _ ≤ _; exact Nat.le_of_eq rfl) (hb hby d3_44) (fun _ _ => ⟨rfl, e39, (by decide : 0 + 0 ≤ _), (by decide : 0 + 0 ≤ _)⟩)
    dsimp only [Pt.U, Pt.locs, Pt.cells, Pt.slots] at X40 l40 y40 z40 st40 hQ40
    subst l40 y40 z40
    obtain ⟨rfl, N40q, e40⟩ := hQ40
    have N40 := Fr.app N0 N40q
    refine OwnGo.st st40 ?_
    show OwnGo p e below s _ _ _ T40 (mkF m 47 #[.val (.ref a), .val (.ref b), .val (.ref b)] [(.int (1 : Int32))])
    refine OwnGo.st (fun _ k => XS.ifNo X40.here hx rfl (hb hby d3_47) rfl ((if0 _ _).trans (feq ((by decide) : ¬ ((1 : Int32) = (0 : Int32)))).1) k) ?_
    show OwnGo p e below s _ _ _ T40 (mkF m 50 #[.val (.ref a), .val (.ref b), .val (.ref b)] [])
    refine OwnGo.st (fun _ k => XS.iconst X40.here hx rfl (hb hby d3_50) k) ?_
    show OwnGo p e below s _ _ _ T40 (mkF m 51 #[.val (.ref a), .val (.ref b), .val (.ref b)] [(.int (1 : Int32))])
    refine OwnGo.st (fun _ k => XS.goto X40.here hx rfl (pc0 := 51) (pc' := 55) rfl (hb hby d3_51) (by decide) (by decide) k) ?_
    show OwnGo p e below s _ _ _ T40 (mkF m 55 #[.val (.ref a), .val (.ref b), .val (.ref b)] [(.int (1 : Int32))])
    exact OwnGo.retN X40 hx (t := .boolean) hret hlk (by simp) (hb hby d3_55) (by show Qse_no Z a b va vb ka kb zc h0 n0 _ T40.heap _; rw [e40]; exact ⟨rfl, N40, rfl⟩) (by decide) (by decide)
def Q0 (Z : State) (p1 : Int32) (u_Optimality_NO : Addr) (u_Optimality_NOT_APPLICABLE : Addr) (u_Optimality_YES : Addr) (u_Optimality_NO_text : Addr) (u_Optimality_NO_text_value : Addr) (u_Optimality_YES_text : Addr) (u_Optimality_YES_text_value : Addr) (u_Optimality_NOT_APPLICABLE_text : Addr) (u_Optimality_NOT_APPLICABLE_text_value : Addr) (kc_u_Optimality_NO_text_value : ClassId) (kc_u_Optimality_YES_text_value : ClassId) (kc_u_Optimality_NOT_APPLICABLE_text_value : ClassId) (zc : Int32) (h0 : Heap) (n0 : Nat) (v : Option Value) (h : Heap) (L : List Loc) : Prop := v = some (.int (1 : Int32)) ∧ Fr n0 L
set_option maxRecDepth 65536 in
set_option maxHeartbeats 40000000 in
theorem rm0 (l : Launch) (Z : State) (a0 : Array Value) (hw : ∀ d ∈ tables_1, d.before a0 Z = true) (ws : List Jvm.Cond) (p1 : Int32) (u_Optimality_NO : Addr) (u_Optimality_NOT_APPLICABLE : Addr) (u_Optimality_YES : Addr) (u_Optimality_NO_text : Addr) (u_Optimality_NO_text_value : Addr) (u_Optimality_YES_text : Addr) (u_Optimality_YES_text_value : Addr) (u_Optimality_NOT_APPLICABLE_text : Addr) (u_Optimality_NOT_APPLICABLE_text_value : Addr) (kc_u_Optimality_NO_text_value : ClassId) (kc_u_Optimality_YES_text_value : ClassId) (kc_u_Optimality_NOT_APPLICABLE_text_value : ClassId) (zc : Int32) (h0 : Heap) (n0 : Nat) (Z0 : n0 ≤ h0.size) (O_ : Old Z n0 h0) (S_u_Optimality_NO : Sta Z Z.heap "com/example/tightrope/tightrope/Optimality" "NO" "Lcom/example/tightrope/tightrope/Optimality;" (.ref u_Optimality_NO)) (E_u_Optimality_NO : Exa Z Z.heap u_Optimality_NO "com/example/tightrope/tightrope/Optimality") (S_u_Optimality_NOT_APPLICABLE : Sta Z Z.heap "com/example/tightrope/tightrope/Optimality" "NOT_APPLICABLE" "Lcom/example/tightrope/tightrope/Optimality;" (.ref u_Optimality_NOT_APPLICABLE)) (E_u_Optimality_NOT_APPLICABLE : Exa Z Z.heap u_Optimality_NOT_APPLICABLE "com/example/tightrope/tightrope/Optimality") (F_u_Optimality_NO_ordinal : Fld Z Z.heap u_Optimality_NO "java/lang/Enum" "ordinal" "I" (.int (1 : Int32))) (F_u_Optimality_NOT_APPLICABLE_ordinal : Fld Z Z.heap u_Optimality_NOT_APPLICABLE "java/lang/Enum" "ordinal" "I" (.int (2 : Int32))) (S_u_Optimality_YES : Sta Z Z.heap "com/example/tightrope/tightrope/Optimality" "YES" "Lcom/example/tightrope/tightrope/Optimality;" (.ref u_Optimality_YES)) (E_u_Optimality_YES : Exa Z Z.heap u_Optimality_YES "com/example/tightrope/tightrope/Optimality") (F_u_Optimality_YES_ordinal : Fld Z Z.heap u_Optimality_YES "java/lang/Enum" "ordinal" "I" (.int (0 : Int32))) (F_u_Optimality_NO_text : Fld Z Z.heap u_Optimality_NO "com/example/tightrope/tightrope/Optimality" "text" "Ljava/lang/String;" (.ref u_Optimality_NO_text)) (E_u_Optimality_NO_text : Exa Z Z.heap u_Optimality_NO_text "java/lang/String") (F_u_Optimality_NO_text_coder : Fld Z Z.heap u_Optimality_NO_text "java/lang/String" "coder" "B" (.int (0 : Int32))) (F_u_Optimality_NO_text_value : Fld Z Z.heap u_Optimality_NO_text "java/lang/String" "value" "[B" (.ref u_Optimality_NO_text_value)) (F_u_Optimality_YES_text : Fld Z Z.heap u_Optimality_YES "com/example/tightrope/tightrope/Optimality" "text" "Ljava/lang/String;" (.ref u_Optimality_YES_text)) (E_u_Optimality_YES_text : Exa Z Z.heap u_Optimality_YES_text "java/lang/String") (F_u_Optimality_YES_text_coder : Fld Z Z.heap u_Optimality_YES_text "java/lang/String" "coder" "B" (.int (0 : Int32))) (F_u_Optimality_YES_text_value : Fld Z Z.heap u_Optimality_YES_text "java/lang/String" "value" "[B" (.ref u_Optimality_YES_text_value)) (F_u_Optimality_NOT_APPLICABLE_text : Fld Z Z.heap u_Optimality_NOT_APPLICABLE "com/example/tightrope/tightrope/Optimality" "text" "Ljava/lang/String;" (.ref u_Optimality_NOT_APPLICABLE_text)) (E_u_Optimality_NOT_APPLICABLE_text : Exa Z Z.heap u_Optimality_NOT_APPLICABLE_text "java/lang/String") (F_u_Optimality_NOT_APPLICABLE_text_coder : Fld Z Z.heap u_Optimality_NOT_APPLICABLE_text "java/lang/String" "coder" "B" (.int (0 : Int32))) (F_u_Optimality_NOT_APPLICABLE_text_value : Fld Z Z.heap u_Optimality_NOT_APPLICABLE_text "java/lang/String" "value" "[B" (.ref u_Optimality_NOT_APPLICABLE_text_value)) (V_u_Optimality_NO_text_value : Arv Z Z.heap u_Optimality_NO_text_value kc_u_Optimality_NO_text_value Jvm.ClassFile.FieldType.byte (2 : Int32) [(.int (110 : Int32)), (.int (111 : Int32))] (.int (0 : Int32))) (V_u_Optimality_YES_text_value : Arv Z Z.heap u_Optimality_YES_text_value kc_u_Optimality_YES_text_value Jvm.ClassFile.FieldType.byte (3 : Int32) [(.int (121 : Int32)), (.int (101 : Int32)), (.int (115 : Int32))] (.int (0 : Int32))) (V_u_Optimality_NOT_APPLICABLE_text_value : Arv Z Z.heap u_Optimality_NOT_APPLICABLE_text_value kc_u_Optimality_NOT_APPLICABLE_text_value Jvm.ClassFile.FieldType.byte (3 : Int32) [(.int (110 : Int32)), (.int (47 : Int32)), (.int (97 : Int32))] (.int (0 : Int32))) (S_CS : Sta Z Z.heap "java/lang/String" "COMPACT_STRINGS" "Z" (.int zc)) (P_CS : ¬ zc = (0 : Int32)) :
    MetFree l x (head1 (Jvm.Cond.code x code maxLocals ret :: ws) room_1) (fun as_ UU => as_ = #[(.int p1)] ∧ Z.Warmed39 UU.vm ∧ UU.heap = h0 ∧ CHv Z own_EL UU.vm h0) (fun _ _ _ _ _ => True) (fun _ UU oo UU' => ∃ vv LL, oo = .returned vv ∧ (Q0 Z p1 u_Optimality_NO u_Optimality_NOT_APPLICABLE u_Optimality_YES u_Optimality_NO_text u_Optimality_NO_text_value u_Optimality_YES_text u_Optimality_YES_text_value u_Optimality_NOT_APPLICABLE_text u_Optimality_NOT_APPLICABLE_text_value kc_u_Optimality_NO_text_value kc_u_Optimality_YES_text_value kc_u_Optimality_NOT_APPLICABLE_text_value zc h0 n0) vv UU'.heap LL ∧ CHr Z own_EL UU.vm UU.heap UU'.vm UU'.heap ∧ ReturnedEndW UU oo UU' LL room_1.cells room_1.slots) := by
  refine own_metW (EL := own_EL) (plainFor_of_name pn_0) ?_
  intro p e s m below meth c s₁ X0 hx hby hml hret hlk hown hnm hZ e0 hS_ CR
  have hk_ := Nat.le_refl h0.size
  have N0 := Fr.nil n0
  have Z_ := Z0
  refine OwnGoW.cast (ef_0 m p1) ?_
  have hml : c.maxLocals = 4 := hml
  show OwnGoW p e below s Z own_EL _ _ _ s₁ (mkF m 0 #[.val (.int p1), .unset, .unset, .unset] [])
  refine OwnGoW.st (fun _ k => XS.iloadN X0.here hx rfl (hb hby at_0) rfl  k) ?_
  show OwnGoW p e below s Z own_EL _ _ _ s₁ (mkF m 1 #[.val (.int p1), .unset, .unset, .unset] [(.int p1)])
  refine OwnGoW.st (fun _ k => XS.iconst X0.here hx rfl (hb hby at_1) k) ?_
  show OwnGoW p e below s Z own_EL _ _ _ s₁ (mkF m 2 #[.val (.int p1), .unset, .unset, .unset] [(.int (1 : Int32)), (.int p1)])
  refine OwnGoW.st (fun _ k => XS.iand X0.here hx rfl (hb hby at_2) rfl k) ?_
  show OwnGoW p e below s Z own_EL _ _ _ s₁ (mkF m 3 #[.val (.int p1), .unset, .unset, .unset] [(.int (p1 &&& (1 : Int32)))])
  by_cases hc : (p1 &&& (1 : Int32)) = (0 : Int32)
  · refine OwnGoW.st (fun _ k => XS.ifYes X0.here hx rfl (pc0 := 3) (pc' := 10) rfl (hb hby at_3) rfl ((if0 _ _).trans (teq (hc : (p1 &&& (1 : Int32)) = (0 : Int32))).1) (by decide) (by decide) k) ?_
    show OwnGoW p e below s Z own_EL _ _ _ s₁ (mkF m 10 #[.val (.int p1), .unset, .unset, .unset] [])
    refine OwnGoW.st (fun _ k => XS.iconst X0.here hx rfl (hb hby at_10) k) ?_
    show OwnGoW p e below s Z own_EL _ _ _ s₁ (mkF m 11 #[.val (.int p1), .unset, .unset, .unset] [(.int (0 : Int32))])
    refine OwnGoW.st (fun _ k => XS.istoreN X0.here hx rfl (hb hby at_11) rfl (l' := #[.val (.int p1), .val (.int (0 : Int32)), .unset, .unset]) rfl k) ?_
    show OwnGoW p e below s Z own_EL _ _ _ s₁ (mkF m 12 #[.val (.int p1), .val (.int (0 : Int32)), .unset, .unset] [])
    refine OwnGoW.st (fun _ k => XS.iloadN X0.here hx rfl (hb hby at_12) rfl  k) ?_
    show OwnGoW p e below s Z own_EL _ _ _ s₁ (mkF m 13 #[.val (.int p1), .val (.int (0 : Int32)), .unset, .unset] [(.int (0 : Int32))])
    obtain ⟨_, _, ⟨T41, L41, k41, n41⟩, -, X41, ⟨Lc41, hQ41, l41, y41, z41⟩, st41⟩ := Jvm.LawKit.callS X0 hx (y := (⟨"com/example/tightrope/tightrope/Optimality", "of", "(Z)Lcom/example/tightrope/tightrope/Optimality;"⟩ : MethodName)) hown (mvT hZ (hw _ (List.mem_of_getElem? (i := 0) rfl))) (mvT hZ (hw _ (List.mem_of_getElem? (i := 1) rfl))) (mvT hZ (hw _ (List.mem_of_getElem? (i := 2) rfl))) (mvT hZ (hw _ (List.mem_of_getElem? (i := 3) rfl))) (by decide) (backOf (W := 0) (rmof0 l Z a0 hw [] u_Optimality_NO u_Optimality_NOT_APPLICABLE u_Optimality_YES u_Optimality_NO_text u_Optimality_NO_text_value u_Optimality_YES_text u_Optimality_YES_text_value u_Optimality_NOT_APPLICABLE_text u_Optimality_NOT_APPLICABLE_text_value kc_u_Optimality_NO_text_value kc_u_Optimality_YES_text_value kc_u_Optimality_NOT_APPLICABLE_text_value zc h0 n0 Z_ O_ S_u_Optimality_NO E_u_Optimality_NO S_u_Optimality_NOT_APPLICABLE E_u_Optimality_NOT_APPLICABLE F_u_Optimality_NO_ordinal F_u_Optimality_NOT_APPLICABLE_ordinal S_u_Optimality_YES E_u_Optimality_YES F_u_Optimality_YES_ordinal F_u_Optimality_NO_text E_u_Optimality_NO_text F_u_Optimality_NO_text_coder F_u_Optimality_NO_text_value F_u_Optimality_YES_text E_u_Optimality_YES_text F_u_Optimality_YES_text_coder F_u_Optimality_YES_text_value F_u_Optimality_NOT_APPLICABLE_text E_u_Optimality_NOT_APPLICABLE_text F_u_Optimality_NOT_APPLICABLE_text_coder F_u_Optimality_NOT_APPLICABLE_text_value V_u_Optimality_NO_text_value V_u_Optimality_YES_text_value V_u_Optimality_NOT_APPLICABLE_text_value S_CS P_CS) hZ (hw _ (List.mem_of_getElem? (i := 3) rfl)) (hw _ (List.mem_of_getElem? (i := 2) rfl)) (by decide) (by decide)) (g := (mkF m 13 #[.val (.int p1), .val (.int (0 : Int32)), .unset, .unset] [(.int (0 : Int32))])) rfl (by rw [hml]; rfl) (argsL := [(.int (0 : Int32))]) (rest := []) (lenOf pd_1 rfl) rfl (by show 2 * 0 + _ ≤ _; exact Nat.le_of_eq rfl) (hb hby at_13) (fun _ _ => ⟨rfl, e0, (by decide : 0 + 0 ≤ _), (by decide : 0 + 0 ≤ _)⟩)
    dsimp only [Pt.U, Pt.locs, Pt.cells, Pt.slots] at X41 l41 y41 z41 st41 hQ41
    subst l41 y41 z41
    obtain ⟨rfl, N41q, e41⟩ := hQ41
    have N41 := Fr.app N0 N41q
    refine OwnGoW.st st41 ?_
    show OwnGoW p e below s Z own_EL _ _ _ T41 (mkF m 16 #[.val (.int p1), .val (.int (0 : Int32)), .unset, .unset] [(.ref u_Optimality_NO)])
    refine OwnGoW.st (fun _ k => XS.astoreN X41.here hx rfl (hb hby at_16) rfl rfl (l' := #[.val (.int p1), .val (.int (0 : Int32)), .val (.ref u_Optimality_NO), .unset]) rfl k) ?_
    show OwnGoW p e below s Z own_EL _ _ _ T41 (mkF m 17 #[.val (.int p1), .val (.int (0 : Int32)), .val (.ref u_Optimality_NO), .unset] [])
    refine OwnGoW.st (fun _ k => XS.aloadN X41.here hx rfl (hb hby at_17) rfl rfl  k) ?_
    show OwnGoW p e below s Z own_EL _ _ _ T41 (mkF m 18 #[.val (.int p1), .val (.int (0 : Int32)), .val (.ref u_Optimality_NO), .unset] [(.ref u_Optimality_NO)])
    refine OwnGoW.st (fun _ k => XS.ifnonnullYes X41.here hx rfl (pc0 := 18) (pc' := 23) rfl (hb hby at_18) rfl (by decide) (by decide) k) ?_
    show OwnGoW p e below s Z own_EL _ _ _ T41 (mkF m 23 #[.val (.int p1), .val (.int (0 : Int32)), .val (.ref u_Optimality_NO), .unset] [])
    refine OwnGoW.st (fun _ k => XS.aloadN X41.here hx rfl (hb hby at_23) rfl rfl  k) ?_
    show OwnGoW p e below s Z own_EL _ _ _ T41 (mkF m 24 #[.val (.int p1), .val (.int (0 : Int32)), .val (.ref u_Optimality_NO), .unset] [(.ref u_Optimality_NO)])
    obtain ⟨T42, X42, e42, st42⟩ := getS2 X41 hx hZ hown (host := "") (Or.inl (hw _ (List.mem_of_getElem? (i := 6) rfl))) Via.refl e41 (S_u_Optimality_NOT_APPLICABLE.ext O_.2) (g := (mkF m 24 #[.val (.int p1), .val (.int (0 : Int32)), .val (.ref u_Optimality_NO), .unset] [(.ref u_Optimality_NO)])) rfl (hb hby at_24)
    refine OwnGoW.st st42 ?_
    show OwnGoW p e below s Z own_EL _ _ _ T42 (mkF m 27 #[.val (.int p1), .val (.int (0 : Int32)), .val (.ref u_Optimality_NO), .unset] [(.ref u_Optimality_NOT_APPLICABLE), (.ref u_Optimality_NO)])
    refine OwnGoW.st (fun _ k => Jvm.RoadKit.acmp (g := (mkF m 27 #[.val (.int p1), .val (.int (0 : Int32)), .val (.ref u_Optimality_NO), .unset] [(.ref u_Optimality_NOT_APPLICABLE), (.ref u_Optimality_NO)])) X42 hx rfl rfl rfl (pc0 := 27) (pc' := 32) (same := false) rfl (hb hby at_27) rfl (decide_eq_false fun q => (Fld.ne F_u_Optimality_NO_ordinal F_u_Optimality_NOT_APPLICABLE_ordinal (by decide)) (Value.ref.inj q)) (by decide) (by decide) k) ?_
    show OwnGoW p e below s Z own_EL _ _ _ T42 (mkF m 32 #[.val (.int p1), .val (.int (0 : Int32)), .val (.ref u_Optimality_NO), .unset] [])
    refine OwnGoW.st (fun _ k => XS.aloadN X42.here hx rfl (hb hby at_32) rfl rfl  k) ?_
    show OwnGoW p e below s Z own_EL _ _ _ T42 (mkF m 33 #[.val (.int p1), .val (.int (0 : Int32)), .val (.ref u_Optimality_NO), .unset] [(.ref u_Optimality_NO)])
    obtain ⟨T43, X43, e43, st43⟩ := getS2 X42 hx hZ hown (host := "") (Or.inl (hw _ (List.mem_of_getElem? (i := 8) rfl))) Via.refl e42 (S_u_Optimality_YES.ext O_.2) (g := (mkF m 33 #[.val (.int p1), .val (.int (0 : Int32)), .val (.ref u_Optimality_NO), .unset] [(.ref u_Optimality_NO)])) rfl (hb hby at_33)
    refine OwnGoW.st st43 ?_
    show OwnGoW p e below s Z own_EL _ _ _ T43 (mkF m 36 #[.val (.int p1), .val (.int (0 : Int32)), .val (.ref u_Optimality_NO), .unset] [(.ref u_Optimality_YES), (.ref u_Optimality_NO)])
    refine OwnGoW.st (fun _ k => Jvm.RoadKit.acmp (g := (mkF m 36 #[.val (.int p1), .val (.int (0 : Int32)), .val (.ref u_Optimality_NO), .unset] [(.ref u_Optimality_YES), (.ref u_Optimality_NO)])) X43 hx rfl rfl rfl (pc0 := 36) (pc' := 43) (same := false) rfl (hb hby at_36) rfl (decide_eq_false fun q => (Fld.ne F_u_Optimality_NO_ordinal F_u_Optimality_YES_ordinal (by decide)) (Value.ref.inj q)) (by decide) (by decide) k) ?_
    show OwnGoW p e below s Z own_EL _ _ _ T43 (mkF m 43 #[.val (.int p1), .val (.int (0 : Int32)), .val (.ref u_Optimality_NO), .unset] [])
    refine OwnGoW.st (fun _ k => XS.iconst X43.here hx rfl (hb hby at_43) k) ?_
    show OwnGoW p e below s Z own_EL _ _ _ T43 (mkF m 44 #[.val (.int p1), .val (.int (0 : Int32)), .val (.ref u_Optimality_NO), .unset] [(.int (0 : Int32))])
    refine OwnGoW.st (fun _ k => XS.iloadN X43.here hx rfl (hb hby at_44) rfl  k) ?_
    show OwnGoW p e below s Z own_EL _ _ _ T43 (mkF m 45 #[.val (.int p1), .val (.int (0 : Int32)), .val (.ref u_Optimality_NO), .unset] [(.int (0 : Int32)), (.int (0 : Int32))])
    refine OwnGoW.st (fun _ k => XS.icmpYes X43.here hx rfl (pc0 := 45) (pc' := 50) rfl (hb hby at_45) rfl (teq (rfl : (0 : Int32) = (0 : Int32))).1 (by decide) (by decide) k) ?_
    show OwnGoW p e below s Z own_EL _ _ _ T43 (mkF m 50 #[.val (.int p1), .val (.int (0 : Int32)), .val (.ref u_Optimality_NO), .unset] [])
    refine OwnGoW.st (fun _ k => XS.aloadN X43.here hx rfl (hb hby at_50) rfl rfl  k) ?_
    show OwnGoW p e below s Z own_EL _ _ _ T43 (mkF m 51 #[.val (.int p1), .val (.int (0 : Int32)), .val (.ref u_Optimality_NO), .unset] [(.ref u_Optimality_NO)])
    obtain ⟨T44, X44, e44, st44⟩ := getS2 X43 hx hZ hown (host := "") (Or.inl (hw _ (List.mem_of_getElem? (i := 10) rfl))) Via.refl e43 (S_u_Optimality_NO.ext O_.2) (g := (mkF m 51 #[.val (.int p1), .val (.int (0 : Int32)), .val (.ref u_Optimality_NO), .unset] [(.ref u_Optimality_NO)])) rfl (hb hby at_51)
    refine OwnGoW.st st44 ?_
    show OwnGoW p e below s Z own_EL _ _ _ T44 (mkF m 54 #[.val (.int p1), .val (.int (0 : Int32)), .val (.ref u_Optimality_NO), .unset] [(.ref u_Optimality_NO), (.ref u_Optimality_NO)])
    refine OwnGoW.st (fun _ k => Jvm.RoadKit.acmp (g := (mkF m 54 #[.val (.int p1), .val (.int (0 : Int32)), .val (.ref u_Optimality_NO), .unset] [(.ref u_Optimality_NO), (.ref u_Optimality_NO)])) X44 hx rfl rfl rfl (pc0 := 54) (pc' := 57) (same := true) rfl (hb hby at_54) rfl (decide_eq_true rfl) (by decide) (by decide) k) ?_
    show OwnGoW p e below s Z own_EL _ _ _ T44 (mkF m 57 #[.val (.int p1), .val (.int (0 : Int32)), .val (.ref u_Optimality_NO), .unset] [])
    refine OwnGoW.st (fun _ k => XS.iconst X44.here hx rfl (hb hby at_57) k) ?_
    show OwnGoW p e below s Z own_EL _ _ _ T44 (mkF m 58 #[.val (.int p1), .val (.int (0 : Int32)), .val (.ref u_Optimality_NO), .unset] [(.int (1 : Int32))])
    refine OwnGoW.st (fun _ k => XS.goto X44.here hx rfl (pc0 := 58) (pc' := 62) rfl (hb hby at_58) (by decide) (by decide) k) ?_
    show OwnGoW p e below s Z own_EL _ _ _ T44 (mkF m 62 #[.val (.int p1), .val (.int (0 : Int32)), .val (.ref u_Optimality_NO), .unset] [(.int (1 : Int32))])
    refine OwnGoW.st (fun _ k => XS.iloadN X44.here hx rfl (hb hby at_62) rfl  k) ?_
    show OwnGoW p e below s Z own_EL _ _ _ T44 (mkF m 63 #[.val (.int p1), .val (.int (0 : Int32)), .val (.ref u_Optimality_NO), .unset] [(.int (0 : Int32)), (.int (1 : Int32))])
    refine OwnGoW.st (fun _ k => XS.icmpYes X44.here hx rfl (pc0 := 63) (pc' := 68) rfl (hb hby at_63) rfl (feq ((by decide) : ¬ ((1 : Int32) = (0 : Int32)))).2 (by decide) (by decide) k) ?_
    show OwnGoW p e below s Z own_EL _ _ _ T44 (mkF m 68 #[.val (.int p1), .val (.int (0 : Int32)), .val (.ref u_Optimality_NO), .unset] [])
    refine OwnGoW.st (fun _ k => XS.aloadN X44.here hx rfl (hb hby at_68) rfl rfl  k) ?_
    show OwnGoW p e below s Z own_EL _ _ _ T44 (mkF m 69 #[.val (.int p1), .val (.int (0 : Int32)), .val (.ref u_Optimality_NO), .unset] [(.ref u_Optimality_NO)])
    obtain ⟨cq45, kq45, q45a, q45b, q45c⟩ := isOf hZ e44 (E_u_Optimality_NO.ext O_.2)
    obtain ⟨_, _, ⟨T45, L45, k45, n45⟩, -, X45, ⟨Lc45, hQ45, l45, y45, z45⟩, st45⟩ := X44.virtualBack hx (y := (⟨"com/example/tightrope/tightrope/Optimality", "text", "()Ljava/lang/String;"⟩ : MethodName)) (z := (⟨"com/example/tightrope/tightrope/Optimality", "text", "()Ljava/lang/String;"⟩ : MethodName)) hown (mvT hZ (hw _ (List.mem_of_getElem? (i := 11) rfl))) (mvT hZ (hw _ (List.mem_of_getElem? (i := 12) rfl))) (notFace_of_selects (args := #[]) (mvT hZ (hw _ (List.mem_of_getElem? (i := 14) rfl)))) (mvT hZ (hw _ (List.mem_of_getElem? (i := 14) rfl))) (mvT hZ (hw _ (List.mem_of_getElem? (i := 13) rfl))) (by decide) (backOf (W := 0) (rm2 l Z a0 hw [] u_Optimality_NO u_Optimality_NO_text h0 n0 Z_ (F_u_Optimality_NO_text.ext O_.2)) hZ (hw _ (List.mem_of_getElem? (i := 15) rfl)) (hw _ (List.mem_of_getElem? (i := 2) rfl)) (by decide) (by decide)) q45a q45c (g := (mkF m 69 #[.val (.int p1), .val (.int (0 : Int32)), .val (.ref u_Optimality_NO), .unset] [(.ref u_Optimality_NO)])) rfl (by rw [hml]; rfl) (Steps.refl _) (argsL := []) (rest := []) (lenOf pd_2 rfl) rfl (by show 2 * 0 + _ ≤ _; exact Nat.le_of_eq rfl) (hb hby at_69) (fun _ _ => ⟨rfl, e44, (by decide : 0 + 0 ≤ _), (by decide : 0 + 0 ≤ _)⟩)
    dsimp only [Pt.U, Pt.locs, Pt.cells, Pt.slots] at X45 l45 y45 z45 st45 hQ45
    subst l45 y45 z45
    obtain ⟨rfl, N45q, e45⟩ := hQ45
    have N45 := Fr.app N41 N45q
    refine OwnGoW.st (fun _ k => st45.trans k) ?_
    show OwnGoW p e below s Z own_EL _ _ _ T45 (mkF m 72 #[.val (.int p1), .val (.int (0 : Int32)), .val (.ref u_Optimality_NO), .unset] [(.ref u_Optimality_NO_text)])
    refine OwnGoW.st (fun _ k => XS.astoreN X45.here hx rfl (hb hby at_72) rfl rfl (l' := #[.val (.int p1), .val (.int (0 : Int32)), .val (.ref u_Optimality_NO), .val (.ref u_Optimality_NO_text)]) rfl k) ?_
    show OwnGoW p e below s Z own_EL _ _ _ T45 (mkF m 73 #[.val (.int p1), .val (.int (0 : Int32)), .val (.ref u_Optimality_NO), .val (.ref u_Optimality_NO_text)] [])
    refine OwnGoW.st (fun _ k => XS.iloadN X45.here hx rfl (hb hby at_73) rfl  k) ?_
    show OwnGoW p e below s Z own_EL _ _ _ T45 (mkF m 74 #[.val (.int p1), .val (.int (0 : Int32)), .val (.ref u_Optimality_NO), .val (.ref u_Optimality_NO_text)] [(.int (0 : Int32))])
    refine OwnGoW.st (fun _ k => XS.ifYes X45.here hx rfl (pc0 := 74) (pc' := 84) rfl (hb hby at_74) rfl ((if0 _ _).trans (teq ((by decide) : (0 : Int32) = (0 : Int32))).1) (by decide) (by decide) k) ?_
    show OwnGoW p e below s Z own_EL _ _ _ T45 (mkF m 84 #[.val (.int p1), .val (.int (0 : Int32)), .val (.ref u_Optimality_NO), .val (.ref u_Optimality_NO_text)] [])
    obtain ⟨a46, T46, h46, k1_46, b46, kc46, X46, e46, E46, hS_, hkN, hZ, hown, Ea, Fc, Fv, Vb, -, -, CN, -, sN, st46⟩ := ldcCH (s := s) (vm0 := s.vm) X45 hx hZ hown (hw _ (List.mem_of_getElem? (i := 18) rfl)) (own_wS hw) e45 hS_ hk_ (own_hEL hw) (by decide) CR.1 (vs := [(.int (110 : Int32)), (.int (111 : Int32))]) (z := (2 : Int32)) ⟨by decide, rfl⟩ (by decide) (by decide) (g := (mkF m 84 #[.val (.int p1), .val (.int (0 : Int32)), .val (.ref u_Optimality_NO), .val (.ref u_Optimality_NO_text)] [])) rfl (hb hby at_84) (n := 8) (by decide) (by decide) (by decide) (by decide)
    have O_ := O_.ext E46
    have CR := CR.trans CN
    have hk_ := hkN
    have Z_ : n0 ≤ h46.size := Nat.le_trans Z_ E46.1
    have E_a46 := Ea
    have Fc_a46 := Fc
    have Fv_a46 := Fv
    have V_b46 := Vb
    refine OwnGoW.st st46 ?_
    show OwnGoW p e below s Z own_EL _ _ _ T46 (mkF m 86 #[.val (.int p1), .val (.int (0 : Int32)), .val (.ref u_Optimality_NO), .val (.ref u_Optimality_NO_text)] [(.ref a46)])
    refine OwnGoW.st (fun _ k => XS.aloadN X46.here hx rfl (hb hby at_86) rfl rfl  k) ?_
    show OwnGoW p e below s Z own_EL _ _ _ T46 (mkF m 87 #[.val (.int p1), .val (.int (0 : Int32)), .val (.ref u_Optimality_NO), .val (.ref u_Optimality_NO_text)] [(.ref u_Optimality_NO_text), (.ref a46)])
    obtain ⟨cq47, kq47, q47a, q47b, q47c⟩ := isOf hZ e46 E_a46
    obtain ⟨_, _, ⟨T47, L47, k47, n47⟩, -, X47, ⟨Lc47, hQ47, l47, y47, z47⟩, st47⟩ := X46.virtualBack hx (y := (⟨"java/lang/String", "equals", "(Ljava/lang/Object;)Z"⟩ : MethodName)) (z := (⟨"java/lang/String", "equals", "(Ljava/lang/Object;)Z"⟩ : MethodName)) hown (mvT hZ (hw _ (List.mem_of_getElem? (i := 26) rfl))) (mvT hZ (hw _ (List.mem_of_getElem? (i := 27) rfl))) (notFace_of_selects (args := #[]) (mvT hZ (hw _ (List.mem_of_getElem? (i := 29) rfl)))) (mvT hZ (hw _ (List.mem_of_getElem? (i := 29) rfl))) (mvT hZ (hw _ (List.mem_of_getElem? (i := 28) rfl))) (by decide) (backOf (W := 0) (rmse_no l Z a0 hw [] a46 u_Optimality_NO_text b46 u_Optimality_NO_text_value kc46 kc_u_Optimality_NO_text_value zc h46 n0 Z_ O_ S_CS P_CS E_a46 Fc_a46 Fv_a46 V_b46 (E_u_Optimality_NO_text.ext O_.2) (F_u_Optimality_NO_text_coder.ext O_.2) (F_u_Optimality_NO_text_value.ext O_.2) (V_u_Optimality_NO_text_value.ext O_.2)) hZ (hw _ (List.mem_of_getElem? (i := 30) rfl)) (hw _ (List.mem_of_getElem? (i := 19) rfl)) (by decide) (by decide)) q47a q47c (g := (mkF m 87 #[.val (.int p1), .val (.int (0 : Int32)), .val (.ref u_Optimality_NO), .val (.ref u_Optimality_NO_text)] [(.ref u_Optimality_NO_text), (.ref a46)])) rfl (by rw [hml]; rfl) (Steps.refl _) (argsL := [(.ref u_Optimality_NO_text)]) (rest := []) (lenOf pd_3 rfl) rfl (by show 2 * 0 + _ ≤ _; exact Nat.le_of_eq rfl) (hb hby at_87) (fun _ _ => ⟨rfl, e46, (by decide : 2 + 0 ≤ _), (by decide : 12 + 0 ≤ _)⟩)
    dsimp only [Pt.U, Pt.locs, Pt.cells, Pt.slots] at X47 l47 y47 z47 st47 hQ47
    subst l47 y47 z47
    obtain ⟨rfl, N47q, e47⟩ := hQ47
    have N47 := Fr.app N45 N47q
    refine OwnGoW.st (fun _ k => st47.trans k) ?_
    show OwnGoW p e below s Z own_EL _ _ _ T47 (mkF m 90 #[.val (.int p1), .val (.int (0 : Int32)), .val (.ref u_Optimality_NO), .val (.ref u_Optimality_NO_text)] [(.int (1 : Int32))])
    exact OwnGoW.retN (s := s) (vm0 := T46.vm) X47 hS_ hk_ e47 hZ (own_hEL hw) CR hx (t := .boolean) hret hlk (by simp) (hb hby at_90) (by show Q0 Z p1 u_Optimality_NO u_Optimality_NOT_APPLICABLE u_Optimality_YES u_Optimality_NO_text u_Optimality_NO_text_value u_Optimality_YES_text u_Optimality_YES_text_value u_Optimality_NOT_APPLICABLE_text u_Optimality_NOT_APPLICABLE_text_value kc_u_Optimality_NO_text_value kc_u_Optimality_YES_text_value kc_u_Optimality_NOT_APPLICABLE_text_value zc h0 n0 _ T47.heap _; rw [e47]; exact ⟨rfl, N47⟩) (by decide) (by decide)
  · refine OwnGoW.st (fun _ k => XS.ifNo X0.here hx rfl (hb hby at_3) rfl ((if0 _ _).trans (feq (hc : ¬ ((p1 &&& (1 : Int32)) = (0 : Int32)))).1) k) ?_
    show OwnGoW p e below s Z own_EL _ _ _ s₁ (mkF m 6 #[.val (.int p1), .unset, .unset, .unset] [])
    refine OwnGoW.st (fun _ k => XS.iconst X0.here hx rfl (hb hby at_6) k) ?_
    show OwnGoW p e below s Z own_EL _ _ _ s₁ (mkF m 7 #[.val (.int p1), .unset, .unset, .unset] [(.int (1 : Int32))])
    refine OwnGoW.st (fun _ k => XS.goto X0.here hx rfl (pc0 := 7) (pc' := 11) rfl (hb hby at_7) (by decide) (by decide) k) ?_
    show OwnGoW p e below s Z own_EL _ _ _ s₁ (mkF m 11 #[.val (.int p1), .unset, .unset, .unset] [(.int (1 : Int32))])
    refine OwnGoW.st (fun _ k => XS.istoreN X0.here hx rfl (hb hby at_11) rfl (l' := #[.val (.int p1), .val (.int (1 : Int32)), .unset, .unset]) rfl k) ?_
    show OwnGoW p e below s Z own_EL _ _ _ s₁ (mkF m 12 #[.val (.int p1), .val (.int (1 : Int32)), .unset, .unset] [])
    refine OwnGoW.st (fun _ k => XS.iloadN X0.here hx rfl (hb hby at_12) rfl  k) ?_
    show OwnGoW p e below s Z own_EL _ _ _ s₁ (mkF m 13 #[.val (.int p1), .val (.int (1 : Int32)), .unset, .unset] [(.int (1 : Int32))])
    obtain ⟨_, _, ⟨T48, L48, k48, n48⟩, -, X48, ⟨Lc48, hQ48, l48, y48, z48⟩, st48⟩ := Jvm.LawKit.callS X0 hx (y := (⟨"com/example/tightrope/tightrope/Optimality", "of", "(Z)Lcom/example/tightrope/tightrope/Optimality;"⟩ : MethodName)) hown (mvT hZ (hw _ (List.mem_of_getElem? (i := 0) rfl))) (mvT hZ (hw _ (List.mem_of_getElem? (i := 1) rfl))) (mvT hZ (hw _ (List.mem_of_getElem? (i := 2) rfl))) (mvT hZ (hw _ (List.mem_of_getElem? (i := 3) rfl))) (by decide) (backOf (W := 0) (rmof1 l Z a0 hw [] u_Optimality_NO u_Optimality_NOT_APPLICABLE u_Optimality_YES u_Optimality_NO_text u_Optimality_NO_text_value u_Optimality_YES_text u_Optimality_YES_text_value u_Optimality_NOT_APPLICABLE_text u_Optimality_NOT_APPLICABLE_text_value kc_u_Optimality_NO_text_value kc_u_Optimality_YES_text_value kc_u_Optimality_NOT_APPLICABLE_text_value zc h0 n0 Z_ O_ S_u_Optimality_NO E_u_Optimality_NO S_u_Optimality_NOT_APPLICABLE E_u_Optimality_NOT_APPLICABLE F_u_Optimality_NO_ordinal F_u_Optimality_NOT_APPLICABLE_ordinal S_u_Optimality_YES E_u_Optimality_YES F_u_Optimality_YES_ordinal F_u_Optimality_NO_text E_u_Optimality_NO_text F_u_Optimality_NO_text_coder F_u_Optimality_NO_text_value F_u_Optimality_YES_text E_u_Optimality_YES_text F_u_Optimality_YES_text_coder F_u_Optimality_YES_text_value F_u_Optimality_NOT_APPLICABLE_text E_u_Optimality_NOT_APPLICABLE_text F_u_Optimality_NOT_APPLICABLE_text_coder F_u_Optimality_NOT_APPLICABLE_text_value V_u_Optimality_NO_text_value V_u_Optimality_YES_text_value V_u_Optimality_NOT_APPLICABLE_text_value S_CS P_CS) hZ (hw _ (List.mem_of_getElem? (i := 3) rfl)) (hw _ (List.mem_of_getElem? (i := 2) rfl)) (by decide) (by decide)) (g := (mkF m 13 #[.val (.int p1), .val (.int (1 : Int32)), .unset, .unset] [(.int (1 : Int32))])) rfl (by rw [hml]; rfl) (argsL := [(.int (1 : Int32))]) (rest := []) (lenOf pd_1 rfl) rfl (by show 2 * 0 + _ ≤ _; exact Nat.le_of_eq rfl) (hb hby at_13) (fun _ _ => ⟨rfl, e0, (by decide : 0 + 0 ≤ _), (by decide : 0 + 0 ≤ _)⟩)
    dsimp only [Pt.U, Pt.locs, Pt.cells, Pt.slots] at X48 l48 y48 z48 st48 hQ48
    subst l48 y48 z48
    obtain ⟨rfl, N48q, e48⟩ := hQ48
    have N48 := Fr.app N0 N48q
    refine OwnGoW.st st48 ?_
    show OwnGoW p e below s Z own_EL _ _ _ T48 (mkF m 16 #[.val (.int p1), .val (.int (1 : Int32)), .unset, .unset] [(.ref u_Optimality_YES)])
    refine OwnGoW.st (fun _ k => XS.astoreN X48.here hx rfl (hb hby at_16) rfl rfl (l' := #[.val (.int p1), .val (.int (1 : Int32)), .val (.ref u_Optimality_YES), .unset]) rfl k) ?_
    show OwnGoW p e below s Z own_EL _ _ _ T48 (mkF m 17 #[.val (.int p1), .val (.int (1 : Int32)), .val (.ref u_Optimality_YES), .unset] [])
    refine OwnGoW.st (fun _ k => XS.aloadN X48.here hx rfl (hb hby at_17) rfl rfl  k) ?_
    show OwnGoW p e below s Z own_EL _ _ _ T48 (mkF m 18 #[.val (.int p1), .val (.int (1 : Int32)), .val (.ref u_Optimality_YES), .unset] [(.ref u_Optimality_YES)])
    refine OwnGoW.st (fun _ k => XS.ifnonnullYes X48.here hx rfl (pc0 := 18) (pc' := 23) rfl (hb hby at_18) rfl (by decide) (by decide) k) ?_
    show OwnGoW p e below s Z own_EL _ _ _ T48 (mkF m 23 #[.val (.int p1), .val (.int (1 : Int32)), .val (.ref u_Optimality_YES), .unset] [])
    refine OwnGoW.st (fun _ k => XS.aloadN X48.here hx rfl (hb hby at_23) rfl rfl  k) ?_
    show OwnGoW p e below s Z own_EL _ _ _ T48 (mkF m 24 #[.val (.int p1), .val (.int (1 : Int32)), .val (.ref u_Optimality_YES), .unset] [(.ref u_Optimality_YES)])
    obtain ⟨T49, X49, e49, st49⟩ := getS2 X48 hx hZ hown (host := "") (Or.inl (hw _ (List.mem_of_getElem? (i := 6) rfl))) Via.refl e48 (S_u_Optimality_NOT_APPLICABLE.ext O_.2) (g := (mkF m 24 #[.val (.int p1), .val (.int (1 : Int32)), .val (.ref u_Optimality_YES), .unset] [(.ref u_Optimality_YES)])) rfl (hb hby at_24)
    refine OwnGoW.st st49 ?_
    show OwnGoW p e below s Z own_EL _ _ _ T49 (mkF m 27 #[.val (.int p1), .val (.int (1 : Int32)), .val (.ref u_Optimality_YES), .unset] [(.ref u_Optimality_NOT_APPLICABLE), (.ref u_Optimality_YES)])
    refine OwnGoW.st (fun _ k => Jvm.RoadKit.acmp (g := (mkF m 27 #[.val (.int p1), .val (.int (1 : Int32)), .val (.ref u_Optimality_YES), .unset] [(.ref u_Optimality_NOT_APPLICABLE), (.ref u_Optimality_YES)])) X49 hx rfl rfl rfl (pc0 := 27) (pc' := 32) (same := false) rfl (hb hby at_27) rfl (decide_eq_false fun q => (Fld.ne F_u_Optimality_YES_ordinal F_u_Optimality_NOT_APPLICABLE_ordinal (by decide)) (Value.ref.inj q)) (by decide) (by decide) k) ?_
    show OwnGoW p e below s Z own_EL _ _ _ T49 (mkF m 32 #[.val (.int p1), .val (.int (1 : Int32)), .val (.ref u_Optimality_YES), .unset] [])
    refine OwnGoW.st (fun _ k => XS.aloadN X49.here hx rfl (hb hby at_32) rfl rfl  k) ?_
    show OwnGoW p e below s Z own_EL _ _ _ T49 (mkF m 33 #[.val (.int p1), .val (.int (1 : Int32)), .val (.ref u_Optimality_YES), .unset] [(.ref u_Optimality_YES)])
    obtain ⟨T50, X50, e50, st50⟩ := getS2 X49 hx hZ hown (host := "") (Or.inl (hw _ (List.mem_of_getElem? (i := 8) rfl))) Via.refl e49 (S_u_Optimality_YES.ext O_.2) (g := (mkF m 33 #[.val (.int p1), .val (.int (1 : Int32)), .val (.ref u_Optimality_YES), .unset] [(.ref u_Optimality_YES)])) rfl (hb hby at_33)
    refine OwnGoW.st st50 ?_
    show OwnGoW p e below s Z own_EL _ _ _ T50 (mkF m 36 #[.val (.int p1), .val (.int (1 : Int32)), .val (.ref u_Optimality_YES), .unset] [(.ref u_Optimality_YES), (.ref u_Optimality_YES)])
    refine OwnGoW.st (fun _ k => Jvm.RoadKit.acmp (g := (mkF m 36 #[.val (.int p1), .val (.int (1 : Int32)), .val (.ref u_Optimality_YES), .unset] [(.ref u_Optimality_YES), (.ref u_Optimality_YES)])) X50 hx rfl rfl rfl (pc0 := 36) (pc' := 39) (same := true) rfl (hb hby at_36) rfl (decide_eq_true rfl) (by decide) (by decide) k) ?_
    show OwnGoW p e below s Z own_EL _ _ _ T50 (mkF m 39 #[.val (.int p1), .val (.int (1 : Int32)), .val (.ref u_Optimality_YES), .unset] [])
    refine OwnGoW.st (fun _ k => XS.iconst X50.here hx rfl (hb hby at_39) k) ?_
    show OwnGoW p e below s Z own_EL _ _ _ T50 (mkF m 40 #[.val (.int p1), .val (.int (1 : Int32)), .val (.ref u_Optimality_YES), .unset] [(.int (1 : Int32))])
    refine OwnGoW.st (fun _ k => XS.goto X50.here hx rfl (pc0 := 40) (pc' := 44) rfl (hb hby at_40) (by decide) (by decide) k) ?_
    show OwnGoW p e below s Z own_EL _ _ _ T50 (mkF m 44 #[.val (.int p1), .val (.int (1 : Int32)), .val (.ref u_Optimality_YES), .unset] [(.int (1 : Int32))])
    refine OwnGoW.st (fun _ k => XS.iloadN X50.here hx rfl (hb hby at_44) rfl  k) ?_
    show OwnGoW p e below s Z own_EL _ _ _ T50 (mkF m 45 #[.val (.int p1), .val (.int (1 : Int32)), .val (.ref u_Optimality_YES), .unset] [(.int (1 : Int32)), (.int (1 : Int32))])
    refine OwnGoW.st (fun _ k => XS.icmpYes X50.here hx rfl (pc0 := 45) (pc' := 50) rfl (hb hby at_45) rfl (teq (rfl : (1 : Int32) = (1 : Int32))).1 (by decide) (by decide) k) ?_
    show OwnGoW p e below s Z own_EL _ _ _ T50 (mkF m 50 #[.val (.int p1), .val (.int (1 : Int32)), .val (.ref u_Optimality_YES), .unset] [])
    refine OwnGoW.st (fun _ k => XS.aloadN X50.here hx rfl (hb hby at_50) rfl rfl  k) ?_
    show OwnGoW p e below s Z own_EL _ _ _ T50 (mkF m 51 #[.val (.int p1), .val (.int (1 : Int32)), .val (.ref u_Optimality_YES), .unset] [(.ref u_Optimality_YES)])
    obtain ⟨T51, X51, e51, st51⟩ := getS2 X50 hx hZ hown (host := "") (Or.inl (hw _ (List.mem_of_getElem? (i := 10) rfl))) Via.refl e50 (S_u_Optimality_NO.ext O_.2) (g := (mkF m 51 #[.val (.int p1), .val (.int (1 : Int32)), .val (.ref u_Optimality_YES), .unset] [(.ref u_Optimality_YES)])) rfl (hb hby at_51)
    refine OwnGoW.st st51 ?_
    show OwnGoW p e below s Z own_EL _ _ _ T51 (mkF m 54 #[.val (.int p1), .val (.int (1 : Int32)), .val (.ref u_Optimality_YES), .unset] [(.ref u_Optimality_NO), (.ref u_Optimality_YES)])
    refine OwnGoW.st (fun _ k => Jvm.RoadKit.acmp (g := (mkF m 54 #[.val (.int p1), .val (.int (1 : Int32)), .val (.ref u_Optimality_YES), .unset] [(.ref u_Optimality_NO), (.ref u_Optimality_YES)])) X51 hx rfl rfl rfl (pc0 := 54) (pc' := 61) (same := false) rfl (hb hby at_54) rfl (decide_eq_false fun q => (Fld.ne F_u_Optimality_YES_ordinal F_u_Optimality_NO_ordinal (by decide)) (Value.ref.inj q)) (by decide) (by decide) k) ?_
    show OwnGoW p e below s Z own_EL _ _ _ T51 (mkF m 61 #[.val (.int p1), .val (.int (1 : Int32)), .val (.ref u_Optimality_YES), .unset] [])
    refine OwnGoW.st (fun _ k => XS.iconst X51.here hx rfl (hb hby at_61) k) ?_
    show OwnGoW p e below s Z own_EL _ _ _ T51 (mkF m 62 #[.val (.int p1), .val (.int (1 : Int32)), .val (.ref u_Optimality_YES), .unset] [(.int (0 : Int32))])
    refine OwnGoW.st (fun _ k => XS.iloadN X51.here hx rfl (hb hby at_62) rfl  k) ?_
    show OwnGoW p e below s Z own_EL _ _ _ T51 (mkF m 63 #[.val (.int p1), .val (.int (1 : Int32)), .val (.ref u_Optimality_YES), .unset] [(.int (1 : Int32)), (.int (0 : Int32))])
    refine OwnGoW.st (fun _ k => XS.icmpYes X51.here hx rfl (pc0 := 63) (pc' := 68) rfl (hb hby at_63) rfl (feq ((by decide) : ¬ ((0 : Int32) = (1 : Int32)))).2 (by decide) (by decide) k) ?_
    show OwnGoW p e below s Z own_EL _ _ _ T51 (mkF m 68 #[.val (.int p1), .val (.int (1 : Int32)), .val (.ref u_Optimality_YES), .unset] [])
    refine OwnGoW.st (fun _ k => XS.aloadN X51.here hx rfl (hb hby at_68) rfl rfl  k) ?_
    show OwnGoW p e below s Z own_EL _ _ _ T51 (mkF m 69 #[.val (.int p1), .val (.int (1 : Int32)), .val (.ref u_Optimality_YES), .unset] [(.ref u_Optimality_YES)])
    obtain ⟨cq52, kq52, q52a, q52b, q52c⟩ := isOf hZ e51 (E_u_Optimality_YES.ext O_.2)
    obtain ⟨_, _, ⟨T52, L52, k52, n52⟩, -, X52, ⟨Lc52, hQ52, l52, y52, z52⟩, st52⟩ := X51.virtualBack hx (y := (⟨"com/example/tightrope/tightrope/Optimality", "text", "()Ljava/lang/String;"⟩ : MethodName)) (z := (⟨"com/example/tightrope/tightrope/Optimality", "text", "()Ljava/lang/String;"⟩ : MethodName)) hown (mvT hZ (hw _ (List.mem_of_getElem? (i := 11) rfl))) (mvT hZ (hw _ (List.mem_of_getElem? (i := 12) rfl))) (notFace_of_selects (args := #[]) (mvT hZ (hw _ (List.mem_of_getElem? (i := 14) rfl)))) (mvT hZ (hw _ (List.mem_of_getElem? (i := 14) rfl))) (mvT hZ (hw _ (List.mem_of_getElem? (i := 13) rfl))) (by decide) (backOf (W := 0) (rm2 l Z a0 hw [] u_Optimality_YES u_Optimality_YES_text h0 n0 Z_ (F_u_Optimality_YES_text.ext O_.2)) hZ (hw _ (List.mem_of_getElem? (i := 15) rfl)) (hw _ (List.mem_of_getElem? (i := 2) rfl)) (by decide) (by decide)) q52a q52c (g := (mkF m 69 #[.val (.int p1), .val (.int (1 : Int32)), .val (.ref u_Optimality_YES), .unset] [(.ref u_Optimality_YES)])) rfl (by rw [hml]; rfl) (Steps.refl _) (argsL := []) (rest := []) (lenOf pd_2 rfl) rfl (by show 2 * 0 + _ ≤ _; exact Nat.le_of_eq rfl) (hb hby at_69) (fun _ _ => ⟨rfl, e51, (by decide : 0 + 0 ≤ _), (by decide : 0 + 0 ≤ _)⟩)
    dsimp only [Pt.U, Pt.locs, Pt.cells, Pt.slots] at X52 l52 y52 z52 st52 hQ52
    subst l52 y52 z52
    obtain ⟨rfl, N52q, e52⟩ := hQ52
    have N52 := Fr.app N48 N52q
    refine OwnGoW.st (fun _ k => st52.trans k) ?_
    show OwnGoW p e below s Z own_EL _ _ _ T52 (mkF m 72 #[.val (.int p1), .val (.int (1 : Int32)), .val (.ref u_Optimality_YES), .unset] [(.ref u_Optimality_YES_text)])
    refine OwnGoW.st (fun _ k => XS.astoreN X52.here hx rfl (hb hby at_72) rfl rfl (l' := #[.val (.int p1), .val (.int (1 : Int32)), .val (.ref u_Optimality_YES), .val (.ref u_Optimality_YES_text)]) rfl k) ?_
    show OwnGoW p e below s Z own_EL _ _ _ T52 (mkF m 73 #[.val (.int p1), .val (.int (1 : Int32)), .val (.ref u_Optimality_YES), .val (.ref u_Optimality_YES_text)] [])
    refine OwnGoW.st (fun _ k => XS.iloadN X52.here hx rfl (hb hby at_73) rfl  k) ?_
    show OwnGoW p e below s Z own_EL _ _ _ T52 (mkF m 74 #[.val (.int p1), .val (.int (1 : Int32)), .val (.ref u_Optimality_YES), .val (.ref u_Optimality_YES_text)] [(.int (1 : Int32))])
    refine OwnGoW.st (fun _ k => XS.ifNo X52.here hx rfl (hb hby at_74) rfl ((if0 _ _).trans (feq ((by decide) : ¬ ((1 : Int32) = (0 : Int32)))).1) k) ?_
    show OwnGoW p e below s Z own_EL _ _ _ T52 (mkF m 77 #[.val (.int p1), .val (.int (1 : Int32)), .val (.ref u_Optimality_YES), .val (.ref u_Optimality_YES_text)] [])
    obtain ⟨a53, T53, h53, k1_53, b53, kc53, X53, e53, E53, hS_, hkN, hZ, hown, Ea, Fc, Fv, Vb, -, -, CN, -, sN, st53⟩ := ldcCH (s := s) (vm0 := s.vm) X52 hx hZ hown (hw _ (List.mem_of_getElem? (i := 41) rfl)) (own_wS hw) e52 hS_ hk_ (own_hEL hw) (by decide) CR.1 (vs := [(.int (121 : Int32)), (.int (101 : Int32)), (.int (115 : Int32))]) (z := (3 : Int32)) ⟨by decide, rfl⟩ (by decide) (by decide) (g := (mkF m 77 #[.val (.int p1), .val (.int (1 : Int32)), .val (.ref u_Optimality_YES), .val (.ref u_Optimality_YES_text)] [])) rfl (hb hby at_77) (n := 12) (by decide) (by decide) (by decide) (by decide)
    have O_ := O_.ext E53
    have CR := CR.trans CN
    have hk_ := hkN
    have Z_ : n0 ≤ h53.size := Nat.le_trans Z_ E53.1
    have E_a53 := Ea
    have Fc_a53 := Fc
    have Fv_a53 := Fv
    have V_b53 := Vb
    refine OwnGoW.st st53 ?_
    show OwnGoW p e below s Z own_EL _ _ _ T53 (mkF m 79 #[.val (.int p1), .val (.int (1 : Int32)), .val (.ref u_Optimality_YES), .val (.ref u_Optimality_YES_text)] [(.ref a53)])
    refine OwnGoW.st (fun _ k => XS.aloadN X53.here hx rfl (hb hby at_79) rfl rfl  k) ?_
    show OwnGoW p e below s Z own_EL _ _ _ T53 (mkF m 80 #[.val (.int p1), .val (.int (1 : Int32)), .val (.ref u_Optimality_YES), .val (.ref u_Optimality_YES_text)] [(.ref u_Optimality_YES_text), (.ref a53)])
    obtain ⟨cq54, kq54, q54a, q54b, q54c⟩ := isOf hZ e53 E_a53
    obtain ⟨_, _, ⟨T54, L54, k54, n54⟩, -, X54, ⟨Lc54, hQ54, l54, y54, z54⟩, st54⟩ := X53.virtualBack hx (y := (⟨"java/lang/String", "equals", "(Ljava/lang/Object;)Z"⟩ : MethodName)) (z := (⟨"java/lang/String", "equals", "(Ljava/lang/Object;)Z"⟩ : MethodName)) hown (mvT hZ (hw _ (List.mem_of_getElem? (i := 26) rfl))) (mvT hZ (hw _ (List.mem_of_getElem? (i := 27) rfl))) (notFace_of_selects (args := #[]) (mvT hZ (hw _ (List.mem_of_getElem? (i := 29) rfl)))) (mvT hZ (hw _ (List.mem_of_getElem? (i := 29) rfl))) (mvT hZ (hw _ (List.mem_of_getElem? (i := 28) rfl))) (by decide) (backOf (W := 0) (rmse_yes l Z a0 hw [] a53 u_Optimality_YES_text b53 u_Optimality_YES_text_value kc53 kc_u_Optimality_YES_text_value zc h53 n0 Z_ O_ S_CS P_CS E_a53 Fc_a53 Fv_a53 V_b53 (E_u_Optimality_YES_text.ext O_.2) (F_u_Optimality_YES_text_coder.ext O_.2) (F_u_Optimality_YES_text_value.ext O_.2) (V_u_Optimality_YES_text_value.ext O_.2)) hZ (hw _ (List.mem_of_getElem? (i := 30) rfl)) (hw _ (List.mem_of_getElem? (i := 19) rfl)) (by decide) (by decide)) q54a q54c (g := (mkF m 80 #[.val (.int p1), .val (.int (1 : Int32)), .val (.ref u_Optimality_YES), .val (.ref u_Optimality_YES_text)] [(.ref u_Optimality_YES_text), (.ref a53)])) rfl (by rw [hml]; rfl) (Steps.refl _) (argsL := [(.ref u_Optimality_YES_text)]) (rest := []) (lenOf pd_3 rfl) rfl (by show 2 * 0 + _ ≤ _; exact Nat.le_of_eq rfl) (hb hby at_80) (fun _ _ => ⟨rfl, e53, (by decide : 2 + 0 ≤ _), (by decide : 16 + 0 ≤ _)⟩)
    dsimp only [Pt.U, Pt.locs, Pt.cells, Pt.slots] at X54 l54 y54 z54 st54 hQ54
    subst l54 y54 z54
    obtain ⟨rfl, N54q, e54⟩ := hQ54
    have N54 := Fr.app N52 N54q
    refine OwnGoW.st (fun _ k => st54.trans k) ?_
    show OwnGoW p e below s Z own_EL _ _ _ T54 (mkF m 83 #[.val (.int p1), .val (.int (1 : Int32)), .val (.ref u_Optimality_YES), .val (.ref u_Optimality_YES_text)] [(.int (1 : Int32))])
    exact OwnGoW.retN (s := s) (vm0 := T53.vm) X54 hS_ hk_ e54 hZ (own_hEL hw) CR hx (t := .boolean) hret hlk (by simp) (hb hby at_83) (by show Q0 Z p1 u_Optimality_NO u_Optimality_NOT_APPLICABLE u_Optimality_YES u_Optimality_NO_text u_Optimality_NO_text_value u_Optimality_YES_text u_Optimality_YES_text_value u_Optimality_NOT_APPLICABLE_text u_Optimality_NOT_APPLICABLE_text_value kc_u_Optimality_NO_text_value kc_u_Optimality_YES_text_value kc_u_Optimality_NOT_APPLICABLE_text_value zc h0 n0 _ T54.heap _; rw [e54]; exact ⟨rfl, N54⟩) (by decide) (by decide)
set_option maxRecDepth 65536 in
set_option maxHeartbeats 40000000 in
theorem comes_1 {Post : Tables → Env → Array Value → State → Outcome → State → Prop} (hpost : ∀ tb e args s v u, (limb_1_1.after args s (.returned v) u = true ∧ limb_1_2.after args s (.returned v) u = true ∧ True) → ReturnedEndW s (.returned v) u (Jvm.fieldLocs frame_1_writes args s ++ Jvm.arrayLocs frame_1_arrays args s ++ Jvm.staticLocs frame_1_statics s) 8 2112 → Post tb e args s (.returned v) u) :
    ArmFor flags0 classFile x code maxLocals ret World_1 tables_1 room_1 Calls_1 rest_1 Pre_1 Post := by
  intro l hfl _ _ p e ha hc hk s m args below hf hA hF happ hP
  obtain ⟨hcalls, hrest, hpre⟩ := hP
  obtain ⟨-, -, -, hnamed, -, -, -, hat⟩ := (Spec.applies_iff hf).mp happ
  obtain ⟨hg, hn⟩ := and_e (Cond.before_iff.mp (show (Jvm.Cond.and given_1 narrow_1).before args s = true from hpre))
  obtain ⟨hcnt, hg⟩ := and_e hg
  have hg0 := hg
  obtain ⟨w0, rfl⟩ : ∃ w0 : Value, args = #[w0] := by
    have hs : args.size = 1 := by simpa [Cond.value, given_1] using hcnt
    obtain ⟨L⟩ := args
    match L, hs with
    | [w0], _ => exact ⟨w0, rfl⟩
  have hw := fun d (hd : d ∈ tables_1) => atoms_spec (ws := Jvm.Cond.code x code maxLocals ret :: tables_1) hat d (List.mem_cons_of_mem _ hd)
  have hfit : Fit s := fun {y c} hc i hi => by
    obtain ⟨ha, rfl⟩ := Array.getElem?_eq_some_iff.mp hc
    have q := List.all_eq_true.mp ((Array.all_eq_true_iff_forall_mem.mp hF) _ (Array.getElem_mem ha)) i (List.mem_range.mpr hi)
    simpa [Array.getElem?_eq_getElem hi] using q
  obtain ⟨i0, ei0⟩ := is_v hg0
  obtain rfl : w0 = (.int i0) := Option.some.inj ei0
  obtain ⟨nr0, hn⟩ := and_e hn
  obtain ⟨nr1, hn⟩ := and_e hn
  obtain ⟨nr2, hn⟩ := and_e hn
  obtain ⟨nr3, hn⟩ := and_e hn
  obtain ⟨nr4, hn⟩ := and_e hn
  obtain ⟨nr5, hn⟩ := and_e hn
  obtain ⟨nr6, hn⟩ := and_e hn
  obtain ⟨nr7, hn⟩ := and_e hn
  obtain ⟨nr8, hn⟩ := and_e hn
  obtain ⟨nr9, hn⟩ := and_e hn
  obtain ⟨nr10, hn⟩ := and_e hn
  obtain ⟨nr11, hn⟩ := and_e hn
  obtain ⟨nr12, hn⟩ := and_e hn
  obtain ⟨nr13, hn⟩ := and_e hn
  obtain ⟨nr14, hn⟩ := and_e hn
  obtain ⟨nr15, hn⟩ := and_e hn
  obtain ⟨nr16, hn⟩ := and_e hn
  obtain ⟨nr17, hn⟩ := and_e hn
  obtain ⟨nr18, hn⟩ := and_e hn
  obtain ⟨nr19, hn⟩ := and_e hn
  obtain ⟨nr20, hn⟩ := and_e hn
  obtain ⟨nr21, hn⟩ := and_e hn
  obtain ⟨nr22, hn⟩ := and_e hn
  obtain ⟨nr23, hn⟩ := and_e hn
  obtain ⟨nr24, hn⟩ := and_e hn
  have nr25 := hn
  obtain ⟨u_Optimality_NO, ev_u_Optimality_NO⟩ := exa_v nr0
  have S_u_Optimality_NO := Sta.start ev_u_Optimality_NO (Or.inr ⟨(hw _ (List.mem_of_getElem? (i := 2) rfl)), (hw _ (List.mem_of_getElem? (i := 5) rfl))⟩)
  have E_u_Optimality_NO := Exa.start ev_u_Optimality_NO nr0
  obtain ⟨u_Optimality_NOT_APPLICABLE, ev_u_Optimality_NOT_APPLICABLE⟩ := exa_v nr1
  have S_u_Optimality_NOT_APPLICABLE := Sta.start ev_u_Optimality_NOT_APPLICABLE (Or.inr ⟨(hw _ (List.mem_of_getElem? (i := 2) rfl)), (hw _ (List.mem_of_getElem? (i := 7) rfl))⟩)
  have E_u_Optimality_NOT_APPLICABLE := Exa.start ev_u_Optimality_NOT_APPLICABLE nr1
  have ev_nr2 := own_eqi nr2
  have F_u_Optimality_NO_ordinal := Fld.start (C := "java/lang/Enum") (n := "ordinal") (d := "I") ((fld_at ev_u_Optimality_NO).symm.trans ev_nr2)
  have ev_nr3 := own_eqi nr3
  have F_u_Optimality_NOT_APPLICABLE_ordinal := Fld.start (C := "java/lang/Enum") (n := "ordinal") (d := "I") ((fld_at ev_u_Optimality_NOT_APPLICABLE).symm.trans ev_nr3)
  obtain ⟨u_Optimality_YES, ev_u_Optimality_YES⟩ := exa_v nr4
  have S_u_Optimality_YES := Sta.start ev_u_Optimality_YES (Or.inr ⟨(hw _ (List.mem_of_getElem? (i := 2) rfl)), (hw _ (List.mem_of_getElem? (i := 9) rfl))⟩)
  have E_u_Optimality_YES := Exa.start ev_u_Optimality_YES nr4
  have ev_nr5 := own_eqi nr5
  have F_u_Optimality_YES_ordinal := Fld.start (C := "java/lang/Enum") (n := "ordinal") (d := "I") ((fld_at ev_u_Optimality_YES).symm.trans ev_nr5)
  obtain ⟨u_Optimality_NO_text, ev_u_Optimality_NO_text⟩ := exa_v nr6
  have F_u_Optimality_NO_text := Fld.start (C := "com/example/tightrope/tightrope/Optimality") (n := "text") (d := "Ljava/lang/String;") ((fld_at ev_u_Optimality_NO).symm.trans ev_u_Optimality_NO_text)
  have E_u_Optimality_NO_text := Exa.start ev_u_Optimality_NO_text nr6
  have ev_nr7 := own_eqi nr7
  have F_u_Optimality_NO_text_coder := Fld.start (C := "java/lang/String") (n := "coder") (d := "B") ((fld_at ev_u_Optimality_NO_text).symm.trans ev_nr7)
  obtain ⟨u_Optimality_NO_text_value, ev_u_Optimality_NO_text_value⟩ := arr_v nr8
  have F_u_Optimality_NO_text_value := Fld.start (C := "java/lang/String") (n := "value") (d := "[B") ((fld_at ev_u_Optimality_NO_text).symm.trans ev_u_Optimality_NO_text_value)
  obtain ⟨cl_u_Optimality_NO_text_value, A_u_Optimality_NO_text_value⟩ := Arr.start ev_u_Optimality_NO_text_value nr8
  obtain ⟨u_Optimality_YES_text, ev_u_Optimality_YES_text⟩ := exa_v nr12
  have F_u_Optimality_YES_text := Fld.start (C := "com/example/tightrope/tightrope/Optimality") (n := "text") (d := "Ljava/lang/String;") ((fld_at ev_u_Optimality_YES).symm.trans ev_u_Optimality_YES_text)
  have E_u_Optimality_YES_text := Exa.start ev_u_Optimality_YES_text nr12
  have ev_nr13 := own_eqi nr13
  have F_u_Optimality_YES_text_coder := Fld.start (C := "java/lang/String") (n := "coder") (d := "B") ((fld_at ev_u_Optimality_YES_text).symm.trans ev_nr13)
  obtain ⟨u_Optimality_YES_text_value, ev_u_Optimality_YES_text_value⟩ := arr_v nr14
  have F_u_Optimality_YES_text_value := Fld.start (C := "java/lang/String") (n := "value") (d := "[B") ((fld_at ev_u_Optimality_YES_text).symm.trans ev_u_Optimality_YES_text_value)
  obtain ⟨cl_u_Optimality_YES_text_value, A_u_Optimality_YES_text_value⟩ := Arr.start ev_u_Optimality_YES_text_value nr14
  obtain ⟨u_Optimality_NOT_APPLICABLE_text, ev_u_Optimality_NOT_APPLICABLE_text⟩ := exa_v nr19
  have F_u_Optimality_NOT_APPLICABLE_text := Fld.start (C := "com/example/tightrope/tightrope/Optimality") (n := "text") (d := "Ljava/lang/String;") ((fld_at ev_u_Optimality_NOT_APPLICABLE).symm.trans ev_u_Optimality_NOT_APPLICABLE_text)
  have E_u_Optimality_NOT_APPLICABLE_text := Exa.start ev_u_Optimality_NOT_APPLICABLE_text nr19
  have ev_nr20 := own_eqi nr20
  have F_u_Optimality_NOT_APPLICABLE_text_coder := Fld.start (C := "java/lang/String") (n := "coder") (d := "B") ((fld_at ev_u_Optimality_NOT_APPLICABLE_text).symm.trans ev_nr20)
  obtain ⟨u_Optimality_NOT_APPLICABLE_text_value, ev_u_Optimality_NOT_APPLICABLE_text_value⟩ := arr_v nr21
  have F_u_Optimality_NOT_APPLICABLE_text_value := Fld.start (C := "java/lang/String") (n := "value") (d := "[B") ((fld_at ev_u_Optimality_NOT_APPLICABLE_text).symm.trans ev_u_Optimality_NOT_APPLICABLE_text_value)
  obtain ⟨cl_u_Optimality_NOT_APPLICABLE_text_value, A_u_Optimality_NOT_APPLICABLE_text_value⟩ := Arr.start ev_u_Optimality_NOT_APPLICABLE_text_value nr21
  have V_u_Optimality_NO_text_value := Arv.start (dv := (.int (0 : Int32))) (vs := [(.int (110 : Int32)), (.int (111 : Int32))]) hfit A_u_Optimality_NO_text_value (own_lenv ev_u_Optimality_NO_text_value A_u_Optimality_NO_text_value nr9).1 (own_lenv ev_u_Optimality_NO_text_value A_u_Optimality_NO_text_value nr9).2 (by decide) rfl ⟨(own_elem ev_u_Optimality_NO_text_value A_u_Optimality_NO_text_value (own_eqi nr10)), (own_elem ev_u_Optimality_NO_text_value A_u_Optimality_NO_text_value (own_eqi nr11)), trivial⟩
  obtain ⟨kc_u_Optimality_NO_text_value, V_u_Optimality_NO_text_value⟩ : ∃ k, Arv s s.heap u_Optimality_NO_text_value k Jvm.ClassFile.FieldType.byte (2 : Int32) [(.int (110 : Int32)), (.int (111 : Int32))] (.int (0 : Int32)) := ⟨_, V_u_Optimality_NO_text_value⟩
  have V_u_Optimality_YES_text_value := Arv.start (dv := (.int (0 : Int32))) (vs := [(.int (121 : Int32)), (.int (101 : Int32)), (.int (115 : Int32))]) hfit A_u_Optimality_YES_text_value (own_lenv ev_u_Optimality_YES_text_value A_u_Optimality_YES_text_value nr15).1 (own_lenv ev_u_Optimality_YES_text_value A_u_Optimality_YES_text_value nr15).2 (by decide) rfl ⟨(own_elem ev_u_Optimality_YES_text_value A_u_Optimality_YES_text_value (own_eqi nr16)), (own_elem ev_u_Optimality_YES_text_value A_u_Optimality_YES_text_value (own_eqi nr17)), (own_elem ev_u_Optimality_YES_text_value A_u_Optimality_YES_text_value (own_eqi nr18)), trivial⟩
  obtain ⟨kc_u_Optimality_YES_text_value, V_u_Optimality_YES_text_value⟩ : ∃ k, Arv s s.heap u_Optimality_YES_text_value k Jvm.ClassFile.FieldType.byte (3 : Int32) [(.int (121 : Int32)), (.int (101 : Int32)), (.int (115 : Int32))] (.int (0 : Int32)) := ⟨_, V_u_Optimality_YES_text_value⟩
  have V_u_Optimality_NOT_APPLICABLE_text_value := Arv.start (dv := (.int (0 : Int32))) (vs := [(.int (110 : Int32)), (.int (47 : Int32)), (.int (97 : Int32))]) hfit A_u_Optimality_NOT_APPLICABLE_text_value (own_lenv ev_u_Optimality_NOT_APPLICABLE_text_value A_u_Optimality_NOT_APPLICABLE_text_value nr22).1 (own_lenv ev_u_Optimality_NOT_APPLICABLE_text_value A_u_Optimality_NOT_APPLICABLE_text_value nr22).2 (by decide) rfl ⟨(own_elem ev_u_Optimality_NOT_APPLICABLE_text_value A_u_Optimality_NOT_APPLICABLE_text_value (own_eqi nr23)), (own_elem ev_u_Optimality_NOT_APPLICABLE_text_value A_u_Optimality_NOT_APPLICABLE_text_value (own_eqi nr24)), (own_elem ev_u_Optimality_NOT_APPLICABLE_text_value A_u_Optimality_NOT_APPLICABLE_text_value (own_eqi nr25)), trivial⟩
  obtain ⟨kc_u_Optimality_NOT_APPLICABLE_text_value, V_u_Optimality_NOT_APPLICABLE_text_value⟩ : ∃ k, Arv s s.heap u_Optimality_NOT_APPLICABLE_text_value k Jvm.ClassFile.FieldType.byte (3 : Int32) [(.int (110 : Int32)), (.int (47 : Int32)), (.int (97 : Int32))] (.int (0 : Int32)) := ⟨_, V_u_Optimality_NOT_APPLICABLE_text_value⟩
  obtain ⟨hsets, hown0⟩ := atoms_of _ (rest_1_c_eq ▸ (show rest_1_c.before _ s = true from hrest))
  obtain ⟨zc, ev_zc⟩ := is_v (Cond.before_iff.mp (hsets _ (List.mem_of_getElem? (i := 1) rfl)))
  have S_CS := Sta.start ev_zc (Or.inl (hsets _ (List.mem_of_getElem? (i := 0) rfl)))
  have P_CS : ¬ zc = (0 : Int32) := gotF (Cond.eq_ints ev_zc (Term.int_eval (0))) (not_v (Cond.before_iff.mp (hsets _ (List.mem_of_getElem? (i := 2) rfl))))
  obtain ⟨n, o, h1, h2, h3, _, L, rfl, ⟨rfl, N⟩, -, hq⟩ := rm0 l s _ hw tables_1 i0 u_Optimality_NO u_Optimality_NOT_APPLICABLE u_Optimality_YES u_Optimality_NO_text u_Optimality_NO_text_value u_Optimality_YES_text u_Optimality_YES_text_value u_Optimality_NOT_APPLICABLE_text u_Optimality_NOT_APPLICABLE_text_value kc_u_Optimality_NO_text_value kc_u_Optimality_YES_text_value kc_u_Optimality_NOT_APPLICABLE_text_value zc s.heap s.heap.size (Nat.le_refl _) (Old.start s) S_u_Optimality_NO E_u_Optimality_NO S_u_Optimality_NOT_APPLICABLE E_u_Optimality_NOT_APPLICABLE F_u_Optimality_NO_ordinal F_u_Optimality_NOT_APPLICABLE_ordinal S_u_Optimality_YES E_u_Optimality_YES F_u_Optimality_YES_ordinal F_u_Optimality_NO_text E_u_Optimality_NO_text F_u_Optimality_NO_text_coder F_u_Optimality_NO_text_value F_u_Optimality_YES_text E_u_Optimality_YES_text F_u_Optimality_YES_text_coder F_u_Optimality_YES_text_value F_u_Optimality_NOT_APPLICABLE_text E_u_Optimality_NOT_APPLICABLE_text F_u_Optimality_NOT_APPLICABLE_text_coder F_u_Optimality_NOT_APPLICABLE_text_value V_u_Optimality_NO_text_value V_u_Optimality_YES_text_value V_u_Optimality_NOT_APPLICABLE_text_value S_CS P_CS  p e ha hc hk s m _ below hf ((Spec.applies_iff_loose hf).mp happ).1 ⟨rfl, State.Warmed39.refl s, rfl, (CHv.start (own_hEL hw) (fun q hq => (hcalls.1 : Jvm.Lit.constsHeld consts_1 s) q ((by decide : ∀ q ∈ own_EL, q ∈ consts_1) q hq)) (hsets _ (List.mem_of_getElem? (i := 2) rfl)) (hw _ (List.mem_of_getElem? (i := 21) rfl)) (hw _ (List.mem_of_getElem? (i := 20) rfl)))⟩ trivial
  refine ⟨n, _, h1, h2, h3, hpost _ _ _ _ _ _ ⟨Cond.after_iff.mpr rfl, Cond.after_iff.mpr (eq_i res_at (Term.int_eval (1)) rfl), trivial⟩ ⟨hq.1, hq.2.1, hq.2.2.1, (hq.2.2.2.sift fun y hy => Or.inr (N y hy)).mono (by decide) (by decide)⟩⟩
theorem main_1_1 : Claimed_1_1 := comes_1 fun _ _ _ _ _ _ h hF => ⟨h.1, hF⟩
theorem main_1_2 : Claimed_1_2 := comes_1 fun _ _ _ _ _ _ h hF => ⟨h.2.1, hF⟩
end Jvm.Pilot.@@N@@
namespace Jvm.Pilot.@@N@@
open Jvm Jvm.ClassFile Sem Op Lib Jvm.Free Jvm.Stand Jvm.Pilot.@@N@@.Jvm.D
/-! MADE BY PROGRAM (witnessworld.py) out of the Statement's table words and the real class files: 18 classes; the members and pool entries that the words name. The judged class is class 1, her method 1. -/
namespace start1
open Jvm.ClassFile
def u (s : String) : CpInfo := .utf8 (stringToUtf16 s)
/-- a pool by its gaps: so many unusable entries, then the entry; so many at the end -/
def gap : Nat → List CpInfo → List CpInfo
  | 0, r => r
  | n + 1, r => .unusable :: gap n r
def poolList (es : List (Nat × CpInfo)) (last : Nat) : List CpInfo := es.foldr (fun e r => gap e.1 (e.2 :: r)) (gap last [])
def pool (es : List (Nat × CpInfo)) (last : Nat) : Array CpInfo := ⟨poolList es last⟩
def fileOf (pool : Array CpInfo) (this : Nat) (attrs : Array Attribute := #[]) (ms : Array MethodInfo := #[]) (fl : Nat := 33) (sup : Nat := 0) (ifs : Array Nat := #[]) (fds : Array FieldInfo := #[]) : ClassFile where
  minorVersion := 0
  majorVersion := 65
  constantPool := pool
  accessFlags := fl
  thisClass := this
  superClass := sup
  interfaces := ifs
  fields := fds
  methods := ms
  attributes := attrs
def plain (name : String) (sup : Option ClassId) : Class where
  name := name
  kind := .ordinary
  loader := none
  accessFlags := 33
  super := sup
  interfaces := #[]
  cf := none
  fields := #[]
  methods := #[]
  instanceTypes := #[]
  staticTypes := #[]
  resolved := #[]
  callSites := []
  init := .initialized
  statics := none
  mirror := none

def pool0 : Array CpInfo := pool [(5, u "<init>"), (0, u "()V"), (1, .class_ 10), (1, u "java/lang/Object")] 113

def k0m0 : Method := { name := "<init>", desc := "()V", sig := { parameters := [], returnType := none }, accessFlags := 1, code := none }
/-- java/lang/Object -/
def k0 : Class := { plain "java/lang/Object" none with
  accessFlags := 33
  interfaces := #[]
  cf := some (fileOf pool0 8 #[] #[{ accessFlags := 1, nameIndex := 5, descriptorIndex := 6, attributes := #[] }] 33 0 #[] #[])
  fields := #[]
  methods := #[k0m0]
  instanceTypes := #[]
  staticTypes := #[]
  resolved := Array.replicate 124 none
  statics := none }

def pool1 : Array CpInfo := pool [(2, .class_ 4), (1, u "java/lang/Object"), (0, u "<init>"), (0, u "()V"), (0, .methodref 8 9), (0, .class_ 10), (0, .nameAndType 11 12), (0, u "com/example/tightrope/tightrope/Optimality"), (0, u "of"), (0, u "(Z)Lcom/example/tightrope/tightrope/Optimality;"), (0, .fieldref 8 14), (0, .nameAndType 15 16), (0, u "NOT_APPLICABLE"), (0, u "Lcom/example/tightrope/tightrope/Optimality;"), (0, .fieldref 8 18), (0, .nameAndType 19 16), (0, u "YES"), (0, .fieldref 8 21), (0, .nameAndType 22 16), (0, u "NO"), (0, .methodref 8 24), (0, .nameAndType 25 26), (0, u "text"), (0, u "()Ljava/lang/String;"), (0, .string 28), (0, u "yes"), (0, .methodref 30 31), (0, .class_ 32), (0, .nameAndType 33 34), (0, u "java/lang/String"), (0, u "equals"), (0, u "(Ljava/lang/Object;)Z"), (0, .string 36), (0, u "no"), (0, .class_ 38), (0, u "com/example/tightrope/tightrope/OptimalityOfPinLaw"), (2, u "law"), (0, u "(I)Z")] 3

def k1m0 : Method := { name := "<init>", desc := "()V", sig := { parameters := [], returnType := none }, accessFlags := 2, code := none }
def k1c1 : Code := { maxStack := 2, maxLocals := 4, code := code, exceptionTable := #[], attributes := #[] }
def k1m1 : Method := { name := "law", desc := "(I)Z", sig := { parameters := [.int], returnType := some .boolean }, accessFlags := 9, code := some k1c1 }
/-- com/example/tightrope/tightrope/OptimalityOfPinLaw -/
def k1 : Class := { plain "com/example/tightrope/tightrope/OptimalityOfPinLaw" (some 0) with
  accessFlags := 49
  interfaces := #[]
  cf := some (fileOf pool1 37 #[] #[{ accessFlags := 2, nameIndex := 5, descriptorIndex := 6, attributes := #[] }, { accessFlags := 9, nameIndex := 41, descriptorIndex := 42, attributes := #[] }] 49 2 #[] #[])
  fields := #[]
  methods := #[k1m0, k1m1]
  instanceTypes := #[]
  staticTypes := #[]
  resolved := Array.replicate 46 none
  statics := none }

def pool2 : Array CpInfo := pool [(1, .class_ 2), (0, u "java/lang/constant/Constable"), (0, .class_ 4), (0, u "java/lang/Object")] 6

/-- java/lang/constant/Constable -/
def k2 : Class := { plain "java/lang/constant/Constable" (some 0) with
  accessFlags := 1537
  interfaces := #[]
  cf := some (fileOf pool2 1 #[] #[] 1537 3 #[] #[])
  fields := #[]
  methods := #[]
  instanceTypes := #[]
  staticTypes := #[]
  resolved := Array.replicate 11 none
  statics := none }

def pool3 : Array CpInfo := pool [(1, .class_ 2), (0, u "java/lang/Comparable"), (0, .class_ 4), (0, u "java/lang/Object")] 7

/-- java/lang/Comparable -/
def k3 : Class := { plain "java/lang/Comparable" (some 0) with
  accessFlags := 1537
  interfaces := #[]
  cf := some (fileOf pool3 1 #[] #[] 1537 3 #[] #[])
  fields := #[]
  methods := #[]
  instanceTypes := #[]
  staticTypes := #[]
  resolved := Array.replicate 12 none
  statics := none }

def pool4 : Array CpInfo := pool [(1, .class_ 2), (0, u "java/io/Serializable"), (0, .class_ 4), (0, u "java/lang/Object")] 2

/-- java/io/Serializable -/
def k4 : Class := { plain "java/io/Serializable" (some 0) with
  accessFlags := 1537
  interfaces := #[]
  cf := some (fileOf pool4 1 #[] #[] 1537 3 #[] #[])
  fields := #[]
  methods := #[]
  instanceTypes := #[]
  staticTypes := #[]
  resolved := Array.replicate 7 none
  statics := none }

def pool5 : Array CpInfo := pool [(2, .class_ 4), (1, u "java/lang/Enum"), (0, u "name"), (0, u "Ljava/lang/String;"), (2, u "ordinal"), (0, u "I"), (1, .class_ 14), (1, u "java/lang/Object"), (4, u "hash"), (86, .class_ 108), (1, u "java/lang/Enum$EnumDesc"), (2, .class_ 112), (0, u "java/lang/constant/Constable"), (0, .class_ 114), (0, u "java/lang/Comparable"), (0, .class_ 116), (0, u "java/io/Serializable")] 87

/-- java/lang/Enum -/
def k5 : Class := { plain "java/lang/Enum" (some 0) with
  accessFlags := 1057
  interfaces := #[2, 3, 4]
  cf := some (fileOf pool5 2 #[.nestMembers #[106]] #[] 1057 12 #[111, 113, 115] #[{ accessFlags := 18, nameIndex := 5, descriptorIndex := 6, attributes := #[] }, { accessFlags := 18, nameIndex := 9, descriptorIndex := 10, attributes := #[] }, { accessFlags := 2, nameIndex := 19, descriptorIndex := 10, attributes := #[] }])
  fields := #[{ name := "name", type := (.object "java/lang/String"), accessFlags := 18, slot := 0, constantValue := 0 }, { name := "ordinal", type := .int, accessFlags := 18, slot := 1, constantValue := 0 }, { name := "hash", type := .int, accessFlags := 2, slot := 2, constantValue := 0 }]
  methods := #[]
  instanceTypes := #[(.object "java/lang/String"), .int, .int]
  staticTypes := #[]
  resolved := Array.replicate 204 none
  statics := none }

def pool6 : Array CpInfo := pool [(1, .class_ 2), (0, u "com/example/tightrope/tightrope/Optimality"), (0, .fieldref 1 4), (0, .nameAndType 5 6), (0, u "YES"), (0, u "Lcom/example/tightrope/tightrope/Optimality;"), (0, .fieldref 1 8), (0, .nameAndType 9 6), (0, u "NO"), (2, u "NOT_APPLICABLE"), (2, u "$VALUES"), (0, u "[Lcom/example/tightrope/tightrope/Optimality;"), (6, .class_ 25), (1, u "java/lang/Enum"), (6, .fieldref 1 33), (0, .nameAndType 34 35), (0, u "text"), (0, u "Ljava/lang/String;"), (23, u "of"), (0, u "(Z)Lcom/example/tightrope/tightrope/Optimality;"), (1, u "()Ljava/lang/String;")] 5

def k6c0 : Code := { maxStack := 1, maxLocals := 1, code := prog_3_method_4_code, exceptionTable := #[], attributes := #[] }
def k6m0 : Method := { name := "of", desc := "(Z)Lcom/example/tightrope/tightrope/Optimality;", sig := { parameters := [.boolean], returnType := some (.object "com/example/tightrope/tightrope/Optimality") }, accessFlags := 9, code := some k6c0 }
def k6c1 : Code := { maxStack := 1, maxLocals := 1, code := prog_3_method_5_code, exceptionTable := #[], attributes := #[] }
def k6m1 : Method := { name := "text", desc := "()Ljava/lang/String;", sig := { parameters := [], returnType := some (.object "java/lang/String") }, accessFlags := 1, code := some k6c1 }
/-- com/example/tightrope/tightrope/Optimality -/
def k6 : Class := { plain "com/example/tightrope/tightrope/Optimality" (some 5) with
  accessFlags := 16433
  interfaces := #[]
  cf := some (fileOf pool6 1 #[] #[{ accessFlags := 9, nameIndex := 59, descriptorIndex := 60, attributes := #[] }, { accessFlags := 1, nameIndex := 34, descriptorIndex := 62, attributes := #[] }] 16433 23 #[] #[{ accessFlags := 16409, nameIndex := 5, descriptorIndex := 6, attributes := #[] }, { accessFlags := 16409, nameIndex := 9, descriptorIndex := 6, attributes := #[] }, { accessFlags := 16409, nameIndex := 12, descriptorIndex := 6, attributes := #[] }, { accessFlags := 18, nameIndex := 34, descriptorIndex := 35, attributes := #[] }, { accessFlags := 4122, nameIndex := 15, descriptorIndex := 16, attributes := #[] }])
  fields := #[{ name := "YES", type := (.object "com/example/tightrope/tightrope/Optimality"), accessFlags := 16409, slot := 0, constantValue := 0 }, { name := "NO", type := (.object "com/example/tightrope/tightrope/Optimality"), accessFlags := 16409, slot := 1, constantValue := 0 }, { name := "NOT_APPLICABLE", type := (.object "com/example/tightrope/tightrope/Optimality"), accessFlags := 16409, slot := 2, constantValue := 0 }, { name := "text", type := (.object "java/lang/String"), accessFlags := 18, slot := 3, constantValue := 0 }, { name := "$VALUES", type := (.array (.object "com/example/tightrope/tightrope/Optimality")), accessFlags := 4122, slot := 3, constantValue := 0 }]
  methods := #[k6m0, k6m1]
  instanceTypes := #[(.object "java/lang/String"), .int, .int, (.object "java/lang/String")]
  staticTypes := #[(.object "com/example/tightrope/tightrope/Optimality"), (.object "com/example/tightrope/tightrope/Optimality"), (.object "com/example/tightrope/tightrope/Optimality"), (.array (.object "com/example/tightrope/tightrope/Optimality"))]
  resolved := Array.replicate 68 none
  statics := some 0 }

def pool7 : Array CpInfo := pool [(2, .class_ 4), (1, u "java/lang/CharSequence"), (42, .class_ 48), (0, u "java/lang/CharSequence$1CodePointIterator"), (10, .class_ 60), (0, u "java/lang/CharSequence$1CharIterator"), (5, .class_ 67), (0, u "java/lang/Object")] 63

/-- java/lang/CharSequence -/
def k7 : Class := { plain "java/lang/CharSequence" (some 0) with
  accessFlags := 1537
  interfaces := #[]
  cf := some (fileOf pool7 2 #[.nestMembers #[47, 59]] #[] 1537 66 #[] #[])
  fields := #[]
  methods := #[]
  instanceTypes := #[]
  staticTypes := #[]
  resolved := Array.replicate 131 none
  statics := none }

def pool8 : Array CpInfo := pool [(1, .class_ 2), (0, u "java/lang/constant/ConstantDesc"), (0, .class_ 4), (0, u "java/lang/Object")] 32

/-- java/lang/constant/ConstantDesc -/
def k8 : Class := { plain "java/lang/constant/ConstantDesc" (some 0) with
  accessFlags := 1537
  interfaces := #[]
  cf := some (fileOf pool8 1 #[] #[] 1537 3 #[] #[])
  fields := #[]
  methods := #[]
  instanceTypes := #[]
  staticTypes := #[]
  resolved := Array.replicate 37 none
  statics := none }

def pool9 : Array CpInfo := pool [(2, .class_ 4), (1, u "java/lang/Object"), (0, u "<init>"), (0, u "()V"), (2, .fieldref 10 11), (0, .class_ 12), (0, .nameAndType 13 14), (0, u "java/lang/String"), (0, u "value"), (0, u "[B"), (0, .fieldref 10 16), (0, .nameAndType 17 18), (0, u "coder"), (0, u "B"), (2, u "hash"), (0, u "I"), (2, u "hashIsZero"), (0, u "Z"), (11, .fieldref 10 39), (0, .nameAndType 40 26), (0, u "COMPACT_STRINGS"), (66, .class_ 109), (1, u "java/lang/StringLatin1"), (431, .methodref 107 542), (0, .nameAndType 543 544), (0, u "equals"), (0, u "([B[B)Z"), (28, u "(Ljava/lang/Object;)Z"), (1, .class_ 576), (0, u "java/lang/CharSequence"), (22, u "CASE_INSENSITIVE_ORDER"), (0, u "Ljava/util/Comparator;"), (500, u "serialPersistentFields"), (0, u "[Ljava/io/ObjectStreamField;"), (0, .class_ 1104), (0, u "java/lang/String$CaseInsensitiveComparator"), (1, .class_ 1107), (0, u "java/io/Serializable"), (0, .class_ 1109), (0, u "java/lang/Comparable"), (0, .class_ 1111), (0, u "java/lang/constant/Constable"), (0, .class_ 1113), (0, u "java/lang/constant/ConstantDesc"), (2, u "serialVersionUID"), (0, u "J"), (3, u "REPL"), (0, u "C"), (2, u "LATIN1"), (1, u "UTF16")] 323

def k9m0 : Method := { name := "<init>", desc := "()V", sig := { parameters := [], returnType := none }, accessFlags := 1, code := none }
def k9c1 : Code := { maxStack := 2, maxLocals := 3, code := jdk_42_method_66_code, exceptionTable := #[], attributes := #[] }
def k9m1 : Method := { name := "equals", desc := "(Ljava/lang/Object;)Z", sig := { parameters := [(.object "java/lang/Object")], returnType := some .boolean }, accessFlags := 1, code := some k9c1 }
/-- java/lang/String -/
def k9 : Class := { plain "java/lang/String" (some 0) with
  accessFlags := 49
  interfaces := #[4, 3, 7, 2, 8]
  cf := some (fileOf pool9 10 #[.nestMembers #[1103]] #[{ accessFlags := 1, nameIndex := 5, descriptorIndex := 6, attributes := #[] }, { accessFlags := 1, nameIndex := 543, descriptorIndex := 573, attributes := #[] }] 49 2 #[1106, 1108, 575, 1110, 1112] #[{ accessFlags := 18, nameIndex := 13, descriptorIndex := 14, attributes := #[] }, { accessFlags := 18, nameIndex := 17, descriptorIndex := 18, attributes := #[] }, { accessFlags := 2, nameIndex := 21, descriptorIndex := 22, attributes := #[] }, { accessFlags := 2, nameIndex := 25, descriptorIndex := 26, attributes := #[] }, { accessFlags := 26, nameIndex := 1116, descriptorIndex := 1117, attributes := #[] }, { accessFlags := 24, nameIndex := 40, descriptorIndex := 26, attributes := #[] }, { accessFlags := 26, nameIndex := 1101, descriptorIndex := 1102, attributes := #[] }, { accessFlags := 26, nameIndex := 1121, descriptorIndex := 1122, attributes := #[] }, { accessFlags := 25, nameIndex := 599, descriptorIndex := 600, attributes := #[] }, { accessFlags := 24, nameIndex := 1125, descriptorIndex := 18, attributes := #[] }, { accessFlags := 24, nameIndex := 1127, descriptorIndex := 18, attributes := #[] }])
  fields := #[{ name := "value", type := (.array .byte), accessFlags := 18, slot := 0, constantValue := 0 }, { name := "coder", type := .byte, accessFlags := 18, slot := 1, constantValue := 0 }, { name := "hash", type := .int, accessFlags := 2, slot := 2, constantValue := 0 }, { name := "hashIsZero", type := .boolean, accessFlags := 2, slot := 3, constantValue := 0 }, { name := "serialVersionUID", type := .long, accessFlags := 26, slot := 0, constantValue := 0 }, { name := "COMPACT_STRINGS", type := .boolean, accessFlags := 24, slot := 1, constantValue := 0 }, { name := "serialPersistentFields", type := (.array (.object "java/io/ObjectStreamField")), accessFlags := 26, slot := 2, constantValue := 0 }, { name := "REPL", type := .char, accessFlags := 26, slot := 3, constantValue := 0 }, { name := "CASE_INSENSITIVE_ORDER", type := (.object "java/util/Comparator"), accessFlags := 25, slot := 4, constantValue := 0 }, { name := "LATIN1", type := .byte, accessFlags := 24, slot := 5, constantValue := 0 }, { name := "UTF16", type := .byte, accessFlags := 24, slot := 6, constantValue := 0 }]
  methods := #[k9m0, k9m1]
  instanceTypes := #[(.array .byte), .byte, .int, .boolean]
  staticTypes := #[.long, .boolean, (.array (.object "java/io/ObjectStreamField")), .char, (.object "java/util/Comparator"), .byte, .byte]
  resolved := Array.replicate 1451 none
  statics := some 1 }

def pool10 : Array CpInfo := pool [(4, .class_ 6), (1, u "java/lang/Object"), (0, u "<init>"), (0, u "()V"), (5, .class_ 16), (1, u "java/lang/StringLatin1"), (104, u "$assertionsDisabled"), (0, u "Z"), (98, .class_ 223), (1, u "java/lang/StringLatin1$LinesSpliterator"), (57, u "equals"), (0, u "([B[B)Z"), (107, .class_ 391), (0, u "java/lang/StringLatin1$CharsSpliterator")] 3

def k10m0 : Method := { name := "<init>", desc := "()V", sig := { parameters := [], returnType := none }, accessFlags := 0, code := none }
def k10c1 : Code := { maxStack := 3, maxLocals := 3, code := jdk_43_method_13_code, exceptionTable := #[], attributes := #[] }
def k10m1 : Method := { name := "equals", desc := "([B[B)Z", sig := { parameters := [(.array .byte), (.array .byte)], returnType := some .boolean }, accessFlags := 9, code := some k10c1 }
/-- java/lang/StringLatin1 -/
def k10 : Class := { plain "java/lang/StringLatin1" (some 0) with
  accessFlags := 48
  interfaces := #[]
  cf := some (fileOf pool10 14 #[.nestMembers #[390, 221]] #[{ accessFlags := 0, nameIndex := 7, descriptorIndex := 8, attributes := #[] }, { accessFlags := 9, nameIndex := 281, descriptorIndex := 282, attributes := #[] }] 48 4 #[] #[{ accessFlags := 4120, nameIndex := 121, descriptorIndex := 122, attributes := #[] }])
  fields := #[{ name := "$assertionsDisabled", type := .boolean, accessFlags := 4120, slot := 0, constantValue := 0 }]
  methods := #[k10m0, k10m1]
  instanceTypes := #[]
  staticTypes := #[.boolean]
  resolved := Array.replicate 395 none
  statics := none }

def pool11 : Array CpInfo := pool [(2, .class_ 4), (1, u "java/lang/Object"), (0, u "<init>"), (0, u "()V"), (17, .class_ 26), (1, u "jdk/internal/util/Preconditions"), (28, .class_ 56), (0, u "jdk/internal/util/Preconditions$4"), (57, .class_ 115), (0, u "jdk/internal/util/Preconditions$1"), (7, u "SIOOBE_FORMATTER"), (0, u "Ljava/util/function/BiFunction;"), (0, .class_ 126), (0, u "jdk/internal/util/Preconditions$2"), (3, u "AIOOBE_FORMATTER"), (0, .class_ 132), (0, u "jdk/internal/util/Preconditions$3"), (3, u "IOOBE_FORMATTER")] 57

def k11m0 : Method := { name := "<init>", desc := "()V", sig := { parameters := [], returnType := none }, accessFlags := 1, code := none }
/-- jdk/internal/util/Preconditions -/
def k11 : Class := { plain "jdk/internal/util/Preconditions" (some 0) with
  accessFlags := 33
  interfaces := #[]
  cf := some (fileOf pool11 24 #[.nestMembers #[55, 131, 125, 114]] #[{ accessFlags := 1, nameIndex := 5, descriptorIndex := 6, attributes := #[] }] 33 2 #[] #[{ accessFlags := 25, nameIndex := 123, descriptorIndex := 124, attributes := #[] }, { accessFlags := 25, nameIndex := 130, descriptorIndex := 124, attributes := #[] }, { accessFlags := 25, nameIndex := 136, descriptorIndex := 124, attributes := #[] }])
  fields := #[{ name := "SIOOBE_FORMATTER", type := (.object "java/util/function/BiFunction"), accessFlags := 25, slot := 0, constantValue := 0 }, { name := "AIOOBE_FORMATTER", type := (.object "java/util/function/BiFunction"), accessFlags := 25, slot := 1, constantValue := 0 }, { name := "IOOBE_FORMATTER", type := (.object "java/util/function/BiFunction"), accessFlags := 25, slot := 2, constantValue := 0 }]
  methods := #[k11m0]
  instanceTypes := #[]
  staticTypes := #[(.object "java/util/function/BiFunction"), (.object "java/util/function/BiFunction"), (.object "java/util/function/BiFunction")]
  resolved := Array.replicate 194 none
  statics := some 2 }

def pool12 : Array CpInfo := pool [(9, u "<init>"), (6, .class_ 18), (1, u "java/lang/Object"), (0, u "()V"), (1, .class_ 23), (1, u "jdk/internal/util/ArraysSupport"), (0, u "LOG2_ARRAY_LONG_INDEX_SCALE"), (0, u "I"), (2, u "U"), (0, u "Ljdk/internal/misc/Unsafe;"), (8, u "BIG_ENDIAN"), (0, u "Z"), (8, u "LOG2_BYTE_BIT_SIZE"), (4, u "LOG2_ARRAY_INT_INDEX_SCALE"), (54, u "JLA"), (0, u "Ljdk/internal/access/JavaLangAccess;"), (11, u "LOG2_ARRAY_BOOLEAN_INDEX_SCALE"), (9, u "LOG2_ARRAY_BYTE_INDEX_SCALE"), (5, u "LOG2_ARRAY_CHAR_INDEX_SCALE"), (5, u "LOG2_ARRAY_SHORT_INDEX_SCALE"), (18, u "LOG2_ARRAY_FLOAT_INDEX_SCALE"), (24, u "LOG2_ARRAY_DOUBLE_INDEX_SCALE"), (89, u "T_BOOLEAN"), (2, u "T_CHAR"), (1, u "T_FLOAT"), (1, u "T_DOUBLE"), (1, u "T_BYTE"), (1, u "T_SHORT"), (1, u "T_INT"), (1, u "T_LONG"), (1, u "SOFT_MAX_ARRAY_LENGTH")] 83

def k12m0 : Method := { name := "<init>", desc := "()V", sig := { parameters := [], returnType := none }, accessFlags := 2, code := none }
/-- jdk/internal/util/ArraysSupport -/
def k12 : Class := { plain "jdk/internal/util/ArraysSupport" (some 0) with
  accessFlags := 33
  interfaces := #[]
  cf := some (fileOf pool12 21 #[] #[{ accessFlags := 2, nameIndex := 9, descriptorIndex := 19, attributes := #[] }] 33 16 #[] #[{ accessFlags := 24, nameIndex := 28, descriptorIndex := 29, attributes := #[] }, { accessFlags := 26, nameIndex := 38, descriptorIndex := 39, attributes := #[] }, { accessFlags := 25, nameIndex := 121, descriptorIndex := 25, attributes := #[] }, { accessFlags := 25, nameIndex := 131, descriptorIndex := 25, attributes := #[] }, { accessFlags := 25, nameIndex := 137, descriptorIndex := 25, attributes := #[] }, { accessFlags := 25, nameIndex := 143, descriptorIndex := 25, attributes := #[] }, { accessFlags := 25, nameIndex := 53, descriptorIndex := 25, attributes := #[] }, { accessFlags := 25, nameIndex := 24, descriptorIndex := 25, attributes := #[] }, { accessFlags := 25, nameIndex := 162, descriptorIndex := 25, attributes := #[] }, { accessFlags := 25, nameIndex := 187, descriptorIndex := 25, attributes := #[] }, { accessFlags := 26, nameIndex := 48, descriptorIndex := 25, attributes := #[] }, { accessFlags := 25, nameIndex := 277, descriptorIndex := 25, attributes := #[] }, { accessFlags := 25, nameIndex := 280, descriptorIndex := 25, attributes := #[] }, { accessFlags := 25, nameIndex := 282, descriptorIndex := 25, attributes := #[] }, { accessFlags := 25, nameIndex := 284, descriptorIndex := 25, attributes := #[] }, { accessFlags := 25, nameIndex := 286, descriptorIndex := 25, attributes := #[] }, { accessFlags := 25, nameIndex := 288, descriptorIndex := 25, attributes := #[] }, { accessFlags := 25, nameIndex := 290, descriptorIndex := 25, attributes := #[] }, { accessFlags := 25, nameIndex := 292, descriptorIndex := 25, attributes := #[] }, { accessFlags := 26, nameIndex := 108, descriptorIndex := 109, attributes := #[] }, { accessFlags := 25, nameIndex := 294, descriptorIndex := 25, attributes := #[] }])
  fields := #[{ name := "U", type := (.object "jdk/internal/misc/Unsafe"), accessFlags := 24, slot := 0, constantValue := 0 }, { name := "BIG_ENDIAN", type := .boolean, accessFlags := 26, slot := 1, constantValue := 0 }, { name := "LOG2_ARRAY_BOOLEAN_INDEX_SCALE", type := .int, accessFlags := 25, slot := 2, constantValue := 0 }, { name := "LOG2_ARRAY_BYTE_INDEX_SCALE", type := .int, accessFlags := 25, slot := 3, constantValue := 0 }, { name := "LOG2_ARRAY_CHAR_INDEX_SCALE", type := .int, accessFlags := 25, slot := 4, constantValue := 0 }, { name := "LOG2_ARRAY_SHORT_INDEX_SCALE", type := .int, accessFlags := 25, slot := 5, constantValue := 0 }, { name := "LOG2_ARRAY_INT_INDEX_SCALE", type := .int, accessFlags := 25, slot := 6, constantValue := 0 }, { name := "LOG2_ARRAY_LONG_INDEX_SCALE", type := .int, accessFlags := 25, slot := 7, constantValue := 0 }, { name := "LOG2_ARRAY_FLOAT_INDEX_SCALE", type := .int, accessFlags := 25, slot := 8, constantValue := 0 }, { name := "LOG2_ARRAY_DOUBLE_INDEX_SCALE", type := .int, accessFlags := 25, slot := 9, constantValue := 0 }, { name := "LOG2_BYTE_BIT_SIZE", type := .int, accessFlags := 26, slot := 10, constantValue := 0 }, { name := "T_BOOLEAN", type := .int, accessFlags := 25, slot := 11, constantValue := 0 }, { name := "T_CHAR", type := .int, accessFlags := 25, slot := 12, constantValue := 0 }, { name := "T_FLOAT", type := .int, accessFlags := 25, slot := 13, constantValue := 0 }, { name := "T_DOUBLE", type := .int, accessFlags := 25, slot := 14, constantValue := 0 }, { name := "T_BYTE", type := .int, accessFlags := 25, slot := 15, constantValue := 0 }, { name := "T_SHORT", type := .int, accessFlags := 25, slot := 16, constantValue := 0 }, { name := "T_INT", type := .int, accessFlags := 25, slot := 17, constantValue := 0 }, { name := "T_LONG", type := .int, accessFlags := 25, slot := 18, constantValue := 0 }, { name := "JLA", type := (.object "jdk/internal/access/JavaLangAccess"), accessFlags := 26, slot := 19, constantValue := 0 }, { name := "SOFT_MAX_ARRAY_LENGTH", type := .int, accessFlags := 25, slot := 20, constantValue := 0 }]
  methods := #[k12m0]
  instanceTypes := #[]
  staticTypes := #[(.object "jdk/internal/misc/Unsafe"), .boolean, .int, .int, .int, .int, .int, .int, .int, .int, .int, .int, .int, .int, .int, .int, .int, .int, .int, (.object "jdk/internal/access/JavaLangAccess"), .int]
  resolved := Array.replicate 378 none
  statics := none }

def pool13 : Array CpInfo := pool [(1, u "java/lang/Cloneable"), (0, .class_ 1), (0, u "java/lang/Object"), (0, .class_ 3)] 3

/-- java/lang/Cloneable -/
def k13 : Class := { plain "java/lang/Cloneable" (some 0) with
  accessFlags := 1537
  interfaces := #[]
  cf := some (fileOf pool13 2 #[] #[] 1537 4 #[] #[])
  fields := #[]
  methods := #[]
  instanceTypes := #[]
  staticTypes := #[]
  resolved := Array.replicate 8 none
  statics := none }

/-- the primitive byte -/
def k14 : Class := { plain "byte" none with kind := .primitive 'B', accessFlags := 0x411 }
/-- [B -/
def k15 : Class := { plain "[B" (some 0) with kind := .array 14 .byte, interfaces := #[13, 4], accessFlags := 1041 }

/-- the primitive int -/
def k16 : Class := { plain "int" none with kind := .primitive 'I', accessFlags := 0x411 }
/-- [I -/
def k17 : Class := { plain "[I" (some 0) with kind := .array 16 .int, interfaces := #[13, 4], accessFlags := 1041 }

def heap : Heap := #[{ cls := 6, slots := #[.ref 9, .ref 10, .ref 11, .null], vm := .statics 6 },
  { cls := 9, slots := #[.long 0, .int 1, .null, .int 0, .null, .int 0, .int 0], vm := .statics 9 },
  { cls := 11, slots := #[.null, .null, .null], vm := .statics 11 },
  { cls := 15, slots := #[.int 121, .int 101, .int 115], vm := .none },
  { cls := 15, slots := #[.int 110, .int 111], vm := .none },
  { cls := 15, slots := #[.int 110, .int 47, .int 97], vm := .none },
  { cls := 9, slots := #[.ref 3, .int 0, .int 0, .int 0], vm := .none },
  { cls := 9, slots := #[.ref 4, .int 0, .int 0, .int 0], vm := .none },
  { cls := 9, slots := #[.ref 5, .int 0, .int 0, .int 0], vm := .none },
  { cls := 6, slots := #[.null, .int 0, .int 0, .ref 6], vm := .none },
  { cls := 6, slots := #[.null, .int 1, .int 0, .ref 7], vm := .none },
  { cls := 6, slots := #[.null, .int 2, .int 0, .ref 8], vm := .none }]
def classes : Array Class := #[k0, k1, k2, k3, k4, k5, k6, k7, k8, k9, k10, k11, k12, k13, k14, k15, k16, k17]
def interned : List (Array UInt16 × Addr) := []
def slotsUsed : Nat := 46
def theMethod : MethodId := ⟨1, 1⟩
def args0 : Array Value := #[.int 1]
def aboutOver (below : List Frame) : State where
  vm := { classes := classes, interned := interned.toArray }
  heap := heap
  slotsUsed := slotsUsed
  threads := #[{ frames := .invoking theMethod args0 :: below }]
def below0 : List Frame := [.native { method := ⟨0, 0⟩, args := #[] }]
def about1 : State := aboutOver below0
def p0 : Program := .bare "" "" ""
def e0 : Env := launch0.env 0 0 0
theorem w_frames : about1.frames = Frame.invoking theMethod args0 :: below0 := rfl
set_option maxRecDepth 65536 in
theorem w_args : argsFit about1.vm theMethod args0 = true := by decide +kernel
set_option maxRecDepth 65536 in
theorem w_heap : heapFits about1 = true := by decide +kernel
set_option maxRecDepth 65536 in
theorem w_runnable : about1.curStatus? = some .runnable := by decide +kernel
set_option maxRecDepth 65536 in
theorem w_alone : about1.alone = true := by decide +kernel
set_option maxRecDepth 65536 in
theorem w_named : about1.methodNamed? x = some theMethod := by decide +kernel
set_option maxRecDepth 65536 in
theorem w_hears : about1.hears theMethod below0 = true := by decide +kernel
set_option maxRecDepth 65536 in
theorem w_ripe : about1.ripe theMethod args0 below0 = true := by decide +kernel
theorem w_running : about1.status = .running := rfl
set_option maxRecDepth 65536 in
theorem w_room : about1.hasRoom e0.platform room_1 = true :=
  launch0.hasRoom_least _ room_1 (by decide +kernel) (by decide +kernel) (by decide +kernel) (by decide +kernel) (by decide +kernel) (by decide +kernel)
theorem allAtoms_all (ts : List Jvm.Cond) (a : Array Jvm.Value) (st : Jvm.State) : (allAtoms ts).before a st = ts.all (fun c => c.before a st) := by
  induction ts with
  | nil => rfl
  | cons c t ih =>
    show (Jvm.Cond.and c (allAtoms t)).before a st = _
    rw [Jvm.Cond.before_and, ih, List.all_cons]
def words1 : List Jvm.Cond := Jvm.Cond.code x code maxLocals ret :: tables_1
/-- a 'code' word, met by the world's own term for the bytes: nothing is compared byte by byte -/
theorem code_word {y : MethodName} {bytes : ByteArray} {mx : Nat} {rt : Option FieldType} {a : Array Value} {s : State} {m : MethodId} {meth : Method} {c : Code} (h1 : s.methodNamed? y = some m) (h2 : s.vm.method? m = some meth) (h3 : meth.code = some c) (h4 : c.code = bytes)
    (h5 : (c.maxLocals == mx && c.exceptionTable.isEmpty && decide (c.maxStack ≤ mostOperands) && decide (meth.sig.returnType = rt) && !meth.locks && decide (parseMethodDescriptor y.desc = some meth.sig)) = true) : (Jvm.Cond.code y bytes mx rt).before a s = true := by
  simp only [Bool.and_eq_true, beq_iff_eq, Bool.not_eq_true', decide_eq_true_eq] at h5
  obtain ⟨⟨⟨⟨⟨g1, g2⟩, g3⟩, g4⟩, g5⟩, g6⟩ := h5
  simp [Cond.before, Cond.holds, Cond.value, h1, h2, h3, h4, g1, g2, g3, g4, g5, g6]
def isCode : Jvm.Cond → Bool
  | .code _ _ _ _ => true
  | _ => false
theorem all_split {L : List Jvm.Cond} {P : Jvm.Cond → Bool} (h1 : L.all (fun c => isCode c || P c) = true) (h2 : ∀ c ∈ L.filter isCode, P c = true) : L.all P = true := by
  refine List.all_eq_true.mpr fun c hc => ?_
  have h := List.all_eq_true.mp h1 c hc
  rcases Bool.eq_false_or_eq_true (isCode c) with hi | hi
  · exact h2 c (List.mem_filter.mpr ⟨hc, hi⟩)
  · simpa [hi] using h
set_option maxRecDepth 65536 in
theorem w_c0 : (Jvm.Cond.code x code maxLocals ret).before args0 about1 = true := code_word (m := ⟨1, 1⟩) (meth := k1m1) (c := k1c1) (by decide +kernel) rfl rfl rfl (by decide +kernel)
set_option maxRecDepth 65536 in
theorem w_c1 : (Jvm.Cond.code ({ cls := "com/example/tightrope/tightrope/Optimality", name := "of", desc := "(Z)Lcom/example/tightrope/tightrope/Optimality;" } : Jvm.MethodName) prog_3_method_4_code (1 : Nat) (Option.some (Jvm.ClassFile.FieldType.object "com/example/tightrope/tightrope/Optimality"))).before args0 about1 = true := code_word (m := ⟨6, 0⟩) (meth := k6m0) (c := k6c0) (by decide +kernel) rfl rfl rfl (by decide +kernel)
set_option maxRecDepth 65536 in
theorem w_c2 : (Jvm.Cond.code ({ cls := "com/example/tightrope/tightrope/Optimality", name := "text", desc := "()Ljava/lang/String;" } : Jvm.MethodName) prog_3_method_5_code (1 : Nat) (Option.some (Jvm.ClassFile.FieldType.object "java/lang/String"))).before args0 about1 = true := code_word (m := ⟨6, 1⟩) (meth := k6m1) (c := k6c1) (by decide +kernel) rfl rfl rfl (by decide +kernel)
set_option maxRecDepth 65536 in
theorem w_c3 : (Jvm.Cond.code ({ cls := "java/lang/String", name := "equals", desc := "(Ljava/lang/Object;)Z" } : Jvm.MethodName) jdk_42_method_66_code (3 : Nat) (Option.some Jvm.ClassFile.FieldType.boolean)).before args0 about1 = true := code_word (m := ⟨9, 1⟩) (meth := k9m1) (c := k9c1) (by decide +kernel) rfl rfl rfl (by decide +kernel)
set_option maxRecDepth 65536 in
theorem w_c4 : (Jvm.Cond.code ({ cls := "java/lang/StringLatin1", name := "equals", desc := "([B[B)Z" } : Jvm.MethodName) jdk_43_method_13_code (3 : Nat) (Option.some Jvm.ClassFile.FieldType.boolean)).before args0 about1 = true := code_word (m := ⟨10, 1⟩) (meth := k10m1) (c := k10c1) (by decide +kernel) rfl rfl rfl (by decide +kernel)
def codes1 : List Jvm.Cond := [Jvm.Cond.code x code maxLocals ret, Jvm.Cond.code ({ cls := "com/example/tightrope/tightrope/Optimality", name := "of", desc := "(Z)Lcom/example/tightrope/tightrope/Optimality;" } : Jvm.MethodName) prog_3_method_4_code (1 : Nat) (Option.some (Jvm.ClassFile.FieldType.object "com/example/tightrope/tightrope/Optimality")), Jvm.Cond.code ({ cls := "com/example/tightrope/tightrope/Optimality", name := "text", desc := "()Ljava/lang/String;" } : Jvm.MethodName) prog_3_method_5_code (1 : Nat) (Option.some (Jvm.ClassFile.FieldType.object "java/lang/String")), Jvm.Cond.code ({ cls := "java/lang/String", name := "equals", desc := "(Ljava/lang/Object;)Z" } : Jvm.MethodName) jdk_42_method_66_code (3 : Nat) (Option.some Jvm.ClassFile.FieldType.boolean), Jvm.Cond.code ({ cls := "java/lang/StringLatin1", name := "equals", desc := "([B[B)Z" } : Jvm.MethodName) jdk_43_method_13_code (3 : Nat) (Option.some Jvm.ClassFile.FieldType.boolean)]
set_option maxRecDepth 65536 in
theorem codes_eq : words1.filter isCode = codes1 := rfl
theorem w_codes : ∀ c ∈ words1.filter isCode, c.before args0 about1 = true := by
  rw [codes_eq]
  intro c hc
  simp only [codes1, List.mem_cons, List.not_mem_nil, or_false] at hc
  rcases hc with rfl | rfl | rfl | rfl | rfl
  · exact w_c0
  · exact w_c1
  · exact w_c2
  · exact w_c3
  · exact w_c4
set_option maxRecDepth 65536 in
theorem w_t1 : (words1.take 24).all (fun c => isCode c || c.before args0 about1) = true := by decide +kernel
set_option maxRecDepth 65536 in
theorem w_t2 : (words1.drop 24).all (fun c => isCode c || c.before args0 about1) = true := by decide +kernel
theorem w_tables : (allAtoms (Jvm.Cond.code x code maxLocals ret :: tables_1)).before args0 about1 = true := by
  rw [allAtoms_all]
  show words1.all (fun c => c.before args0 about1) = true
  refine all_split ?_ w_codes
  rw [← List.take_append_drop 24 words1, List.all_append, w_t1, w_t2]
  rfl
set_option maxRecDepth 65536 in
theorem w_rest : rest_1_c.before args0 about1 = true := by decide +kernel
set_option maxRecDepth 65536 in
theorem w_case : (Jvm.Cond.and given_1 narrow_1).before args0 about1 = true := by decide +kernel
set_option maxRecDepth 65536 in
theorem w_consts : constsHeld consts_1 about1 := Jvm.Lit.constsHeldB_iff.mp (by decide +kernel)
theorem w_applies : (headSpec (Jvm.Cond.code x code maxLocals ret :: tables_1) room_1).applies x e0.platform about1 = true :=
  (Spec.applies_iff w_frames).mpr ⟨w_running, w_runnable, w_alone, w_named, w_hears, w_ripe, w_room, w_tables⟩
theorem atStart : AtStart classFile x code maxLocals ret World_1 tables_1 room_1 Calls_1 rest_1 Pre_1 launch0 p0 e0 about1 theMethod args0 below0 :=
  ⟨lists_1, trivial, launch0.admits_env _ _ _, launch0.least_env, fairChoices_fair.cas, fairChoices_fair.clock, w_frames, w_args, w_heap, w_applies, ⟨w_consts, trivial⟩, w_rest, w_case⟩
end start1
theorem witness_1 : WitnessClaimed_1 := ⟨start1.p0, start1.e0, start1.about1, start1.theMethod, start1.args0, start1.below0, start1.atStart⟩
end Jvm.Pilot.@@N@@
