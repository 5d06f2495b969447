import JvmDerived
import JvmDerived.Pilot.@@N@@Statement
import JvmDerived.Pilot.@@N@@Code
set_option linter.unusedVariables false
set_option linter.unusedSimpArgs false
namespace Jvm.RoadKit
open Sem ClassFile Op Lib Jvm.Stand Jvm.Free Jvm.LawKit
section Own
variable {p : Program} {l : Launch} {e : Env} {R : Room} {s : State} {m : MethodId} {args : Array Value} {below : List Frame} {meth : Method} {c : Code} {T T' : State} {locs : List Loc} {cells slots rc rs : Nat} {Q : Option Value → Heap → List Loc → Prop} {g g' : JFrame}
/-- from the state T with the top frame g the run ends in a return of which Q is true -/
def OwnGo (p : Program) (e : Env) (below : List Frame) (s : State) (rc rs : Nat) (Q : Option Value → Heap → List Loc → Prop) (T : State) (g : JFrame) : Prop :=
  ∃ (U : State) (o : Outcome), Steps p.tables e below (T.setTop g) U ∧ U.status = .running ∧ Ended U below o ∧ ∃ v L, o = .returned v ∧ Q v U.heap L ∧ FrameEnd s o U L rc rs
theorem OwnGo.st (k : ∀ target, Steps p.tables e below (T'.setTop g') target → Steps p.tables e below (T.setTop g) target) (h : OwnGo p e below s rc rs Q T' g') : OwnGo p e below s rc rs Q T g := by
  obtain ⟨U, o, h1, h2⟩ := h
  exact ⟨U, o, k _ h1, h2⟩
theorem OwnGo.cast (q : g = g') (h : OwnGo p e below s rc rs Q T g') : OwnGo p e below s rc rs Q T g := q ▸ h
theorem OwnGo.ret (X : Stand p l e R s m args below meth c T locs cells slots) (hx : p.tables.exec = Jvm.exec) {pc : Nat} {Ls : Array Slot} {w : Value} {t : FieldType} {i : Instr} {rest : List Value} (hret : meth.sig.returnType = some t) (hlk : meth.locks = false) (hn : narrow t w = w)
    (hi : (i = .ireturn ∧ (t = .int ∨ t = .boolean ∨ t = .byte ∨ t = .char ∨ t = .short) ∧ ∃ z, w = .int z) ∨ (i = .lreturn ∧ t = .long ∧ ∃ z, w = .long z) ∨ (i = .dreturn ∧ t = .double ∧ ∃ z, w = .double z) ∨ (i = .freturn ∧ t = .float ∧ ∃ z, w = .float z) ∨ (i = .areturn ∧ t.isReference = true ∧ w.isRef = true))
    (hd : decode c.code pc = .ok (i, 1)) (hQ : Q (some w) T.heap locs) (hc : cells ≤ rc) (hs : slots ≤ rs) : OwnGo p e below s rc rs Q T (mkF m pc Ls (w :: rest)) := by
  obtain ⟨fs, hr, hrun, hended, hW, hsame⟩ := X.leave (v := some w) (fun h => by rw [hret] at h; cases h) hlk
  exact ⟨_, _, retOut X hx hret hn hi hd hr, hrun, hended, _, _, rfl, hQ, ⟨_, rfl⟩, hW, hsame.mono hc hs⟩
theorem OwnGo.retN (X : Stand p l e R s m args below meth c T locs cells slots) (hx : p.tables.exec = Jvm.exec) {pc : Nat} {Ls : Array Slot} {z : Int32} {t : FieldType} {rest : List Value} (hret : meth.sig.returnType = some t) (hlk : meth.locks = false) (ht : t = .boolean ∨ t = .byte ∨ t = .char ∨ t = .short)
    (hd : decode c.code pc = .ok (.ireturn, 1)) (hQ : Q (some (.int (nar t z))) T.heap locs) (hc : cells ≤ rc) (hs : slots ≤ rs) : OwnGo p e below s rc rs Q T (mkF m pc Ls (.int z :: rest)) := by
  obtain ⟨fs, hr, hrun, hended, hW, hsame⟩ := X.leave (v := some (.int (nar t z))) (fun h => by rw [hret] at h; cases h) hlk
  exact ⟨_, _, Jvm.RoadKit.retN X hx hret ht hd hr, hrun, hended, _, _, rfl, hQ, ⟨_, rfl⟩, hW, hsame.mono hc hs⟩
theorem OwnGo.retV (X : Stand p l e R s m args below meth c T locs cells slots) (hx : p.tables.exec = Jvm.exec) {pc : Nat} {Ls : Array Slot} (hret : meth.sig.returnType = none) (hlk : meth.locks = false)
    (hd : decode c.code pc = .ok (.return_, 1)) (hQ : Q none T.heap locs) (hc : cells ≤ rc) (hs : slots ≤ rs) : OwnGo p e below s rc rs Q T (mkF m pc Ls []) := by
  obtain ⟨fs, hr, hrun, hended, hW, hsame⟩ := X.leave (v := none) (fun _ => rfl) hlk
  exact ⟨_, _, X.returnOut hx hret hd hr, hrun, hended, _, _, rfl, hQ, ⟨_, rfl⟩, hW, hsame.mono hc hs⟩
theorem own_met {y : MethodName} {bytes : ByteArray} {maxL : Nat} {ret : Option FieldType} {ws : List Jvm.Cond} {rm : Room} {Z : State} {as' : Array Value} {h0 : Heap} (hp : plainFor y = true)
    (body : ∀ (p : Program) (e : Env) (s : State) (m : MethodId) (below : List Frame) (meth : Method) (c : Code) (s₁ : State), Stand p l e rm s m as' below meth c s₁ [] 0 0 → p.tables.exec = Jvm.exec → c.code = bytes → c.maxLocals = maxL → meth.sig.returnType = ret → meth.locks = false → s.vm.findClass y.cls = some m.cls → meth.name = y.name → Z.Warmed39 s.vm → s₁.heap = h0 →
      OwnGo p e below s rm.cells rm.slots Q s₁ (entryFrame m as' maxL)) :
    MetFree l y (head1 (Jvm.Cond.code y bytes maxL ret :: ws) rm) (fun a U => a = as' ∧ Z.Warmed39 U.vm ∧ U.heap = h0) (fun _ _ _ _ _ => True) (fun _ U o U' => ∃ v L, o = .returned v ∧ Q v U'.heap L ∧ FrameEnd U o U' L rm.cells rm.slots) := by
  refine MetFree.of_bodySF hp hisR ?_
  intro p e s m args below meth c s₁ Bd hml0 hP hK
  obtain ⟨rfl, hZ, hh⟩ := hP
  exact body p e s m below meth c s₁ (Stand.of_body Bd) Bd.exec Bd.bytes hml0 Bd.returns Bd.notSynchronized (findClass_of_methodNamed Bd.named) (name_of_methodNamed Bd.named Bd.method).1 hZ (by rw [← hh, Bd.state]; rfl)
theorem own_len {Z : State} {h : Heap} {a : Addr} {cl : Cell} {ty : FieldType} {z : Int32} (hZ : Z.Warmed39 s.vm) (q : cl.slots.size.toInt32 = z) (A : Arr Z h a cl ty) (X : Stand p l e R s m args below meth c T locs cells slots) (eT : T.heap = h) (hx : p.tables.exec = Jvm.exec) {rest : List Value}
    (hg : g.method = m) (hst : g.stack = .ref a :: rest) (hd : decode c.code g.pc = .ok (.arraylength, 1)) (target : State) (k : Steps p.tables e below (T.setTop { g with pc := g.pc + 1, stack := .int z :: rest }) target) : Steps p.tables e below (T.setTop g) target := by
  refine X.arraylength hx (by rw [eT]; exact A.1) (State.isArrayOf_alike hZ.alike A.2.1) hg hst hd _ ?_
  rw [q]; exact k
theorem own_eqi {args : Array Value} {first U : State} {o : Option Outcome} {idx : List Nat} {a : Term} {k : Int32} (h : (Jvm.Cond.eq a (.int k)).value args first o U idx = some true) : a.eval args first o idx U = some (.int k) := Cond.eq_int (b := .int k) (by simp only [Cond.holds, h]; rfl) rfl
theorem own_eqv {args : Array Value} {first U : State} {o : Option Outcome} {idx : List Nat} {a b : Term} {v : Value} (h : (Jvm.Cond.eq a b).value args first o U idx = some true) (hb : b.eval args first o idx U = some v) (hv : v.isRef = true) : a.eval args first o idx U = some v := by
  obtain ⟨x, y, h1, h2, k1, k2⟩ := cmp_v (Or.inl h)
  cases h2.symm.trans hb
  have hx : x.isRef = true := by cases x <;> cases v <;> simp [Kin, Value.isRef] at k1 k2 hv ⊢
  rw [h1, gotT (eq_R h1 h2 hx hv) h]
theorem own_lenv {Z : State} {args : Array Value} {t : Term} {a : Addr} {cl : Cell} {ty : FieldType} {z : Int32} (ev : t.eval args Z none [] Z = some (.ref a)) (A : Arr Z Z.heap a cl ty) (h : (Jvm.Cond.eq (.length t) (.int z)).value args Z none Z [] = some true) : cl.slots.size < 2 ^ 31 ∧ cl.slots.size.toInt32 = z := by
  have e := own_eqi h
  have hA := A.fin (Vm.Alike.refl _)
  refine ⟨SBG.length_lt ev hA e, ?_⟩
  obtain ⟨a', c', e1, e2, e3⟩ := Term.length_spec e
  cases ev.symm.trans e1
  cases hA.symm.trans e2
  exact (Value.int.inj e3).symm
theorem own_elem {Z : State} {args : Array Value} {t : Term} {a : Addr} {cl : Cell} {ty : FieldType} {k : Int32} {v : Value} (ev : t.eval args Z none [] Z = some (.ref a)) (A : Arr Z Z.heap a cl ty) (h : (Term.elem t (.int k)).eval args Z none [] Z = some v) : cl.slots[k.toNatClampNeg]? = some v := (elem_in h ev rfl A.1).2
theorem own_narR {w : Value} {t : FieldType} (h : w.isRef = true) (ht : t.isReference = true) : narrow t w = w := by
  cases w <;> simp [Value.isRef] at h <;> cases t <;> simp [FieldType.isReference] at ht <;> rfl
theorem own_cat {w : Value} (h : w.isRef = true) : w.category = 1 := by cases w <;> simp [Value.isRef] at h <;> rfl
/-- an array of n places, whatever they hold -/
def OwnArr (Z : State) (h : Heap) (a : Addr) (ty : FieldType) (n : Nat) : Prop := ∃ cl : Cell, Arr Z h a cl ty ∧ cl.slots.size = n
theorem OwnArr.lt {Z : State} {h : Heap} {a : Addr} {ty : FieldType} {n : Nat} (F : OwnArr Z h a ty n) : a < h.size := by obtain ⟨_, A, -⟩ := F; exact A.lt
theorem OwnArr.ext {Z : State} {h h' : Heap} {a : Addr} {ty : FieldType} {n : Nat} (F : OwnArr Z h a ty n) (E : Ext h h') : OwnArr Z h' a ty n := by obtain ⟨c, A, S⟩ := F; exact ⟨c, A.ext E, S⟩
theorem OwnArr.keep {Z : State} {h h' : Heap} {a : Addr} {ty : FieldType} {n : Nat} {ws : List Addr} (F : OwnArr Z h a ty n) (K : Keep h h' ws) : OwnArr Z h' a ty n := by
  obtain ⟨c, ⟨A1, ⟨q1, q2⟩, A3⟩, S⟩ := F
  obtain ⟨c', e1, e2, e3, e4⟩ := K.2.2 _ _ A1
  exact ⟨c', ⟨e1, ⟨by rw [e3]; exact q1, by rw [e2]; exact q2⟩, by rw [e3]; exact A3⟩, e4.trans S⟩
theorem OwnArr.wr {Z : State} {h h' : Heap} {a b : Addr} {ty : FieldType} {n sl : Nat} {v : Value} (F : OwnArr Z h a ty n) (W : Wr h h' b sl v) : OwnArr Z h' a ty n := F.keep (Keep.of_wr W)
theorem OwnArr.of {Z : State} {h : Heap} {a : Addr} {k : ClassId} {ty : FieldType} {z : Int32} {vs : List Value} {d : Value} (F : Arv Z h a k ty z vs d) : OwnArr Z h a ty z.toNatClampNeg := by obtain ⟨c, A, -, S, -⟩ := F; exact ⟨c, A, S⟩
theorem own_nb (x : Int32) : nar .byte x.toInt8.toInt32 = x.toInt8.toInt32 := by
  show (x.toInt8.toInt32).toInt8.toInt32 = _
  rw [Int8.toInt8_toInt32]
end Own
end Jvm.RoadKit
namespace Jvm.RoadKit
open Sem ClassFile Op Lib Jvm.Stand Jvm.Free Jvm.LawKit
section OwnW
variable {p : Program} {l : Launch} {e : Env} {R : Room} {s : State} {vm0 : Vm} {m : MethodId} {args : Array Value} {below : List Frame} {meth : Method} {c : Code} {T T' Z : State} {locs : List Loc} {cells slots rc rs k0 : Nat} {Q : Option Value → Heap → List Loc → Prop} {g g' : JFrame} {EL : List (String × Nat)} {a0 : Array Value} {h0 h : Heap}
/-- the same, where String constants may be loaded: the wide frame, and the booked constants' invariant -/
def OwnGoW (p : Program) (e : Env) (below : List Frame) (s Z : State) (EL : List (String × Nat)) (rc rs : Nat) (Q : Option Value → Heap → List Loc → Prop) (T : State) (g : JFrame) : Prop :=
  ∃ (U : State) (o : Outcome), Steps p.tables e below (T.setTop g) U ∧ U.status = .running ∧ Ended U below o ∧ ∃ v L, o = .returned v ∧ Q v U.heap L ∧ CHr Z EL s.vm s.heap U.vm U.heap ∧ ReturnedEndW s o U L rc rs
theorem OwnGoW.st (k : ∀ target, Steps p.tables e below (T'.setTop g') target → Steps p.tables e below (T.setTop g) target) (h : OwnGoW p e below s Z EL rc rs Q T' g') : OwnGoW p e below s Z EL rc rs Q T g := by
  obtain ⟨U, o, h1, h2⟩ := h
  exact ⟨U, o, k _ h1, h2⟩
theorem OwnGoW.cast (q : g = g') (h : OwnGoW p e below s Z EL rc rs Q T g') : OwnGoW p e below s Z EL rc rs Q T g := q ▸ h
theorem OwnGoW.ret (X : Stand p l e R (s.setVm vm0) m args below meth c T locs cells slots) (hS : s.Since vm0 k0) (hk : k0 ≤ h.size) (eT : T.heap = h) (hZ : Z.Warmed39 (s.setVm vm0).vm) (hEL : EW Z a0 EL) (CR : CHr Z EL s.vm s.heap vm0 h) (hx : p.tables.exec = Jvm.exec) {pc : Nat} {Ls : Array Slot} {w : Value} {t : FieldType} {i : Instr} {rest : List Value} (hret : meth.sig.returnType = some t) (hlk : meth.locks = false) (hn : narrow t w = w)
    (hi : (i = .ireturn ∧ (t = .int ∨ t = .boolean ∨ t = .byte ∨ t = .char ∨ t = .short) ∧ ∃ z, w = .int z) ∨ (i = .lreturn ∧ t = .long ∧ ∃ z, w = .long z) ∨ (i = .dreturn ∧ t = .double ∧ ∃ z, w = .double z) ∨ (i = .freturn ∧ t = .float ∧ ∃ z, w = .float z) ∨ (i = .areturn ∧ t.isReference = true ∧ w.isRef = true))
    (hd : decode c.code pc = .ok (i, 1)) (hQ : Q (some w) T.heap locs) (hc : cells ≤ rc) (hs : slots ≤ rs) : OwnGoW p e below s Z EL rc rs Q T (mkF m pc Ls (w :: rest)) := by
  subst eT
  have CX : CHr Z EL vm0 T.heap T.vm T.heap := CHv.at X hZ hEL CR.1
  obtain ⟨fs, hr, hrun, hended, e1, e2, e3, e4⟩ := X.leaveW (v := some w) hS hk (fun h => by rw [hret] at h; cases h) hlk
  exact ⟨_, _, retOut X hx hret hn hi hd hr, hrun, hended, _, _, rfl, hQ, CR.trans CX, e1, e2, e3, e4.mono hc hs⟩
theorem OwnGoW.retN (X : Stand p l e R (s.setVm vm0) m args below meth c T locs cells slots) (hS : s.Since vm0 k0) (hk : k0 ≤ h.size) (eT : T.heap = h) (hZ : Z.Warmed39 (s.setVm vm0).vm) (hEL : EW Z a0 EL) (CR : CHr Z EL s.vm s.heap vm0 h) (hx : p.tables.exec = Jvm.exec) {pc : Nat} {Ls : Array Slot} {z : Int32} {t : FieldType} {rest : List Value} (hret : meth.sig.returnType = some t) (hlk : meth.locks = false) (ht : t = .boolean ∨ t = .byte ∨ t = .char ∨ t = .short)
    (hd : decode c.code pc = .ok (.ireturn, 1)) (hQ : Q (some (.int (nar t z))) T.heap locs) (hc : cells ≤ rc) (hs : slots ≤ rs) : OwnGoW p e below s Z EL rc rs Q T (mkF m pc Ls (.int z :: rest)) := by
  subst eT
  have CX : CHr Z EL vm0 T.heap T.vm T.heap := CHv.at X hZ hEL CR.1
  obtain ⟨fs, hr, hrun, hended, e1, e2, e3, e4⟩ := X.leaveW (v := some (.int (nar t z))) hS hk (fun h => by rw [hret] at h; cases h) hlk
  exact ⟨_, _, Jvm.RoadKit.retN X hx hret ht hd hr, hrun, hended, _, _, rfl, hQ, CR.trans CX, e1, e2, e3, e4.mono hc hs⟩
theorem OwnGoW.retV (X : Stand p l e R (s.setVm vm0) m args below meth c T locs cells slots) (hS : s.Since vm0 k0) (hk : k0 ≤ h.size) (eT : T.heap = h) (hZ : Z.Warmed39 (s.setVm vm0).vm) (hEL : EW Z a0 EL) (CR : CHr Z EL s.vm s.heap vm0 h) (hx : p.tables.exec = Jvm.exec) {pc : Nat} {Ls : Array Slot} (hret : meth.sig.returnType = none) (hlk : meth.locks = false)
    (hd : decode c.code pc = .ok (.return_, 1)) (hQ : Q none T.heap locs) (hc : cells ≤ rc) (hs : slots ≤ rs) : OwnGoW p e below s Z EL rc rs Q T (mkF m pc Ls []) := by
  subst eT
  have CX : CHr Z EL vm0 T.heap T.vm T.heap := CHv.at X hZ hEL CR.1
  obtain ⟨fs, hr, hrun, hended, e1, e2, e3, e4⟩ := X.leaveW (v := none) hS hk (fun _ => rfl) hlk
  exact ⟨_, _, X.returnOut hx hret hd hr, hrun, hended, _, _, rfl, hQ, CR.trans CX, e1, e2, e3, e4.mono hc hs⟩
theorem own_metW {y : MethodName} {bytes : ByteArray} {maxL : Nat} {ret : Option FieldType} {ws : List Jvm.Cond} {rm : Room} {as' : Array Value} (hp : plainFor y = true)
    (body : ∀ (p : Program) (e : Env) (s : State) (m : MethodId) (below : List Frame) (meth : Method) (c : Code) (s₁ : State), Stand p l e rm (s.setVm s.vm) m as' below meth c s₁ [] 0 0 → p.tables.exec = Jvm.exec → c.code = bytes → c.maxLocals = maxL → meth.sig.returnType = ret → meth.locks = false → (s.setVm s.vm).vm.findClass y.cls = some m.cls → meth.name = y.name → Z.Warmed39 (s.setVm s.vm).vm → s₁.heap = h0 →
      s.Since s.vm h0.size → CHr Z EL s.vm s.heap s.vm h0 → OwnGoW p e below s Z EL rm.cells rm.slots Q s₁ (entryFrame m as' maxL)) :
    MetFree l y (head1 (Jvm.Cond.code y bytes maxL ret :: ws) rm) (fun a U => a = as' ∧ Z.Warmed39 U.vm ∧ U.heap = h0 ∧ CHv Z EL U.vm h0) (fun _ _ _ _ _ => True) (fun _ U o U' => ∃ v L, o = .returned v ∧ Q v U'.heap L ∧ CHr Z EL U.vm U.heap U'.vm U'.heap ∧ ReturnedEndW U o U' L rm.cells rm.slots) := by
  refine MetFree.of_bodySF hp hisR ?_
  intro p e s m args below meth c s₁ Bd hml0 hP hK
  obtain ⟨rfl, hZ, hh, hC⟩ := hP
  subst hh
  exact body p e s m below meth c s₁ (Stand.of_body Bd) Bd.exec Bd.bytes hml0 Bd.returns Bd.notSynchronized (findClass_of_methodNamed Bd.named) (name_of_methodNamed Bd.named Bd.method).1 hZ (by rw [Bd.state]; rfl) ((State.WarmedH.refl s).since _) (CHr.refl hC)
end OwnW
end Jvm.RoadKit
namespace Jvm.Pilot.@@N@@
open Jvm Jvm.ClassFile Sem Op Lib Jvm.Free Jvm.Stand Jvm.LawKit Jvm.RoadKit Bundle Jvm.Pilot.@@N@@.Jvm.D
def own_EL : List (String × Nat) := [("io/quintet/AlphabetPayloadLengthPinLaw", 11)]
theorem own_sAt : ∀ a ∈ Bundle.stringAtoms, a ∈ tables_1 := by decide +kernel
theorem own_wS {Z : State} {a0 : Array Value} (hw : ∀ d ∈ tables_1, d.before a0 Z = true) : ∀ a ∈ Bundle.stringAtoms, a.before a0 Z = true := fun a ha => hw a (own_sAt a ha)
theorem own_hEL {Z : State} {a0 : Array Value} (hw : ∀ d ∈ tables_1, d.before a0 Z = true) : EW Z a0 own_EL := (EW.cons (hw _ (List.mem_of_getElem? (i := 5) rfl)) (by decide) EW.nil)
theorem own_sh0 (z : Int32) : (z >>> ((0 : Int32) &&& 31)) = z := by
  apply Int32.toBitVec_inj.mp
  show BitVec.sshiftRight _ _ = _
  simp
theorem own_ofNat {n : Nat} (h : n < 2 ^ 31) : (Int32.ofNat n).toInt = n := Int32.toInt_ofNat_small h
theorem own_nlt {i n : Nat} (h : i = n) : ¬ (Int32.ofNat i < Int32.ofNat n) := by rw [h, Int32.lt_iff_toInt_lt]; omega
theorem own_lt {i n : Nat} (h : i < n) (hn : n < 2 ^ 31) : Int32.ofNat i < Int32.ofNat n := by rw [Int32.lt_iff_toInt_lt, own_ofNat hn, own_ofNat (Nat.lt_trans h hn)]; omega
def own_pl (wd n : Int32) : Int32 := if n = (0 : Int32) then (-1 : Int32) else (((wd * n) + (8 : Int32)) / (8 : Int32))
theorem own_pl0 {wd n : Int32} (h : n = (0 : Int32)) : own_pl wd n = (-1 : Int32) := if_pos h
theorem own_pl1 {wd n : Int32} (h : ¬ n = (0 : Int32)) : own_pl wd n = (((wd * n) + (8 : Int32)) / (8 : Int32)) := if_neg h
theorem own_law (p1 p2 wd ct : Int32) (hwd : wd = (((p1 &&& (2147483647 : Int32)) % (7 : Int32)) + (1 : Int32))) (hct : ct = (p2 &&& (268435455 : Int32))) (hz : ¬ ct = (0 : Int32)) :
    ¬ ((own_pl wd ct).toInt64 < (1 : Int64)) ∧ ¬ (((8 : Int64) * (own_pl wd ct).toInt64) < ((1 : Int64) + (wd.toInt64 * ct.toInt64))) ∧ ((8 : Int64) * ((own_pl wd ct).toInt64 - (1 : Int64))) < ((1 : Int64) + (wd.toInt64 * ct.toInt64)) := by
  have a1 := c_and p1 2147483647 (by decide)
  have a2 := (c_irem (p1 &&& 2147483647) 7 7 (by decide)).1 a1.1
  have a3 := c_iadd ((p1 &&& 2147483647) % 7) 1
  have e1 : (1 : Int32).toInt = 1 := by decide
  rw [← hwd] at a3
  have rw_ := rng32 wd
  have w1 : 1 ≤ wd.toInt ∧ wd.toInt ≤ 7 := by omega
  have b1 := c_and p2 268435455 (by decide)
  rw [← hct] at b1
  have e2 : (268435455 : Int32).toInt = 268435455 := by decide
  have e0 : (0 : Int32).toInt = 0 := by decide
  have z1 : ct.toInt ≠ 0 := fun q => hz (Int32.toInt_inj.mp (by rw [q, e0]))
  rw [own_pl1 hz]
  have m1 := c_imul wd ct
  have m2 := c_iadd (wd * ct) 8
  have e8 : (8 : Int32).toInt = 8 := by decide
  have rm := rng32 (wd * ct)
  have rs := rng32 (wd * ct + 8)
  have pos : 0 ≤ wd.toInt * ct.toInt ∧ wd.toInt * ct.toInt ≤ 7 * 268435455 := by
    constructor
    · exact Int.mul_nonneg (by omega) (by omega)
    · exact Int.mul_le_mul w1.2 (by omega) (by omega) (by omega)
  have d1 := (c_idiv (wd * ct + 8) 8 8 (by decide) (by decide)).1
  have l1 := c_lmul wd.toInt64 ct.toInt64
  rw [c_i2l, c_i2l] at l1
  have l2 := c_ladd 1 (wd.toInt64 * ct.toInt64)
  have r1 := rng64 (wd.toInt64 * ct.toInt64)
  have r2 := rng64 (1 + wd.toInt64 * ct.toInt64)
  have q8 : (8 : Int64).toInt = 8 := by decide
  have q1 : (1 : Int64).toInt = 1 := by decide
  rw [q1] at l2
  rw [e8] at m2
  generalize hr : ((wd * ct + 8) / 8 : Int32) = r at *
  have l3 := c_lmul 8 r.toInt64
  have l4 := c_lsub r.toInt64 1
  have l5 := c_lmul 8 (r.toInt64 - 1)
  rw [c_i2l, q8] at l3
  rw [c_i2l, q1] at l4
  rw [q8] at l5
  have r3 := rng64 (8 * r.toInt64)
  have r4 := rng64 (r.toInt64 - 1)
  have r5 := rng64 (8 * (r.toInt64 - 1))
  have cr : r.toInt64.toInt = r.toInt := c_i2l r
  simp only [Int64.lt_iff_toInt_lt, cr, q1]
  generalize wd.toInt * ct.toInt = P at *
  generalize (wd.toInt64 * ct.toInt64).toInt = A at *
  generalize (1 + wd.toInt64 * ct.toInt64).toInt = B at *
  generalize (8 * r.toInt64).toInt = D at *
  generalize (r.toInt64 - 1).toInt = E at *
  generalize (8 * (r.toInt64 - 1)).toInt = F at *
  generalize (wd * ct + 8).toInt = G at *
  generalize (wd * ct).toInt = H at *
  have h1 : H = P := by omega
  have h2 : G = P + 8 := by omega
  have h3 := d1 (by omega)
  have h4 : A = P := by omega
  have h5 : B = P + 1 := by omega
  have h6 : D = 8 * r.toInt := by omega
  have h7 : E = r.toInt - 1 := by omega
  have h8 : F = 8 * E := by omega
  omega
theorem d1_0 : decode prog_1_method_1_code 0 = .ok (.aload_n 0, 1) := by decide +kernel
theorem d1_1 : decode prog_1_method_1_code 1 = .ok (.invokespecial 1, 3) := by decide +kernel
theorem d1_4 : decode prog_1_method_1_code 4 = .ok (.aload_n 0, 1) := by decide +kernel
theorem d1_5 : decode prog_1_method_1_code 5 = .ok (.sipush 128, 3) := by decide +kernel
theorem d1_8 : decode prog_1_method_1_code 8 = .ok (.newarray .byte, 2) := by decide +kernel
theorem d1_10 : decode prog_1_method_1_code 10 = .ok (.putfield 7, 3) := by decide +kernel
theorem d1_13 : decode prog_1_method_1_code 13 = .ok (.aload_n 0, 1) := by decide +kernel
theorem d1_14 : decode prog_1_method_1_code 14 = .ok (.iload_n 1, 1) := by decide +kernel
theorem d1_15 : decode prog_1_method_1_code 15 = .ok (.putfield 13, 3) := by decide +kernel
theorem d1_18 : decode prog_1_method_1_code 18 = .ok (.aload_n 0, 1) := by decide +kernel
theorem d1_19 : decode prog_1_method_1_code 19 = .ok (.aload_n 2, 1) := by decide +kernel
theorem d1_20 : decode prog_1_method_1_code 20 = .ok (.putfield 17, 3) := by decide +kernel
theorem d1_23 : decode prog_1_method_1_code 23 = .ok (.aload_n 0, 1) := by decide +kernel
theorem d1_24 : decode prog_1_method_1_code 24 = .ok (.getfield 7, 3) := by decide +kernel
theorem d1_27 : decode prog_1_method_1_code 27 = .ok (.iconst (-1), 1) := by decide +kernel
theorem d1_28 : decode prog_1_method_1_code 28 = .ok (.invokestatic 21, 3) := by decide +kernel
theorem d1_31 : decode prog_1_method_1_code 31 = .ok (.iconst 0, 1) := by decide +kernel
theorem d1_32 : decode prog_1_method_1_code 32 = .ok (.istore_n 3, 1) := by decide +kernel
theorem d1_33 : decode prog_1_method_1_code 33 = .ok (.iload_n 3, 1) := by decide +kernel
theorem d1_34 : decode prog_1_method_1_code 34 = .ok (.aload_n 2, 1) := by decide +kernel
theorem d1_35 : decode prog_1_method_1_code 35 = .ok (.invokevirtual 27, 3) := by decide +kernel
theorem d1_38 : decode prog_1_method_1_code 38 = .ok (.if_icmp .ge 21, 3) := by decide +kernel
theorem d1_41 : decode prog_1_method_1_code 41 = .ok (.aload_n 0, 1) := by decide +kernel
theorem d1_42 : decode prog_1_method_1_code 42 = .ok (.getfield 7, 3) := by decide +kernel
theorem d1_45 : decode prog_1_method_1_code 45 = .ok (.aload_n 2, 1) := by decide +kernel
theorem d1_46 : decode prog_1_method_1_code 46 = .ok (.iload_n 3, 1) := by decide +kernel
theorem d1_47 : decode prog_1_method_1_code 47 = .ok (.invokevirtual 33, 3) := by decide +kernel
theorem d1_50 : decode prog_1_method_1_code 50 = .ok (.iload_n 3, 1) := by decide +kernel
theorem d1_51 : decode prog_1_method_1_code 51 = .ok (.i2b, 1) := by decide +kernel
theorem d1_52 : decode prog_1_method_1_code 52 = .ok (.bastore, 1) := by decide +kernel
theorem d1_53 : decode prog_1_method_1_code 53 = .ok (.iinc 3 1, 3) := by decide +kernel
theorem d1_56 : decode prog_1_method_1_code 56 = .ok (.goto (-23), 3) := by decide +kernel
theorem d1_59 : decode prog_1_method_1_code 59 = .ok (.return_, 1) := by decide +kernel
theorem d3_0 : decode jdk_65_method_109_code 0 = .ok (.iconst 0, 1) := by decide +kernel
theorem d3_1 : decode jdk_65_method_109_code 1 = .ok (.istore_n 2, 1) := by decide +kernel
theorem d3_2 : decode jdk_65_method_109_code 2 = .ok (.aload_n 0, 1) := by decide +kernel
theorem d3_3 : decode jdk_65_method_109_code 3 = .ok (.arraylength, 1) := by decide +kernel
theorem d3_4 : decode jdk_65_method_109_code 4 = .ok (.istore_n 3, 1) := by decide +kernel
theorem d3_5 : decode jdk_65_method_109_code 5 = .ok (.iload_n 2, 1) := by decide +kernel
theorem d3_6 : decode jdk_65_method_109_code 6 = .ok (.iload_n 3, 1) := by decide +kernel
theorem d3_7 : decode jdk_65_method_109_code 7 = .ok (.if_icmp .ge 13, 3) := by decide +kernel
theorem d3_10 : decode jdk_65_method_109_code 10 = .ok (.aload_n 0, 1) := by decide +kernel
theorem d3_11 : decode jdk_65_method_109_code 11 = .ok (.iload_n 2, 1) := by decide +kernel
theorem d3_12 : decode jdk_65_method_109_code 12 = .ok (.iload_n 1, 1) := by decide +kernel
theorem d3_13 : decode jdk_65_method_109_code 13 = .ok (.bastore, 1) := by decide +kernel
theorem d3_14 : decode jdk_65_method_109_code 14 = .ok (.iinc 2 1, 3) := by decide +kernel
theorem d3_17 : decode jdk_65_method_109_code 17 = .ok (.goto (-12), 3) := by decide +kernel
theorem d3_20 : decode jdk_65_method_109_code 20 = .ok (.return_, 1) := by decide +kernel
theorem d4_0 : decode jdk_42_method_54_code 0 = .ok (.aload_n 0, 1) := by decide +kernel
theorem d4_1 : decode jdk_42_method_54_code 1 = .ok (.getfield 9, 3) := by decide +kernel
theorem d4_4 : decode jdk_42_method_54_code 4 = .ok (.arraylength, 1) := by decide +kernel
theorem d4_5 : decode jdk_42_method_54_code 5 = .ok (.aload_n 0, 1) := by decide +kernel
theorem d4_6 : decode jdk_42_method_54_code 6 = .ok (.invokevirtual 335, 3) := by decide +kernel
theorem d4_9 : decode jdk_42_method_54_code 9 = .ok (.ishr, 1) := by decide +kernel
theorem d4_10 : decode jdk_42_method_54_code 10 = .ok (.ireturn, 1) := by decide +kernel
theorem d5_0 : decode jdk_42_method_152_code 0 = .ok (.getstatic 38, 3) := by decide +kernel
theorem d5_3 : decode jdk_42_method_152_code 3 = .ok (.ifCond .eq 10, 3) := by decide +kernel
theorem d5_6 : decode jdk_42_method_152_code 6 = .ok (.aload_n 0, 1) := by decide +kernel
theorem d5_7 : decode jdk_42_method_152_code 7 = .ok (.getfield 15, 3) := by decide +kernel
theorem d5_10 : decode jdk_42_method_152_code 10 = .ok (.goto 4, 3) := by decide +kernel
theorem d5_14 : decode jdk_42_method_152_code 14 = .ok (.ireturn, 1) := by decide +kernel
theorem d6_0 : decode jdk_42_method_56_code 0 = .ok (.aload_n 0, 1) := by decide +kernel
theorem d6_1 : decode jdk_42_method_56_code 1 = .ok (.invokevirtual 492, 3) := by decide +kernel
theorem d6_4 : decode jdk_42_method_56_code 4 = .ok (.ifCond .eq 12, 3) := by decide +kernel
theorem d6_7 : decode jdk_42_method_56_code 7 = .ok (.aload_n 0, 1) := by decide +kernel
theorem d6_8 : decode jdk_42_method_56_code 8 = .ok (.getfield 9, 3) := by decide +kernel
theorem d6_11 : decode jdk_42_method_56_code 11 = .ok (.iload_n 1, 1) := by decide +kernel
theorem d6_12 : decode jdk_42_method_56_code 12 = .ok (.invokestatic 495, 3) := by decide +kernel
theorem d6_15 : decode jdk_42_method_56_code 15 = .ok (.ireturn, 1) := by decide +kernel
theorem d7_0 : decode jdk_42_method_154_code 0 = .ok (.getstatic 38, 3) := by decide +kernel
theorem d7_3 : decode jdk_42_method_154_code 3 = .ok (.ifCond .eq 14, 3) := by decide +kernel
theorem d7_6 : decode jdk_42_method_154_code 6 = .ok (.aload_n 0, 1) := by decide +kernel
theorem d7_7 : decode jdk_42_method_154_code 7 = .ok (.getfield 15, 3) := by decide +kernel
theorem d7_10 : decode jdk_42_method_154_code 10 = .ok (.ifCond .ne 7, 3) := by decide +kernel
theorem d7_13 : decode jdk_42_method_154_code 13 = .ok (.iconst 1, 1) := by decide +kernel
theorem d7_14 : decode jdk_42_method_154_code 14 = .ok (.goto 4, 3) := by decide +kernel
theorem d7_18 : decode jdk_42_method_154_code 18 = .ok (.ireturn, 1) := by decide +kernel
theorem d8_0 : decode jdk_43_method_2_code 0 = .ok (.iload_n 1, 1) := by decide +kernel
theorem d8_1 : decode jdk_43_method_2_code 1 = .ok (.aload_n 0, 1) := by decide +kernel
theorem d8_2 : decode jdk_43_method_2_code 2 = .ok (.arraylength, 1) := by decide +kernel
theorem d8_3 : decode jdk_43_method_2_code 3 = .ok (.invokestatic 9, 3) := by decide +kernel
theorem d8_6 : decode jdk_43_method_2_code 6 = .ok (.aload_n 0, 1) := by decide +kernel
theorem d8_7 : decode jdk_43_method_2_code 7 = .ok (.iload_n 1, 1) := by decide +kernel
theorem d8_8 : decode jdk_43_method_2_code 8 = .ok (.baload, 1) := by decide +kernel
theorem d8_9 : decode jdk_43_method_2_code 9 = .ok (.sipush 255, 3) := by decide +kernel
theorem d8_12 : decode jdk_43_method_2_code 12 = .ok (.iand, 1) := by decide +kernel
theorem d8_13 : decode jdk_43_method_2_code 13 = .ok (.i2c, 1) := by decide +kernel
theorem d8_14 : decode jdk_43_method_2_code 14 = .ok (.ireturn, 1) := by decide +kernel
theorem d9_0 : decode jdk_42_method_155_code 0 = .ok (.iload_n 0, 1) := by decide +kernel
theorem d9_1 : decode jdk_42_method_155_code 1 = .ok (.iload_n 1, 1) := by decide +kernel
theorem d9_2 : decode jdk_42_method_155_code 2 = .ok (.getstatic 1053, 3) := by decide +kernel
theorem d9_5 : decode jdk_42_method_155_code 5 = .ok (.invokestatic 1059, 3) := by decide +kernel
theorem d9_8 : decode jdk_42_method_155_code 8 = .ok (.pop, 1) := by decide +kernel
theorem d9_9 : decode jdk_42_method_155_code 9 = .ok (.return_, 1) := by decide +kernel
theorem d10_0 : decode jdk_41_method_11_code 0 = .ok (.iload_n 0, 1) := by decide +kernel
theorem d10_1 : decode jdk_41_method_11_code 1 = .ok (.ifCond .lt 8, 3) := by decide +kernel
theorem d10_4 : decode jdk_41_method_11_code 4 = .ok (.iload_n 0, 1) := by decide +kernel
theorem d10_5 : decode jdk_41_method_11_code 5 = .ok (.iload_n 1, 1) := by decide +kernel
theorem d10_6 : decode jdk_41_method_11_code 6 = .ok (.if_icmp .lt 10, 3) := by decide +kernel
theorem d10_16 : decode jdk_41_method_11_code 16 = .ok (.iload_n 0, 1) := by decide +kernel
theorem d10_17 : decode jdk_41_method_11_code 17 = .ok (.ireturn, 1) := by decide +kernel
theorem d11_0 : decode prog_1_method_6_code 0 = .ok (.iload_n 1, 1) := by decide +kernel
theorem d11_1 : decode prog_1_method_6_code 1 = .ok (.ifCond .ne 7, 3) := by decide +kernel
theorem d11_4 : decode prog_1_method_6_code 4 = .ok (.iconst (-1), 1) := by decide +kernel
theorem d11_5 : decode prog_1_method_6_code 5 = .ok (.goto 15, 3) := by decide +kernel
theorem d11_8 : decode prog_1_method_6_code 8 = .ok (.aload_n 0, 1) := by decide +kernel
theorem d11_9 : decode prog_1_method_6_code 9 = .ok (.getfield 13, 3) := by decide +kernel
theorem d11_12 : decode prog_1_method_6_code 12 = .ok (.iload_n 1, 1) := by decide +kernel
theorem d11_13 : decode prog_1_method_6_code 13 = .ok (.imul, 1) := by decide +kernel
theorem d11_14 : decode prog_1_method_6_code 14 = .ok (.bipush 8, 2) := by decide +kernel
theorem d11_16 : decode prog_1_method_6_code 16 = .ok (.iadd, 1) := by decide +kernel
theorem d11_17 : decode prog_1_method_6_code 17 = .ok (.bipush 8, 2) := by decide +kernel
theorem d11_19 : decode prog_1_method_6_code 19 = .ok (.idiv, 1) := by decide +kernel
theorem d11_20 : decode prog_1_method_6_code 20 = .ok (.ireturn, 1) := by decide +kernel
theorem pd_0 : parseMethodDescriptor "()B" = some ⟨[], some .byte⟩ := by decide +kernel
theorem pd_1 : parseMethodDescriptor "(IILjava/util/function/BiFunction;)I" = some ⟨[.int, .int, (.object "java/util/function/BiFunction")], some .int⟩ := by decide +kernel
theorem pd_2 : parseMethodDescriptor "(II)V" = some ⟨[.int, .int], none⟩ := by decide +kernel
theorem pd_3 : parseMethodDescriptor "()Z" = some ⟨[], some .boolean⟩ := by decide +kernel
theorem pd_4 : parseMethodDescriptor "([BI)C" = some ⟨[(.array .byte), .int], some .char⟩ := by decide +kernel
theorem pd_5 : parseMethodDescriptor "([BB)V" = some ⟨[(.array .byte), .byte], none⟩ := by decide +kernel
theorem pd_6 : parseMethodDescriptor "()I" = some ⟨[], some .int⟩ := by decide +kernel
theorem pd_7 : parseMethodDescriptor "(I)C" = some ⟨[.int], some .char⟩ := by decide +kernel
theorem pd_8 : parseMethodDescriptor "(ILjava/lang/String;)V" = some ⟨[.int, (.object "java/lang/String")], none⟩ := by decide +kernel
theorem pd_9 : parseMethodDescriptor "(I)I" = some ⟨[.int], some .int⟩ := by decide +kernel
theorem pn_5 : plainName "java/lang/String" = true := by first | (simp [plainName, overriddenIn]; done) | decide +kernel
theorem pn_10 : plainName "jdk/internal/util/Preconditions" = true := by first | (simp [plainName, overriddenIn]; done) | decide +kernel
theorem pn_8 : plainName "java/lang/StringLatin1" = true := by first | (simp [plainName, overriddenIn]; done) | decide +kernel
theorem pn_3 : plainName "java/util/Arrays" = true := by first | (simp [plainName, overriddenIn]; done) | decide +kernel
theorem pn_11 : plainName "io/quintet/Alphabet" = true := by first | (simp [plainName, overriddenIn]; done) | decide +kernel
theorem pn_0 : plainName "io/quintet/AlphabetPayloadLengthPinLaw" = true := by first | (simp [plainName, overriddenIn]; done) | decide +kernel
theorem ef_coder (m : MethodId) (x0 : Addr) : entryFrame m #[(.ref x0)] 1 = mkF m 0 #[.val (.ref x0)] [] := by first | (simp [entryFrame, mkF, argsToLocals, Value.category]; done) | rfl
theorem ef_length (m : MethodId) (x0 : Addr) : entryFrame m #[(.ref x0)] 1 = mkF m 0 #[.val (.ref x0)] [] := by first | (simp [entryFrame, mkF, argsToLocals, Value.category]; done) | rfl
theorem ef_pcheck (m : MethodId) (x0 : Int32) (x1 : Int32) (x2 : Value) (hx2 : x2.category = 1) : entryFrame m #[(.int x0), (.int x1), x2] 3 = mkF m 0 #[.val (.int x0), .val (.int x1), .val x2] [] := by cases x2 <;> first | (simp [Value.category] at hx2; done) | (first | (simp [entryFrame, mkF, argsToLocals, Value.category]; done) | rfl)
theorem ef_scheck (m : MethodId) (x0 : Int32) (x1 : Int32) : entryFrame m #[(.int x0), (.int x1)] 2 = mkF m 0 #[.val (.int x0), .val (.int x1)] [] := by first | (simp [entryFrame, mkF, argsToLocals, Value.category]; done) | rfl
theorem ef_isLatin1 (m : MethodId) (x0 : Addr) : entryFrame m #[(.ref x0)] 1 = mkF m 0 #[.val (.ref x0)] [] := by first | (simp [entryFrame, mkF, argsToLocals, Value.category]; done) | rfl
theorem ef_lcharAt (m : MethodId) (x0 : Addr) (x1 : Int32) : entryFrame m #[(.ref x0), (.int x1)] 2 = mkF m 0 #[.val (.ref x0), .val (.int x1)] [] := by first | (simp [entryFrame, mkF, argsToLocals, Value.category]; done) | rfl
theorem ef_charAt (m : MethodId) (x0 : Addr) (x1 : Int32) : entryFrame m #[(.ref x0), (.int x1)] 2 = mkF m 0 #[.val (.ref x0), .val (.int x1)] [] := by first | (simp [entryFrame, mkF, argsToLocals, Value.category]; done) | rfl
theorem ef_fill (m : MethodId) (x0 : Addr) (x1 : Int32) : entryFrame m #[(.ref x0), (.int x1)] 4 = mkF m 0 #[.val (.ref x0), .val (.int x1), .unset, .unset] [] := by first | (simp [entryFrame, mkF, argsToLocals, Value.category]; done) | rfl
theorem ef_pl (m : MethodId) (x0 : Addr) (x1 : Int32) : entryFrame m #[(.ref x0), (.int x1)] 2 = mkF m 0 #[.val (.ref x0), .val (.int x1)] [] := by first | (simp [entryFrame, mkF, argsToLocals, Value.category]; done) | rfl
theorem ef_ini (m : MethodId) (x0 : Addr) (x1 : Int32) (x2 : Addr) : entryFrame m #[(.ref x0), (.int x1), (.ref x2)] 4 = mkF m 0 #[.val (.ref x0), .val (.int x1), .val (.ref x2), .unset] [] := by first | (simp [entryFrame, mkF, argsToLocals, Value.category]; done) | rfl
theorem ef_0 (m : MethodId) (x0 : Int32) (x1 : Int32) : entryFrame m #[(.int x0), (.int x1)] maxLocals = mkF m 0 #[.val (.int x0), .val (.int x1), .unset, .unset, .unset, .unset, .unset, .unset, .unset, .unset] [] := by first | (simp [entryFrame, mkF, argsToLocals, Value.category, maxLocals]; done) | rfl
def Qcoder (Z : State) (a : Addr) (zc : Int32) (h0 : Heap) (n0 : Nat) (v : Option Value) (h : Heap) (L : List Loc) : Prop := v = some (.int (0 : Int32)) ∧ Fr n0 L ∧ h = h0
set_option maxRecDepth 65536 in
set_option maxHeartbeats 40000000 in
theorem rmcoder (l : Launch) (Z : State) (a0 : Array Value) (hw : ∀ d ∈ tables_1, d.before a0 Z = true) (ws : List Jvm.Cond) (a : Addr) (zc : Int32) (h0 : Heap) (n0 : Nat) (Z0 : n0 ≤ h0.size) (O_ : Old Z n0 h0) (S_CS : Sta Z Z.heap "java/lang/String" "COMPACT_STRINGS" "Z" (.int zc)) (P_CS : ¬ zc = (0 : Int32)) (Fc : Fld Z h0 a "java/lang/String" "coder" "B" (.int (0 : Int32))) :
    MetFree l (⟨"java/lang/String", "coder", "()B"⟩ : MethodName) (head1 (Jvm.Cond.code (⟨"java/lang/String", "coder", "()B"⟩ : MethodName) jdk_42_method_152_code 1 (some .byte) :: ws) ({ frames := 0, cells := 0, slots := 0, locals := 0 } : Room)) (fun as_ UU => as_ = #[(.ref a)] ∧ Z.Warmed39 UU.vm ∧ UU.heap = h0) (fun _ _ _ _ _ => True) (fun _ UU oo UU' => ∃ vv LL, oo = .returned vv ∧ (Qcoder Z a zc h0 n0) vv UU'.heap LL ∧ FrameEnd UU oo UU' LL ({ frames := 0, cells := 0, slots := 0, locals := 0 } : Room).cells ({ frames := 0, cells := 0, slots := 0, locals := 0 } : Room).slots) := by
  refine own_met (plainFor_of_name pn_5) ?_
  intro p e s m below meth c s₁ X0 hx hby hml hret hlk hown hnm hZ e0
  have N0 := Fr.nil n0
  have Z_ := Z0
  refine OwnGo.cast (ef_coder m a) ?_
  show OwnGo p e below s _ _ _ s₁ (mkF m 0 #[.val (.ref a)] [])
  obtain ⟨T1, X1, e1, st1⟩ := getS2 X0 hx hZ hown (host := "") (Or.inl (hw _ (List.mem_of_getElem? (i := 40) rfl))) Via.refl e0 (S_CS.ext O_.2) (g := (mkF m 0 #[.val (.ref a)] [])) rfl (hb hby d5_0)
  refine OwnGo.st st1 ?_
  show OwnGo p e below s _ _ _ T1 (mkF m 3 #[.val (.ref a)] [(.int zc)])
  refine OwnGo.st (fun _ k => XS.ifNo X1.here hx rfl (hb hby d5_3) rfl ((if0 _ _).trans (feq (P_CS : ¬ (zc = (0 : Int32)))).1) k) ?_
  show OwnGo p e below s _ _ _ T1 (mkF m 6 #[.val (.ref a)] [])
  refine OwnGo.st (fun _ k => XS.aloadN X1.here hx rfl (hb hby d5_6) rfl rfl  k) ?_
  show OwnGo p e below s _ _ _ T1 (mkF m 7 #[.val (.ref a)] [(.ref a)])
  obtain ⟨T2, X2, e2, st2⟩ := getF X1 hx hZ hown (host := "") (Or.inl (hw _ (List.mem_of_getElem? (i := 41) rfl))) Via.refl e1 Fc (g := (mkF m 7 #[.val (.ref a)] [(.ref a)])) rfl rfl (hb hby d5_7)
  refine OwnGo.st st2 ?_
  show OwnGo p e below s _ _ _ T2 (mkF m 10 #[.val (.ref a)] [(.int (0 : Int32))])
  refine OwnGo.st (fun _ k => XS.goto X2.here hx rfl (pc0 := 10) (pc' := 14) rfl (hb hby d5_10) (by decide) (by decide) k) ?_
  show OwnGo p e below s _ _ _ T2 (mkF m 14 #[.val (.ref a)] [(.int (0 : Int32))])
  exact OwnGo.retN X2 hx (t := .byte) hret hlk (by simp) (hb hby d5_14) (by show Qcoder Z a zc h0 n0 _ T2.heap _; rw [e2]; exact ⟨rfl, N0, rfl⟩) (by decide) (by decide)
def Qlength (Z : State) (a : Addr) (t : Addr) (kc : ClassId) (z : Int32) (vs : List Value) (zc : Int32) (h0 : Heap) (n0 : Nat) (v : Option Value) (h : Heap) (L : List Loc) : Prop := v = some (.int z) ∧ Fr n0 L ∧ h = h0
set_option maxRecDepth 65536 in
set_option maxHeartbeats 40000000 in
theorem rmlength (l : Launch) (Z : State) (a0 : Array Value) (hw : ∀ d ∈ tables_1, d.before a0 Z = true) (ws : List Jvm.Cond) (a : Addr) (t : Addr) (kc : ClassId) (z : Int32) (vs : List Value) (zc : Int32) (h0 : Heap) (n0 : Nat) (Z0 : n0 ≤ h0.size) (O_ : Old Z n0 h0) (S_CS : Sta Z Z.heap "java/lang/String" "COMPACT_STRINGS" "Z" (.int zc)) (P_CS : ¬ zc = (0 : Int32)) (E_a : Exa Z h0 a "java/lang/String") (Fc : Fld Z h0 a "java/lang/String" "coder" "B" (.int (0 : Int32))) (Fv : Fld Z h0 a "java/lang/String" "value" "[B" (.ref t)) (V : Arv Z h0 t kc .byte z vs (.int (0 : Int32))) :
    MetFree l (⟨"java/lang/String", "length", "()I"⟩ : MethodName) (head1 (Jvm.Cond.code (⟨"java/lang/String", "length", "()I"⟩ : MethodName) jdk_42_method_54_code 1 (some .int) :: ws) ({ frames := 1, cells := 0, slots := 0, locals := 13 } : Room)) (fun as_ UU => as_ = #[(.ref a)] ∧ Z.Warmed39 UU.vm ∧ UU.heap = h0) (fun _ _ _ _ _ => True) (fun _ UU oo UU' => ∃ vv LL, oo = .returned vv ∧ (Qlength Z a t kc z vs zc h0 n0) vv UU'.heap LL ∧ FrameEnd UU oo UU' LL ({ frames := 1, cells := 0, slots := 0, locals := 13 } : Room).cells ({ frames := 1, cells := 0, slots := 0, locals := 13 } : Room).slots) := by
  refine own_met (plainFor_of_name pn_5) ?_
  intro p e s m below meth c s₁ X0 hx hby hml hret hlk hown hnm hZ e0
  have N0 := Fr.nil n0
  have Z_ := Z0
  refine OwnGo.cast (ef_length m a) ?_
  show OwnGo p e below s _ _ _ s₁ (mkF m 0 #[.val (.ref a)] [])
  refine OwnGo.st (fun _ k => XS.aloadN X0.here hx rfl (hb hby d4_0) rfl rfl  k) ?_
  show OwnGo p e below s _ _ _ s₁ (mkF m 1 #[.val (.ref a)] [(.ref a)])
  obtain ⟨T3, X3, e3, st3⟩ := getF X0 hx hZ hown (host := "") (Or.inl (hw _ (List.mem_of_getElem? (i := 34) rfl))) Via.refl e0 Fv (g := (mkF m 1 #[.val (.ref a)] [(.ref a)])) rfl rfl (hb hby d4_1)
  refine OwnGo.st st3 ?_
  show OwnGo p e below s _ _ _ T3 (mkF m 4 #[.val (.ref a)] [(.ref t)])
  obtain ⟨cl4, Ar4, -, S4, N4, -, -⟩ := id V
  refine OwnGo.st (fun _ k => own_len hZ (len_of S4 N4) Ar4 X3 e3 hx (g := (mkF m 4 #[.val (.ref a)] [(.ref t)])) rfl rfl (hb hby d4_4) _ k) ?_
  show OwnGo p e below s _ _ _ T3 (mkF m 5 #[.val (.ref a)] [(.int z)])
  refine OwnGo.st (fun _ k => XS.aloadN X3.here hx rfl (hb hby d4_5) rfl rfl  k) ?_
  show OwnGo p e below s _ _ _ T3 (mkF m 6 #[.val (.ref a)] [(.ref a), (.int z)])
  obtain ⟨cq5, kq5, q5a, q5b, q5c⟩ := isOf hZ e3 E_a
  obtain ⟨_, _, ⟨T5, L5, k5, n5⟩, -, X5, ⟨Lc5, hQ5, l5, y5, z5⟩, st5⟩ := X3.virtualBack hx (y := (⟨"java/lang/String", "coder", "()B"⟩ : MethodName)) (z := (⟨"java/lang/String", "coder", "()B"⟩ : MethodName)) hown (mvT hZ (hw _ (List.mem_of_getElem? (i := 35) rfl))) (mvT hZ (hw _ (List.mem_of_getElem? (i := 36) rfl))) (notFace_of_selects (args := #[]) (mvT hZ (hw _ (List.mem_of_getElem? (i := 38) rfl)))) (mvT hZ (hw _ (List.mem_of_getElem? (i := 38) rfl))) (mvT hZ (hw _ (List.mem_of_getElem? (i := 37) rfl))) (by decide) (backOf (W := 1) (rmcoder l Z a0 hw [] a zc h0 n0 Z_ O_ S_CS P_CS Fc) hZ (hw _ (List.mem_of_getElem? (i := 39) rfl)) (hw _ (List.mem_of_getElem? (i := 6) rfl)) (by decide) (by decide)) q5a q5c (g := (mkF m 6 #[.val (.ref a)] [(.ref a), (.int z)])) rfl (by rw [hml]; rfl) (Steps.refl _) (argsL := []) (rest := [(.int z)]) (lenOf pd_0 rfl) rfl (by show 2 * 0 + _ ≤ _; exact Nat.le_of_eq rfl) (hb hby d4_6) (fun _ _ => ⟨rfl, e3, (by decide : 0 + 0 ≤ _), (by decide : 0 + 0 ≤ _)⟩)
  dsimp only [Pt.U, Pt.locs, Pt.cells, Pt.slots] at X5 l5 y5 z5 st5 hQ5
  subst l5 y5 z5
  obtain ⟨rfl, N5q, e5⟩ := hQ5
  have N5 := Fr.app N0 N5q
  refine OwnGo.st (fun _ k => st5.trans k) ?_
  show OwnGo p e below s _ _ _ T5 (mkF m 9 #[.val (.ref a)] [(.int (0 : Int32)), (.int z)])
  refine OwnGo.st (fun _ k => XS.ishr X5.here hx rfl (hb hby d4_9) rfl k) ?_
  show OwnGo p e below s _ _ _ T5 (mkF m 10 #[.val (.ref a)] [(.int (z >>> ((0 : Int32) &&& 31)))])
  rw [own_sh0]
  show OwnGo p e below s _ _ _ T5 (mkF m 10 #[.val (.ref a)] [(.int z)])
  exact OwnGo.ret X5 hx hret hlk rfl (Or.inl ⟨rfl, Or.inl rfl, _, rfl⟩) (hb hby d4_10) (by show Qlength Z a t kc z vs zc h0 n0 _ T5.heap _; rw [e5]; exact ⟨rfl, N5, rfl⟩) (by decide) (by decide)
def Qpcheck (Z : State) (i : Int32) (n : Int32) (f : Value) (h0 : Heap) (n0 : Nat) (v : Option Value) (h : Heap) (L : List Loc) : Prop := v = some (.int i) ∧ Fr n0 L ∧ h = h0
set_option maxRecDepth 65536 in
set_option maxHeartbeats 40000000 in
theorem rmpcheck (l : Launch) (Z : State) (a0 : Array Value) (hw : ∀ d ∈ tables_1, d.before a0 Z = true) (ws : List Jvm.Cond) (i : Int32) (n : Int32) (f : Value) (h0 : Heap) (n0 : Nat) (Z0 : n0 ≤ h0.size) (rf_f : f.isRef = true) (hi : ¬ i < (0 : Int32)) (hn : i < n) :
    MetFree l (⟨"jdk/internal/util/Preconditions", "checkIndex", "(IILjava/util/function/BiFunction;)I"⟩ : MethodName) (head1 (Jvm.Cond.code (⟨"jdk/internal/util/Preconditions", "checkIndex", "(IILjava/util/function/BiFunction;)I"⟩ : MethodName) jdk_41_method_11_code 3 (some .int) :: ws) ({ frames := 0, cells := 0, slots := 0, locals := 0 } : Room)) (fun as_ UU => as_ = #[(.int i), (.int n), f] ∧ Z.Warmed39 UU.vm ∧ UU.heap = h0) (fun _ _ _ _ _ => True) (fun _ UU oo UU' => ∃ vv LL, oo = .returned vv ∧ (Qpcheck Z i n f h0 n0) vv UU'.heap LL ∧ FrameEnd UU oo UU' LL ({ frames := 0, cells := 0, slots := 0, locals := 0 } : Room).cells ({ frames := 0, cells := 0, slots := 0, locals := 0 } : Room).slots) := by
  refine own_met (plainFor_of_name pn_10) ?_
  intro p e s m below meth c s₁ X0 hx hby hml hret hlk hown hnm hZ e0
  have N0 := Fr.nil n0
  have Z_ := Z0
  refine OwnGo.cast (ef_pcheck m i n f (own_cat rf_f)) ?_
  show OwnGo p e below s _ _ _ s₁ (mkF m 0 #[.val (.int i), .val (.int n), .val f] [])
  refine OwnGo.st (fun _ k => XS.iloadN X0.here hx rfl (hb hby d10_0) rfl  k) ?_
  show OwnGo p e below s _ _ _ s₁ (mkF m 1 #[.val (.int i), .val (.int n), .val f] [(.int i)])
  refine OwnGo.st (fun _ k => XS.ifNo X0.here hx rfl (hb hby d10_1) rfl ((if0 _ _).trans (flt (hi : ¬ (i < (0 : Int32)))).1) k) ?_
  show OwnGo p e below s _ _ _ s₁ (mkF m 4 #[.val (.int i), .val (.int n), .val f] [])
  refine OwnGo.st (fun _ k => XS.iloadN X0.here hx rfl (hb hby d10_4) rfl  k) ?_
  show OwnGo p e below s _ _ _ s₁ (mkF m 5 #[.val (.int i), .val (.int n), .val f] [(.int i)])
  refine OwnGo.st (fun _ k => XS.iloadN X0.here hx rfl (hb hby d10_5) rfl  k) ?_
  show OwnGo p e below s _ _ _ s₁ (mkF m 6 #[.val (.int i), .val (.int n), .val f] [(.int n), (.int i)])
  refine OwnGo.st (fun _ k => XS.icmpYes X0.here hx rfl (pc0 := 6) (pc' := 16) rfl (hb hby d10_6) rfl (tlt (hn : i < n)).1 (by decide) (by decide) k) ?_
  show OwnGo p e below s _ _ _ s₁ (mkF m 16 #[.val (.int i), .val (.int n), .val f] [])
  refine OwnGo.st (fun _ k => XS.iloadN X0.here hx rfl (hb hby d10_16) rfl  k) ?_
  show OwnGo p e below s _ _ _ s₁ (mkF m 17 #[.val (.int i), .val (.int n), .val f] [(.int i)])
  exact OwnGo.ret X0 hx hret hlk rfl (Or.inl ⟨rfl, Or.inl rfl, _, rfl⟩) (hb hby d10_17) (by show Qpcheck Z i n f h0 n0 _ s₁.heap _; rw [e0]; exact ⟨rfl, N0, rfl⟩) (by decide) (by decide)
def Qscheck (Z : State) (i : Int32) (n : Int32) (fmv : Value) (h0 : Heap) (n0 : Nat) (v : Option Value) (h : Heap) (L : List Loc) : Prop := v = none ∧ Fr n0 L ∧ h = h0
set_option maxRecDepth 65536 in
set_option maxHeartbeats 40000000 in
theorem rmscheck (l : Launch) (Z : State) (a0 : Array Value) (hw : ∀ d ∈ tables_1, d.before a0 Z = true) (ws : List Jvm.Cond) (i : Int32) (n : Int32) (fmv : Value) (h0 : Heap) (n0 : Nat) (Z0 : n0 ≤ h0.size) (O_ : Old Z n0 h0) (S_SF : Sta Z Z.heap "jdk/internal/util/Preconditions" "SIOOBE_FORMATTER" "Ljava/util/function/BiFunction;" fmv) (rf_fmv : fmv.isRef = true) (hi : ¬ i < (0 : Int32)) (hn : i < n) :
    MetFree l (⟨"java/lang/String", "checkIndex", "(II)V"⟩ : MethodName) (head1 (Jvm.Cond.code (⟨"java/lang/String", "checkIndex", "(II)V"⟩ : MethodName) jdk_42_method_155_code 2 none :: ws) ({ frames := 1, cells := 0, slots := 0, locals := 14 } : Room)) (fun as_ UU => as_ = #[(.int i), (.int n)] ∧ Z.Warmed39 UU.vm ∧ UU.heap = h0) (fun _ _ _ _ _ => True) (fun _ UU oo UU' => ∃ vv LL, oo = .returned vv ∧ (Qscheck Z i n fmv h0 n0) vv UU'.heap LL ∧ FrameEnd UU oo UU' LL ({ frames := 1, cells := 0, slots := 0, locals := 14 } : Room).cells ({ frames := 1, cells := 0, slots := 0, locals := 14 } : Room).slots) := by
  refine own_met (plainFor_of_name pn_5) ?_
  intro p e s m below meth c s₁ X0 hx hby hml hret hlk hown hnm hZ e0
  have N0 := Fr.nil n0
  have Z_ := Z0
  refine OwnGo.cast (ef_scheck m i n) ?_
  show OwnGo p e below s _ _ _ s₁ (mkF m 0 #[.val (.int i), .val (.int n)] [])
  refine OwnGo.st (fun _ k => XS.iloadN X0.here hx rfl (hb hby d9_0) rfl  k) ?_
  show OwnGo p e below s _ _ _ s₁ (mkF m 1 #[.val (.int i), .val (.int n)] [(.int i)])
  refine OwnGo.st (fun _ k => XS.iloadN X0.here hx rfl (hb hby d9_1) rfl  k) ?_
  show OwnGo p e below s _ _ _ s₁ (mkF m 2 #[.val (.int i), .val (.int n)] [(.int n), (.int i)])
  obtain ⟨T6, X6, e6, st6⟩ := getS2 X0 hx hZ hown (host := "") (Or.inl (hw _ (List.mem_of_getElem? (i := 59) rfl))) Via.refl e0 (S_SF.ext O_.2) (g := (mkF m 2 #[.val (.int i), .val (.int n)] [(.int n), (.int i)])) rfl (hb hby d9_2)
  refine OwnGo.st st6 ?_
  show OwnGo p e below s _ _ _ T6 (mkF m 5 #[.val (.int i), .val (.int n)] [fmv, (.int n), (.int i)])
  obtain ⟨_, _, ⟨T7, L7, k7, n7⟩, -, X7, ⟨Lc7, hQ7, l7, y7, z7⟩, st7⟩ := Jvm.LawKit.callS X6 hx (y := (⟨"jdk/internal/util/Preconditions", "checkIndex", "(IILjava/util/function/BiFunction;)I"⟩ : MethodName)) hown (mvT hZ (hw _ (List.mem_of_getElem? (i := 61) rfl))) (mvT hZ (hw _ (List.mem_of_getElem? (i := 62) rfl))) (mvT hZ (hw _ (List.mem_of_getElem? (i := 60) rfl))) (mvT hZ (hw _ (List.mem_of_getElem? (i := 63) rfl))) (by decide) (backOf (W := 0) (rmpcheck l Z a0 hw [] i n fmv h0 n0 Z_ rf_fmv hi hn) hZ (hw _ (List.mem_of_getElem? (i := 63) rfl)) (hw _ (List.mem_of_getElem? (i := 60) rfl)) (by decide) (by decide)) (g := (mkF m 5 #[.val (.int i), .val (.int n)] [fmv, (.int n), (.int i)])) rfl (by rw [hml]; rfl) (argsL := [(.int i), (.int n), fmv]) (rest := []) (lenOf pd_1 rfl) rfl (by show 2 * 0 + _ ≤ _; exact Nat.le_of_eq rfl) (hb hby d9_5) (fun _ _ => ⟨rfl, e6, (by decide : 0 + 0 ≤ _), (by decide : 0 + 0 ≤ _)⟩)
  dsimp only [Pt.U, Pt.locs, Pt.cells, Pt.slots] at X7 l7 y7 z7 st7 hQ7
  subst l7 y7 z7
  obtain ⟨rfl, N7q, e7⟩ := hQ7
  have N7 := Fr.app N0 N7q
  refine OwnGo.st st7 ?_
  show OwnGo p e below s _ _ _ T7 (mkF m 8 #[.val (.int i), .val (.int n)] [(.int i)])
  refine OwnGo.st (fun _ k => XS.pop X7.here hx rfl (hb hby d9_8) rfl rfl k) ?_
  show OwnGo p e below s _ _ _ T7 (mkF m 9 #[.val (.int i), .val (.int n)] [])
  exact OwnGo.retV X7 hx hret hlk (hb hby d9_9) (by show Qscheck Z i n fmv h0 n0 _ T7.heap _; rw [e7]; exact ⟨rfl, N7, rfl⟩) (by decide) (by decide)
def QisLatin1 (Z : State) (a : Addr) (zc : Int32) (h0 : Heap) (n0 : Nat) (v : Option Value) (h : Heap) (L : List Loc) : Prop := v = some (.int (1 : Int32)) ∧ Fr n0 L ∧ h = h0
set_option maxRecDepth 65536 in
set_option maxHeartbeats 40000000 in
theorem rmisLatin1 (l : Launch) (Z : State) (a0 : Array Value) (hw : ∀ d ∈ tables_1, d.before a0 Z = true) (ws : List Jvm.Cond) (a : Addr) (zc : Int32) (h0 : Heap) (n0 : Nat) (Z0 : n0 ≤ h0.size) (O_ : Old Z n0 h0) (S_CS : Sta Z Z.heap "java/lang/String" "COMPACT_STRINGS" "Z" (.int zc)) (P_CS : ¬ zc = (0 : Int32)) (Fc : Fld Z h0 a "java/lang/String" "coder" "B" (.int (0 : Int32))) :
    MetFree l (⟨"java/lang/String", "isLatin1", "()Z"⟩ : MethodName) (head1 (Jvm.Cond.code (⟨"java/lang/String", "isLatin1", "()Z"⟩ : MethodName) jdk_42_method_154_code 1 (some .boolean) :: ws) ({ frames := 0, cells := 0, slots := 0, locals := 0 } : Room)) (fun as_ UU => as_ = #[(.ref a)] ∧ Z.Warmed39 UU.vm ∧ UU.heap = h0) (fun _ _ _ _ _ => True) (fun _ UU oo UU' => ∃ vv LL, oo = .returned vv ∧ (QisLatin1 Z a zc h0 n0) vv UU'.heap LL ∧ FrameEnd UU oo UU' LL ({ frames := 0, cells := 0, slots := 0, locals := 0 } : Room).cells ({ frames := 0, cells := 0, slots := 0, locals := 0 } : Room).slots) := by
  refine own_met (plainFor_of_name pn_5) ?_
  intro p e s m below meth c s₁ X0 hx hby hml hret hlk hown hnm hZ e0
  have N0 := Fr.nil n0
  have Z_ := Z0
  refine OwnGo.cast (ef_isLatin1 m a) ?_
  show OwnGo p e below s _ _ _ s₁ (mkF m 0 #[.val (.ref a)] [])
  obtain ⟨T8, X8, e8, st8⟩ := getS2 X0 hx hZ hown (host := "") (Or.inl (hw _ (List.mem_of_getElem? (i := 40) rfl))) Via.refl e0 (S_CS.ext O_.2) (g := (mkF m 0 #[.val (.ref a)] [])) rfl (hb hby d7_0)
  refine OwnGo.st st8 ?_
  show OwnGo p e below s _ _ _ T8 (mkF m 3 #[.val (.ref a)] [(.int zc)])
  refine OwnGo.st (fun _ k => XS.ifNo X8.here hx rfl (hb hby d7_3) rfl ((if0 _ _).trans (feq (P_CS : ¬ (zc = (0 : Int32)))).1) k) ?_
  show OwnGo p e below s _ _ _ T8 (mkF m 6 #[.val (.ref a)] [])
  refine OwnGo.st (fun _ k => XS.aloadN X8.here hx rfl (hb hby d7_6) rfl rfl  k) ?_
  show OwnGo p e below s _ _ _ T8 (mkF m 7 #[.val (.ref a)] [(.ref a)])
  obtain ⟨T9, X9, e9, st9⟩ := getF X8 hx hZ hown (host := "") (Or.inl (hw _ (List.mem_of_getElem? (i := 41) rfl))) Via.refl e8 Fc (g := (mkF m 7 #[.val (.ref a)] [(.ref a)])) rfl rfl (hb hby d7_7)
  refine OwnGo.st st9 ?_
  show OwnGo p e below s _ _ _ T9 (mkF m 10 #[.val (.ref a)] [(.int (0 : Int32))])
  refine OwnGo.st (fun _ k => XS.ifNo X9.here hx rfl (hb hby d7_10) rfl ((if0 _ _).trans (teq (rfl : (0 : Int32) = (0 : Int32))).2) k) ?_
  show OwnGo p e below s _ _ _ T9 (mkF m 13 #[.val (.ref a)] [])
  refine OwnGo.st (fun _ k => XS.iconst X9.here hx rfl (hb hby d7_13) k) ?_
  show OwnGo p e below s _ _ _ T9 (mkF m 14 #[.val (.ref a)] [(.int (1 : Int32))])
  refine OwnGo.st (fun _ k => XS.goto X9.here hx rfl (pc0 := 14) (pc' := 18) rfl (hb hby d7_14) (by decide) (by decide) k) ?_
  show OwnGo p e below s _ _ _ T9 (mkF m 18 #[.val (.ref a)] [(.int (1 : Int32))])
  exact OwnGo.retN X9 hx (t := .boolean) hret hlk (by simp) (hb hby d7_18) (by show QisLatin1 Z a zc h0 n0 _ T9.heap _; rw [e9]; exact ⟨rfl, N0, rfl⟩) (by decide) (by decide)
def QlcharAt (Z : State) (t : Addr) (kc : ClassId) (z : Int32) (vs : List Value) (i : Int32) (b : Int32) (ch : Int32) (fmv : Value) (h0 : Heap) (n0 : Nat) (v : Option Value) (h : Heap) (L : List Loc) : Prop := v = some (.int ch) ∧ Fr n0 L ∧ h = h0
set_option maxRecDepth 65536 in
set_option maxHeartbeats 40000000 in
theorem rmlcharAt (l : Launch) (Z : State) (a0 : Array Value) (hw : ∀ d ∈ tables_1, d.before a0 Z = true) (ws : List Jvm.Cond) (t : Addr) (kc : ClassId) (z : Int32) (vs : List Value) (i : Int32) (b : Int32) (ch : Int32) (fmv : Value) (h0 : Heap) (n0 : Nat) (Z0 : n0 ≤ h0.size) (O_ : Old Z n0 h0) (S_SF : Sta Z Z.heap "jdk/internal/util/Preconditions" "SIOOBE_FORMATTER" "Ljava/util/function/BiFunction;" fmv) (rf_fmv : fmv.isRef = true) (V : Arv Z h0 t kc .byte z vs (.int (0 : Int32))) (hin : ¬ i < (0 : Int32) ∧ i < z) (hat : vs.getD i.toNatClampNeg (.int (0 : Int32)) = .int b) (hch : (b &&& (255 : Int32)).toUInt32.toUInt16.toUInt32.toInt32 = ch) (hcc : nar .char ch = ch) :
    MetFree l (⟨"java/lang/StringLatin1", "charAt", "([BI)C"⟩ : MethodName) (head1 (Jvm.Cond.code (⟨"java/lang/StringLatin1", "charAt", "([BI)C"⟩ : MethodName) jdk_43_method_2_code 2 (some .char) :: ws) ({ frames := 2, cells := 0, slots := 0, locals := 27 } : Room)) (fun as_ UU => as_ = #[(.ref t), (.int i)] ∧ Z.Warmed39 UU.vm ∧ UU.heap = h0) (fun _ _ _ _ _ => True) (fun _ UU oo UU' => ∃ vv LL, oo = .returned vv ∧ (QlcharAt Z t kc z vs i b ch fmv h0 n0) vv UU'.heap LL ∧ FrameEnd UU oo UU' LL ({ frames := 2, cells := 0, slots := 0, locals := 27 } : Room).cells ({ frames := 2, cells := 0, slots := 0, locals := 27 } : Room).slots) := by
  refine own_met (plainFor_of_name pn_8) ?_
  intro p e s m below meth c s₁ X0 hx hby hml hret hlk hown hnm hZ e0
  have N0 := Fr.nil n0
  have Z_ := Z0
  refine OwnGo.cast (ef_lcharAt m t i) ?_
  show OwnGo p e below s _ _ _ s₁ (mkF m 0 #[.val (.ref t), .val (.int i)] [])
  refine OwnGo.st (fun _ k => XS.iloadN X0.here hx rfl (hb hby d8_0) rfl  k) ?_
  show OwnGo p e below s _ _ _ s₁ (mkF m 1 #[.val (.ref t), .val (.int i)] [(.int i)])
  refine OwnGo.st (fun _ k => XS.aloadN X0.here hx rfl (hb hby d8_1) rfl rfl  k) ?_
  show OwnGo p e below s _ _ _ s₁ (mkF m 2 #[.val (.ref t), .val (.int i)] [(.ref t), (.int i)])
  obtain ⟨cl10, Ar10, -, S10, N10, -, -⟩ := id V
  refine OwnGo.st (fun _ k => own_len hZ (len_of S10 N10) Ar10 X0 e0 hx (g := (mkF m 2 #[.val (.ref t), .val (.int i)] [(.ref t), (.int i)])) rfl rfl (hb hby d8_2) _ k) ?_
  show OwnGo p e below s _ _ _ s₁ (mkF m 3 #[.val (.ref t), .val (.int i)] [(.int z), (.int i)])
  obtain ⟨_, _, ⟨T11, L11, k11, n11⟩, -, X11, ⟨Lc11, hQ11, l11, y11, z11⟩, st11⟩ := Jvm.LawKit.callS X0 hx (y := (⟨"java/lang/String", "checkIndex", "(II)V"⟩ : MethodName)) hown (mvT hZ (hw _ (List.mem_of_getElem? (i := 56) rfl))) (mvT hZ (hw _ (List.mem_of_getElem? (i := 57) rfl))) (mvT hZ (hw _ (List.mem_of_getElem? (i := 6) rfl))) (mvT hZ (hw _ (List.mem_of_getElem? (i := 58) rfl))) (by decide) (backOf (W := 0) (rmscheck l Z a0 hw [] i z fmv h0 n0 Z_ O_ S_SF rf_fmv hin.1 hin.2) hZ (hw _ (List.mem_of_getElem? (i := 58) rfl)) (hw _ (List.mem_of_getElem? (i := 6) rfl)) (by decide) (by decide)) (g := (mkF m 3 #[.val (.ref t), .val (.int i)] [(.int z), (.int i)])) rfl (by rw [hml]; rfl) (argsL := [(.int i), (.int z)]) (rest := []) (lenOf pd_2 rfl) rfl (by show 2 * 0 + _ ≤ _; exact Nat.le_of_eq rfl) (hb hby d8_3) (fun _ _ => ⟨rfl, e0, (by decide : 0 + 0 ≤ _), (by decide : 0 + 0 ≤ _)⟩)
  dsimp only [Pt.U, Pt.locs, Pt.cells, Pt.slots] at X11 l11 y11 z11 st11 hQ11
  subst l11 y11 z11
  obtain ⟨rfl, N11q, e11⟩ := hQ11
  have N11 := Fr.app N0 N11q
  refine OwnGo.st st11 ?_
  show OwnGo p e below s _ _ _ T11 (mkF m 6 #[.val (.ref t), .val (.int i)] [])
  refine OwnGo.st (fun _ k => XS.aloadN X11.here hx rfl (hb hby d8_6) rfl rfl  k) ?_
  show OwnGo p e below s _ _ _ T11 (mkF m 7 #[.val (.ref t), .val (.int i)] [(.ref t)])
  refine OwnGo.st (fun _ k => XS.iloadN X11.here hx rfl (hb hby d8_7) rfl  k) ?_
  show OwnGo p e below s _ _ _ T11 (mkF m 8 #[.val (.ref t), .val (.int i)] [(.int i), (.ref t)])
  obtain ⟨cl12, Ar12, -, S12, -, H12, -⟩ := id V
  have hin12 : ¬ (i < 0 ∨ cl12.slots.size ≤ (i).toNatClampNeg) := inb_of S12 hin
  refine OwnGo.st (fun _ k => X11.baloadBytes hx (j := i) (v := (.int b)) (by rw [e11]; exact Ar12.1) (State.isArrayOf_alike hZ.alike Ar12.2.1) Ar12.2.2 hin12 (H12.at hin12 hat) (g := (mkF m 8 #[.val (.ref t), .val (.int i)] [(.int i), (.ref t)])) rfl rfl (hb hby d8_8) _ k) ?_
  show OwnGo p e below s _ _ _ T11 (mkF m 9 #[.val (.ref t), .val (.int i)] [(.int b)])
  refine OwnGo.st (fun _ k => XS.sipush X11.here hx rfl (hb hby d8_9) k) ?_
  show OwnGo p e below s _ _ _ T11 (mkF m 12 #[.val (.ref t), .val (.int i)] [(.int (255 : Int32)), (.int b)])
  refine OwnGo.st (fun _ k => XS.iand X11.here hx rfl (hb hby d8_12) rfl k) ?_
  show OwnGo p e below s _ _ _ T11 (mkF m 13 #[.val (.ref t), .val (.int i)] [(.int (b &&& (255 : Int32)))])
  refine OwnGo.st (fun _ k => XS.i2c X11.here hx rfl (hb hby d8_13) rfl k) ?_
  show OwnGo p e below s _ _ _ T11 (mkF m 14 #[.val (.ref t), .val (.int i)] [(.int ((b &&& (255 : Int32)).toUInt32.toUInt16.toUInt32.toInt32))])
  rw [hch]
  show OwnGo p e below s _ _ _ T11 (mkF m 14 #[.val (.ref t), .val (.int i)] [(.int ch)])
  exact OwnGo.retN X11 hx (t := .char) hret hlk (by simp) (hb hby d8_14) (by show QlcharAt Z t kc z vs i b ch fmv h0 n0 _ T11.heap _; rw [e11]; exact ⟨by rw [hcc], N11, rfl⟩) (by decide) (by decide)
def QcharAt (Z : State) (a : Addr) (t : Addr) (kc : ClassId) (z : Int32) (vs : List Value) (i : Int32) (b : Int32) (ch : Int32) (zc : Int32) (fmv : Value) (h0 : Heap) (n0 : Nat) (v : Option Value) (h : Heap) (L : List Loc) : Prop := v = some (.int ch) ∧ Fr n0 L ∧ h = h0
set_option maxRecDepth 65536 in
set_option maxHeartbeats 40000000 in
theorem rmcharAt (l : Launch) (Z : State) (a0 : Array Value) (hw : ∀ d ∈ tables_1, d.before a0 Z = true) (ws : List Jvm.Cond) (a : Addr) (t : Addr) (kc : ClassId) (z : Int32) (vs : List Value) (i : Int32) (b : Int32) (ch : Int32) (zc : Int32) (fmv : Value) (h0 : Heap) (n0 : Nat) (Z0 : n0 ≤ h0.size) (O_ : Old Z n0 h0) (S_CS : Sta Z Z.heap "java/lang/String" "COMPACT_STRINGS" "Z" (.int zc)) (P_CS : ¬ zc = (0 : Int32)) (S_SF : Sta Z Z.heap "jdk/internal/util/Preconditions" "SIOOBE_FORMATTER" "Ljava/util/function/BiFunction;" fmv) (rf_fmv : fmv.isRef = true) (E_a : Exa Z h0 a "java/lang/String") (Fc : Fld Z h0 a "java/lang/String" "coder" "B" (.int (0 : Int32))) (Fv : Fld Z h0 a "java/lang/String" "value" "[B" (.ref t)) (V : Arv Z h0 t kc .byte z vs (.int (0 : Int32))) (hin : ¬ i < (0 : Int32) ∧ i < z) (hat : vs.getD i.toNatClampNeg (.int (0 : Int32)) = .int b) (hch : (b &&& (255 : Int32)).toUInt32.toUInt16.toUInt32.toInt32 = ch) (hcc : nar .char ch = ch) :
    MetFree l (⟨"java/lang/String", "charAt", "(I)C"⟩ : MethodName) (head1 (Jvm.Cond.code (⟨"java/lang/String", "charAt", "(I)C"⟩ : MethodName) jdk_42_method_56_code 2 (some .char) :: ws) ({ frames := 3, cells := 0, slots := 0, locals := 40 } : Room)) (fun as_ UU => as_ = #[(.ref a), (.int i)] ∧ Z.Warmed39 UU.vm ∧ UU.heap = h0) (fun _ _ _ _ _ => True) (fun _ UU oo UU' => ∃ vv LL, oo = .returned vv ∧ (QcharAt Z a t kc z vs i b ch zc fmv h0 n0) vv UU'.heap LL ∧ FrameEnd UU oo UU' LL ({ frames := 3, cells := 0, slots := 0, locals := 40 } : Room).cells ({ frames := 3, cells := 0, slots := 0, locals := 40 } : Room).slots) := by
  refine own_met (plainFor_of_name pn_5) ?_
  intro p e s m below meth c s₁ X0 hx hby hml hret hlk hown hnm hZ e0
  have N0 := Fr.nil n0
  have Z_ := Z0
  refine OwnGo.cast (ef_charAt m a i) ?_
  show OwnGo p e below s _ _ _ s₁ (mkF m 0 #[.val (.ref a), .val (.int i)] [])
  refine OwnGo.st (fun _ k => XS.aloadN X0.here hx rfl (hb hby d6_0) rfl rfl  k) ?_
  show OwnGo p e below s _ _ _ s₁ (mkF m 1 #[.val (.ref a), .val (.int i)] [(.ref a)])
  obtain ⟨cq13, kq13, q13a, q13b, q13c⟩ := isOf hZ e0 E_a
  obtain ⟨_, _, ⟨T13, L13, k13, n13⟩, -, X13, ⟨Lc13, hQ13, l13, y13, z13⟩, st13⟩ := X0.virtualBack hx (y := (⟨"java/lang/String", "isLatin1", "()Z"⟩ : MethodName)) (z := (⟨"java/lang/String", "isLatin1", "()Z"⟩ : MethodName)) hown (mvT hZ (hw _ (List.mem_of_getElem? (i := 47) rfl))) (mvT hZ (hw _ (List.mem_of_getElem? (i := 48) rfl))) (notFace_of_selects (args := #[]) (mvT hZ (hw _ (List.mem_of_getElem? (i := 50) rfl)))) (mvT hZ (hw _ (List.mem_of_getElem? (i := 50) rfl))) (mvT hZ (hw _ (List.mem_of_getElem? (i := 49) rfl))) (by decide) (backOf (W := 0) (rmisLatin1 l Z a0 hw [] a zc h0 n0 Z_ O_ S_CS P_CS Fc) hZ (hw _ (List.mem_of_getElem? (i := 51) rfl)) (hw _ (List.mem_of_getElem? (i := 6) rfl)) (by decide) (by decide)) q13a q13c (g := (mkF m 1 #[.val (.ref a), .val (.int i)] [(.ref a)])) rfl (by rw [hml]; rfl) (Steps.refl _) (argsL := []) (rest := []) (lenOf pd_3 rfl) rfl (by show 2 * 0 + _ ≤ _; exact Nat.le_of_eq rfl) (hb hby d6_1) (fun _ _ => ⟨rfl, e0, (by decide : 0 + 0 ≤ _), (by decide : 0 + 0 ≤ _)⟩)
  dsimp only [Pt.U, Pt.locs, Pt.cells, Pt.slots] at X13 l13 y13 z13 st13 hQ13
  subst l13 y13 z13
  obtain ⟨rfl, N13q, e13⟩ := hQ13
  have N13 := Fr.app N0 N13q
  refine OwnGo.st (fun _ k => st13.trans k) ?_
  show OwnGo p e below s _ _ _ T13 (mkF m 4 #[.val (.ref a), .val (.int i)] [(.int (1 : Int32))])
  refine OwnGo.st (fun _ k => XS.ifNo X13.here hx rfl (hb hby d6_4) rfl ((if0 _ _).trans (feq ((by decide) : ¬ ((1 : Int32) = (0 : Int32)))).1) k) ?_
  show OwnGo p e below s _ _ _ T13 (mkF m 7 #[.val (.ref a), .val (.int i)] [])
  refine OwnGo.st (fun _ k => XS.aloadN X13.here hx rfl (hb hby d6_7) rfl rfl  k) ?_
  show OwnGo p e below s _ _ _ T13 (mkF m 8 #[.val (.ref a), .val (.int i)] [(.ref a)])
  obtain ⟨T14, X14, e14, st14⟩ := getF X13 hx hZ hown (host := "") (Or.inl (hw _ (List.mem_of_getElem? (i := 34) rfl))) Via.refl e13 Fv (g := (mkF m 8 #[.val (.ref a), .val (.int i)] [(.ref a)])) rfl rfl (hb hby d6_8)
  refine OwnGo.st st14 ?_
  show OwnGo p e below s _ _ _ T14 (mkF m 11 #[.val (.ref a), .val (.int i)] [(.ref t)])
  refine OwnGo.st (fun _ k => XS.iloadN X14.here hx rfl (hb hby d6_11) rfl  k) ?_
  show OwnGo p e below s _ _ _ T14 (mkF m 12 #[.val (.ref a), .val (.int i)] [(.int i), (.ref t)])
  obtain ⟨_, _, ⟨T15, L15, k15, n15⟩, -, X15, ⟨Lc15, hQ15, l15, y15, z15⟩, st15⟩ := Jvm.LawKit.callS X14 hx (y := (⟨"java/lang/StringLatin1", "charAt", "([BI)C"⟩ : MethodName)) hown (mvT hZ (hw _ (List.mem_of_getElem? (i := 52) rfl))) (mvT hZ (hw _ (List.mem_of_getElem? (i := 53) rfl))) (mvT hZ (hw _ (List.mem_of_getElem? (i := 54) rfl))) (mvT hZ (hw _ (List.mem_of_getElem? (i := 55) rfl))) (by decide) (backOf (W := 0) (rmlcharAt l Z a0 hw [] t kc z vs i b ch fmv h0 n0 Z_ O_ S_SF rf_fmv V hin hat hch hcc) hZ (hw _ (List.mem_of_getElem? (i := 55) rfl)) (hw _ (List.mem_of_getElem? (i := 54) rfl)) (by decide) (by decide)) (g := (mkF m 12 #[.val (.ref a), .val (.int i)] [(.int i), (.ref t)])) rfl (by rw [hml]; rfl) (argsL := [(.ref t), (.int i)]) (rest := []) (lenOf pd_4 rfl) rfl (by show 2 * 0 + _ ≤ _; exact Nat.le_of_eq rfl) (hb hby d6_12) (fun _ _ => ⟨rfl, e14, (by decide : 0 + 0 ≤ _), (by decide : 0 + 0 ≤ _)⟩)
  dsimp only [Pt.U, Pt.locs, Pt.cells, Pt.slots] at X15 l15 y15 z15 st15 hQ15
  subst l15 y15 z15
  obtain ⟨rfl, N15q, e15⟩ := hQ15
  have N15 := Fr.app N13 N15q
  refine OwnGo.st st15 ?_
  show OwnGo p e below s _ _ _ T15 (mkF m 15 #[.val (.ref a), .val (.int i)] [(.int ch)])
  exact OwnGo.retN X15 hx (t := .char) hret hlk (by simp) (hb hby d6_15) (by show QcharAt Z a t kc z vs i b ch zc fmv h0 n0 _ T15.heap _; rw [e15]; exact ⟨by rw [hcc], N15, rfl⟩) (by decide) (by decide)
def Qfill (Z : State) (a : Addr) (b : Int32) (n : Nat) (h0 : Heap) (n0 : Nat) (v : Option Value) (h : Heap) (L : List Loc) : Prop := v = none ∧ Fr n0 L ∧ Keep h0 h [a]
set_option maxRecDepth 65536 in
set_option maxHeartbeats 40000000 in
theorem sg_fill {p : Program} {l : Launch} {e : Env} {s : State} {m : MethodId} {below : List Frame} {meth : Method} {c : Code} {Z : State} {a0 : Array Value} {T0 : State} {locs : List Loc} (a : Addr) (b : Int32) (n : Nat) (k : Nat) (i : Nat) (h1 : Heap) (h0 : Heap) (n0 : Nat) (hw : ∀ d ∈ tables_1, d.before a0 Z = true)
    (X0 : Stand p l e ({ frames := 0, cells := 0, slots := 0, locals := 0 } : Room) s m #[(.ref a), (.int b)] below meth c T0 locs 0 0) (hx : p.tables.exec = Jvm.exec) (hby : c.code = jdk_65_method_109_code) (hml : c.maxLocals = 4) (hret : meth.sig.returnType = none) (hlk : meth.locks = false) (hown : s.vm.findClass "java/util/Arrays" = some m.cls) (hnm : meth.name = "fill") (hZ : Z.Warmed39 s.vm) (e0 : T0.heap = h1) (N0 : Fr n0 locs) (A : OwnArr Z h1 a .byte n) (g_a : n0 ≤ a) (hn : n < 2 ^ 31) (hik : i + k = n) (Kp : Keep h0 h1 [a]) :
    OwnGo p e below s ({ frames := 0, cells := 0, slots := 0, locals := 0 } : Room).cells ({ frames := 0, cells := 0, slots := 0, locals := 0 } : Room).slots (Qfill Z a b n h0 n0) T0 (mkF m 5 #[.val (.ref a), .val (.int b), .val (.int (Int32.ofNat i)), .val (.int (Int32.ofNat n))] []) := by
  induction k generalizing T0 locs i h1 with
  | zero =>
    refine OwnGo.st (fun _ k => XS.iloadN X0.here hx rfl (hb hby d3_5) rfl  k) ?_
    show OwnGo p e below s _ _ _ T0 (mkF m 6 #[.val (.ref a), .val (.int b), .val (.int (Int32.ofNat i)), .val (.int (Int32.ofNat n))] [(.int (Int32.ofNat i))])
    refine OwnGo.st (fun _ k => XS.iloadN X0.here hx rfl (hb hby d3_6) rfl  k) ?_
    show OwnGo p e below s _ _ _ T0 (mkF m 7 #[.val (.ref a), .val (.int b), .val (.int (Int32.ofNat i)), .val (.int (Int32.ofNat n))] [(.int (Int32.ofNat n)), (.int (Int32.ofNat i))])
    refine OwnGo.st (fun _ k => XS.icmpYes X0.here hx rfl (pc0 := 7) (pc' := 20) rfl (hb hby d3_7) rfl (flt ((own_nlt (by omega)) : ¬ ((Int32.ofNat i) < (Int32.ofNat n)))).2.1 (by decide) (by decide) k) ?_
    show OwnGo p e below s _ _ _ T0 (mkF m 20 #[.val (.ref a), .val (.int b), .val (.int (Int32.ofNat i)), .val (.int (Int32.ofNat n))] [])
    exact OwnGo.retV X0 hx hret hlk (hb hby d3_20) (by show Qfill Z a b n h0 n0 _ T0.heap _; rw [e0]; exact ⟨rfl, N0, Kp⟩) (by decide) (by decide)
  | succ k ih =>
    refine OwnGo.st (fun _ k => XS.iloadN X0.here hx rfl (hb hby d3_5) rfl  k) ?_
    show OwnGo p e below s _ _ _ T0 (mkF m 6 #[.val (.ref a), .val (.int b), .val (.int (Int32.ofNat i)), .val (.int (Int32.ofNat n))] [(.int (Int32.ofNat i))])
    refine OwnGo.st (fun _ k => XS.iloadN X0.here hx rfl (hb hby d3_6) rfl  k) ?_
    show OwnGo p e below s _ _ _ T0 (mkF m 7 #[.val (.ref a), .val (.int b), .val (.int (Int32.ofNat i)), .val (.int (Int32.ofNat n))] [(.int (Int32.ofNat n)), (.int (Int32.ofNat i))])
    refine OwnGo.st (fun _ k => XS.icmpNo X0.here hx rfl (hb hby d3_7) rfl (tlt ((own_lt (by omega) hn) : (Int32.ofNat i) < (Int32.ofNat n))).2.1 k) ?_
    show OwnGo p e below s _ _ _ T0 (mkF m 10 #[.val (.ref a), .val (.int b), .val (.int (Int32.ofNat i)), .val (.int (Int32.ofNat n))] [])
    refine OwnGo.st (fun _ k => XS.aloadN X0.here hx rfl (hb hby d3_10) rfl rfl  k) ?_
    show OwnGo p e below s _ _ _ T0 (mkF m 11 #[.val (.ref a), .val (.int b), .val (.int (Int32.ofNat i)), .val (.int (Int32.ofNat n))] [(.ref a)])
    refine OwnGo.st (fun _ k => XS.iloadN X0.here hx rfl (hb hby d3_11) rfl  k) ?_
    show OwnGo p e below s _ _ _ T0 (mkF m 12 #[.val (.ref a), .val (.int b), .val (.int (Int32.ofNat i)), .val (.int (Int32.ofNat n))] [(.int (Int32.ofNat i)), (.ref a)])
    refine OwnGo.st (fun _ k => XS.iloadN X0.here hx rfl (hb hby d3_12) rfl  k) ?_
    show OwnGo p e below s _ _ _ T0 (mkF m 13 #[.val (.ref a), .val (.int b), .val (.int (Int32.ofNat i)), .val (.int (Int32.ofNat n))] [(.int b), (.int (Int32.ofNat i)), (.ref a)])
    obtain ⟨cl, Ar, Sz⟩ := id A
    obtain ⟨T1, h2, X1, e1, W1, st1⟩ := stB X0 hx hZ e0 Ar (j := (Int32.ofNat i)) (by rw [Sz]; exact within rfl (by omega) hn) (g := (mkF m 13 #[.val (.ref a), .val (.int b), .val (.int (Int32.ofNat i)), .val (.int (Int32.ofNat n))] [(.int b), (.int (Int32.ofNat i)), (.ref a)])) rfl rfl (hb hby d3_13)
    have N1 := Fr.snoc X1 N0 g_a
    refine OwnGo.st st1 ?_
    show OwnGo p e below s _ _ _ T1 (mkF m 14 #[.val (.ref a), .val (.int b), .val (.int (Int32.ofNat i)), .val (.int (Int32.ofNat n))] [])
    refine OwnGo.st (fun _ k => XS.iinc X1.here hx rfl (hb hby d3_14) rfl (l' := #[.val (.ref a), .val (.int b), .val (.int ((Int32.ofNat i) + (1 : Int32))), .val (.int (Int32.ofNat n))]) rfl k) ?_
    show OwnGo p e below s _ _ _ T1 (mkF m 17 #[.val (.ref a), .val (.int b), .val (.int ((Int32.ofNat i) + (1 : Int32))), .val (.int (Int32.ofNat n))] [])
    rw [← inc_ofNat]
    show OwnGo p e below s _ _ _ T1 (mkF m 17 #[.val (.ref a), .val (.int b), .val (.int (Int32.ofNat (i + 1))), .val (.int (Int32.ofNat n))] [])
    refine OwnGo.st (fun _ k => XS.goto X1.here hx rfl (pc0 := 17) (pc' := 5) rfl (hb hby d3_17) (by decide) (by decide) k) ?_
    show OwnGo p e below s _ _ _ T1 (mkF m 5 #[.val (.ref a), .val (.int b), .val (.int (Int32.ofNat (i + 1))), .val (.int (Int32.ofNat n))] [])
    exact ih (i + 1) h2 X1 e1 N1 (A.wr W1) (by omega) (Kp.wr W1 (Or.inl (List.mem_of_getElem? (i := 0) rfl)))
set_option maxRecDepth 65536 in
set_option maxHeartbeats 40000000 in
theorem rmfill (l : Launch) (Z : State) (a0 : Array Value) (hw : ∀ d ∈ tables_1, d.before a0 Z = true) (ws : List Jvm.Cond) (a : Addr) (b : Int32) (n : Nat) (h0 : Heap) (n0 : Nat) (Z0 : n0 ≤ h0.size) (A : OwnArr Z h0 a .byte n) (g_a : n0 ≤ a) (hn : n < 2 ^ 31) :
    MetFree l (⟨"java/util/Arrays", "fill", "([BB)V"⟩ : MethodName) (head1 (Jvm.Cond.code (⟨"java/util/Arrays", "fill", "([BB)V"⟩ : MethodName) jdk_65_method_109_code 4 none :: ws) ({ frames := 0, cells := 0, slots := 0, locals := 0 } : Room)) (fun as_ UU => as_ = #[(.ref a), (.int b)] ∧ Z.Warmed39 UU.vm ∧ UU.heap = h0) (fun _ _ _ _ _ => True) (fun _ UU oo UU' => ∃ vv LL, oo = .returned vv ∧ (Qfill Z a b n h0 n0) vv UU'.heap LL ∧ FrameEnd UU oo UU' LL ({ frames := 0, cells := 0, slots := 0, locals := 0 } : Room).cells ({ frames := 0, cells := 0, slots := 0, locals := 0 } : Room).slots) := by
  refine own_met (plainFor_of_name pn_3) ?_
  intro p e s m below meth c s₁ X0 hx hby hml hret hlk hown hnm hZ e0
  have N0 := Fr.nil n0
  have Z_ := Z0
  refine OwnGo.cast (ef_fill m a b) ?_
  show OwnGo p e below s _ _ _ s₁ (mkF m 0 #[.val (.ref a), .val (.int b), .unset, .unset] [])
  obtain ⟨cl0, Ar0, Sz0⟩ := id A
  refine OwnGo.st (fun _ k => XS.iconst X0.here hx rfl (hb hby d3_0) k) ?_
  show OwnGo p e below s _ _ _ s₁ (mkF m 1 #[.val (.ref a), .val (.int b), .unset, .unset] [(.int (0 : Int32))])
  refine OwnGo.st (fun _ k => XS.istoreN X0.here hx rfl (hb hby d3_1) rfl (l' := #[.val (.ref a), .val (.int b), .val (.int (0 : Int32)), .unset]) rfl k) ?_
  show OwnGo p e below s _ _ _ s₁ (mkF m 2 #[.val (.ref a), .val (.int b), .val (.int (0 : Int32)), .unset] [])
  refine OwnGo.st (fun _ k => XS.aloadN X0.here hx rfl (hb hby d3_2) rfl rfl  k) ?_
  show OwnGo p e below s _ _ _ s₁ (mkF m 3 #[.val (.ref a), .val (.int b), .val (.int (0 : Int32)), .unset] [(.ref a)])
  refine OwnGo.st (fun _ k => own_len hZ (show cl0.slots.size.toInt32 = Int32.ofNat n by rw [Sz0]) Ar0 X0 e0 hx (g := (mkF m 3 #[.val (.ref a), .val (.int b), .val (.int (0 : Int32)), .unset] [(.ref a)])) rfl rfl (hb hby d3_3) _ k) ?_
  show OwnGo p e below s _ _ _ s₁ (mkF m 4 #[.val (.ref a), .val (.int b), .val (.int (0 : Int32)), .unset] [(.int (Int32.ofNat n))])
  refine OwnGo.st (fun _ k => XS.istoreN X0.here hx rfl (hb hby d3_4) rfl (l' := #[.val (.ref a), .val (.int b), .val (.int (0 : Int32)), .val (.int (Int32.ofNat n))]) rfl k) ?_
  show OwnGo p e below s _ _ _ s₁ (mkF m 5 #[.val (.ref a), .val (.int b), .val (.int (0 : Int32)), .val (.int (Int32.ofNat n))] [])
  have q0 : (0 : Int32) = Int32.ofNat 0 := rfl
  show OwnGo p e below s _ _ _ s₁ (mkF m 5 #[.val (.ref a), .val (.int b), .val (.int (Int32.ofNat 0)), .val (.int (Int32.ofNat n))] [])
  exact sg_fill a b n n 0 h0 h0 n0 hw X0 hx hby hml hret hlk hown hnm hZ e0 N0 A g_a hn (Nat.zero_add n) (Keep.refl h0 [a])
def Qpl (Z : State) (a : Addr) (wd : Int32) (n : Int32) (h0 : Heap) (n0 : Nat) (v : Option Value) (h : Heap) (L : List Loc) : Prop := v = some (.int (own_pl wd n)) ∧ Fr n0 L ∧ h = h0
set_option maxRecDepth 65536 in
set_option maxHeartbeats 40000000 in
theorem rmpl (l : Launch) (Z : State) (a0 : Array Value) (hw : ∀ d ∈ tables_1, d.before a0 Z = true) (ws : List Jvm.Cond) (a : Addr) (wd : Int32) (n : Int32) (h0 : Heap) (n0 : Nat) (Z0 : n0 ≤ h0.size) (F : Fld Z h0 a "io/quintet/Alphabet" "width" "I" (.int wd)) :
    MetFree l (⟨"io/quintet/Alphabet", "payloadLength", "(I)I"⟩ : MethodName) (head1 (Jvm.Cond.code (⟨"io/quintet/Alphabet", "payloadLength", "(I)I"⟩ : MethodName) prog_1_method_6_code 2 (some .int) :: ws) ({ frames := 0, cells := 0, slots := 0, locals := 0 } : Room)) (fun as_ UU => as_ = #[(.ref a), (.int n)] ∧ Z.Warmed39 UU.vm ∧ UU.heap = h0) (fun _ _ _ _ _ => True) (fun _ UU oo UU' => ∃ vv LL, oo = .returned vv ∧ (Qpl Z a wd n h0 n0) vv UU'.heap LL ∧ FrameEnd UU oo UU' LL ({ frames := 0, cells := 0, slots := 0, locals := 0 } : Room).cells ({ frames := 0, cells := 0, slots := 0, locals := 0 } : Room).slots) := by
  refine own_met (plainFor_of_name pn_11) ?_
  intro p e s m below meth c s₁ X0 hx hby hml hret hlk hown hnm hZ e0
  have N0 := Fr.nil n0
  have Z_ := Z0
  refine OwnGo.cast (ef_pl m a n) ?_
  show OwnGo p e below s _ _ _ s₁ (mkF m 0 #[.val (.ref a), .val (.int n)] [])
  refine OwnGo.st (fun _ k => XS.iloadN X0.here hx rfl (hb hby d11_0) rfl  k) ?_
  show OwnGo p e below s _ _ _ s₁ (mkF m 1 #[.val (.ref a), .val (.int n)] [(.int n)])
  by_cases hz : n = (0 : Int32)
  · refine OwnGo.st (fun _ k => XS.ifNo X0.here hx rfl (hb hby d11_1) rfl ((if0 _ _).trans (teq (hz : n = (0 : Int32))).2) k) ?_
    show OwnGo p e below s _ _ _ s₁ (mkF m 4 #[.val (.ref a), .val (.int n)] [])
    refine OwnGo.st (fun _ k => XS.iconst X0.here hx rfl (hb hby d11_4) k) ?_
    show OwnGo p e below s _ _ _ s₁ (mkF m 5 #[.val (.ref a), .val (.int n)] [(.int (-1 : Int32))])
    refine OwnGo.st (fun _ k => XS.goto X0.here hx rfl (pc0 := 5) (pc' := 20) rfl (hb hby d11_5) (by decide) (by decide) k) ?_
    show OwnGo p e below s _ _ _ s₁ (mkF m 20 #[.val (.ref a), .val (.int n)] [(.int (-1 : Int32))])
    exact OwnGo.ret X0 hx hret hlk rfl (Or.inl ⟨rfl, Or.inl rfl, _, rfl⟩) (hb hby d11_20) (by show Qpl Z a wd n h0 n0 _ s₁.heap _; rw [e0]; exact ⟨congrArg (fun z => some (Value.int z)) (own_pl0 hz).symm, N0, rfl⟩) (by decide) (by decide)
  · refine OwnGo.st (fun _ k => XS.ifYes X0.here hx rfl (pc0 := 1) (pc' := 8) rfl (hb hby d11_1) rfl ((if0 _ _).trans (feq (hz : ¬ (n = (0 : Int32)))).2) (by decide) (by decide) k) ?_
    show OwnGo p e below s _ _ _ s₁ (mkF m 8 #[.val (.ref a), .val (.int n)] [])
    refine OwnGo.st (fun _ k => XS.aloadN X0.here hx rfl (hb hby d11_8) rfl rfl  k) ?_
    show OwnGo p e below s _ _ _ s₁ (mkF m 9 #[.val (.ref a), .val (.int n)] [(.ref a)])
    obtain ⟨T16, X16, e16, st16⟩ := getF X0 hx hZ hown (host := "") (Or.inl (hw _ (List.mem_of_getElem? (i := 21) rfl))) Via.refl e0 F (g := (mkF m 9 #[.val (.ref a), .val (.int n)] [(.ref a)])) rfl rfl (hb hby d11_9)
    refine OwnGo.st st16 ?_
    show OwnGo p e below s _ _ _ T16 (mkF m 12 #[.val (.ref a), .val (.int n)] [(.int wd)])
    refine OwnGo.st (fun _ k => XS.iloadN X16.here hx rfl (hb hby d11_12) rfl  k) ?_
    show OwnGo p e below s _ _ _ T16 (mkF m 13 #[.val (.ref a), .val (.int n)] [(.int n), (.int wd)])
    refine OwnGo.st (fun _ k => XS.imul X16.here hx rfl (hb hby d11_13) rfl k) ?_
    show OwnGo p e below s _ _ _ T16 (mkF m 14 #[.val (.ref a), .val (.int n)] [(.int (wd * n))])
    refine OwnGo.st (fun _ k => XS.bipush X16.here hx rfl (hb hby d11_14) k) ?_
    show OwnGo p e below s _ _ _ T16 (mkF m 16 #[.val (.ref a), .val (.int n)] [(.int (8 : Int32)), (.int (wd * n))])
    refine OwnGo.st (fun _ k => XS.iadd X16.here hx rfl (hb hby d11_16) rfl k) ?_
    show OwnGo p e below s _ _ _ T16 (mkF m 17 #[.val (.ref a), .val (.int n)] [(.int ((wd * n) + (8 : Int32)))])
    refine OwnGo.st (fun _ k => XS.bipush X16.here hx rfl (hb hby d11_17) k) ?_
    show OwnGo p e below s _ _ _ T16 (mkF m 19 #[.val (.ref a), .val (.int n)] [(.int (8 : Int32)), (.int ((wd * n) + (8 : Int32)))])
    refine OwnGo.st (fun _ k => XS.idiv X16.here hx rfl (hb hby d11_19) rfl (by decide) k) ?_
    show OwnGo p e below s _ _ _ T16 (mkF m 20 #[.val (.ref a), .val (.int n)] [(.int (((wd * n) + (8 : Int32)) / (8 : Int32)))])
    exact OwnGo.ret X16 hx hret hlk rfl (Or.inl ⟨rfl, Or.inl rfl, _, rfl⟩) (hb hby d11_20) (by show Qpl Z a wd n h0 n0 _ T16.heap _; rw [e16]; exact ⟨congrArg (fun z => some (Value.int z)) (own_pl1 hz).symm, N0, rfl⟩) (by decide) (by decide)
def Qini (Z : State) (o : Addr) (wd : Int32) (a : Addr) (t : Addr) (kc : ClassId) (zc : Int32) (fmv : Value) (h0 : Heap) (n0 : Nat) (v : Option Value) (h : Heap) (L : List Loc) : Prop := v = none ∧ Fr n0 L ∧ Keep h0 h [o] ∧ Exa Z h o "io/quintet/Alphabet" ∧ Fld Z h o "io/quintet/Alphabet" "width" "I" (.int wd)
set_option maxRecDepth 65536 in
set_option maxHeartbeats 40000000 in
theorem rmini (l : Launch) (Z : State) (a0 : Array Value) (hw : ∀ d ∈ tables_1, d.before a0 Z = true) (ws : List Jvm.Cond) (o : Addr) (wd : Int32) (a : Addr) (t : Addr) (kc : ClassId) (zc : Int32) (fmv : Value) (h0 : Heap) (n0 : Nat) (Z0 : n0 ≤ h0.size) (O_ : Old Z n0 h0) (S_CS : Sta Z Z.heap "java/lang/String" "COMPACT_STRINGS" "Z" (.int zc)) (P_CS : ¬ zc = (0 : Int32)) (S_SF : Sta Z Z.heap "jdk/internal/util/Preconditions" "SIOOBE_FORMATTER" "Ljava/util/function/BiFunction;" fmv) (rf_fmv : fmv.isRef = true) (E_o : Exa Z h0 o "io/quintet/Alphabet") (g_o : n0 ≤ o) (ne_a_o : a ≠ o) (ne_t_o : t ≠ o) (F_values_o : Fld Z h0 o "io/quintet/Alphabet" "values" "[B" .null) (F_width_o : Fld Z h0 o "io/quintet/Alphabet" "width" "I" (.int (0 : Int32))) (F_characters_o : Fld Z h0 o "io/quintet/Alphabet" "characters" "Ljava/lang/String;" .null) (E_a : Exa Z h0 a "java/lang/String") (Fc : Fld Z h0 a "java/lang/String" "coder" "B" (.int (0 : Int32))) (Fv : Fld Z h0 a "java/lang/String" "value" "[B" (.ref t)) (V : Arv Z h0 t kc .byte (1 : Int32) [(.int (97 : Int32))] (.int (0 : Int32))) :
    MetFree l (⟨"io/quintet/Alphabet", "<init>", "(ILjava/lang/String;)V"⟩ : MethodName) (head1 (Jvm.Cond.code (⟨"io/quintet/Alphabet", "<init>", "(ILjava/lang/String;)V"⟩ : MethodName) prog_1_method_1_code 4 none :: ws) ({ frames := 4, cells := 1, slots := 128, locals := 54 } : Room)) (fun as_ UU => as_ = #[(.ref o), (.int wd), (.ref a)] ∧ Z.Warmed39 UU.vm ∧ UU.heap = h0) (fun _ _ _ _ _ => True) (fun _ UU oo UU' => ∃ vv LL, oo = .returned vv ∧ (Qini Z o wd a t kc zc fmv h0 n0) vv UU'.heap LL ∧ FrameEnd UU oo UU' LL ({ frames := 4, cells := 1, slots := 128, locals := 54 } : Room).cells ({ frames := 4, cells := 1, slots := 128, locals := 54 } : Room).slots) := by
  refine own_met (plainFor_of_name pn_11) ?_
  intro p e s m below meth c s₁ X0 hx hby hml hret hlk hown hnm hZ e0
  have N0 := Fr.nil n0
  have Z_ := Z0
  refine OwnGo.cast (ef_ini m o wd a) ?_
  show OwnGo p e below s _ _ _ s₁ (mkF m 0 #[.val (.ref o), .val (.int wd), .val (.ref a), .unset] [])
  have Kp : Keep h0 h0 [o] := Keep.refl h0 [o]
  refine OwnGo.st (fun _ k => XS.aloadN X0.here hx rfl (hb hby d1_0) rfl rfl  k) ?_
  show OwnGo p e below s _ _ _ s₁ (mkF m 1 #[.val (.ref o), .val (.int wd), .val (.ref a), .unset] [(.ref o)])
  obtain ⟨T17, X17, e17, st17⟩ := initO X0 hx hZ hown (hw _ (List.mem_of_getElem? (i := 16) rfl)) (hw _ (List.mem_of_getElem? (i := 17) rfl)) (hw _ (List.mem_of_getElem? (i := 18) rfl)) e0 (g := (mkF m 1 #[.val (.ref o), .val (.int wd), .val (.ref a), .unset] [(.ref o)])) rfl (by rw [hml]; rfl) rfl (hb hby d1_1) (by decide) (W := 0) (by show 2 * 0 + _ ≤ _; exact Nat.le_of_eq rfl) (by decide)
  refine OwnGo.st st17 ?_
  show OwnGo p e below s _ _ _ T17 (mkF m 4 #[.val (.ref o), .val (.int wd), .val (.ref a), .unset] [])
  refine OwnGo.st (fun _ k => XS.aloadN X17.here hx rfl (hb hby d1_4) rfl rfl  k) ?_
  show OwnGo p e below s _ _ _ T17 (mkF m 5 #[.val (.ref o), .val (.int wd), .val (.ref a), .unset] [(.ref o)])
  refine OwnGo.st (fun _ k => XS.sipush X17.here hx rfl (hb hby d1_5) k) ?_
  show OwnGo p e below s _ _ _ T17 (mkF m 8 #[.val (.ref o), .val (.int wd), .val (.ref a), .unset] [(.int (128 : Int32)), (.ref o)])
  obtain ⟨T18, h18, k18, X18, e18, E18, A18, Ex18, st18⟩ := newPE X17 hx hZ (hw _ (List.mem_of_getElem? (i := 8) rfl)) e17 (g := (mkF m 8 #[.val (.ref o), .val (.int wd), .val (.ref a), .unset] [(.int (128 : Int32)), (.ref o)])) rfl (hb hby d1_8) rfl (by decide) (cap := 128) (by decide) (by decide) (by decide) (by decide) (ad := "[B") (by decide)
  obtain ⟨b18, g18⟩ : ∃ z, z = h0.size := ⟨_, rfl⟩
  rw [← g18] at A18 Ex18 st18
  have ne_o_b18 : o ≠ b18 := Nat.ne_of_lt (Nat.lt_of_lt_of_le E_o.lt (Nat.le_of_eq g18.symm))
  have ne_a_b18 : a ≠ b18 := Nat.ne_of_lt (Nat.lt_of_lt_of_le E_a.lt (Nat.le_of_eq g18.symm))
  have ne_t_b18 : t ≠ b18 := Nat.ne_of_lt (Nat.lt_of_lt_of_le V.lt (Nat.le_of_eq g18.symm))
  have g_b18 : n0 ≤ b18 := Nat.le_trans Z_ (Nat.le_of_eq g18.symm)
  have sz_b18 : h0.size ≤ b18 := Nat.le_trans Kp.1 (Nat.le_of_eq g18.symm)
  have E_o := E_o.ext E18
  have E_a := E_a.ext E18
  have Fc := Fc.ext E18
  have Fv := Fv.ext E18
  have V := V.ext E18
  have F_values_o := F_values_o.ext E18
  have F_width_o := F_width_o.ext E18
  have F_characters_o := F_characters_o.ext E18
  have O_ := O_.ext E18
  have Kp := Kp.ext E18
  have Z_ : n0 ≤ h18.size := Nat.le_trans Z_ E18.1
  have A_b18 : OwnArr Z h18 b18 .byte 128 := ⟨_, A18, sz_new _ _ _⟩
  refine OwnGo.st st18 ?_
  show OwnGo p e below s _ _ _ T18 (mkF m 10 #[.val (.ref o), .val (.int wd), .val (.ref a), .unset] [(.ref b18), (.ref o)])
  obtain ⟨T19, h19, X19, e19, W19, st19⟩ := putF X18 hx hZ hown (host := "") (Or.inl (hw _ (List.mem_of_getElem? (i := 19) rfl))) Via.refl e18 F_values_o E_o (Or.inr ⟨(hw _ (List.mem_of_getElem? (i := 20) rfl)), rfl, hnm⟩) (hw _ (List.mem_of_getElem? (i := 3) rfl)) (ty := (.array .byte)) (by decide) rfl rfl (g := (mkF m 10 #[.val (.ref o), .val (.int wd), .val (.ref a), .unset] [(.ref b18), (.ref o)])) rfl rfl (hb hby d1_10)
  have E_o := E_o.wr W19
  have E_a := E_a.wr W19
  have Fc := Fc.other W19 (Or.inl ne_a_o)
  have Fv := Fv.other W19 (Or.inl ne_a_o)
  have V := V.other W19 ne_t_o
  have F_values_o := F_values_o.same W19
  have F_width_o := F_width_o.other W19 (Or.inr (slot_ne (Or.inr (hw _ (List.mem_of_getElem? (i := 22) rfl))) (Or.inr (hw _ (List.mem_of_getElem? (i := 20) rfl))) (by decide) (t := .int) (t' := (.array .byte)) (by decide) (by decide)))
  have F_characters_o := F_characters_o.other W19 (Or.inr (slot_ne (Or.inr (hw _ (List.mem_of_getElem? (i := 24) rfl))) (Or.inr (hw _ (List.mem_of_getElem? (i := 20) rfl))) (by decide) (t := (.object "java/lang/String")) (t' := (.array .byte)) (by decide) (by decide)))
  have A_b18 := A_b18.wr W19
  have O_ := O_.wr W19 g_o
  have Kp := Kp.wr W19 (Or.inl (List.mem_of_getElem? (i := 0) rfl))
  have N19 := Fr.snoc X19 N0 g_o
  have Z_ : n0 ≤ h19.size := by rw [W19.size]; exact Z_
  refine OwnGo.st st19 ?_
  show OwnGo p e below s _ _ _ T19 (mkF m 13 #[.val (.ref o), .val (.int wd), .val (.ref a), .unset] [])
  refine OwnGo.st (fun _ k => XS.aloadN X19.here hx rfl (hb hby d1_13) rfl rfl  k) ?_
  show OwnGo p e below s _ _ _ T19 (mkF m 14 #[.val (.ref o), .val (.int wd), .val (.ref a), .unset] [(.ref o)])
  refine OwnGo.st (fun _ k => XS.iloadN X19.here hx rfl (hb hby d1_14) rfl  k) ?_
  show OwnGo p e below s _ _ _ T19 (mkF m 15 #[.val (.ref o), .val (.int wd), .val (.ref a), .unset] [(.int wd), (.ref o)])
  obtain ⟨T20, h20, X20, e20, W20, st20⟩ := putF X19 hx hZ hown (host := "") (Or.inl (hw _ (List.mem_of_getElem? (i := 21) rfl))) Via.refl e19 F_width_o E_o (Or.inr ⟨(hw _ (List.mem_of_getElem? (i := 22) rfl)), rfl, hnm⟩) (hw _ (List.mem_of_getElem? (i := 3) rfl)) (ty := .int) (by decide) rfl rfl (g := (mkF m 15 #[.val (.ref o), .val (.int wd), .val (.ref a), .unset] [(.int wd), (.ref o)])) rfl rfl (hb hby d1_15)
  have E_o := E_o.wr W20
  have E_a := E_a.wr W20
  have Fc := Fc.other W20 (Or.inl ne_a_o)
  have Fv := Fv.other W20 (Or.inl ne_a_o)
  have V := V.other W20 ne_t_o
  have F_values_o := F_values_o.other W20 (Or.inr (slot_ne (Or.inr (hw _ (List.mem_of_getElem? (i := 20) rfl))) (Or.inr (hw _ (List.mem_of_getElem? (i := 22) rfl))) (by decide) (t := (.array .byte)) (t' := .int) (by decide) (by decide)))
  have F_width_o := F_width_o.same W20
  have F_characters_o := F_characters_o.other W20 (Or.inr (slot_ne (Or.inr (hw _ (List.mem_of_getElem? (i := 24) rfl))) (Or.inr (hw _ (List.mem_of_getElem? (i := 22) rfl))) (by decide) (t := (.object "java/lang/String")) (t' := .int) (by decide) (by decide)))
  have A_b18 := A_b18.wr W20
  have O_ := O_.wr W20 g_o
  have Kp := Kp.wr W20 (Or.inl (List.mem_of_getElem? (i := 0) rfl))
  have N20 := Fr.snoc X20 N19 g_o
  have Z_ : n0 ≤ h20.size := by rw [W20.size]; exact Z_
  refine OwnGo.st st20 ?_
  show OwnGo p e below s _ _ _ T20 (mkF m 18 #[.val (.ref o), .val (.int wd), .val (.ref a), .unset] [])
  refine OwnGo.st (fun _ k => XS.aloadN X20.here hx rfl (hb hby d1_18) rfl rfl  k) ?_
  show OwnGo p e below s _ _ _ T20 (mkF m 19 #[.val (.ref o), .val (.int wd), .val (.ref a), .unset] [(.ref o)])
  refine OwnGo.st (fun _ k => XS.aloadN X20.here hx rfl (hb hby d1_19) rfl rfl  k) ?_
  show OwnGo p e below s _ _ _ T20 (mkF m 20 #[.val (.ref o), .val (.int wd), .val (.ref a), .unset] [(.ref a), (.ref o)])
  obtain ⟨T21, h21, X21, e21, W21, st21⟩ := putF X20 hx hZ hown (host := "") (Or.inl (hw _ (List.mem_of_getElem? (i := 23) rfl))) Via.refl e20 F_characters_o E_o (Or.inr ⟨(hw _ (List.mem_of_getElem? (i := 24) rfl)), rfl, hnm⟩) (hw _ (List.mem_of_getElem? (i := 3) rfl)) (ty := (.object "java/lang/String")) (by decide) rfl rfl (g := (mkF m 20 #[.val (.ref o), .val (.int wd), .val (.ref a), .unset] [(.ref a), (.ref o)])) rfl rfl (hb hby d1_20)
  have E_o := E_o.wr W21
  have E_a := E_a.wr W21
  have Fc := Fc.other W21 (Or.inl ne_a_o)
  have Fv := Fv.other W21 (Or.inl ne_a_o)
  have V := V.other W21 ne_t_o
  have F_values_o := F_values_o.other W21 (Or.inr (slot_ne (Or.inr (hw _ (List.mem_of_getElem? (i := 20) rfl))) (Or.inr (hw _ (List.mem_of_getElem? (i := 24) rfl))) (by decide) (t := (.array .byte)) (t' := (.object "java/lang/String")) (by decide) (by decide)))
  have F_width_o := F_width_o.other W21 (Or.inr (slot_ne (Or.inr (hw _ (List.mem_of_getElem? (i := 22) rfl))) (Or.inr (hw _ (List.mem_of_getElem? (i := 24) rfl))) (by decide) (t := .int) (t' := (.object "java/lang/String")) (by decide) (by decide)))
  have F_characters_o := F_characters_o.same W21
  have A_b18 := A_b18.wr W21
  have O_ := O_.wr W21 g_o
  have Kp := Kp.wr W21 (Or.inl (List.mem_of_getElem? (i := 0) rfl))
  have N21 := Fr.snoc X21 N20 g_o
  have Z_ : n0 ≤ h21.size := by rw [W21.size]; exact Z_
  refine OwnGo.st st21 ?_
  show OwnGo p e below s _ _ _ T21 (mkF m 23 #[.val (.ref o), .val (.int wd), .val (.ref a), .unset] [])
  refine OwnGo.st (fun _ k => XS.aloadN X21.here hx rfl (hb hby d1_23) rfl rfl  k) ?_
  show OwnGo p e below s _ _ _ T21 (mkF m 24 #[.val (.ref o), .val (.int wd), .val (.ref a), .unset] [(.ref o)])
  obtain ⟨T22, X22, e22, st22⟩ := getF X21 hx hZ hown (host := "") (Or.inl (hw _ (List.mem_of_getElem? (i := 19) rfl))) Via.refl e21 F_values_o (g := (mkF m 24 #[.val (.ref o), .val (.int wd), .val (.ref a), .unset] [(.ref o)])) rfl rfl (hb hby d1_24)
  refine OwnGo.st st22 ?_
  show OwnGo p e below s _ _ _ T22 (mkF m 27 #[.val (.ref o), .val (.int wd), .val (.ref a), .unset] [(.ref b18)])
  refine OwnGo.st (fun _ k => XS.iconst X22.here hx rfl (hb hby d1_27) k) ?_
  show OwnGo p e below s _ _ _ T22 (mkF m 28 #[.val (.ref o), .val (.int wd), .val (.ref a), .unset] [(.int (-1 : Int32)), (.ref b18)])
  obtain ⟨_, _, ⟨T23, L23, k23, n23⟩, -, X23, ⟨Lc23, hQ23, l23, y23, z23⟩, st23⟩ := Jvm.LawKit.callS X22 hx (y := (⟨"java/util/Arrays", "fill", "([BB)V"⟩ : MethodName)) hown (mvT hZ (hw _ (List.mem_of_getElem? (i := 25) rfl))) (mvT hZ (hw _ (List.mem_of_getElem? (i := 26) rfl))) (mvT hZ (hw _ (List.mem_of_getElem? (i := 27) rfl))) (mvT hZ (hw _ (List.mem_of_getElem? (i := 28) rfl))) (by decide) (backOf (W := 0) (rmfill l Z a0 hw [] b18 (-1 : Int32) 128 h21 n0 Z_ A_b18 g_b18 (by decide)) hZ (hw _ (List.mem_of_getElem? (i := 28) rfl)) (hw _ (List.mem_of_getElem? (i := 27) rfl)) (by decide) (by decide)) (g := (mkF m 28 #[.val (.ref o), .val (.int wd), .val (.ref a), .unset] [(.int (-1 : Int32)), (.ref b18)])) rfl (by rw [hml]; rfl) (argsL := [(.ref b18), (.int (-1 : Int32))]) (rest := []) (lenOf pd_5 rfl) rfl (by show 2 * 0 + _ ≤ _; exact Nat.le_of_eq rfl) (hb hby d1_28) (fun _ _ => ⟨rfl, e22, (by decide : 1 + 0 ≤ _), (by decide : 128 + 0 ≤ _)⟩)
  dsimp only [Pt.U, Pt.locs, Pt.cells, Pt.slots] at X23 l23 y23 z23 st23 hQ23
  subst l23 y23 z23
  obtain ⟨rfl, N23q, K23⟩ := hQ23
  have N23 := Fr.app N21 N23q
  have Z_ : n0 ≤ T23.heap.size := Nat.le_trans Z_ K23.1
  have E_o := E_o.keep K23
  have E_a := E_a.keep K23
  have Fc := Fc.keep K23 (ninS ne_a_b18 nin0)
  have Fv := Fv.keep K23 (ninS ne_a_b18 nin0)
  have V := V.keep K23 (ninS ne_t_b18 nin0)
  have F_values_o := F_values_o.keep K23 (ninS ne_o_b18 nin0)
  have F_width_o := F_width_o.keep K23 (ninS ne_o_b18 nin0)
  have F_characters_o := F_characters_o.keep K23 (ninS ne_o_b18 nin0)
  have A_b18 := A_b18.keep K23
  have O_ := O_.keep K23 (allS g_b18 all0)
  have Kp := Kp.trans K23 (allS (Or.inr sz_b18) all0)
  refine OwnGo.st st23 ?_
  show OwnGo p e below s _ _ _ T23 (mkF m 31 #[.val (.ref o), .val (.int wd), .val (.ref a), .unset] [])
  refine OwnGo.st (fun _ k => XS.iconst X23.here hx rfl (hb hby d1_31) k) ?_
  show OwnGo p e below s _ _ _ T23 (mkF m 32 #[.val (.ref o), .val (.int wd), .val (.ref a), .unset] [(.int (0 : Int32))])
  refine OwnGo.st (fun _ k => XS.istoreN X23.here hx rfl (hb hby d1_32) rfl (l' := #[.val (.ref o), .val (.int wd), .val (.ref a), .val (.int (0 : Int32))]) rfl k) ?_
  show OwnGo p e below s _ _ _ T23 (mkF m 33 #[.val (.ref o), .val (.int wd), .val (.ref a), .val (.int (0 : Int32))] [])
  refine OwnGo.st (fun _ k => XS.iloadN X23.here hx rfl (hb hby d1_33) rfl  k) ?_
  show OwnGo p e below s _ _ _ T23 (mkF m 34 #[.val (.ref o), .val (.int wd), .val (.ref a), .val (.int (0 : Int32))] [(.int (0 : Int32))])
  refine OwnGo.st (fun _ k => XS.aloadN X23.here hx rfl (hb hby d1_34) rfl rfl  k) ?_
  show OwnGo p e below s _ _ _ T23 (mkF m 35 #[.val (.ref o), .val (.int wd), .val (.ref a), .val (.int (0 : Int32))] [(.ref a), (.int (0 : Int32))])
  obtain ⟨cq24, kq24, q24a, q24b, q24c⟩ := isOf hZ rfl E_a
  obtain ⟨_, _, ⟨T24, L24, k24, n24⟩, -, X24, ⟨Lc24, hQ24, l24, y24, z24⟩, st24⟩ := X23.virtualBack hx (y := (⟨"java/lang/String", "length", "()I"⟩ : MethodName)) (z := (⟨"java/lang/String", "length", "()I"⟩ : MethodName)) hown (mvT hZ (hw _ (List.mem_of_getElem? (i := 29) rfl))) (mvT hZ (hw _ (List.mem_of_getElem? (i := 30) rfl))) (notFace_of_selects (args := #[]) (mvT hZ (hw _ (List.mem_of_getElem? (i := 32) rfl)))) (mvT hZ (hw _ (List.mem_of_getElem? (i := 32) rfl))) (mvT hZ (hw _ (List.mem_of_getElem? (i := 31) rfl))) (by decide) (backOf (W := 1) (rmlength l Z a0 hw [] a t kc (1 : Int32) [(.int (97 : Int32))] zc T23.heap n0 Z_ O_ S_CS P_CS E_a Fc Fv V) hZ (hw _ (List.mem_of_getElem? (i := 33) rfl)) (hw _ (List.mem_of_getElem? (i := 6) rfl)) (by decide) (by decide)) q24a q24c (g := (mkF m 35 #[.val (.ref o), .val (.int wd), .val (.ref a), .val (.int (0 : Int32))] [(.ref a), (.int (0 : Int32))])) rfl (by rw [hml]; rfl) (Steps.refl _) (argsL := []) (rest := [(.int (0 : Int32))]) (lenOf pd_6 rfl) rfl (by show 2 * 0 + _ ≤ _; exact Nat.le_of_eq rfl) (hb hby d1_35) (fun _ _ => ⟨rfl, rfl, (by decide : 1 + 0 ≤ _), (by decide : 128 + 0 ≤ _)⟩)
  dsimp only [Pt.U, Pt.locs, Pt.cells, Pt.slots] at X24 l24 y24 z24 st24 hQ24
  subst l24 y24 z24
  obtain ⟨rfl, N24q, e24⟩ := hQ24
  have N24 := Fr.app N23 N24q
  refine OwnGo.st (fun _ k => st24.trans k) ?_
  show OwnGo p e below s _ _ _ T24 (mkF m 38 #[.val (.ref o), .val (.int wd), .val (.ref a), .val (.int (0 : Int32))] [(.int (1 : Int32)), (.int (0 : Int32))])
  refine OwnGo.st (fun _ k => XS.icmpNo X24.here hx rfl (hb hby d1_38) rfl (tlt ((by decide) : (0 : Int32) < (1 : Int32))).2.1 k) ?_
  show OwnGo p e below s _ _ _ T24 (mkF m 41 #[.val (.ref o), .val (.int wd), .val (.ref a), .val (.int (0 : Int32))] [])
  refine OwnGo.st (fun _ k => XS.aloadN X24.here hx rfl (hb hby d1_41) rfl rfl  k) ?_
  show OwnGo p e below s _ _ _ T24 (mkF m 42 #[.val (.ref o), .val (.int wd), .val (.ref a), .val (.int (0 : Int32))] [(.ref o)])
  obtain ⟨T25, X25, e25, st25⟩ := getF X24 hx hZ hown (host := "") (Or.inl (hw _ (List.mem_of_getElem? (i := 19) rfl))) Via.refl e24 F_values_o (g := (mkF m 42 #[.val (.ref o), .val (.int wd), .val (.ref a), .val (.int (0 : Int32))] [(.ref o)])) rfl rfl (hb hby d1_42)
  refine OwnGo.st st25 ?_
  show OwnGo p e below s _ _ _ T25 (mkF m 45 #[.val (.ref o), .val (.int wd), .val (.ref a), .val (.int (0 : Int32))] [(.ref b18)])
  refine OwnGo.st (fun _ k => XS.aloadN X25.here hx rfl (hb hby d1_45) rfl rfl  k) ?_
  show OwnGo p e below s _ _ _ T25 (mkF m 46 #[.val (.ref o), .val (.int wd), .val (.ref a), .val (.int (0 : Int32))] [(.ref a), (.ref b18)])
  refine OwnGo.st (fun _ k => XS.iloadN X25.here hx rfl (hb hby d1_46) rfl  k) ?_
  show OwnGo p e below s _ _ _ T25 (mkF m 47 #[.val (.ref o), .val (.int wd), .val (.ref a), .val (.int (0 : Int32))] [(.int (0 : Int32)), (.ref a), (.ref b18)])
  obtain ⟨cq26, kq26, q26a, q26b, q26c⟩ := isOf hZ e25 E_a
  obtain ⟨_, _, ⟨T26, L26, k26, n26⟩, -, X26, ⟨Lc26, hQ26, l26, y26, z26⟩, st26⟩ := X25.virtualBack hx (y := (⟨"java/lang/String", "charAt", "(I)C"⟩ : MethodName)) (z := (⟨"java/lang/String", "charAt", "(I)C"⟩ : MethodName)) hown (mvT hZ (hw _ (List.mem_of_getElem? (i := 42) rfl))) (mvT hZ (hw _ (List.mem_of_getElem? (i := 43) rfl))) (notFace_of_selects (args := #[]) (mvT hZ (hw _ (List.mem_of_getElem? (i := 45) rfl)))) (mvT hZ (hw _ (List.mem_of_getElem? (i := 45) rfl))) (mvT hZ (hw _ (List.mem_of_getElem? (i := 44) rfl))) (by decide) (backOf (W := 1) (rmcharAt l Z a0 hw [] a t kc (1 : Int32) [(.int (97 : Int32))] (0 : Int32) (97 : Int32) (97 : Int32) zc fmv T23.heap n0 Z_ O_ S_CS P_CS S_SF rf_fmv E_a Fc Fv V ⟨by decide, by decide⟩ rfl (by decide) (by decide)) hZ (hw _ (List.mem_of_getElem? (i := 46) rfl)) (hw _ (List.mem_of_getElem? (i := 6) rfl)) (by decide) (by decide)) q26a q26c (g := (mkF m 47 #[.val (.ref o), .val (.int wd), .val (.ref a), .val (.int (0 : Int32))] [(.int (0 : Int32)), (.ref a), (.ref b18)])) rfl (by rw [hml]; rfl) (Steps.refl _) (argsL := [(.int (0 : Int32))]) (rest := [(.ref b18)]) (lenOf pd_7 rfl) rfl (by show 2 * 0 + _ ≤ _; exact Nat.le_of_eq rfl) (hb hby d1_47) (fun _ _ => ⟨rfl, e25, (by decide : 1 + 0 ≤ _), (by decide : 128 + 0 ≤ _)⟩)
  dsimp only [Pt.U, Pt.locs, Pt.cells, Pt.slots] at X26 l26 y26 z26 st26 hQ26
  subst l26 y26 z26
  obtain ⟨rfl, N26q, e26⟩ := hQ26
  have N26 := Fr.app N24 N26q
  refine OwnGo.st (fun _ k => st26.trans k) ?_
  show OwnGo p e below s _ _ _ T26 (mkF m 50 #[.val (.ref o), .val (.int wd), .val (.ref a), .val (.int (0 : Int32))] [(.int (97 : Int32)), (.ref b18)])
  refine OwnGo.st (fun _ k => XS.iloadN X26.here hx rfl (hb hby d1_50) rfl  k) ?_
  show OwnGo p e below s _ _ _ T26 (mkF m 51 #[.val (.ref o), .val (.int wd), .val (.ref a), .val (.int (0 : Int32))] [(.int (0 : Int32)), (.int (97 : Int32)), (.ref b18)])
  refine OwnGo.st (fun _ k => XS.i2b X26.here hx rfl (hb hby d1_51) rfl k) ?_
  show OwnGo p e below s _ _ _ T26 (mkF m 52 #[.val (.ref o), .val (.int wd), .val (.ref a), .val (.int (0 : Int32))] [(.int ((0 : Int32).toInt8.toInt32)), (.int (97 : Int32)), (.ref b18)])
  obtain ⟨cl27, Ar27, Sz27⟩ := id A_b18
  obtain ⟨T27, h27, X27, e27, W27, st27⟩ := stB X26 hx hZ e26 Ar27 (j := (97 : Int32)) (by rw [Sz27]; decide) (g := (mkF m 52 #[.val (.ref o), .val (.int wd), .val (.ref a), .val (.int (0 : Int32))] [(.int ((0 : Int32).toInt8.toInt32)), (.int (97 : Int32)), (.ref b18)])) rfl rfl (hb hby d1_52)
  have E_o := E_o.wr W27
  have E_a := E_a.wr W27
  have Fc := Fc.other W27 (Or.inl ne_a_b18)
  have Fv := Fv.other W27 (Or.inl ne_a_b18)
  have V := V.other W27 ne_t_b18
  have F_values_o := F_values_o.other W27 (Or.inl ne_o_b18)
  have F_width_o := F_width_o.other W27 (Or.inl ne_o_b18)
  have F_characters_o := F_characters_o.other W27 (Or.inl ne_o_b18)
  have A_b18 := A_b18.wr W27
  have O_ := O_.wr W27 g_b18
  have Kp := Kp.wr W27 (Or.inr sz_b18)
  have N27 := Fr.snoc X27 N26 g_b18
  have Z_ : n0 ≤ h27.size := by rw [W27.size]; exact Z_
  refine OwnGo.st st27 ?_
  show OwnGo p e below s _ _ _ T27 (mkF m 53 #[.val (.ref o), .val (.int wd), .val (.ref a), .val (.int (0 : Int32))] [])
  refine OwnGo.st (fun _ k => XS.iinc X27.here hx rfl (hb hby d1_53) rfl (l' := #[.val (.ref o), .val (.int wd), .val (.ref a), .val (.int ((0 : Int32) + (1 : Int32)))]) rfl k) ?_
  show OwnGo p e below s _ _ _ T27 (mkF m 56 #[.val (.ref o), .val (.int wd), .val (.ref a), .val (.int ((0 : Int32) + (1 : Int32)))] [])
  show OwnGo p e below s _ _ _ T27 (mkF m 56 #[.val (.ref o), .val (.int wd), .val (.ref a), .val (.int (1 : Int32))] [])
  refine OwnGo.st (fun _ k => XS.goto X27.here hx rfl (pc0 := 56) (pc' := 33) rfl (hb hby d1_56) (by decide) (by decide) k) ?_
  show OwnGo p e below s _ _ _ T27 (mkF m 33 #[.val (.ref o), .val (.int wd), .val (.ref a), .val (.int (1 : Int32))] [])
  refine OwnGo.st (fun _ k => XS.iloadN X27.here hx rfl (hb hby d1_33) rfl  k) ?_
  show OwnGo p e below s _ _ _ T27 (mkF m 34 #[.val (.ref o), .val (.int wd), .val (.ref a), .val (.int (1 : Int32))] [(.int (1 : Int32))])
  refine OwnGo.st (fun _ k => XS.aloadN X27.here hx rfl (hb hby d1_34) rfl rfl  k) ?_
  show OwnGo p e below s _ _ _ T27 (mkF m 35 #[.val (.ref o), .val (.int wd), .val (.ref a), .val (.int (1 : Int32))] [(.ref a), (.int (1 : Int32))])
  obtain ⟨cq28, kq28, q28a, q28b, q28c⟩ := isOf hZ e27 E_a
  obtain ⟨_, _, ⟨T28, L28, k28, n28⟩, -, X28, ⟨Lc28, hQ28, l28, y28, z28⟩, st28⟩ := X27.virtualBack hx (y := (⟨"java/lang/String", "length", "()I"⟩ : MethodName)) (z := (⟨"java/lang/String", "length", "()I"⟩ : MethodName)) hown (mvT hZ (hw _ (List.mem_of_getElem? (i := 29) rfl))) (mvT hZ (hw _ (List.mem_of_getElem? (i := 30) rfl))) (notFace_of_selects (args := #[]) (mvT hZ (hw _ (List.mem_of_getElem? (i := 32) rfl)))) (mvT hZ (hw _ (List.mem_of_getElem? (i := 32) rfl))) (mvT hZ (hw _ (List.mem_of_getElem? (i := 31) rfl))) (by decide) (backOf (W := 1) (rmlength l Z a0 hw [] a t kc (1 : Int32) [(.int (97 : Int32))] zc h27 n0 Z_ O_ S_CS P_CS E_a Fc Fv V) hZ (hw _ (List.mem_of_getElem? (i := 33) rfl)) (hw _ (List.mem_of_getElem? (i := 6) rfl)) (by decide) (by decide)) q28a q28c (g := (mkF m 35 #[.val (.ref o), .val (.int wd), .val (.ref a), .val (.int (1 : Int32))] [(.ref a), (.int (1 : Int32))])) rfl (by rw [hml]; rfl) (Steps.refl _) (argsL := []) (rest := [(.int (1 : Int32))]) (lenOf pd_6 rfl) rfl (by show 2 * 0 + _ ≤ _; exact Nat.le_of_eq rfl) (hb hby d1_35) (fun _ _ => ⟨rfl, e27, (by decide : 1 + 0 ≤ _), (by decide : 128 + 0 ≤ _)⟩)
  dsimp only [Pt.U, Pt.locs, Pt.cells, Pt.slots] at X28 l28 y28 z28 st28 hQ28
  subst l28 y28 z28
  obtain ⟨rfl, N28q, e28⟩ := hQ28
  have N28 := Fr.app N27 N28q
  refine OwnGo.st (fun _ k => st28.trans k) ?_
  show OwnGo p e below s _ _ _ T28 (mkF m 38 #[.val (.ref o), .val (.int wd), .val (.ref a), .val (.int (1 : Int32))] [(.int (1 : Int32)), (.int (1 : Int32))])
  refine OwnGo.st (fun _ k => XS.icmpYes X28.here hx rfl (pc0 := 38) (pc' := 59) rfl (hb hby d1_38) rfl (flt ((by decide) : ¬ ((1 : Int32) < (1 : Int32)))).2.1 (by decide) (by decide) k) ?_
  show OwnGo p e below s _ _ _ T28 (mkF m 59 #[.val (.ref o), .val (.int wd), .val (.ref a), .val (.int (1 : Int32))] [])
  exact OwnGo.retV X28 hx hret hlk (hb hby d1_59) (by show Qini Z o wd a t kc zc fmv h0 n0 _ T28.heap _; rw [e28]; exact ⟨rfl, N28, Kp, E_o, F_width_o⟩) (by decide) (by decide)
def Q0 (Z : State) (p1 : Int32) (p2 : Int32) (zc : Int32) (fmv : Value) (h0 : Heap) (n0 : Nat) (v : Option Value) (h : Heap) (L : List Loc) : Prop := v = some (.int (1 : Int32)) ∧ Fr n0 L
set_option maxRecDepth 65536 in
set_option maxHeartbeats 40000000 in
theorem rm0 (l : Launch) (Z : State) (a0 : Array Value) (hw : ∀ d ∈ tables_1, d.before a0 Z = true) (ws : List Jvm.Cond) (p1 : Int32) (p2 : Int32) (zc : Int32) (fmv : Value) (h0 : Heap) (n0 : Nat) (Z0 : n0 ≤ h0.size) (O_ : Old Z n0 h0) (S_CS : Sta Z Z.heap "java/lang/String" "COMPACT_STRINGS" "Z" (.int zc)) (P_CS : ¬ zc = (0 : Int32)) (S_SF : Sta Z Z.heap "jdk/internal/util/Preconditions" "SIOOBE_FORMATTER" "Ljava/util/function/BiFunction;" fmv) (rf_fmv : fmv.isRef = true) :
    MetFree l x (head1 (Jvm.Cond.code x code maxLocals ret :: ws) room_1) (fun as_ UU => as_ = #[(.int p1), (.int p2)] ∧ Z.Warmed39 UU.vm ∧ UU.heap = h0 ∧ CHv Z own_EL UU.vm h0) (fun _ _ _ _ _ => True) (fun _ UU oo UU' => ∃ vv LL, oo = .returned vv ∧ (Q0 Z p1 p2 zc fmv h0 n0) vv UU'.heap LL ∧ CHr Z own_EL UU.vm UU.heap UU'.vm UU'.heap ∧ ReturnedEndW UU oo UU' LL room_1.cells room_1.slots) := by
  refine own_metW (EL := own_EL) (plainFor_of_name pn_0) ?_
  intro p e s m below meth c s₁ X0 hx hby hml hret hlk hown hnm hZ e0 hS_ CR
  have hk_ := Nat.le_refl h0.size
  have N0 := Fr.nil n0
  have Z_ := Z0
  refine OwnGoW.cast (ef_0 m p1 p2) ?_
  have hml : c.maxLocals = 10 := hml
  show OwnGoW p e below s Z own_EL _ _ _ s₁ (mkF m 0 #[.val (.int p1), .val (.int p2), .unset, .unset, .unset, .unset, .unset, .unset, .unset, .unset] [])
  refine OwnGoW.st (fun _ k => XS.iloadN X0.here hx rfl (hb hby at_0) rfl  k) ?_
  show OwnGoW p e below s Z own_EL _ _ _ s₁ (mkF m 1 #[.val (.int p1), .val (.int p2), .unset, .unset, .unset, .unset, .unset, .unset, .unset, .unset] [(.int p1)])
  refine OwnGoW.st (fun _ k => X0.ldcInt hx hown (mvT hZ (hw _ (List.mem_of_getElem? (i := 0) rfl))) (g := (mkF m 1 #[.val (.int p1), .val (.int p2), .unset, .unset, .unset, .unset, .unset, .unset, .unset, .unset] [(.int p1)])) rfl (hb hby at_1) _ k) ?_
  show OwnGoW p e below s Z own_EL _ _ _ s₁ (mkF m 3 #[.val (.int p1), .val (.int p2), .unset, .unset, .unset, .unset, .unset, .unset, .unset, .unset] [(.int (2147483647 : Int32)), (.int p1)])
  refine OwnGoW.st (fun _ k => XS.iand X0.here hx rfl (hb hby at_3) rfl k) ?_
  show OwnGoW p e below s Z own_EL _ _ _ s₁ (mkF m 4 #[.val (.int p1), .val (.int p2), .unset, .unset, .unset, .unset, .unset, .unset, .unset, .unset] [(.int (p1 &&& (2147483647 : Int32)))])
  refine OwnGoW.st (fun _ k => XS.bipush X0.here hx rfl (hb hby at_4) k) ?_
  show OwnGoW p e below s Z own_EL _ _ _ s₁ (mkF m 6 #[.val (.int p1), .val (.int p2), .unset, .unset, .unset, .unset, .unset, .unset, .unset, .unset] [(.int (7 : Int32)), (.int (p1 &&& (2147483647 : Int32)))])
  refine OwnGoW.st (fun _ k => iremM (g := (mkF m 6 #[.val (.int p1), .val (.int p2), .unset, .unset, .unset, .unset, .unset, .unset, .unset, .unset] [(.int (7 : Int32)), (.int (p1 &&& (2147483647 : Int32)))])) X0 hx rfl (hb hby at_6) rfl (by decide) k) ?_
  show OwnGoW p e below s Z own_EL _ _ _ s₁ (mkF m 7 #[.val (.int p1), .val (.int p2), .unset, .unset, .unset, .unset, .unset, .unset, .unset, .unset] [(.int ((p1 &&& (2147483647 : Int32)) % (7 : Int32)))])
  refine OwnGoW.st (fun _ k => XS.iconst X0.here hx rfl (hb hby at_7) k) ?_
  show OwnGoW p e below s Z own_EL _ _ _ s₁ (mkF m 8 #[.val (.int p1), .val (.int p2), .unset, .unset, .unset, .unset, .unset, .unset, .unset, .unset] [(.int (1 : Int32)), (.int ((p1 &&& (2147483647 : Int32)) % (7 : Int32)))])
  refine OwnGoW.st (fun _ k => XS.iadd X0.here hx rfl (hb hby at_8) rfl k) ?_
  show OwnGoW p e below s Z own_EL _ _ _ s₁ (mkF m 9 #[.val (.int p1), .val (.int p2), .unset, .unset, .unset, .unset, .unset, .unset, .unset, .unset] [(.int (((p1 &&& (2147483647 : Int32)) % (7 : Int32)) + (1 : Int32)))])
  obtain ⟨wd, hwd⟩ : ∃ z : Int32, z = (((p1 &&& (2147483647 : Int32)) % (7 : Int32)) + (1 : Int32)) := ⟨_, rfl⟩
  rw [← hwd]
  show OwnGoW p e below s Z own_EL _ _ _ s₁ (mkF m 9 #[.val (.int p1), .val (.int p2), .unset, .unset, .unset, .unset, .unset, .unset, .unset, .unset] [(.int wd)])
  refine OwnGoW.st (fun _ k => XS.istoreN X0.here hx rfl (hb hby at_9) rfl (l' := #[.val (.int p1), .val (.int p2), .val (.int wd), .unset, .unset, .unset, .unset, .unset, .unset, .unset]) rfl k) ?_
  show OwnGoW p e below s Z own_EL _ _ _ s₁ (mkF m 10 #[.val (.int p1), .val (.int p2), .val (.int wd), .unset, .unset, .unset, .unset, .unset, .unset, .unset] [])
  refine OwnGoW.st (fun _ k => XS.iloadN X0.here hx rfl (hb hby at_10) rfl  k) ?_
  show OwnGoW p e below s Z own_EL _ _ _ s₁ (mkF m 11 #[.val (.int p1), .val (.int p2), .val (.int wd), .unset, .unset, .unset, .unset, .unset, .unset, .unset] [(.int p2)])
  refine OwnGoW.st (fun _ k => X0.ldcInt hx hown (mvT hZ (hw _ (List.mem_of_getElem? (i := 1) rfl))) (g := (mkF m 11 #[.val (.int p1), .val (.int p2), .val (.int wd), .unset, .unset, .unset, .unset, .unset, .unset, .unset] [(.int p2)])) rfl (hb hby at_11) _ k) ?_
  show OwnGoW p e below s Z own_EL _ _ _ s₁ (mkF m 13 #[.val (.int p1), .val (.int p2), .val (.int wd), .unset, .unset, .unset, .unset, .unset, .unset, .unset] [(.int (268435455 : Int32)), (.int p2)])
  refine OwnGoW.st (fun _ k => XS.iand X0.here hx rfl (hb hby at_13) rfl k) ?_
  show OwnGoW p e below s Z own_EL _ _ _ s₁ (mkF m 14 #[.val (.int p1), .val (.int p2), .val (.int wd), .unset, .unset, .unset, .unset, .unset, .unset, .unset] [(.int (p2 &&& (268435455 : Int32)))])
  obtain ⟨ct, hct⟩ : ∃ z : Int32, z = (p2 &&& (268435455 : Int32)) := ⟨_, rfl⟩
  rw [← hct]
  show OwnGoW p e below s Z own_EL _ _ _ s₁ (mkF m 14 #[.val (.int p1), .val (.int p2), .val (.int wd), .unset, .unset, .unset, .unset, .unset, .unset, .unset] [(.int ct)])
  refine OwnGoW.st (fun _ k => XS.istoreN X0.here hx rfl (hb hby at_14) rfl (l' := #[.val (.int p1), .val (.int p2), .val (.int wd), .val (.int ct), .unset, .unset, .unset, .unset, .unset, .unset]) rfl k) ?_
  show OwnGoW p e below s Z own_EL _ _ _ s₁ (mkF m 15 #[.val (.int p1), .val (.int p2), .val (.int wd), .val (.int ct), .unset, .unset, .unset, .unset, .unset, .unset] [])
  obtain ⟨T29, h29, X29, e29, E29, A29, D29, -, st29⟩ := newO X0 hx hZ hown (hw _ (List.mem_of_getElem? (i := 2) rfl)) (hw _ (List.mem_of_getElem? (i := 3) rfl)) (hw _ (List.mem_of_getElem? (i := 4) rfl)) e0 (g := (mkF m 15 #[.val (.int p1), .val (.int p2), .val (.int wd), .val (.int ct), .unset, .unset, .unset, .unset, .unset, .unset] [])) rfl (hb hby at_15) (by decide) (by decide)
  obtain ⟨b29, g29⟩ : ∃ z, z = h0.size := ⟨_, rfl⟩
  rw [← g29] at A29 D29 st29
  have g_b29 : n0 ≤ b29 := Nat.le_trans Z_ (Nat.le_of_eq g29.symm)
  have sf_b29 : Safe Z own_EL s.vm h0 b29 := Safe.new (Nat.le_of_eq g29.symm)
  have O_ := O_.ext E29
  have sf_b29 := Safe.ext E29 CR.1 sf_b29
  have CR := CR.trans (CHr.ext E29 CR.1)
  have hk_ := Nat.le_trans hk_ E29.1
  have Z_ : n0 ≤ h29.size := Nat.le_trans Z_ E29.1
  have E_b29 := A29
  have F_values_b29 : Fld Z h29 b29 "io/quintet/Alphabet" "values" "[B" .null := D29 (Or.inr (hw _ (List.mem_of_getElem? (i := 20) rfl))) (ty := (.array .byte)) (by decide)
  have F_width_b29 : Fld Z h29 b29 "io/quintet/Alphabet" "width" "I" (.int (0 : Int32)) := D29 (Or.inr (hw _ (List.mem_of_getElem? (i := 22) rfl))) (ty := .int) (by decide)
  have F_characters_b29 : Fld Z h29 b29 "io/quintet/Alphabet" "characters" "Ljava/lang/String;" .null := D29 (Or.inr (hw _ (List.mem_of_getElem? (i := 24) rfl))) (ty := (.object "java/lang/String")) (by decide)
  refine OwnGoW.st st29 ?_
  show OwnGoW p e below s Z own_EL _ _ _ T29 (mkF m 18 #[.val (.int p1), .val (.int p2), .val (.int wd), .val (.int ct), .unset, .unset, .unset, .unset, .unset, .unset] [(.ref b29)])
  refine OwnGoW.st (fun _ k => XS.dup X29.here hx rfl (hb hby at_18) rfl rfl k) ?_
  show OwnGoW p e below s Z own_EL _ _ _ T29 (mkF m 19 #[.val (.int p1), .val (.int p2), .val (.int wd), .val (.int ct), .unset, .unset, .unset, .unset, .unset, .unset] [(.ref b29), (.ref b29)])
  refine OwnGoW.st (fun _ k => XS.iloadN X29.here hx rfl (hb hby at_19) rfl  k) ?_
  show OwnGoW p e below s Z own_EL _ _ _ T29 (mkF m 20 #[.val (.int p1), .val (.int p2), .val (.int wd), .val (.int ct), .unset, .unset, .unset, .unset, .unset, .unset] [(.int wd), (.ref b29), (.ref b29)])
  obtain ⟨a30, T30, h30, k1_30, b30, kc30, X30, e30, E30, hS_, hkN, hZ, hown, Ea, Fc, Fv, Vb, -, -, CN, -, sN, st30⟩ := ldcCH (s := s) (vm0 := s.vm) X29 hx hZ hown (hw _ (List.mem_of_getElem? (i := 5) rfl)) (own_wS hw) e29 hS_ hk_ (own_hEL hw) (by decide) CR.1 (vs := [(.int (97 : Int32))]) (z := (1 : Int32)) ⟨by decide, rfl⟩ (by decide) (by decide) (g := (mkF m 20 #[.val (.int p1), .val (.int p2), .val (.int wd), .val (.int ct), .unset, .unset, .unset, .unset, .unset, .unset] [(.int wd), (.ref b29), (.ref b29)])) rfl (hb hby at_20) (n := 4) (by decide) (by decide) (by decide) (by decide)
  have lt_b29 : b29 < h29.size := E_b29.lt
  have E_b29 := E_b29.ext E30
  have F_values_b29 := F_values_b29.ext E30
  have F_width_b29 := F_width_b29.ext E30
  have F_characters_b29 := F_characters_b29.ext E30
  have O_ := O_.ext E30
  have sf_b29 := CN.safe lt_b29 sf_b29
  have CR := CR.trans CN
  have hk_ := hkN
  have Z_ : n0 ≤ h30.size := Nat.le_trans Z_ E30.1
  have ne_b29_a30 := (sN _ sf_b29).1
  have ne_b29_b30 := (sN _ sf_b29).2
  have E_a30 := Ea
  have Fc_a30 := Fc
  have Fv_a30 := Fv
  have V_b30 := Vb
  refine OwnGoW.st st30 ?_
  show OwnGoW p e below s Z own_EL _ _ _ T30 (mkF m 22 #[.val (.int p1), .val (.int p2), .val (.int wd), .val (.int ct), .unset, .unset, .unset, .unset, .unset, .unset] [(.ref a30), (.int wd), (.ref b29), (.ref b29)])
  obtain ⟨_, _, ⟨T31, L31, k31, n31⟩, -, X31, ⟨Lc31, hQ31, l31, y31, z31⟩, st31⟩ := X30.specialBack hx (y := (⟨"io/quintet/Alphabet", "<init>", "(ILjava/lang/String;)V"⟩ : MethodName)) rfl hown (mvT hZ (hw _ (List.mem_of_getElem? (i := 13) rfl))) (mvT hZ (hw _ (List.mem_of_getElem? (i := 14) rfl))) (mvT hZ (hw _ (List.mem_of_getElem? (i := 15) rfl))) (by decide) (backOf (W := 1) (rmini l Z a0 hw [] b29 wd a30 b30 kc30 zc fmv h30 n0 Z_ O_ S_CS P_CS S_SF rf_fmv E_b29 g_b29 (Ne.symm ne_b29_a30) (Ne.symm ne_b29_b30) F_values_b29 F_width_b29 F_characters_b29 E_a30 Fc_a30 Fv_a30 V_b30) hZ (hw _ (List.mem_of_getElem? (i := 15) rfl)) (hw _ (List.mem_of_getElem? (i := 4) rfl)) (by decide) (by decide)) (g := (mkF m 22 #[.val (.int p1), .val (.int p2), .val (.int wd), .val (.int ct), .unset, .unset, .unset, .unset, .unset, .unset] [(.ref a30), (.int wd), (.ref b29), (.ref b29)])) rfl (by rw [hml]; rfl) (Steps.refl _) (a := b29) (argsL := [(.int wd), (.ref a30)]) (rest := [(.ref b29)]) (lenOf pd_8 rfl) rfl (by show 2 * 0 + _ ≤ _; exact Nat.le_of_eq rfl) (hb hby at_22) (fun _ _ => ⟨rfl, e30, (by decide : 3 + 1 ≤ _), (by decide : 11 + 128 ≤ _)⟩)
  dsimp only [Pt.U, Pt.locs, Pt.cells, Pt.slots] at X31 l31 y31 z31 st31 hQ31
  subst l31 y31 z31
  obtain ⟨rfl, N31q, K31, Eo31, Fw31⟩ := hQ31
  have N31 := Fr.app N0 N31q
  have Z_ : n0 ≤ T31.heap.size := Nat.le_trans Z_ K31.1
  have E_b29 := E_b29.keep K31
  have E_a30 := E_a30.keep K31
  have Fc_a30 := Fc_a30.keep K31 (ninS (Ne.symm ne_b29_a30) nin0)
  have Fv_a30 := Fv_a30.keep K31 (ninS (Ne.symm ne_b29_a30) nin0)
  have V_b30 := V_b30.keep K31 (ninS (Ne.symm ne_b29_b30) nin0)
  have O_ := O_.keep K31 (allS g_b29 all0)
  have sf_b29' := Safe.keep K31 (sfS sf_b29 sf0) CR.1 sf_b29
  have CR := CR.trans (CHr.keep K31 (sfS sf_b29 sf0) CR.1)
  have hk_ := Nat.le_trans hk_ K31.1
  have sf_b29 := sf_b29'
  refine OwnGoW.st (fun _ k => st31.trans k) ?_
  show OwnGoW p e below s Z own_EL _ _ _ T31 (mkF m 25 #[.val (.int p1), .val (.int p2), .val (.int wd), .val (.int ct), .unset, .unset, .unset, .unset, .unset, .unset] [(.ref b29)])
  refine OwnGoW.st (fun _ k => XS.astore X31.here hx rfl (hb hby at_25) rfl rfl (l' := #[.val (.int p1), .val (.int p2), .val (.int wd), .val (.int ct), .val (.ref b29), .unset, .unset, .unset, .unset, .unset]) rfl k) ?_
  show OwnGoW p e below s Z own_EL _ _ _ T31 (mkF m 27 #[.val (.int p1), .val (.int p2), .val (.int wd), .val (.int ct), .val (.ref b29), .unset, .unset, .unset, .unset, .unset] [])
  refine OwnGoW.st (fun _ k => XS.aload X31.here hx rfl (hb hby at_27) rfl rfl  k) ?_
  show OwnGoW p e below s Z own_EL _ _ _ T31 (mkF m 29 #[.val (.int p1), .val (.int p2), .val (.int wd), .val (.int ct), .val (.ref b29), .unset, .unset, .unset, .unset, .unset] [(.ref b29)])
  refine OwnGoW.st (fun _ k => XS.iloadN X31.here hx rfl (hb hby at_29) rfl  k) ?_
  show OwnGoW p e below s Z own_EL _ _ _ T31 (mkF m 30 #[.val (.int p1), .val (.int p2), .val (.int wd), .val (.int ct), .val (.ref b29), .unset, .unset, .unset, .unset, .unset] [(.int ct), (.ref b29)])
  obtain ⟨cq32, kq32, q32a, q32b, q32c⟩ := isOf hZ rfl E_b29
  obtain ⟨_, _, ⟨T32, L32, k32, n32⟩, -, X32, ⟨Lc32, hQ32, l32, y32, z32⟩, st32⟩ := X31.virtualBack hx (y := (⟨"io/quintet/Alphabet", "payloadLength", "(I)I"⟩ : MethodName)) (z := (⟨"io/quintet/Alphabet", "payloadLength", "(I)I"⟩ : MethodName)) hown (mvT hZ (hw _ (List.mem_of_getElem? (i := 64) rfl))) (mvT hZ (hw _ (List.mem_of_getElem? (i := 65) rfl))) (notFace_of_selects (args := #[]) (mvT hZ (hw _ (List.mem_of_getElem? (i := 67) rfl)))) (mvT hZ (hw _ (List.mem_of_getElem? (i := 67) rfl))) (mvT hZ (hw _ (List.mem_of_getElem? (i := 66) rfl))) (by decide) (backOf (W := 0) (rmpl l Z a0 hw [] b29 wd ct T31.heap n0 Z_ Fw31) hZ (hw _ (List.mem_of_getElem? (i := 68) rfl)) (hw _ (List.mem_of_getElem? (i := 4) rfl)) (by decide) (by decide)) q32a q32c (g := (mkF m 30 #[.val (.int p1), .val (.int p2), .val (.int wd), .val (.int ct), .val (.ref b29), .unset, .unset, .unset, .unset, .unset] [(.int ct), (.ref b29)])) rfl (by rw [hml]; rfl) (Steps.refl _) (argsL := [(.int ct)]) (rest := []) (lenOf pd_9 rfl) rfl (by show 2 * 0 + _ ≤ _; exact Nat.le_of_eq rfl) (hb hby at_30) (fun _ _ => ⟨rfl, rfl, (by decide : 4 + 0 ≤ _), (by decide : 139 + 0 ≤ _)⟩)
  dsimp only [Pt.U, Pt.locs, Pt.cells, Pt.slots] at X32 l32 y32 z32 st32 hQ32
  subst l32 y32 z32
  obtain ⟨rfl, N32q, e32⟩ := hQ32
  have N32 := Fr.app N31 N32q
  refine OwnGoW.st (fun _ k => st32.trans k) ?_
  show OwnGoW p e below s Z own_EL _ _ _ T32 (mkF m 33 #[.val (.int p1), .val (.int p2), .val (.int wd), .val (.int ct), .val (.ref b29), .unset, .unset, .unset, .unset, .unset] [(.int (own_pl wd ct))])
  refine OwnGoW.st (fun _ k => XS.istore X32.here hx rfl (hb hby at_33) rfl (l' := #[.val (.int p1), .val (.int p2), .val (.int wd), .val (.int ct), .val (.ref b29), .val (.int (own_pl wd ct)), .unset, .unset, .unset, .unset]) rfl k) ?_
  show OwnGoW p e below s Z own_EL _ _ _ T32 (mkF m 35 #[.val (.int p1), .val (.int p2), .val (.int wd), .val (.int ct), .val (.ref b29), .val (.int (own_pl wd ct)), .unset, .unset, .unset, .unset] [])
  refine OwnGoW.st (fun _ k => XS.iloadN X32.here hx rfl (hb hby at_35) rfl  k) ?_
  show OwnGoW p e below s Z own_EL _ _ _ T32 (mkF m 36 #[.val (.int p1), .val (.int p2), .val (.int wd), .val (.int ct), .val (.ref b29), .val (.int (own_pl wd ct)), .unset, .unset, .unset, .unset] [(.int ct)])
  by_cases hz : ct = (0 : Int32)
  · refine OwnGoW.st (fun _ k => XS.ifNo X32.here hx rfl (hb hby at_36) rfl ((if0 _ _).trans (teq (hz : ct = (0 : Int32))).2) k) ?_
    show OwnGoW p e below s Z own_EL _ _ _ T32 (mkF m 39 #[.val (.int p1), .val (.int p2), .val (.int wd), .val (.int ct), .val (.ref b29), .val (.int (own_pl wd ct)), .unset, .unset, .unset, .unset] [])
    refine OwnGoW.st (fun _ k => XS.iload X32.here hx rfl (hb hby at_39) rfl  k) ?_
    show OwnGoW p e below s Z own_EL _ _ _ T32 (mkF m 41 #[.val (.int p1), .val (.int p2), .val (.int wd), .val (.int ct), .val (.ref b29), .val (.int (own_pl wd ct)), .unset, .unset, .unset, .unset] [(.int (own_pl wd ct))])
    refine OwnGoW.st (fun _ k => XS.iconst X32.here hx rfl (hb hby at_41) k) ?_
    show OwnGoW p e below s Z own_EL _ _ _ T32 (mkF m 42 #[.val (.int p1), .val (.int p2), .val (.int wd), .val (.int ct), .val (.ref b29), .val (.int (own_pl wd ct)), .unset, .unset, .unset, .unset] [(.int (-1 : Int32)), (.int (own_pl wd ct))])
    refine OwnGoW.st (fun _ k => XS.icmpNo X32.here hx rfl (hb hby at_42) rfl (teq ((own_pl0 hz) : (own_pl wd ct) = (-1 : Int32))).2 k) ?_
    show OwnGoW p e below s Z own_EL _ _ _ T32 (mkF m 45 #[.val (.int p1), .val (.int p2), .val (.int wd), .val (.int ct), .val (.ref b29), .val (.int (own_pl wd ct)), .unset, .unset, .unset, .unset] [])
    refine OwnGoW.st (fun _ k => XS.iconst X32.here hx rfl (hb hby at_45) k) ?_
    show OwnGoW p e below s Z own_EL _ _ _ T32 (mkF m 46 #[.val (.int p1), .val (.int p2), .val (.int wd), .val (.int ct), .val (.ref b29), .val (.int (own_pl wd ct)), .unset, .unset, .unset, .unset] [(.int (1 : Int32))])
    refine OwnGoW.st (fun _ k => XS.goto X32.here hx rfl (pc0 := 46) (pc' := 50) rfl (hb hby at_46) (by decide) (by decide) k) ?_
    show OwnGoW p e below s Z own_EL _ _ _ T32 (mkF m 50 #[.val (.int p1), .val (.int p2), .val (.int wd), .val (.int ct), .val (.ref b29), .val (.int (own_pl wd ct)), .unset, .unset, .unset, .unset] [(.int (1 : Int32))])
    exact OwnGoW.retN (s := s) (vm0 := T30.vm) X32 hS_ hk_ e32 hZ (own_hEL hw) CR hx (t := .boolean) hret hlk (by simp) (hb hby at_50) (by show Q0 Z p1 p2 zc fmv h0 n0 _ T32.heap _; rw [e32]; exact ⟨rfl, N32⟩) (by decide) (by decide)
  · refine OwnGoW.st (fun _ k => XS.ifYes X32.here hx rfl (pc0 := 36) (pc' := 51) rfl (hb hby at_36) rfl ((if0 _ _).trans (feq (hz : ¬ (ct = (0 : Int32)))).2) (by decide) (by decide) k) ?_
    show OwnGoW p e below s Z own_EL _ _ _ T32 (mkF m 51 #[.val (.int p1), .val (.int p2), .val (.int wd), .val (.int ct), .val (.ref b29), .val (.int (own_pl wd ct)), .unset, .unset, .unset, .unset] [])
    have LW := own_law p1 p2 wd ct hwd hct hz
    refine OwnGoW.st (fun _ k => XS.lconst X32.here hx rfl (hb hby at_51) k) ?_
    show OwnGoW p e below s Z own_EL _ _ _ T32 (mkF m 52 #[.val (.int p1), .val (.int p2), .val (.int wd), .val (.int ct), .val (.ref b29), .val (.int (own_pl wd ct)), .unset, .unset, .unset, .unset] [(.long (1 : Int64))])
    refine OwnGoW.st (fun _ k => XS.iloadN X32.here hx rfl (hb hby at_52) rfl  k) ?_
    show OwnGoW p e below s Z own_EL _ _ _ T32 (mkF m 53 #[.val (.int p1), .val (.int p2), .val (.int wd), .val (.int ct), .val (.ref b29), .val (.int (own_pl wd ct)), .unset, .unset, .unset, .unset] [(.int wd), (.long (1 : Int64))])
    refine OwnGoW.st (fun _ k => XS.i2l X32.here hx rfl (hb hby at_53) rfl k) ?_
    show OwnGoW p e below s Z own_EL _ _ _ T32 (mkF m 54 #[.val (.int p1), .val (.int p2), .val (.int wd), .val (.int ct), .val (.ref b29), .val (.int (own_pl wd ct)), .unset, .unset, .unset, .unset] [(.long (wd.toInt64)), (.long (1 : Int64))])
    refine OwnGoW.st (fun _ k => XS.iloadN X32.here hx rfl (hb hby at_54) rfl  k) ?_
    show OwnGoW p e below s Z own_EL _ _ _ T32 (mkF m 55 #[.val (.int p1), .val (.int p2), .val (.int wd), .val (.int ct), .val (.ref b29), .val (.int (own_pl wd ct)), .unset, .unset, .unset, .unset] [(.int ct), (.long (wd.toInt64)), (.long (1 : Int64))])
    refine OwnGoW.st (fun _ k => XS.i2l X32.here hx rfl (hb hby at_55) rfl k) ?_
    show OwnGoW p e below s Z own_EL _ _ _ T32 (mkF m 56 #[.val (.int p1), .val (.int p2), .val (.int wd), .val (.int ct), .val (.ref b29), .val (.int (own_pl wd ct)), .unset, .unset, .unset, .unset] [(.long (ct.toInt64)), (.long (wd.toInt64)), (.long (1 : Int64))])
    refine OwnGoW.st (fun _ k => XS.lmul X32.here hx rfl (hb hby at_56) rfl k) ?_
    show OwnGoW p e below s Z own_EL _ _ _ T32 (mkF m 57 #[.val (.int p1), .val (.int p2), .val (.int wd), .val (.int ct), .val (.ref b29), .val (.int (own_pl wd ct)), .unset, .unset, .unset, .unset] [(.long ((wd.toInt64) * (ct.toInt64))), (.long (1 : Int64))])
    refine OwnGoW.st (fun _ k => XS.ladd X32.here hx rfl (hb hby at_57) rfl k) ?_
    show OwnGoW p e below s Z own_EL _ _ _ T32 (mkF m 58 #[.val (.int p1), .val (.int p2), .val (.int wd), .val (.int ct), .val (.ref b29), .val (.int (own_pl wd ct)), .unset, .unset, .unset, .unset] [(.long ((1 : Int64) + ((wd.toInt64) * (ct.toInt64))))])
    refine OwnGoW.st (fun _ k => XS.lstore X32.here hx rfl (hb hby at_58) rfl (l' := #[.val (.int p1), .val (.int p2), .val (.int wd), .val (.int ct), .val (.ref b29), .val (.int (own_pl wd ct)), .val (.long ((1 : Int64) + ((wd.toInt64) * (ct.toInt64)))), .second, .unset, .unset]) rfl k) ?_
    show OwnGoW p e below s Z own_EL _ _ _ T32 (mkF m 60 #[.val (.int p1), .val (.int p2), .val (.int wd), .val (.int ct), .val (.ref b29), .val (.int (own_pl wd ct)), .val (.long ((1 : Int64) + ((wd.toInt64) * (ct.toInt64)))), .second, .unset, .unset] [])
    refine OwnGoW.st (fun _ k => XS.iload X32.here hx rfl (hb hby at_60) rfl  k) ?_
    show OwnGoW p e below s Z own_EL _ _ _ T32 (mkF m 62 #[.val (.int p1), .val (.int p2), .val (.int wd), .val (.int ct), .val (.ref b29), .val (.int (own_pl wd ct)), .val (.long ((1 : Int64) + ((wd.toInt64) * (ct.toInt64)))), .second, .unset, .unset] [(.int (own_pl wd ct))])
    refine OwnGoW.st (fun _ k => XS.i2l X32.here hx rfl (hb hby at_62) rfl k) ?_
    show OwnGoW p e below s Z own_EL _ _ _ T32 (mkF m 63 #[.val (.int p1), .val (.int p2), .val (.int wd), .val (.int ct), .val (.ref b29), .val (.int (own_pl wd ct)), .val (.long ((1 : Int64) + ((wd.toInt64) * (ct.toInt64)))), .second, .unset, .unset] [(.long ((own_pl wd ct).toInt64))])
    refine OwnGoW.st (fun _ k => XS.lstore X32.here hx rfl (hb hby at_63) rfl (l' := #[.val (.int p1), .val (.int p2), .val (.int wd), .val (.int ct), .val (.ref b29), .val (.int (own_pl wd ct)), .val (.long ((1 : Int64) + ((wd.toInt64) * (ct.toInt64)))), .second, .val (.long ((own_pl wd ct).toInt64)), .second]) rfl k) ?_
    show OwnGoW p e below s Z own_EL _ _ _ T32 (mkF m 65 #[.val (.int p1), .val (.int p2), .val (.int wd), .val (.int ct), .val (.ref b29), .val (.int (own_pl wd ct)), .val (.long ((1 : Int64) + ((wd.toInt64) * (ct.toInt64)))), .second, .val (.long ((own_pl wd ct).toInt64)), .second] [])
    refine OwnGoW.st (fun _ k => XS.lload X32.here hx rfl (hb hby at_65) rfl  k) ?_
    show OwnGoW p e below s Z own_EL _ _ _ T32 (mkF m 67 #[.val (.int p1), .val (.int p2), .val (.int wd), .val (.int ct), .val (.ref b29), .val (.int (own_pl wd ct)), .val (.long ((1 : Int64) + ((wd.toInt64) * (ct.toInt64)))), .second, .val (.long ((own_pl wd ct).toInt64)), .second] [(.long ((own_pl wd ct).toInt64))])
    refine OwnGoW.st (fun _ k => XS.lconst X32.here hx rfl (hb hby at_67) k) ?_
    show OwnGoW p e below s Z own_EL _ _ _ T32 (mkF m 68 #[.val (.int p1), .val (.int p2), .val (.int wd), .val (.int ct), .val (.ref b29), .val (.int (own_pl wd ct)), .val (.long ((1 : Int64) + ((wd.toInt64) * (ct.toInt64)))), .second, .val (.long ((own_pl wd ct).toInt64)), .second] [(.long (1 : Int64)), (.long ((own_pl wd ct).toInt64))])
    refine OwnGoW.st (fun _ k => XS.lcmp X32.here hx rfl (hb hby at_68) rfl k) ?_
    show OwnGoW p e below s Z own_EL _ _ _ T32 (mkF m 69 #[.val (.int p1), .val (.int p2), .val (.int wd), .val (.int ct), .val (.ref b29), .val (.int (own_pl wd ct)), .val (.long ((1 : Int64) + ((wd.toInt64) * (ct.toInt64)))), .second, .val (.long ((own_pl wd ct).toInt64)), .second] [(.int (lcmpW ((own_pl wd ct).toInt64) (1 : Int64)))])
    refine OwnGoW.st (fun _ k => XS.ifNo X32.here hx rfl (hb hby at_69) rfl ((if0 _ _).trans (flt ((fun q => absurd ((lw_lt _ _).1 q) LW.1) : ¬ ((lcmpW ((own_pl wd ct).toInt64) (1 : Int64)) < (0 : Int32)))).1) k) ?_
    show OwnGoW p e below s Z own_EL _ _ _ T32 (mkF m 72 #[.val (.int p1), .val (.int p2), .val (.int wd), .val (.int ct), .val (.ref b29), .val (.int (own_pl wd ct)), .val (.long ((1 : Int64) + ((wd.toInt64) * (ct.toInt64)))), .second, .val (.long ((own_pl wd ct).toInt64)), .second] [])
    refine OwnGoW.st (fun _ k => X32.ldc2Long hx hown (mvT hZ (hw _ (List.mem_of_getElem? (i := 69) rfl))) (g := (mkF m 72 #[.val (.int p1), .val (.int p2), .val (.int wd), .val (.int ct), .val (.ref b29), .val (.int (own_pl wd ct)), .val (.long ((1 : Int64) + ((wd.toInt64) * (ct.toInt64)))), .second, .val (.long ((own_pl wd ct).toInt64)), .second] [])) rfl (hb hby at_72) _ k) ?_
    show OwnGoW p e below s Z own_EL _ _ _ T32 (mkF m 75 #[.val (.int p1), .val (.int p2), .val (.int wd), .val (.int ct), .val (.ref b29), .val (.int (own_pl wd ct)), .val (.long ((1 : Int64) + ((wd.toInt64) * (ct.toInt64)))), .second, .val (.long ((own_pl wd ct).toInt64)), .second] [(.long (8 : Int64))])
    refine OwnGoW.st (fun _ k => XS.lload X32.here hx rfl (hb hby at_75) rfl  k) ?_
    show OwnGoW p e below s Z own_EL _ _ _ T32 (mkF m 77 #[.val (.int p1), .val (.int p2), .val (.int wd), .val (.int ct), .val (.ref b29), .val (.int (own_pl wd ct)), .val (.long ((1 : Int64) + ((wd.toInt64) * (ct.toInt64)))), .second, .val (.long ((own_pl wd ct).toInt64)), .second] [(.long ((own_pl wd ct).toInt64)), (.long (8 : Int64))])
    refine OwnGoW.st (fun _ k => XS.lmul X32.here hx rfl (hb hby at_77) rfl k) ?_
    show OwnGoW p e below s Z own_EL _ _ _ T32 (mkF m 78 #[.val (.int p1), .val (.int p2), .val (.int wd), .val (.int ct), .val (.ref b29), .val (.int (own_pl wd ct)), .val (.long ((1 : Int64) + ((wd.toInt64) * (ct.toInt64)))), .second, .val (.long ((own_pl wd ct).toInt64)), .second] [(.long ((8 : Int64) * ((own_pl wd ct).toInt64)))])
    refine OwnGoW.st (fun _ k => XS.lload X32.here hx rfl (hb hby at_78) rfl  k) ?_
    show OwnGoW p e below s Z own_EL _ _ _ T32 (mkF m 80 #[.val (.int p1), .val (.int p2), .val (.int wd), .val (.int ct), .val (.ref b29), .val (.int (own_pl wd ct)), .val (.long ((1 : Int64) + ((wd.toInt64) * (ct.toInt64)))), .second, .val (.long ((own_pl wd ct).toInt64)), .second] [(.long ((1 : Int64) + ((wd.toInt64) * (ct.toInt64)))), (.long ((8 : Int64) * ((own_pl wd ct).toInt64)))])
    refine OwnGoW.st (fun _ k => XS.lcmp X32.here hx rfl (hb hby at_80) rfl k) ?_
    show OwnGoW p e below s Z own_EL _ _ _ T32 (mkF m 81 #[.val (.int p1), .val (.int p2), .val (.int wd), .val (.int ct), .val (.ref b29), .val (.int (own_pl wd ct)), .val (.long ((1 : Int64) + ((wd.toInt64) * (ct.toInt64)))), .second, .val (.long ((own_pl wd ct).toInt64)), .second] [(.int (lcmpW ((8 : Int64) * ((own_pl wd ct).toInt64)) ((1 : Int64) + ((wd.toInt64) * (ct.toInt64)))))])
    refine OwnGoW.st (fun _ k => XS.ifNo X32.here hx rfl (hb hby at_81) rfl ((if0 _ _).trans (flt ((fun q => absurd ((lw_lt _ _).1 q) LW.2.1) : ¬ ((lcmpW ((8 : Int64) * ((own_pl wd ct).toInt64)) ((1 : Int64) + ((wd.toInt64) * (ct.toInt64)))) < (0 : Int32)))).1) k) ?_
    show OwnGoW p e below s Z own_EL _ _ _ T32 (mkF m 84 #[.val (.int p1), .val (.int p2), .val (.int wd), .val (.int ct), .val (.ref b29), .val (.int (own_pl wd ct)), .val (.long ((1 : Int64) + ((wd.toInt64) * (ct.toInt64)))), .second, .val (.long ((own_pl wd ct).toInt64)), .second] [])
    refine OwnGoW.st (fun _ k => X32.ldc2Long hx hown (mvT hZ (hw _ (List.mem_of_getElem? (i := 69) rfl))) (g := (mkF m 84 #[.val (.int p1), .val (.int p2), .val (.int wd), .val (.int ct), .val (.ref b29), .val (.int (own_pl wd ct)), .val (.long ((1 : Int64) + ((wd.toInt64) * (ct.toInt64)))), .second, .val (.long ((own_pl wd ct).toInt64)), .second] [])) rfl (hb hby at_84) _ k) ?_
    show OwnGoW p e below s Z own_EL _ _ _ T32 (mkF m 87 #[.val (.int p1), .val (.int p2), .val (.int wd), .val (.int ct), .val (.ref b29), .val (.int (own_pl wd ct)), .val (.long ((1 : Int64) + ((wd.toInt64) * (ct.toInt64)))), .second, .val (.long ((own_pl wd ct).toInt64)), .second] [(.long (8 : Int64))])
    refine OwnGoW.st (fun _ k => XS.lload X32.here hx rfl (hb hby at_87) rfl  k) ?_
    show OwnGoW p e below s Z own_EL _ _ _ T32 (mkF m 89 #[.val (.int p1), .val (.int p2), .val (.int wd), .val (.int ct), .val (.ref b29), .val (.int (own_pl wd ct)), .val (.long ((1 : Int64) + ((wd.toInt64) * (ct.toInt64)))), .second, .val (.long ((own_pl wd ct).toInt64)), .second] [(.long ((own_pl wd ct).toInt64)), (.long (8 : Int64))])
    refine OwnGoW.st (fun _ k => XS.lconst X32.here hx rfl (hb hby at_89) k) ?_
    show OwnGoW p e below s Z own_EL _ _ _ T32 (mkF m 90 #[.val (.int p1), .val (.int p2), .val (.int wd), .val (.int ct), .val (.ref b29), .val (.int (own_pl wd ct)), .val (.long ((1 : Int64) + ((wd.toInt64) * (ct.toInt64)))), .second, .val (.long ((own_pl wd ct).toInt64)), .second] [(.long (1 : Int64)), (.long ((own_pl wd ct).toInt64)), (.long (8 : Int64))])
    refine OwnGoW.st (fun _ k => XS.lsub X32.here hx rfl (hb hby at_90) rfl k) ?_
    show OwnGoW p e below s Z own_EL _ _ _ T32 (mkF m 91 #[.val (.int p1), .val (.int p2), .val (.int wd), .val (.int ct), .val (.ref b29), .val (.int (own_pl wd ct)), .val (.long ((1 : Int64) + ((wd.toInt64) * (ct.toInt64)))), .second, .val (.long ((own_pl wd ct).toInt64)), .second] [(.long (((own_pl wd ct).toInt64) - (1 : Int64))), (.long (8 : Int64))])
    refine OwnGoW.st (fun _ k => XS.lmul X32.here hx rfl (hb hby at_91) rfl k) ?_
    show OwnGoW p e below s Z own_EL _ _ _ T32 (mkF m 92 #[.val (.int p1), .val (.int p2), .val (.int wd), .val (.int ct), .val (.ref b29), .val (.int (own_pl wd ct)), .val (.long ((1 : Int64) + ((wd.toInt64) * (ct.toInt64)))), .second, .val (.long ((own_pl wd ct).toInt64)), .second] [(.long ((8 : Int64) * (((own_pl wd ct).toInt64) - (1 : Int64))))])
    refine OwnGoW.st (fun _ k => XS.lload X32.here hx rfl (hb hby at_92) rfl  k) ?_
    show OwnGoW p e below s Z own_EL _ _ _ T32 (mkF m 94 #[.val (.int p1), .val (.int p2), .val (.int wd), .val (.int ct), .val (.ref b29), .val (.int (own_pl wd ct)), .val (.long ((1 : Int64) + ((wd.toInt64) * (ct.toInt64)))), .second, .val (.long ((own_pl wd ct).toInt64)), .second] [(.long ((1 : Int64) + ((wd.toInt64) * (ct.toInt64)))), (.long ((8 : Int64) * (((own_pl wd ct).toInt64) - (1 : Int64))))])
    refine OwnGoW.st (fun _ k => XS.lcmp X32.here hx rfl (hb hby at_94) rfl k) ?_
    show OwnGoW p e below s Z own_EL _ _ _ T32 (mkF m 95 #[.val (.int p1), .val (.int p2), .val (.int wd), .val (.int ct), .val (.ref b29), .val (.int (own_pl wd ct)), .val (.long ((1 : Int64) + ((wd.toInt64) * (ct.toInt64)))), .second, .val (.long ((own_pl wd ct).toInt64)), .second] [(.int (lcmpW ((8 : Int64) * (((own_pl wd ct).toInt64) - (1 : Int64))) ((1 : Int64) + ((wd.toInt64) * (ct.toInt64)))))])
    refine OwnGoW.st (fun _ k => XS.ifNo X32.here hx rfl (hb hby at_95) rfl ((if0 _ _).trans (tlt (((lw_lt _ _).2 LW.2.2) : (lcmpW ((8 : Int64) * (((own_pl wd ct).toInt64) - (1 : Int64))) ((1 : Int64) + ((wd.toInt64) * (ct.toInt64)))) < (0 : Int32))).2.1) k) ?_
    show OwnGoW p e below s Z own_EL _ _ _ T32 (mkF m 98 #[.val (.int p1), .val (.int p2), .val (.int wd), .val (.int ct), .val (.ref b29), .val (.int (own_pl wd ct)), .val (.long ((1 : Int64) + ((wd.toInt64) * (ct.toInt64)))), .second, .val (.long ((own_pl wd ct).toInt64)), .second] [])
    refine OwnGoW.st (fun _ k => XS.iconst X32.here hx rfl (hb hby at_98) k) ?_
    show OwnGoW p e below s Z own_EL _ _ _ T32 (mkF m 99 #[.val (.int p1), .val (.int p2), .val (.int wd), .val (.int ct), .val (.ref b29), .val (.int (own_pl wd ct)), .val (.long ((1 : Int64) + ((wd.toInt64) * (ct.toInt64)))), .second, .val (.long ((own_pl wd ct).toInt64)), .second] [(.int (1 : Int32))])
    refine OwnGoW.st (fun _ k => XS.goto X32.here hx rfl (pc0 := 99) (pc' := 103) rfl (hb hby at_99) (by decide) (by decide) k) ?_
    show OwnGoW p e below s Z own_EL _ _ _ T32 (mkF m 103 #[.val (.int p1), .val (.int p2), .val (.int wd), .val (.int ct), .val (.ref b29), .val (.int (own_pl wd ct)), .val (.long ((1 : Int64) + ((wd.toInt64) * (ct.toInt64)))), .second, .val (.long ((own_pl wd ct).toInt64)), .second] [(.int (1 : Int32))])
    exact OwnGoW.retN (s := s) (vm0 := T30.vm) X32 hS_ hk_ e32 hZ (own_hEL hw) CR hx (t := .boolean) hret hlk (by simp) (hb hby at_103) (by show Q0 Z p1 p2 zc fmv h0 n0 _ T32.heap _; rw [e32]; exact ⟨rfl, N32⟩) (by decide) (by decide)
set_option maxRecDepth 65536 in
set_option maxHeartbeats 40000000 in
theorem comes_1 {Post : Tables → Env → Array Value → State → Outcome → State → Prop} (hpost : ∀ tb e args s v u, (limb_1_1.after args s (.returned v) u = true ∧ limb_1_2.after args s (.returned v) u = true ∧ True) → ReturnedEndW s (.returned v) u (Jvm.fieldLocs frame_1_writes args s ++ Jvm.arrayLocs frame_1_arrays args s ++ Jvm.staticLocs frame_1_statics s) 16 1408 → Post tb e args s (.returned v) u) :
    ArmFor flags0 classFile x code maxLocals ret World_1 tables_1 room_1 Calls_1 rest_1 Pre_1 Post := by
  intro l hfl _ _ p e ha hc hk s m args below hf hA hF happ hP
  obtain ⟨hcalls, hrest, hpre⟩ := hP
  obtain ⟨-, -, -, hnamed, -, -, -, hat⟩ := (Spec.applies_iff hf).mp happ
  obtain ⟨hg, hn⟩ := and_e (Cond.before_iff.mp (show (Jvm.Cond.and given_1 narrow_1).before args s = true from hpre))
  obtain ⟨hcnt, hg⟩ := and_e hg
  obtain ⟨hg0, hg⟩ := and_e hg
  have hg1 := hg
  obtain ⟨w0, w1, rfl⟩ : ∃ w0 w1 : Value, args = #[w0, w1] := by
    have hs : args.size = 2 := by simpa [Cond.value, given_1] using hcnt
    obtain ⟨L⟩ := args
    match L, hs with
    | [w0, w1], _ => exact ⟨w0, w1, rfl⟩
  have hw := fun d (hd : d ∈ tables_1) => atoms_spec (ws := Jvm.Cond.code x code maxLocals ret :: tables_1) hat d (List.mem_cons_of_mem _ hd)
  have hfit : Fit s := fun {y c} hc i hi => by
    obtain ⟨ha, rfl⟩ := Array.getElem?_eq_some_iff.mp hc
    have q := List.all_eq_true.mp ((Array.all_eq_true_iff_forall_mem.mp hF) _ (Array.getElem_mem ha)) i (List.mem_range.mpr hi)
    simpa [Array.getElem?_eq_getElem hi] using q
  obtain ⟨i0, ei0⟩ := is_v hg0
  obtain rfl : w0 = (.int i0) := Option.some.inj ei0
  obtain ⟨i1, ei1⟩ := is_v hg1
  obtain rfl : w1 = (.int i1) := Option.some.inj ei1
  obtain ⟨hsets, hown0⟩ := atoms_of _ (rest_1_c_eq ▸ (show rest_1_c.before _ s = true from hrest))
  obtain ⟨zc, ev_zc⟩ := is_v (Cond.before_iff.mp (hsets _ (List.mem_of_getElem? (i := 1) rfl)))
  have S_CS := Sta.start ev_zc (Or.inl (hsets _ (List.mem_of_getElem? (i := 0) rfl)))
  have P_CS : ¬ zc = (0 : Int32) := gotF (Cond.eq_ints ev_zc (Term.int_eval (0))) (not_v (Cond.before_iff.mp (hsets _ (List.mem_of_getElem? (i := 2) rfl))))
  obtain ⟨fmv, ev_fm, rf_fmv⟩ := isR_v (Cond.before_iff.mp (hsets _ (List.mem_of_getElem? (i := 8) rfl)))
  have S_SF := Sta.start ev_fm (Or.inl (hsets _ (List.mem_of_getElem? (i := 7) rfl)))
  obtain ⟨n, o, h1, h2, h3, _, L, rfl, ⟨rfl, N⟩, -, hq⟩ := rm0 l s _ hw tables_1 i0 i1 zc fmv s.heap s.heap.size (Nat.le_refl _) (Old.start s) S_CS P_CS S_SF rf_fmv  p e ha hc hk s m _ below hf ((Spec.applies_iff_loose hf).mp happ).1 ⟨rfl, State.Warmed39.refl s, rfl, (CHv.start (own_hEL hw) (fun q hq => (hcalls.1 : Jvm.Lit.constsHeld consts_1 s) q ((by decide : ∀ q ∈ own_EL, q ∈ consts_1) q hq)) (hsets _ (List.mem_of_getElem? (i := 2) rfl)) (hw _ (List.mem_of_getElem? (i := 8) rfl)) (hw _ (List.mem_of_getElem? (i := 7) rfl)))⟩ trivial
  refine ⟨n, _, h1, h2, h3, hpost _ _ _ _ _ _ ⟨Cond.after_iff.mpr rfl, Cond.after_iff.mpr (eq_i res_at (Term.int_eval (1)) rfl), trivial⟩ ⟨hq.1, hq.2.1, hq.2.2.1, (hq.2.2.2.sift fun y hy => Or.inr (N y hy)).mono (by decide) (by decide)⟩⟩
theorem main_1_1 : Claimed_1_1 := comes_1 fun _ _ _ _ _ _ h hF => ⟨h.1, hF⟩
theorem main_1_2 : Claimed_1_2 := comes_1 fun _ _ _ _ _ _ h hF => ⟨h.2.1, hF⟩
end Jvm.Pilot.@@N@@
namespace Jvm.Pilot.@@N@@
open Jvm Jvm.ClassFile Sem Op Lib Jvm.Free Jvm.Stand Jvm.Pilot.@@N@@.Jvm.D
/-! MADE BY PROGRAM (witnessworld.py) out of the Statement's table words and the real class files: 19 classes; the members and pool entries that the words name. The judged class is class 1, her method 1. -/
namespace start1
open Jvm.ClassFile
def u (s : String) : CpInfo := .utf8 (stringToUtf16 s)
/-- a pool by its gaps: so many unusable entries, then the entry; so many at the end -/
def gap : Nat → List CpInfo → List CpInfo
  | 0, r => r
  | n + 1, r => .unusable :: gap n r
def poolList (es : List (Nat × CpInfo)) (last : Nat) : List CpInfo := es.foldr (fun e r => gap e.1 (e.2 :: r)) (gap last [])
def pool (es : List (Nat × CpInfo)) (last : Nat) : Array CpInfo := ⟨poolList es last⟩
def fileOf (pool : Array CpInfo) (this : Nat) (attrs : Array Attribute := #[]) (ms : Array MethodInfo := #[]) (fl : Nat := 33) (sup : Nat := 0) (ifs : Array Nat := #[]) (fds : Array FieldInfo := #[]) : ClassFile where
  minorVersion := 0
  majorVersion := 65
  constantPool := pool
  accessFlags := fl
  thisClass := this
  superClass := sup
  interfaces := ifs
  fields := fds
  methods := ms
  attributes := attrs
def plain (name : String) (sup : Option ClassId) : Class where
  name := name
  kind := .ordinary
  loader := none
  accessFlags := 33
  super := sup
  interfaces := #[]
  cf := none
  fields := #[]
  methods := #[]
  instanceTypes := #[]
  staticTypes := #[]
  resolved := #[]
  callSites := []
  init := .initialized
  statics := none
  mirror := none

def pool0 : Array CpInfo := pool [(5, u "<init>"), (0, u "()V"), (1, .class_ 10), (1, u "java/lang/Object")] 113

def k0c0 : Code := { maxStack := 0, maxLocals := 1, code := object_method_1_code, exceptionTable := #[], attributes := #[] }
def k0m0 : Method := { name := "<init>", desc := "()V", sig := { parameters := [], returnType := none }, accessFlags := 1, code := some k0c0 }
/-- java/lang/Object -/
def k0 : Class := { plain "java/lang/Object" none with
  accessFlags := 33
  interfaces := #[]
  cf := some (fileOf pool0 8 #[] #[{ accessFlags := 1, nameIndex := 5, descriptorIndex := 6, attributes := #[] }] 33 0 #[] #[])
  fields := #[]
  methods := #[k0m0]
  instanceTypes := #[]
  staticTypes := #[]
  resolved := Array.replicate 124 none
  statics := none }

def pool1 : Array CpInfo := pool [(2, .class_ 4), (1, u "java/lang/Object"), (0, u "<init>"), (0, u "()V"), (0, .integer 2147483647), (0, .integer 268435455), (0, .class_ 10), (0, u "io/quintet/Alphabet"), (0, .string 12), (0, u "a"), (0, .methodref 9 14), (0, .nameAndType 5 15), (0, u "(ILjava/lang/String;)V"), (0, .methodref 9 17), (0, .nameAndType 18 19), (0, u "payloadLength"), (0, u "(I)I"), (0, .long 8), (1, .class_ 23), (0, u "io/quintet/AlphabetPayloadLengthPinLaw"), (2, u "law"), (0, u "(II)Z")] 3

def k1m0 : Method := { name := "<init>", desc := "()V", sig := { parameters := [], returnType := none }, accessFlags := 1, code := none }
def k1c1 : Code := { maxStack := 6, maxLocals := 10, code := code, exceptionTable := #[], attributes := #[] }
def k1m1 : Method := { name := "law", desc := "(II)Z", sig := { parameters := [.int, .int], returnType := some .boolean }, accessFlags := 9, code := some k1c1 }
/-- io/quintet/AlphabetPayloadLengthPinLaw -/
def k1 : Class := { plain "io/quintet/AlphabetPayloadLengthPinLaw" (some 0) with
  accessFlags := 49
  interfaces := #[]
  cf := some (fileOf pool1 22 #[] #[{ accessFlags := 1, nameIndex := 5, descriptorIndex := 6, attributes := #[] }, { accessFlags := 9, nameIndex := 26, descriptorIndex := 27, attributes := #[] }] 49 2 #[] #[])
  fields := #[]
  methods := #[k1m0, k1m1]
  instanceTypes := #[]
  staticTypes := #[]
  resolved := Array.replicate 31 none
  statics := none }

def pool2 : Array CpInfo := pool [(1, .class_ 2), (0, u "io/quintet/Form"), (0, .class_ 4), (0, u "java/lang/Object")] 8

/-- io/quintet/Form -/
def k2 : Class := { plain "io/quintet/Form" (some 0) with
  accessFlags := 1536
  interfaces := #[]
  cf := some (fileOf pool2 1 #[] #[] 1536 3 #[] #[])
  fields := #[]
  methods := #[]
  instanceTypes := #[]
  staticTypes := #[]
  resolved := Array.replicate 13 none
  statics := none }

def pool3 : Array CpInfo := pool [(1, .methodref 2 3), (0, .class_ 4), (0, .nameAndType 5 6), (0, u "java/lang/Object"), (0, u "<init>"), (0, u "()V"), (0, .fieldref 8 9), (0, .class_ 10), (0, .nameAndType 11 12), (0, u "io/quintet/Alphabet"), (0, u "values"), (0, u "[B"), (0, .fieldref 8 14), (0, .nameAndType 15 16), (0, u "width"), (0, u "I"), (0, .fieldref 8 18), (0, .nameAndType 19 20), (0, u "characters"), (0, u "Ljava/lang/String;"), (0, .methodref 22 23), (0, .class_ 24), (0, .nameAndType 25 26), (0, u "java/util/Arrays"), (0, u "fill"), (0, u "([BB)V"), (0, .methodref 28 29), (0, .class_ 30), (0, .nameAndType 31 32), (0, u "java/lang/String"), (0, u "length"), (0, u "()I"), (0, .methodref 28 34), (0, .nameAndType 35 36), (0, u "charAt"), (0, u "(I)C"), (6, u "(ILjava/lang/String;)V"), (6, u "payloadLength"), (0, u "(I)I"), (47, u "LOWER_SPECIAL"), (0, u "Lio/quintet/Alphabet;"), (0, .class_ 102), (0, u "io/quintet/Form"), (0, u "LETTERS_AND_DIGITS")] 38

def k3c0 : Code := { maxStack := 3, maxLocals := 4, code := prog_1_method_1_code, exceptionTable := #[], attributes := #[] }
def k3m0 : Method := { name := "<init>", desc := "(ILjava/lang/String;)V", sig := { parameters := [.int, (.object "java/lang/String")], returnType := none }, accessFlags := 0, code := some k3c0 }
def k3c1 : Code := { maxStack := 2, maxLocals := 2, code := prog_1_method_6_code, exceptionTable := #[], attributes := #[] }
def k3m1 : Method := { name := "payloadLength", desc := "(I)I", sig := { parameters := [.int], returnType := some .int }, accessFlags := 0, code := some k3c1 }
/-- io/quintet/Alphabet -/
def k3 : Class := { plain "io/quintet/Alphabet" (some 0) with
  accessFlags := 48
  interfaces := #[2]
  cf := some (fileOf pool3 8 #[] #[{ accessFlags := 0, nameIndex := 5, descriptorIndex := 43, attributes := #[] }, { accessFlags := 0, nameIndex := 50, descriptorIndex := 51, attributes := #[] }] 48 2 #[101] #[{ accessFlags := 24, nameIndex := 99, descriptorIndex := 100, attributes := #[] }, { accessFlags := 26, nameIndex := 103, descriptorIndex := 20, attributes := #[] }, { accessFlags := 18, nameIndex := 15, descriptorIndex := 16, attributes := #[] }, { accessFlags := 18, nameIndex := 19, descriptorIndex := 20, attributes := #[] }, { accessFlags := 18, nameIndex := 11, descriptorIndex := 12, attributes := #[] }])
  fields := #[{ name := "LOWER_SPECIAL", type := (.object "io/quintet/Alphabet"), accessFlags := 24, slot := 0, constantValue := 0 }, { name := "LETTERS_AND_DIGITS", type := (.object "java/lang/String"), accessFlags := 26, slot := 1, constantValue := 0 }, { name := "width", type := .int, accessFlags := 18, slot := 0, constantValue := 0 }, { name := "characters", type := (.object "java/lang/String"), accessFlags := 18, slot := 1, constantValue := 0 }, { name := "values", type := (.array .byte), accessFlags := 18, slot := 2, constantValue := 0 }]
  methods := #[k3m0, k3m1]
  instanceTypes := #[.int, (.object "java/lang/String"), (.array .byte)]
  staticTypes := #[(.object "io/quintet/Alphabet"), (.object "java/lang/String")]
  resolved := Array.replicate 142 none
  statics := none }

def pool4 : Array CpInfo := pool [(1, .class_ 2), (0, u "java/io/Serializable"), (0, .class_ 4), (0, u "java/lang/Object")] 2

/-- java/io/Serializable -/
def k4 : Class := { plain "java/io/Serializable" (some 0) with
  accessFlags := 1537
  interfaces := #[]
  cf := some (fileOf pool4 1 #[] #[] 1537 3 #[] #[])
  fields := #[]
  methods := #[]
  instanceTypes := #[]
  staticTypes := #[]
  resolved := Array.replicate 7 none
  statics := none }

def pool5 : Array CpInfo := pool [(1, .class_ 2), (0, u "java/lang/Comparable"), (0, .class_ 4), (0, u "java/lang/Object")] 7

/-- java/lang/Comparable -/
def k5 : Class := { plain "java/lang/Comparable" (some 0) with
  accessFlags := 1537
  interfaces := #[]
  cf := some (fileOf pool5 1 #[] #[] 1537 3 #[] #[])
  fields := #[]
  methods := #[]
  instanceTypes := #[]
  staticTypes := #[]
  resolved := Array.replicate 12 none
  statics := none }

def pool6 : Array CpInfo := pool [(2, .class_ 4), (1, u "java/lang/CharSequence"), (42, .class_ 48), (0, u "java/lang/CharSequence$1CodePointIterator"), (10, .class_ 60), (0, u "java/lang/CharSequence$1CharIterator"), (5, .class_ 67), (0, u "java/lang/Object")] 63

/-- java/lang/CharSequence -/
def k6 : Class := { plain "java/lang/CharSequence" (some 0) with
  accessFlags := 1537
  interfaces := #[]
  cf := some (fileOf pool6 2 #[.nestMembers #[47, 59]] #[] 1537 66 #[] #[])
  fields := #[]
  methods := #[]
  instanceTypes := #[]
  staticTypes := #[]
  resolved := Array.replicate 131 none
  statics := none }

def pool7 : Array CpInfo := pool [(1, .class_ 2), (0, u "java/lang/constant/Constable"), (0, .class_ 4), (0, u "java/lang/Object")] 6

/-- java/lang/constant/Constable -/
def k7 : Class := { plain "java/lang/constant/Constable" (some 0) with
  accessFlags := 1537
  interfaces := #[]
  cf := some (fileOf pool7 1 #[] #[] 1537 3 #[] #[])
  fields := #[]
  methods := #[]
  instanceTypes := #[]
  staticTypes := #[]
  resolved := Array.replicate 11 none
  statics := none }

def pool8 : Array CpInfo := pool [(1, .class_ 2), (0, u "java/lang/constant/ConstantDesc"), (0, .class_ 4), (0, u "java/lang/Object")] 32

/-- java/lang/constant/ConstantDesc -/
def k8 : Class := { plain "java/lang/constant/ConstantDesc" (some 0) with
  accessFlags := 1537
  interfaces := #[]
  cf := some (fileOf pool8 1 #[] #[] 1537 3 #[] #[])
  fields := #[]
  methods := #[]
  instanceTypes := #[]
  staticTypes := #[]
  resolved := Array.replicate 37 none
  statics := none }

def pool9 : Array CpInfo := pool [(2, .class_ 4), (1, u "java/lang/Object"), (0, u "<init>"), (0, u "()V"), (2, .fieldref 10 11), (0, .class_ 12), (0, .nameAndType 13 14), (0, u "java/lang/String"), (0, u "value"), (0, u "[B"), (0, .fieldref 10 16), (0, .nameAndType 17 18), (0, u "coder"), (0, u "B"), (2, u "hash"), (0, u "I"), (2, u "hashIsZero"), (0, u "Z"), (11, .fieldref 10 39), (0, .nameAndType 40 26), (0, u "COMPACT_STRINGS"), (66, .class_ 109), (1, u "java/lang/StringLatin1"), (32, u "()Z"), (191, u "()I"), (0, .methodref 10 336), (0, .nameAndType 17 337), (0, u "()B"), (25, u "([BI)C"), (27, u "(II)V"), (35, u "(I)C"), (64, .methodref 10 493), (0, .nameAndType 494 142), (0, u "isLatin1"), (0, .methodref 107 496), (0, .nameAndType 497 363), (0, u "charAt"), (3, u "checkIndex"), (5, u "length"), (67, .class_ 576), (0, u "java/lang/CharSequence"), (22, u "CASE_INSENSITIVE_ORDER"), (0, u "Ljava/util/Comparator;"), (452, .fieldref 1054 1055), (0, .class_ 1056), (0, .nameAndType 1057 1058), (0, u "jdk/internal/util/Preconditions"), (0, u "SIOOBE_FORMATTER"), (0, u "Ljava/util/function/BiFunction;"), (0, .methodref 1054 1060), (0, .nameAndType 501 1061), (0, u "(IILjava/util/function/BiFunction;)I"), (39, u "serialPersistentFields"), (0, u "[Ljava/io/ObjectStreamField;"), (0, .class_ 1104), (0, u "java/lang/String$CaseInsensitiveComparator"), (1, .class_ 1107), (0, u "java/io/Serializable"), (0, .class_ 1109), (0, u "java/lang/Comparable"), (0, .class_ 1111), (0, u "java/lang/constant/Constable"), (0, .class_ 1113), (0, u "java/lang/constant/ConstantDesc"), (2, u "serialVersionUID"), (0, u "J"), (3, u "REPL"), (0, u "C"), (2, u "LATIN1"), (1, u "UTF16")] 323

def k9m0 : Method := { name := "<init>", desc := "()V", sig := { parameters := [], returnType := none }, accessFlags := 1, code := none }
def k9c1 : Code := { maxStack := 2, maxLocals := 1, code := jdk_42_method_54_code, exceptionTable := #[], attributes := #[] }
def k9m1 : Method := { name := "length", desc := "()I", sig := { parameters := [], returnType := some .int }, accessFlags := 1, code := some k9c1 }
def k9c2 : Code := { maxStack := 2, maxLocals := 2, code := jdk_42_method_56_code, exceptionTable := #[], attributes := #[] }
def k9m2 : Method := { name := "charAt", desc := "(I)C", sig := { parameters := [.int], returnType := some .char }, accessFlags := 1, code := some k9c2 }
def k9c3 : Code := { maxStack := 1, maxLocals := 1, code := jdk_42_method_152_code, exceptionTable := #[], attributes := #[] }
def k9m3 : Method := { name := "coder", desc := "()B", sig := { parameters := [], returnType := some .byte }, accessFlags := 0, code := some k9c3 }
def k9c4 : Code := { maxStack := 1, maxLocals := 1, code := jdk_42_method_154_code, exceptionTable := #[], attributes := #[] }
def k9m4 : Method := { name := "isLatin1", desc := "()Z", sig := { parameters := [], returnType := some .boolean }, accessFlags := 0, code := some k9c4 }
def k9c5 : Code := { maxStack := 3, maxLocals := 2, code := jdk_42_method_155_code, exceptionTable := #[], attributes := #[] }
def k9m5 : Method := { name := "checkIndex", desc := "(II)V", sig := { parameters := [.int, .int], returnType := none }, accessFlags := 8, code := some k9c5 }
/-- java/lang/String -/
def k9 : Class := { plain "java/lang/String" (some 0) with
  accessFlags := 49
  interfaces := #[4, 5, 6, 7, 8]
  cf := some (fileOf pool9 10 #[.nestMembers #[1103]] #[{ accessFlags := 1, nameIndex := 5, descriptorIndex := 6, attributes := #[] }, { accessFlags := 1, nameIndex := 507, descriptorIndex := 334, attributes := #[] }, { accessFlags := 1, nameIndex := 497, descriptorIndex := 427, attributes := #[] }, { accessFlags := 0, nameIndex := 17, descriptorIndex := 337, attributes := #[] }, { accessFlags := 0, nameIndex := 494, descriptorIndex := 142, attributes := #[] }, { accessFlags := 8, nameIndex := 501, descriptorIndex := 391, attributes := #[] }] 49 2 #[1106, 1108, 575, 1110, 1112] #[{ accessFlags := 18, nameIndex := 13, descriptorIndex := 14, attributes := #[] }, { accessFlags := 18, nameIndex := 17, descriptorIndex := 18, attributes := #[] }, { accessFlags := 2, nameIndex := 21, descriptorIndex := 22, attributes := #[] }, { accessFlags := 2, nameIndex := 25, descriptorIndex := 26, attributes := #[] }, { accessFlags := 26, nameIndex := 1116, descriptorIndex := 1117, attributes := #[] }, { accessFlags := 24, nameIndex := 40, descriptorIndex := 26, attributes := #[] }, { accessFlags := 26, nameIndex := 1101, descriptorIndex := 1102, attributes := #[] }, { accessFlags := 26, nameIndex := 1121, descriptorIndex := 1122, attributes := #[] }, { accessFlags := 25, nameIndex := 599, descriptorIndex := 600, attributes := #[] }, { accessFlags := 24, nameIndex := 1125, descriptorIndex := 18, attributes := #[] }, { accessFlags := 24, nameIndex := 1127, descriptorIndex := 18, attributes := #[] }])
  fields := #[{ name := "value", type := (.array .byte), accessFlags := 18, slot := 0, constantValue := 0 }, { name := "coder", type := .byte, accessFlags := 18, slot := 1, constantValue := 0 }, { name := "hash", type := .int, accessFlags := 2, slot := 2, constantValue := 0 }, { name := "hashIsZero", type := .boolean, accessFlags := 2, slot := 3, constantValue := 0 }, { name := "serialVersionUID", type := .long, accessFlags := 26, slot := 0, constantValue := 0 }, { name := "COMPACT_STRINGS", type := .boolean, accessFlags := 24, slot := 1, constantValue := 0 }, { name := "serialPersistentFields", type := (.array (.object "java/io/ObjectStreamField")), accessFlags := 26, slot := 2, constantValue := 0 }, { name := "REPL", type := .char, accessFlags := 26, slot := 3, constantValue := 0 }, { name := "CASE_INSENSITIVE_ORDER", type := (.object "java/util/Comparator"), accessFlags := 25, slot := 4, constantValue := 0 }, { name := "LATIN1", type := .byte, accessFlags := 24, slot := 5, constantValue := 0 }, { name := "UTF16", type := .byte, accessFlags := 24, slot := 6, constantValue := 0 }]
  methods := #[k9m0, k9m1, k9m2, k9m3, k9m4, k9m5]
  instanceTypes := #[(.array .byte), .byte, .int, .boolean]
  staticTypes := #[.long, .boolean, (.array (.object "java/io/ObjectStreamField")), .char, (.object "java/util/Comparator"), .byte, .byte]
  resolved := Array.replicate 1451 none
  statics := some 0 }

def pool10 : Array CpInfo := pool [(2, .class_ 4), (1, u "java/lang/Object"), (0, u "<init>"), (0, u "()V"), (7, .class_ 16), (1, u "java/util/Arrays"), (57, .class_ 76), (1, u "java/util/Arrays$NaturalOrder"), (36, .class_ 115), (1, u "java/util/Arrays$LegacyMergeSort"), (1, u "Z"), (257, .class_ 376), (0, u "java/util/Arrays$ArrayList"), (68, u "$assertionsDisabled"), (269, u "MIN_ARRAY_SORT_GRAN"), (0, u "I"), (2, u "INSERTIONSORT_THRESHOLD"), (120, u "fill"), (9, u "([BB)V"), (124, .class_ 976), (0, u "java/util/Arrays$ArrayItr")] 52

def k10m0 : Method := { name := "<init>", desc := "()V", sig := { parameters := [], returnType := none }, accessFlags := 2, code := none }
def k10c1 : Code := { maxStack := 3, maxLocals := 4, code := jdk_65_method_109_code, exceptionTable := #[], attributes := #[] }
def k10m1 : Method := { name := "fill", desc := "([BB)V", sig := { parameters := [(.array .byte), .byte], returnType := none }, accessFlags := 9, code := some k10c1 }
/-- java/util/Arrays -/
def k10 : Class := { plain "java/util/Arrays" (some 0) with
  accessFlags := 49
  interfaces := #[]
  cf := some (fileOf pool10 14 #[.nestMembers #[975, 375, 113, 74]] #[{ accessFlags := 2, nameIndex := 5, descriptorIndex := 6, attributes := #[] }, { accessFlags := 9, nameIndex := 840, descriptorIndex := 850, attributes := #[] }] 49 2 #[] #[{ accessFlags := 26, nameIndex := 715, descriptorIndex := 716, attributes := #[] }, { accessFlags := 26, nameIndex := 719, descriptorIndex := 716, attributes := #[] }, { accessFlags := 4120, nameIndex := 445, descriptorIndex := 117, attributes := #[] }])
  fields := #[{ name := "MIN_ARRAY_SORT_GRAN", type := .int, accessFlags := 26, slot := 0, constantValue := 0 }, { name := "INSERTIONSORT_THRESHOLD", type := .int, accessFlags := 26, slot := 1, constantValue := 0 }, { name := "$assertionsDisabled", type := .boolean, accessFlags := 4120, slot := 2, constantValue := 0 }]
  methods := #[k10m0, k10m1]
  instanceTypes := #[]
  staticTypes := #[.int, .int, .boolean]
  resolved := Array.replicate 1029 none
  statics := none }

def pool11 : Array CpInfo := pool [(1, .class_ 2), (0, u "java/lang/String"), (1, .class_ 6), (1, u "java/lang/Object"), (0, u "<init>"), (0, u "()V"), (0, .methodref 1 10), (0, .nameAndType 11 12), (0, u "checkIndex"), (0, u "(II)V"), (1, .class_ 16), (1, u "java/lang/StringLatin1"), (36, u "([BI)C"), (67, u "$assertionsDisabled"), (0, u "Z"), (98, .class_ 223), (1, u "java/lang/StringLatin1$LinesSpliterator"), (28, u "charAt"), (137, .class_ 391), (0, u "java/lang/StringLatin1$CharsSpliterator")] 3

def k11m0 : Method := { name := "<init>", desc := "()V", sig := { parameters := [], returnType := none }, accessFlags := 0, code := none }
def k11c1 : Code := { maxStack := 2, maxLocals := 2, code := jdk_43_method_2_code, exceptionTable := #[], attributes := #[] }
def k11m1 : Method := { name := "charAt", desc := "([BI)C", sig := { parameters := [(.array .byte), .int], returnType := some .char }, accessFlags := 9, code := some k11c1 }
/-- java/lang/StringLatin1 -/
def k11 : Class := { plain "java/lang/StringLatin1" (some 0) with
  accessFlags := 48
  interfaces := #[]
  cf := some (fileOf pool11 14 #[.nestMembers #[390, 221]] #[{ accessFlags := 0, nameIndex := 7, descriptorIndex := 8, attributes := #[] }, { accessFlags := 9, nameIndex := 252, descriptorIndex := 53, attributes := #[] }] 48 4 #[] #[{ accessFlags := 4120, nameIndex := 121, descriptorIndex := 122, attributes := #[] }])
  fields := #[{ name := "$assertionsDisabled", type := .boolean, accessFlags := 4120, slot := 0, constantValue := 0 }]
  methods := #[k11m0, k11m1]
  instanceTypes := #[]
  staticTypes := #[.boolean]
  resolved := Array.replicate 395 none
  statics := none }

def pool12 : Array CpInfo := pool [(2, .class_ 4), (1, u "java/lang/Object"), (0, u "<init>"), (0, u "()V"), (17, .class_ 26), (1, u "jdk/internal/util/Preconditions"), (6, u "checkIndex"), (21, .class_ 56), (0, u "jdk/internal/util/Preconditions$4"), (57, .class_ 115), (0, u "jdk/internal/util/Preconditions$1"), (7, u "SIOOBE_FORMATTER"), (0, u "Ljava/util/function/BiFunction;"), (0, .class_ 126), (0, u "jdk/internal/util/Preconditions$2"), (3, u "AIOOBE_FORMATTER"), (0, .class_ 132), (0, u "jdk/internal/util/Preconditions$3"), (3, u "IOOBE_FORMATTER"), (41, u "(IILjava/util/function/BiFunction;)I")] 15

def k12m0 : Method := { name := "<init>", desc := "()V", sig := { parameters := [], returnType := none }, accessFlags := 1, code := none }
def k12c1 : Code := { maxStack := 3, maxLocals := 3, code := jdk_41_method_11_code, exceptionTable := #[], attributes := #[] }
def k12m1 : Method := { name := "checkIndex", desc := "(IILjava/util/function/BiFunction;)I", sig := { parameters := [.int, .int, (.object "java/util/function/BiFunction")], returnType := some .int }, accessFlags := 9, code := some k12c1 }
/-- jdk/internal/util/Preconditions -/
def k12 : Class := { plain "jdk/internal/util/Preconditions" (some 0) with
  accessFlags := 33
  interfaces := #[]
  cf := some (fileOf pool12 24 #[.nestMembers #[55, 131, 125, 114]] #[{ accessFlags := 1, nameIndex := 5, descriptorIndex := 6, attributes := #[] }, { accessFlags := 9, nameIndex := 33, descriptorIndex := 178, attributes := #[] }] 33 2 #[] #[{ accessFlags := 25, nameIndex := 123, descriptorIndex := 124, attributes := #[] }, { accessFlags := 25, nameIndex := 130, descriptorIndex := 124, attributes := #[] }, { accessFlags := 25, nameIndex := 136, descriptorIndex := 124, attributes := #[] }])
  fields := #[{ name := "SIOOBE_FORMATTER", type := (.object "java/util/function/BiFunction"), accessFlags := 25, slot := 0, constantValue := 0 }, { name := "AIOOBE_FORMATTER", type := (.object "java/util/function/BiFunction"), accessFlags := 25, slot := 1, constantValue := 0 }, { name := "IOOBE_FORMATTER", type := (.object "java/util/function/BiFunction"), accessFlags := 25, slot := 2, constantValue := 0 }]
  methods := #[k12m0, k12m1]
  instanceTypes := #[]
  staticTypes := #[(.object "java/util/function/BiFunction"), (.object "java/util/function/BiFunction"), (.object "java/util/function/BiFunction")]
  resolved := Array.replicate 194 none
  statics := some 1 }

def pool13 : Array CpInfo := pool [(9, u "<init>"), (6, .class_ 18), (1, u "java/lang/Object"), (0, u "()V"), (1, .class_ 23), (1, u "jdk/internal/util/ArraysSupport"), (0, u "LOG2_ARRAY_LONG_INDEX_SCALE"), (0, u "I"), (2, u "U"), (0, u "Ljdk/internal/misc/Unsafe;"), (8, u "BIG_ENDIAN"), (0, u "Z"), (8, u "LOG2_BYTE_BIT_SIZE"), (4, u "LOG2_ARRAY_INT_INDEX_SCALE"), (54, u "JLA"), (0, u "Ljdk/internal/access/JavaLangAccess;"), (11, u "LOG2_ARRAY_BOOLEAN_INDEX_SCALE"), (9, u "LOG2_ARRAY_BYTE_INDEX_SCALE"), (5, u "LOG2_ARRAY_CHAR_INDEX_SCALE"), (5, u "LOG2_ARRAY_SHORT_INDEX_SCALE"), (18, u "LOG2_ARRAY_FLOAT_INDEX_SCALE"), (24, u "LOG2_ARRAY_DOUBLE_INDEX_SCALE"), (89, u "T_BOOLEAN"), (2, u "T_CHAR"), (1, u "T_FLOAT"), (1, u "T_DOUBLE"), (1, u "T_BYTE"), (1, u "T_SHORT"), (1, u "T_INT"), (1, u "T_LONG"), (1, u "SOFT_MAX_ARRAY_LENGTH")] 83

def k13m0 : Method := { name := "<init>", desc := "()V", sig := { parameters := [], returnType := none }, accessFlags := 2, code := none }
/-- jdk/internal/util/ArraysSupport -/
def k13 : Class := { plain "jdk/internal/util/ArraysSupport" (some 0) with
  accessFlags := 33
  interfaces := #[]
  cf := some (fileOf pool13 21 #[] #[{ accessFlags := 2, nameIndex := 9, descriptorIndex := 19, attributes := #[] }] 33 16 #[] #[{ accessFlags := 24, nameIndex := 28, descriptorIndex := 29, attributes := #[] }, { accessFlags := 26, nameIndex := 38, descriptorIndex := 39, attributes := #[] }, { accessFlags := 25, nameIndex := 121, descriptorIndex := 25, attributes := #[] }, { accessFlags := 25, nameIndex := 131, descriptorIndex := 25, attributes := #[] }, { accessFlags := 25, nameIndex := 137, descriptorIndex := 25, attributes := #[] }, { accessFlags := 25, nameIndex := 143, descriptorIndex := 25, attributes := #[] }, { accessFlags := 25, nameIndex := 53, descriptorIndex := 25, attributes := #[] }, { accessFlags := 25, nameIndex := 24, descriptorIndex := 25, attributes := #[] }, { accessFlags := 25, nameIndex := 162, descriptorIndex := 25, attributes := #[] }, { accessFlags := 25, nameIndex := 187, descriptorIndex := 25, attributes := #[] }, { accessFlags := 26, nameIndex := 48, descriptorIndex := 25, attributes := #[] }, { accessFlags := 25, nameIndex := 277, descriptorIndex := 25, attributes := #[] }, { accessFlags := 25, nameIndex := 280, descriptorIndex := 25, attributes := #[] }, { accessFlags := 25, nameIndex := 282, descriptorIndex := 25, attributes := #[] }, { accessFlags := 25, nameIndex := 284, descriptorIndex := 25, attributes := #[] }, { accessFlags := 25, nameIndex := 286, descriptorIndex := 25, attributes := #[] }, { accessFlags := 25, nameIndex := 288, descriptorIndex := 25, attributes := #[] }, { accessFlags := 25, nameIndex := 290, descriptorIndex := 25, attributes := #[] }, { accessFlags := 25, nameIndex := 292, descriptorIndex := 25, attributes := #[] }, { accessFlags := 26, nameIndex := 108, descriptorIndex := 109, attributes := #[] }, { accessFlags := 25, nameIndex := 294, descriptorIndex := 25, attributes := #[] }])
  fields := #[{ name := "U", type := (.object "jdk/internal/misc/Unsafe"), accessFlags := 24, slot := 0, constantValue := 0 }, { name := "BIG_ENDIAN", type := .boolean, accessFlags := 26, slot := 1, constantValue := 0 }, { name := "LOG2_ARRAY_BOOLEAN_INDEX_SCALE", type := .int, accessFlags := 25, slot := 2, constantValue := 0 }, { name := "LOG2_ARRAY_BYTE_INDEX_SCALE", type := .int, accessFlags := 25, slot := 3, constantValue := 0 }, { name := "LOG2_ARRAY_CHAR_INDEX_SCALE", type := .int, accessFlags := 25, slot := 4, constantValue := 0 }, { name := "LOG2_ARRAY_SHORT_INDEX_SCALE", type := .int, accessFlags := 25, slot := 5, constantValue := 0 }, { name := "LOG2_ARRAY_INT_INDEX_SCALE", type := .int, accessFlags := 25, slot := 6, constantValue := 0 }, { name := "LOG2_ARRAY_LONG_INDEX_SCALE", type := .int, accessFlags := 25, slot := 7, constantValue := 0 }, { name := "LOG2_ARRAY_FLOAT_INDEX_SCALE", type := .int, accessFlags := 25, slot := 8, constantValue := 0 }, { name := "LOG2_ARRAY_DOUBLE_INDEX_SCALE", type := .int, accessFlags := 25, slot := 9, constantValue := 0 }, { name := "LOG2_BYTE_BIT_SIZE", type := .int, accessFlags := 26, slot := 10, constantValue := 0 }, { name := "T_BOOLEAN", type := .int, accessFlags := 25, slot := 11, constantValue := 0 }, { name := "T_CHAR", type := .int, accessFlags := 25, slot := 12, constantValue := 0 }, { name := "T_FLOAT", type := .int, accessFlags := 25, slot := 13, constantValue := 0 }, { name := "T_DOUBLE", type := .int, accessFlags := 25, slot := 14, constantValue := 0 }, { name := "T_BYTE", type := .int, accessFlags := 25, slot := 15, constantValue := 0 }, { name := "T_SHORT", type := .int, accessFlags := 25, slot := 16, constantValue := 0 }, { name := "T_INT", type := .int, accessFlags := 25, slot := 17, constantValue := 0 }, { name := "T_LONG", type := .int, accessFlags := 25, slot := 18, constantValue := 0 }, { name := "JLA", type := (.object "jdk/internal/access/JavaLangAccess"), accessFlags := 26, slot := 19, constantValue := 0 }, { name := "SOFT_MAX_ARRAY_LENGTH", type := .int, accessFlags := 25, slot := 20, constantValue := 0 }]
  methods := #[k13m0]
  instanceTypes := #[]
  staticTypes := #[(.object "jdk/internal/misc/Unsafe"), .boolean, .int, .int, .int, .int, .int, .int, .int, .int, .int, .int, .int, .int, .int, .int, .int, .int, .int, (.object "jdk/internal/access/JavaLangAccess"), .int]
  resolved := Array.replicate 378 none
  statics := none }

def pool14 : Array CpInfo := pool [(1, u "java/lang/Cloneable"), (0, .class_ 1), (0, u "java/lang/Object"), (0, .class_ 3)] 3

/-- java/lang/Cloneable -/
def k14 : Class := { plain "java/lang/Cloneable" (some 0) with
  accessFlags := 1537
  interfaces := #[]
  cf := some (fileOf pool14 2 #[] #[] 1537 4 #[] #[])
  fields := #[]
  methods := #[]
  instanceTypes := #[]
  staticTypes := #[]
  resolved := Array.replicate 8 none
  statics := none }

/-- the primitive byte -/
def k15 : Class := { plain "byte" none with kind := .primitive 'B', accessFlags := 0x411 }
/-- [B -/
def k16 : Class := { plain "[B" (some 0) with kind := .array 15 .byte, interfaces := #[14, 4], accessFlags := 1041 }

/-- the primitive int -/
def k17 : Class := { plain "int" none with kind := .primitive 'I', accessFlags := 0x411 }
/-- [I -/
def k18 : Class := { plain "[I" (some 0) with kind := .array 17 .int, interfaces := #[14, 4], accessFlags := 1041 }

def heap : Heap := #[{ cls := 9, slots := #[.long 0, .int 1, .null, .int 0, .null, .int 0, .int 0], vm := .statics 9 },
  { cls := 12, slots := #[.null, .null, .null], vm := .statics 12 }]
def classes : Array Class := #[k0, k1, k2, k3, k4, k5, k6, k7, k8, k9, k10, k11, k12, k13, k14, k15, k16, k17, k18]
def interned : List (Array UInt16 × Addr) := []
def slotsUsed : Nat := 10
def theMethod : MethodId := ⟨1, 1⟩
def args0 : Array Value := #[.int 3, .int 1]
def aboutOver (below : List Frame) : State where
  vm := { classes := classes, interned := interned.toArray }
  heap := heap
  slotsUsed := slotsUsed
  threads := #[{ frames := .invoking theMethod args0 :: below }]
def below0 : List Frame := [.native { method := ⟨0, 0⟩, args := #[] }]
def about1 : State := aboutOver below0
def p0 : Program := .bare "" "" ""
def e0 : Env := launch0.env 0 0 0
theorem w_frames : about1.frames = Frame.invoking theMethod args0 :: below0 := rfl
set_option maxRecDepth 65536 in
theorem w_args : argsFit about1.vm theMethod args0 = true := by decide +kernel
set_option maxRecDepth 65536 in
theorem w_heap : heapFits about1 = true := by decide +kernel
set_option maxRecDepth 65536 in
theorem w_runnable : about1.curStatus? = some .runnable := by decide +kernel
set_option maxRecDepth 65536 in
theorem w_alone : about1.alone = true := by decide +kernel
set_option maxRecDepth 65536 in
theorem w_named : about1.methodNamed? x = some theMethod := by decide +kernel
set_option maxRecDepth 65536 in
theorem w_hears : about1.hears theMethod below0 = true := by decide +kernel
set_option maxRecDepth 65536 in
theorem w_ripe : about1.ripe theMethod args0 below0 = true := by decide +kernel
theorem w_running : about1.status = .running := rfl
set_option maxRecDepth 65536 in
theorem w_room : about1.hasRoom e0.platform room_1 = true :=
  launch0.hasRoom_least _ room_1 (by decide +kernel) (by decide +kernel) (by decide +kernel) (by decide +kernel) (by decide +kernel) (by decide +kernel)
theorem allAtoms_all (ts : List Jvm.Cond) (a : Array Jvm.Value) (st : Jvm.State) : (allAtoms ts).before a st = ts.all (fun c => c.before a st) := by
  induction ts with
  | nil => rfl
  | cons c t ih =>
    show (Jvm.Cond.and c (allAtoms t)).before a st = _
    rw [Jvm.Cond.before_and, ih, List.all_cons]
def words1 : List Jvm.Cond := Jvm.Cond.code x code maxLocals ret :: tables_1
/-- a 'code' word, met by the world's own term for the bytes: nothing is compared byte by byte -/
theorem code_word {y : MethodName} {bytes : ByteArray} {mx : Nat} {rt : Option FieldType} {a : Array Value} {s : State} {m : MethodId} {meth : Method} {c : Code} (h1 : s.methodNamed? y = some m) (h2 : s.vm.method? m = some meth) (h3 : meth.code = some c) (h4 : c.code = bytes)
    (h5 : (c.maxLocals == mx && c.exceptionTable.isEmpty && decide (c.maxStack ≤ mostOperands) && decide (meth.sig.returnType = rt) && !meth.locks && decide (parseMethodDescriptor y.desc = some meth.sig)) = true) : (Jvm.Cond.code y bytes mx rt).before a s = true := by
  simp only [Bool.and_eq_true, beq_iff_eq, Bool.not_eq_true', decide_eq_true_eq] at h5
  obtain ⟨⟨⟨⟨⟨g1, g2⟩, g3⟩, g4⟩, g5⟩, g6⟩ := h5
  simp [Cond.before, Cond.holds, Cond.value, h1, h2, h3, h4, g1, g2, g3, g4, g5, g6]
def isCode : Jvm.Cond → Bool
  | .code _ _ _ _ => true
  | _ => false
theorem all_split {L : List Jvm.Cond} {P : Jvm.Cond → Bool} (h1 : L.all (fun c => isCode c || P c) = true) (h2 : ∀ c ∈ L.filter isCode, P c = true) : L.all P = true := by
  refine List.all_eq_true.mpr fun c hc => ?_
  have h := List.all_eq_true.mp h1 c hc
  rcases Bool.eq_false_or_eq_true (isCode c) with hi | hi
  · exact h2 c (List.mem_filter.mpr ⟨hc, hi⟩)
  · simpa [hi] using h
set_option maxRecDepth 65536 in
theorem w_c0 : (Jvm.Cond.code x code maxLocals ret).before args0 about1 = true := code_word (m := ⟨1, 1⟩) (meth := k1m1) (c := k1c1) (by decide +kernel) rfl rfl rfl (by decide +kernel)
set_option maxRecDepth 65536 in
theorem w_c1 : (Jvm.Cond.code ({ cls := "io/quintet/Alphabet", name := "<init>", desc := "(ILjava/lang/String;)V" } : Jvm.MethodName) prog_1_method_1_code (4 : Nat) (Option.none : Option Jvm.ClassFile.FieldType)).before args0 about1 = true := code_word (m := ⟨3, 0⟩) (meth := k3m0) (c := k3c0) (by decide +kernel) rfl rfl rfl (by decide +kernel)
set_option maxRecDepth 65536 in
theorem w_c2 : (Jvm.Cond.code ({ cls := "java/lang/Object", name := "<init>", desc := "()V" } : Jvm.MethodName) object_method_1_code (1 : Nat) (Option.none : Option Jvm.ClassFile.FieldType)).before args0 about1 = true := code_word (m := ⟨0, 0⟩) (meth := k0m0) (c := k0c0) (by decide +kernel) rfl rfl rfl (by decide +kernel)
set_option maxRecDepth 65536 in
theorem w_c3 : (Jvm.Cond.code ({ cls := "java/util/Arrays", name := "fill", desc := "([BB)V" } : Jvm.MethodName) jdk_65_method_109_code (4 : Nat) (Option.none : Option Jvm.ClassFile.FieldType)).before args0 about1 = true := code_word (m := ⟨10, 1⟩) (meth := k10m1) (c := k10c1) (by decide +kernel) rfl rfl rfl (by decide +kernel)
set_option maxRecDepth 65536 in
theorem w_c4 : (Jvm.Cond.code ({ cls := "java/lang/String", name := "length", desc := "()I" } : Jvm.MethodName) jdk_42_method_54_code (1 : Nat) (Option.some Jvm.ClassFile.FieldType.int)).before args0 about1 = true := code_word (m := ⟨9, 1⟩) (meth := k9m1) (c := k9c1) (by decide +kernel) rfl rfl rfl (by decide +kernel)
set_option maxRecDepth 65536 in
theorem w_c5 : (Jvm.Cond.code ({ cls := "java/lang/String", name := "coder", desc := "()B" } : Jvm.MethodName) jdk_42_method_152_code (1 : Nat) (Option.some Jvm.ClassFile.FieldType.byte)).before args0 about1 = true := code_word (m := ⟨9, 3⟩) (meth := k9m3) (c := k9c3) (by decide +kernel) rfl rfl rfl (by decide +kernel)
set_option maxRecDepth 65536 in
theorem w_c6 : (Jvm.Cond.code ({ cls := "java/lang/String", name := "charAt", desc := "(I)C" } : Jvm.MethodName) jdk_42_method_56_code (2 : Nat) (Option.some Jvm.ClassFile.FieldType.char)).before args0 about1 = true := code_word (m := ⟨9, 2⟩) (meth := k9m2) (c := k9c2) (by decide +kernel) rfl rfl rfl (by decide +kernel)
set_option maxRecDepth 65536 in
theorem w_c7 : (Jvm.Cond.code ({ cls := "java/lang/String", name := "isLatin1", desc := "()Z" } : Jvm.MethodName) jdk_42_method_154_code (1 : Nat) (Option.some Jvm.ClassFile.FieldType.boolean)).before args0 about1 = true := code_word (m := ⟨9, 4⟩) (meth := k9m4) (c := k9c4) (by decide +kernel) rfl rfl rfl (by decide +kernel)
set_option maxRecDepth 65536 in
theorem w_c8 : (Jvm.Cond.code ({ cls := "java/lang/StringLatin1", name := "charAt", desc := "([BI)C" } : Jvm.MethodName) jdk_43_method_2_code (2 : Nat) (Option.some Jvm.ClassFile.FieldType.char)).before args0 about1 = true := code_word (m := ⟨11, 1⟩) (meth := k11m1) (c := k11c1) (by decide +kernel) rfl rfl rfl (by decide +kernel)
set_option maxRecDepth 65536 in
theorem w_c9 : (Jvm.Cond.code ({ cls := "java/lang/String", name := "checkIndex", desc := "(II)V" } : Jvm.MethodName) jdk_42_method_155_code (2 : Nat) (Option.none : Option Jvm.ClassFile.FieldType)).before args0 about1 = true := code_word (m := ⟨9, 5⟩) (meth := k9m5) (c := k9c5) (by decide +kernel) rfl rfl rfl (by decide +kernel)
set_option maxRecDepth 65536 in
theorem w_c10 : (Jvm.Cond.code ({ cls := "jdk/internal/util/Preconditions", name := "checkIndex", desc := "(IILjava/util/function/BiFunction;)I" } : Jvm.MethodName) jdk_41_method_11_code (3 : Nat) (Option.some Jvm.ClassFile.FieldType.int)).before args0 about1 = true := code_word (m := ⟨12, 1⟩) (meth := k12m1) (c := k12c1) (by decide +kernel) rfl rfl rfl (by decide +kernel)
set_option maxRecDepth 65536 in
theorem w_c11 : (Jvm.Cond.code ({ cls := "io/quintet/Alphabet", name := "payloadLength", desc := "(I)I" } : Jvm.MethodName) prog_1_method_6_code (2 : Nat) (Option.some Jvm.ClassFile.FieldType.int)).before args0 about1 = true := code_word (m := ⟨3, 1⟩) (meth := k3m1) (c := k3c1) (by decide +kernel) rfl rfl rfl (by decide +kernel)
def codes1 : List Jvm.Cond := [Jvm.Cond.code x code maxLocals ret, Jvm.Cond.code ({ cls := "io/quintet/Alphabet", name := "<init>", desc := "(ILjava/lang/String;)V" } : Jvm.MethodName) prog_1_method_1_code (4 : Nat) (Option.none : Option Jvm.ClassFile.FieldType), Jvm.Cond.code ({ cls := "java/lang/Object", name := "<init>", desc := "()V" } : Jvm.MethodName) object_method_1_code (1 : Nat) (Option.none : Option Jvm.ClassFile.FieldType), Jvm.Cond.code ({ cls := "java/util/Arrays", name := "fill", desc := "([BB)V" } : Jvm.MethodName) jdk_65_method_109_code (4 : Nat) (Option.none : Option Jvm.ClassFile.FieldType), Jvm.Cond.code ({ cls := "java/lang/String", name := "length", desc := "()I" } : Jvm.MethodName) jdk_42_method_54_code (1 : Nat) (Option.some Jvm.ClassFile.FieldType.int), Jvm.Cond.code ({ cls := "java/lang/String", name := "coder", desc := "()B" } : Jvm.MethodName) jdk_42_method_152_code (1 : Nat) (Option.some Jvm.ClassFile.FieldType.byte), Jvm.Cond.code ({ cls := "java/lang/String", name := "charAt", desc := "(I)C" } : Jvm.MethodName) jdk_42_method_56_code (2 : Nat) (Option.some Jvm.ClassFile.FieldType.char), Jvm.Cond.code ({ cls := "java/lang/String", name := "isLatin1", desc := "()Z" } : Jvm.MethodName) jdk_42_method_154_code (1 : Nat) (Option.some Jvm.ClassFile.FieldType.boolean), Jvm.Cond.code ({ cls := "java/lang/StringLatin1", name := "charAt", desc := "([BI)C" } : Jvm.MethodName) jdk_43_method_2_code (2 : Nat) (Option.some Jvm.ClassFile.FieldType.char), Jvm.Cond.code ({ cls := "java/lang/String", name := "checkIndex", desc := "(II)V" } : Jvm.MethodName) jdk_42_method_155_code (2 : Nat) (Option.none : Option Jvm.ClassFile.FieldType), Jvm.Cond.code ({ cls := "jdk/internal/util/Preconditions", name := "checkIndex", desc := "(IILjava/util/function/BiFunction;)I" } : Jvm.MethodName) jdk_41_method_11_code (3 : Nat) (Option.some Jvm.ClassFile.FieldType.int), Jvm.Cond.code ({ cls := "io/quintet/Alphabet", name := "payloadLength", desc := "(I)I" } : Jvm.MethodName) prog_1_method_6_code (2 : Nat) (Option.some Jvm.ClassFile.FieldType.int)]
set_option maxRecDepth 65536 in
theorem codes_eq : words1.filter isCode = codes1 := rfl
theorem w_codes : ∀ c ∈ words1.filter isCode, c.before args0 about1 = true := by
  rw [codes_eq]
  intro c hc
  simp only [codes1, List.mem_cons, List.not_mem_nil, or_false] at hc
  rcases hc with rfl | rfl | rfl | rfl | rfl | rfl | rfl | rfl | rfl | rfl | rfl | rfl
  · exact w_c0
  · exact w_c1
  · exact w_c2
  · exact w_c3
  · exact w_c4
  · exact w_c5
  · exact w_c6
  · exact w_c7
  · exact w_c8
  · exact w_c9
  · exact w_c10
  · exact w_c11
set_option maxRecDepth 65536 in
theorem w_t1 : (words1.take 24).all (fun c => isCode c || c.before args0 about1) = true := by decide +kernel
set_option maxRecDepth 65536 in
theorem w_t2 : ((words1.drop 24).take 24).all (fun c => isCode c || c.before args0 about1) = true := by decide +kernel
set_option maxRecDepth 65536 in
theorem w_t3 : ((words1.drop 24).drop 24).all (fun c => isCode c || c.before args0 about1) = true := by decide +kernel
theorem w_tables : (allAtoms (Jvm.Cond.code x code maxLocals ret :: tables_1)).before args0 about1 = true := by
  rw [allAtoms_all]
  show words1.all (fun c => c.before args0 about1) = true
  refine all_split ?_ w_codes
  rw [← List.take_append_drop 24 words1, List.all_append, w_t1, ← List.take_append_drop 24 (words1.drop 24), List.all_append, w_t2, w_t3]
  rfl
set_option maxRecDepth 65536 in
theorem w_rest : rest_1_c.before args0 about1 = true := by decide +kernel
set_option maxRecDepth 65536 in
theorem w_case : (Jvm.Cond.and given_1 narrow_1).before args0 about1 = true := by decide +kernel
set_option maxRecDepth 65536 in
theorem w_consts : constsHeld consts_1 about1 := Jvm.Lit.constsHeldB_iff.mp (by decide +kernel)
theorem w_applies : (headSpec (Jvm.Cond.code x code maxLocals ret :: tables_1) room_1).applies x e0.platform about1 = true :=
  (Spec.applies_iff w_frames).mpr ⟨w_running, w_runnable, w_alone, w_named, w_hears, w_ripe, w_room, w_tables⟩
theorem atStart : AtStart classFile x code maxLocals ret World_1 tables_1 room_1 Calls_1 rest_1 Pre_1 launch0 p0 e0 about1 theMethod args0 below0 :=
  ⟨lists_1, trivial, launch0.admits_env _ _ _, launch0.least_env, fairChoices_fair.cas, fairChoices_fair.clock, w_frames, w_args, w_heap, w_applies, ⟨w_consts, trivial⟩, w_rest, w_case⟩
end start1
theorem witness_1 : WitnessClaimed_1 := ⟨start1.p0, start1.e0, start1.about1, start1.theMethod, start1.args0, start1.below0, start1.atStart⟩
end Jvm.Pilot.@@N@@
