import JvmDerived
import JvmDerived.Pilot.@@N@@Statement
import JvmDerived.Pilot.@@N@@Code
set_option linter.unusedVariables false
set_option linter.unusedSimpArgs false
namespace Jvm.RoadKit
open Sem ClassFile Op Lib Jvm.Stand Jvm.Free Jvm.LawKit
section Own
variable {p : Program} {l : Launch} {e : Env} {R : Room} {s : State} {m : MethodId} {args : Array Value} {below : List Frame} {meth : Method} {c : Code} {T T' : State} {locs : List Loc} {cells slots rc rs : Nat} {Q : Option Value → Heap → List Loc → Prop} {g g' : JFrame}
/-- from the state T with the top frame g the run ends in a return of which Q is true -/
def OwnGo (p : Program) (e : Env) (below : List Frame) (s : State) (rc rs : Nat) (Q : Option Value → Heap → List Loc → Prop) (T : State) (g : JFrame) : Prop :=
  ∃ (U : State) (o : Outcome), Steps p.tables e below (T.setTop g) U ∧ U.status = .running ∧ Ended U below o ∧ ∃ v L, o = .returned v ∧ Q v U.heap L ∧ FrameEnd s o U L rc rs
theorem OwnGo.st (k : ∀ target, Steps p.tables e below (T'.setTop g') target → Steps p.tables e below (T.setTop g) target) (h : OwnGo p e below s rc rs Q T' g') : OwnGo p e below s rc rs Q T g := by
  obtain ⟨U, o, h1, h2⟩ := h
  exact ⟨U, o, k _ h1, h2⟩
theorem OwnGo.cast (q : g = g') (h : OwnGo p e below s rc rs Q T g') : OwnGo p e below s rc rs Q T g := q ▸ h
theorem OwnGo.ret (X : Stand p l e R s m args below meth c T locs cells slots) (hx : p.tables.exec = Jvm.exec) {pc : Nat} {Ls : Array Slot} {w : Value} {t : FieldType} {i : Instr} {rest : List Value} (hret : meth.sig.returnType = some t) (hlk : meth.locks = false) (hn : narrow t w = w)
    (hi : (i = .ireturn ∧ (t = .int ∨ t = .boolean ∨ t = .byte ∨ t = .char ∨ t = .short) ∧ ∃ z, w = .int z) ∨ (i = .lreturn ∧ t = .long ∧ ∃ z, w = .long z) ∨ (i = .dreturn ∧ t = .double ∧ ∃ z, w = .double z) ∨ (i = .freturn ∧ t = .float ∧ ∃ z, w = .float z) ∨ (i = .areturn ∧ t.isReference = true ∧ w.isRef = true))
    (hd : decode c.code pc = .ok (i, 1)) (hQ : Q (some w) T.heap locs) (hc : cells ≤ rc) (hs : slots ≤ rs) : OwnGo p e below s rc rs Q T (mkF m pc Ls (w :: rest)) := by
  obtain ⟨fs, hr, hrun, hended, hW, hsame⟩ := X.leave (v := some w) (fun h => by rw [hret] at h; cases h) hlk
  exact ⟨_, _, retOut X hx hret hn hi hd hr, hrun, hended, _, _, rfl, hQ, ⟨_, rfl⟩, hW, hsame.mono hc hs⟩
theorem OwnGo.retN (X : Stand p l e R s m args below meth c T locs cells slots) (hx : p.tables.exec = Jvm.exec) {pc : Nat} {Ls : Array Slot} {z : Int32} {t : FieldType} {rest : List Value} (hret : meth.sig.returnType = some t) (hlk : meth.locks = false) (ht : t = .boolean ∨ t = .byte ∨ t = .char ∨ t = .short)
    (hd : decode c.code pc = .ok (.ireturn, 1)) (hQ : Q (some (.int (nar t z))) T.heap locs) (hc : cells ≤ rc) (hs : slots ≤ rs) : OwnGo p e below s rc rs Q T (mkF m pc Ls (.int z :: rest)) := by
  obtain ⟨fs, hr, hrun, hended, hW, hsame⟩ := X.leave (v := some (.int (nar t z))) (fun h => by rw [hret] at h; cases h) hlk
  exact ⟨_, _, Jvm.RoadKit.retN X hx hret ht hd hr, hrun, hended, _, _, rfl, hQ, ⟨_, rfl⟩, hW, hsame.mono hc hs⟩
theorem OwnGo.retV (X : Stand p l e R s m args below meth c T locs cells slots) (hx : p.tables.exec = Jvm.exec) {pc : Nat} {Ls : Array Slot} (hret : meth.sig.returnType = none) (hlk : meth.locks = false)
    (hd : decode c.code pc = .ok (.return_, 1)) (hQ : Q none T.heap locs) (hc : cells ≤ rc) (hs : slots ≤ rs) : OwnGo p e below s rc rs Q T (mkF m pc Ls []) := by
  obtain ⟨fs, hr, hrun, hended, hW, hsame⟩ := X.leave (v := none) (fun _ => rfl) hlk
  exact ⟨_, _, X.returnOut hx hret hd hr, hrun, hended, _, _, rfl, hQ, ⟨_, rfl⟩, hW, hsame.mono hc hs⟩
theorem own_met {y : MethodName} {bytes : ByteArray} {maxL : Nat} {ret : Option FieldType} {ws : List Jvm.Cond} {rm : Room} {Z : State} {as' : Array Value} {h0 : Heap} (hp : plainFor y = true)
    (body : ∀ (p : Program) (e : Env) (s : State) (m : MethodId) (below : List Frame) (meth : Method) (c : Code) (s₁ : State), Stand p l e rm s m as' below meth c s₁ [] 0 0 → p.tables.exec = Jvm.exec → c.code = bytes → c.maxLocals = maxL → meth.sig.returnType = ret → meth.locks = false → s.vm.findClass y.cls = some m.cls → meth.name = y.name → Z.Warmed39 s.vm → s₁.heap = h0 →
      OwnGo p e below s rm.cells rm.slots Q s₁ (entryFrame m as' maxL)) :
    MetFree l y (head1 (Jvm.Cond.code y bytes maxL ret :: ws) rm) (fun a U => a = as' ∧ Z.Warmed39 U.vm ∧ U.heap = h0) (fun _ _ _ _ _ => True) (fun _ U o U' => ∃ v L, o = .returned v ∧ Q v U'.heap L ∧ FrameEnd U o U' L rm.cells rm.slots) := by
  refine MetFree.of_bodySF hp hisR ?_
  intro p e s m args below meth c s₁ Bd hml0 hP hK
  obtain ⟨rfl, hZ, hh⟩ := hP
  exact body p e s m below meth c s₁ (Stand.of_body Bd) Bd.exec Bd.bytes hml0 Bd.returns Bd.notSynchronized (findClass_of_methodNamed Bd.named) (name_of_methodNamed Bd.named Bd.method).1 hZ (by rw [← hh, Bd.state]; rfl)
theorem own_len {Z : State} {h : Heap} {a : Addr} {cl : Cell} {ty : FieldType} {z : Int32} (hZ : Z.Warmed39 s.vm) (q : cl.slots.size.toInt32 = z) (A : Arr Z h a cl ty) (X : Stand p l e R s m args below meth c T locs cells slots) (eT : T.heap = h) (hx : p.tables.exec = Jvm.exec) {rest : List Value}
    (hg : g.method = m) (hst : g.stack = .ref a :: rest) (hd : decode c.code g.pc = .ok (.arraylength, 1)) (target : State) (k : Steps p.tables e below (T.setTop { g with pc := g.pc + 1, stack := .int z :: rest }) target) : Steps p.tables e below (T.setTop g) target := by
  refine X.arraylength hx (by rw [eT]; exact A.1) (State.isArrayOf_alike hZ.alike A.2.1) hg hst hd _ ?_
  rw [q]; exact k
theorem own_eqi {args : Array Value} {first U : State} {o : Option Outcome} {idx : List Nat} {a : Term} {k : Int32} (h : (Jvm.Cond.eq a (.int k)).value args first o U idx = some true) : a.eval args first o idx U = some (.int k) := Cond.eq_int (b := .int k) (by simp only [Cond.holds, h]; rfl) rfl
theorem own_eqv {args : Array Value} {first U : State} {o : Option Outcome} {idx : List Nat} {a b : Term} {v : Value} (h : (Jvm.Cond.eq a b).value args first o U idx = some true) (hb : b.eval args first o idx U = some v) (hv : v.isRef = true) : a.eval args first o idx U = some v := by
  obtain ⟨x, y, h1, h2, k1, k2⟩ := cmp_v (Or.inl h)
  cases h2.symm.trans hb
  have hx : x.isRef = true := by cases x <;> cases v <;> simp [Kin, Value.isRef] at k1 k2 hv ⊢
  rw [h1, gotT (eq_R h1 h2 hx hv) h]
theorem own_lenv {Z : State} {args : Array Value} {t : Term} {a : Addr} {cl : Cell} {ty : FieldType} {z : Int32} (ev : t.eval args Z none [] Z = some (.ref a)) (A : Arr Z Z.heap a cl ty) (h : (Jvm.Cond.eq (.length t) (.int z)).value args Z none Z [] = some true) : cl.slots.size < 2 ^ 31 ∧ cl.slots.size.toInt32 = z := by
  have e := own_eqi h
  have hA := A.fin (Vm.Alike.refl _)
  refine ⟨SBG.length_lt ev hA e, ?_⟩
  obtain ⟨a', c', e1, e2, e3⟩ := Term.length_spec e
  cases ev.symm.trans e1
  cases hA.symm.trans e2
  exact (Value.int.inj e3).symm
theorem own_elem {Z : State} {args : Array Value} {t : Term} {a : Addr} {cl : Cell} {ty : FieldType} {k : Int32} {v : Value} (ev : t.eval args Z none [] Z = some (.ref a)) (A : Arr Z Z.heap a cl ty) (h : (Term.elem t (.int k)).eval args Z none [] Z = some v) : cl.slots[k.toNatClampNeg]? = some v := (elem_in h ev rfl A.1).2
theorem own_narR {w : Value} {t : FieldType} (h : w.isRef = true) (ht : t.isReference = true) : narrow t w = w := by
  cases w <;> simp [Value.isRef] at h <;> cases t <;> simp [FieldType.isReference] at ht <;> rfl
theorem own_cat {w : Value} (h : w.isRef = true) : w.category = 1 := by cases w <;> simp [Value.isRef] at h <;> rfl
/-- an array of n places, whatever they hold -/
def OwnArr (Z : State) (h : Heap) (a : Addr) (ty : FieldType) (n : Nat) : Prop := ∃ cl : Cell, Arr Z h a cl ty ∧ cl.slots.size = n
theorem OwnArr.lt {Z : State} {h : Heap} {a : Addr} {ty : FieldType} {n : Nat} (F : OwnArr Z h a ty n) : a < h.size := by obtain ⟨_, A, -⟩ := F; exact A.lt
theorem OwnArr.ext {Z : State} {h h' : Heap} {a : Addr} {ty : FieldType} {n : Nat} (F : OwnArr Z h a ty n) (E : Ext h h') : OwnArr Z h' a ty n := by obtain ⟨c, A, S⟩ := F; exact ⟨c, A.ext E, S⟩
theorem OwnArr.keep {Z : State} {h h' : Heap} {a : Addr} {ty : FieldType} {n : Nat} {ws : List Addr} (F : OwnArr Z h a ty n) (K : Keep h h' ws) : OwnArr Z h' a ty n := by
  obtain ⟨c, ⟨A1, ⟨q1, q2⟩, A3⟩, S⟩ := F
  obtain ⟨c', e1, e2, e3, e4⟩ := K.2.2 _ _ A1
  exact ⟨c', ⟨e1, ⟨by rw [e3]; exact q1, by rw [e2]; exact q2⟩, by rw [e3]; exact A3⟩, e4.trans S⟩
theorem OwnArr.wr {Z : State} {h h' : Heap} {a b : Addr} {ty : FieldType} {n sl : Nat} {v : Value} (F : OwnArr Z h a ty n) (W : Wr h h' b sl v) : OwnArr Z h' a ty n := F.keep (Keep.of_wr W)
theorem OwnArr.of {Z : State} {h : Heap} {a : Addr} {k : ClassId} {ty : FieldType} {z : Int32} {vs : List Value} {d : Value} (F : Arv Z h a k ty z vs d) : OwnArr Z h a ty z.toNatClampNeg := by obtain ⟨c, A, -, S, -⟩ := F; exact ⟨c, A, S⟩
theorem own_nb (x : Int32) : nar .byte x.toInt8.toInt32 = x.toInt8.toInt32 := by
  show (x.toInt8.toInt32).toInt8.toInt32 = _
  rw [Int8.toInt8_toInt32]
end Own
end Jvm.RoadKit
namespace Jvm.Pilot.@@N@@
open Jvm Jvm.ClassFile Sem Op Lib Jvm.Free Jvm.Stand Jvm.LawKit Jvm.RoadKit Bundle Jvm.Pilot.@@N@@.Jvm.D
def own_pick (f : Int32) (a0 a1 a2 a3 a4 : Addr) : Value := if f = 0 then .ref a0 else if f = 1 then .ref a1 else if f = 2 then .ref a2 else if f = 3 then .ref a3 else if f = 4 then .ref a4 else .null
theorem own_pk0 {f : Int32} {a0 a1 a2 a3 a4 : Addr} (h : f = (0 : Int32)) : own_pick f a0 a1 a2 a3 a4 = .ref a0 := by subst h; rfl
theorem own_pk1 {f : Int32} {a0 a1 a2 a3 a4 : Addr} (h : f = (1 : Int32)) : own_pick f a0 a1 a2 a3 a4 = .ref a1 := by subst h; rfl
theorem own_pk2 {f : Int32} {a0 a1 a2 a3 a4 : Addr} (h : f = (2 : Int32)) : own_pick f a0 a1 a2 a3 a4 = .ref a2 := by subst h; rfl
theorem own_pk3 {f : Int32} {a0 a1 a2 a3 a4 : Addr} (h : f = (3 : Int32)) : own_pick f a0 a1 a2 a3 a4 = .ref a3 := by subst h; rfl
theorem own_pk4 {f : Int32} {a0 a1 a2 a3 a4 : Addr} (h : f = (4 : Int32)) : own_pick f a0 a1 a2 a3 a4 = .ref a4 := by subst h; rfl
theorem own_pkN {f : Int32} {a0 a1 a2 a3 a4 : Addr} (h0 : ¬ f = (0 : Int32)) (h1 : ¬ f = (1 : Int32)) (h2 : ¬ f = (2 : Int32)) (h3 : ¬ f = (3 : Int32)) (h4 : ¬ f = (4 : Int32)) : own_pick f a0 a1 a2 a3 a4 = .null := by
  show (if f = 0 then _ else _) = _
  rw [if_neg h0, if_neg h1, if_neg h2, if_neg h3, if_neg h4]
theorem d1_0 : decode method_3_code 0 = .ok (.iload_n 0, 1) := by decide +kernel
theorem d1_1 : decode method_3_code 1 = .ok (.invokestatic 25, 3) := by decide +kernel
theorem d1_4 : decode method_3_code 4 = .ok (.astore_n 1, 1) := by decide +kernel
theorem d1_5 : decode method_3_code 5 = .ok (.iload_n 0, 1) := by decide +kernel
theorem d1_6 : decode method_3_code 6 = .ok (.invokestatic 29, 3) := by decide +kernel
theorem d1_9 : decode method_3_code 9 = .ok (.astore_n 2, 1) := by decide +kernel
theorem d1_10 : decode method_3_code 10 = .ok (.aload_n 1, 1) := by decide +kernel
theorem d1_11 : decode method_3_code 11 = .ok (.aload_n 2, 1) := by decide +kernel
theorem d1_12 : decode method_3_code 12 = .ok (.if_acmp .eq 5, 3) := by decide +kernel
theorem d1_17 : decode method_3_code 17 = .ok (.aload_n 1, 1) := by decide +kernel
theorem d1_18 : decode method_3_code 18 = .ok (.ifnull 11, 3) := by decide +kernel
theorem d1_21 : decode method_3_code 21 = .ok (.aload_n 1, 1) := by decide +kernel
theorem d1_22 : decode method_3_code 22 = .ok (.invokevirtual 34, 3) := by decide +kernel
theorem d1_25 : decode method_3_code 25 = .ok (.iload_n 0, 1) := by decide +kernel
theorem d1_26 : decode method_3_code 26 = .ok (.if_icmp .ne 7, 3) := by decide +kernel
theorem d1_29 : decode method_3_code 29 = .ok (.iconst 1, 1) := by decide +kernel
theorem d1_30 : decode method_3_code 30 = .ok (.goto 4, 3) := by decide +kernel
theorem d1_34 : decode method_3_code 34 = .ok (.ireturn, 1) := by decide +kernel
theorem d2_0 : decode prog_23_method_5_code 0 = .ok (.getstatic 42, 3) := by decide +kernel
theorem d2_3 : decode prog_23_method_5_code 3 = .ok (.astore_n 1, 1) := by decide +kernel
theorem d2_4 : decode prog_23_method_5_code 4 = .ok (.aload_n 1, 1) := by decide +kernel
theorem d2_5 : decode prog_23_method_5_code 5 = .ok (.arraylength, 1) := by decide +kernel
theorem d2_6 : decode prog_23_method_5_code 6 = .ok (.istore_n 2, 1) := by decide +kernel
theorem d2_7 : decode prog_23_method_5_code 7 = .ok (.iconst 0, 1) := by decide +kernel
theorem d2_8 : decode prog_23_method_5_code 8 = .ok (.istore_n 3, 1) := by decide +kernel
theorem d2_9 : decode prog_23_method_5_code 9 = .ok (.iload_n 3, 1) := by decide +kernel
theorem d2_10 : decode prog_23_method_5_code 10 = .ok (.iload_n 2, 1) := by decide +kernel
theorem d2_11 : decode prog_23_method_5_code 11 = .ok (.if_icmp .ge 26, 3) := by decide +kernel
theorem d2_14 : decode prog_23_method_5_code 14 = .ok (.aload_n 1, 1) := by decide +kernel
theorem d2_15 : decode prog_23_method_5_code 15 = .ok (.iload_n 3, 1) := by decide +kernel
theorem d2_16 : decode prog_23_method_5_code 16 = .ok (.aaload, 1) := by decide +kernel
theorem d2_17 : decode prog_23_method_5_code 17 = .ok (.astore 4, 2) := by decide +kernel
theorem d2_19 : decode prog_23_method_5_code 19 = .ok (.aload 4, 2) := by decide +kernel
theorem d2_21 : decode prog_23_method_5_code 21 = .ok (.getfield 38, 3) := by decide +kernel
theorem d2_24 : decode prog_23_method_5_code 24 = .ok (.iload_n 0, 1) := by decide +kernel
theorem d2_25 : decode prog_23_method_5_code 25 = .ok (.if_icmp .ne 6, 3) := by decide +kernel
theorem d2_28 : decode prog_23_method_5_code 28 = .ok (.aload 4, 2) := by decide +kernel
theorem d2_30 : decode prog_23_method_5_code 30 = .ok (.areturn, 1) := by decide +kernel
theorem d2_31 : decode prog_23_method_5_code 31 = .ok (.iinc 3 1, 3) := by decide +kernel
theorem d2_34 : decode prog_23_method_5_code 34 = .ok (.goto (-25), 3) := by decide +kernel
theorem d2_37 : decode prog_23_method_5_code 37 = .ok (.aconst_null, 1) := by decide +kernel
theorem d2_38 : decode prog_23_method_5_code 38 = .ok (.areturn, 1) := by decide +kernel
theorem d3_0 : decode method_2_code 0 = .ok (.iload_n 0, 1) := by decide +kernel
theorem d3_1 : decode method_2_code 1 = .ok (.ifCond .ne 7, 3) := by decide +kernel
theorem d3_4 : decode method_2_code 4 = .ok (.getstatic 7, 3) := by decide +kernel
theorem d3_7 : decode method_2_code 7 = .ok (.areturn, 1) := by decide +kernel
theorem d3_8 : decode method_2_code 8 = .ok (.iload_n 0, 1) := by decide +kernel
theorem d3_9 : decode method_2_code 9 = .ok (.iconst 1, 1) := by decide +kernel
theorem d3_10 : decode method_2_code 10 = .ok (.if_icmp .ne 7, 3) := by decide +kernel
theorem d3_13 : decode method_2_code 13 = .ok (.getstatic 13, 3) := by decide +kernel
theorem d3_16 : decode method_2_code 16 = .ok (.areturn, 1) := by decide +kernel
theorem d3_17 : decode method_2_code 17 = .ok (.iload_n 0, 1) := by decide +kernel
theorem d3_18 : decode method_2_code 18 = .ok (.iconst 2, 1) := by decide +kernel
theorem d3_19 : decode method_2_code 19 = .ok (.if_icmp .ne 7, 3) := by decide +kernel
theorem d3_22 : decode method_2_code 22 = .ok (.getstatic 16, 3) := by decide +kernel
theorem d3_25 : decode method_2_code 25 = .ok (.areturn, 1) := by decide +kernel
theorem d3_26 : decode method_2_code 26 = .ok (.iload_n 0, 1) := by decide +kernel
theorem d3_27 : decode method_2_code 27 = .ok (.iconst 3, 1) := by decide +kernel
theorem d3_28 : decode method_2_code 28 = .ok (.if_icmp .ne 7, 3) := by decide +kernel
theorem d3_31 : decode method_2_code 31 = .ok (.getstatic 19, 3) := by decide +kernel
theorem d3_34 : decode method_2_code 34 = .ok (.areturn, 1) := by decide +kernel
theorem d3_35 : decode method_2_code 35 = .ok (.iload_n 0, 1) := by decide +kernel
theorem d3_36 : decode method_2_code 36 = .ok (.iconst 4, 1) := by decide +kernel
theorem d3_37 : decode method_2_code 37 = .ok (.if_icmp .ne 7, 3) := by decide +kernel
theorem d3_40 : decode method_2_code 40 = .ok (.getstatic 22, 3) := by decide +kernel
theorem d3_43 : decode method_2_code 43 = .ok (.areturn, 1) := by decide +kernel
theorem d3_44 : decode method_2_code 44 = .ok (.aconst_null, 1) := by decide +kernel
theorem d3_45 : decode method_2_code 45 = .ok (.areturn, 1) := by decide +kernel
theorem d4_0 : decode prog_23_method_4_code 0 = .ok (.aload_n 0, 1) := by decide +kernel
theorem d4_1 : decode prog_23_method_4_code 1 = .ok (.getfield 38, 3) := by decide +kernel
theorem d4_4 : decode prog_23_method_4_code 4 = .ok (.ireturn, 1) := by decide +kernel
theorem pd_0 : parseMethodDescriptor "(I)Lio/quintet/MetaString$Encoding;" = some ⟨[.int], some (.object "io/quintet/MetaString$Encoding")⟩ := by decide +kernel
theorem pd_1 : parseMethodDescriptor "()I" = some ⟨[], some .int⟩ := by decide +kernel
theorem pd_2 : parseMethodDescriptor "(I)Z" = some ⟨[.int], some .boolean⟩ := by decide +kernel
theorem pn_2 : plainName "io/quintet/MetaString$Encoding" = true := by first | (simp [plainName, overriddenIn]; done) | decide +kernel
theorem pn_3 : plainName "io/quintet/EncodingOfFlagPinLaw" = true := by first | (simp [plainName, overriddenIn]; done) | decide +kernel
theorem ef_2 (m : MethodId) (x0 : Int32) : entryFrame m #[(.int x0)] 5 = mkF m 0 #[.val (.int x0), .unset, .unset, .unset, .unset] [] := by first | (simp [entryFrame, mkF, argsToLocals, Value.category]; done) | rfl
theorem ef_3 (m : MethodId) (x0 : Int32) : entryFrame m #[(.int x0)] 1 = mkF m 0 #[.val (.int x0)] [] := by first | (simp [entryFrame, mkF, argsToLocals, Value.category]; done) | rfl
theorem ef_4 (m : MethodId) (x0 : Addr) : entryFrame m #[(.ref x0)] 1 = mkF m 0 #[.val (.ref x0)] [] := by first | (simp [entryFrame, mkF, argsToLocals, Value.category]; done) | rfl
theorem ef_1 (m : MethodId) (x0 : Int32) : entryFrame m #[(.int x0)] 3 = mkF m 0 #[.val (.int x0), .unset, .unset] [] := by first | (simp [entryFrame, mkF, argsToLocals, Value.category]; done) | rfl
theorem ef_0 (m : MethodId) (x0 : Int32) (x1 : Int32) : entryFrame m #[(.int x0), (.int x1)] maxLocals = mkF m 0 #[.val (.int x0), .val (.int x1), .unset] [] := by first | (simp [entryFrame, mkF, argsToLocals, Value.category, maxLocals]; done) | rfl
def Q2 (Z : State) (p1 : Int32) (u_Encoding_ALL : Addr) (u_Encoding_UTF_8 : Addr) (u_Encoding_LOWER_SPECIAL : Addr) (u_Encoding_LOWER_UPPER_DIGIT_SPECIAL : Addr) (u_Encoding_FIRST_TO_LOWER_SPECIAL : Addr) (u_Encoding_ALL_TO_LOWER_SPECIAL : Addr) (kc_u_Encoding_ALL : ClassId) (h0 : Heap) (n0 : Nat) (v : Option Value) (h : Heap) (L : List Loc) : Prop := v = some (own_pick p1 u_Encoding_UTF_8 u_Encoding_LOWER_SPECIAL u_Encoding_LOWER_UPPER_DIGIT_SPECIAL u_Encoding_FIRST_TO_LOWER_SPECIAL u_Encoding_ALL_TO_LOWER_SPECIAL) ∧ Fr n0 L ∧ h = h0
set_option maxRecDepth 65536 in
set_option maxHeartbeats 40000000 in
theorem rm2 (l : Launch) (Z : State) (a0 : Array Value) (hw : ∀ d ∈ tables_1, d.before a0 Z = true) (ws : List Jvm.Cond) (p1 : Int32) (u_Encoding_ALL : Addr) (u_Encoding_UTF_8 : Addr) (u_Encoding_LOWER_SPECIAL : Addr) (u_Encoding_LOWER_UPPER_DIGIT_SPECIAL : Addr) (u_Encoding_FIRST_TO_LOWER_SPECIAL : Addr) (u_Encoding_ALL_TO_LOWER_SPECIAL : Addr) (kc_u_Encoding_ALL : ClassId) (h0 : Heap) (n0 : Nat) (Z0 : n0 ≤ h0.size) (O_ : Old Z n0 h0) (S_u_Encoding_ALL : Sta Z Z.heap "io/quintet/MetaString$Encoding" "ALL" "[Lio/quintet/MetaString$Encoding;" (.ref u_Encoding_ALL)) (S_u_Encoding_UTF_8 : Sta Z Z.heap "io/quintet/MetaString$Encoding" "UTF_8" "Lio/quintet/MetaString$Encoding;" (.ref u_Encoding_UTF_8)) (E_u_Encoding_UTF_8 : Exa Z Z.heap u_Encoding_UTF_8 "io/quintet/MetaString$Encoding") (F_u_Encoding_UTF_8_flag : Fld Z Z.heap u_Encoding_UTF_8 "io/quintet/MetaString$Encoding" "flag" "I" (.int (0 : Int32))) (S_u_Encoding_LOWER_SPECIAL : Sta Z Z.heap "io/quintet/MetaString$Encoding" "LOWER_SPECIAL" "Lio/quintet/MetaString$Encoding;" (.ref u_Encoding_LOWER_SPECIAL)) (E_u_Encoding_LOWER_SPECIAL : Exa Z Z.heap u_Encoding_LOWER_SPECIAL "io/quintet/MetaString$Encoding") (F_u_Encoding_LOWER_SPECIAL_flag : Fld Z Z.heap u_Encoding_LOWER_SPECIAL "io/quintet/MetaString$Encoding" "flag" "I" (.int (1 : Int32))) (S_u_Encoding_LOWER_UPPER_DIGIT_SPECIAL : Sta Z Z.heap "io/quintet/MetaString$Encoding" "LOWER_UPPER_DIGIT_SPECIAL" "Lio/quintet/MetaString$Encoding;" (.ref u_Encoding_LOWER_UPPER_DIGIT_SPECIAL)) (E_u_Encoding_LOWER_UPPER_DIGIT_SPECIAL : Exa Z Z.heap u_Encoding_LOWER_UPPER_DIGIT_SPECIAL "io/quintet/MetaString$Encoding") (F_u_Encoding_LOWER_UPPER_DIGIT_SPECIAL_flag : Fld Z Z.heap u_Encoding_LOWER_UPPER_DIGIT_SPECIAL "io/quintet/MetaString$Encoding" "flag" "I" (.int (2 : Int32))) (S_u_Encoding_FIRST_TO_LOWER_SPECIAL : Sta Z Z.heap "io/quintet/MetaString$Encoding" "FIRST_TO_LOWER_SPECIAL" "Lio/quintet/MetaString$Encoding;" (.ref u_Encoding_FIRST_TO_LOWER_SPECIAL)) (E_u_Encoding_FIRST_TO_LOWER_SPECIAL : Exa Z Z.heap u_Encoding_FIRST_TO_LOWER_SPECIAL "io/quintet/MetaString$Encoding") (F_u_Encoding_FIRST_TO_LOWER_SPECIAL_flag : Fld Z Z.heap u_Encoding_FIRST_TO_LOWER_SPECIAL "io/quintet/MetaString$Encoding" "flag" "I" (.int (3 : Int32))) (S_u_Encoding_ALL_TO_LOWER_SPECIAL : Sta Z Z.heap "io/quintet/MetaString$Encoding" "ALL_TO_LOWER_SPECIAL" "Lio/quintet/MetaString$Encoding;" (.ref u_Encoding_ALL_TO_LOWER_SPECIAL)) (E_u_Encoding_ALL_TO_LOWER_SPECIAL : Exa Z Z.heap u_Encoding_ALL_TO_LOWER_SPECIAL "io/quintet/MetaString$Encoding") (F_u_Encoding_ALL_TO_LOWER_SPECIAL_flag : Fld Z Z.heap u_Encoding_ALL_TO_LOWER_SPECIAL "io/quintet/MetaString$Encoding" "flag" "I" (.int (4 : Int32))) (V_u_Encoding_ALL : Arv Z Z.heap u_Encoding_ALL kc_u_Encoding_ALL (Jvm.ClassFile.FieldType.object "io/quintet/MetaString$Encoding") (5 : Int32) [(.ref u_Encoding_UTF_8), (.ref u_Encoding_LOWER_SPECIAL), (.ref u_Encoding_LOWER_UPPER_DIGIT_SPECIAL), (.ref u_Encoding_FIRST_TO_LOWER_SPECIAL), (.ref u_Encoding_ALL_TO_LOWER_SPECIAL)] .null) :
    MetFree l (⟨"io/quintet/MetaString$Encoding", "ofFlag", "(I)Lio/quintet/MetaString$Encoding;"⟩ : MethodName) (head1 (Jvm.Cond.code (⟨"io/quintet/MetaString$Encoding", "ofFlag", "(I)Lio/quintet/MetaString$Encoding;"⟩ : MethodName) prog_23_method_5_code 5 (some (.object "io/quintet/MetaString$Encoding")) :: ws) ({ frames := 0, cells := 0, slots := 0, locals := 0 } : Room)) (fun as_ U => as_ = #[(.int p1)] ∧ Z.Warmed39 U.vm ∧ U.heap = h0) (fun _ _ _ _ _ => True) (fun _ U o U' => ∃ v L, o = .returned v ∧ (Q2 Z p1 u_Encoding_ALL u_Encoding_UTF_8 u_Encoding_LOWER_SPECIAL u_Encoding_LOWER_UPPER_DIGIT_SPECIAL u_Encoding_FIRST_TO_LOWER_SPECIAL u_Encoding_ALL_TO_LOWER_SPECIAL kc_u_Encoding_ALL h0 n0) v U'.heap L ∧ FrameEnd U o U' L ({ frames := 0, cells := 0, slots := 0, locals := 0 } : Room).cells ({ frames := 0, cells := 0, slots := 0, locals := 0 } : Room).slots) := by
  refine own_met (plainFor_of_name pn_2) ?_
  intro p e s m below meth c s₁ X0 hx hby hml hret hlk hown hnm hZ e0
  have N0 := Fr.nil n0
  have Z_ := Z0
  refine OwnGo.cast (ef_2 m p1) ?_
  show OwnGo p e below s _ _ _ s₁ (mkF m 0 #[.val (.int p1), .unset, .unset, .unset, .unset] [])
  obtain ⟨T1, X1, e1, st1⟩ := getS2 X0 hx hZ hown (host := "") (Or.inl (hw _ (List.mem_of_getElem? (i := 8) rfl))) Via.refl e0 (S_u_Encoding_ALL.ext O_.2) (g := (mkF m 0 #[.val (.int p1), .unset, .unset, .unset, .unset] [])) rfl (hb hby d2_0)
  refine OwnGo.st st1 ?_
  show OwnGo p e below s _ _ _ T1 (mkF m 3 #[.val (.int p1), .unset, .unset, .unset, .unset] [(.ref u_Encoding_ALL)])
  refine OwnGo.st (fun _ k => XS.astoreN X1.here hx rfl (hb hby d2_3) rfl rfl (l' := #[.val (.int p1), .val (.ref u_Encoding_ALL), .unset, .unset, .unset]) rfl k) ?_
  show OwnGo p e below s _ _ _ T1 (mkF m 4 #[.val (.int p1), .val (.ref u_Encoding_ALL), .unset, .unset, .unset] [])
  refine OwnGo.st (fun _ k => XS.aloadN X1.here hx rfl (hb hby d2_4) rfl rfl  k) ?_
  show OwnGo p e below s _ _ _ T1 (mkF m 5 #[.val (.int p1), .val (.ref u_Encoding_ALL), .unset, .unset, .unset] [(.ref u_Encoding_ALL)])
  obtain ⟨cl2, Ar2, -, S2, N2, -, -⟩ := id (V_u_Encoding_ALL.ext O_.2)
  refine OwnGo.st (fun _ k => own_len hZ (len_of S2 N2) Ar2 X1 e1 hx (g := (mkF m 5 #[.val (.int p1), .val (.ref u_Encoding_ALL), .unset, .unset, .unset] [(.ref u_Encoding_ALL)])) rfl rfl (hb hby d2_5) _ k) ?_
  show OwnGo p e below s _ _ _ T1 (mkF m 6 #[.val (.int p1), .val (.ref u_Encoding_ALL), .unset, .unset, .unset] [(.int (5 : Int32))])
  refine OwnGo.st (fun _ k => XS.istoreN X1.here hx rfl (hb hby d2_6) rfl (l' := #[.val (.int p1), .val (.ref u_Encoding_ALL), .val (.int (5 : Int32)), .unset, .unset]) rfl k) ?_
  show OwnGo p e below s _ _ _ T1 (mkF m 7 #[.val (.int p1), .val (.ref u_Encoding_ALL), .val (.int (5 : Int32)), .unset, .unset] [])
  refine OwnGo.st (fun _ k => XS.iconst X1.here hx rfl (hb hby d2_7) k) ?_
  show OwnGo p e below s _ _ _ T1 (mkF m 8 #[.val (.int p1), .val (.ref u_Encoding_ALL), .val (.int (5 : Int32)), .unset, .unset] [(.int (0 : Int32))])
  refine OwnGo.st (fun _ k => XS.istoreN X1.here hx rfl (hb hby d2_8) rfl (l' := #[.val (.int p1), .val (.ref u_Encoding_ALL), .val (.int (5 : Int32)), .val (.int (0 : Int32)), .unset]) rfl k) ?_
  show OwnGo p e below s _ _ _ T1 (mkF m 9 #[.val (.int p1), .val (.ref u_Encoding_ALL), .val (.int (5 : Int32)), .val (.int (0 : Int32)), .unset] [])
  refine OwnGo.st (fun _ k => XS.iloadN X1.here hx rfl (hb hby d2_9) rfl  k) ?_
  show OwnGo p e below s _ _ _ T1 (mkF m 10 #[.val (.int p1), .val (.ref u_Encoding_ALL), .val (.int (5 : Int32)), .val (.int (0 : Int32)), .unset] [(.int (0 : Int32))])
  refine OwnGo.st (fun _ k => XS.iloadN X1.here hx rfl (hb hby d2_10) rfl  k) ?_
  show OwnGo p e below s _ _ _ T1 (mkF m 11 #[.val (.int p1), .val (.ref u_Encoding_ALL), .val (.int (5 : Int32)), .val (.int (0 : Int32)), .unset] [(.int (5 : Int32)), (.int (0 : Int32))])
  refine OwnGo.st (fun _ k => XS.icmpNo X1.here hx rfl (hb hby d2_11) rfl (tlt ((by decide) : (0 : Int32) < (5 : Int32))).2.1 k) ?_
  show OwnGo p e below s _ _ _ T1 (mkF m 14 #[.val (.int p1), .val (.ref u_Encoding_ALL), .val (.int (5 : Int32)), .val (.int (0 : Int32)), .unset] [])
  refine OwnGo.st (fun _ k => XS.aloadN X1.here hx rfl (hb hby d2_14) rfl rfl  k) ?_
  show OwnGo p e below s _ _ _ T1 (mkF m 15 #[.val (.int p1), .val (.ref u_Encoding_ALL), .val (.int (5 : Int32)), .val (.int (0 : Int32)), .unset] [(.ref u_Encoding_ALL)])
  refine OwnGo.st (fun _ k => XS.iloadN X1.here hx rfl (hb hby d2_15) rfl  k) ?_
  show OwnGo p e below s _ _ _ T1 (mkF m 16 #[.val (.int p1), .val (.ref u_Encoding_ALL), .val (.int (5 : Int32)), .val (.int (0 : Int32)), .unset] [(.int (0 : Int32)), (.ref u_Encoding_ALL)])
  obtain ⟨cl3, Ar3, -, S3, -, H3, -⟩ := id (V_u_Encoding_ALL.ext O_.2)
  have hin3 : ¬ ((0 : Int32) < 0 ∨ cl3.slots.size ≤ ((0 : Int32)).toNatClampNeg) := inb_of S3 ⟨by decide, by decide⟩
  refine OwnGo.st (fun _ k => X1.aaload hx (j := (0 : Int32)) (v := (.ref u_Encoding_UTF_8)) (by rw [e1]; exact Ar3.1) (State.isArrayOf_alike hZ.alike Ar3.2.1) rfl Ar3.2.2 hin3 (H3.at hin3 rfl) (g := (mkF m 16 #[.val (.int p1), .val (.ref u_Encoding_ALL), .val (.int (5 : Int32)), .val (.int (0 : Int32)), .unset] [(.int (0 : Int32)), (.ref u_Encoding_ALL)])) rfl rfl (hb hby d2_16) _ k) ?_
  show OwnGo p e below s _ _ _ T1 (mkF m 17 #[.val (.int p1), .val (.ref u_Encoding_ALL), .val (.int (5 : Int32)), .val (.int (0 : Int32)), .unset] [(.ref u_Encoding_UTF_8)])
  refine OwnGo.st (fun _ k => XS.astore X1.here hx rfl (hb hby d2_17) rfl rfl (l' := #[.val (.int p1), .val (.ref u_Encoding_ALL), .val (.int (5 : Int32)), .val (.int (0 : Int32)), .val (.ref u_Encoding_UTF_8)]) rfl k) ?_
  show OwnGo p e below s _ _ _ T1 (mkF m 19 #[.val (.int p1), .val (.ref u_Encoding_ALL), .val (.int (5 : Int32)), .val (.int (0 : Int32)), .val (.ref u_Encoding_UTF_8)] [])
  refine OwnGo.st (fun _ k => XS.aload X1.here hx rfl (hb hby d2_19) rfl rfl  k) ?_
  show OwnGo p e below s _ _ _ T1 (mkF m 21 #[.val (.int p1), .val (.ref u_Encoding_ALL), .val (.int (5 : Int32)), .val (.int (0 : Int32)), .val (.ref u_Encoding_UTF_8)] [(.ref u_Encoding_UTF_8)])
  obtain ⟨T4, X4, e4, st4⟩ := getF X1 hx hZ hown (host := "") (Or.inl (hw _ (List.mem_of_getElem? (i := 11) rfl))) Via.refl e1 (F_u_Encoding_UTF_8_flag.ext O_.2) (g := (mkF m 21 #[.val (.int p1), .val (.ref u_Encoding_ALL), .val (.int (5 : Int32)), .val (.int (0 : Int32)), .val (.ref u_Encoding_UTF_8)] [(.ref u_Encoding_UTF_8)])) rfl rfl (hb hby d2_21)
  refine OwnGo.st st4 ?_
  show OwnGo p e below s _ _ _ T4 (mkF m 24 #[.val (.int p1), .val (.ref u_Encoding_ALL), .val (.int (5 : Int32)), .val (.int (0 : Int32)), .val (.ref u_Encoding_UTF_8)] [(.int (0 : Int32))])
  refine OwnGo.st (fun _ k => XS.iloadN X4.here hx rfl (hb hby d2_24) rfl  k) ?_
  show OwnGo p e below s _ _ _ T4 (mkF m 25 #[.val (.int p1), .val (.ref u_Encoding_ALL), .val (.int (5 : Int32)), .val (.int (0 : Int32)), .val (.ref u_Encoding_UTF_8)] [(.int p1), (.int (0 : Int32))])
  by_cases hk0 : (0 : Int32) = p1
  · refine OwnGo.st (fun _ k => XS.icmpNo X4.here hx rfl (hb hby d2_25) rfl (teq (hk0 : (0 : Int32) = p1)).2 k) ?_
    show OwnGo p e below s _ _ _ T4 (mkF m 28 #[.val (.int p1), .val (.ref u_Encoding_ALL), .val (.int (5 : Int32)), .val (.int (0 : Int32)), .val (.ref u_Encoding_UTF_8)] [])
    refine OwnGo.st (fun _ k => XS.aload X4.here hx rfl (hb hby d2_28) rfl rfl  k) ?_
    show OwnGo p e below s _ _ _ T4 (mkF m 30 #[.val (.int p1), .val (.ref u_Encoding_ALL), .val (.int (5 : Int32)), .val (.int (0 : Int32)), .val (.ref u_Encoding_UTF_8)] [(.ref u_Encoding_UTF_8)])
    exact OwnGo.ret X4 hx hret hlk rfl (Or.inr (Or.inr (Or.inr (Or.inr ⟨rfl, rfl, rfl⟩)))) (hb hby d2_30) (by show Q2 Z p1 u_Encoding_ALL u_Encoding_UTF_8 u_Encoding_LOWER_SPECIAL u_Encoding_LOWER_UPPER_DIGIT_SPECIAL u_Encoding_FIRST_TO_LOWER_SPECIAL u_Encoding_ALL_TO_LOWER_SPECIAL kc_u_Encoding_ALL h0 n0 _ T4.heap _; rw [e4]; exact ⟨congrArg some (own_pk0 hk0.symm).symm, N0, rfl⟩) (by decide) (by decide)
  · refine OwnGo.st (fun _ k => XS.icmpYes X4.here hx rfl (pc0 := 25) (pc' := 31) rfl (hb hby d2_25) rfl (feq (hk0 : ¬ ((0 : Int32) = p1))).2 (by decide) (by decide) k) ?_
    show OwnGo p e below s _ _ _ T4 (mkF m 31 #[.val (.int p1), .val (.ref u_Encoding_ALL), .val (.int (5 : Int32)), .val (.int (0 : Int32)), .val (.ref u_Encoding_UTF_8)] [])
    refine OwnGo.st (fun _ k => XS.iinc X4.here hx rfl (hb hby d2_31) rfl (l' := #[.val (.int p1), .val (.ref u_Encoding_ALL), .val (.int (5 : Int32)), .val (.int ((0 : Int32) + (1 : Int32))), .val (.ref u_Encoding_UTF_8)]) rfl k) ?_
    show OwnGo p e below s _ _ _ T4 (mkF m 34 #[.val (.int p1), .val (.ref u_Encoding_ALL), .val (.int (5 : Int32)), .val (.int ((0 : Int32) + (1 : Int32))), .val (.ref u_Encoding_UTF_8)] [])
    show OwnGo p e below s _ _ _ T4 (mkF m 34 #[.val (.int p1), .val (.ref u_Encoding_ALL), .val (.int (5 : Int32)), .val (.int (1 : Int32)), .val (.ref u_Encoding_UTF_8)] [])
    refine OwnGo.st (fun _ k => XS.goto X4.here hx rfl (pc0 := 34) (pc' := 9) rfl (hb hby d2_34) (by decide) (by decide) k) ?_
    show OwnGo p e below s _ _ _ T4 (mkF m 9 #[.val (.int p1), .val (.ref u_Encoding_ALL), .val (.int (5 : Int32)), .val (.int (1 : Int32)), .val (.ref u_Encoding_UTF_8)] [])
    refine OwnGo.st (fun _ k => XS.iloadN X4.here hx rfl (hb hby d2_9) rfl  k) ?_
    show OwnGo p e below s _ _ _ T4 (mkF m 10 #[.val (.int p1), .val (.ref u_Encoding_ALL), .val (.int (5 : Int32)), .val (.int (1 : Int32)), .val (.ref u_Encoding_UTF_8)] [(.int (1 : Int32))])
    refine OwnGo.st (fun _ k => XS.iloadN X4.here hx rfl (hb hby d2_10) rfl  k) ?_
    show OwnGo p e below s _ _ _ T4 (mkF m 11 #[.val (.int p1), .val (.ref u_Encoding_ALL), .val (.int (5 : Int32)), .val (.int (1 : Int32)), .val (.ref u_Encoding_UTF_8)] [(.int (5 : Int32)), (.int (1 : Int32))])
    refine OwnGo.st (fun _ k => XS.icmpNo X4.here hx rfl (hb hby d2_11) rfl (tlt ((by decide) : (1 : Int32) < (5 : Int32))).2.1 k) ?_
    show OwnGo p e below s _ _ _ T4 (mkF m 14 #[.val (.int p1), .val (.ref u_Encoding_ALL), .val (.int (5 : Int32)), .val (.int (1 : Int32)), .val (.ref u_Encoding_UTF_8)] [])
    refine OwnGo.st (fun _ k => XS.aloadN X4.here hx rfl (hb hby d2_14) rfl rfl  k) ?_
    show OwnGo p e below s _ _ _ T4 (mkF m 15 #[.val (.int p1), .val (.ref u_Encoding_ALL), .val (.int (5 : Int32)), .val (.int (1 : Int32)), .val (.ref u_Encoding_UTF_8)] [(.ref u_Encoding_ALL)])
    refine OwnGo.st (fun _ k => XS.iloadN X4.here hx rfl (hb hby d2_15) rfl  k) ?_
    show OwnGo p e below s _ _ _ T4 (mkF m 16 #[.val (.int p1), .val (.ref u_Encoding_ALL), .val (.int (5 : Int32)), .val (.int (1 : Int32)), .val (.ref u_Encoding_UTF_8)] [(.int (1 : Int32)), (.ref u_Encoding_ALL)])
    obtain ⟨cl5, Ar5, -, S5, -, H5, -⟩ := id (V_u_Encoding_ALL.ext O_.2)
    have hin5 : ¬ ((1 : Int32) < 0 ∨ cl5.slots.size ≤ ((1 : Int32)).toNatClampNeg) := inb_of S5 ⟨by decide, by decide⟩
    refine OwnGo.st (fun _ k => X4.aaload hx (j := (1 : Int32)) (v := (.ref u_Encoding_LOWER_SPECIAL)) (by rw [e4]; exact Ar5.1) (State.isArrayOf_alike hZ.alike Ar5.2.1) rfl Ar5.2.2 hin5 (H5.at hin5 rfl) (g := (mkF m 16 #[.val (.int p1), .val (.ref u_Encoding_ALL), .val (.int (5 : Int32)), .val (.int (1 : Int32)), .val (.ref u_Encoding_UTF_8)] [(.int (1 : Int32)), (.ref u_Encoding_ALL)])) rfl rfl (hb hby d2_16) _ k) ?_
    show OwnGo p e below s _ _ _ T4 (mkF m 17 #[.val (.int p1), .val (.ref u_Encoding_ALL), .val (.int (5 : Int32)), .val (.int (1 : Int32)), .val (.ref u_Encoding_UTF_8)] [(.ref u_Encoding_LOWER_SPECIAL)])
    refine OwnGo.st (fun _ k => XS.astore X4.here hx rfl (hb hby d2_17) rfl rfl (l' := #[.val (.int p1), .val (.ref u_Encoding_ALL), .val (.int (5 : Int32)), .val (.int (1 : Int32)), .val (.ref u_Encoding_LOWER_SPECIAL)]) rfl k) ?_
    show OwnGo p e below s _ _ _ T4 (mkF m 19 #[.val (.int p1), .val (.ref u_Encoding_ALL), .val (.int (5 : Int32)), .val (.int (1 : Int32)), .val (.ref u_Encoding_LOWER_SPECIAL)] [])
    refine OwnGo.st (fun _ k => XS.aload X4.here hx rfl (hb hby d2_19) rfl rfl  k) ?_
    show OwnGo p e below s _ _ _ T4 (mkF m 21 #[.val (.int p1), .val (.ref u_Encoding_ALL), .val (.int (5 : Int32)), .val (.int (1 : Int32)), .val (.ref u_Encoding_LOWER_SPECIAL)] [(.ref u_Encoding_LOWER_SPECIAL)])
    obtain ⟨T6, X6, e6, st6⟩ := getF X4 hx hZ hown (host := "") (Or.inl (hw _ (List.mem_of_getElem? (i := 11) rfl))) Via.refl e4 (F_u_Encoding_LOWER_SPECIAL_flag.ext O_.2) (g := (mkF m 21 #[.val (.int p1), .val (.ref u_Encoding_ALL), .val (.int (5 : Int32)), .val (.int (1 : Int32)), .val (.ref u_Encoding_LOWER_SPECIAL)] [(.ref u_Encoding_LOWER_SPECIAL)])) rfl rfl (hb hby d2_21)
    refine OwnGo.st st6 ?_
    show OwnGo p e below s _ _ _ T6 (mkF m 24 #[.val (.int p1), .val (.ref u_Encoding_ALL), .val (.int (5 : Int32)), .val (.int (1 : Int32)), .val (.ref u_Encoding_LOWER_SPECIAL)] [(.int (1 : Int32))])
    refine OwnGo.st (fun _ k => XS.iloadN X6.here hx rfl (hb hby d2_24) rfl  k) ?_
    show OwnGo p e below s _ _ _ T6 (mkF m 25 #[.val (.int p1), .val (.ref u_Encoding_ALL), .val (.int (5 : Int32)), .val (.int (1 : Int32)), .val (.ref u_Encoding_LOWER_SPECIAL)] [(.int p1), (.int (1 : Int32))])
    by_cases hk1 : (1 : Int32) = p1
    · refine OwnGo.st (fun _ k => XS.icmpNo X6.here hx rfl (hb hby d2_25) rfl (teq (hk1 : (1 : Int32) = p1)).2 k) ?_
      show OwnGo p e below s _ _ _ T6 (mkF m 28 #[.val (.int p1), .val (.ref u_Encoding_ALL), .val (.int (5 : Int32)), .val (.int (1 : Int32)), .val (.ref u_Encoding_LOWER_SPECIAL)] [])
      refine OwnGo.st (fun _ k => XS.aload X6.here hx rfl (hb hby d2_28) rfl rfl  k) ?_
      show OwnGo p e below s _ _ _ T6 (mkF m 30 #[.val (.int p1), .val (.ref u_Encoding_ALL), .val (.int (5 : Int32)), .val (.int (1 : Int32)), .val (.ref u_Encoding_LOWER_SPECIAL)] [(.ref u_Encoding_LOWER_SPECIAL)])
      exact OwnGo.ret X6 hx hret hlk rfl (Or.inr (Or.inr (Or.inr (Or.inr ⟨rfl, rfl, rfl⟩)))) (hb hby d2_30) (by show Q2 Z p1 u_Encoding_ALL u_Encoding_UTF_8 u_Encoding_LOWER_SPECIAL u_Encoding_LOWER_UPPER_DIGIT_SPECIAL u_Encoding_FIRST_TO_LOWER_SPECIAL u_Encoding_ALL_TO_LOWER_SPECIAL kc_u_Encoding_ALL h0 n0 _ T6.heap _; rw [e6]; exact ⟨congrArg some (own_pk1 hk1.symm).symm, N0, rfl⟩) (by decide) (by decide)
    · refine OwnGo.st (fun _ k => XS.icmpYes X6.here hx rfl (pc0 := 25) (pc' := 31) rfl (hb hby d2_25) rfl (feq (hk1 : ¬ ((1 : Int32) = p1))).2 (by decide) (by decide) k) ?_
      show OwnGo p e below s _ _ _ T6 (mkF m 31 #[.val (.int p1), .val (.ref u_Encoding_ALL), .val (.int (5 : Int32)), .val (.int (1 : Int32)), .val (.ref u_Encoding_LOWER_SPECIAL)] [])
      refine OwnGo.st (fun _ k => XS.iinc X6.here hx rfl (hb hby d2_31) rfl (l' := #[.val (.int p1), .val (.ref u_Encoding_ALL), .val (.int (5 : Int32)), .val (.int ((1 : Int32) + (1 : Int32))), .val (.ref u_Encoding_LOWER_SPECIAL)]) rfl k) ?_
      show OwnGo p e below s _ _ _ T6 (mkF m 34 #[.val (.int p1), .val (.ref u_Encoding_ALL), .val (.int (5 : Int32)), .val (.int ((1 : Int32) + (1 : Int32))), .val (.ref u_Encoding_LOWER_SPECIAL)] [])
      show OwnGo p e below s _ _ _ T6 (mkF m 34 #[.val (.int p1), .val (.ref u_Encoding_ALL), .val (.int (5 : Int32)), .val (.int (2 : Int32)), .val (.ref u_Encoding_LOWER_SPECIAL)] [])
      refine OwnGo.st (fun _ k => XS.goto X6.here hx rfl (pc0 := 34) (pc' := 9) rfl (hb hby d2_34) (by decide) (by decide) k) ?_
      show OwnGo p e below s _ _ _ T6 (mkF m 9 #[.val (.int p1), .val (.ref u_Encoding_ALL), .val (.int (5 : Int32)), .val (.int (2 : Int32)), .val (.ref u_Encoding_LOWER_SPECIAL)] [])
      refine OwnGo.st (fun _ k => XS.iloadN X6.here hx rfl (hb hby d2_9) rfl  k) ?_
      show OwnGo p e below s _ _ _ T6 (mkF m 10 #[.val (.int p1), .val (.ref u_Encoding_ALL), .val (.int (5 : Int32)), .val (.int (2 : Int32)), .val (.ref u_Encoding_LOWER_SPECIAL)] [(.int (2 : Int32))])
      refine OwnGo.st (fun _ k => XS.iloadN X6.here hx rfl (hb hby d2_10) rfl  k) ?_
      show OwnGo p e below s _ _ _ T6 (mkF m 11 #[.val (.int p1), .val (.ref u_Encoding_ALL), .val (.int (5 : Int32)), .val (.int (2 : Int32)), .val (.ref u_Encoding_LOWER_SPECIAL)] [(.int (5 : Int32)), (.int (2 : Int32))])
      refine OwnGo.st (fun _ k => XS.icmpNo X6.here hx rfl (hb hby d2_11) rfl (tlt ((by decide) : (2 : Int32) < (5 : Int32))).2.1 k) ?_
      show OwnGo p e below s _ _ _ T6 (mkF m 14 #[.val (.int p1), .val (.ref u_Encoding_ALL), .val (.int (5 : Int32)), .val (.int (2 : Int32)), .val (.ref u_Encoding_LOWER_SPECIAL)] [])
      refine OwnGo.st (fun _ k => XS.aloadN X6.here hx rfl (hb hby d2_14) rfl rfl  k) ?_
      show OwnGo p e below s _ _ _ T6 (mkF m 15 #[.val (.int p1), .val (.ref u_Encoding_ALL), .val (.int (5 : Int32)), .val (.int (2 : Int32)), .val (.ref u_Encoding_LOWER_SPECIAL)] [(.ref u_Encoding_ALL)])
      refine OwnGo.st (fun _ k => XS.iloadN X6.here hx rfl (hb hby d2_15) rfl  k) ?_
      show OwnGo p e below s _ _ _ T6 (mkF m 16 #[.val (.int p1), .val (.ref u_Encoding_ALL), .val (.int (5 : Int32)), .val (.int (2 : Int32)), .val (.ref u_Encoding_LOWER_SPECIAL)] [(.int (2 : Int32)), (.ref u_Encoding_ALL)])
      obtain ⟨cl7, Ar7, -, S7, -, H7, -⟩ := id (V_u_Encoding_ALL.ext O_.2)
      have hin7 : ¬ ((2 : Int32) < 0 ∨ cl7.slots.size ≤ ((2 : Int32)).toNatClampNeg) := inb_of S7 ⟨by decide, by decide⟩
      refine OwnGo.st (fun _ k => X6.aaload hx (j := (2 : Int32)) (v := (.ref u_Encoding_LOWER_UPPER_DIGIT_SPECIAL)) (by rw [e6]; exact Ar7.1) (State.isArrayOf_alike hZ.alike Ar7.2.1) rfl Ar7.2.2 hin7 (H7.at hin7 rfl) (g := (mkF m 16 #[.val (.int p1), .val (.ref u_Encoding_ALL), .val (.int (5 : Int32)), .val (.int (2 : Int32)), .val (.ref u_Encoding_LOWER_SPECIAL)] [(.int (2 : Int32)), (.ref u_Encoding_ALL)])) rfl rfl (hb hby d2_16) _ k) ?_
      show OwnGo p e below s _ _ _ T6 (mkF m 17 #[.val (.int p1), .val (.ref u_Encoding_ALL), .val (.int (5 : Int32)), .val (.int (2 : Int32)), .val (.ref u_Encoding_LOWER_SPECIAL)] [(.ref u_Encoding_LOWER_UPPER_DIGIT_SPECIAL)])
      refine OwnGo.st (fun _ k => XS.astore X6.here hx rfl (hb hby d2_17) rfl rfl (l' := #[.val (.int p1), .val (.ref u_Encoding_ALL), .val (.int (5 : Int32)), .val (.int (2 : Int32)), .val (.ref u_Encoding_LOWER_UPPER_DIGIT_SPECIAL)]) rfl k) ?_
      show OwnGo p e below s _ _ _ T6 (mkF m 19 #[.val (.int p1), .val (.ref u_Encoding_ALL), .val (.int (5 : Int32)), .val (.int (2 : Int32)), .val (.ref u_Encoding_LOWER_UPPER_DIGIT_SPECIAL)] [])
      refine OwnGo.st (fun _ k => XS.aload X6.here hx rfl (hb hby d2_19) rfl rfl  k) ?_
      show OwnGo p e below s _ _ _ T6 (mkF m 21 #[.val (.int p1), .val (.ref u_Encoding_ALL), .val (.int (5 : Int32)), .val (.int (2 : Int32)), .val (.ref u_Encoding_LOWER_UPPER_DIGIT_SPECIAL)] [(.ref u_Encoding_LOWER_UPPER_DIGIT_SPECIAL)])
      obtain ⟨T8, X8, e8, st8⟩ := getF X6 hx hZ hown (host := "") (Or.inl (hw _ (List.mem_of_getElem? (i := 11) rfl))) Via.refl e6 (F_u_Encoding_LOWER_UPPER_DIGIT_SPECIAL_flag.ext O_.2) (g := (mkF m 21 #[.val (.int p1), .val (.ref u_Encoding_ALL), .val (.int (5 : Int32)), .val (.int (2 : Int32)), .val (.ref u_Encoding_LOWER_UPPER_DIGIT_SPECIAL)] [(.ref u_Encoding_LOWER_UPPER_DIGIT_SPECIAL)])) rfl rfl (hb hby d2_21)
      refine OwnGo.st st8 ?_
      show OwnGo p e below s _ _ _ T8 (mkF m 24 #[.val (.int p1), .val (.ref u_Encoding_ALL), .val (.int (5 : Int32)), .val (.int (2 : Int32)), .val (.ref u_Encoding_LOWER_UPPER_DIGIT_SPECIAL)] [(.int (2 : Int32))])
      refine OwnGo.st (fun _ k => XS.iloadN X8.here hx rfl (hb hby d2_24) rfl  k) ?_
      show OwnGo p e below s _ _ _ T8 (mkF m 25 #[.val (.int p1), .val (.ref u_Encoding_ALL), .val (.int (5 : Int32)), .val (.int (2 : Int32)), .val (.ref u_Encoding_LOWER_UPPER_DIGIT_SPECIAL)] [(.int p1), (.int (2 : Int32))])
      by_cases hk2 : (2 : Int32) = p1
      · refine OwnGo.st (fun _ k => XS.icmpNo X8.here hx rfl (hb hby d2_25) rfl (teq (hk2 : (2 : Int32) = p1)).2 k) ?_
        show OwnGo p e below s _ _ _ T8 (mkF m 28 #[.val (.int p1), .val (.ref u_Encoding_ALL), .val (.int (5 : Int32)), .val (.int (2 : Int32)), .val (.ref u_Encoding_LOWER_UPPER_DIGIT_SPECIAL)] [])
        refine OwnGo.st (fun _ k => XS.aload X8.here hx rfl (hb hby d2_28) rfl rfl  k) ?_
        show OwnGo p e below s _ _ _ T8 (mkF m 30 #[.val (.int p1), .val (.ref u_Encoding_ALL), .val (.int (5 : Int32)), .val (.int (2 : Int32)), .val (.ref u_Encoding_LOWER_UPPER_DIGIT_SPECIAL)] [(.ref u_Encoding_LOWER_UPPER_DIGIT_SPECIAL)])
        exact OwnGo.ret X8 hx hret hlk rfl (Or.inr (Or.inr (Or.inr (Or.inr ⟨rfl, rfl, rfl⟩)))) (hb hby d2_30) (by show Q2 Z p1 u_Encoding_ALL u_Encoding_UTF_8 u_Encoding_LOWER_SPECIAL u_Encoding_LOWER_UPPER_DIGIT_SPECIAL u_Encoding_FIRST_TO_LOWER_SPECIAL u_Encoding_ALL_TO_LOWER_SPECIAL kc_u_Encoding_ALL h0 n0 _ T8.heap _; rw [e8]; exact ⟨congrArg some (own_pk2 hk2.symm).symm, N0, rfl⟩) (by decide) (by decide)
      · refine OwnGo.st (fun _ k => XS.icmpYes X8.here hx rfl (pc0 := 25) (pc' := 31) rfl (hb hby d2_25) rfl (feq (hk2 : ¬ ((2 : Int32) = p1))).2 (by decide) (by decide) k) ?_
        show OwnGo p e below s _ _ _ T8 (mkF m 31 #[.val (.int p1), .val (.ref u_Encoding_ALL), .val (.int (5 : Int32)), .val (.int (2 : Int32)), .val (.ref u_Encoding_LOWER_UPPER_DIGIT_SPECIAL)] [])
        refine OwnGo.st (fun _ k => XS.iinc X8.here hx rfl (hb hby d2_31) rfl (l' := #[.val (.int p1), .val (.ref u_Encoding_ALL), .val (.int (5 : Int32)), .val (.int ((2 : Int32) + (1 : Int32))), .val (.ref u_Encoding_LOWER_UPPER_DIGIT_SPECIAL)]) rfl k) ?_
        show OwnGo p e below s _ _ _ T8 (mkF m 34 #[.val (.int p1), .val (.ref u_Encoding_ALL), .val (.int (5 : Int32)), .val (.int ((2 : Int32) + (1 : Int32))), .val (.ref u_Encoding_LOWER_UPPER_DIGIT_SPECIAL)] [])
        show OwnGo p e below s _ _ _ T8 (mkF m 34 #[.val (.int p1), .val (.ref u_Encoding_ALL), .val (.int (5 : Int32)), .val (.int (3 : Int32)), .val (.ref u_Encoding_LOWER_UPPER_DIGIT_SPECIAL)] [])
        refine OwnGo.st (fun _ k => XS.goto X8.here hx rfl (pc0 := 34) (pc' := 9) rfl (hb hby d2_34) (by decide) (by decide) k) ?_
        show OwnGo p e below s _ _ _ T8 (mkF m 9 #[.val (.int p1), .val (.ref u_Encoding_ALL), .val (.int (5 : Int32)), .val (.int (3 : Int32)), .val (.ref u_Encoding_LOWER_UPPER_DIGIT_SPECIAL)] [])
        refine OwnGo.st (fun _ k => XS.iloadN X8.here hx rfl (hb hby d2_9) rfl  k) ?_
        show OwnGo p e below s _ _ _ T8 (mkF m 10 #[.val (.int p1), .val (.ref u_Encoding_ALL), .val (.int (5 : Int32)), .val (.int (3 : Int32)), .val (.ref u_Encoding_LOWER_UPPER_DIGIT_SPECIAL)] [(.int (3 : Int32))])
        refine OwnGo.st (fun _ k => XS.iloadN X8.here hx rfl (hb hby d2_10) rfl  k) ?_
        show OwnGo p e below s _ _ _ T8 (mkF m 11 #[.val (.int p1), .val (.ref u_Encoding_ALL), .val (.int (5 : Int32)), .val (.int (3 : Int32)), .val (.ref u_Encoding_LOWER_UPPER_DIGIT_SPECIAL)] [(.int (5 : Int32)), (.int (3 : Int32))])
        refine OwnGo.st (fun _ k => XS.icmpNo X8.here hx rfl (hb hby d2_11) rfl (tlt ((by decide) : (3 : Int32) < (5 : Int32))).2.1 k) ?_
        show OwnGo p e below s _ _ _ T8 (mkF m 14 #[.val (.int p1), .val (.ref u_Encoding_ALL), .val (.int (5 : Int32)), .val (.int (3 : Int32)), .val (.ref u_Encoding_LOWER_UPPER_DIGIT_SPECIAL)] [])
        refine OwnGo.st (fun _ k => XS.aloadN X8.here hx rfl (hb hby d2_14) rfl rfl  k) ?_
        show OwnGo p e below s _ _ _ T8 (mkF m 15 #[.val (.int p1), .val (.ref u_Encoding_ALL), .val (.int (5 : Int32)), .val (.int (3 : Int32)), .val (.ref u_Encoding_LOWER_UPPER_DIGIT_SPECIAL)] [(.ref u_Encoding_ALL)])
        refine OwnGo.st (fun _ k => XS.iloadN X8.here hx rfl (hb hby d2_15) rfl  k) ?_
        show OwnGo p e below s _ _ _ T8 (mkF m 16 #[.val (.int p1), .val (.ref u_Encoding_ALL), .val (.int (5 : Int32)), .val (.int (3 : Int32)), .val (.ref u_Encoding_LOWER_UPPER_DIGIT_SPECIAL)] [(.int (3 : Int32)), (.ref u_Encoding_ALL)])
        obtain ⟨cl9, Ar9, -, S9, -, H9, -⟩ := id (V_u_Encoding_ALL.ext O_.2)
        have hin9 : ¬ ((3 : Int32) < 0 ∨ cl9.slots.size ≤ ((3 : Int32)).toNatClampNeg) := inb_of S9 ⟨by decide, by decide⟩
        refine OwnGo.st (fun _ k => X8.aaload hx (j := (3 : Int32)) (v := (.ref u_Encoding_FIRST_TO_LOWER_SPECIAL)) (by rw [e8]; exact Ar9.1) (State.isArrayOf_alike hZ.alike Ar9.2.1) rfl Ar9.2.2 hin9 (H9.at hin9 rfl) (g := (mkF m 16 #[.val (.int p1), .val (.ref u_Encoding_ALL), .val (.int (5 : Int32)), .val (.int (3 : Int32)), .val (.ref u_Encoding_LOWER_UPPER_DIGIT_SPECIAL)] [(.int (3 : Int32)), (.ref u_Encoding_ALL)])) rfl rfl (hb hby d2_16) _ k) ?_
        show OwnGo p e below s _ _ _ T8 (mkF m 17 #[.val (.int p1), .val (.ref u_Encoding_ALL), .val (.int (5 : Int32)), .val (.int (3 : Int32)), .val (.ref u_Encoding_LOWER_UPPER_DIGIT_SPECIAL)] [(.ref u_Encoding_FIRST_TO_LOWER_SPECIAL)])
        refine OwnGo.st (fun _ k => XS.astore X8.here hx rfl (hb hby d2_17) rfl rfl (l' := #[.val (.int p1), .val (.ref u_Encoding_ALL), .val (.int (5 : Int32)), .val (.int (3 : Int32)), .val (.ref u_Encoding_FIRST_TO_LOWER_SPECIAL)]) rfl k) ?_
        show OwnGo p e below s _ _ _ T8 (mkF m 19 #[.val (.int p1), .val (.ref u_Encoding_ALL), .val (.int (5 : Int32)), .val (.int (3 : Int32)), .val (.ref u_Encoding_FIRST_TO_LOWER_SPECIAL)] [])
        refine OwnGo.st (fun _ k => XS.aload X8.here hx rfl (hb hby d2_19) rfl rfl  k) ?_
        show OwnGo p e below s _ _ _ T8 (mkF m 21 #[.val (.int p1), .val (.ref u_Encoding_ALL), .val (.int (5 : Int32)), .val (.int (3 : Int32)), .val (.ref u_Encoding_FIRST_TO_LOWER_SPECIAL)] [(.ref u_Encoding_FIRST_TO_LOWER_SPECIAL)])
        obtain ⟨T10, X10, e10, st10⟩ := getF X8 hx hZ hown (host := "") (Or.inl (hw _ (List.mem_of_getElem? (i := 11) rfl))) Via.refl e8 (F_u_Encoding_FIRST_TO_LOWER_SPECIAL_flag.ext O_.2) (g := (mkF m 21 #[.val (.int p1), .val (.ref u_Encoding_ALL), .val (.int (5 : Int32)), .val (.int (3 : Int32)), .val (.ref u_Encoding_FIRST_TO_LOWER_SPECIAL)] [(.ref u_Encoding_FIRST_TO_LOWER_SPECIAL)])) rfl rfl (hb hby d2_21)
        refine OwnGo.st st10 ?_
        show OwnGo p e below s _ _ _ T10 (mkF m 24 #[.val (.int p1), .val (.ref u_Encoding_ALL), .val (.int (5 : Int32)), .val (.int (3 : Int32)), .val (.ref u_Encoding_FIRST_TO_LOWER_SPECIAL)] [(.int (3 : Int32))])
        refine OwnGo.st (fun _ k => XS.iloadN X10.here hx rfl (hb hby d2_24) rfl  k) ?_
        show OwnGo p e below s _ _ _ T10 (mkF m 25 #[.val (.int p1), .val (.ref u_Encoding_ALL), .val (.int (5 : Int32)), .val (.int (3 : Int32)), .val (.ref u_Encoding_FIRST_TO_LOWER_SPECIAL)] [(.int p1), (.int (3 : Int32))])
        by_cases hk3 : (3 : Int32) = p1
        · refine OwnGo.st (fun _ k => XS.icmpNo X10.here hx rfl (hb hby d2_25) rfl (teq (hk3 : (3 : Int32) = p1)).2 k) ?_
          show OwnGo p e below s _ _ _ T10 (mkF m 28 #[.val (.int p1), .val (.ref u_Encoding_ALL), .val (.int (5 : Int32)), .val (.int (3 : Int32)), .val (.ref u_Encoding_FIRST_TO_LOWER_SPECIAL)] [])
          refine OwnGo.st (fun _ k => XS.aload X10.here hx rfl (hb hby d2_28) rfl rfl  k) ?_
          show OwnGo p e below s _ _ _ T10 (mkF m 30 #[.val (.int p1), .val (.ref u_Encoding_ALL), .val (.int (5 : Int32)), .val (.int (3 : Int32)), .val (.ref u_Encoding_FIRST_TO_LOWER_SPECIAL)] [(.ref u_Encoding_FIRST_TO_LOWER_SPECIAL)])
          exact OwnGo.ret X10 hx hret hlk rfl (Or.inr (Or.inr (Or.inr (Or.inr ⟨rfl, rfl, rfl⟩)))) (hb hby d2_30) (by show Q2 Z p1 u_Encoding_ALL u_Encoding_UTF_8 u_Encoding_LOWER_SPECIAL u_Encoding_LOWER_UPPER_DIGIT_SPECIAL u_Encoding_FIRST_TO_LOWER_SPECIAL u_Encoding_ALL_TO_LOWER_SPECIAL kc_u_Encoding_ALL h0 n0 _ T10.heap _; rw [e10]; exact ⟨congrArg some (own_pk3 hk3.symm).symm, N0, rfl⟩) (by decide) (by decide)
        · refine OwnGo.st (fun _ k => XS.icmpYes X10.here hx rfl (pc0 := 25) (pc' := 31) rfl (hb hby d2_25) rfl (feq (hk3 : ¬ ((3 : Int32) = p1))).2 (by decide) (by decide) k) ?_
          show OwnGo p e below s _ _ _ T10 (mkF m 31 #[.val (.int p1), .val (.ref u_Encoding_ALL), .val (.int (5 : Int32)), .val (.int (3 : Int32)), .val (.ref u_Encoding_FIRST_TO_LOWER_SPECIAL)] [])
          refine OwnGo.st (fun _ k => XS.iinc X10.here hx rfl (hb hby d2_31) rfl (l' := #[.val (.int p1), .val (.ref u_Encoding_ALL), .val (.int (5 : Int32)), .val (.int ((3 : Int32) + (1 : Int32))), .val (.ref u_Encoding_FIRST_TO_LOWER_SPECIAL)]) rfl k) ?_
          show OwnGo p e below s _ _ _ T10 (mkF m 34 #[.val (.int p1), .val (.ref u_Encoding_ALL), .val (.int (5 : Int32)), .val (.int ((3 : Int32) + (1 : Int32))), .val (.ref u_Encoding_FIRST_TO_LOWER_SPECIAL)] [])
          show OwnGo p e below s _ _ _ T10 (mkF m 34 #[.val (.int p1), .val (.ref u_Encoding_ALL), .val (.int (5 : Int32)), .val (.int (4 : Int32)), .val (.ref u_Encoding_FIRST_TO_LOWER_SPECIAL)] [])
          refine OwnGo.st (fun _ k => XS.goto X10.here hx rfl (pc0 := 34) (pc' := 9) rfl (hb hby d2_34) (by decide) (by decide) k) ?_
          show OwnGo p e below s _ _ _ T10 (mkF m 9 #[.val (.int p1), .val (.ref u_Encoding_ALL), .val (.int (5 : Int32)), .val (.int (4 : Int32)), .val (.ref u_Encoding_FIRST_TO_LOWER_SPECIAL)] [])
          refine OwnGo.st (fun _ k => XS.iloadN X10.here hx rfl (hb hby d2_9) rfl  k) ?_
          show OwnGo p e below s _ _ _ T10 (mkF m 10 #[.val (.int p1), .val (.ref u_Encoding_ALL), .val (.int (5 : Int32)), .val (.int (4 : Int32)), .val (.ref u_Encoding_FIRST_TO_LOWER_SPECIAL)] [(.int (4 : Int32))])
          refine OwnGo.st (fun _ k => XS.iloadN X10.here hx rfl (hb hby d2_10) rfl  k) ?_
          show OwnGo p e below s _ _ _ T10 (mkF m 11 #[.val (.int p1), .val (.ref u_Encoding_ALL), .val (.int (5 : Int32)), .val (.int (4 : Int32)), .val (.ref u_Encoding_FIRST_TO_LOWER_SPECIAL)] [(.int (5 : Int32)), (.int (4 : Int32))])
          refine OwnGo.st (fun _ k => XS.icmpNo X10.here hx rfl (hb hby d2_11) rfl (tlt ((by decide) : (4 : Int32) < (5 : Int32))).2.1 k) ?_
          show OwnGo p e below s _ _ _ T10 (mkF m 14 #[.val (.int p1), .val (.ref u_Encoding_ALL), .val (.int (5 : Int32)), .val (.int (4 : Int32)), .val (.ref u_Encoding_FIRST_TO_LOWER_SPECIAL)] [])
          refine OwnGo.st (fun _ k => XS.aloadN X10.here hx rfl (hb hby d2_14) rfl rfl  k) ?_
          show OwnGo p e below s _ _ _ T10 (mkF m 15 #[.val (.int p1), .val (.ref u_Encoding_ALL), .val (.int (5 : Int32)), .val (.int (4 : Int32)), .val (.ref u_Encoding_FIRST_TO_LOWER_SPECIAL)] [(.ref u_Encoding_ALL)])
          refine OwnGo.st (fun _ k => XS.iloadN X10.here hx rfl (hb hby d2_15) rfl  k) ?_
          show OwnGo p e below s _ _ _ T10 (mkF m 16 #[.val (.int p1), .val (.ref u_Encoding_ALL), .val (.int (5 : Int32)), .val (.int (4 : Int32)), .val (.ref u_Encoding_FIRST_TO_LOWER_SPECIAL)] [(.int (4 : Int32)), (.ref u_Encoding_ALL)])
          obtain ⟨cl11, Ar11, -, S11, -, H11, -⟩ := id (V_u_Encoding_ALL.ext O_.2)
          have hin11 : ¬ ((4 : Int32) < 0 ∨ cl11.slots.size ≤ ((4 : Int32)).toNatClampNeg) := inb_of S11 ⟨by decide, by decide⟩
          refine OwnGo.st (fun _ k => X10.aaload hx (j := (4 : Int32)) (v := (.ref u_Encoding_ALL_TO_LOWER_SPECIAL)) (by rw [e10]; exact Ar11.1) (State.isArrayOf_alike hZ.alike Ar11.2.1) rfl Ar11.2.2 hin11 (H11.at hin11 rfl) (g := (mkF m 16 #[.val (.int p1), .val (.ref u_Encoding_ALL), .val (.int (5 : Int32)), .val (.int (4 : Int32)), .val (.ref u_Encoding_FIRST_TO_LOWER_SPECIAL)] [(.int (4 : Int32)), (.ref u_Encoding_ALL)])) rfl rfl (hb hby d2_16) _ k) ?_
          show OwnGo p e below s _ _ _ T10 (mkF m 17 #[.val (.int p1), .val (.ref u_Encoding_ALL), .val (.int (5 : Int32)), .val (.int (4 : Int32)), .val (.ref u_Encoding_FIRST_TO_LOWER_SPECIAL)] [(.ref u_Encoding_ALL_TO_LOWER_SPECIAL)])
          refine OwnGo.st (fun _ k => XS.astore X10.here hx rfl (hb hby d2_17) rfl rfl (l' := #[.val (.int p1), .val (.ref u_Encoding_ALL), .val (.int (5 : Int32)), .val (.int (4 : Int32)), .val (.ref u_Encoding_ALL_TO_LOWER_SPECIAL)]) rfl k) ?_
          show OwnGo p e below s _ _ _ T10 (mkF m 19 #[.val (.int p1), .val (.ref u_Encoding_ALL), .val (.int (5 : Int32)), .val (.int (4 : Int32)), .val (.ref u_Encoding_ALL_TO_LOWER_SPECIAL)] [])
          refine OwnGo.st (fun _ k => XS.aload X10.here hx rfl (hb hby d2_19) rfl rfl  k) ?_
          show OwnGo p e below s _ _ _ T10 (mkF m 21 #[.val (.int p1), .val (.ref u_Encoding_ALL), .val (.int (5 : Int32)), .val (.int (4 : Int32)), .val (.ref u_Encoding_ALL_TO_LOWER_SPECIAL)] [(.ref u_Encoding_ALL_TO_LOWER_SPECIAL)])
          obtain ⟨T12, X12, e12, st12⟩ := getF X10 hx hZ hown (host := "") (Or.inl (hw _ (List.mem_of_getElem? (i := 11) rfl))) Via.refl e10 (F_u_Encoding_ALL_TO_LOWER_SPECIAL_flag.ext O_.2) (g := (mkF m 21 #[.val (.int p1), .val (.ref u_Encoding_ALL), .val (.int (5 : Int32)), .val (.int (4 : Int32)), .val (.ref u_Encoding_ALL_TO_LOWER_SPECIAL)] [(.ref u_Encoding_ALL_TO_LOWER_SPECIAL)])) rfl rfl (hb hby d2_21)
          refine OwnGo.st st12 ?_
          show OwnGo p e below s _ _ _ T12 (mkF m 24 #[.val (.int p1), .val (.ref u_Encoding_ALL), .val (.int (5 : Int32)), .val (.int (4 : Int32)), .val (.ref u_Encoding_ALL_TO_LOWER_SPECIAL)] [(.int (4 : Int32))])
          refine OwnGo.st (fun _ k => XS.iloadN X12.here hx rfl (hb hby d2_24) rfl  k) ?_
          show OwnGo p e below s _ _ _ T12 (mkF m 25 #[.val (.int p1), .val (.ref u_Encoding_ALL), .val (.int (5 : Int32)), .val (.int (4 : Int32)), .val (.ref u_Encoding_ALL_TO_LOWER_SPECIAL)] [(.int p1), (.int (4 : Int32))])
          by_cases hk4 : (4 : Int32) = p1
          · refine OwnGo.st (fun _ k => XS.icmpNo X12.here hx rfl (hb hby d2_25) rfl (teq (hk4 : (4 : Int32) = p1)).2 k) ?_
            show OwnGo p e below s _ _ _ T12 (mkF m 28 #[.val (.int p1), .val (.ref u_Encoding_ALL), .val (.int (5 : Int32)), .val (.int (4 : Int32)), .val (.ref u_Encoding_ALL_TO_LOWER_SPECIAL)] [])
            refine OwnGo.st (fun _ k => XS.aload X12.here hx rfl (hb hby d2_28) rfl rfl  k) ?_
            show OwnGo p e below s _ _ _ T12 (mkF m 30 #[.val (.int p1), .val (.ref u_Encoding_ALL), .val (.int (5 : Int32)), .val (.int (4 : Int32)), .val (.ref u_Encoding_ALL_TO_LOWER_SPECIAL)] [(.ref u_Encoding_ALL_TO_LOWER_SPECIAL)])
            exact OwnGo.ret X12 hx hret hlk rfl (Or.inr (Or.inr (Or.inr (Or.inr ⟨rfl, rfl, rfl⟩)))) (hb hby d2_30) (by show Q2 Z p1 u_Encoding_ALL u_Encoding_UTF_8 u_Encoding_LOWER_SPECIAL u_Encoding_LOWER_UPPER_DIGIT_SPECIAL u_Encoding_FIRST_TO_LOWER_SPECIAL u_Encoding_ALL_TO_LOWER_SPECIAL kc_u_Encoding_ALL h0 n0 _ T12.heap _; rw [e12]; exact ⟨congrArg some (own_pk4 hk4.symm).symm, N0, rfl⟩) (by decide) (by decide)
          · refine OwnGo.st (fun _ k => XS.icmpYes X12.here hx rfl (pc0 := 25) (pc' := 31) rfl (hb hby d2_25) rfl (feq (hk4 : ¬ ((4 : Int32) = p1))).2 (by decide) (by decide) k) ?_
            show OwnGo p e below s _ _ _ T12 (mkF m 31 #[.val (.int p1), .val (.ref u_Encoding_ALL), .val (.int (5 : Int32)), .val (.int (4 : Int32)), .val (.ref u_Encoding_ALL_TO_LOWER_SPECIAL)] [])
            refine OwnGo.st (fun _ k => XS.iinc X12.here hx rfl (hb hby d2_31) rfl (l' := #[.val (.int p1), .val (.ref u_Encoding_ALL), .val (.int (5 : Int32)), .val (.int ((4 : Int32) + (1 : Int32))), .val (.ref u_Encoding_ALL_TO_LOWER_SPECIAL)]) rfl k) ?_
            show OwnGo p e below s _ _ _ T12 (mkF m 34 #[.val (.int p1), .val (.ref u_Encoding_ALL), .val (.int (5 : Int32)), .val (.int ((4 : Int32) + (1 : Int32))), .val (.ref u_Encoding_ALL_TO_LOWER_SPECIAL)] [])
            show OwnGo p e below s _ _ _ T12 (mkF m 34 #[.val (.int p1), .val (.ref u_Encoding_ALL), .val (.int (5 : Int32)), .val (.int (5 : Int32)), .val (.ref u_Encoding_ALL_TO_LOWER_SPECIAL)] [])
            refine OwnGo.st (fun _ k => XS.goto X12.here hx rfl (pc0 := 34) (pc' := 9) rfl (hb hby d2_34) (by decide) (by decide) k) ?_
            show OwnGo p e below s _ _ _ T12 (mkF m 9 #[.val (.int p1), .val (.ref u_Encoding_ALL), .val (.int (5 : Int32)), .val (.int (5 : Int32)), .val (.ref u_Encoding_ALL_TO_LOWER_SPECIAL)] [])
            refine OwnGo.st (fun _ k => XS.iloadN X12.here hx rfl (hb hby d2_9) rfl  k) ?_
            show OwnGo p e below s _ _ _ T12 (mkF m 10 #[.val (.int p1), .val (.ref u_Encoding_ALL), .val (.int (5 : Int32)), .val (.int (5 : Int32)), .val (.ref u_Encoding_ALL_TO_LOWER_SPECIAL)] [(.int (5 : Int32))])
            refine OwnGo.st (fun _ k => XS.iloadN X12.here hx rfl (hb hby d2_10) rfl  k) ?_
            show OwnGo p e below s _ _ _ T12 (mkF m 11 #[.val (.int p1), .val (.ref u_Encoding_ALL), .val (.int (5 : Int32)), .val (.int (5 : Int32)), .val (.ref u_Encoding_ALL_TO_LOWER_SPECIAL)] [(.int (5 : Int32)), (.int (5 : Int32))])
            refine OwnGo.st (fun _ k => XS.icmpYes X12.here hx rfl (pc0 := 11) (pc' := 37) rfl (hb hby d2_11) rfl (flt ((by decide) : ¬ ((5 : Int32) < (5 : Int32)))).2.1 (by decide) (by decide) k) ?_
            show OwnGo p e below s _ _ _ T12 (mkF m 37 #[.val (.int p1), .val (.ref u_Encoding_ALL), .val (.int (5 : Int32)), .val (.int (5 : Int32)), .val (.ref u_Encoding_ALL_TO_LOWER_SPECIAL)] [])
            refine OwnGo.st (fun _ k => XS.aconstNull X12.here hx rfl (hb hby d2_37) k) ?_
            show OwnGo p e below s _ _ _ T12 (mkF m 38 #[.val (.int p1), .val (.ref u_Encoding_ALL), .val (.int (5 : Int32)), .val (.int (5 : Int32)), .val (.ref u_Encoding_ALL_TO_LOWER_SPECIAL)] [.null])
            exact OwnGo.ret X12 hx hret hlk rfl (Or.inr (Or.inr (Or.inr (Or.inr ⟨rfl, rfl, rfl⟩)))) (hb hby d2_38) (by show Q2 Z p1 u_Encoding_ALL u_Encoding_UTF_8 u_Encoding_LOWER_SPECIAL u_Encoding_LOWER_UPPER_DIGIT_SPECIAL u_Encoding_FIRST_TO_LOWER_SPECIAL u_Encoding_ALL_TO_LOWER_SPECIAL kc_u_Encoding_ALL h0 n0 _ T12.heap _; rw [e12]; exact ⟨congrArg some (own_pkN (fun q => hk0 q.symm) (fun q => hk1 q.symm) (fun q => hk2 q.symm) (fun q => hk3 q.symm) (fun q => hk4 q.symm)).symm, N0, rfl⟩) (by decide) (by decide)
def Q3 (Z : State) (p1 : Int32) (u_Encoding_ALL : Addr) (u_Encoding_UTF_8 : Addr) (u_Encoding_LOWER_SPECIAL : Addr) (u_Encoding_LOWER_UPPER_DIGIT_SPECIAL : Addr) (u_Encoding_FIRST_TO_LOWER_SPECIAL : Addr) (u_Encoding_ALL_TO_LOWER_SPECIAL : Addr) (kc_u_Encoding_ALL : ClassId) (h0 : Heap) (n0 : Nat) (v : Option Value) (h : Heap) (L : List Loc) : Prop := v = some (own_pick p1 u_Encoding_UTF_8 u_Encoding_LOWER_SPECIAL u_Encoding_LOWER_UPPER_DIGIT_SPECIAL u_Encoding_FIRST_TO_LOWER_SPECIAL u_Encoding_ALL_TO_LOWER_SPECIAL) ∧ Fr n0 L ∧ h = h0
set_option maxRecDepth 65536 in
set_option maxHeartbeats 40000000 in
theorem rm3 (l : Launch) (Z : State) (a0 : Array Value) (hw : ∀ d ∈ tables_1, d.before a0 Z = true) (ws : List Jvm.Cond) (p1 : Int32) (u_Encoding_ALL : Addr) (u_Encoding_UTF_8 : Addr) (u_Encoding_LOWER_SPECIAL : Addr) (u_Encoding_LOWER_UPPER_DIGIT_SPECIAL : Addr) (u_Encoding_FIRST_TO_LOWER_SPECIAL : Addr) (u_Encoding_ALL_TO_LOWER_SPECIAL : Addr) (kc_u_Encoding_ALL : ClassId) (h0 : Heap) (n0 : Nat) (Z0 : n0 ≤ h0.size) (O_ : Old Z n0 h0) (S_u_Encoding_ALL : Sta Z Z.heap "io/quintet/MetaString$Encoding" "ALL" "[Lio/quintet/MetaString$Encoding;" (.ref u_Encoding_ALL)) (S_u_Encoding_UTF_8 : Sta Z Z.heap "io/quintet/MetaString$Encoding" "UTF_8" "Lio/quintet/MetaString$Encoding;" (.ref u_Encoding_UTF_8)) (E_u_Encoding_UTF_8 : Exa Z Z.heap u_Encoding_UTF_8 "io/quintet/MetaString$Encoding") (F_u_Encoding_UTF_8_flag : Fld Z Z.heap u_Encoding_UTF_8 "io/quintet/MetaString$Encoding" "flag" "I" (.int (0 : Int32))) (S_u_Encoding_LOWER_SPECIAL : Sta Z Z.heap "io/quintet/MetaString$Encoding" "LOWER_SPECIAL" "Lio/quintet/MetaString$Encoding;" (.ref u_Encoding_LOWER_SPECIAL)) (E_u_Encoding_LOWER_SPECIAL : Exa Z Z.heap u_Encoding_LOWER_SPECIAL "io/quintet/MetaString$Encoding") (F_u_Encoding_LOWER_SPECIAL_flag : Fld Z Z.heap u_Encoding_LOWER_SPECIAL "io/quintet/MetaString$Encoding" "flag" "I" (.int (1 : Int32))) (S_u_Encoding_LOWER_UPPER_DIGIT_SPECIAL : Sta Z Z.heap "io/quintet/MetaString$Encoding" "LOWER_UPPER_DIGIT_SPECIAL" "Lio/quintet/MetaString$Encoding;" (.ref u_Encoding_LOWER_UPPER_DIGIT_SPECIAL)) (E_u_Encoding_LOWER_UPPER_DIGIT_SPECIAL : Exa Z Z.heap u_Encoding_LOWER_UPPER_DIGIT_SPECIAL "io/quintet/MetaString$Encoding") (F_u_Encoding_LOWER_UPPER_DIGIT_SPECIAL_flag : Fld Z Z.heap u_Encoding_LOWER_UPPER_DIGIT_SPECIAL "io/quintet/MetaString$Encoding" "flag" "I" (.int (2 : Int32))) (S_u_Encoding_FIRST_TO_LOWER_SPECIAL : Sta Z Z.heap "io/quintet/MetaString$Encoding" "FIRST_TO_LOWER_SPECIAL" "Lio/quintet/MetaString$Encoding;" (.ref u_Encoding_FIRST_TO_LOWER_SPECIAL)) (E_u_Encoding_FIRST_TO_LOWER_SPECIAL : Exa Z Z.heap u_Encoding_FIRST_TO_LOWER_SPECIAL "io/quintet/MetaString$Encoding") (F_u_Encoding_FIRST_TO_LOWER_SPECIAL_flag : Fld Z Z.heap u_Encoding_FIRST_TO_LOWER_SPECIAL "io/quintet/MetaString$Encoding" "flag" "I" (.int (3 : Int32))) (S_u_Encoding_ALL_TO_LOWER_SPECIAL : Sta Z Z.heap "io/quintet/MetaString$Encoding" "ALL_TO_LOWER_SPECIAL" "Lio/quintet/MetaString$Encoding;" (.ref u_Encoding_ALL_TO_LOWER_SPECIAL)) (E_u_Encoding_ALL_TO_LOWER_SPECIAL : Exa Z Z.heap u_Encoding_ALL_TO_LOWER_SPECIAL "io/quintet/MetaString$Encoding") (F_u_Encoding_ALL_TO_LOWER_SPECIAL_flag : Fld Z Z.heap u_Encoding_ALL_TO_LOWER_SPECIAL "io/quintet/MetaString$Encoding" "flag" "I" (.int (4 : Int32))) (V_u_Encoding_ALL : Arv Z Z.heap u_Encoding_ALL kc_u_Encoding_ALL (Jvm.ClassFile.FieldType.object "io/quintet/MetaString$Encoding") (5 : Int32) [(.ref u_Encoding_UTF_8), (.ref u_Encoding_LOWER_SPECIAL), (.ref u_Encoding_LOWER_UPPER_DIGIT_SPECIAL), (.ref u_Encoding_FIRST_TO_LOWER_SPECIAL), (.ref u_Encoding_ALL_TO_LOWER_SPECIAL)] .null) :
    MetFree l (⟨"io/quintet/EncodingOfFlagPinLaw", "expected", "(I)Lio/quintet/MetaString$Encoding;"⟩ : MethodName) (head1 (Jvm.Cond.code (⟨"io/quintet/EncodingOfFlagPinLaw", "expected", "(I)Lio/quintet/MetaString$Encoding;"⟩ : MethodName) method_2_code 1 (some (.object "io/quintet/MetaString$Encoding")) :: ws) ({ frames := 0, cells := 0, slots := 0, locals := 0 } : Room)) (fun as_ U => as_ = #[(.int p1)] ∧ Z.Warmed39 U.vm ∧ U.heap = h0) (fun _ _ _ _ _ => True) (fun _ U o U' => ∃ v L, o = .returned v ∧ (Q3 Z p1 u_Encoding_ALL u_Encoding_UTF_8 u_Encoding_LOWER_SPECIAL u_Encoding_LOWER_UPPER_DIGIT_SPECIAL u_Encoding_FIRST_TO_LOWER_SPECIAL u_Encoding_ALL_TO_LOWER_SPECIAL kc_u_Encoding_ALL h0 n0) v U'.heap L ∧ FrameEnd U o U' L ({ frames := 0, cells := 0, slots := 0, locals := 0 } : Room).cells ({ frames := 0, cells := 0, slots := 0, locals := 0 } : Room).slots) := by
  refine own_met (plainFor_of_name pn_3) ?_
  intro p e s m below meth c s₁ X0 hx hby hml hret hlk hown hnm hZ e0
  have N0 := Fr.nil n0
  have Z_ := Z0
  refine OwnGo.cast (ef_3 m p1) ?_
  show OwnGo p e below s _ _ _ s₁ (mkF m 0 #[.val (.int p1)] [])
  refine OwnGo.st (fun _ k => XS.iloadN X0.here hx rfl (hb hby d3_0) rfl  k) ?_
  show OwnGo p e below s _ _ _ s₁ (mkF m 1 #[.val (.int p1)] [(.int p1)])
  by_cases hk0 : p1 = (0 : Int32)
  · refine OwnGo.st (fun _ k => XS.ifNo X0.here hx rfl (hb hby d3_1) rfl ((if0 _ _).trans (teq (hk0 : p1 = (0 : Int32))).2) k) ?_
    show OwnGo p e below s _ _ _ s₁ (mkF m 4 #[.val (.int p1)] [])
    obtain ⟨T13, X13, e13, st13⟩ := getS2 X0 hx hZ hown (host := "") (Or.inl (hw _ (List.mem_of_getElem? (i := 16) rfl))) Via.refl e0 (S_u_Encoding_UTF_8.ext O_.2) (g := (mkF m 4 #[.val (.int p1)] [])) rfl (hb hby d3_4)
    refine OwnGo.st st13 ?_
    show OwnGo p e below s _ _ _ T13 (mkF m 7 #[.val (.int p1)] [(.ref u_Encoding_UTF_8)])
    exact OwnGo.ret X13 hx hret hlk rfl (Or.inr (Or.inr (Or.inr (Or.inr ⟨rfl, rfl, rfl⟩)))) (hb hby d3_7) (by show Q3 Z p1 u_Encoding_ALL u_Encoding_UTF_8 u_Encoding_LOWER_SPECIAL u_Encoding_LOWER_UPPER_DIGIT_SPECIAL u_Encoding_FIRST_TO_LOWER_SPECIAL u_Encoding_ALL_TO_LOWER_SPECIAL kc_u_Encoding_ALL h0 n0 _ T13.heap _; rw [e13]; exact ⟨congrArg some (own_pk0 hk0).symm, N0, rfl⟩) (by decide) (by decide)
  · refine OwnGo.st (fun _ k => XS.ifYes X0.here hx rfl (pc0 := 1) (pc' := 8) rfl (hb hby d3_1) rfl ((if0 _ _).trans (feq (hk0 : ¬ (p1 = (0 : Int32)))).2) (by decide) (by decide) k) ?_
    show OwnGo p e below s _ _ _ s₁ (mkF m 8 #[.val (.int p1)] [])
    refine OwnGo.st (fun _ k => XS.iloadN X0.here hx rfl (hb hby d3_8) rfl  k) ?_
    show OwnGo p e below s _ _ _ s₁ (mkF m 9 #[.val (.int p1)] [(.int p1)])
    refine OwnGo.st (fun _ k => XS.iconst X0.here hx rfl (hb hby d3_9) k) ?_
    show OwnGo p e below s _ _ _ s₁ (mkF m 10 #[.val (.int p1)] [(.int (1 : Int32)), (.int p1)])
    by_cases hk1 : p1 = (1 : Int32)
    · refine OwnGo.st (fun _ k => XS.icmpNo X0.here hx rfl (hb hby d3_10) rfl (teq (hk1 : p1 = (1 : Int32))).2 k) ?_
      show OwnGo p e below s _ _ _ s₁ (mkF m 13 #[.val (.int p1)] [])
      obtain ⟨T14, X14, e14, st14⟩ := getS2 X0 hx hZ hown (host := "") (Or.inl (hw _ (List.mem_of_getElem? (i := 27) rfl))) Via.refl e0 (S_u_Encoding_LOWER_SPECIAL.ext O_.2) (g := (mkF m 13 #[.val (.int p1)] [])) rfl (hb hby d3_13)
      refine OwnGo.st st14 ?_
      show OwnGo p e below s _ _ _ T14 (mkF m 16 #[.val (.int p1)] [(.ref u_Encoding_LOWER_SPECIAL)])
      exact OwnGo.ret X14 hx hret hlk rfl (Or.inr (Or.inr (Or.inr (Or.inr ⟨rfl, rfl, rfl⟩)))) (hb hby d3_16) (by show Q3 Z p1 u_Encoding_ALL u_Encoding_UTF_8 u_Encoding_LOWER_SPECIAL u_Encoding_LOWER_UPPER_DIGIT_SPECIAL u_Encoding_FIRST_TO_LOWER_SPECIAL u_Encoding_ALL_TO_LOWER_SPECIAL kc_u_Encoding_ALL h0 n0 _ T14.heap _; rw [e14]; exact ⟨congrArg some (own_pk1 hk1).symm, N0, rfl⟩) (by decide) (by decide)
    · refine OwnGo.st (fun _ k => XS.icmpYes X0.here hx rfl (pc0 := 10) (pc' := 17) rfl (hb hby d3_10) rfl (feq (hk1 : ¬ (p1 = (1 : Int32)))).2 (by decide) (by decide) k) ?_
      show OwnGo p e below s _ _ _ s₁ (mkF m 17 #[.val (.int p1)] [])
      refine OwnGo.st (fun _ k => XS.iloadN X0.here hx rfl (hb hby d3_17) rfl  k) ?_
      show OwnGo p e below s _ _ _ s₁ (mkF m 18 #[.val (.int p1)] [(.int p1)])
      refine OwnGo.st (fun _ k => XS.iconst X0.here hx rfl (hb hby d3_18) k) ?_
      show OwnGo p e below s _ _ _ s₁ (mkF m 19 #[.val (.int p1)] [(.int (2 : Int32)), (.int p1)])
      by_cases hk2 : p1 = (2 : Int32)
      · refine OwnGo.st (fun _ k => XS.icmpNo X0.here hx rfl (hb hby d3_19) rfl (teq (hk2 : p1 = (2 : Int32))).2 k) ?_
        show OwnGo p e below s _ _ _ s₁ (mkF m 22 #[.val (.int p1)] [])
        obtain ⟨T15, X15, e15, st15⟩ := getS2 X0 hx hZ hown (host := "") (Or.inl (hw _ (List.mem_of_getElem? (i := 29) rfl))) Via.refl e0 (S_u_Encoding_LOWER_UPPER_DIGIT_SPECIAL.ext O_.2) (g := (mkF m 22 #[.val (.int p1)] [])) rfl (hb hby d3_22)
        refine OwnGo.st st15 ?_
        show OwnGo p e below s _ _ _ T15 (mkF m 25 #[.val (.int p1)] [(.ref u_Encoding_LOWER_UPPER_DIGIT_SPECIAL)])
        exact OwnGo.ret X15 hx hret hlk rfl (Or.inr (Or.inr (Or.inr (Or.inr ⟨rfl, rfl, rfl⟩)))) (hb hby d3_25) (by show Q3 Z p1 u_Encoding_ALL u_Encoding_UTF_8 u_Encoding_LOWER_SPECIAL u_Encoding_LOWER_UPPER_DIGIT_SPECIAL u_Encoding_FIRST_TO_LOWER_SPECIAL u_Encoding_ALL_TO_LOWER_SPECIAL kc_u_Encoding_ALL h0 n0 _ T15.heap _; rw [e15]; exact ⟨congrArg some (own_pk2 hk2).symm, N0, rfl⟩) (by decide) (by decide)
      · refine OwnGo.st (fun _ k => XS.icmpYes X0.here hx rfl (pc0 := 19) (pc' := 26) rfl (hb hby d3_19) rfl (feq (hk2 : ¬ (p1 = (2 : Int32)))).2 (by decide) (by decide) k) ?_
        show OwnGo p e below s _ _ _ s₁ (mkF m 26 #[.val (.int p1)] [])
        refine OwnGo.st (fun _ k => XS.iloadN X0.here hx rfl (hb hby d3_26) rfl  k) ?_
        show OwnGo p e below s _ _ _ s₁ (mkF m 27 #[.val (.int p1)] [(.int p1)])
        refine OwnGo.st (fun _ k => XS.iconst X0.here hx rfl (hb hby d3_27) k) ?_
        show OwnGo p e below s _ _ _ s₁ (mkF m 28 #[.val (.int p1)] [(.int (3 : Int32)), (.int p1)])
        by_cases hk3 : p1 = (3 : Int32)
        · refine OwnGo.st (fun _ k => XS.icmpNo X0.here hx rfl (hb hby d3_28) rfl (teq (hk3 : p1 = (3 : Int32))).2 k) ?_
          show OwnGo p e below s _ _ _ s₁ (mkF m 31 #[.val (.int p1)] [])
          obtain ⟨T16, X16, e16, st16⟩ := getS2 X0 hx hZ hown (host := "") (Or.inl (hw _ (List.mem_of_getElem? (i := 25) rfl))) Via.refl e0 (S_u_Encoding_FIRST_TO_LOWER_SPECIAL.ext O_.2) (g := (mkF m 31 #[.val (.int p1)] [])) rfl (hb hby d3_31)
          refine OwnGo.st st16 ?_
          show OwnGo p e below s _ _ _ T16 (mkF m 34 #[.val (.int p1)] [(.ref u_Encoding_FIRST_TO_LOWER_SPECIAL)])
          exact OwnGo.ret X16 hx hret hlk rfl (Or.inr (Or.inr (Or.inr (Or.inr ⟨rfl, rfl, rfl⟩)))) (hb hby d3_34) (by show Q3 Z p1 u_Encoding_ALL u_Encoding_UTF_8 u_Encoding_LOWER_SPECIAL u_Encoding_LOWER_UPPER_DIGIT_SPECIAL u_Encoding_FIRST_TO_LOWER_SPECIAL u_Encoding_ALL_TO_LOWER_SPECIAL kc_u_Encoding_ALL h0 n0 _ T16.heap _; rw [e16]; exact ⟨congrArg some (own_pk3 hk3).symm, N0, rfl⟩) (by decide) (by decide)
        · refine OwnGo.st (fun _ k => XS.icmpYes X0.here hx rfl (pc0 := 28) (pc' := 35) rfl (hb hby d3_28) rfl (feq (hk3 : ¬ (p1 = (3 : Int32)))).2 (by decide) (by decide) k) ?_
          show OwnGo p e below s _ _ _ s₁ (mkF m 35 #[.val (.int p1)] [])
          refine OwnGo.st (fun _ k => XS.iloadN X0.here hx rfl (hb hby d3_35) rfl  k) ?_
          show OwnGo p e below s _ _ _ s₁ (mkF m 36 #[.val (.int p1)] [(.int p1)])
          refine OwnGo.st (fun _ k => XS.iconst X0.here hx rfl (hb hby d3_36) k) ?_
          show OwnGo p e below s _ _ _ s₁ (mkF m 37 #[.val (.int p1)] [(.int (4 : Int32)), (.int p1)])
          by_cases hk4 : p1 = (4 : Int32)
          · refine OwnGo.st (fun _ k => XS.icmpNo X0.here hx rfl (hb hby d3_37) rfl (teq (hk4 : p1 = (4 : Int32))).2 k) ?_
            show OwnGo p e below s _ _ _ s₁ (mkF m 40 #[.val (.int p1)] [])
            obtain ⟨T17, X17, e17, st17⟩ := getS2 X0 hx hZ hown (host := "") (Or.inl (hw _ (List.mem_of_getElem? (i := 28) rfl))) Via.refl e0 (S_u_Encoding_ALL_TO_LOWER_SPECIAL.ext O_.2) (g := (mkF m 40 #[.val (.int p1)] [])) rfl (hb hby d3_40)
            refine OwnGo.st st17 ?_
            show OwnGo p e below s _ _ _ T17 (mkF m 43 #[.val (.int p1)] [(.ref u_Encoding_ALL_TO_LOWER_SPECIAL)])
            exact OwnGo.ret X17 hx hret hlk rfl (Or.inr (Or.inr (Or.inr (Or.inr ⟨rfl, rfl, rfl⟩)))) (hb hby d3_43) (by show Q3 Z p1 u_Encoding_ALL u_Encoding_UTF_8 u_Encoding_LOWER_SPECIAL u_Encoding_LOWER_UPPER_DIGIT_SPECIAL u_Encoding_FIRST_TO_LOWER_SPECIAL u_Encoding_ALL_TO_LOWER_SPECIAL kc_u_Encoding_ALL h0 n0 _ T17.heap _; rw [e17]; exact ⟨congrArg some (own_pk4 hk4).symm, N0, rfl⟩) (by decide) (by decide)
          · refine OwnGo.st (fun _ k => XS.icmpYes X0.here hx rfl (pc0 := 37) (pc' := 44) rfl (hb hby d3_37) rfl (feq (hk4 : ¬ (p1 = (4 : Int32)))).2 (by decide) (by decide) k) ?_
            show OwnGo p e below s _ _ _ s₁ (mkF m 44 #[.val (.int p1)] [])
            refine OwnGo.st (fun _ k => XS.aconstNull X0.here hx rfl (hb hby d3_44) k) ?_
            show OwnGo p e below s _ _ _ s₁ (mkF m 45 #[.val (.int p1)] [.null])
            exact OwnGo.ret X0 hx hret hlk rfl (Or.inr (Or.inr (Or.inr (Or.inr ⟨rfl, rfl, rfl⟩)))) (hb hby d3_45) (by show Q3 Z p1 u_Encoding_ALL u_Encoding_UTF_8 u_Encoding_LOWER_SPECIAL u_Encoding_LOWER_UPPER_DIGIT_SPECIAL u_Encoding_FIRST_TO_LOWER_SPECIAL u_Encoding_ALL_TO_LOWER_SPECIAL kc_u_Encoding_ALL h0 n0 _ s₁.heap _; rw [e0]; exact ⟨congrArg some (own_pkN hk0 hk1 hk2 hk3 hk4).symm, N0, rfl⟩) (by decide) (by decide)
def Q4 (Z : State) (a : Addr) (z : Int32) (h0 : Heap) (n0 : Nat) (v : Option Value) (h : Heap) (L : List Loc) : Prop := v = some (.int z) ∧ Fr n0 L ∧ h = h0
set_option maxRecDepth 65536 in
set_option maxHeartbeats 40000000 in
theorem rm4 (l : Launch) (Z : State) (a0 : Array Value) (hw : ∀ d ∈ tables_1, d.before a0 Z = true) (ws : List Jvm.Cond) (a : Addr) (z : Int32) (h0 : Heap) (n0 : Nat) (Z0 : n0 ≤ h0.size) (F : Fld Z h0 a "io/quintet/MetaString$Encoding" "flag" "I" (.int z)) :
    MetFree l (⟨"io/quintet/MetaString$Encoding", "flag", "()I"⟩ : MethodName) (head1 (Jvm.Cond.code (⟨"io/quintet/MetaString$Encoding", "flag", "()I"⟩ : MethodName) prog_23_method_4_code 1 (some .int) :: ws) ({ frames := 0, cells := 0, slots := 0, locals := 0 } : Room)) (fun as_ U => as_ = #[(.ref a)] ∧ Z.Warmed39 U.vm ∧ U.heap = h0) (fun _ _ _ _ _ => True) (fun _ U o U' => ∃ v L, o = .returned v ∧ (Q4 Z a z h0 n0) v U'.heap L ∧ FrameEnd U o U' L ({ frames := 0, cells := 0, slots := 0, locals := 0 } : Room).cells ({ frames := 0, cells := 0, slots := 0, locals := 0 } : Room).slots) := by
  refine own_met (plainFor_of_name pn_2) ?_
  intro p e s m below meth c s₁ X0 hx hby hml hret hlk hown hnm hZ e0
  have N0 := Fr.nil n0
  have Z_ := Z0
  refine OwnGo.cast (ef_4 m a) ?_
  show OwnGo p e below s _ _ _ s₁ (mkF m 0 #[.val (.ref a)] [])
  refine OwnGo.st (fun _ k => XS.aloadN X0.here hx rfl (hb hby d4_0) rfl rfl  k) ?_
  show OwnGo p e below s _ _ _ s₁ (mkF m 1 #[.val (.ref a)] [(.ref a)])
  obtain ⟨T18, X18, e18, st18⟩ := getF X0 hx hZ hown (host := "") (Or.inl (hw _ (List.mem_of_getElem? (i := 11) rfl))) Via.refl e0 F (g := (mkF m 1 #[.val (.ref a)] [(.ref a)])) rfl rfl (hb hby d4_1)
  refine OwnGo.st st18 ?_
  show OwnGo p e below s _ _ _ T18 (mkF m 4 #[.val (.ref a)] [(.int z)])
  exact OwnGo.ret X18 hx hret hlk rfl (Or.inl ⟨rfl, Or.inl rfl, _, rfl⟩) (hb hby d4_4) (by show Q4 Z a z h0 n0 _ T18.heap _; rw [e18]; exact ⟨rfl, N0, rfl⟩) (by decide) (by decide)
def Q1 (Z : State) (p1 : Int32) (u_Encoding_ALL : Addr) (u_Encoding_UTF_8 : Addr) (u_Encoding_LOWER_SPECIAL : Addr) (u_Encoding_LOWER_UPPER_DIGIT_SPECIAL : Addr) (u_Encoding_FIRST_TO_LOWER_SPECIAL : Addr) (u_Encoding_ALL_TO_LOWER_SPECIAL : Addr) (kc_u_Encoding_ALL : ClassId) (h0 : Heap) (n0 : Nat) (v : Option Value) (h : Heap) (L : List Loc) : Prop := v = some (.int (1 : Int32)) ∧ Fr n0 L ∧ h = h0
set_option maxRecDepth 65536 in
set_option maxHeartbeats 40000000 in
theorem rm1 (l : Launch) (Z : State) (a0 : Array Value) (hw : ∀ d ∈ tables_1, d.before a0 Z = true) (ws : List Jvm.Cond) (p1 : Int32) (u_Encoding_ALL : Addr) (u_Encoding_UTF_8 : Addr) (u_Encoding_LOWER_SPECIAL : Addr) (u_Encoding_LOWER_UPPER_DIGIT_SPECIAL : Addr) (u_Encoding_FIRST_TO_LOWER_SPECIAL : Addr) (u_Encoding_ALL_TO_LOWER_SPECIAL : Addr) (kc_u_Encoding_ALL : ClassId) (h0 : Heap) (n0 : Nat) (Z0 : n0 ≤ h0.size) (O_ : Old Z n0 h0) (S_u_Encoding_ALL : Sta Z Z.heap "io/quintet/MetaString$Encoding" "ALL" "[Lio/quintet/MetaString$Encoding;" (.ref u_Encoding_ALL)) (S_u_Encoding_UTF_8 : Sta Z Z.heap "io/quintet/MetaString$Encoding" "UTF_8" "Lio/quintet/MetaString$Encoding;" (.ref u_Encoding_UTF_8)) (E_u_Encoding_UTF_8 : Exa Z Z.heap u_Encoding_UTF_8 "io/quintet/MetaString$Encoding") (F_u_Encoding_UTF_8_flag : Fld Z Z.heap u_Encoding_UTF_8 "io/quintet/MetaString$Encoding" "flag" "I" (.int (0 : Int32))) (S_u_Encoding_LOWER_SPECIAL : Sta Z Z.heap "io/quintet/MetaString$Encoding" "LOWER_SPECIAL" "Lio/quintet/MetaString$Encoding;" (.ref u_Encoding_LOWER_SPECIAL)) (E_u_Encoding_LOWER_SPECIAL : Exa Z Z.heap u_Encoding_LOWER_SPECIAL "io/quintet/MetaString$Encoding") (F_u_Encoding_LOWER_SPECIAL_flag : Fld Z Z.heap u_Encoding_LOWER_SPECIAL "io/quintet/MetaString$Encoding" "flag" "I" (.int (1 : Int32))) (S_u_Encoding_LOWER_UPPER_DIGIT_SPECIAL : Sta Z Z.heap "io/quintet/MetaString$Encoding" "LOWER_UPPER_DIGIT_SPECIAL" "Lio/quintet/MetaString$Encoding;" (.ref u_Encoding_LOWER_UPPER_DIGIT_SPECIAL)) (E_u_Encoding_LOWER_UPPER_DIGIT_SPECIAL : Exa Z Z.heap u_Encoding_LOWER_UPPER_DIGIT_SPECIAL "io/quintet/MetaString$Encoding") (F_u_Encoding_LOWER_UPPER_DIGIT_SPECIAL_flag : Fld Z Z.heap u_Encoding_LOWER_UPPER_DIGIT_SPECIAL "io/quintet/MetaString$Encoding" "flag" "I" (.int (2 : Int32))) (S_u_Encoding_FIRST_TO_LOWER_SPECIAL : Sta Z Z.heap "io/quintet/MetaString$Encoding" "FIRST_TO_LOWER_SPECIAL" "Lio/quintet/MetaString$Encoding;" (.ref u_Encoding_FIRST_TO_LOWER_SPECIAL)) (E_u_Encoding_FIRST_TO_LOWER_SPECIAL : Exa Z Z.heap u_Encoding_FIRST_TO_LOWER_SPECIAL "io/quintet/MetaString$Encoding") (F_u_Encoding_FIRST_TO_LOWER_SPECIAL_flag : Fld Z Z.heap u_Encoding_FIRST_TO_LOWER_SPECIAL "io/quintet/MetaString$Encoding" "flag" "I" (.int (3 : Int32))) (S_u_Encoding_ALL_TO_LOWER_SPECIAL : Sta Z Z.heap "io/quintet/MetaString$Encoding" "ALL_TO_LOWER_SPECIAL" "Lio/quintet/MetaString$Encoding;" (.ref u_Encoding_ALL_TO_LOWER_SPECIAL)) (E_u_Encoding_ALL_TO_LOWER_SPECIAL : Exa Z Z.heap u_Encoding_ALL_TO_LOWER_SPECIAL "io/quintet/MetaString$Encoding") (F_u_Encoding_ALL_TO_LOWER_SPECIAL_flag : Fld Z Z.heap u_Encoding_ALL_TO_LOWER_SPECIAL "io/quintet/MetaString$Encoding" "flag" "I" (.int (4 : Int32))) (V_u_Encoding_ALL : Arv Z Z.heap u_Encoding_ALL kc_u_Encoding_ALL (Jvm.ClassFile.FieldType.object "io/quintet/MetaString$Encoding") (5 : Int32) [(.ref u_Encoding_UTF_8), (.ref u_Encoding_LOWER_SPECIAL), (.ref u_Encoding_LOWER_UPPER_DIGIT_SPECIAL), (.ref u_Encoding_FIRST_TO_LOWER_SPECIAL), (.ref u_Encoding_ALL_TO_LOWER_SPECIAL)] .null) :
    MetFree l (⟨"io/quintet/EncodingOfFlagPinLaw", "check", "(I)Z"⟩ : MethodName) (head1 (Jvm.Cond.code (⟨"io/quintet/EncodingOfFlagPinLaw", "check", "(I)Z"⟩ : MethodName) method_3_code 3 (some .boolean) :: ws) ({ frames := 1, cells := 0, slots := 0, locals := 16 } : Room)) (fun as_ U => as_ = #[(.int p1)] ∧ Z.Warmed39 U.vm ∧ U.heap = h0) (fun _ _ _ _ _ => True) (fun _ U o U' => ∃ v L, o = .returned v ∧ (Q1 Z p1 u_Encoding_ALL u_Encoding_UTF_8 u_Encoding_LOWER_SPECIAL u_Encoding_LOWER_UPPER_DIGIT_SPECIAL u_Encoding_FIRST_TO_LOWER_SPECIAL u_Encoding_ALL_TO_LOWER_SPECIAL kc_u_Encoding_ALL h0 n0) v U'.heap L ∧ FrameEnd U o U' L ({ frames := 1, cells := 0, slots := 0, locals := 16 } : Room).cells ({ frames := 1, cells := 0, slots := 0, locals := 16 } : Room).slots) := by
  refine own_met (plainFor_of_name pn_3) ?_
  intro p e s m below meth c s₁ X0 hx hby hml hret hlk hown hnm hZ e0
  have N0 := Fr.nil n0
  have Z_ := Z0
  refine OwnGo.cast (ef_1 m p1) ?_
  show OwnGo p e below s _ _ _ s₁ (mkF m 0 #[.val (.int p1), .unset, .unset] [])
  refine OwnGo.st (fun _ k => XS.iloadN X0.here hx rfl (hb hby d1_0) rfl  k) ?_
  show OwnGo p e below s _ _ _ s₁ (mkF m 1 #[.val (.int p1), .unset, .unset] [(.int p1)])
  by_cases hk0 : p1 = (0 : Int32)
  · obtain ⟨_, _, ⟨T19, L19, k19, n19⟩, -, X19, ⟨Lc19, hQ19, l19, y19, z19⟩, st19⟩ := Jvm.LawKit.callS X0 hx (y := (⟨"io/quintet/MetaString$Encoding", "ofFlag", "(I)Lio/quintet/MetaString$Encoding;"⟩ : MethodName)) hown (mvT hZ (hw _ (List.mem_of_getElem? (i := 4) rfl))) (mvT hZ (hw _ (List.mem_of_getElem? (i := 5) rfl))) (mvT hZ (hw _ (List.mem_of_getElem? (i := 6) rfl))) (mvT hZ (hw _ (List.mem_of_getElem? (i := 7) rfl))) (by decide) (backOf (W := 0) (rm2 l Z a0 hw [] p1 u_Encoding_ALL u_Encoding_UTF_8 u_Encoding_LOWER_SPECIAL u_Encoding_LOWER_UPPER_DIGIT_SPECIAL u_Encoding_FIRST_TO_LOWER_SPECIAL u_Encoding_ALL_TO_LOWER_SPECIAL kc_u_Encoding_ALL h0 n0 Z_ O_ S_u_Encoding_ALL S_u_Encoding_UTF_8 E_u_Encoding_UTF_8 F_u_Encoding_UTF_8_flag S_u_Encoding_LOWER_SPECIAL E_u_Encoding_LOWER_SPECIAL F_u_Encoding_LOWER_SPECIAL_flag S_u_Encoding_LOWER_UPPER_DIGIT_SPECIAL E_u_Encoding_LOWER_UPPER_DIGIT_SPECIAL F_u_Encoding_LOWER_UPPER_DIGIT_SPECIAL_flag S_u_Encoding_FIRST_TO_LOWER_SPECIAL E_u_Encoding_FIRST_TO_LOWER_SPECIAL F_u_Encoding_FIRST_TO_LOWER_SPECIAL_flag S_u_Encoding_ALL_TO_LOWER_SPECIAL E_u_Encoding_ALL_TO_LOWER_SPECIAL F_u_Encoding_ALL_TO_LOWER_SPECIAL_flag V_u_Encoding_ALL) hZ (hw _ (List.mem_of_getElem? (i := 7) rfl)) (hw _ (List.mem_of_getElem? (i := 6) rfl)) (by decide) (by decide)) (g := (mkF m 1 #[.val (.int p1), .unset, .unset] [(.int p1)])) rfl (by rw [hml]; rfl) (argsL := [(.int p1)]) (rest := []) (lenOf pd_0 rfl) rfl (by show 2 * 0 + _ ≤ _; exact Nat.le_of_eq rfl) (hb hby d1_1) (fun _ _ => ⟨rfl, e0, (by decide : 0 + 0 ≤ _), (by decide : 0 + 0 ≤ _)⟩)
    dsimp only [Pt.U, Pt.locs, Pt.cells, Pt.slots] at X19 l19 y19 z19 st19 hQ19
    subst l19 y19 z19
    obtain ⟨rfl, N19q, e19⟩ := hQ19
    have N19 := Fr.app N0 N19q
    refine OwnGo.st st19 ?_
    show OwnGo p e below s _ _ _ T19 (mkF m 4 #[.val (.int p1), .unset, .unset] [(own_pick p1 u_Encoding_UTF_8 u_Encoding_LOWER_SPECIAL u_Encoding_LOWER_UPPER_DIGIT_SPECIAL u_Encoding_FIRST_TO_LOWER_SPECIAL u_Encoding_ALL_TO_LOWER_SPECIAL)])
    rw [own_pk0 hk0]
    show OwnGo p e below s _ _ _ T19 (mkF m 4 #[.val (.int p1), .unset, .unset] [(.ref u_Encoding_UTF_8)])
    refine OwnGo.st (fun _ k => XS.astoreN X19.here hx rfl (hb hby d1_4) rfl rfl (l' := #[.val (.int p1), .val (.ref u_Encoding_UTF_8), .unset]) rfl k) ?_
    show OwnGo p e below s _ _ _ T19 (mkF m 5 #[.val (.int p1), .val (.ref u_Encoding_UTF_8), .unset] [])
    refine OwnGo.st (fun _ k => XS.iloadN X19.here hx rfl (hb hby d1_5) rfl  k) ?_
    show OwnGo p e below s _ _ _ T19 (mkF m 6 #[.val (.int p1), .val (.ref u_Encoding_UTF_8), .unset] [(.int p1)])
    obtain ⟨_, _, ⟨T20, L20, k20, n20⟩, -, X20, ⟨Lc20, hQ20, l20, y20, z20⟩, st20⟩ := Jvm.LawKit.callS X19 hx (y := (⟨"io/quintet/EncodingOfFlagPinLaw", "expected", "(I)Lio/quintet/MetaString$Encoding;"⟩ : MethodName)) hown (mvT hZ (hw _ (List.mem_of_getElem? (i := 13) rfl))) (mvT hZ (hw _ (List.mem_of_getElem? (i := 14) rfl))) (mvT hZ (hw _ (List.mem_of_getElem? (i := 2) rfl))) (mvT hZ (hw _ (List.mem_of_getElem? (i := 15) rfl))) (by decide) (backOf (W := 0) (rm3 l Z a0 hw [] p1 u_Encoding_ALL u_Encoding_UTF_8 u_Encoding_LOWER_SPECIAL u_Encoding_LOWER_UPPER_DIGIT_SPECIAL u_Encoding_FIRST_TO_LOWER_SPECIAL u_Encoding_ALL_TO_LOWER_SPECIAL kc_u_Encoding_ALL h0 n0 Z_ O_ S_u_Encoding_ALL S_u_Encoding_UTF_8 E_u_Encoding_UTF_8 F_u_Encoding_UTF_8_flag S_u_Encoding_LOWER_SPECIAL E_u_Encoding_LOWER_SPECIAL F_u_Encoding_LOWER_SPECIAL_flag S_u_Encoding_LOWER_UPPER_DIGIT_SPECIAL E_u_Encoding_LOWER_UPPER_DIGIT_SPECIAL F_u_Encoding_LOWER_UPPER_DIGIT_SPECIAL_flag S_u_Encoding_FIRST_TO_LOWER_SPECIAL E_u_Encoding_FIRST_TO_LOWER_SPECIAL F_u_Encoding_FIRST_TO_LOWER_SPECIAL_flag S_u_Encoding_ALL_TO_LOWER_SPECIAL E_u_Encoding_ALL_TO_LOWER_SPECIAL F_u_Encoding_ALL_TO_LOWER_SPECIAL_flag V_u_Encoding_ALL) hZ (hw _ (List.mem_of_getElem? (i := 15) rfl)) (hw _ (List.mem_of_getElem? (i := 2) rfl)) (by decide) (by decide)) (g := (mkF m 6 #[.val (.int p1), .val (.ref u_Encoding_UTF_8), .unset] [(.int p1)])) rfl (by rw [hml]; rfl) (argsL := [(.int p1)]) (rest := []) (lenOf pd_0 rfl) rfl (by show 2 * 0 + _ ≤ _; exact Nat.le_of_eq rfl) (hb hby d1_6) (fun _ _ => ⟨rfl, e19, (by decide : 0 + 0 ≤ _), (by decide : 0 + 0 ≤ _)⟩)
    dsimp only [Pt.U, Pt.locs, Pt.cells, Pt.slots] at X20 l20 y20 z20 st20 hQ20
    subst l20 y20 z20
    obtain ⟨rfl, N20q, e20⟩ := hQ20
    have N20 := Fr.app N19 N20q
    refine OwnGo.st st20 ?_
    show OwnGo p e below s _ _ _ T20 (mkF m 9 #[.val (.int p1), .val (.ref u_Encoding_UTF_8), .unset] [(own_pick p1 u_Encoding_UTF_8 u_Encoding_LOWER_SPECIAL u_Encoding_LOWER_UPPER_DIGIT_SPECIAL u_Encoding_FIRST_TO_LOWER_SPECIAL u_Encoding_ALL_TO_LOWER_SPECIAL)])
    rw [own_pk0 hk0]
    show OwnGo p e below s _ _ _ T20 (mkF m 9 #[.val (.int p1), .val (.ref u_Encoding_UTF_8), .unset] [(.ref u_Encoding_UTF_8)])
    refine OwnGo.st (fun _ k => XS.astoreN X20.here hx rfl (hb hby d1_9) rfl rfl (l' := #[.val (.int p1), .val (.ref u_Encoding_UTF_8), .val (.ref u_Encoding_UTF_8)]) rfl k) ?_
    show OwnGo p e below s _ _ _ T20 (mkF m 10 #[.val (.int p1), .val (.ref u_Encoding_UTF_8), .val (.ref u_Encoding_UTF_8)] [])
    refine OwnGo.st (fun _ k => XS.aloadN X20.here hx rfl (hb hby d1_10) rfl rfl  k) ?_
    show OwnGo p e below s _ _ _ T20 (mkF m 11 #[.val (.int p1), .val (.ref u_Encoding_UTF_8), .val (.ref u_Encoding_UTF_8)] [(.ref u_Encoding_UTF_8)])
    refine OwnGo.st (fun _ k => XS.aloadN X20.here hx rfl (hb hby d1_11) rfl rfl  k) ?_
    show OwnGo p e below s _ _ _ T20 (mkF m 12 #[.val (.int p1), .val (.ref u_Encoding_UTF_8), .val (.ref u_Encoding_UTF_8)] [(.ref u_Encoding_UTF_8), (.ref u_Encoding_UTF_8)])
    refine OwnGo.st (fun _ k => Jvm.RoadKit.acmp (g := (mkF m 12 #[.val (.int p1), .val (.ref u_Encoding_UTF_8), .val (.ref u_Encoding_UTF_8)] [(.ref u_Encoding_UTF_8), (.ref u_Encoding_UTF_8)])) X20 hx rfl rfl rfl (pc0 := 12) (pc' := 17) (same := true) rfl (hb hby d1_12) rfl (decide_eq_true rfl) (by decide) (by decide) k) ?_
    show OwnGo p e below s _ _ _ T20 (mkF m 17 #[.val (.int p1), .val (.ref u_Encoding_UTF_8), .val (.ref u_Encoding_UTF_8)] [])
    refine OwnGo.st (fun _ k => XS.aloadN X20.here hx rfl (hb hby d1_17) rfl rfl  k) ?_
    show OwnGo p e below s _ _ _ T20 (mkF m 18 #[.val (.int p1), .val (.ref u_Encoding_UTF_8), .val (.ref u_Encoding_UTF_8)] [(.ref u_Encoding_UTF_8)])
    refine OwnGo.st (fun _ k => XS.ifnullNo X20.here hx rfl (hb hby d1_18) rfl k) ?_
    show OwnGo p e below s _ _ _ T20 (mkF m 21 #[.val (.int p1), .val (.ref u_Encoding_UTF_8), .val (.ref u_Encoding_UTF_8)] [])
    refine OwnGo.st (fun _ k => XS.aloadN X20.here hx rfl (hb hby d1_21) rfl rfl  k) ?_
    show OwnGo p e below s _ _ _ T20 (mkF m 22 #[.val (.int p1), .val (.ref u_Encoding_UTF_8), .val (.ref u_Encoding_UTF_8)] [(.ref u_Encoding_UTF_8)])
    obtain ⟨cq21, kq21, q21a, q21b, q21c⟩ := isOf hZ e20 (E_u_Encoding_UTF_8.ext O_.2)
    obtain ⟨_, _, ⟨T21, L21, k21, n21⟩, -, X21, ⟨Lc21, hQ21, l21, y21, z21⟩, st21⟩ := X20.virtualBack hx (y := (⟨"io/quintet/MetaString$Encoding", "flag", "()I"⟩ : MethodName)) (z := (⟨"io/quintet/MetaString$Encoding", "flag", "()I"⟩ : MethodName)) hown (mvT hZ (hw _ (List.mem_of_getElem? (i := 17) rfl))) (mvT hZ (hw _ (List.mem_of_getElem? (i := 18) rfl))) (notFace_of_selects (args := #[]) (mvT hZ (hw _ (List.mem_of_getElem? (i := 20) rfl)))) (mvT hZ (hw _ (List.mem_of_getElem? (i := 20) rfl))) (mvT hZ (hw _ (List.mem_of_getElem? (i := 19) rfl))) (by decide) (backOf (W := 0) (rm4 l Z a0 hw [] u_Encoding_UTF_8 (0 : Int32) h0 n0 Z_ (F_u_Encoding_UTF_8_flag.ext O_.2)) hZ (hw _ (List.mem_of_getElem? (i := 21) rfl)) (hw _ (List.mem_of_getElem? (i := 6) rfl)) (by decide) (by decide)) q21a q21c (g := (mkF m 22 #[.val (.int p1), .val (.ref u_Encoding_UTF_8), .val (.ref u_Encoding_UTF_8)] [(.ref u_Encoding_UTF_8)])) rfl (by rw [hml]; rfl) (Steps.refl _) (argsL := []) (rest := []) (lenOf pd_1 rfl) rfl (by show 2 * 0 + _ ≤ _; exact Nat.le_of_eq rfl) (hb hby d1_22) (fun _ _ => ⟨rfl, e20, (by decide : 0 + 0 ≤ _), (by decide : 0 + 0 ≤ _)⟩)
    dsimp only [Pt.U, Pt.locs, Pt.cells, Pt.slots] at X21 l21 y21 z21 st21 hQ21
    subst l21 y21 z21
    obtain ⟨rfl, N21q, e21⟩ := hQ21
    have N21 := Fr.app N20 N21q
    refine OwnGo.st (fun _ k => st21.trans k) ?_
    show OwnGo p e below s _ _ _ T21 (mkF m 25 #[.val (.int p1), .val (.ref u_Encoding_UTF_8), .val (.ref u_Encoding_UTF_8)] [(.int (0 : Int32))])
    refine OwnGo.st (fun _ k => XS.iloadN X21.here hx rfl (hb hby d1_25) rfl  k) ?_
    show OwnGo p e below s _ _ _ T21 (mkF m 26 #[.val (.int p1), .val (.ref u_Encoding_UTF_8), .val (.ref u_Encoding_UTF_8)] [(.int p1), (.int (0 : Int32))])
    refine OwnGo.st (fun _ k => XS.icmpNo X21.here hx rfl (hb hby d1_26) rfl (teq (hk0.symm : (0 : Int32) = p1)).2 k) ?_
    show OwnGo p e below s _ _ _ T21 (mkF m 29 #[.val (.int p1), .val (.ref u_Encoding_UTF_8), .val (.ref u_Encoding_UTF_8)] [])
    refine OwnGo.st (fun _ k => XS.iconst X21.here hx rfl (hb hby d1_29) k) ?_
    show OwnGo p e below s _ _ _ T21 (mkF m 30 #[.val (.int p1), .val (.ref u_Encoding_UTF_8), .val (.ref u_Encoding_UTF_8)] [(.int (1 : Int32))])
    refine OwnGo.st (fun _ k => XS.goto X21.here hx rfl (pc0 := 30) (pc' := 34) rfl (hb hby d1_30) (by decide) (by decide) k) ?_
    show OwnGo p e below s _ _ _ T21 (mkF m 34 #[.val (.int p1), .val (.ref u_Encoding_UTF_8), .val (.ref u_Encoding_UTF_8)] [(.int (1 : Int32))])
    exact OwnGo.retN X21 hx (t := .boolean) hret hlk (by simp) (hb hby d1_34) (by show Q1 Z p1 u_Encoding_ALL u_Encoding_UTF_8 u_Encoding_LOWER_SPECIAL u_Encoding_LOWER_UPPER_DIGIT_SPECIAL u_Encoding_FIRST_TO_LOWER_SPECIAL u_Encoding_ALL_TO_LOWER_SPECIAL kc_u_Encoding_ALL h0 n0 _ T21.heap _; rw [e21]; exact ⟨rfl, N21, rfl⟩) (by decide) (by decide)
  · by_cases hk1 : p1 = (1 : Int32)
    · obtain ⟨_, _, ⟨T22, L22, k22, n22⟩, -, X22, ⟨Lc22, hQ22, l22, y22, z22⟩, st22⟩ := Jvm.LawKit.callS X0 hx (y := (⟨"io/quintet/MetaString$Encoding", "ofFlag", "(I)Lio/quintet/MetaString$Encoding;"⟩ : MethodName)) hown (mvT hZ (hw _ (List.mem_of_getElem? (i := 4) rfl))) (mvT hZ (hw _ (List.mem_of_getElem? (i := 5) rfl))) (mvT hZ (hw _ (List.mem_of_getElem? (i := 6) rfl))) (mvT hZ (hw _ (List.mem_of_getElem? (i := 7) rfl))) (by decide) (backOf (W := 0) (rm2 l Z a0 hw [] p1 u_Encoding_ALL u_Encoding_UTF_8 u_Encoding_LOWER_SPECIAL u_Encoding_LOWER_UPPER_DIGIT_SPECIAL u_Encoding_FIRST_TO_LOWER_SPECIAL u_Encoding_ALL_TO_LOWER_SPECIAL kc_u_Encoding_ALL h0 n0 Z_ O_ S_u_Encoding_ALL S_u_Encoding_UTF_8 E_u_Encoding_UTF_8 F_u_Encoding_UTF_8_flag S_u_Encoding_LOWER_SPECIAL E_u_Encoding_LOWER_SPECIAL F_u_Encoding_LOWER_SPECIAL_flag S_u_Encoding_LOWER_UPPER_DIGIT_SPECIAL E_u_Encoding_LOWER_UPPER_DIGIT_SPECIAL F_u_Encoding_LOWER_UPPER_DIGIT_SPECIAL_flag S_u_Encoding_FIRST_TO_LOWER_SPECIAL E_u_Encoding_FIRST_TO_LOWER_SPECIAL F_u_Encoding_FIRST_TO_LOWER_SPECIAL_flag S_u_Encoding_ALL_TO_LOWER_SPECIAL E_u_Encoding_ALL_TO_LOWER_SPECIAL F_u_Encoding_ALL_TO_LOWER_SPECIAL_flag V_u_Encoding_ALL) hZ (hw _ (List.mem_of_getElem? (i := 7) rfl)) (hw _ (List.mem_of_getElem? (i := 6) rfl)) (by decide) (by decide)) (g := (mkF m 1 #[.val (.int p1), .unset, .unset] [(.int p1)])) rfl (by rw [hml]; rfl) (argsL := [(.int p1)]) (rest := []) (lenOf pd_0 rfl) rfl (by show 2 * 0 + _ ≤ _; exact Nat.le_of_eq rfl) (hb hby d1_1) (fun _ _ => ⟨rfl, e0, (by decide : 0 + 0 ≤ _), (by decide : 0 + 0 ≤ _)⟩)
      dsimp only [Pt.U, Pt.locs, Pt.cells, Pt.slots] at X22 l22 y22 z22 st22 hQ22
      subst l22 y22 z22
      obtain ⟨rfl, N22q, e22⟩ := hQ22
      have N22 := Fr.app N0 N22q
      refine OwnGo.st st22 ?_
      show OwnGo p e below s _ _ _ T22 (mkF m 4 #[.val (.int p1), .unset, .unset] [(own_pick p1 u_Encoding_UTF_8 u_Encoding_LOWER_SPECIAL u_Encoding_LOWER_UPPER_DIGIT_SPECIAL u_Encoding_FIRST_TO_LOWER_SPECIAL u_Encoding_ALL_TO_LOWER_SPECIAL)])
      rw [own_pk1 hk1]
      show OwnGo p e below s _ _ _ T22 (mkF m 4 #[.val (.int p1), .unset, .unset] [(.ref u_Encoding_LOWER_SPECIAL)])
      refine OwnGo.st (fun _ k => XS.astoreN X22.here hx rfl (hb hby d1_4) rfl rfl (l' := #[.val (.int p1), .val (.ref u_Encoding_LOWER_SPECIAL), .unset]) rfl k) ?_
      show OwnGo p e below s _ _ _ T22 (mkF m 5 #[.val (.int p1), .val (.ref u_Encoding_LOWER_SPECIAL), .unset] [])
      refine OwnGo.st (fun _ k => XS.iloadN X22.here hx rfl (hb hby d1_5) rfl  k) ?_
      show OwnGo p e below s _ _ _ T22 (mkF m 6 #[.val (.int p1), .val (.ref u_Encoding_LOWER_SPECIAL), .unset] [(.int p1)])
      obtain ⟨_, _, ⟨T23, L23, k23, n23⟩, -, X23, ⟨Lc23, hQ23, l23, y23, z23⟩, st23⟩ := Jvm.LawKit.callS X22 hx (y := (⟨"io/quintet/EncodingOfFlagPinLaw", "expected", "(I)Lio/quintet/MetaString$Encoding;"⟩ : MethodName)) hown (mvT hZ (hw _ (List.mem_of_getElem? (i := 13) rfl))) (mvT hZ (hw _ (List.mem_of_getElem? (i := 14) rfl))) (mvT hZ (hw _ (List.mem_of_getElem? (i := 2) rfl))) (mvT hZ (hw _ (List.mem_of_getElem? (i := 15) rfl))) (by decide) (backOf (W := 0) (rm3 l Z a0 hw [] p1 u_Encoding_ALL u_Encoding_UTF_8 u_Encoding_LOWER_SPECIAL u_Encoding_LOWER_UPPER_DIGIT_SPECIAL u_Encoding_FIRST_TO_LOWER_SPECIAL u_Encoding_ALL_TO_LOWER_SPECIAL kc_u_Encoding_ALL h0 n0 Z_ O_ S_u_Encoding_ALL S_u_Encoding_UTF_8 E_u_Encoding_UTF_8 F_u_Encoding_UTF_8_flag S_u_Encoding_LOWER_SPECIAL E_u_Encoding_LOWER_SPECIAL F_u_Encoding_LOWER_SPECIAL_flag S_u_Encoding_LOWER_UPPER_DIGIT_SPECIAL E_u_Encoding_LOWER_UPPER_DIGIT_SPECIAL F_u_Encoding_LOWER_UPPER_DIGIT_SPECIAL_flag S_u_Encoding_FIRST_TO_LOWER_SPECIAL E_u_Encoding_FIRST_TO_LOWER_SPECIAL F_u_Encoding_FIRST_TO_LOWER_SPECIAL_flag S_u_Encoding_ALL_TO_LOWER_SPECIAL E_u_Encoding_ALL_TO_LOWER_SPECIAL F_u_Encoding_ALL_TO_LOWER_SPECIAL_flag V_u_Encoding_ALL) hZ (hw _ (List.mem_of_getElem? (i := 15) rfl)) (hw _ (List.mem_of_getElem? (i := 2) rfl)) (by decide) (by decide)) (g := (mkF m 6 #[.val (.int p1), .val (.ref u_Encoding_LOWER_SPECIAL), .unset] [(.int p1)])) rfl (by rw [hml]; rfl) (argsL := [(.int p1)]) (rest := []) (lenOf pd_0 rfl) rfl (by show 2 * 0 + _ ≤ _; exact Nat.le_of_eq rfl) (hb hby d1_6) (fun _ _ => ⟨rfl, e22, (by decide : 0 + 0 ≤ _), (by decide : 0 + 0 ≤ _)⟩)
      dsimp only [Pt.U, Pt.locs, Pt.cells, Pt.slots] at X23 l23 y23 z23 st23 hQ23
      subst l23 y23 z23
      obtain ⟨rfl, N23q, e23⟩ := hQ23
      have N23 := Fr.app N22 N23q
      refine OwnGo.st st23 ?_
      show OwnGo p e below s _ _ _ T23 (mkF m 9 #[.val (.int p1), .val (.ref u_Encoding_LOWER_SPECIAL), .unset] [(own_pick p1 u_Encoding_UTF_8 u_Encoding_LOWER_SPECIAL u_Encoding_LOWER_UPPER_DIGIT_SPECIAL u_Encoding_FIRST_TO_LOWER_SPECIAL u_Encoding_ALL_TO_LOWER_SPECIAL)])
      rw [own_pk1 hk1]
      show OwnGo p e below s _ _ _ T23 (mkF m 9 #[.val (.int p1), .val (.ref u_Encoding_LOWER_SPECIAL), .unset] [(.ref u_Encoding_LOWER_SPECIAL)])
      refine OwnGo.st (fun _ k => XS.astoreN X23.here hx rfl (hb hby d1_9) rfl rfl (l' := #[.val (.int p1), .val (.ref u_Encoding_LOWER_SPECIAL), .val (.ref u_Encoding_LOWER_SPECIAL)]) rfl k) ?_
      show OwnGo p e below s _ _ _ T23 (mkF m 10 #[.val (.int p1), .val (.ref u_Encoding_LOWER_SPECIAL), .val (.ref u_Encoding_LOWER_SPECIAL)] [])
      refine OwnGo.st (fun _ k => XS.aloadN X23.here hx rfl (hb hby d1_10) rfl rfl  k) ?_
      show OwnGo p e below s _ _ _ T23 (mkF m 11 #[.val (.int p1), .val (.ref u_Encoding_LOWER_SPECIAL), .val (.ref u_Encoding_LOWER_SPECIAL)] [(.ref u_Encoding_LOWER_SPECIAL)])
      refine OwnGo.st (fun _ k => XS.aloadN X23.here hx rfl (hb hby d1_11) rfl rfl  k) ?_
      show OwnGo p e below s _ _ _ T23 (mkF m 12 #[.val (.int p1), .val (.ref u_Encoding_LOWER_SPECIAL), .val (.ref u_Encoding_LOWER_SPECIAL)] [(.ref u_Encoding_LOWER_SPECIAL), (.ref u_Encoding_LOWER_SPECIAL)])
      refine OwnGo.st (fun _ k => Jvm.RoadKit.acmp (g := (mkF m 12 #[.val (.int p1), .val (.ref u_Encoding_LOWER_SPECIAL), .val (.ref u_Encoding_LOWER_SPECIAL)] [(.ref u_Encoding_LOWER_SPECIAL), (.ref u_Encoding_LOWER_SPECIAL)])) X23 hx rfl rfl rfl (pc0 := 12) (pc' := 17) (same := true) rfl (hb hby d1_12) rfl (decide_eq_true rfl) (by decide) (by decide) k) ?_
      show OwnGo p e below s _ _ _ T23 (mkF m 17 #[.val (.int p1), .val (.ref u_Encoding_LOWER_SPECIAL), .val (.ref u_Encoding_LOWER_SPECIAL)] [])
      refine OwnGo.st (fun _ k => XS.aloadN X23.here hx rfl (hb hby d1_17) rfl rfl  k) ?_
      show OwnGo p e below s _ _ _ T23 (mkF m 18 #[.val (.int p1), .val (.ref u_Encoding_LOWER_SPECIAL), .val (.ref u_Encoding_LOWER_SPECIAL)] [(.ref u_Encoding_LOWER_SPECIAL)])
      refine OwnGo.st (fun _ k => XS.ifnullNo X23.here hx rfl (hb hby d1_18) rfl k) ?_
      show OwnGo p e below s _ _ _ T23 (mkF m 21 #[.val (.int p1), .val (.ref u_Encoding_LOWER_SPECIAL), .val (.ref u_Encoding_LOWER_SPECIAL)] [])
      refine OwnGo.st (fun _ k => XS.aloadN X23.here hx rfl (hb hby d1_21) rfl rfl  k) ?_
      show OwnGo p e below s _ _ _ T23 (mkF m 22 #[.val (.int p1), .val (.ref u_Encoding_LOWER_SPECIAL), .val (.ref u_Encoding_LOWER_SPECIAL)] [(.ref u_Encoding_LOWER_SPECIAL)])
      obtain ⟨cq24, kq24, q24a, q24b, q24c⟩ := isOf hZ e23 (E_u_Encoding_LOWER_SPECIAL.ext O_.2)
      obtain ⟨_, _, ⟨T24, L24, k24, n24⟩, -, X24, ⟨Lc24, hQ24, l24, y24, z24⟩, st24⟩ := X23.virtualBack hx (y := (⟨"io/quintet/MetaString$Encoding", "flag", "()I"⟩ : MethodName)) (z := (⟨"io/quintet/MetaString$Encoding", "flag", "()I"⟩ : MethodName)) hown (mvT hZ (hw _ (List.mem_of_getElem? (i := 17) rfl))) (mvT hZ (hw _ (List.mem_of_getElem? (i := 18) rfl))) (notFace_of_selects (args := #[]) (mvT hZ (hw _ (List.mem_of_getElem? (i := 20) rfl)))) (mvT hZ (hw _ (List.mem_of_getElem? (i := 20) rfl))) (mvT hZ (hw _ (List.mem_of_getElem? (i := 19) rfl))) (by decide) (backOf (W := 0) (rm4 l Z a0 hw [] u_Encoding_LOWER_SPECIAL (1 : Int32) h0 n0 Z_ (F_u_Encoding_LOWER_SPECIAL_flag.ext O_.2)) hZ (hw _ (List.mem_of_getElem? (i := 21) rfl)) (hw _ (List.mem_of_getElem? (i := 6) rfl)) (by decide) (by decide)) q24a q24c (g := (mkF m 22 #[.val (.int p1), .val (.ref u_Encoding_LOWER_SPECIAL), .val (.ref u_Encoding_LOWER_SPECIAL)] [(.ref u_Encoding_LOWER_SPECIAL)])) rfl (by rw [hml]; rfl) (Steps.refl _) (argsL := []) (rest := []) (lenOf pd_1 rfl) rfl (by show 2 * 0 + _ ≤ _; exact Nat.le_of_eq rfl) (hb hby d1_22) (fun _ _ => ⟨rfl, e23, (by decide : 0 + 0 ≤ _), (by decide : 0 + 0 ≤ _)⟩)
      dsimp only [Pt.U, Pt.locs, Pt.cells, Pt.slots] at X24 l24 y24 z24 st24 hQ24
      subst l24 y24 z24
      obtain ⟨rfl, N24q, e24⟩ := hQ24
      have N24 := Fr.app N23 N24q
      refine OwnGo.st (fun _ k => st24.trans k) ?_
      show OwnGo p e below s _ _ _ T24 (mkF m 25 #[.val (.int p1), .val (.ref u_Encoding_LOWER_SPECIAL), .val (.ref u_Encoding_LOWER_SPECIAL)] [(.int (1 : Int32))])
      refine OwnGo.st (fun _ k => XS.iloadN X24.here hx rfl (hb hby d1_25) rfl  k) ?_
      show OwnGo p e below s _ _ _ T24 (mkF m 26 #[.val (.int p1), .val (.ref u_Encoding_LOWER_SPECIAL), .val (.ref u_Encoding_LOWER_SPECIAL)] [(.int p1), (.int (1 : Int32))])
      refine OwnGo.st (fun _ k => XS.icmpNo X24.here hx rfl (hb hby d1_26) rfl (teq (hk1.symm : (1 : Int32) = p1)).2 k) ?_
      show OwnGo p e below s _ _ _ T24 (mkF m 29 #[.val (.int p1), .val (.ref u_Encoding_LOWER_SPECIAL), .val (.ref u_Encoding_LOWER_SPECIAL)] [])
      refine OwnGo.st (fun _ k => XS.iconst X24.here hx rfl (hb hby d1_29) k) ?_
      show OwnGo p e below s _ _ _ T24 (mkF m 30 #[.val (.int p1), .val (.ref u_Encoding_LOWER_SPECIAL), .val (.ref u_Encoding_LOWER_SPECIAL)] [(.int (1 : Int32))])
      refine OwnGo.st (fun _ k => XS.goto X24.here hx rfl (pc0 := 30) (pc' := 34) rfl (hb hby d1_30) (by decide) (by decide) k) ?_
      show OwnGo p e below s _ _ _ T24 (mkF m 34 #[.val (.int p1), .val (.ref u_Encoding_LOWER_SPECIAL), .val (.ref u_Encoding_LOWER_SPECIAL)] [(.int (1 : Int32))])
      exact OwnGo.retN X24 hx (t := .boolean) hret hlk (by simp) (hb hby d1_34) (by show Q1 Z p1 u_Encoding_ALL u_Encoding_UTF_8 u_Encoding_LOWER_SPECIAL u_Encoding_LOWER_UPPER_DIGIT_SPECIAL u_Encoding_FIRST_TO_LOWER_SPECIAL u_Encoding_ALL_TO_LOWER_SPECIAL kc_u_Encoding_ALL h0 n0 _ T24.heap _; rw [e24]; exact ⟨rfl, N24, rfl⟩) (by decide) (by decide)
    · by_cases hk2 : p1 = (2 : Int32)
      · obtain ⟨_, _, ⟨T25, L25, k25, n25⟩, -, X25, ⟨Lc25, hQ25, l25, y25, z25⟩, st25⟩ := Jvm.LawKit.callS X0 hx (y := (⟨"io/quintet/MetaString$Encoding", "ofFlag", "(I)Lio/quintet/MetaString$Encoding;"⟩ : MethodName)) hown (mvT hZ (hw _ (List.mem_of_getElem? (i := 4) rfl))) (mvT hZ (hw _ (List.mem_of_getElem? (i := 5) rfl))) (mvT hZ (hw _ (List.mem_of_getElem? (i := 6) rfl))) (mvT hZ (hw _ (List.mem_of_getElem? (i := 7) rfl))) (by decide) (backOf (W := 0) (rm2 l Z a0 hw [] p1 u_Encoding_ALL u_Encoding_UTF_8 u_Encoding_LOWER_SPECIAL u_Encoding_LOWER_UPPER_DIGIT_SPECIAL u_Encoding_FIRST_TO_LOWER_SPECIAL u_Encoding_ALL_TO_LOWER_SPECIAL kc_u_Encoding_ALL h0 n0 Z_ O_ S_u_Encoding_ALL S_u_Encoding_UTF_8 E_u_Encoding_UTF_8 F_u_Encoding_UTF_8_flag S_u_Encoding_LOWER_SPECIAL E_u_Encoding_LOWER_SPECIAL F_u_Encoding_LOWER_SPECIAL_flag S_u_Encoding_LOWER_UPPER_DIGIT_SPECIAL E_u_Encoding_LOWER_UPPER_DIGIT_SPECIAL F_u_Encoding_LOWER_UPPER_DIGIT_SPECIAL_flag S_u_Encoding_FIRST_TO_LOWER_SPECIAL E_u_Encoding_FIRST_TO_LOWER_SPECIAL F_u_Encoding_FIRST_TO_LOWER_SPECIAL_flag S_u_Encoding_ALL_TO_LOWER_SPECIAL E_u_Encoding_ALL_TO_LOWER_SPECIAL F_u_Encoding_ALL_TO_LOWER_SPECIAL_flag V_u_Encoding_ALL) hZ (hw _ (List.mem_of_getElem? (i := 7) rfl)) (hw _ (List.mem_of_getElem? (i := 6) rfl)) (by decide) (by decide)) (g := (mkF m 1 #[.val (.int p1), .unset, .unset] [(.int p1)])) rfl (by rw [hml]; rfl) (argsL := [(.int p1)]) (rest := []) (lenOf pd_0 rfl) rfl (by show 2 * 0 + _ ≤ _; exact Nat.le_of_eq rfl) (hb hby d1_1) (fun _ _ => ⟨rfl, e0, (by decide : 0 + 0 ≤ _), (by decide : 0 + 0 ≤ _)⟩)
        dsimp only [Pt.U, Pt.locs, Pt.cells, Pt.slots] at X25 l25 y25 z25 st25 hQ25
        subst l25 y25 z25
        obtain ⟨rfl, N25q, e25⟩ := hQ25
        have N25 := Fr.app N0 N25q
        refine OwnGo.st st25 ?_
        show OwnGo p e below s _ _ _ T25 (mkF m 4 #[.val (.int p1), .unset, .unset] [(own_pick p1 u_Encoding_UTF_8 u_Encoding_LOWER_SPECIAL u_Encoding_LOWER_UPPER_DIGIT_SPECIAL u_Encoding_FIRST_TO_LOWER_SPECIAL u_Encoding_ALL_TO_LOWER_SPECIAL)])
        rw [own_pk2 hk2]
        show OwnGo p e below s _ _ _ T25 (mkF m 4 #[.val (.int p1), .unset, .unset] [(.ref u_Encoding_LOWER_UPPER_DIGIT_SPECIAL)])
        refine OwnGo.st (fun _ k => XS.astoreN X25.here hx rfl (hb hby d1_4) rfl rfl (l' := #[.val (.int p1), .val (.ref u_Encoding_LOWER_UPPER_DIGIT_SPECIAL), .unset]) rfl k) ?_
        show OwnGo p e below s _ _ _ T25 (mkF m 5 #[.val (.int p1), .val (.ref u_Encoding_LOWER_UPPER_DIGIT_SPECIAL), .unset] [])
        refine OwnGo.st (fun _ k => XS.iloadN X25.here hx rfl (hb hby d1_5) rfl  k) ?_
        show OwnGo p e below s _ _ _ T25 (mkF m 6 #[.val (.int p1), .val (.ref u_Encoding_LOWER_UPPER_DIGIT_SPECIAL), .unset] [(.int p1)])
        obtain ⟨_, _, ⟨T26, L26, k26, n26⟩, -, X26, ⟨Lc26, hQ26, l26, y26, z26⟩, st26⟩ := Jvm.LawKit.callS X25 hx (y := (⟨"io/quintet/EncodingOfFlagPinLaw", "expected", "(I)Lio/quintet/MetaString$Encoding;"⟩ : MethodName)) hown (mvT hZ (hw _ (List.mem_of_getElem? (i := 13) rfl))) (mvT hZ (hw _ (List.mem_of_getElem? (i := 14) rfl))) (mvT hZ (hw _ (List.mem_of_getElem? (i := 2) rfl))) (mvT hZ (hw _ (List.mem_of_getElem? (i := 15) rfl))) (by decide) (backOf (W := 0) (rm3 l Z a0 hw [] p1 u_Encoding_ALL u_Encoding_UTF_8 u_Encoding_LOWER_SPECIAL u_Encoding_LOWER_UPPER_DIGIT_SPECIAL u_Encoding_FIRST_TO_LOWER_SPECIAL u_Encoding_ALL_TO_LOWER_SPECIAL kc_u_Encoding_ALL h0 n0 Z_ O_ S_u_Encoding_ALL S_u_Encoding_UTF_8 E_u_Encoding_UTF_8 F_u_Encoding_UTF_8_flag S_u_Encoding_LOWER_SPECIAL E_u_Encoding_LOWER_SPECIAL F_u_Encoding_LOWER_SPECIAL_flag S_u_Encoding_LOWER_UPPER_DIGIT_SPECIAL E_u_Encoding_LOWER_UPPER_DIGIT_SPECIAL F_u_Encoding_LOWER_UPPER_DIGIT_SPECIAL_flag S_u_Encoding_FIRST_TO_LOWER_SPECIAL E_u_Encoding_FIRST_TO_LOWER_SPECIAL F_u_Encoding_FIRST_TO_LOWER_SPECIAL_flag S_u_Encoding_ALL_TO_LOWER_SPECIAL E_u_Encoding_ALL_TO_LOWER_SPECIAL F_u_Encoding_ALL_TO_LOWER_SPECIAL_flag V_u_Encoding_ALL) hZ (hw _ (List.mem_of_getElem? (i := 15) rfl)) (hw _ (List.mem_of_getElem? (i := 2) rfl)) (by decide) (by decide)) (g := (mkF m 6 #[.val (.int p1), .val (.ref u_Encoding_LOWER_UPPER_DIGIT_SPECIAL), .unset] [(.int p1)])) rfl (by rw [hml]; rfl) (argsL := [(.int p1)]) (rest := []) (lenOf pd_0 rfl) rfl (by show 2 * 0 + _ ≤ _; exact Nat.le_of_eq rfl) (hb hby d1_6) (fun _ _ => ⟨rfl, e25, (by decide : 0 + 0 ≤ _), (by decide : 0 + 0 ≤ _)⟩)
        dsimp only [Pt.U, Pt.locs, Pt.cells, Pt.slots] at X26 l26 y26 z26 st26 hQ26
        subst l26 y26 z26
        obtain ⟨rfl, N26q, e26⟩ := hQ26
        have N26 := Fr.app N25 N26q
        refine OwnGo.st st26 ?_
        show OwnGo p e below s _ _ _ T26 (mkF m 9 #[.val (.int p1), .val (.ref u_Encoding_LOWER_UPPER_DIGIT_SPECIAL), .unset] [(own_pick p1 u_Encoding_UTF_8 u_Encoding_LOWER_SPECIAL u_Encoding_LOWER_UPPER_DIGIT_SPECIAL u_Encoding_FIRST_TO_LOWER_SPECIAL u_Encoding_ALL_TO_LOWER_SPECIAL)])
        rw [own_pk2 hk2]
        show OwnGo p e below s _ _ _ T26 (mkF m 9 #[.val (.int p1), .val (.ref u_Encoding_LOWER_UPPER_DIGIT_SPECIAL), .unset] [(.ref u_Encoding_LOWER_UPPER_DIGIT_SPECIAL)])
        refine OwnGo.st (fun _ k => XS.astoreN X26.here hx rfl (hb hby d1_9) rfl rfl (l' := #[.val (.int p1), .val (.ref u_Encoding_LOWER_UPPER_DIGIT_SPECIAL), .val (.ref u_Encoding_LOWER_UPPER_DIGIT_SPECIAL)]) rfl k) ?_
        show OwnGo p e below s _ _ _ T26 (mkF m 10 #[.val (.int p1), .val (.ref u_Encoding_LOWER_UPPER_DIGIT_SPECIAL), .val (.ref u_Encoding_LOWER_UPPER_DIGIT_SPECIAL)] [])
        refine OwnGo.st (fun _ k => XS.aloadN X26.here hx rfl (hb hby d1_10) rfl rfl  k) ?_
        show OwnGo p e below s _ _ _ T26 (mkF m 11 #[.val (.int p1), .val (.ref u_Encoding_LOWER_UPPER_DIGIT_SPECIAL), .val (.ref u_Encoding_LOWER_UPPER_DIGIT_SPECIAL)] [(.ref u_Encoding_LOWER_UPPER_DIGIT_SPECIAL)])
        refine OwnGo.st (fun _ k => XS.aloadN X26.here hx rfl (hb hby d1_11) rfl rfl  k) ?_
        show OwnGo p e below s _ _ _ T26 (mkF m 12 #[.val (.int p1), .val (.ref u_Encoding_LOWER_UPPER_DIGIT_SPECIAL), .val (.ref u_Encoding_LOWER_UPPER_DIGIT_SPECIAL)] [(.ref u_Encoding_LOWER_UPPER_DIGIT_SPECIAL), (.ref u_Encoding_LOWER_UPPER_DIGIT_SPECIAL)])
        refine OwnGo.st (fun _ k => Jvm.RoadKit.acmp (g := (mkF m 12 #[.val (.int p1), .val (.ref u_Encoding_LOWER_UPPER_DIGIT_SPECIAL), .val (.ref u_Encoding_LOWER_UPPER_DIGIT_SPECIAL)] [(.ref u_Encoding_LOWER_UPPER_DIGIT_SPECIAL), (.ref u_Encoding_LOWER_UPPER_DIGIT_SPECIAL)])) X26 hx rfl rfl rfl (pc0 := 12) (pc' := 17) (same := true) rfl (hb hby d1_12) rfl (decide_eq_true rfl) (by decide) (by decide) k) ?_
        show OwnGo p e below s _ _ _ T26 (mkF m 17 #[.val (.int p1), .val (.ref u_Encoding_LOWER_UPPER_DIGIT_SPECIAL), .val (.ref u_Encoding_LOWER_UPPER_DIGIT_SPECIAL)] [])
        refine OwnGo.st (fun _ k => XS.aloadN X26.here hx rfl (hb hby d1_17) rfl rfl  k) ?_
        show OwnGo p e below s _ _ _ T26 (mkF m 18 #[.val (.int p1), .val (.ref u_Encoding_LOWER_UPPER_DIGIT_SPECIAL), .val (.ref u_Encoding_LOWER_UPPER_DIGIT_SPECIAL)] [(.ref u_Encoding_LOWER_UPPER_DIGIT_SPECIAL)])
        refine OwnGo.st (fun _ k => XS.ifnullNo X26.here hx rfl (hb hby d1_18) rfl k) ?_
        show OwnGo p e below s _ _ _ T26 (mkF m 21 #[.val (.int p1), .val (.ref u_Encoding_LOWER_UPPER_DIGIT_SPECIAL), .val (.ref u_Encoding_LOWER_UPPER_DIGIT_SPECIAL)] [])
        refine OwnGo.st (fun _ k => XS.aloadN X26.here hx rfl (hb hby d1_21) rfl rfl  k) ?_
        show OwnGo p e below s _ _ _ T26 (mkF m 22 #[.val (.int p1), .val (.ref u_Encoding_LOWER_UPPER_DIGIT_SPECIAL), .val (.ref u_Encoding_LOWER_UPPER_DIGIT_SPECIAL)] [(.ref u_Encoding_LOWER_UPPER_DIGIT_SPECIAL)])
        obtain ⟨cq27, kq27, q27a, q27b, q27c⟩ := isOf hZ e26 (E_u_Encoding_LOWER_UPPER_DIGIT_SPECIAL.ext O_.2)
        obtain ⟨_, _, ⟨T27, L27, k27, n27⟩, -, X27, ⟨Lc27, hQ27, l27, y27, z27⟩, st27⟩ := X26.virtualBack hx (y := (⟨"io/quintet/MetaString$Encoding", "flag", "()I"⟩ : MethodName)) (z := (⟨"io/quintet/MetaString$Encoding", "flag", "()I"⟩ : MethodName)) hown (mvT hZ (hw _ (List.mem_of_getElem? (i := 17) rfl))) (mvT hZ (hw _ (List.mem_of_getElem? (i := 18) rfl))) (notFace_of_selects (args := #[]) (mvT hZ (hw _ (List.mem_of_getElem? (i := 20) rfl)))) (mvT hZ (hw _ (List.mem_of_getElem? (i := 20) rfl))) (mvT hZ (hw _ (List.mem_of_getElem? (i := 19) rfl))) (by decide) (backOf (W := 0) (rm4 l Z a0 hw [] u_Encoding_LOWER_UPPER_DIGIT_SPECIAL (2 : Int32) h0 n0 Z_ (F_u_Encoding_LOWER_UPPER_DIGIT_SPECIAL_flag.ext O_.2)) hZ (hw _ (List.mem_of_getElem? (i := 21) rfl)) (hw _ (List.mem_of_getElem? (i := 6) rfl)) (by decide) (by decide)) q27a q27c (g := (mkF m 22 #[.val (.int p1), .val (.ref u_Encoding_LOWER_UPPER_DIGIT_SPECIAL), .val (.ref u_Encoding_LOWER_UPPER_DIGIT_SPECIAL)] [(.ref u_Encoding_LOWER_UPPER_DIGIT_SPECIAL)])) rfl (by rw [hml]; rfl) (Steps.refl _) (argsL := []) (rest := []) (lenOf pd_1 rfl) rfl (by show 2 * 0 + _ ≤ _; exact Nat.le_of_eq rfl) (hb hby d1_22) (fun _ _ => ⟨rfl, e26, (by decide : 0 + 0 ≤ _), (by decide : 0 + 0 ≤ _)⟩)
        dsimp only [Pt.U, Pt.locs, Pt.cells, Pt.slots] at X27 l27 y27 z27 st27 hQ27
        subst l27 y27 z27
        obtain ⟨rfl, N27q, e27⟩ := hQ27
        have N27 := Fr.app N26 N27q
        refine OwnGo.st (fun _ k => st27.trans k) ?_
        show OwnGo p e below s _ _ _ T27 (mkF m 25 #[.val (.int p1), .val (.ref u_Encoding_LOWER_UPPER_DIGIT_SPECIAL), .val (.ref u_Encoding_LOWER_UPPER_DIGIT_SPECIAL)] [(.int (2 : Int32))])
        refine OwnGo.st (fun _ k => XS.iloadN X27.here hx rfl (hb hby d1_25) rfl  k) ?_
        show OwnGo p e below s _ _ _ T27 (mkF m 26 #[.val (.int p1), .val (.ref u_Encoding_LOWER_UPPER_DIGIT_SPECIAL), .val (.ref u_Encoding_LOWER_UPPER_DIGIT_SPECIAL)] [(.int p1), (.int (2 : Int32))])
        refine OwnGo.st (fun _ k => XS.icmpNo X27.here hx rfl (hb hby d1_26) rfl (teq (hk2.symm : (2 : Int32) = p1)).2 k) ?_
        show OwnGo p e below s _ _ _ T27 (mkF m 29 #[.val (.int p1), .val (.ref u_Encoding_LOWER_UPPER_DIGIT_SPECIAL), .val (.ref u_Encoding_LOWER_UPPER_DIGIT_SPECIAL)] [])
        refine OwnGo.st (fun _ k => XS.iconst X27.here hx rfl (hb hby d1_29) k) ?_
        show OwnGo p e below s _ _ _ T27 (mkF m 30 #[.val (.int p1), .val (.ref u_Encoding_LOWER_UPPER_DIGIT_SPECIAL), .val (.ref u_Encoding_LOWER_UPPER_DIGIT_SPECIAL)] [(.int (1 : Int32))])
        refine OwnGo.st (fun _ k => XS.goto X27.here hx rfl (pc0 := 30) (pc' := 34) rfl (hb hby d1_30) (by decide) (by decide) k) ?_
        show OwnGo p e below s _ _ _ T27 (mkF m 34 #[.val (.int p1), .val (.ref u_Encoding_LOWER_UPPER_DIGIT_SPECIAL), .val (.ref u_Encoding_LOWER_UPPER_DIGIT_SPECIAL)] [(.int (1 : Int32))])
        exact OwnGo.retN X27 hx (t := .boolean) hret hlk (by simp) (hb hby d1_34) (by show Q1 Z p1 u_Encoding_ALL u_Encoding_UTF_8 u_Encoding_LOWER_SPECIAL u_Encoding_LOWER_UPPER_DIGIT_SPECIAL u_Encoding_FIRST_TO_LOWER_SPECIAL u_Encoding_ALL_TO_LOWER_SPECIAL kc_u_Encoding_ALL h0 n0 _ T27.heap _; rw [e27]; exact ⟨rfl, N27, rfl⟩) (by decide) (by decide)
      · by_cases hk3 : p1 = (3 : Int32)
        · obtain ⟨_, _, ⟨T28, L28, k28, n28⟩, -, X28, ⟨Lc28, hQ28, l28, y28, z28⟩, st28⟩ := Jvm.LawKit.callS X0 hx (y := (⟨"io/quintet/MetaString$Encoding", "ofFlag", "(I)Lio/quintet/MetaString$Encoding;"⟩ : MethodName)) hown (mvT hZ (hw _ (List.mem_of_getElem? (i := 4) rfl))) (mvT hZ (hw _ (List.mem_of_getElem? (i := 5) rfl))) (mvT hZ (hw _ (List.mem_of_getElem? (i := 6) rfl))) (mvT hZ (hw _ (List.mem_of_getElem? (i := 7) rfl))) (by decide) (backOf (W := 0) (rm2 l Z a0 hw [] p1 u_Encoding_ALL u_Encoding_UTF_8 u_Encoding_LOWER_SPECIAL u_Encoding_LOWER_UPPER_DIGIT_SPECIAL u_Encoding_FIRST_TO_LOWER_SPECIAL u_Encoding_ALL_TO_LOWER_SPECIAL kc_u_Encoding_ALL h0 n0 Z_ O_ S_u_Encoding_ALL S_u_Encoding_UTF_8 E_u_Encoding_UTF_8 F_u_Encoding_UTF_8_flag S_u_Encoding_LOWER_SPECIAL E_u_Encoding_LOWER_SPECIAL F_u_Encoding_LOWER_SPECIAL_flag S_u_Encoding_LOWER_UPPER_DIGIT_SPECIAL E_u_Encoding_LOWER_UPPER_DIGIT_SPECIAL F_u_Encoding_LOWER_UPPER_DIGIT_SPECIAL_flag S_u_Encoding_FIRST_TO_LOWER_SPECIAL E_u_Encoding_FIRST_TO_LOWER_SPECIAL F_u_Encoding_FIRST_TO_LOWER_SPECIAL_flag S_u_Encoding_ALL_TO_LOWER_SPECIAL E_u_Encoding_ALL_TO_LOWER_SPECIAL F_u_Encoding_ALL_TO_LOWER_SPECIAL_flag V_u_Encoding_ALL) hZ (hw _ (List.mem_of_getElem? (i := 7) rfl)) (hw _ (List.mem_of_getElem? (i := 6) rfl)) (by decide) (by decide)) (g := (mkF m 1 #[.val (.int p1), .unset, .unset] [(.int p1)])) rfl (by rw [hml]; rfl) (argsL := [(.int p1)]) (rest := []) (lenOf pd_0 rfl) rfl (by show 2 * 0 + _ ≤ _; exact Nat.le_of_eq rfl) (hb hby d1_1) (fun _ _ => ⟨rfl, e0, (by decide : 0 + 0 ≤ _), (by decide : 0 + 0 ≤ _)⟩)
          dsimp only [Pt.U, Pt.locs, Pt.cells, Pt.slots] at X28 l28 y28 z28 st28 hQ28
          subst l28 y28 z28
          obtain ⟨rfl, N28q, e28⟩ := hQ28
          have N28 := Fr.app N0 N28q
          refine OwnGo.st st28 ?_
          show OwnGo p e below s _ _ _ T28 (mkF m 4 #[.val (.int p1), .unset, .unset] [(own_pick p1 u_Encoding_UTF_8 u_Encoding_LOWER_SPECIAL u_Encoding_LOWER_UPPER_DIGIT_SPECIAL u_Encoding_FIRST_TO_LOWER_SPECIAL u_Encoding_ALL_TO_LOWER_SPECIAL)])
          rw [own_pk3 hk3]
          show OwnGo p e below s _ _ _ T28 (mkF m 4 #[.val (.int p1), .unset, .unset] [(.ref u_Encoding_FIRST_TO_LOWER_SPECIAL)])
          refine OwnGo.st (fun _ k => XS.astoreN X28.here hx rfl (hb hby d1_4) rfl rfl (l' := #[.val (.int p1), .val (.ref u_Encoding_FIRST_TO_LOWER_SPECIAL), .unset]) rfl k) ?_
          show OwnGo p e below s _ _ _ T28 (mkF m 5 #[.val (.int p1), .val (.ref u_Encoding_FIRST_TO_LOWER_SPECIAL), .unset] [])
          refine OwnGo.st (fun _ k => XS.iloadN X28.here hx rfl (hb hby d1_5) rfl  k) ?_
          show OwnGo p e below s _ _ _ T28 (mkF m 6 #[.val (.int p1), .val (.ref u_Encoding_FIRST_TO_LOWER_SPECIAL), .unset] [(.int p1)])
          obtain ⟨_, _, ⟨T29, L29, k29, n29⟩, -, X29, ⟨Lc29, hQ29, l29, y29, z29⟩, st29⟩ := Jvm.LawKit.callS X28 hx (y := (⟨"io/quintet/EncodingOfFlagPinLaw", "expected", "(I)Lio/quintet/MetaString$Encoding;"⟩ : MethodName)) hown (mvT hZ (hw _ (List.mem_of_getElem? (i := 13) rfl))) (mvT hZ (hw _ (List.mem_of_getElem? (i := 14) rfl))) (mvT hZ (hw _ (List.mem_of_getElem? (i := 2) rfl))) (mvT hZ (hw _ (List.mem_of_getElem? (i := 15) rfl))) (by decide) (backOf (W := 0) (rm3 l Z a0 hw [] p1 u_Encoding_ALL u_Encoding_UTF_8 u_Encoding_LOWER_SPECIAL u_Encoding_LOWER_UPPER_DIGIT_SPECIAL u_Encoding_FIRST_TO_LOWER_SPECIAL u_Encoding_ALL_TO_LOWER_SPECIAL kc_u_Encoding_ALL h0 n0 Z_ O_ S_u_Encoding_ALL S_u_Encoding_UTF_8 E_u_Encoding_UTF_8 F_u_Encoding_UTF_8_flag S_u_Encoding_LOWER_SPECIAL E_u_Encoding_LOWER_SPECIAL F_u_Encoding_LOWER_SPECIAL_flag S_u_Encoding_LOWER_UPPER_DIGIT_SPECIAL E_u_Encoding_LOWER_UPPER_DIGIT_SPECIAL F_u_Encoding_LOWER_UPPER_DIGIT_SPECIAL_flag S_u_Encoding_FIRST_TO_LOWER_SPECIAL E_u_Encoding_FIRST_TO_LOWER_SPECIAL F_u_Encoding_FIRST_TO_LOWER_SPECIAL_flag S_u_Encoding_ALL_TO_LOWER_SPECIAL E_u_Encoding_ALL_TO_LOWER_SPECIAL F_u_Encoding_ALL_TO_LOWER_SPECIAL_flag V_u_Encoding_ALL) hZ (hw _ (List.mem_of_getElem? (i := 15) rfl)) (hw _ (List.mem_of_getElem? (i := 2) rfl)) (by decide) (by decide)) (g := (mkF m 6 #[.val (.int p1), .val (.ref u_Encoding_FIRST_TO_LOWER_SPECIAL), .unset] [(.int p1)])) rfl (by rw [hml]; rfl) (argsL := [(.int p1)]) (rest := []) (lenOf pd_0 rfl) rfl (by show 2 * 0 + _ ≤ _; exact Nat.le_of_eq rfl) (hb hby d1_6) (fun _ _ => ⟨rfl, e28, (by decide : 0 + 0 ≤ _), (by decide : 0 + 0 ≤ _)⟩)
          dsimp only [Pt.U, Pt.locs, Pt.cells, Pt.slots] at X29 l29 y29 z29 st29 hQ29
          subst l29 y29 z29
          obtain ⟨rfl, N29q, e29⟩ := hQ29
          have N29 := Fr.app N28 N29q
          refine OwnGo.st st29 ?_
          show OwnGo p e below s _ _ _ T29 (mkF m 9 #[.val (.int p1), .val (.ref u_Encoding_FIRST_TO_LOWER_SPECIAL), .unset] [(own_pick p1 u_Encoding_UTF_8 u_Encoding_LOWER_SPECIAL u_Encoding_LOWER_UPPER_DIGIT_SPECIAL u_Encoding_FIRST_TO_LOWER_SPECIAL u_Encoding_ALL_TO_LOWER_SPECIAL)])
          rw [own_pk3 hk3]
          show OwnGo p e below s _ _ _ T29 (mkF m 9 #[.val (.int p1), .val (.ref u_Encoding_FIRST_TO_LOWER_SPECIAL), .unset] [(.ref u_Encoding_FIRST_TO_LOWER_SPECIAL)])
          refine OwnGo.st (fun _ k => XS.astoreN X29.here hx rfl (hb hby d1_9) rfl rfl (l' := #[.val (.int p1), .val (.ref u_Encoding_FIRST_TO_LOWER_SPECIAL), .val (.ref u_Encoding_FIRST_TO_LOWER_SPECIAL)]) rfl k) ?_
          show OwnGo p e below s _ _ _ T29 (mkF m 10 #[.val (.int p1), .val (.ref u_Encoding_FIRST_TO_LOWER_SPECIAL), .val (.ref u_Encoding_FIRST_TO_LOWER_SPECIAL)] [])
          refine OwnGo.st (fun _ k => XS.aloadN X29.here hx rfl (hb hby d1_10) rfl rfl  k) ?_
          show OwnGo p e below s _ _ _ T29 (mkF m 11 #[.val (.int p1), .val (.ref u_Encoding_FIRST_TO_LOWER_SPECIAL), .val (.ref u_Encoding_FIRST_TO_LOWER_SPECIAL)] [(.ref u_Encoding_FIRST_TO_LOWER_SPECIAL)])
          refine OwnGo.st (fun _ k => XS.aloadN X29.here hx rfl (hb hby d1_11) rfl rfl  k) ?_
          show OwnGo p e below s _ _ _ T29 (mkF m 12 #[.val (.int p1), .val (.ref u_Encoding_FIRST_TO_LOWER_SPECIAL), .val (.ref u_Encoding_FIRST_TO_LOWER_SPECIAL)] [(.ref u_Encoding_FIRST_TO_LOWER_SPECIAL), (.ref u_Encoding_FIRST_TO_LOWER_SPECIAL)])
          refine OwnGo.st (fun _ k => Jvm.RoadKit.acmp (g := (mkF m 12 #[.val (.int p1), .val (.ref u_Encoding_FIRST_TO_LOWER_SPECIAL), .val (.ref u_Encoding_FIRST_TO_LOWER_SPECIAL)] [(.ref u_Encoding_FIRST_TO_LOWER_SPECIAL), (.ref u_Encoding_FIRST_TO_LOWER_SPECIAL)])) X29 hx rfl rfl rfl (pc0 := 12) (pc' := 17) (same := true) rfl (hb hby d1_12) rfl (decide_eq_true rfl) (by decide) (by decide) k) ?_
          show OwnGo p e below s _ _ _ T29 (mkF m 17 #[.val (.int p1), .val (.ref u_Encoding_FIRST_TO_LOWER_SPECIAL), .val (.ref u_Encoding_FIRST_TO_LOWER_SPECIAL)] [])
          refine OwnGo.st (fun _ k => XS.aloadN X29.here hx rfl (hb hby d1_17) rfl rfl  k) ?_
          show OwnGo p e below s _ _ _ T29 (mkF m 18 #[.val (.int p1), .val (.ref u_Encoding_FIRST_TO_LOWER_SPECIAL), .val (.ref u_Encoding_FIRST_TO_LOWER_SPECIAL)] [(.ref u_Encoding_FIRST_TO_LOWER_SPECIAL)])
          refine OwnGo.st (fun _ k => XS.ifnullNo X29.here hx rfl (hb hby d1_18) rfl k) ?_
          show OwnGo p e below s _ _ _ T29 (mkF m 21 #[.val (.int p1), .val (.ref u_Encoding_FIRST_TO_LOWER_SPECIAL), .val (.ref u_Encoding_FIRST_TO_LOWER_SPECIAL)] [])
          refine OwnGo.st (fun _ k => XS.aloadN X29.here hx rfl (hb hby d1_21) rfl rfl  k) ?_
          show OwnGo p e below s _ _ _ T29 (mkF m 22 #[.val (.int p1), .val (.ref u_Encoding_FIRST_TO_LOWER_SPECIAL), .val (.ref u_Encoding_FIRST_TO_LOWER_SPECIAL)] [(.ref u_Encoding_FIRST_TO_LOWER_SPECIAL)])
          obtain ⟨cq30, kq30, q30a, q30b, q30c⟩ := isOf hZ e29 (E_u_Encoding_FIRST_TO_LOWER_SPECIAL.ext O_.2)
          obtain ⟨_, _, ⟨T30, L30, k30, n30⟩, -, X30, ⟨Lc30, hQ30, l30, y30, z30⟩, st30⟩ := X29.virtualBack hx (y := (⟨"io/quintet/MetaString$Encoding", "flag", "()I"⟩ : MethodName)) (z := (⟨"io/quintet/MetaString$Encoding", "flag", "()I"⟩ : MethodName)) hown (mvT hZ (hw _ (List.mem_of_getElem? (i := 17) rfl))) (mvT hZ (hw _ (List.mem_of_getElem? (i := 18) rfl))) (notFace_of_selects (args := #[]) (mvT hZ (hw _ (List.mem_of_getElem? (i := 20) rfl)))) (mvT hZ (hw _ (List.mem_of_getElem? (i := 20) rfl))) (mvT hZ (hw _ (List.mem_of_getElem? (i := 19) rfl))) (by decide) (backOf (W := 0) (rm4 l Z a0 hw [] u_Encoding_FIRST_TO_LOWER_SPECIAL (3 : Int32) h0 n0 Z_ (F_u_Encoding_FIRST_TO_LOWER_SPECIAL_flag.ext O_.2)) hZ (hw _ (List.mem_of_getElem? (i := 21) rfl)) (hw _ (List.mem_of_getElem? (i := 6) rfl)) (by decide) (by decide)) q30a q30c (g := (mkF m 22 #[.val (.int p1), .val (.ref u_Encoding_FIRST_TO_LOWER_SPECIAL), .val (.ref u_Encoding_FIRST_TO_LOWER_SPECIAL)] [(.ref u_Encoding_FIRST_TO_LOWER_SPECIAL)])) rfl (by rw [hml]; rfl) (Steps.refl _) (argsL := []) (rest := []) (lenOf pd_1 rfl) rfl (by show 2 * 0 + _ ≤ _; exact Nat.le_of_eq rfl) (hb hby d1_22) (fun _ _ => ⟨rfl, e29, (by decide : 0 + 0 ≤ _), (by decide : 0 + 0 ≤ _)⟩)
          dsimp only [Pt.U, Pt.locs, Pt.cells, Pt.slots] at X30 l30 y30 z30 st30 hQ30
          subst l30 y30 z30
          obtain ⟨rfl, N30q, e30⟩ := hQ30
          have N30 := Fr.app N29 N30q
          refine OwnGo.st (fun _ k => st30.trans k) ?_
          show OwnGo p e below s _ _ _ T30 (mkF m 25 #[.val (.int p1), .val (.ref u_Encoding_FIRST_TO_LOWER_SPECIAL), .val (.ref u_Encoding_FIRST_TO_LOWER_SPECIAL)] [(.int (3 : Int32))])
          refine OwnGo.st (fun _ k => XS.iloadN X30.here hx rfl (hb hby d1_25) rfl  k) ?_
          show OwnGo p e below s _ _ _ T30 (mkF m 26 #[.val (.int p1), .val (.ref u_Encoding_FIRST_TO_LOWER_SPECIAL), .val (.ref u_Encoding_FIRST_TO_LOWER_SPECIAL)] [(.int p1), (.int (3 : Int32))])
          refine OwnGo.st (fun _ k => XS.icmpNo X30.here hx rfl (hb hby d1_26) rfl (teq (hk3.symm : (3 : Int32) = p1)).2 k) ?_
          show OwnGo p e below s _ _ _ T30 (mkF m 29 #[.val (.int p1), .val (.ref u_Encoding_FIRST_TO_LOWER_SPECIAL), .val (.ref u_Encoding_FIRST_TO_LOWER_SPECIAL)] [])
          refine OwnGo.st (fun _ k => XS.iconst X30.here hx rfl (hb hby d1_29) k) ?_
          show OwnGo p e below s _ _ _ T30 (mkF m 30 #[.val (.int p1), .val (.ref u_Encoding_FIRST_TO_LOWER_SPECIAL), .val (.ref u_Encoding_FIRST_TO_LOWER_SPECIAL)] [(.int (1 : Int32))])
          refine OwnGo.st (fun _ k => XS.goto X30.here hx rfl (pc0 := 30) (pc' := 34) rfl (hb hby d1_30) (by decide) (by decide) k) ?_
          show OwnGo p e below s _ _ _ T30 (mkF m 34 #[.val (.int p1), .val (.ref u_Encoding_FIRST_TO_LOWER_SPECIAL), .val (.ref u_Encoding_FIRST_TO_LOWER_SPECIAL)] [(.int (1 : Int32))])
          exact OwnGo.retN X30 hx (t := .boolean) hret hlk (by simp) (hb hby d1_34) (by show Q1 Z p1 u_Encoding_ALL u_Encoding_UTF_8 u_Encoding_LOWER_SPECIAL u_Encoding_LOWER_UPPER_DIGIT_SPECIAL u_Encoding_FIRST_TO_LOWER_SPECIAL u_Encoding_ALL_TO_LOWER_SPECIAL kc_u_Encoding_ALL h0 n0 _ T30.heap _; rw [e30]; exact ⟨rfl, N30, rfl⟩) (by decide) (by decide)
        · by_cases hk4 : p1 = (4 : Int32)
          · obtain ⟨_, _, ⟨T31, L31, k31, n31⟩, -, X31, ⟨Lc31, hQ31, l31, y31, z31⟩, st31⟩ := Jvm.LawKit.callS X0 hx (y := (⟨"io/quintet/MetaString$Encoding", "ofFlag", "(I)Lio/quintet/MetaString$Encoding;"⟩ : MethodName)) hown (mvT hZ (hw _ (List.mem_of_getElem? (i := 4) rfl))) (mvT hZ (hw _ (List.mem_of_getElem? (i := 5) rfl))) (mvT hZ (hw _ (List.mem_of_getElem? (i := 6) rfl))) (mvT hZ (hw _ (List.mem_of_getElem? (i := 7) rfl))) (by decide) (backOf (W := 0) (rm2 l Z a0 hw [] p1 u_Encoding_ALL u_Encoding_UTF_8 u_Encoding_LOWER_SPECIAL u_Encoding_LOWER_UPPER_DIGIT_SPECIAL u_Encoding_FIRST_TO_LOWER_SPECIAL u_Encoding_ALL_TO_LOWER_SPECIAL kc_u_Encoding_ALL h0 n0 Z_ O_ S_u_Encoding_ALL S_u_Encoding_UTF_8 E_u_Encoding_UTF_8 F_u_Encoding_UTF_8_flag S_u_Encoding_LOWER_SPECIAL E_u_Encoding_LOWER_SPECIAL F_u_Encoding_LOWER_SPECIAL_flag S_u_Encoding_LOWER_UPPER_DIGIT_SPECIAL E_u_Encoding_LOWER_UPPER_DIGIT_SPECIAL F_u_Encoding_LOWER_UPPER_DIGIT_SPECIAL_flag S_u_Encoding_FIRST_TO_LOWER_SPECIAL E_u_Encoding_FIRST_TO_LOWER_SPECIAL F_u_Encoding_FIRST_TO_LOWER_SPECIAL_flag S_u_Encoding_ALL_TO_LOWER_SPECIAL E_u_Encoding_ALL_TO_LOWER_SPECIAL F_u_Encoding_ALL_TO_LOWER_SPECIAL_flag V_u_Encoding_ALL) hZ (hw _ (List.mem_of_getElem? (i := 7) rfl)) (hw _ (List.mem_of_getElem? (i := 6) rfl)) (by decide) (by decide)) (g := (mkF m 1 #[.val (.int p1), .unset, .unset] [(.int p1)])) rfl (by rw [hml]; rfl) (argsL := [(.int p1)]) (rest := []) (lenOf pd_0 rfl) rfl (by show 2 * 0 + _ ≤ _; exact Nat.le_of_eq rfl) (hb hby d1_1) (fun _ _ => ⟨rfl, e0, (by decide : 0 + 0 ≤ _), (by decide : 0 + 0 ≤ _)⟩)
            dsimp only [Pt.U, Pt.locs, Pt.cells, Pt.slots] at X31 l31 y31 z31 st31 hQ31
            subst l31 y31 z31
            obtain ⟨rfl, N31q, e31⟩ := hQ31
            have N31 := Fr.app N0 N31q
            refine OwnGo.st st31 ?_
            show OwnGo p e below s _ _ _ T31 (mkF m 4 #[.val (.int p1), .unset, .unset] [(own_pick p1 u_Encoding_UTF_8 u_Encoding_LOWER_SPECIAL u_Encoding_LOWER_UPPER_DIGIT_SPECIAL u_Encoding_FIRST_TO_LOWER_SPECIAL u_Encoding_ALL_TO_LOWER_SPECIAL)])
            rw [own_pk4 hk4]
            show OwnGo p e below s _ _ _ T31 (mkF m 4 #[.val (.int p1), .unset, .unset] [(.ref u_Encoding_ALL_TO_LOWER_SPECIAL)])
            refine OwnGo.st (fun _ k => XS.astoreN X31.here hx rfl (hb hby d1_4) rfl rfl (l' := #[.val (.int p1), .val (.ref u_Encoding_ALL_TO_LOWER_SPECIAL), .unset]) rfl k) ?_
            show OwnGo p e below s _ _ _ T31 (mkF m 5 #[.val (.int p1), .val (.ref u_Encoding_ALL_TO_LOWER_SPECIAL), .unset] [])
            refine OwnGo.st (fun _ k => XS.iloadN X31.here hx rfl (hb hby d1_5) rfl  k) ?_
            show OwnGo p e below s _ _ _ T31 (mkF m 6 #[.val (.int p1), .val (.ref u_Encoding_ALL_TO_LOWER_SPECIAL), .unset] [(.int p1)])
            obtain ⟨_, _, ⟨T32, L32, k32, n32⟩, -, X32, ⟨Lc32, hQ32, l32, y32, z32⟩, st32⟩ := Jvm.LawKit.callS X31 hx (y := (⟨"io/quintet/EncodingOfFlagPinLaw", "expected", "(I)Lio/quintet/MetaString$Encoding;"⟩ : MethodName)) hown (mvT hZ (hw _ (List.mem_of_getElem? (i := 13) rfl))) (mvT hZ (hw _ (List.mem_of_getElem? (i := 14) rfl))) (mvT hZ (hw _ (List.mem_of_getElem? (i := 2) rfl))) (mvT hZ (hw _ (List.mem_of_getElem? (i := 15) rfl))) (by decide) (backOf (W := 0) (rm3 l Z a0 hw [] p1 u_Encoding_ALL u_Encoding_UTF_8 u_Encoding_LOWER_SPECIAL u_Encoding_LOWER_UPPER_DIGIT_SPECIAL u_Encoding_FIRST_TO_LOWER_SPECIAL u_Encoding_ALL_TO_LOWER_SPECIAL kc_u_Encoding_ALL h0 n0 Z_ O_ S_u_Encoding_ALL S_u_Encoding_UTF_8 E_u_Encoding_UTF_8 F_u_Encoding_UTF_8_flag S_u_Encoding_LOWER_SPECIAL E_u_Encoding_LOWER_SPECIAL F_u_Encoding_LOWER_SPECIAL_flag S_u_Encoding_LOWER_UPPER_DIGIT_SPECIAL E_u_Encoding_LOWER_UPPER_DIGIT_SPECIAL F_u_Encoding_LOWER_UPPER_DIGIT_SPECIAL_flag S_u_Encoding_FIRST_TO_LOWER_SPECIAL E_u_Encoding_FIRST_TO_LOWER_SPECIAL F_u_Encoding_FIRST_TO_LOWER_SPECIAL_flag S_u_Encoding_ALL_TO_LOWER_SPECIAL E_u_Encoding_ALL_TO_LOWER_SPECIAL F_u_Encoding_ALL_TO_LOWER_SPECIAL_flag V_u_Encoding_ALL) hZ (hw _ (List.mem_of_getElem? (i := 15) rfl)) (hw _ (List.mem_of_getElem? (i := 2) rfl)) (by decide) (by decide)) (g := (mkF m 6 #[.val (.int p1), .val (.ref u_Encoding_ALL_TO_LOWER_SPECIAL), .unset] [(.int p1)])) rfl (by rw [hml]; rfl) (argsL := [(.int p1)]) (rest := []) (lenOf pd_0 rfl) rfl (by show 2 * 0 + _ ≤ _; exact Nat.le_of_eq rfl) (hb hby d1_6) (fun _ _ => ⟨rfl, e31, (by decide : 0 + 0 ≤ _), (by decide : 0 + 0 ≤ _)⟩)
            dsimp only [Pt.U, Pt.locs, Pt.cells, Pt.slots] at X32 l32 y32 z32 st32 hQ32
            subst l32 y32 z32
            obtain ⟨rfl, N32q, e32⟩ := hQ32
            have N32 := Fr.app N31 N32q
            refine OwnGo.st st32 ?_
            show OwnGo p e below s _ _ _ T32 (mkF m 9 #[.val (.int p1), .val (.ref u_Encoding_ALL_TO_LOWER_SPECIAL), .unset] [(own_pick p1 u_Encoding_UTF_8 u_Encoding_LOWER_SPECIAL u_Encoding_LOWER_UPPER_DIGIT_SPECIAL u_Encoding_FIRST_TO_LOWER_SPECIAL u_Encoding_ALL_TO_LOWER_SPECIAL)])
            rw [own_pk4 hk4]
            show OwnGo p e below s _ _ _ T32 (mkF m 9 #[.val (.int p1), .val (.ref u_Encoding_ALL_TO_LOWER_SPECIAL), .unset] [(.ref u_Encoding_ALL_TO_LOWER_SPECIAL)])
            refine OwnGo.st (fun _ k => XS.astoreN X32.here hx rfl (hb hby d1_9) rfl rfl (l' := #[.val (.int p1), .val (.ref u_Encoding_ALL_TO_LOWER_SPECIAL), .val (.ref u_Encoding_ALL_TO_LOWER_SPECIAL)]) rfl k) ?_
            show OwnGo p e below s _ _ _ T32 (mkF m 10 #[.val (.int p1), .val (.ref u_Encoding_ALL_TO_LOWER_SPECIAL), .val (.ref u_Encoding_ALL_TO_LOWER_SPECIAL)] [])
            refine OwnGo.st (fun _ k => XS.aloadN X32.here hx rfl (hb hby d1_10) rfl rfl  k) ?_
            show OwnGo p e below s _ _ _ T32 (mkF m 11 #[.val (.int p1), .val (.ref u_Encoding_ALL_TO_LOWER_SPECIAL), .val (.ref u_Encoding_ALL_TO_LOWER_SPECIAL)] [(.ref u_Encoding_ALL_TO_LOWER_SPECIAL)])
            refine OwnGo.st (fun _ k => XS.aloadN X32.here hx rfl (hb hby d1_11) rfl rfl  k) ?_
            show OwnGo p e below s _ _ _ T32 (mkF m 12 #[.val (.int p1), .val (.ref u_Encoding_ALL_TO_LOWER_SPECIAL), .val (.ref u_Encoding_ALL_TO_LOWER_SPECIAL)] [(.ref u_Encoding_ALL_TO_LOWER_SPECIAL), (.ref u_Encoding_ALL_TO_LOWER_SPECIAL)])
            refine OwnGo.st (fun _ k => Jvm.RoadKit.acmp (g := (mkF m 12 #[.val (.int p1), .val (.ref u_Encoding_ALL_TO_LOWER_SPECIAL), .val (.ref u_Encoding_ALL_TO_LOWER_SPECIAL)] [(.ref u_Encoding_ALL_TO_LOWER_SPECIAL), (.ref u_Encoding_ALL_TO_LOWER_SPECIAL)])) X32 hx rfl rfl rfl (pc0 := 12) (pc' := 17) (same := true) rfl (hb hby d1_12) rfl (decide_eq_true rfl) (by decide) (by decide) k) ?_
            show OwnGo p e below s _ _ _ T32 (mkF m 17 #[.val (.int p1), .val (.ref u_Encoding_ALL_TO_LOWER_SPECIAL), .val (.ref u_Encoding_ALL_TO_LOWER_SPECIAL)] [])
            refine OwnGo.st (fun _ k => XS.aloadN X32.here hx rfl (hb hby d1_17) rfl rfl  k) ?_
            show OwnGo p e below s _ _ _ T32 (mkF m 18 #[.val (.int p1), .val (.ref u_Encoding_ALL_TO_LOWER_SPECIAL), .val (.ref u_Encoding_ALL_TO_LOWER_SPECIAL)] [(.ref u_Encoding_ALL_TO_LOWER_SPECIAL)])
            refine OwnGo.st (fun _ k => XS.ifnullNo X32.here hx rfl (hb hby d1_18) rfl k) ?_
            show OwnGo p e below s _ _ _ T32 (mkF m 21 #[.val (.int p1), .val (.ref u_Encoding_ALL_TO_LOWER_SPECIAL), .val (.ref u_Encoding_ALL_TO_LOWER_SPECIAL)] [])
            refine OwnGo.st (fun _ k => XS.aloadN X32.here hx rfl (hb hby d1_21) rfl rfl  k) ?_
            show OwnGo p e below s _ _ _ T32 (mkF m 22 #[.val (.int p1), .val (.ref u_Encoding_ALL_TO_LOWER_SPECIAL), .val (.ref u_Encoding_ALL_TO_LOWER_SPECIAL)] [(.ref u_Encoding_ALL_TO_LOWER_SPECIAL)])
            obtain ⟨cq33, kq33, q33a, q33b, q33c⟩ := isOf hZ e32 (E_u_Encoding_ALL_TO_LOWER_SPECIAL.ext O_.2)
            obtain ⟨_, _, ⟨T33, L33, k33, n33⟩, -, X33, ⟨Lc33, hQ33, l33, y33, z33⟩, st33⟩ := X32.virtualBack hx (y := (⟨"io/quintet/MetaString$Encoding", "flag", "()I"⟩ : MethodName)) (z := (⟨"io/quintet/MetaString$Encoding", "flag", "()I"⟩ : MethodName)) hown (mvT hZ (hw _ (List.mem_of_getElem? (i := 17) rfl))) (mvT hZ (hw _ (List.mem_of_getElem? (i := 18) rfl))) (notFace_of_selects (args := #[]) (mvT hZ (hw _ (List.mem_of_getElem? (i := 20) rfl)))) (mvT hZ (hw _ (List.mem_of_getElem? (i := 20) rfl))) (mvT hZ (hw _ (List.mem_of_getElem? (i := 19) rfl))) (by decide) (backOf (W := 0) (rm4 l Z a0 hw [] u_Encoding_ALL_TO_LOWER_SPECIAL (4 : Int32) h0 n0 Z_ (F_u_Encoding_ALL_TO_LOWER_SPECIAL_flag.ext O_.2)) hZ (hw _ (List.mem_of_getElem? (i := 21) rfl)) (hw _ (List.mem_of_getElem? (i := 6) rfl)) (by decide) (by decide)) q33a q33c (g := (mkF m 22 #[.val (.int p1), .val (.ref u_Encoding_ALL_TO_LOWER_SPECIAL), .val (.ref u_Encoding_ALL_TO_LOWER_SPECIAL)] [(.ref u_Encoding_ALL_TO_LOWER_SPECIAL)])) rfl (by rw [hml]; rfl) (Steps.refl _) (argsL := []) (rest := []) (lenOf pd_1 rfl) rfl (by show 2 * 0 + _ ≤ _; exact Nat.le_of_eq rfl) (hb hby d1_22) (fun _ _ => ⟨rfl, e32, (by decide : 0 + 0 ≤ _), (by decide : 0 + 0 ≤ _)⟩)
            dsimp only [Pt.U, Pt.locs, Pt.cells, Pt.slots] at X33 l33 y33 z33 st33 hQ33
            subst l33 y33 z33
            obtain ⟨rfl, N33q, e33⟩ := hQ33
            have N33 := Fr.app N32 N33q
            refine OwnGo.st (fun _ k => st33.trans k) ?_
            show OwnGo p e below s _ _ _ T33 (mkF m 25 #[.val (.int p1), .val (.ref u_Encoding_ALL_TO_LOWER_SPECIAL), .val (.ref u_Encoding_ALL_TO_LOWER_SPECIAL)] [(.int (4 : Int32))])
            refine OwnGo.st (fun _ k => XS.iloadN X33.here hx rfl (hb hby d1_25) rfl  k) ?_
            show OwnGo p e below s _ _ _ T33 (mkF m 26 #[.val (.int p1), .val (.ref u_Encoding_ALL_TO_LOWER_SPECIAL), .val (.ref u_Encoding_ALL_TO_LOWER_SPECIAL)] [(.int p1), (.int (4 : Int32))])
            refine OwnGo.st (fun _ k => XS.icmpNo X33.here hx rfl (hb hby d1_26) rfl (teq (hk4.symm : (4 : Int32) = p1)).2 k) ?_
            show OwnGo p e below s _ _ _ T33 (mkF m 29 #[.val (.int p1), .val (.ref u_Encoding_ALL_TO_LOWER_SPECIAL), .val (.ref u_Encoding_ALL_TO_LOWER_SPECIAL)] [])
            refine OwnGo.st (fun _ k => XS.iconst X33.here hx rfl (hb hby d1_29) k) ?_
            show OwnGo p e below s _ _ _ T33 (mkF m 30 #[.val (.int p1), .val (.ref u_Encoding_ALL_TO_LOWER_SPECIAL), .val (.ref u_Encoding_ALL_TO_LOWER_SPECIAL)] [(.int (1 : Int32))])
            refine OwnGo.st (fun _ k => XS.goto X33.here hx rfl (pc0 := 30) (pc' := 34) rfl (hb hby d1_30) (by decide) (by decide) k) ?_
            show OwnGo p e below s _ _ _ T33 (mkF m 34 #[.val (.int p1), .val (.ref u_Encoding_ALL_TO_LOWER_SPECIAL), .val (.ref u_Encoding_ALL_TO_LOWER_SPECIAL)] [(.int (1 : Int32))])
            exact OwnGo.retN X33 hx (t := .boolean) hret hlk (by simp) (hb hby d1_34) (by show Q1 Z p1 u_Encoding_ALL u_Encoding_UTF_8 u_Encoding_LOWER_SPECIAL u_Encoding_LOWER_UPPER_DIGIT_SPECIAL u_Encoding_FIRST_TO_LOWER_SPECIAL u_Encoding_ALL_TO_LOWER_SPECIAL kc_u_Encoding_ALL h0 n0 _ T33.heap _; rw [e33]; exact ⟨rfl, N33, rfl⟩) (by decide) (by decide)
          · obtain ⟨_, _, ⟨T34, L34, k34, n34⟩, -, X34, ⟨Lc34, hQ34, l34, y34, z34⟩, st34⟩ := Jvm.LawKit.callS X0 hx (y := (⟨"io/quintet/MetaString$Encoding", "ofFlag", "(I)Lio/quintet/MetaString$Encoding;"⟩ : MethodName)) hown (mvT hZ (hw _ (List.mem_of_getElem? (i := 4) rfl))) (mvT hZ (hw _ (List.mem_of_getElem? (i := 5) rfl))) (mvT hZ (hw _ (List.mem_of_getElem? (i := 6) rfl))) (mvT hZ (hw _ (List.mem_of_getElem? (i := 7) rfl))) (by decide) (backOf (W := 0) (rm2 l Z a0 hw [] p1 u_Encoding_ALL u_Encoding_UTF_8 u_Encoding_LOWER_SPECIAL u_Encoding_LOWER_UPPER_DIGIT_SPECIAL u_Encoding_FIRST_TO_LOWER_SPECIAL u_Encoding_ALL_TO_LOWER_SPECIAL kc_u_Encoding_ALL h0 n0 Z_ O_ S_u_Encoding_ALL S_u_Encoding_UTF_8 E_u_Encoding_UTF_8 F_u_Encoding_UTF_8_flag S_u_Encoding_LOWER_SPECIAL E_u_Encoding_LOWER_SPECIAL F_u_Encoding_LOWER_SPECIAL_flag S_u_Encoding_LOWER_UPPER_DIGIT_SPECIAL E_u_Encoding_LOWER_UPPER_DIGIT_SPECIAL F_u_Encoding_LOWER_UPPER_DIGIT_SPECIAL_flag S_u_Encoding_FIRST_TO_LOWER_SPECIAL E_u_Encoding_FIRST_TO_LOWER_SPECIAL F_u_Encoding_FIRST_TO_LOWER_SPECIAL_flag S_u_Encoding_ALL_TO_LOWER_SPECIAL E_u_Encoding_ALL_TO_LOWER_SPECIAL F_u_Encoding_ALL_TO_LOWER_SPECIAL_flag V_u_Encoding_ALL) hZ (hw _ (List.mem_of_getElem? (i := 7) rfl)) (hw _ (List.mem_of_getElem? (i := 6) rfl)) (by decide) (by decide)) (g := (mkF m 1 #[.val (.int p1), .unset, .unset] [(.int p1)])) rfl (by rw [hml]; rfl) (argsL := [(.int p1)]) (rest := []) (lenOf pd_0 rfl) rfl (by show 2 * 0 + _ ≤ _; exact Nat.le_of_eq rfl) (hb hby d1_1) (fun _ _ => ⟨rfl, e0, (by decide : 0 + 0 ≤ _), (by decide : 0 + 0 ≤ _)⟩)
            dsimp only [Pt.U, Pt.locs, Pt.cells, Pt.slots] at X34 l34 y34 z34 st34 hQ34
            subst l34 y34 z34
            obtain ⟨rfl, N34q, e34⟩ := hQ34
            have N34 := Fr.app N0 N34q
            refine OwnGo.st st34 ?_
            show OwnGo p e below s _ _ _ T34 (mkF m 4 #[.val (.int p1), .unset, .unset] [(own_pick p1 u_Encoding_UTF_8 u_Encoding_LOWER_SPECIAL u_Encoding_LOWER_UPPER_DIGIT_SPECIAL u_Encoding_FIRST_TO_LOWER_SPECIAL u_Encoding_ALL_TO_LOWER_SPECIAL)])
            rw [own_pkN hk0 hk1 hk2 hk3 hk4]
            show OwnGo p e below s _ _ _ T34 (mkF m 4 #[.val (.int p1), .unset, .unset] [.null])
            refine OwnGo.st (fun _ k => XS.astoreN X34.here hx rfl (hb hby d1_4) rfl rfl (l' := #[.val (.int p1), .val .null, .unset]) rfl k) ?_
            show OwnGo p e below s _ _ _ T34 (mkF m 5 #[.val (.int p1), .val .null, .unset] [])
            refine OwnGo.st (fun _ k => XS.iloadN X34.here hx rfl (hb hby d1_5) rfl  k) ?_
            show OwnGo p e below s _ _ _ T34 (mkF m 6 #[.val (.int p1), .val .null, .unset] [(.int p1)])
            obtain ⟨_, _, ⟨T35, L35, k35, n35⟩, -, X35, ⟨Lc35, hQ35, l35, y35, z35⟩, st35⟩ := Jvm.LawKit.callS X34 hx (y := (⟨"io/quintet/EncodingOfFlagPinLaw", "expected", "(I)Lio/quintet/MetaString$Encoding;"⟩ : MethodName)) hown (mvT hZ (hw _ (List.mem_of_getElem? (i := 13) rfl))) (mvT hZ (hw _ (List.mem_of_getElem? (i := 14) rfl))) (mvT hZ (hw _ (List.mem_of_getElem? (i := 2) rfl))) (mvT hZ (hw _ (List.mem_of_getElem? (i := 15) rfl))) (by decide) (backOf (W := 0) (rm3 l Z a0 hw [] p1 u_Encoding_ALL u_Encoding_UTF_8 u_Encoding_LOWER_SPECIAL u_Encoding_LOWER_UPPER_DIGIT_SPECIAL u_Encoding_FIRST_TO_LOWER_SPECIAL u_Encoding_ALL_TO_LOWER_SPECIAL kc_u_Encoding_ALL h0 n0 Z_ O_ S_u_Encoding_ALL S_u_Encoding_UTF_8 E_u_Encoding_UTF_8 F_u_Encoding_UTF_8_flag S_u_Encoding_LOWER_SPECIAL E_u_Encoding_LOWER_SPECIAL F_u_Encoding_LOWER_SPECIAL_flag S_u_Encoding_LOWER_UPPER_DIGIT_SPECIAL E_u_Encoding_LOWER_UPPER_DIGIT_SPECIAL F_u_Encoding_LOWER_UPPER_DIGIT_SPECIAL_flag S_u_Encoding_FIRST_TO_LOWER_SPECIAL E_u_Encoding_FIRST_TO_LOWER_SPECIAL F_u_Encoding_FIRST_TO_LOWER_SPECIAL_flag S_u_Encoding_ALL_TO_LOWER_SPECIAL E_u_Encoding_ALL_TO_LOWER_SPECIAL F_u_Encoding_ALL_TO_LOWER_SPECIAL_flag V_u_Encoding_ALL) hZ (hw _ (List.mem_of_getElem? (i := 15) rfl)) (hw _ (List.mem_of_getElem? (i := 2) rfl)) (by decide) (by decide)) (g := (mkF m 6 #[.val (.int p1), .val .null, .unset] [(.int p1)])) rfl (by rw [hml]; rfl) (argsL := [(.int p1)]) (rest := []) (lenOf pd_0 rfl) rfl (by show 2 * 0 + _ ≤ _; exact Nat.le_of_eq rfl) (hb hby d1_6) (fun _ _ => ⟨rfl, e34, (by decide : 0 + 0 ≤ _), (by decide : 0 + 0 ≤ _)⟩)
            dsimp only [Pt.U, Pt.locs, Pt.cells, Pt.slots] at X35 l35 y35 z35 st35 hQ35
            subst l35 y35 z35
            obtain ⟨rfl, N35q, e35⟩ := hQ35
            have N35 := Fr.app N34 N35q
            refine OwnGo.st st35 ?_
            show OwnGo p e below s _ _ _ T35 (mkF m 9 #[.val (.int p1), .val .null, .unset] [(own_pick p1 u_Encoding_UTF_8 u_Encoding_LOWER_SPECIAL u_Encoding_LOWER_UPPER_DIGIT_SPECIAL u_Encoding_FIRST_TO_LOWER_SPECIAL u_Encoding_ALL_TO_LOWER_SPECIAL)])
            rw [own_pkN hk0 hk1 hk2 hk3 hk4]
            show OwnGo p e below s _ _ _ T35 (mkF m 9 #[.val (.int p1), .val .null, .unset] [.null])
            refine OwnGo.st (fun _ k => XS.astoreN X35.here hx rfl (hb hby d1_9) rfl rfl (l' := #[.val (.int p1), .val .null, .val .null]) rfl k) ?_
            show OwnGo p e below s _ _ _ T35 (mkF m 10 #[.val (.int p1), .val .null, .val .null] [])
            refine OwnGo.st (fun _ k => XS.aloadN X35.here hx rfl (hb hby d1_10) rfl rfl  k) ?_
            show OwnGo p e below s _ _ _ T35 (mkF m 11 #[.val (.int p1), .val .null, .val .null] [.null])
            refine OwnGo.st (fun _ k => XS.aloadN X35.here hx rfl (hb hby d1_11) rfl rfl  k) ?_
            show OwnGo p e below s _ _ _ T35 (mkF m 12 #[.val (.int p1), .val .null, .val .null] [.null, .null])
            refine OwnGo.st (fun _ k => Jvm.RoadKit.acmp (g := (mkF m 12 #[.val (.int p1), .val .null, .val .null] [.null, .null])) X35 hx rfl rfl rfl (pc0 := 12) (pc' := 17) (same := true) rfl (hb hby d1_12) rfl (decide_eq_true rfl) (by decide) (by decide) k) ?_
            show OwnGo p e below s _ _ _ T35 (mkF m 17 #[.val (.int p1), .val .null, .val .null] [])
            refine OwnGo.st (fun _ k => XS.aloadN X35.here hx rfl (hb hby d1_17) rfl rfl  k) ?_
            show OwnGo p e below s _ _ _ T35 (mkF m 18 #[.val (.int p1), .val .null, .val .null] [.null])
            refine OwnGo.st (fun _ k => XS.ifnullYes X35.here hx rfl (pc0 := 18) (pc' := 29) rfl (hb hby d1_18) rfl (by decide) (by decide) k) ?_
            show OwnGo p e below s _ _ _ T35 (mkF m 29 #[.val (.int p1), .val .null, .val .null] [])
            refine OwnGo.st (fun _ k => XS.iconst X35.here hx rfl (hb hby d1_29) k) ?_
            show OwnGo p e below s _ _ _ T35 (mkF m 30 #[.val (.int p1), .val .null, .val .null] [(.int (1 : Int32))])
            refine OwnGo.st (fun _ k => XS.goto X35.here hx rfl (pc0 := 30) (pc' := 34) rfl (hb hby d1_30) (by decide) (by decide) k) ?_
            show OwnGo p e below s _ _ _ T35 (mkF m 34 #[.val (.int p1), .val .null, .val .null] [(.int (1 : Int32))])
            exact OwnGo.retN X35 hx (t := .boolean) hret hlk (by simp) (hb hby d1_34) (by show Q1 Z p1 u_Encoding_ALL u_Encoding_UTF_8 u_Encoding_LOWER_SPECIAL u_Encoding_LOWER_UPPER_DIGIT_SPECIAL u_Encoding_FIRST_TO_LOWER_SPECIAL u_Encoding_ALL_TO_LOWER_SPECIAL kc_u_Encoding_ALL h0 n0 _ T35.heap _; rw [e35]; exact ⟨rfl, N35, rfl⟩) (by decide) (by decide)
def Q0 (Z : State) (p1 : Int32) (p2 : Int32) (u_Encoding_ALL : Addr) (u_Encoding_UTF_8 : Addr) (u_Encoding_LOWER_SPECIAL : Addr) (u_Encoding_LOWER_UPPER_DIGIT_SPECIAL : Addr) (u_Encoding_FIRST_TO_LOWER_SPECIAL : Addr) (u_Encoding_ALL_TO_LOWER_SPECIAL : Addr) (kc_u_Encoding_ALL : ClassId) (h0 : Heap) (n0 : Nat) (v : Option Value) (h : Heap) (L : List Loc) : Prop := v = some (.int (1 : Int32)) ∧ Fr n0 L
set_option maxRecDepth 65536 in
set_option maxHeartbeats 40000000 in
theorem rm0 (l : Launch) (Z : State) (a0 : Array Value) (hw : ∀ d ∈ tables_1, d.before a0 Z = true) (ws : List Jvm.Cond) (p1 : Int32) (p2 : Int32) (u_Encoding_ALL : Addr) (u_Encoding_UTF_8 : Addr) (u_Encoding_LOWER_SPECIAL : Addr) (u_Encoding_LOWER_UPPER_DIGIT_SPECIAL : Addr) (u_Encoding_FIRST_TO_LOWER_SPECIAL : Addr) (u_Encoding_ALL_TO_LOWER_SPECIAL : Addr) (kc_u_Encoding_ALL : ClassId) (h0 : Heap) (n0 : Nat) (Z0 : n0 ≤ h0.size) (O_ : Old Z n0 h0) (S_u_Encoding_ALL : Sta Z Z.heap "io/quintet/MetaString$Encoding" "ALL" "[Lio/quintet/MetaString$Encoding;" (.ref u_Encoding_ALL)) (S_u_Encoding_UTF_8 : Sta Z Z.heap "io/quintet/MetaString$Encoding" "UTF_8" "Lio/quintet/MetaString$Encoding;" (.ref u_Encoding_UTF_8)) (E_u_Encoding_UTF_8 : Exa Z Z.heap u_Encoding_UTF_8 "io/quintet/MetaString$Encoding") (F_u_Encoding_UTF_8_flag : Fld Z Z.heap u_Encoding_UTF_8 "io/quintet/MetaString$Encoding" "flag" "I" (.int (0 : Int32))) (S_u_Encoding_LOWER_SPECIAL : Sta Z Z.heap "io/quintet/MetaString$Encoding" "LOWER_SPECIAL" "Lio/quintet/MetaString$Encoding;" (.ref u_Encoding_LOWER_SPECIAL)) (E_u_Encoding_LOWER_SPECIAL : Exa Z Z.heap u_Encoding_LOWER_SPECIAL "io/quintet/MetaString$Encoding") (F_u_Encoding_LOWER_SPECIAL_flag : Fld Z Z.heap u_Encoding_LOWER_SPECIAL "io/quintet/MetaString$Encoding" "flag" "I" (.int (1 : Int32))) (S_u_Encoding_LOWER_UPPER_DIGIT_SPECIAL : Sta Z Z.heap "io/quintet/MetaString$Encoding" "LOWER_UPPER_DIGIT_SPECIAL" "Lio/quintet/MetaString$Encoding;" (.ref u_Encoding_LOWER_UPPER_DIGIT_SPECIAL)) (E_u_Encoding_LOWER_UPPER_DIGIT_SPECIAL : Exa Z Z.heap u_Encoding_LOWER_UPPER_DIGIT_SPECIAL "io/quintet/MetaString$Encoding") (F_u_Encoding_LOWER_UPPER_DIGIT_SPECIAL_flag : Fld Z Z.heap u_Encoding_LOWER_UPPER_DIGIT_SPECIAL "io/quintet/MetaString$Encoding" "flag" "I" (.int (2 : Int32))) (S_u_Encoding_FIRST_TO_LOWER_SPECIAL : Sta Z Z.heap "io/quintet/MetaString$Encoding" "FIRST_TO_LOWER_SPECIAL" "Lio/quintet/MetaString$Encoding;" (.ref u_Encoding_FIRST_TO_LOWER_SPECIAL)) (E_u_Encoding_FIRST_TO_LOWER_SPECIAL : Exa Z Z.heap u_Encoding_FIRST_TO_LOWER_SPECIAL "io/quintet/MetaString$Encoding") (F_u_Encoding_FIRST_TO_LOWER_SPECIAL_flag : Fld Z Z.heap u_Encoding_FIRST_TO_LOWER_SPECIAL "io/quintet/MetaString$Encoding" "flag" "I" (.int (3 : Int32))) (S_u_Encoding_ALL_TO_LOWER_SPECIAL : Sta Z Z.heap "io/quintet/MetaString$Encoding" "ALL_TO_LOWER_SPECIAL" "Lio/quintet/MetaString$Encoding;" (.ref u_Encoding_ALL_TO_LOWER_SPECIAL)) (E_u_Encoding_ALL_TO_LOWER_SPECIAL : Exa Z Z.heap u_Encoding_ALL_TO_LOWER_SPECIAL "io/quintet/MetaString$Encoding") (F_u_Encoding_ALL_TO_LOWER_SPECIAL_flag : Fld Z Z.heap u_Encoding_ALL_TO_LOWER_SPECIAL "io/quintet/MetaString$Encoding" "flag" "I" (.int (4 : Int32))) (V_u_Encoding_ALL : Arv Z Z.heap u_Encoding_ALL kc_u_Encoding_ALL (Jvm.ClassFile.FieldType.object "io/quintet/MetaString$Encoding") (5 : Int32) [(.ref u_Encoding_UTF_8), (.ref u_Encoding_LOWER_SPECIAL), (.ref u_Encoding_LOWER_UPPER_DIGIT_SPECIAL), (.ref u_Encoding_FIRST_TO_LOWER_SPECIAL), (.ref u_Encoding_ALL_TO_LOWER_SPECIAL)] .null) :
    MetFree l x (head1 (Jvm.Cond.code x code maxLocals ret :: ws) room_1) (fun as_ U => as_ = #[(.int p1), (.int p2)] ∧ Z.Warmed39 U.vm ∧ U.heap = h0) (fun _ _ _ _ _ => True) (fun _ U o U' => ∃ v L, o = .returned v ∧ (Q0 Z p1 p2 u_Encoding_ALL u_Encoding_UTF_8 u_Encoding_LOWER_SPECIAL u_Encoding_LOWER_UPPER_DIGIT_SPECIAL u_Encoding_FIRST_TO_LOWER_SPECIAL u_Encoding_ALL_TO_LOWER_SPECIAL kc_u_Encoding_ALL h0 n0) v U'.heap L ∧ FrameEnd U o U' L room_1.cells room_1.slots) := by
  refine own_met (plainFor_of_name pn_3) ?_
  intro p e s m below meth c s₁ X0 hx hby hml hret hlk hown hnm hZ e0
  have N0 := Fr.nil n0
  have Z_ := Z0
  refine OwnGo.cast (ef_0 m p1 p2) ?_
  have hml : c.maxLocals = 3 := hml
  show OwnGo p e below s _ _ _ s₁ (mkF m 0 #[.val (.int p1), .val (.int p2), .unset] [])
  refine OwnGo.st (fun _ k => XS.iloadN X0.here hx rfl (hb hby at_0) rfl  k) ?_
  show OwnGo p e below s _ _ _ s₁ (mkF m 1 #[.val (.int p1), .val (.int p2), .unset] [(.int p2)])
  refine OwnGo.st (fun _ k => XS.bipush X0.here hx rfl (hb hby at_1) k) ?_
  show OwnGo p e below s _ _ _ s₁ (mkF m 3 #[.val (.int p1), .val (.int p2), .unset] [(.int (7 : Int32)), (.int p2)])
  refine OwnGo.st (fun _ k => XS.iand X0.here hx rfl (hb hby at_3) rfl k) ?_
  show OwnGo p e below s _ _ _ s₁ (mkF m 4 #[.val (.int p1), .val (.int p2), .unset] [(.int (p2 &&& (7 : Int32)))])
  refine OwnGo.st (fun _ k => XS.istoreN X0.here hx rfl (hb hby at_4) rfl (l' := #[.val (.int p1), .val (.int p2), .val (.int (p2 &&& (7 : Int32)))]) rfl k) ?_
  show OwnGo p e below s _ _ _ s₁ (mkF m 5 #[.val (.int p1), .val (.int p2), .val (.int (p2 &&& (7 : Int32)))] [])
  refine OwnGo.st (fun _ k => XS.iloadN X0.here hx rfl (hb hby at_5) rfl  k) ?_
  show OwnGo p e below s _ _ _ s₁ (mkF m 6 #[.val (.int p1), .val (.int p2), .val (.int (p2 &&& (7 : Int32)))] [(.int p1)])
  obtain ⟨_, _, ⟨T36, L36, k36, n36⟩, -, X36, ⟨Lc36, hQ36, l36, y36, z36⟩, st36⟩ := Jvm.LawKit.callS X0 hx (y := (⟨"io/quintet/EncodingOfFlagPinLaw", "check", "(I)Z"⟩ : MethodName)) hown (mvT hZ (hw _ (List.mem_of_getElem? (i := 0) rfl))) (mvT hZ (hw _ (List.mem_of_getElem? (i := 1) rfl))) (mvT hZ (hw _ (List.mem_of_getElem? (i := 2) rfl))) (mvT hZ (hw _ (List.mem_of_getElem? (i := 3) rfl))) (by decide) (backOf (W := 0) (rm1 l Z a0 hw [] p1 u_Encoding_ALL u_Encoding_UTF_8 u_Encoding_LOWER_SPECIAL u_Encoding_LOWER_UPPER_DIGIT_SPECIAL u_Encoding_FIRST_TO_LOWER_SPECIAL u_Encoding_ALL_TO_LOWER_SPECIAL kc_u_Encoding_ALL h0 n0 Z_ O_ S_u_Encoding_ALL S_u_Encoding_UTF_8 E_u_Encoding_UTF_8 F_u_Encoding_UTF_8_flag S_u_Encoding_LOWER_SPECIAL E_u_Encoding_LOWER_SPECIAL F_u_Encoding_LOWER_SPECIAL_flag S_u_Encoding_LOWER_UPPER_DIGIT_SPECIAL E_u_Encoding_LOWER_UPPER_DIGIT_SPECIAL F_u_Encoding_LOWER_UPPER_DIGIT_SPECIAL_flag S_u_Encoding_FIRST_TO_LOWER_SPECIAL E_u_Encoding_FIRST_TO_LOWER_SPECIAL F_u_Encoding_FIRST_TO_LOWER_SPECIAL_flag S_u_Encoding_ALL_TO_LOWER_SPECIAL E_u_Encoding_ALL_TO_LOWER_SPECIAL F_u_Encoding_ALL_TO_LOWER_SPECIAL_flag V_u_Encoding_ALL) hZ (hw _ (List.mem_of_getElem? (i := 3) rfl)) (hw _ (List.mem_of_getElem? (i := 2) rfl)) (by decide) (by decide)) (g := (mkF m 6 #[.val (.int p1), .val (.int p2), .val (.int (p2 &&& (7 : Int32)))] [(.int p1)])) rfl (by rw [hml]; rfl) (argsL := [(.int p1)]) (rest := []) (lenOf pd_2 rfl) rfl (by show 2 * 0 + _ ≤ _; exact Nat.le_of_eq rfl) (hb hby at_6) (fun _ _ => ⟨rfl, e0, (by decide : 0 + 0 ≤ _), (by decide : 0 + 0 ≤ _)⟩)
  dsimp only [Pt.U, Pt.locs, Pt.cells, Pt.slots] at X36 l36 y36 z36 st36 hQ36
  subst l36 y36 z36
  obtain ⟨rfl, N36q, e36⟩ := hQ36
  have N36 := Fr.app N0 N36q
  refine OwnGo.st st36 ?_
  show OwnGo p e below s _ _ _ T36 (mkF m 9 #[.val (.int p1), .val (.int p2), .val (.int (p2 &&& (7 : Int32)))] [(.int (1 : Int32))])
  refine OwnGo.st (fun _ k => XS.ifNo X36.here hx rfl (hb hby at_9) rfl ((if0 _ _).trans (feq ((by decide) : ¬ ((1 : Int32) = (0 : Int32)))).1) k) ?_
  show OwnGo p e below s _ _ _ T36 (mkF m 12 #[.val (.int p1), .val (.int p2), .val (.int (p2 &&& (7 : Int32)))] [])
  refine OwnGo.st (fun _ k => XS.iloadN X36.here hx rfl (hb hby at_12) rfl  k) ?_
  show OwnGo p e below s _ _ _ T36 (mkF m 13 #[.val (.int p1), .val (.int p2), .val (.int (p2 &&& (7 : Int32)))] [(.int (p2 &&& (7 : Int32)))])
  obtain ⟨_, _, ⟨T37, L37, k37, n37⟩, -, X37, ⟨Lc37, hQ37, l37, y37, z37⟩, st37⟩ := Jvm.LawKit.callS X36 hx (y := (⟨"io/quintet/EncodingOfFlagPinLaw", "check", "(I)Z"⟩ : MethodName)) hown (mvT hZ (hw _ (List.mem_of_getElem? (i := 0) rfl))) (mvT hZ (hw _ (List.mem_of_getElem? (i := 1) rfl))) (mvT hZ (hw _ (List.mem_of_getElem? (i := 2) rfl))) (mvT hZ (hw _ (List.mem_of_getElem? (i := 3) rfl))) (by decide) (backOf (W := 0) (rm1 l Z a0 hw [] (p2 &&& (7 : Int32)) u_Encoding_ALL u_Encoding_UTF_8 u_Encoding_LOWER_SPECIAL u_Encoding_LOWER_UPPER_DIGIT_SPECIAL u_Encoding_FIRST_TO_LOWER_SPECIAL u_Encoding_ALL_TO_LOWER_SPECIAL kc_u_Encoding_ALL h0 n0 Z_ O_ S_u_Encoding_ALL S_u_Encoding_UTF_8 E_u_Encoding_UTF_8 F_u_Encoding_UTF_8_flag S_u_Encoding_LOWER_SPECIAL E_u_Encoding_LOWER_SPECIAL F_u_Encoding_LOWER_SPECIAL_flag S_u_Encoding_LOWER_UPPER_DIGIT_SPECIAL E_u_Encoding_LOWER_UPPER_DIGIT_SPECIAL F_u_Encoding_LOWER_UPPER_DIGIT_SPECIAL_flag S_u_Encoding_FIRST_TO_LOWER_SPECIAL E_u_Encoding_FIRST_TO_LOWER_SPECIAL F_u_Encoding_FIRST_TO_LOWER_SPECIAL_flag S_u_Encoding_ALL_TO_LOWER_SPECIAL E_u_Encoding_ALL_TO_LOWER_SPECIAL F_u_Encoding_ALL_TO_LOWER_SPECIAL_flag V_u_Encoding_ALL) hZ (hw _ (List.mem_of_getElem? (i := 3) rfl)) (hw _ (List.mem_of_getElem? (i := 2) rfl)) (by decide) (by decide)) (g := (mkF m 13 #[.val (.int p1), .val (.int p2), .val (.int (p2 &&& (7 : Int32)))] [(.int (p2 &&& (7 : Int32)))])) rfl (by rw [hml]; rfl) (argsL := [(.int (p2 &&& (7 : Int32)))]) (rest := []) (lenOf pd_2 rfl) rfl (by show 2 * 0 + _ ≤ _; exact Nat.le_of_eq rfl) (hb hby at_13) (fun _ _ => ⟨rfl, e36, (by decide : 0 + 0 ≤ _), (by decide : 0 + 0 ≤ _)⟩)
  dsimp only [Pt.U, Pt.locs, Pt.cells, Pt.slots] at X37 l37 y37 z37 st37 hQ37
  subst l37 y37 z37
  obtain ⟨rfl, N37q, e37⟩ := hQ37
  have N37 := Fr.app N36 N37q
  refine OwnGo.st st37 ?_
  show OwnGo p e below s _ _ _ T37 (mkF m 16 #[.val (.int p1), .val (.int p2), .val (.int (p2 &&& (7 : Int32)))] [(.int (1 : Int32))])
  refine OwnGo.st (fun _ k => XS.ifNo X37.here hx rfl (hb hby at_16) rfl ((if0 _ _).trans (feq ((by decide) : ¬ ((1 : Int32) = (0 : Int32)))).1) k) ?_
  show OwnGo p e below s _ _ _ T37 (mkF m 19 #[.val (.int p1), .val (.int p2), .val (.int (p2 &&& (7 : Int32)))] [])
  refine OwnGo.st (fun _ k => XS.iconst X37.here hx rfl (hb hby at_19) k) ?_
  show OwnGo p e below s _ _ _ T37 (mkF m 20 #[.val (.int p1), .val (.int p2), .val (.int (p2 &&& (7 : Int32)))] [(.int (1 : Int32))])
  refine OwnGo.st (fun _ k => XS.goto X37.here hx rfl (pc0 := 20) (pc' := 24) rfl (hb hby at_20) (by decide) (by decide) k) ?_
  show OwnGo p e below s _ _ _ T37 (mkF m 24 #[.val (.int p1), .val (.int p2), .val (.int (p2 &&& (7 : Int32)))] [(.int (1 : Int32))])
  exact OwnGo.retN X37 hx (t := .boolean) hret hlk (by simp) (hb hby at_24) (by show Q0 Z p1 p2 u_Encoding_ALL u_Encoding_UTF_8 u_Encoding_LOWER_SPECIAL u_Encoding_LOWER_UPPER_DIGIT_SPECIAL u_Encoding_FIRST_TO_LOWER_SPECIAL u_Encoding_ALL_TO_LOWER_SPECIAL kc_u_Encoding_ALL h0 n0 _ T37.heap _; rw [e37]; exact ⟨rfl, N37⟩) (by decide) (by decide)
set_option maxRecDepth 65536 in
set_option maxHeartbeats 40000000 in
theorem comes_1 {Post : Tables → Env → Array Value → State → Outcome → State → Prop} (hpost : ∀ tb e args s v u, (limb_1_1.after args s (.returned v) u = true ∧ limb_1_2.after args s (.returned v) u = true ∧ True) → FrameEnd s (.returned v) u (Jvm.fieldLocs frame_1_writes args s ++ Jvm.arrayLocs frame_1_arrays args s ++ Jvm.staticLocs frame_1_statics s) 0 0 → Post tb e args s (.returned v) u) :
    ArmFor flags0 classFile x code maxLocals ret World_1 tables_1 room_1 Calls_1 rest_1 Pre_1 Post := by
  intro l hfl _ _ p e ha hc hk s m args below hf hA hF happ hP
  obtain ⟨hcalls, hrest, hpre⟩ := hP
  obtain ⟨-, -, -, hnamed, -, -, -, hat⟩ := (Spec.applies_iff hf).mp happ
  obtain ⟨hg, hn⟩ := and_e (Cond.before_iff.mp (show (Jvm.Cond.and given_1 narrow_1).before args s = true from hpre))
  obtain ⟨hcnt, hg⟩ := and_e hg
  obtain ⟨hg0, hg⟩ := and_e hg
  have hg1 := hg
  obtain ⟨w0, w1, rfl⟩ : ∃ w0 w1 : Value, args = #[w0, w1] := by
    have hs : args.size = 2 := by simpa [Cond.value, given_1] using hcnt
    obtain ⟨L⟩ := args
    match L, hs with
    | [w0, w1], _ => exact ⟨w0, w1, rfl⟩
  have hw := fun d (hd : d ∈ tables_1) => atoms_spec (ws := Jvm.Cond.code x code maxLocals ret :: tables_1) hat d (List.mem_cons_of_mem _ hd)
  have hfit : Fit s := fun {y c} hc i hi => by
    obtain ⟨ha, rfl⟩ := Array.getElem?_eq_some_iff.mp hc
    have q := List.all_eq_true.mp ((Array.all_eq_true_iff_forall_mem.mp hF) _ (Array.getElem_mem ha)) i (List.mem_range.mpr hi)
    simpa [Array.getElem?_eq_getElem hi] using q
  obtain ⟨i0, ei0⟩ := is_v hg0
  obtain rfl : w0 = (.int i0) := Option.some.inj ei0
  obtain ⟨i1, ei1⟩ := is_v hg1
  obtain rfl : w1 = (.int i1) := Option.some.inj ei1
  obtain ⟨nr0, hn⟩ := and_e hn
  obtain ⟨nr1, hn⟩ := and_e hn
  obtain ⟨nr2, hn⟩ := and_e hn
  obtain ⟨nr3, hn⟩ := and_e hn
  obtain ⟨nr4, hn⟩ := and_e hn
  obtain ⟨nr5, hn⟩ := and_e hn
  obtain ⟨nr6, hn⟩ := and_e hn
  obtain ⟨nr7, hn⟩ := and_e hn
  obtain ⟨nr8, hn⟩ := and_e hn
  obtain ⟨nr9, hn⟩ := and_e hn
  obtain ⟨nr10, hn⟩ := and_e hn
  obtain ⟨nr11, hn⟩ := and_e hn
  obtain ⟨nr12, hn⟩ := and_e hn
  obtain ⟨nr13, hn⟩ := and_e hn
  obtain ⟨nr14, hn⟩ := and_e hn
  obtain ⟨nr15, hn⟩ := and_e hn
  have nr16 := hn
  obtain ⟨u_Encoding_ALL, ev_u_Encoding_ALL⟩ := arr_v nr0
  have S_u_Encoding_ALL := Sta.start ev_u_Encoding_ALL (Or.inr ⟨(hw _ (List.mem_of_getElem? (i := 6) rfl)), (hw _ (List.mem_of_getElem? (i := 9) rfl))⟩)
  obtain ⟨cl_u_Encoding_ALL, A_u_Encoding_ALL⟩ := Arr.start ev_u_Encoding_ALL nr0
  obtain ⟨u_Encoding_UTF_8, ev_u_Encoding_UTF_8⟩ := exa_v nr2
  have S_u_Encoding_UTF_8 := Sta.start ev_u_Encoding_UTF_8 (Or.inr ⟨(hw _ (List.mem_of_getElem? (i := 6) rfl)), (hw _ (List.mem_of_getElem? (i := 10) rfl))⟩)
  have E_u_Encoding_UTF_8 := Exa.start ev_u_Encoding_UTF_8 nr2
  have ev_nr4 := own_eqi nr4
  have F_u_Encoding_UTF_8_flag := Fld.start (C := "io/quintet/MetaString$Encoding") (n := "flag") (d := "I") ((fld_at ev_u_Encoding_UTF_8).symm.trans ev_nr4)
  obtain ⟨u_Encoding_LOWER_SPECIAL, ev_u_Encoding_LOWER_SPECIAL⟩ := exa_v nr5
  have S_u_Encoding_LOWER_SPECIAL := Sta.start ev_u_Encoding_LOWER_SPECIAL (Or.inr ⟨(hw _ (List.mem_of_getElem? (i := 6) rfl)), (hw _ (List.mem_of_getElem? (i := 22) rfl))⟩)
  have E_u_Encoding_LOWER_SPECIAL := Exa.start ev_u_Encoding_LOWER_SPECIAL nr5
  have ev_nr7 := own_eqi nr7
  have F_u_Encoding_LOWER_SPECIAL_flag := Fld.start (C := "io/quintet/MetaString$Encoding") (n := "flag") (d := "I") ((fld_at ev_u_Encoding_LOWER_SPECIAL).symm.trans ev_nr7)
  obtain ⟨u_Encoding_LOWER_UPPER_DIGIT_SPECIAL, ev_u_Encoding_LOWER_UPPER_DIGIT_SPECIAL⟩ := exa_v nr8
  have S_u_Encoding_LOWER_UPPER_DIGIT_SPECIAL := Sta.start ev_u_Encoding_LOWER_UPPER_DIGIT_SPECIAL (Or.inr ⟨(hw _ (List.mem_of_getElem? (i := 6) rfl)), (hw _ (List.mem_of_getElem? (i := 23) rfl))⟩)
  have E_u_Encoding_LOWER_UPPER_DIGIT_SPECIAL := Exa.start ev_u_Encoding_LOWER_UPPER_DIGIT_SPECIAL nr8
  have ev_nr10 := own_eqi nr10
  have F_u_Encoding_LOWER_UPPER_DIGIT_SPECIAL_flag := Fld.start (C := "io/quintet/MetaString$Encoding") (n := "flag") (d := "I") ((fld_at ev_u_Encoding_LOWER_UPPER_DIGIT_SPECIAL).symm.trans ev_nr10)
  obtain ⟨u_Encoding_FIRST_TO_LOWER_SPECIAL, ev_u_Encoding_FIRST_TO_LOWER_SPECIAL⟩ := exa_v nr11
  have S_u_Encoding_FIRST_TO_LOWER_SPECIAL := Sta.start ev_u_Encoding_FIRST_TO_LOWER_SPECIAL (Or.inr ⟨(hw _ (List.mem_of_getElem? (i := 6) rfl)), (hw _ (List.mem_of_getElem? (i := 24) rfl))⟩)
  have E_u_Encoding_FIRST_TO_LOWER_SPECIAL := Exa.start ev_u_Encoding_FIRST_TO_LOWER_SPECIAL nr11
  have ev_nr13 := own_eqi nr13
  have F_u_Encoding_FIRST_TO_LOWER_SPECIAL_flag := Fld.start (C := "io/quintet/MetaString$Encoding") (n := "flag") (d := "I") ((fld_at ev_u_Encoding_FIRST_TO_LOWER_SPECIAL).symm.trans ev_nr13)
  obtain ⟨u_Encoding_ALL_TO_LOWER_SPECIAL, ev_u_Encoding_ALL_TO_LOWER_SPECIAL⟩ := exa_v nr14
  have S_u_Encoding_ALL_TO_LOWER_SPECIAL := Sta.start ev_u_Encoding_ALL_TO_LOWER_SPECIAL (Or.inr ⟨(hw _ (List.mem_of_getElem? (i := 6) rfl)), (hw _ (List.mem_of_getElem? (i := 26) rfl))⟩)
  have E_u_Encoding_ALL_TO_LOWER_SPECIAL := Exa.start ev_u_Encoding_ALL_TO_LOWER_SPECIAL nr14
  have ev_nr16 := own_eqi nr16
  have F_u_Encoding_ALL_TO_LOWER_SPECIAL_flag := Fld.start (C := "io/quintet/MetaString$Encoding") (n := "flag") (d := "I") ((fld_at ev_u_Encoding_ALL_TO_LOWER_SPECIAL).symm.trans ev_nr16)
  have V_u_Encoding_ALL := Arv.start (dv := .null) (vs := [(.ref u_Encoding_UTF_8), (.ref u_Encoding_LOWER_SPECIAL), (.ref u_Encoding_LOWER_UPPER_DIGIT_SPECIAL), (.ref u_Encoding_FIRST_TO_LOWER_SPECIAL), (.ref u_Encoding_ALL_TO_LOWER_SPECIAL)]) hfit A_u_Encoding_ALL (own_lenv ev_u_Encoding_ALL A_u_Encoding_ALL nr1).1 (own_lenv ev_u_Encoding_ALL A_u_Encoding_ALL nr1).2 (by decide) rfl ⟨(own_elem ev_u_Encoding_ALL A_u_Encoding_ALL (own_eqv nr3 ev_u_Encoding_UTF_8 rfl)), (own_elem ev_u_Encoding_ALL A_u_Encoding_ALL (own_eqv nr6 ev_u_Encoding_LOWER_SPECIAL rfl)), (own_elem ev_u_Encoding_ALL A_u_Encoding_ALL (own_eqv nr9 ev_u_Encoding_LOWER_UPPER_DIGIT_SPECIAL rfl)), (own_elem ev_u_Encoding_ALL A_u_Encoding_ALL (own_eqv nr12 ev_u_Encoding_FIRST_TO_LOWER_SPECIAL rfl)), (own_elem ev_u_Encoding_ALL A_u_Encoding_ALL (own_eqv nr15 ev_u_Encoding_ALL_TO_LOWER_SPECIAL rfl)), trivial⟩
  obtain ⟨kc_u_Encoding_ALL, V_u_Encoding_ALL⟩ : ∃ k, Arv s s.heap u_Encoding_ALL k (Jvm.ClassFile.FieldType.object "io/quintet/MetaString$Encoding") (5 : Int32) [(.ref u_Encoding_UTF_8), (.ref u_Encoding_LOWER_SPECIAL), (.ref u_Encoding_LOWER_UPPER_DIGIT_SPECIAL), (.ref u_Encoding_FIRST_TO_LOWER_SPECIAL), (.ref u_Encoding_ALL_TO_LOWER_SPECIAL)] .null := ⟨_, V_u_Encoding_ALL⟩
  obtain ⟨n, o, h1, h2, h3, _, L, rfl, ⟨rfl, N⟩, hq⟩ := rm0 l s _ hw tables_1 i0 i1 u_Encoding_ALL u_Encoding_UTF_8 u_Encoding_LOWER_SPECIAL u_Encoding_LOWER_UPPER_DIGIT_SPECIAL u_Encoding_FIRST_TO_LOWER_SPECIAL u_Encoding_ALL_TO_LOWER_SPECIAL kc_u_Encoding_ALL s.heap s.heap.size (Nat.le_refl _) (Old.start s) S_u_Encoding_ALL S_u_Encoding_UTF_8 E_u_Encoding_UTF_8 F_u_Encoding_UTF_8_flag S_u_Encoding_LOWER_SPECIAL E_u_Encoding_LOWER_SPECIAL F_u_Encoding_LOWER_SPECIAL_flag S_u_Encoding_LOWER_UPPER_DIGIT_SPECIAL E_u_Encoding_LOWER_UPPER_DIGIT_SPECIAL F_u_Encoding_LOWER_UPPER_DIGIT_SPECIAL_flag S_u_Encoding_FIRST_TO_LOWER_SPECIAL E_u_Encoding_FIRST_TO_LOWER_SPECIAL F_u_Encoding_FIRST_TO_LOWER_SPECIAL_flag S_u_Encoding_ALL_TO_LOWER_SPECIAL E_u_Encoding_ALL_TO_LOWER_SPECIAL F_u_Encoding_ALL_TO_LOWER_SPECIAL_flag V_u_Encoding_ALL  p e ha hc hk s m _ below hf ((Spec.applies_iff_loose hf).mp happ).1 ⟨rfl, State.Warmed39.refl s, rfl⟩ trivial
  refine ⟨n, _, h1, h2, h3, hpost _ _ _ _ _ _ ⟨Cond.after_iff.mpr rfl, Cond.after_iff.mpr (eq_i res_at (Term.int_eval (1)) rfl), trivial⟩ ⟨hq.1, hq.2.1, (hq.2.2.sift fun y hy => Or.inr (N y hy)).mono (by decide) (by decide)⟩⟩
theorem main_1_1 : Claimed_1_1 := comes_1 fun _ _ _ _ _ _ h hF => ⟨h.1, hF⟩
theorem main_1_2 : Claimed_1_2 := comes_1 fun _ _ _ _ _ _ h hF => ⟨h.2.1, hF⟩
end Jvm.Pilot.@@N@@
namespace Jvm.Pilot.@@N@@
open Jvm Jvm.ClassFile Sem Op Lib Jvm.Free Jvm.Stand Jvm.Pilot.@@N@@.Jvm.D
/-! MADE BY PROGRAM (witnessworld.py) out of the Statement's table words and the real class files: 13 classes; the members and pool entries that the words name. The judged class is class 1, her method 3. -/
namespace start1
open Jvm.ClassFile
def u (s : String) : CpInfo := .utf8 (stringToUtf16 s)
/-- a pool by its gaps: so many unusable entries, then the entry; so many at the end -/
def gap : Nat → List CpInfo → List CpInfo
  | 0, r => r
  | n + 1, r => .unusable :: gap n r
def poolList (es : List (Nat × CpInfo)) (last : Nat) : List CpInfo := es.foldr (fun e r => gap e.1 (e.2 :: r)) (gap last [])
def pool (es : List (Nat × CpInfo)) (last : Nat) : Array CpInfo := ⟨poolList es last⟩
def fileOf (pool : Array CpInfo) (this : Nat) (attrs : Array Attribute := #[]) (ms : Array MethodInfo := #[]) (fl : Nat := 33) (sup : Nat := 0) (ifs : Array Nat := #[]) (fds : Array FieldInfo := #[]) : ClassFile where
  minorVersion := 0
  majorVersion := 65
  constantPool := pool
  accessFlags := fl
  thisClass := this
  superClass := sup
  interfaces := ifs
  fields := fds
  methods := ms
  attributes := attrs
def plain (name : String) (sup : Option ClassId) : Class where
  name := name
  kind := .ordinary
  loader := none
  accessFlags := 33
  super := sup
  interfaces := #[]
  cf := none
  fields := #[]
  methods := #[]
  instanceTypes := #[]
  staticTypes := #[]
  resolved := #[]
  callSites := []
  init := .initialized
  statics := none
  mirror := none

def pool0 : Array CpInfo := pool [(5, u "<init>"), (0, u "()V"), (1, .class_ 10), (1, u "java/lang/Object")] 113

def k0m0 : Method := { name := "<init>", desc := "()V", sig := { parameters := [], returnType := none }, accessFlags := 1, code := none }
/-- java/lang/Object -/
def k0 : Class := { plain "java/lang/Object" none with
  accessFlags := 33
  interfaces := #[]
  cf := some (fileOf pool0 8 #[] #[{ accessFlags := 1, nameIndex := 5, descriptorIndex := 6, attributes := #[] }] 33 0 #[] #[])
  fields := #[]
  methods := #[k0m0]
  instanceTypes := #[]
  staticTypes := #[]
  resolved := Array.replicate 124 none
  statics := none }

def pool1 : Array CpInfo := pool [(2, .class_ 4), (1, u "java/lang/Object"), (0, u "<init>"), (0, u "()V"), (0, .fieldref 8 9), (0, .class_ 10), (0, .nameAndType 11 12), (0, u "io/quintet/MetaString$Encoding"), (0, u "UTF_8"), (0, u "Lio/quintet/MetaString$Encoding;"), (0, .fieldref 8 14), (0, .nameAndType 15 12), (0, u "LOWER_SPECIAL"), (0, .fieldref 8 17), (0, .nameAndType 18 12), (0, u "LOWER_UPPER_DIGIT_SPECIAL"), (0, .fieldref 8 20), (0, .nameAndType 21 12), (0, u "FIRST_TO_LOWER_SPECIAL"), (0, .fieldref 8 23), (0, .nameAndType 24 12), (0, u "ALL_TO_LOWER_SPECIAL"), (0, .methodref 8 26), (0, .nameAndType 27 28), (0, u "ofFlag"), (0, u "(I)Lio/quintet/MetaString$Encoding;"), (0, .methodref 30 31), (0, .class_ 32), (0, .nameAndType 33 28), (0, u "io/quintet/EncodingOfFlagPinLaw"), (0, u "expected"), (0, .methodref 8 35), (0, .nameAndType 36 37), (0, u "flag"), (0, u "()I"), (0, .methodref 30 39), (0, .nameAndType 40 41), (0, u "check"), (0, u "(I)Z"), (3, u "law"), (0, u "(II)Z")] 6

def k1m0 : Method := { name := "<init>", desc := "()V", sig := { parameters := [], returnType := none }, accessFlags := 2, code := none }
def k1c1 : Code := { maxStack := 2, maxLocals := 1, code := method_2_code, exceptionTable := #[], attributes := #[] }
def k1m1 : Method := { name := "expected", desc := "(I)Lio/quintet/MetaString$Encoding;", sig := { parameters := [.int], returnType := some (.object "io/quintet/MetaString$Encoding") }, accessFlags := 10, code := some k1c1 }
def k1c2 : Code := { maxStack := 2, maxLocals := 3, code := method_3_code, exceptionTable := #[], attributes := #[] }
def k1m2 : Method := { name := "check", desc := "(I)Z", sig := { parameters := [.int], returnType := some .boolean }, accessFlags := 10, code := some k1c2 }
def k1c3 : Code := { maxStack := 2, maxLocals := 3, code := code, exceptionTable := #[], attributes := #[] }
def k1m3 : Method := { name := "law", desc := "(II)Z", sig := { parameters := [.int, .int], returnType := some .boolean }, accessFlags := 9, code := some k1c3 }
/-- io/quintet/EncodingOfFlagPinLaw -/
def k1 : Class := { plain "io/quintet/EncodingOfFlagPinLaw" (some 0) with
  accessFlags := 49
  interfaces := #[]
  cf := some (fileOf pool1 30 #[] #[{ accessFlags := 2, nameIndex := 5, descriptorIndex := 6, attributes := #[] }, { accessFlags := 10, nameIndex := 33, descriptorIndex := 28, attributes := #[] }, { accessFlags := 10, nameIndex := 40, descriptorIndex := 41, attributes := #[] }, { accessFlags := 9, nameIndex := 45, descriptorIndex := 46, attributes := #[] }] 49 2 #[] #[])
  fields := #[]
  methods := #[k1m0, k1m1, k1m2, k1m3]
  instanceTypes := #[]
  staticTypes := #[]
  resolved := Array.replicate 53 none
  statics := none }

def pool2 : Array CpInfo := pool [(1, .class_ 2), (0, u "java/lang/constant/Constable"), (0, .class_ 4), (0, u "java/lang/Object")] 6

/-- java/lang/constant/Constable -/
def k2 : Class := { plain "java/lang/constant/Constable" (some 0) with
  accessFlags := 1537
  interfaces := #[]
  cf := some (fileOf pool2 1 #[] #[] 1537 3 #[] #[])
  fields := #[]
  methods := #[]
  instanceTypes := #[]
  staticTypes := #[]
  resolved := Array.replicate 11 none
  statics := none }

def pool3 : Array CpInfo := pool [(1, .class_ 2), (0, u "java/lang/Comparable"), (0, .class_ 4), (0, u "java/lang/Object")] 7

/-- java/lang/Comparable -/
def k3 : Class := { plain "java/lang/Comparable" (some 0) with
  accessFlags := 1537
  interfaces := #[]
  cf := some (fileOf pool3 1 #[] #[] 1537 3 #[] #[])
  fields := #[]
  methods := #[]
  instanceTypes := #[]
  staticTypes := #[]
  resolved := Array.replicate 12 none
  statics := none }

def pool4 : Array CpInfo := pool [(1, .class_ 2), (0, u "java/io/Serializable"), (0, .class_ 4), (0, u "java/lang/Object")] 2

/-- java/io/Serializable -/
def k4 : Class := { plain "java/io/Serializable" (some 0) with
  accessFlags := 1537
  interfaces := #[]
  cf := some (fileOf pool4 1 #[] #[] 1537 3 #[] #[])
  fields := #[]
  methods := #[]
  instanceTypes := #[]
  staticTypes := #[]
  resolved := Array.replicate 7 none
  statics := none }

def pool5 : Array CpInfo := pool [(2, .class_ 4), (1, u "java/lang/Enum"), (0, u "name"), (0, u "Ljava/lang/String;"), (2, u "ordinal"), (0, u "I"), (1, .class_ 14), (1, u "java/lang/Object"), (4, u "hash"), (86, .class_ 108), (1, u "java/lang/Enum$EnumDesc"), (2, .class_ 112), (0, u "java/lang/constant/Constable"), (0, .class_ 114), (0, u "java/lang/Comparable"), (0, .class_ 116), (0, u "java/io/Serializable")] 87

/-- java/lang/Enum -/
def k5 : Class := { plain "java/lang/Enum" (some 0) with
  accessFlags := 1057
  interfaces := #[2, 3, 4]
  cf := some (fileOf pool5 2 #[.nestMembers #[106]] #[] 1057 12 #[111, 113, 115] #[{ accessFlags := 18, nameIndex := 5, descriptorIndex := 6, attributes := #[] }, { accessFlags := 18, nameIndex := 9, descriptorIndex := 10, attributes := #[] }, { accessFlags := 2, nameIndex := 19, descriptorIndex := 10, attributes := #[] }])
  fields := #[{ name := "name", type := (.object "java/lang/String"), accessFlags := 18, slot := 0, constantValue := 0 }, { name := "ordinal", type := .int, accessFlags := 18, slot := 1, constantValue := 0 }, { name := "hash", type := .int, accessFlags := 2, slot := 2, constantValue := 0 }]
  methods := #[]
  instanceTypes := #[(.object "java/lang/String"), .int, .int]
  staticTypes := #[]
  resolved := Array.replicate 204 none
  statics := none }

def pool6 : Array CpInfo := pool [(1, .class_ 2), (0, u "io/quintet/MetaString$Encoding"), (2, u "UTF_8"), (0, u "Lio/quintet/MetaString$Encoding;"), (2, u "LOWER_SPECIAL"), (2, u "LOWER_UPPER_DIGIT_SPECIAL"), (2, u "FIRST_TO_LOWER_SPECIAL"), (2, u "ALL_TO_LOWER_SPECIAL"), (2, u "$VALUES"), (0, u "[Lio/quintet/MetaString$Encoding;"), (6, .class_ 31), (1, u "java/lang/Enum"), (6, .fieldref 1 39), (0, .nameAndType 40 41), (0, u "flag"), (0, u "I"), (0, .fieldref 1 43), (0, .nameAndType 44 22), (0, u "ALL"), (21, u "()I"), (0, u "ofFlag"), (0, u "(I)Lio/quintet/MetaString$Encoding;"), (7, .class_ 77), (0, u "io/quintet/MetaString")] 2

def k6c0 : Code := { maxStack := 1, maxLocals := 1, code := prog_23_method_4_code, exceptionTable := #[], attributes := #[] }
def k6m0 : Method := { name := "flag", desc := "()I", sig := { parameters := [], returnType := some .int }, accessFlags := 1, code := some k6c0 }
def k6c1 : Code := { maxStack := 2, maxLocals := 5, code := prog_23_method_5_code, exceptionTable := #[], attributes := #[] }
def k6m1 : Method := { name := "ofFlag", desc := "(I)Lio/quintet/MetaString$Encoding;", sig := { parameters := [.int], returnType := some (.object "io/quintet/MetaString$Encoding") }, accessFlags := 8, code := some k6c1 }
/-- io/quintet/MetaString$Encoding -/
def k6 : Class := { plain "io/quintet/MetaString$Encoding" (some 5) with
  accessFlags := 16433
  interfaces := #[]
  cf := some (fileOf pool6 1 #[.nestHost 76] #[{ accessFlags := 1, nameIndex := 40, descriptorIndex := 66, attributes := #[] }, { accessFlags := 8, nameIndex := 67, descriptorIndex := 68, attributes := #[] }] 16433 29 #[] #[{ accessFlags := 16409, nameIndex := 5, descriptorIndex := 6, attributes := #[] }, { accessFlags := 16409, nameIndex := 9, descriptorIndex := 6, attributes := #[] }, { accessFlags := 16409, nameIndex := 12, descriptorIndex := 6, attributes := #[] }, { accessFlags := 16409, nameIndex := 15, descriptorIndex := 6, attributes := #[] }, { accessFlags := 16409, nameIndex := 18, descriptorIndex := 6, attributes := #[] }, { accessFlags := 26, nameIndex := 44, descriptorIndex := 22, attributes := #[] }, { accessFlags := 18, nameIndex := 40, descriptorIndex := 41, attributes := #[] }, { accessFlags := 4122, nameIndex := 21, descriptorIndex := 22, attributes := #[] }])
  fields := #[{ name := "UTF_8", type := (.object "io/quintet/MetaString$Encoding"), accessFlags := 16409, slot := 0, constantValue := 0 }, { name := "LOWER_SPECIAL", type := (.object "io/quintet/MetaString$Encoding"), accessFlags := 16409, slot := 1, constantValue := 0 }, { name := "LOWER_UPPER_DIGIT_SPECIAL", type := (.object "io/quintet/MetaString$Encoding"), accessFlags := 16409, slot := 2, constantValue := 0 }, { name := "FIRST_TO_LOWER_SPECIAL", type := (.object "io/quintet/MetaString$Encoding"), accessFlags := 16409, slot := 3, constantValue := 0 }, { name := "ALL_TO_LOWER_SPECIAL", type := (.object "io/quintet/MetaString$Encoding"), accessFlags := 16409, slot := 4, constantValue := 0 }, { name := "ALL", type := (.array (.object "io/quintet/MetaString$Encoding")), accessFlags := 26, slot := 5, constantValue := 0 }, { name := "flag", type := .int, accessFlags := 18, slot := 3, constantValue := 0 }, { name := "$VALUES", type := (.array (.object "io/quintet/MetaString$Encoding")), accessFlags := 4122, slot := 6, constantValue := 0 }]
  methods := #[k6m0, k6m1]
  instanceTypes := #[(.object "java/lang/String"), .int, .int, .int]
  staticTypes := #[(.object "io/quintet/MetaString$Encoding"), (.object "io/quintet/MetaString$Encoding"), (.object "io/quintet/MetaString$Encoding"), (.object "io/quintet/MetaString$Encoding"), (.object "io/quintet/MetaString$Encoding"), (.array (.object "io/quintet/MetaString$Encoding")), (.array (.object "io/quintet/MetaString$Encoding"))]
  resolved := Array.replicate 80 none
  statics := some 0 }

def pool7 : Array CpInfo := pool [(1, u "java/lang/Cloneable"), (0, .class_ 1), (0, u "java/lang/Object"), (0, .class_ 3)] 3

/-- java/lang/Cloneable -/
def k7 : Class := { plain "java/lang/Cloneable" (some 0) with
  accessFlags := 1537
  interfaces := #[]
  cf := some (fileOf pool7 2 #[] #[] 1537 4 #[] #[])
  fields := #[]
  methods := #[]
  instanceTypes := #[]
  staticTypes := #[]
  resolved := Array.replicate 8 none
  statics := none }

/-- the primitive byte -/
def k8 : Class := { plain "byte" none with kind := .primitive 'B', accessFlags := 0x411 }
/-- [B -/
def k9 : Class := { plain "[B" (some 0) with kind := .array 8 .byte, interfaces := #[7, 4], accessFlags := 1041 }

/-- the primitive int -/
def k10 : Class := { plain "int" none with kind := .primitive 'I', accessFlags := 0x411 }
/-- [I -/
def k11 : Class := { plain "[I" (some 0) with kind := .array 10 .int, interfaces := #[7, 4], accessFlags := 1041 }

/-- [Lio/quintet/MetaString$Encoding; -/
def k12 : Class := { plain "[Lio/quintet/MetaString$Encoding;" (some 0) with kind := .array 6 (.object "io/quintet/MetaString$Encoding"), interfaces := #[7, 4], accessFlags := 1041 }

def heap : Heap := #[{ cls := 6, slots := #[.ref 2, .ref 3, .ref 4, .ref 5, .ref 6, .ref 1, .null], vm := .statics 6 },
  { cls := 12, slots := #[.ref 2, .ref 3, .ref 4, .ref 5, .ref 6], vm := .none },
  { cls := 6, slots := #[.null, .int 0, .int 0, .int 0], vm := .none },
  { cls := 6, slots := #[.null, .int 1, .int 0, .int 1], vm := .none },
  { cls := 6, slots := #[.null, .int 2, .int 0, .int 2], vm := .none },
  { cls := 6, slots := #[.null, .int 3, .int 0, .int 3], vm := .none },
  { cls := 6, slots := #[.null, .int 4, .int 0, .int 4], vm := .none }]
def classes : Array Class := #[k0, k1, k2, k3, k4, k5, k6, k7, k8, k9, k10, k11, k12]
def interned : List (Array UInt16 × Addr) := []
def slotsUsed : Nat := 32
def theMethod : MethodId := ⟨1, 3⟩
def args0 : Array Value := #[.int 2, .int 9]
def aboutOver (below : List Frame) : State where
  vm := { classes := classes, interned := interned.toArray }
  heap := heap
  slotsUsed := slotsUsed
  threads := #[{ frames := .invoking theMethod args0 :: below }]
def below0 : List Frame := [.native { method := ⟨0, 0⟩, args := #[] }]
def about1 : State := aboutOver below0
def p0 : Program := .bare "" "" ""
def e0 : Env := launch0.env 0 0 0
theorem w_frames : about1.frames = Frame.invoking theMethod args0 :: below0 := rfl
set_option maxRecDepth 65536 in
theorem w_args : argsFit about1.vm theMethod args0 = true := by decide +kernel
set_option maxRecDepth 65536 in
theorem w_heap : heapFits about1 = true := by decide +kernel
set_option maxRecDepth 65536 in
theorem w_runnable : about1.curStatus? = some .runnable := by decide +kernel
set_option maxRecDepth 65536 in
theorem w_alone : about1.alone = true := by decide +kernel
set_option maxRecDepth 65536 in
theorem w_named : about1.methodNamed? x = some theMethod := by decide +kernel
set_option maxRecDepth 65536 in
theorem w_hears : about1.hears theMethod below0 = true := by decide +kernel
set_option maxRecDepth 65536 in
theorem w_ripe : about1.ripe theMethod args0 below0 = true := by decide +kernel
theorem w_running : about1.status = .running := rfl
set_option maxRecDepth 65536 in
theorem w_room : about1.hasRoom e0.platform room_1 = true :=
  launch0.hasRoom_least _ room_1 (by decide +kernel) (by decide +kernel) (by decide +kernel) (by decide +kernel) (by decide +kernel) (by decide +kernel)
theorem allAtoms_all (ts : List Jvm.Cond) (a : Array Jvm.Value) (st : Jvm.State) : (allAtoms ts).before a st = ts.all (fun c => c.before a st) := by
  induction ts with
  | nil => rfl
  | cons c t ih =>
    show (Jvm.Cond.and c (allAtoms t)).before a st = _
    rw [Jvm.Cond.before_and, ih, List.all_cons]
def words1 : List Jvm.Cond := Jvm.Cond.code x code maxLocals ret :: tables_1
/-- a 'code' word, met by the world's own term for the bytes: nothing is compared byte by byte -/
theorem code_word {y : MethodName} {bytes : ByteArray} {mx : Nat} {rt : Option FieldType} {a : Array Value} {s : State} {m : MethodId} {meth : Method} {c : Code} (h1 : s.methodNamed? y = some m) (h2 : s.vm.method? m = some meth) (h3 : meth.code = some c) (h4 : c.code = bytes)
    (h5 : (c.maxLocals == mx && c.exceptionTable.isEmpty && decide (c.maxStack ≤ mostOperands) && decide (meth.sig.returnType = rt) && !meth.locks && decide (parseMethodDescriptor y.desc = some meth.sig)) = true) : (Jvm.Cond.code y bytes mx rt).before a s = true := by
  simp only [Bool.and_eq_true, beq_iff_eq, Bool.not_eq_true', decide_eq_true_eq] at h5
  obtain ⟨⟨⟨⟨⟨g1, g2⟩, g3⟩, g4⟩, g5⟩, g6⟩ := h5
  simp [Cond.before, Cond.holds, Cond.value, h1, h2, h3, h4, g1, g2, g3, g4, g5, g6]
def isCode : Jvm.Cond → Bool
  | .code _ _ _ _ => true
  | _ => false
theorem all_split {L : List Jvm.Cond} {P : Jvm.Cond → Bool} (h1 : L.all (fun c => isCode c || P c) = true) (h2 : ∀ c ∈ L.filter isCode, P c = true) : L.all P = true := by
  refine List.all_eq_true.mpr fun c hc => ?_
  have h := List.all_eq_true.mp h1 c hc
  rcases Bool.eq_false_or_eq_true (isCode c) with hi | hi
  · exact h2 c (List.mem_filter.mpr ⟨hc, hi⟩)
  · simpa [hi] using h
set_option maxRecDepth 65536 in
theorem w_c0 : (Jvm.Cond.code x code maxLocals ret).before args0 about1 = true := code_word (m := ⟨1, 3⟩) (meth := k1m3) (c := k1c3) (by decide +kernel) rfl rfl rfl (by decide +kernel)
set_option maxRecDepth 65536 in
theorem w_c1 : (Jvm.Cond.code ({ cls := "io/quintet/EncodingOfFlagPinLaw", name := "check", desc := "(I)Z" } : Jvm.MethodName) method_3_code (3 : Nat) (Option.some Jvm.ClassFile.FieldType.boolean)).before args0 about1 = true := code_word (m := ⟨1, 2⟩) (meth := k1m2) (c := k1c2) (by decide +kernel) rfl rfl rfl (by decide +kernel)
set_option maxRecDepth 65536 in
theorem w_c2 : (Jvm.Cond.code ({ cls := "io/quintet/MetaString$Encoding", name := "ofFlag", desc := "(I)Lio/quintet/MetaString$Encoding;" } : Jvm.MethodName) prog_23_method_5_code (5 : Nat) (Option.some (Jvm.ClassFile.FieldType.object "io/quintet/MetaString$Encoding"))).before args0 about1 = true := code_word (m := ⟨6, 1⟩) (meth := k6m1) (c := k6c1) (by decide +kernel) rfl rfl rfl (by decide +kernel)
set_option maxRecDepth 65536 in
theorem w_c3 : (Jvm.Cond.code ({ cls := "io/quintet/EncodingOfFlagPinLaw", name := "expected", desc := "(I)Lio/quintet/MetaString$Encoding;" } : Jvm.MethodName) method_2_code (1 : Nat) (Option.some (Jvm.ClassFile.FieldType.object "io/quintet/MetaString$Encoding"))).before args0 about1 = true := code_word (m := ⟨1, 1⟩) (meth := k1m1) (c := k1c1) (by decide +kernel) rfl rfl rfl (by decide +kernel)
set_option maxRecDepth 65536 in
theorem w_c4 : (Jvm.Cond.code ({ cls := "io/quintet/MetaString$Encoding", name := "flag", desc := "()I" } : Jvm.MethodName) prog_23_method_4_code (1 : Nat) (Option.some Jvm.ClassFile.FieldType.int)).before args0 about1 = true := code_word (m := ⟨6, 0⟩) (meth := k6m0) (c := k6c0) (by decide +kernel) rfl rfl rfl (by decide +kernel)
def codes1 : List Jvm.Cond := [Jvm.Cond.code x code maxLocals ret, Jvm.Cond.code ({ cls := "io/quintet/EncodingOfFlagPinLaw", name := "check", desc := "(I)Z" } : Jvm.MethodName) method_3_code (3 : Nat) (Option.some Jvm.ClassFile.FieldType.boolean), Jvm.Cond.code ({ cls := "io/quintet/MetaString$Encoding", name := "ofFlag", desc := "(I)Lio/quintet/MetaString$Encoding;" } : Jvm.MethodName) prog_23_method_5_code (5 : Nat) (Option.some (Jvm.ClassFile.FieldType.object "io/quintet/MetaString$Encoding")), Jvm.Cond.code ({ cls := "io/quintet/EncodingOfFlagPinLaw", name := "expected", desc := "(I)Lio/quintet/MetaString$Encoding;" } : Jvm.MethodName) method_2_code (1 : Nat) (Option.some (Jvm.ClassFile.FieldType.object "io/quintet/MetaString$Encoding")), Jvm.Cond.code ({ cls := "io/quintet/MetaString$Encoding", name := "flag", desc := "()I" } : Jvm.MethodName) prog_23_method_4_code (1 : Nat) (Option.some Jvm.ClassFile.FieldType.int)]
set_option maxRecDepth 65536 in
theorem codes_eq : words1.filter isCode = codes1 := rfl
theorem w_codes : ∀ c ∈ words1.filter isCode, c.before args0 about1 = true := by
  rw [codes_eq]
  intro c hc
  simp only [codes1, List.mem_cons, List.not_mem_nil, or_false] at hc
  rcases hc with rfl | rfl | rfl | rfl | rfl
  · exact w_c0
  · exact w_c1
  · exact w_c2
  · exact w_c3
  · exact w_c4
set_option maxRecDepth 65536 in
theorem w_t1 : (words1.take 24).all (fun c => isCode c || c.before args0 about1) = true := by decide +kernel
set_option maxRecDepth 65536 in
theorem w_t2 : (words1.drop 24).all (fun c => isCode c || c.before args0 about1) = true := by decide +kernel
theorem w_tables : (allAtoms (Jvm.Cond.code x code maxLocals ret :: tables_1)).before args0 about1 = true := by
  rw [allAtoms_all]
  show words1.all (fun c => c.before args0 about1) = true
  refine all_split ?_ w_codes
  rw [← List.take_append_drop 24 words1, List.all_append, w_t1, w_t2]
  rfl
set_option maxRecDepth 65536 in
theorem w_case : (Jvm.Cond.and given_1 narrow_1).before args0 about1 = true := by decide +kernel
theorem w_applies : (headSpec (Jvm.Cond.code x code maxLocals ret :: tables_1) room_1).applies x e0.platform about1 = true :=
  (Spec.applies_iff w_frames).mpr ⟨w_running, w_runnable, w_alone, w_named, w_hears, w_ripe, w_room, w_tables⟩
theorem atStart : AtStart classFile x code maxLocals ret World_1 tables_1 room_1 Calls_1 rest_1 Pre_1 launch0 p0 e0 about1 theMethod args0 below0 :=
  ⟨lists_1, trivial, launch0.admits_env _ _ _, launch0.least_env, fairChoices_fair.cas, fairChoices_fair.clock, w_frames, w_args, w_heap, w_applies, trivial, trivial, w_case⟩
end start1
theorem witness_1 : WitnessClaimed_1 := ⟨start1.p0, start1.e0, start1.about1, start1.theMethod, start1.args0, start1.below0, start1.atStart⟩
end Jvm.Pilot.@@N@@
