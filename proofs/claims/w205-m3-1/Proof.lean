import JvmDerived
import JvmDerived.Pilot.@@N@@Statement
import JvmDerived.Pilot.@@N@@Code
set_option linter.unusedVariables false
set_option linter.unusedSimpArgs false
namespace Jvm.RoadKit
open Sem ClassFile Op Lib Jvm.Stand Jvm.Free Jvm.LawKit
section Own
variable {p : Program} {l : Launch} {e : Env} {R : Room} {s : State} {m : MethodId} {args : Array Value} {below : List Frame} {meth : Method} {c : Code} {T T' : State} {locs : List Loc} {cells slots rc rs : Nat} {Q : Option Value → Heap → List Loc → Prop} {g g' : JFrame}
/-- from the state T with the top frame g the run ends in a return of which Q is true -/
def OwnGo (p : Program) (e : Env) (below : List Frame) (s : State) (rc rs : Nat) (Q : Option Value → Heap → List Loc → Prop) (T : State) (g : JFrame) : Prop :=
  ∃ (U : State) (o : Outcome), Steps p.tables e below (T.setTop g) U ∧ U.status = .running ∧ Ended U below o ∧ ∃ v L, o = .returned v ∧ Q v U.heap L ∧ FrameEnd s o U L rc rs
theorem OwnGo.st (k : ∀ target, Steps p.tables e below (T'.setTop g') target → Steps p.tables e below (T.setTop g) target) (h : OwnGo p e below s rc rs Q T' g') : OwnGo p e below s rc rs Q T g := by
  obtain ⟨U, o, h1, h2⟩ := h
  exact ⟨U, o, k _ h1, h2⟩
theorem OwnGo.cast (q : g = g') (h : OwnGo p e below s rc rs Q T g') : OwnGo p e below s rc rs Q T g := q ▸ h
theorem OwnGo.ret (X : Stand p l e R s m args below meth c T locs cells slots) (hx : p.tables.exec = Jvm.exec) {pc : Nat} {Ls : Array Slot} {w : Value} {t : FieldType} {i : Instr} {rest : List Value} (hret : meth.sig.returnType = some t) (hlk : meth.locks = false) (hn : narrow t w = w)
    (hi : (i = .ireturn ∧ (t = .int ∨ t = .boolean ∨ t = .byte ∨ t = .char ∨ t = .short) ∧ ∃ z, w = .int z) ∨ (i = .lreturn ∧ t = .long ∧ ∃ z, w = .long z) ∨ (i = .dreturn ∧ t = .double ∧ ∃ z, w = .double z) ∨ (i = .freturn ∧ t = .float ∧ ∃ z, w = .float z) ∨ (i = .areturn ∧ t.isReference = true ∧ w.isRef = true))
    (hd : decode c.code pc = .ok (i, 1)) (hQ : Q (some w) T.heap locs) (hc : cells ≤ rc) (hs : slots ≤ rs) : OwnGo p e below s rc rs Q T (mkF m pc Ls (w :: rest)) := by
  obtain ⟨fs, hr, hrun, hended, hW, hsame⟩ := X.leave (v := some w) (fun h => by rw [hret] at h; cases h) hlk
  exact ⟨_, _, retOut X hx hret hn hi hd hr, hrun, hended, _, _, rfl, hQ, ⟨_, rfl⟩, hW, hsame.mono hc hs⟩
theorem OwnGo.retN (X : Stand p l e R s m args below meth c T locs cells slots) (hx : p.tables.exec = Jvm.exec) {pc : Nat} {Ls : Array Slot} {z : Int32} {t : FieldType} {rest : List Value} (hret : meth.sig.returnType = some t) (hlk : meth.locks = false) (ht : t = .boolean ∨ t = .byte ∨ t = .char ∨ t = .short)
    (hd : decode c.code pc = .ok (.ireturn, 1)) (hQ : Q (some (.int (nar t z))) T.heap locs) (hc : cells ≤ rc) (hs : slots ≤ rs) : OwnGo p e below s rc rs Q T (mkF m pc Ls (.int z :: rest)) := by
  obtain ⟨fs, hr, hrun, hended, hW, hsame⟩ := X.leave (v := some (.int (nar t z))) (fun h => by rw [hret] at h; cases h) hlk
  exact ⟨_, _, Jvm.RoadKit.retN X hx hret ht hd hr, hrun, hended, _, _, rfl, hQ, ⟨_, rfl⟩, hW, hsame.mono hc hs⟩
theorem OwnGo.retV (X : Stand p l e R s m args below meth c T locs cells slots) (hx : p.tables.exec = Jvm.exec) {pc : Nat} {Ls : Array Slot} (hret : meth.sig.returnType = none) (hlk : meth.locks = false)
    (hd : decode c.code pc = .ok (.return_, 1)) (hQ : Q none T.heap locs) (hc : cells ≤ rc) (hs : slots ≤ rs) : OwnGo p e below s rc rs Q T (mkF m pc Ls []) := by
  obtain ⟨fs, hr, hrun, hended, hW, hsame⟩ := X.leave (v := none) (fun _ => rfl) hlk
  exact ⟨_, _, X.returnOut hx hret hd hr, hrun, hended, _, _, rfl, hQ, ⟨_, rfl⟩, hW, hsame.mono hc hs⟩
theorem own_met {y : MethodName} {bytes : ByteArray} {maxL : Nat} {ret : Option FieldType} {ws : List Jvm.Cond} {rm : Room} {Z : State} {as' : Array Value} {h0 : Heap} (hp : plainFor y = true)
    (body : ∀ (p : Program) (e : Env) (s : State) (m : MethodId) (below : List Frame) (meth : Method) (c : Code) (s₁ : State), Stand p l e rm s m as' below meth c s₁ [] 0 0 → p.tables.exec = Jvm.exec → c.code = bytes → c.maxLocals = maxL → meth.sig.returnType = ret → meth.locks = false → s.vm.findClass y.cls = some m.cls → meth.name = y.name → Z.Warmed39 s.vm → s₁.heap = h0 →
      OwnGo p e below s rm.cells rm.slots Q s₁ (entryFrame m as' maxL)) :
    MetFree l y (head1 (Jvm.Cond.code y bytes maxL ret :: ws) rm) (fun a U => a = as' ∧ Z.Warmed39 U.vm ∧ U.heap = h0) (fun _ _ _ _ _ => True) (fun _ U o U' => ∃ v L, o = .returned v ∧ Q v U'.heap L ∧ FrameEnd U o U' L rm.cells rm.slots) := by
  refine MetFree.of_bodySF hp hisR ?_
  intro p e s m args below meth c s₁ Bd hml0 hP hK
  obtain ⟨rfl, hZ, hh⟩ := hP
  exact body p e s m below meth c s₁ (Stand.of_body Bd) Bd.exec Bd.bytes hml0 Bd.returns Bd.notSynchronized (findClass_of_methodNamed Bd.named) (name_of_methodNamed Bd.named Bd.method).1 hZ (by rw [← hh, Bd.state]; rfl)
theorem own_len {Z : State} {h : Heap} {a : Addr} {cl : Cell} {ty : FieldType} {z : Int32} (hZ : Z.Warmed39 s.vm) (q : cl.slots.size.toInt32 = z) (A : Arr Z h a cl ty) (X : Stand p l e R s m args below meth c T locs cells slots) (eT : T.heap = h) (hx : p.tables.exec = Jvm.exec) {rest : List Value}
    (hg : g.method = m) (hst : g.stack = .ref a :: rest) (hd : decode c.code g.pc = .ok (.arraylength, 1)) (target : State) (k : Steps p.tables e below (T.setTop { g with pc := g.pc + 1, stack := .int z :: rest }) target) : Steps p.tables e below (T.setTop g) target := by
  refine X.arraylength hx (by rw [eT]; exact A.1) (State.isArrayOf_alike hZ.alike A.2.1) hg hst hd _ ?_
  rw [q]; exact k
theorem own_eqi {args : Array Value} {first U : State} {o : Option Outcome} {idx : List Nat} {a : Term} {k : Int32} (h : (Jvm.Cond.eq a (.int k)).value args first o U idx = some true) : a.eval args first o idx U = some (.int k) := Cond.eq_int (b := .int k) (by simp only [Cond.holds, h]; rfl) rfl
theorem own_eqv {args : Array Value} {first U : State} {o : Option Outcome} {idx : List Nat} {a b : Term} {v : Value} (h : (Jvm.Cond.eq a b).value args first o U idx = some true) (hb : b.eval args first o idx U = some v) (hv : v.isRef = true) : a.eval args first o idx U = some v := by
  obtain ⟨x, y, h1, h2, k1, k2⟩ := cmp_v (Or.inl h)
  cases h2.symm.trans hb
  have hx : x.isRef = true := by cases x <;> cases v <;> simp [Kin, Value.isRef] at k1 k2 hv ⊢
  rw [h1, gotT (eq_R h1 h2 hx hv) h]
theorem own_lenv {Z : State} {args : Array Value} {t : Term} {a : Addr} {cl : Cell} {ty : FieldType} {z : Int32} (ev : t.eval args Z none [] Z = some (.ref a)) (A : Arr Z Z.heap a cl ty) (h : (Jvm.Cond.eq (.length t) (.int z)).value args Z none Z [] = some true) : cl.slots.size < 2 ^ 31 ∧ cl.slots.size.toInt32 = z := by
  have e := own_eqi h
  have hA := A.fin (Vm.Alike.refl _)
  refine ⟨SBG.length_lt ev hA e, ?_⟩
  obtain ⟨a', c', e1, e2, e3⟩ := Term.length_spec e
  cases ev.symm.trans e1
  cases hA.symm.trans e2
  exact (Value.int.inj e3).symm
theorem own_elem {Z : State} {args : Array Value} {t : Term} {a : Addr} {cl : Cell} {ty : FieldType} {k : Int32} {v : Value} (ev : t.eval args Z none [] Z = some (.ref a)) (A : Arr Z Z.heap a cl ty) (h : (Term.elem t (.int k)).eval args Z none [] Z = some v) : cl.slots[k.toNatClampNeg]? = some v := (elem_in h ev rfl A.1).2
theorem own_narR {w : Value} {t : FieldType} (h : w.isRef = true) (ht : t.isReference = true) : narrow t w = w := by
  cases w <;> simp [Value.isRef] at h <;> cases t <;> simp [FieldType.isReference] at ht <;> rfl
theorem own_cat {w : Value} (h : w.isRef = true) : w.category = 1 := by cases w <;> simp [Value.isRef] at h <;> rfl
/-- an array of n places, whatever they hold -/
def OwnArr (Z : State) (h : Heap) (a : Addr) (ty : FieldType) (n : Nat) : Prop := ∃ cl : Cell, Arr Z h a cl ty ∧ cl.slots.size = n
theorem OwnArr.lt {Z : State} {h : Heap} {a : Addr} {ty : FieldType} {n : Nat} (F : OwnArr Z h a ty n) : a < h.size := by obtain ⟨_, A, -⟩ := F; exact A.lt
theorem OwnArr.ext {Z : State} {h h' : Heap} {a : Addr} {ty : FieldType} {n : Nat} (F : OwnArr Z h a ty n) (E : Ext h h') : OwnArr Z h' a ty n := by obtain ⟨c, A, S⟩ := F; exact ⟨c, A.ext E, S⟩
theorem OwnArr.keep {Z : State} {h h' : Heap} {a : Addr} {ty : FieldType} {n : Nat} {ws : List Addr} (F : OwnArr Z h a ty n) (K : Keep h h' ws) : OwnArr Z h' a ty n := by
  obtain ⟨c, ⟨A1, ⟨q1, q2⟩, A3⟩, S⟩ := F
  obtain ⟨c', e1, e2, e3, e4⟩ := K.2.2 _ _ A1
  exact ⟨c', ⟨e1, ⟨by rw [e3]; exact q1, by rw [e2]; exact q2⟩, by rw [e3]; exact A3⟩, e4.trans S⟩
theorem OwnArr.wr {Z : State} {h h' : Heap} {a b : Addr} {ty : FieldType} {n sl : Nat} {v : Value} (F : OwnArr Z h a ty n) (W : Wr h h' b sl v) : OwnArr Z h' a ty n := F.keep (Keep.of_wr W)
theorem OwnArr.of {Z : State} {h : Heap} {a : Addr} {k : ClassId} {ty : FieldType} {z : Int32} {vs : List Value} {d : Value} (F : Arv Z h a k ty z vs d) : OwnArr Z h a ty z.toNatClampNeg := by obtain ⟨c, A, -, S, -⟩ := F; exact ⟨c, A, S⟩
theorem own_nb (x : Int32) : nar .byte x.toInt8.toInt32 = x.toInt8.toInt32 := by
  show (x.toInt8.toInt32).toInt8.toInt32 = _
  rw [Int8.toInt8_toInt32]
end Own
end Jvm.RoadKit
namespace Jvm.Pilot.@@N@@
open Jvm Jvm.ClassFile Sem Op Lib Jvm.Free Jvm.Stand Jvm.LawKit Jvm.RoadKit Bundle Jvm.Pilot.@@N@@.Jvm.D
theorem own_m5 (p n : Int32) (h : n = ((p &&& (2147483647 : Int32)) % (5 : Int32))) : n = (0 : Int32) ∨ n = (1 : Int32) ∨ n = (2 : Int32) ∨ n = (3 : Int32) ∨ n = (4 : Int32) := by
  have h1 := c_and p 2147483647 (by decide)
  have h2 := (c_irem (p &&& 2147483647) 5 5 (by decide)).1 h1.1
  rw [← h] at h2
  simp only [← Int32.toInt_inj]
  have e0 : (0 : Int32).toInt = 0 := by decide
  have e1 : (1 : Int32).toInt = 1 := by decide
  have e2 : (2 : Int32).toInt = 2 := by decide
  have e3 : (3 : Int32).toInt = 3 := by decide
  have e4 : (4 : Int32).toInt = 4 := by decide
  rw [e0, e1, e2, e3, e4]
  omega
theorem d1_0 : decode prog_18_method_2_code 0 = .ok (.new 8, 3) := by decide +kernel
theorem d1_3 : decode prog_18_method_2_code 3 = .ok (.dup, 1) := by decide +kernel
theorem d1_4 : decode prog_18_method_2_code 4 = .ok (.aload_n 0, 1) := by decide +kernel
theorem d1_5 : decode prog_18_method_2_code 5 = .ok (.invokevirtual 13, 3) := by decide +kernel
theorem d1_8 : decode prog_18_method_2_code 8 = .ok (.checkcast 14, 3) := by decide +kernel
theorem d1_11 : decode prog_18_method_2_code 11 = .ok (.invokespecial 18, 3) := by decide +kernel
theorem d1_14 : decode prog_18_method_2_code 14 = .ok (.areturn, 1) := by decide +kernel
theorem d2_0 : decode prog_18_method_1_code 0 = .ok (.aload_n 0, 1) := by decide +kernel
theorem d2_1 : decode prog_18_method_1_code 1 = .ok (.invokespecial 1, 3) := by decide +kernel
theorem d2_4 : decode prog_18_method_1_code 4 = .ok (.aload_n 0, 1) := by decide +kernel
theorem d2_5 : decode prog_18_method_1_code 5 = .ok (.aload_n 1, 1) := by decide +kernel
theorem d2_6 : decode prog_18_method_1_code 6 = .ok (.putfield 7, 3) := by decide +kernel
theorem d2_9 : decode prog_18_method_1_code 9 = .ok (.return_, 1) := by decide +kernel
theorem d4_0 : decode prog_18_method_5_code 0 = .ok (.aload_n 0, 1) := by decide +kernel
theorem d4_1 : decode prog_18_method_5_code 1 = .ok (.getfield 7, 3) := by decide +kernel
theorem d4_4 : decode prog_18_method_5_code 4 = .ok (.arraylength, 1) := by decide +kernel
theorem d4_5 : decode prog_18_method_5_code 5 = .ok (.ireturn, 1) := by decide +kernel
theorem d5_0 : decode prog_18_method_4_code 0 = .ok (.getstatic 21, 3) := by decide +kernel
theorem d5_3 : decode prog_18_method_4_code 3 = .ok (.areturn, 1) := by decide +kernel
theorem d6_0 : decode prog_18_method_6_code 0 = .ok (.aload_n 0, 1) := by decide +kernel
theorem d6_1 : decode prog_18_method_6_code 1 = .ok (.getfield 7, 3) := by decide +kernel
theorem d6_4 : decode prog_18_method_6_code 4 = .ok (.iload_n 1, 1) := by decide +kernel
theorem d6_5 : decode prog_18_method_6_code 5 = .ok (.baload, 1) := by decide +kernel
theorem d6_6 : decode prog_18_method_6_code 6 = .ok (.ireturn, 1) := by decide +kernel
theorem pd_0 : parseMethodDescriptor "([B)V" = some ⟨[(.array .byte)], none⟩ := by decide +kernel
theorem pd_1 : parseMethodDescriptor "([B)Lcom/example/cofferhand/cofferhand/nbt/ByteArrayTag;" = some ⟨[(.array .byte)], some (.object "com/example/cofferhand/cofferhand/nbt/ByteArrayTag")⟩ := by decide +kernel
theorem pd_2 : parseMethodDescriptor "()I" = some ⟨[], some .int⟩ := by decide +kernel
theorem pd_3 : parseMethodDescriptor "()Lcom/example/cofferhand/cofferhand/nbt/TagType;" = some ⟨[], some (.object "com/example/cofferhand/cofferhand/nbt/TagType")⟩ := by decide +kernel
theorem pd_4 : parseMethodDescriptor "(I)B" = some ⟨[.int], some .byte⟩ := by decide +kernel
theorem pn_2 : plainName "com/example/cofferhand/cofferhand/nbt/ByteArrayTag" = true := by first | (simp [plainName, overriddenIn]; done) | decide +kernel
theorem pn_0 : plainName "com/example/cofferhand/cofferhand/nbt/ByteArrayTagOfPinLaw" = true := by first | (simp [plainName, overriddenIn]; done) | decide +kernel
theorem ef_ini (m : MethodId) (x0 : Addr) (x1 : Addr) : entryFrame m #[(.ref x0), (.ref x1)] 2 = mkF m 0 #[.val (.ref x0), .val (.ref x1)] [] := by first | (simp [entryFrame, mkF, argsToLocals, Value.category]; done) | rfl
theorem ef_of0 (m : MethodId) (x0 : Addr) : entryFrame m #[(.ref x0)] 1 = mkF m 0 #[.val (.ref x0)] [] := by first | (simp [entryFrame, mkF, argsToLocals, Value.category]; done) | rfl
theorem ef_of1 (m : MethodId) (x0 : Addr) : entryFrame m #[(.ref x0)] 1 = mkF m 0 #[.val (.ref x0)] [] := by first | (simp [entryFrame, mkF, argsToLocals, Value.category]; done) | rfl
theorem ef_of2 (m : MethodId) (x0 : Addr) : entryFrame m #[(.ref x0)] 1 = mkF m 0 #[.val (.ref x0)] [] := by first | (simp [entryFrame, mkF, argsToLocals, Value.category]; done) | rfl
theorem ef_of3 (m : MethodId) (x0 : Addr) : entryFrame m #[(.ref x0)] 1 = mkF m 0 #[.val (.ref x0)] [] := by first | (simp [entryFrame, mkF, argsToLocals, Value.category]; done) | rfl
theorem ef_of4 (m : MethodId) (x0 : Addr) : entryFrame m #[(.ref x0)] 1 = mkF m 0 #[.val (.ref x0)] [] := by first | (simp [entryFrame, mkF, argsToLocals, Value.category]; done) | rfl
theorem ef_len (m : MethodId) (x0 : Addr) : entryFrame m #[(.ref x0)] 1 = mkF m 0 #[.val (.ref x0)] [] := by first | (simp [entryFrame, mkF, argsToLocals, Value.category]; done) | rfl
theorem ef_get (m : MethodId) (x0 : Addr) (x1 : Int32) : entryFrame m #[(.ref x0), (.int x1)] 2 = mkF m 0 #[.val (.ref x0), .val (.int x1)] [] := by first | (simp [entryFrame, mkF, argsToLocals, Value.category]; done) | rfl
theorem ef_typ (m : MethodId) (x0 : Addr) : entryFrame m #[(.ref x0)] 1 = mkF m 0 #[.val (.ref x0)] [] := by first | (simp [entryFrame, mkF, argsToLocals, Value.category]; done) | rfl
theorem ef_0 (m : MethodId) (x0 : Int32) (x1 : Int32) (x2 : Int32) (x3 : Int32) (x4 : Int32) : entryFrame m #[(.int x0), (.int x1), (.int x2), (.int x3), (.int x4)] maxLocals = mkF m 0 #[.val (.int x0), .val (.int x1), .val (.int x2), .val (.int x3), .val (.int x4), .unset, .unset, .unset, .unset, .unset, .unset, .unset, .unset] [] := by first | (simp [entryFrame, mkF, argsToLocals, Value.category, maxLocals]; done) | rfl
def Qini (Z : State) (a : Addr) (b : Addr) (h0 : Heap) (n0 : Nat) (v : Option Value) (h : Heap) (L : List Loc) : Prop := v = none ∧ Fr n0 L ∧ Keep h0 h [a] ∧ Exa Z h a "com/example/cofferhand/cofferhand/nbt/ByteArrayTag" ∧ Fld Z h a "com/example/cofferhand/cofferhand/nbt/ByteArrayTag" "values" "[B" (.ref b)
set_option maxRecDepth 65536 in
set_option maxHeartbeats 40000000 in
theorem rmini (l : Launch) (Z : State) (a0 : Array Value) (hw : ∀ d ∈ tables_1, d.before a0 Z = true) (ws : List Jvm.Cond) (a : Addr) (b : Addr) (h0 : Heap) (n0 : Nat) (Z0 : n0 ≤ h0.size) (E_a : Exa Z h0 a "com/example/cofferhand/cofferhand/nbt/ByteArrayTag") (F_a : Fld Z h0 a "com/example/cofferhand/cofferhand/nbt/ByteArrayTag" "values" "[B" .null) (g_a : n0 ≤ a) :
    MetFree l (⟨"com/example/cofferhand/cofferhand/nbt/ByteArrayTag", "<init>", "([B)V"⟩ : MethodName) (head1 (Jvm.Cond.code (⟨"com/example/cofferhand/cofferhand/nbt/ByteArrayTag", "<init>", "([B)V"⟩ : MethodName) prog_18_method_1_code 2 none :: ws) ({ frames := 1, cells := 0, slots := 0, locals := 12 } : Room)) (fun as_ U => as_ = #[(.ref a), (.ref b)] ∧ Z.Warmed39 U.vm ∧ U.heap = h0) (fun _ _ _ _ _ => True) (fun _ U o U' => ∃ v L, o = .returned v ∧ (Qini Z a b h0 n0) v U'.heap L ∧ FrameEnd U o U' L ({ frames := 1, cells := 0, slots := 0, locals := 12 } : Room).cells ({ frames := 1, cells := 0, slots := 0, locals := 12 } : Room).slots) := by
  refine own_met (plainFor_of_name pn_2) ?_
  intro p e s m below meth c s₁ X0 hx hby hml hret hlk hown hnm hZ e0
  have N0 := Fr.nil n0
  have Z_ := Z0
  refine OwnGo.cast (ef_ini m a b) ?_
  show OwnGo p e below s _ _ _ s₁ (mkF m 0 #[.val (.ref a), .val (.ref b)] [])
  have Kp : Keep h0 h0 [a] := Keep.refl h0 [a]
  refine OwnGo.st (fun _ k => XS.aloadN X0.here hx rfl (hb hby d2_0) rfl rfl  k) ?_
  show OwnGo p e below s _ _ _ s₁ (mkF m 1 #[.val (.ref a), .val (.ref b)] [(.ref a)])
  obtain ⟨T1, X1, e1, st1⟩ := initO X0 hx hZ hown (hw _ (List.mem_of_getElem? (i := 20) rfl)) (hw _ (List.mem_of_getElem? (i := 21) rfl)) (hw _ (List.mem_of_getElem? (i := 22) rfl)) e0 (g := (mkF m 1 #[.val (.ref a), .val (.ref b)] [(.ref a)])) rfl (by rw [hml]; rfl) rfl (hb hby d2_1) (by decide) (W := 0) (by show 2 * 0 + _ ≤ _; exact Nat.le_of_eq rfl) (by decide)
  refine OwnGo.st st1 ?_
  show OwnGo p e below s _ _ _ T1 (mkF m 4 #[.val (.ref a), .val (.ref b)] [])
  refine OwnGo.st (fun _ k => XS.aloadN X1.here hx rfl (hb hby d2_4) rfl rfl  k) ?_
  show OwnGo p e below s _ _ _ T1 (mkF m 5 #[.val (.ref a), .val (.ref b)] [(.ref a)])
  refine OwnGo.st (fun _ k => XS.aloadN X1.here hx rfl (hb hby d2_5) rfl rfl  k) ?_
  show OwnGo p e below s _ _ _ T1 (mkF m 6 #[.val (.ref a), .val (.ref b)] [(.ref b), (.ref a)])
  obtain ⟨T2, h2, X2, e2, W2, st2⟩ := putF X1 hx hZ hown (host := "") (Or.inl (hw _ (List.mem_of_getElem? (i := 23) rfl))) Via.refl e1 F_a E_a (Or.inr ⟨(hw _ (List.mem_of_getElem? (i := 24) rfl)), rfl, hnm⟩) (hw _ (List.mem_of_getElem? (i := 7) rfl)) (ty := (.array .byte)) (by decide) rfl rfl (g := (mkF m 6 #[.val (.ref a), .val (.ref b)] [(.ref b), (.ref a)])) rfl rfl (hb hby d2_6)
  have E_a := E_a.wr W2
  have F_a := F_a.same W2
  have Kp := Kp.wr W2 (Or.inl (List.mem_of_getElem? (i := 0) rfl))
  have N2 := Fr.snoc X2 N0 g_a
  have Z_ : n0 ≤ h2.size := by rw [W2.size]; exact Z_
  refine OwnGo.st st2 ?_
  show OwnGo p e below s _ _ _ T2 (mkF m 9 #[.val (.ref a), .val (.ref b)] [])
  exact OwnGo.retV X2 hx hret hlk (hb hby d2_9) (by show Qini Z a b h0 n0 _ T2.heap _; rw [e2]; exact ⟨rfl, N2, Kp, E_a, F_a⟩) (by decide) (by decide)
def Qof0 (Z : State) (a : Addr) (kc : ClassId) (h0 : Heap) (n0 : Nat) (v : Option Value) (h : Heap) (L : List Loc) : Prop := ∃ t c : Addr, v = some (.ref t) ∧ Fr n0 L ∧ Keep h0 h [] ∧ Exa Z h t "com/example/cofferhand/cofferhand/nbt/ByteArrayTag" ∧ Fld Z h t "com/example/cofferhand/cofferhand/nbt/ByteArrayTag" "values" "[B" (.ref c) ∧ Arv Z h c kc .byte (0 : Int32) [] (.int (0 : Int32)) ∧ h0.size ≤ t ∧ h0.size ≤ c
set_option maxRecDepth 65536 in
set_option maxHeartbeats 40000000 in
theorem rmof0 (l : Launch) (Z : State) (a0 : Array Value) (hw : ∀ d ∈ tables_1, d.before a0 Z = true) (ws : List Jvm.Cond) (a : Addr) (kc : ClassId) (h0 : Heap) (n0 : Nat) (Z0 : n0 ≤ h0.size) (V : Arv Z h0 a kc .byte (0 : Int32) [] (.int (0 : Int32))) (E : Exa Z h0 a "[B") :
    MetFree l (⟨"com/example/cofferhand/cofferhand/nbt/ByteArrayTag", "of", "([B)Lcom/example/cofferhand/cofferhand/nbt/ByteArrayTag;"⟩ : MethodName) (head1 (Jvm.Cond.code (⟨"com/example/cofferhand/cofferhand/nbt/ByteArrayTag", "of", "([B)Lcom/example/cofferhand/cofferhand/nbt/ByteArrayTag;"⟩ : MethodName) prog_18_method_2_code 1 (some (.object "com/example/cofferhand/cofferhand/nbt/ByteArrayTag")) :: ws) ({ frames := 2, cells := 2, slots := 1, locals := 26 } : Room)) (fun as_ U => as_ = #[(.ref a)] ∧ Z.Warmed39 U.vm ∧ U.heap = h0) (fun _ _ _ _ _ => True) (fun _ U o U' => ∃ v L, o = .returned v ∧ (Qof0 Z a kc h0 n0) v U'.heap L ∧ FrameEnd U o U' L ({ frames := 2, cells := 2, slots := 1, locals := 26 } : Room).cells ({ frames := 2, cells := 2, slots := 1, locals := 26 } : Room).slots) := by
  refine own_met (plainFor_of_name pn_2) ?_
  intro p e s m below meth c s₁ X0 hx hby hml hret hlk hown hnm hZ e0
  have N0 := Fr.nil n0
  have Z_ := Z0
  refine OwnGo.cast (ef_of0 m a) ?_
  show OwnGo p e below s _ _ _ s₁ (mkF m 0 #[.val (.ref a)] [])
  have Kp : Keep h0 h0 [] := Keep.refl h0 []
  obtain ⟨T3, h3, X3, e3, E3, A3, D3, -, st3⟩ := newO X0 hx hZ hown (hw _ (List.mem_of_getElem? (i := 6) rfl)) (hw _ (List.mem_of_getElem? (i := 7) rfl)) (hw _ (List.mem_of_getElem? (i := 4) rfl)) e0 (g := (mkF m 0 #[.val (.ref a)] [])) rfl (hb hby d1_0) (by decide) (by decide)
  obtain ⟨b3, g3⟩ : ∃ z, z = h0.size := ⟨_, rfl⟩
  rw [← g3] at A3 D3 st3
  have ne_a_b3 : a ≠ b3 := Nat.ne_of_lt (Nat.lt_of_lt_of_le V.lt (Nat.le_of_eq g3.symm))
  have g_b3 : n0 ≤ b3 := Nat.le_trans Z_ (Nat.le_of_eq g3.symm)
  have sz_b3 : h0.size ≤ b3 := Nat.le_trans Kp.1 (Nat.le_of_eq g3.symm)
  have V := V.ext E3
  have E := E.ext E3
  have Kp := Kp.ext E3
  have Z_ : n0 ≤ h3.size := Nat.le_trans Z_ E3.1
  have E_b3 := A3
  have F_values_b3 : Fld Z h3 b3 "com/example/cofferhand/cofferhand/nbt/ByteArrayTag" "values" "[B" .null := D3 (Or.inr (hw _ (List.mem_of_getElem? (i := 24) rfl))) (ty := (.array .byte)) (by decide)
  refine OwnGo.st st3 ?_
  show OwnGo p e below s _ _ _ T3 (mkF m 3 #[.val (.ref a)] [(.ref b3)])
  refine OwnGo.st (fun _ k => XS.dup X3.here hx rfl (hb hby d1_3) rfl rfl k) ?_
  show OwnGo p e below s _ _ _ T3 (mkF m 4 #[.val (.ref a)] [(.ref b3), (.ref b3)])
  refine OwnGo.st (fun _ k => XS.aloadN X3.here hx rfl (hb hby d1_4) rfl rfl  k) ?_
  show OwnGo p e below s _ _ _ T3 (mkF m 5 #[.val (.ref a)] [(.ref a), (.ref b3), (.ref b3)])
  obtain ⟨T4, h4, X4, e4, E4, Vn4, Ex4, st4⟩ := cloneH X3 hx hZ hown (hw _ (List.mem_of_getElem? (i := 8) rfl)) (hw _ (List.mem_of_getElem? (i := 9) rfl)) (hw _ (List.mem_of_getElem? (i := 13) rfl)) (hw _ (List.mem_of_getElem? (i := 11) rfl)) (hw _ (List.mem_of_getElem? (i := 12) rfl)) (hw _ (List.mem_of_getElem? (i := 14) rfl)) e3 V.arh E (g := (mkF m 5 #[.val (.ref a)] [(.ref a), (.ref b3), (.ref b3)])) rfl (by rw [hml]; rfl) rfl (hb hby d1_5) (by decide) (W := 2) (by show 2 * 0 + _ ≤ _; exact Nat.le_of_eq rfl) (by decide) (cap := 0) (by decide) (by decide) (by decide)
  obtain ⟨b4, g4⟩ : ∃ z, z = h3.size := ⟨_, rfl⟩
  rw [← g4] at Vn4 Ex4 st4
  have ne_a_b4 : a ≠ b4 := Nat.ne_of_lt (Nat.lt_of_lt_of_le V.lt (Nat.le_of_eq g4.symm))
  have ne_b3_b4 : b3 ≠ b4 := Nat.ne_of_lt (Nat.lt_of_lt_of_le E_b3.lt (Nat.le_of_eq g4.symm))
  have g_b4 : n0 ≤ b4 := Nat.le_trans Z_ (Nat.le_of_eq g4.symm)
  have sz_b4 : h0.size ≤ b4 := Nat.le_trans Kp.1 (Nat.le_of_eq g4.symm)
  have V := V.ext E4
  have E := E.ext E4
  have E_b3 := E_b3.ext E4
  have F_values_b3 := F_values_b3.ext E4
  have Kp := Kp.ext E4
  have Z_ : n0 ≤ h4.size := Nat.le_trans Z_ E4.1
  have V_b4 : Arv Z h4 b4 kc .byte (0 : Int32) [] (.int (0 : Int32)) := Vn4
  have E_b4 := Ex4
  refine OwnGo.st st4 ?_
  show OwnGo p e below s _ _ _ T4 (mkF m 8 #[.val (.ref a)] [(.ref b4), (.ref b3), (.ref b3)])
  obtain ⟨T5, X5, e5, st5⟩ := castY X4 hx hZ hown (hw _ (List.mem_of_getElem? (i := 15) rfl)) e4 (Ins.self E_b4) (g := (mkF m 8 #[.val (.ref a)] [(.ref b4), (.ref b3), (.ref b3)])) rfl rfl (hb hby d1_8)
  refine OwnGo.st st5 ?_
  show OwnGo p e below s _ _ _ T5 (mkF m 11 #[.val (.ref a)] [(.ref b4), (.ref b3), (.ref b3)])
  obtain ⟨_, _, ⟨T6, L6, k6, n6⟩, -, X6, ⟨Lc6, hQ6, l6, y6, z6⟩, st6⟩ := X5.specialBack hx (y := (⟨"com/example/cofferhand/cofferhand/nbt/ByteArrayTag", "<init>", "([B)V"⟩ : MethodName)) rfl hown (mvT hZ (hw _ (List.mem_of_getElem? (i := 17) rfl))) (mvT hZ (hw _ (List.mem_of_getElem? (i := 18) rfl))) (mvT hZ (hw _ (List.mem_of_getElem? (i := 19) rfl))) (by decide) (backOf (W := 1) (rmini l Z a0 hw [] b3 b4 h4 n0 Z_ E_b3 F_values_b3 g_b3) hZ (hw _ (List.mem_of_getElem? (i := 19) rfl)) (hw _ (List.mem_of_getElem? (i := 4) rfl)) (by decide) (by decide)) (g := (mkF m 11 #[.val (.ref a)] [(.ref b4), (.ref b3), (.ref b3)])) rfl (by rw [hml]; rfl) (Steps.refl _) (a := b3) (argsL := [(.ref b4)]) (rest := [(.ref b3)]) (lenOf pd_0 rfl) rfl (by show 2 * 0 + _ ≤ _; exact Nat.le_of_eq rfl) (hb hby d1_11) (fun _ _ => ⟨rfl, e5, (by decide : 2 + 0 ≤ _), (by decide : 1 + 0 ≤ _)⟩)
  dsimp only [Pt.U, Pt.locs, Pt.cells, Pt.slots] at X6 l6 y6 z6 st6 hQ6
  subst l6 y6 z6
  obtain ⟨rfl, N6q, K6, E6, F6⟩ := hQ6
  have N6 := Fr.app N0 N6q
  have Z_ : n0 ≤ T6.heap.size := Nat.le_trans Z_ K6.1
  have V := V.keep K6 (ninS ne_a_b3 nin0)
  have E := E.keep K6
  have E_b3 := E_b3.keep K6
  have V_b4 := V_b4.keep K6 (ninS (Ne.symm ne_b3_b4) nin0)
  have E_b4 := E_b4.keep K6
  have Kp := Kp.trans K6 (allS (Or.inr sz_b3) all0)
  refine OwnGo.st (fun _ k => st6.trans k) ?_
  show OwnGo p e below s _ _ _ T6 (mkF m 14 #[.val (.ref a)] [(.ref b3)])
  exact OwnGo.ret X6 hx hret hlk rfl (Or.inr (Or.inr (Or.inr (Or.inr ⟨rfl, rfl, rfl⟩)))) (hb hby d1_14) (by show Qof0 Z a kc h0 n0 _ T6.heap _; exact ⟨b3, b4, rfl, N6, Kp, E6, F6, V_b4, sz_b3, sz_b4⟩) (by decide) (by decide)
def Qof1 (Z : State) (a : Addr) (kc : ClassId) (b0 : Int32) (h0 : Heap) (n0 : Nat) (v : Option Value) (h : Heap) (L : List Loc) : Prop := ∃ t c : Addr, v = some (.ref t) ∧ Fr n0 L ∧ Keep h0 h [] ∧ Exa Z h t "com/example/cofferhand/cofferhand/nbt/ByteArrayTag" ∧ Fld Z h t "com/example/cofferhand/cofferhand/nbt/ByteArrayTag" "values" "[B" (.ref c) ∧ Arv Z h c kc .byte (1 : Int32) [(.int b0)] (.int (0 : Int32)) ∧ h0.size ≤ t ∧ h0.size ≤ c
set_option maxRecDepth 65536 in
set_option maxHeartbeats 40000000 in
theorem rmof1 (l : Launch) (Z : State) (a0 : Array Value) (hw : ∀ d ∈ tables_1, d.before a0 Z = true) (ws : List Jvm.Cond) (a : Addr) (kc : ClassId) (b0 : Int32) (h0 : Heap) (n0 : Nat) (Z0 : n0 ≤ h0.size) (V : Arv Z h0 a kc .byte (1 : Int32) [(.int b0)] (.int (0 : Int32))) (E : Exa Z h0 a "[B") :
    MetFree l (⟨"com/example/cofferhand/cofferhand/nbt/ByteArrayTag", "of", "([B)Lcom/example/cofferhand/cofferhand/nbt/ByteArrayTag;"⟩ : MethodName) (head1 (Jvm.Cond.code (⟨"com/example/cofferhand/cofferhand/nbt/ByteArrayTag", "of", "([B)Lcom/example/cofferhand/cofferhand/nbt/ByteArrayTag;"⟩ : MethodName) prog_18_method_2_code 1 (some (.object "com/example/cofferhand/cofferhand/nbt/ByteArrayTag")) :: ws) ({ frames := 2, cells := 2, slots := 2, locals := 26 } : Room)) (fun as_ U => as_ = #[(.ref a)] ∧ Z.Warmed39 U.vm ∧ U.heap = h0) (fun _ _ _ _ _ => True) (fun _ U o U' => ∃ v L, o = .returned v ∧ (Qof1 Z a kc b0 h0 n0) v U'.heap L ∧ FrameEnd U o U' L ({ frames := 2, cells := 2, slots := 2, locals := 26 } : Room).cells ({ frames := 2, cells := 2, slots := 2, locals := 26 } : Room).slots) := by
  refine own_met (plainFor_of_name pn_2) ?_
  intro p e s m below meth c s₁ X0 hx hby hml hret hlk hown hnm hZ e0
  have N0 := Fr.nil n0
  have Z_ := Z0
  refine OwnGo.cast (ef_of1 m a) ?_
  show OwnGo p e below s _ _ _ s₁ (mkF m 0 #[.val (.ref a)] [])
  have Kp : Keep h0 h0 [] := Keep.refl h0 []
  obtain ⟨T7, h7, X7, e7, E7, A7, D7, -, st7⟩ := newO X0 hx hZ hown (hw _ (List.mem_of_getElem? (i := 6) rfl)) (hw _ (List.mem_of_getElem? (i := 7) rfl)) (hw _ (List.mem_of_getElem? (i := 4) rfl)) e0 (g := (mkF m 0 #[.val (.ref a)] [])) rfl (hb hby d1_0) (by decide) (by decide)
  obtain ⟨b7, g7⟩ : ∃ z, z = h0.size := ⟨_, rfl⟩
  rw [← g7] at A7 D7 st7
  have ne_a_b7 : a ≠ b7 := Nat.ne_of_lt (Nat.lt_of_lt_of_le V.lt (Nat.le_of_eq g7.symm))
  have g_b7 : n0 ≤ b7 := Nat.le_trans Z_ (Nat.le_of_eq g7.symm)
  have sz_b7 : h0.size ≤ b7 := Nat.le_trans Kp.1 (Nat.le_of_eq g7.symm)
  have V := V.ext E7
  have E := E.ext E7
  have Kp := Kp.ext E7
  have Z_ : n0 ≤ h7.size := Nat.le_trans Z_ E7.1
  have E_b7 := A7
  have F_values_b7 : Fld Z h7 b7 "com/example/cofferhand/cofferhand/nbt/ByteArrayTag" "values" "[B" .null := D7 (Or.inr (hw _ (List.mem_of_getElem? (i := 24) rfl))) (ty := (.array .byte)) (by decide)
  refine OwnGo.st st7 ?_
  show OwnGo p e below s _ _ _ T7 (mkF m 3 #[.val (.ref a)] [(.ref b7)])
  refine OwnGo.st (fun _ k => XS.dup X7.here hx rfl (hb hby d1_3) rfl rfl k) ?_
  show OwnGo p e below s _ _ _ T7 (mkF m 4 #[.val (.ref a)] [(.ref b7), (.ref b7)])
  refine OwnGo.st (fun _ k => XS.aloadN X7.here hx rfl (hb hby d1_4) rfl rfl  k) ?_
  show OwnGo p e below s _ _ _ T7 (mkF m 5 #[.val (.ref a)] [(.ref a), (.ref b7), (.ref b7)])
  obtain ⟨T8, h8, X8, e8, E8, Vn8, Ex8, st8⟩ := cloneH X7 hx hZ hown (hw _ (List.mem_of_getElem? (i := 8) rfl)) (hw _ (List.mem_of_getElem? (i := 9) rfl)) (hw _ (List.mem_of_getElem? (i := 13) rfl)) (hw _ (List.mem_of_getElem? (i := 11) rfl)) (hw _ (List.mem_of_getElem? (i := 12) rfl)) (hw _ (List.mem_of_getElem? (i := 14) rfl)) e7 V.arh E (g := (mkF m 5 #[.val (.ref a)] [(.ref a), (.ref b7), (.ref b7)])) rfl (by rw [hml]; rfl) rfl (hb hby d1_5) (by decide) (W := 2) (by show 2 * 0 + _ ≤ _; exact Nat.le_of_eq rfl) (by decide) (cap := 1) (by decide) (by decide) (by decide)
  obtain ⟨b8, g8⟩ : ∃ z, z = h7.size := ⟨_, rfl⟩
  rw [← g8] at Vn8 Ex8 st8
  have ne_a_b8 : a ≠ b8 := Nat.ne_of_lt (Nat.lt_of_lt_of_le V.lt (Nat.le_of_eq g8.symm))
  have ne_b7_b8 : b7 ≠ b8 := Nat.ne_of_lt (Nat.lt_of_lt_of_le E_b7.lt (Nat.le_of_eq g8.symm))
  have g_b8 : n0 ≤ b8 := Nat.le_trans Z_ (Nat.le_of_eq g8.symm)
  have sz_b8 : h0.size ≤ b8 := Nat.le_trans Kp.1 (Nat.le_of_eq g8.symm)
  have V := V.ext E8
  have E := E.ext E8
  have E_b7 := E_b7.ext E8
  have F_values_b7 := F_values_b7.ext E8
  have Kp := Kp.ext E8
  have Z_ : n0 ≤ h8.size := Nat.le_trans Z_ E8.1
  have V_b8 : Arv Z h8 b8 kc .byte (1 : Int32) [(.int b0)] (.int (0 : Int32)) := Vn8
  have E_b8 := Ex8
  refine OwnGo.st st8 ?_
  show OwnGo p e below s _ _ _ T8 (mkF m 8 #[.val (.ref a)] [(.ref b8), (.ref b7), (.ref b7)])
  obtain ⟨T9, X9, e9, st9⟩ := castY X8 hx hZ hown (hw _ (List.mem_of_getElem? (i := 15) rfl)) e8 (Ins.self E_b8) (g := (mkF m 8 #[.val (.ref a)] [(.ref b8), (.ref b7), (.ref b7)])) rfl rfl (hb hby d1_8)
  refine OwnGo.st st9 ?_
  show OwnGo p e below s _ _ _ T9 (mkF m 11 #[.val (.ref a)] [(.ref b8), (.ref b7), (.ref b7)])
  obtain ⟨_, _, ⟨T10, L10, k10, n10⟩, -, X10, ⟨Lc10, hQ10, l10, y10, z10⟩, st10⟩ := X9.specialBack hx (y := (⟨"com/example/cofferhand/cofferhand/nbt/ByteArrayTag", "<init>", "([B)V"⟩ : MethodName)) rfl hown (mvT hZ (hw _ (List.mem_of_getElem? (i := 17) rfl))) (mvT hZ (hw _ (List.mem_of_getElem? (i := 18) rfl))) (mvT hZ (hw _ (List.mem_of_getElem? (i := 19) rfl))) (by decide) (backOf (W := 1) (rmini l Z a0 hw [] b7 b8 h8 n0 Z_ E_b7 F_values_b7 g_b7) hZ (hw _ (List.mem_of_getElem? (i := 19) rfl)) (hw _ (List.mem_of_getElem? (i := 4) rfl)) (by decide) (by decide)) (g := (mkF m 11 #[.val (.ref a)] [(.ref b8), (.ref b7), (.ref b7)])) rfl (by rw [hml]; rfl) (Steps.refl _) (a := b7) (argsL := [(.ref b8)]) (rest := [(.ref b7)]) (lenOf pd_0 rfl) rfl (by show 2 * 0 + _ ≤ _; exact Nat.le_of_eq rfl) (hb hby d1_11) (fun _ _ => ⟨rfl, e9, (by decide : 2 + 0 ≤ _), (by decide : 2 + 0 ≤ _)⟩)
  dsimp only [Pt.U, Pt.locs, Pt.cells, Pt.slots] at X10 l10 y10 z10 st10 hQ10
  subst l10 y10 z10
  obtain ⟨rfl, N10q, K10, E10, F10⟩ := hQ10
  have N10 := Fr.app N0 N10q
  have Z_ : n0 ≤ T10.heap.size := Nat.le_trans Z_ K10.1
  have V := V.keep K10 (ninS ne_a_b7 nin0)
  have E := E.keep K10
  have E_b7 := E_b7.keep K10
  have V_b8 := V_b8.keep K10 (ninS (Ne.symm ne_b7_b8) nin0)
  have E_b8 := E_b8.keep K10
  have Kp := Kp.trans K10 (allS (Or.inr sz_b7) all0)
  refine OwnGo.st (fun _ k => st10.trans k) ?_
  show OwnGo p e below s _ _ _ T10 (mkF m 14 #[.val (.ref a)] [(.ref b7)])
  exact OwnGo.ret X10 hx hret hlk rfl (Or.inr (Or.inr (Or.inr (Or.inr ⟨rfl, rfl, rfl⟩)))) (hb hby d1_14) (by show Qof1 Z a kc b0 h0 n0 _ T10.heap _; exact ⟨b7, b8, rfl, N10, Kp, E10, F10, V_b8, sz_b7, sz_b8⟩) (by decide) (by decide)
def Qof2 (Z : State) (a : Addr) (kc : ClassId) (b0 : Int32) (b1 : Int32) (h0 : Heap) (n0 : Nat) (v : Option Value) (h : Heap) (L : List Loc) : Prop := ∃ t c : Addr, v = some (.ref t) ∧ Fr n0 L ∧ Keep h0 h [] ∧ Exa Z h t "com/example/cofferhand/cofferhand/nbt/ByteArrayTag" ∧ Fld Z h t "com/example/cofferhand/cofferhand/nbt/ByteArrayTag" "values" "[B" (.ref c) ∧ Arv Z h c kc .byte (2 : Int32) [(.int b0), (.int b1)] (.int (0 : Int32)) ∧ h0.size ≤ t ∧ h0.size ≤ c
set_option maxRecDepth 65536 in
set_option maxHeartbeats 40000000 in
theorem rmof2 (l : Launch) (Z : State) (a0 : Array Value) (hw : ∀ d ∈ tables_1, d.before a0 Z = true) (ws : List Jvm.Cond) (a : Addr) (kc : ClassId) (b0 : Int32) (b1 : Int32) (h0 : Heap) (n0 : Nat) (Z0 : n0 ≤ h0.size) (V : Arv Z h0 a kc .byte (2 : Int32) [(.int b0), (.int b1)] (.int (0 : Int32))) (E : Exa Z h0 a "[B") :
    MetFree l (⟨"com/example/cofferhand/cofferhand/nbt/ByteArrayTag", "of", "([B)Lcom/example/cofferhand/cofferhand/nbt/ByteArrayTag;"⟩ : MethodName) (head1 (Jvm.Cond.code (⟨"com/example/cofferhand/cofferhand/nbt/ByteArrayTag", "of", "([B)Lcom/example/cofferhand/cofferhand/nbt/ByteArrayTag;"⟩ : MethodName) prog_18_method_2_code 1 (some (.object "com/example/cofferhand/cofferhand/nbt/ByteArrayTag")) :: ws) ({ frames := 2, cells := 2, slots := 3, locals := 26 } : Room)) (fun as_ U => as_ = #[(.ref a)] ∧ Z.Warmed39 U.vm ∧ U.heap = h0) (fun _ _ _ _ _ => True) (fun _ U o U' => ∃ v L, o = .returned v ∧ (Qof2 Z a kc b0 b1 h0 n0) v U'.heap L ∧ FrameEnd U o U' L ({ frames := 2, cells := 2, slots := 3, locals := 26 } : Room).cells ({ frames := 2, cells := 2, slots := 3, locals := 26 } : Room).slots) := by
  refine own_met (plainFor_of_name pn_2) ?_
  intro p e s m below meth c s₁ X0 hx hby hml hret hlk hown hnm hZ e0
  have N0 := Fr.nil n0
  have Z_ := Z0
  refine OwnGo.cast (ef_of2 m a) ?_
  show OwnGo p e below s _ _ _ s₁ (mkF m 0 #[.val (.ref a)] [])
  have Kp : Keep h0 h0 [] := Keep.refl h0 []
  obtain ⟨T11, h11, X11, e11, E11, A11, D11, -, st11⟩ := newO X0 hx hZ hown (hw _ (List.mem_of_getElem? (i := 6) rfl)) (hw _ (List.mem_of_getElem? (i := 7) rfl)) (hw _ (List.mem_of_getElem? (i := 4) rfl)) e0 (g := (mkF m 0 #[.val (.ref a)] [])) rfl (hb hby d1_0) (by decide) (by decide)
  obtain ⟨b11, g11⟩ : ∃ z, z = h0.size := ⟨_, rfl⟩
  rw [← g11] at A11 D11 st11
  have ne_a_b11 : a ≠ b11 := Nat.ne_of_lt (Nat.lt_of_lt_of_le V.lt (Nat.le_of_eq g11.symm))
  have g_b11 : n0 ≤ b11 := Nat.le_trans Z_ (Nat.le_of_eq g11.symm)
  have sz_b11 : h0.size ≤ b11 := Nat.le_trans Kp.1 (Nat.le_of_eq g11.symm)
  have V := V.ext E11
  have E := E.ext E11
  have Kp := Kp.ext E11
  have Z_ : n0 ≤ h11.size := Nat.le_trans Z_ E11.1
  have E_b11 := A11
  have F_values_b11 : Fld Z h11 b11 "com/example/cofferhand/cofferhand/nbt/ByteArrayTag" "values" "[B" .null := D11 (Or.inr (hw _ (List.mem_of_getElem? (i := 24) rfl))) (ty := (.array .byte)) (by decide)
  refine OwnGo.st st11 ?_
  show OwnGo p e below s _ _ _ T11 (mkF m 3 #[.val (.ref a)] [(.ref b11)])
  refine OwnGo.st (fun _ k => XS.dup X11.here hx rfl (hb hby d1_3) rfl rfl k) ?_
  show OwnGo p e below s _ _ _ T11 (mkF m 4 #[.val (.ref a)] [(.ref b11), (.ref b11)])
  refine OwnGo.st (fun _ k => XS.aloadN X11.here hx rfl (hb hby d1_4) rfl rfl  k) ?_
  show OwnGo p e below s _ _ _ T11 (mkF m 5 #[.val (.ref a)] [(.ref a), (.ref b11), (.ref b11)])
  obtain ⟨T12, h12, X12, e12, E12, Vn12, Ex12, st12⟩ := cloneH X11 hx hZ hown (hw _ (List.mem_of_getElem? (i := 8) rfl)) (hw _ (List.mem_of_getElem? (i := 9) rfl)) (hw _ (List.mem_of_getElem? (i := 13) rfl)) (hw _ (List.mem_of_getElem? (i := 11) rfl)) (hw _ (List.mem_of_getElem? (i := 12) rfl)) (hw _ (List.mem_of_getElem? (i := 14) rfl)) e11 V.arh E (g := (mkF m 5 #[.val (.ref a)] [(.ref a), (.ref b11), (.ref b11)])) rfl (by rw [hml]; rfl) rfl (hb hby d1_5) (by decide) (W := 2) (by show 2 * 0 + _ ≤ _; exact Nat.le_of_eq rfl) (by decide) (cap := 2) (by decide) (by decide) (by decide)
  obtain ⟨b12, g12⟩ : ∃ z, z = h11.size := ⟨_, rfl⟩
  rw [← g12] at Vn12 Ex12 st12
  have ne_a_b12 : a ≠ b12 := Nat.ne_of_lt (Nat.lt_of_lt_of_le V.lt (Nat.le_of_eq g12.symm))
  have ne_b11_b12 : b11 ≠ b12 := Nat.ne_of_lt (Nat.lt_of_lt_of_le E_b11.lt (Nat.le_of_eq g12.symm))
  have g_b12 : n0 ≤ b12 := Nat.le_trans Z_ (Nat.le_of_eq g12.symm)
  have sz_b12 : h0.size ≤ b12 := Nat.le_trans Kp.1 (Nat.le_of_eq g12.symm)
  have V := V.ext E12
  have E := E.ext E12
  have E_b11 := E_b11.ext E12
  have F_values_b11 := F_values_b11.ext E12
  have Kp := Kp.ext E12
  have Z_ : n0 ≤ h12.size := Nat.le_trans Z_ E12.1
  have V_b12 : Arv Z h12 b12 kc .byte (2 : Int32) [(.int b0), (.int b1)] (.int (0 : Int32)) := Vn12
  have E_b12 := Ex12
  refine OwnGo.st st12 ?_
  show OwnGo p e below s _ _ _ T12 (mkF m 8 #[.val (.ref a)] [(.ref b12), (.ref b11), (.ref b11)])
  obtain ⟨T13, X13, e13, st13⟩ := castY X12 hx hZ hown (hw _ (List.mem_of_getElem? (i := 15) rfl)) e12 (Ins.self E_b12) (g := (mkF m 8 #[.val (.ref a)] [(.ref b12), (.ref b11), (.ref b11)])) rfl rfl (hb hby d1_8)
  refine OwnGo.st st13 ?_
  show OwnGo p e below s _ _ _ T13 (mkF m 11 #[.val (.ref a)] [(.ref b12), (.ref b11), (.ref b11)])
  obtain ⟨_, _, ⟨T14, L14, k14, n14⟩, -, X14, ⟨Lc14, hQ14, l14, y14, z14⟩, st14⟩ := X13.specialBack hx (y := (⟨"com/example/cofferhand/cofferhand/nbt/ByteArrayTag", "<init>", "([B)V"⟩ : MethodName)) rfl hown (mvT hZ (hw _ (List.mem_of_getElem? (i := 17) rfl))) (mvT hZ (hw _ (List.mem_of_getElem? (i := 18) rfl))) (mvT hZ (hw _ (List.mem_of_getElem? (i := 19) rfl))) (by decide) (backOf (W := 1) (rmini l Z a0 hw [] b11 b12 h12 n0 Z_ E_b11 F_values_b11 g_b11) hZ (hw _ (List.mem_of_getElem? (i := 19) rfl)) (hw _ (List.mem_of_getElem? (i := 4) rfl)) (by decide) (by decide)) (g := (mkF m 11 #[.val (.ref a)] [(.ref b12), (.ref b11), (.ref b11)])) rfl (by rw [hml]; rfl) (Steps.refl _) (a := b11) (argsL := [(.ref b12)]) (rest := [(.ref b11)]) (lenOf pd_0 rfl) rfl (by show 2 * 0 + _ ≤ _; exact Nat.le_of_eq rfl) (hb hby d1_11) (fun _ _ => ⟨rfl, e13, (by decide : 2 + 0 ≤ _), (by decide : 3 + 0 ≤ _)⟩)
  dsimp only [Pt.U, Pt.locs, Pt.cells, Pt.slots] at X14 l14 y14 z14 st14 hQ14
  subst l14 y14 z14
  obtain ⟨rfl, N14q, K14, E14, F14⟩ := hQ14
  have N14 := Fr.app N0 N14q
  have Z_ : n0 ≤ T14.heap.size := Nat.le_trans Z_ K14.1
  have V := V.keep K14 (ninS ne_a_b11 nin0)
  have E := E.keep K14
  have E_b11 := E_b11.keep K14
  have V_b12 := V_b12.keep K14 (ninS (Ne.symm ne_b11_b12) nin0)
  have E_b12 := E_b12.keep K14
  have Kp := Kp.trans K14 (allS (Or.inr sz_b11) all0)
  refine OwnGo.st (fun _ k => st14.trans k) ?_
  show OwnGo p e below s _ _ _ T14 (mkF m 14 #[.val (.ref a)] [(.ref b11)])
  exact OwnGo.ret X14 hx hret hlk rfl (Or.inr (Or.inr (Or.inr (Or.inr ⟨rfl, rfl, rfl⟩)))) (hb hby d1_14) (by show Qof2 Z a kc b0 b1 h0 n0 _ T14.heap _; exact ⟨b11, b12, rfl, N14, Kp, E14, F14, V_b12, sz_b11, sz_b12⟩) (by decide) (by decide)
def Qof3 (Z : State) (a : Addr) (kc : ClassId) (b0 : Int32) (b1 : Int32) (b2 : Int32) (h0 : Heap) (n0 : Nat) (v : Option Value) (h : Heap) (L : List Loc) : Prop := ∃ t c : Addr, v = some (.ref t) ∧ Fr n0 L ∧ Keep h0 h [] ∧ Exa Z h t "com/example/cofferhand/cofferhand/nbt/ByteArrayTag" ∧ Fld Z h t "com/example/cofferhand/cofferhand/nbt/ByteArrayTag" "values" "[B" (.ref c) ∧ Arv Z h c kc .byte (3 : Int32) [(.int b0), (.int b1), (.int b2)] (.int (0 : Int32)) ∧ h0.size ≤ t ∧ h0.size ≤ c
set_option maxRecDepth 65536 in
set_option maxHeartbeats 40000000 in
theorem rmof3 (l : Launch) (Z : State) (a0 : Array Value) (hw : ∀ d ∈ tables_1, d.before a0 Z = true) (ws : List Jvm.Cond) (a : Addr) (kc : ClassId) (b0 : Int32) (b1 : Int32) (b2 : Int32) (h0 : Heap) (n0 : Nat) (Z0 : n0 ≤ h0.size) (V : Arv Z h0 a kc .byte (3 : Int32) [(.int b0), (.int b1), (.int b2)] (.int (0 : Int32))) (E : Exa Z h0 a "[B") :
    MetFree l (⟨"com/example/cofferhand/cofferhand/nbt/ByteArrayTag", "of", "([B)Lcom/example/cofferhand/cofferhand/nbt/ByteArrayTag;"⟩ : MethodName) (head1 (Jvm.Cond.code (⟨"com/example/cofferhand/cofferhand/nbt/ByteArrayTag", "of", "([B)Lcom/example/cofferhand/cofferhand/nbt/ByteArrayTag;"⟩ : MethodName) prog_18_method_2_code 1 (some (.object "com/example/cofferhand/cofferhand/nbt/ByteArrayTag")) :: ws) ({ frames := 2, cells := 2, slots := 4, locals := 26 } : Room)) (fun as_ U => as_ = #[(.ref a)] ∧ Z.Warmed39 U.vm ∧ U.heap = h0) (fun _ _ _ _ _ => True) (fun _ U o U' => ∃ v L, o = .returned v ∧ (Qof3 Z a kc b0 b1 b2 h0 n0) v U'.heap L ∧ FrameEnd U o U' L ({ frames := 2, cells := 2, slots := 4, locals := 26 } : Room).cells ({ frames := 2, cells := 2, slots := 4, locals := 26 } : Room).slots) := by
  refine own_met (plainFor_of_name pn_2) ?_
  intro p e s m below meth c s₁ X0 hx hby hml hret hlk hown hnm hZ e0
  have N0 := Fr.nil n0
  have Z_ := Z0
  refine OwnGo.cast (ef_of3 m a) ?_
  show OwnGo p e below s _ _ _ s₁ (mkF m 0 #[.val (.ref a)] [])
  have Kp : Keep h0 h0 [] := Keep.refl h0 []
  obtain ⟨T15, h15, X15, e15, E15, A15, D15, -, st15⟩ := newO X0 hx hZ hown (hw _ (List.mem_of_getElem? (i := 6) rfl)) (hw _ (List.mem_of_getElem? (i := 7) rfl)) (hw _ (List.mem_of_getElem? (i := 4) rfl)) e0 (g := (mkF m 0 #[.val (.ref a)] [])) rfl (hb hby d1_0) (by decide) (by decide)
  obtain ⟨b15, g15⟩ : ∃ z, z = h0.size := ⟨_, rfl⟩
  rw [← g15] at A15 D15 st15
  have ne_a_b15 : a ≠ b15 := Nat.ne_of_lt (Nat.lt_of_lt_of_le V.lt (Nat.le_of_eq g15.symm))
  have g_b15 : n0 ≤ b15 := Nat.le_trans Z_ (Nat.le_of_eq g15.symm)
  have sz_b15 : h0.size ≤ b15 := Nat.le_trans Kp.1 (Nat.le_of_eq g15.symm)
  have V := V.ext E15
  have E := E.ext E15
  have Kp := Kp.ext E15
  have Z_ : n0 ≤ h15.size := Nat.le_trans Z_ E15.1
  have E_b15 := A15
  have F_values_b15 : Fld Z h15 b15 "com/example/cofferhand/cofferhand/nbt/ByteArrayTag" "values" "[B" .null := D15 (Or.inr (hw _ (List.mem_of_getElem? (i := 24) rfl))) (ty := (.array .byte)) (by decide)
  refine OwnGo.st st15 ?_
  show OwnGo p e below s _ _ _ T15 (mkF m 3 #[.val (.ref a)] [(.ref b15)])
  refine OwnGo.st (fun _ k => XS.dup X15.here hx rfl (hb hby d1_3) rfl rfl k) ?_
  show OwnGo p e below s _ _ _ T15 (mkF m 4 #[.val (.ref a)] [(.ref b15), (.ref b15)])
  refine OwnGo.st (fun _ k => XS.aloadN X15.here hx rfl (hb hby d1_4) rfl rfl  k) ?_
  show OwnGo p e below s _ _ _ T15 (mkF m 5 #[.val (.ref a)] [(.ref a), (.ref b15), (.ref b15)])
  obtain ⟨T16, h16, X16, e16, E16, Vn16, Ex16, st16⟩ := cloneH X15 hx hZ hown (hw _ (List.mem_of_getElem? (i := 8) rfl)) (hw _ (List.mem_of_getElem? (i := 9) rfl)) (hw _ (List.mem_of_getElem? (i := 13) rfl)) (hw _ (List.mem_of_getElem? (i := 11) rfl)) (hw _ (List.mem_of_getElem? (i := 12) rfl)) (hw _ (List.mem_of_getElem? (i := 14) rfl)) e15 V.arh E (g := (mkF m 5 #[.val (.ref a)] [(.ref a), (.ref b15), (.ref b15)])) rfl (by rw [hml]; rfl) rfl (hb hby d1_5) (by decide) (W := 2) (by show 2 * 0 + _ ≤ _; exact Nat.le_of_eq rfl) (by decide) (cap := 3) (by decide) (by decide) (by decide)
  obtain ⟨b16, g16⟩ : ∃ z, z = h15.size := ⟨_, rfl⟩
  rw [← g16] at Vn16 Ex16 st16
  have ne_a_b16 : a ≠ b16 := Nat.ne_of_lt (Nat.lt_of_lt_of_le V.lt (Nat.le_of_eq g16.symm))
  have ne_b15_b16 : b15 ≠ b16 := Nat.ne_of_lt (Nat.lt_of_lt_of_le E_b15.lt (Nat.le_of_eq g16.symm))
  have g_b16 : n0 ≤ b16 := Nat.le_trans Z_ (Nat.le_of_eq g16.symm)
  have sz_b16 : h0.size ≤ b16 := Nat.le_trans Kp.1 (Nat.le_of_eq g16.symm)
  have V := V.ext E16
  have E := E.ext E16
  have E_b15 := E_b15.ext E16
  have F_values_b15 := F_values_b15.ext E16
  have Kp := Kp.ext E16
  have Z_ : n0 ≤ h16.size := Nat.le_trans Z_ E16.1
  have V_b16 : Arv Z h16 b16 kc .byte (3 : Int32) [(.int b0), (.int b1), (.int b2)] (.int (0 : Int32)) := Vn16
  have E_b16 := Ex16
  refine OwnGo.st st16 ?_
  show OwnGo p e below s _ _ _ T16 (mkF m 8 #[.val (.ref a)] [(.ref b16), (.ref b15), (.ref b15)])
  obtain ⟨T17, X17, e17, st17⟩ := castY X16 hx hZ hown (hw _ (List.mem_of_getElem? (i := 15) rfl)) e16 (Ins.self E_b16) (g := (mkF m 8 #[.val (.ref a)] [(.ref b16), (.ref b15), (.ref b15)])) rfl rfl (hb hby d1_8)
  refine OwnGo.st st17 ?_
  show OwnGo p e below s _ _ _ T17 (mkF m 11 #[.val (.ref a)] [(.ref b16), (.ref b15), (.ref b15)])
  obtain ⟨_, _, ⟨T18, L18, k18, n18⟩, -, X18, ⟨Lc18, hQ18, l18, y18, z18⟩, st18⟩ := X17.specialBack hx (y := (⟨"com/example/cofferhand/cofferhand/nbt/ByteArrayTag", "<init>", "([B)V"⟩ : MethodName)) rfl hown (mvT hZ (hw _ (List.mem_of_getElem? (i := 17) rfl))) (mvT hZ (hw _ (List.mem_of_getElem? (i := 18) rfl))) (mvT hZ (hw _ (List.mem_of_getElem? (i := 19) rfl))) (by decide) (backOf (W := 1) (rmini l Z a0 hw [] b15 b16 h16 n0 Z_ E_b15 F_values_b15 g_b15) hZ (hw _ (List.mem_of_getElem? (i := 19) rfl)) (hw _ (List.mem_of_getElem? (i := 4) rfl)) (by decide) (by decide)) (g := (mkF m 11 #[.val (.ref a)] [(.ref b16), (.ref b15), (.ref b15)])) rfl (by rw [hml]; rfl) (Steps.refl _) (a := b15) (argsL := [(.ref b16)]) (rest := [(.ref b15)]) (lenOf pd_0 rfl) rfl (by show 2 * 0 + _ ≤ _; exact Nat.le_of_eq rfl) (hb hby d1_11) (fun _ _ => ⟨rfl, e17, (by decide : 2 + 0 ≤ _), (by decide : 4 + 0 ≤ _)⟩)
  dsimp only [Pt.U, Pt.locs, Pt.cells, Pt.slots] at X18 l18 y18 z18 st18 hQ18
  subst l18 y18 z18
  obtain ⟨rfl, N18q, K18, E18, F18⟩ := hQ18
  have N18 := Fr.app N0 N18q
  have Z_ : n0 ≤ T18.heap.size := Nat.le_trans Z_ K18.1
  have V := V.keep K18 (ninS ne_a_b15 nin0)
  have E := E.keep K18
  have E_b15 := E_b15.keep K18
  have V_b16 := V_b16.keep K18 (ninS (Ne.symm ne_b15_b16) nin0)
  have E_b16 := E_b16.keep K18
  have Kp := Kp.trans K18 (allS (Or.inr sz_b15) all0)
  refine OwnGo.st (fun _ k => st18.trans k) ?_
  show OwnGo p e below s _ _ _ T18 (mkF m 14 #[.val (.ref a)] [(.ref b15)])
  exact OwnGo.ret X18 hx hret hlk rfl (Or.inr (Or.inr (Or.inr (Or.inr ⟨rfl, rfl, rfl⟩)))) (hb hby d1_14) (by show Qof3 Z a kc b0 b1 b2 h0 n0 _ T18.heap _; exact ⟨b15, b16, rfl, N18, Kp, E18, F18, V_b16, sz_b15, sz_b16⟩) (by decide) (by decide)
def Qof4 (Z : State) (a : Addr) (kc : ClassId) (b0 : Int32) (b1 : Int32) (b2 : Int32) (b3 : Int32) (h0 : Heap) (n0 : Nat) (v : Option Value) (h : Heap) (L : List Loc) : Prop := ∃ t c : Addr, v = some (.ref t) ∧ Fr n0 L ∧ Keep h0 h [] ∧ Exa Z h t "com/example/cofferhand/cofferhand/nbt/ByteArrayTag" ∧ Fld Z h t "com/example/cofferhand/cofferhand/nbt/ByteArrayTag" "values" "[B" (.ref c) ∧ Arv Z h c kc .byte (4 : Int32) [(.int b0), (.int b1), (.int b2), (.int b3)] (.int (0 : Int32)) ∧ h0.size ≤ t ∧ h0.size ≤ c
set_option maxRecDepth 65536 in
set_option maxHeartbeats 40000000 in
theorem rmof4 (l : Launch) (Z : State) (a0 : Array Value) (hw : ∀ d ∈ tables_1, d.before a0 Z = true) (ws : List Jvm.Cond) (a : Addr) (kc : ClassId) (b0 : Int32) (b1 : Int32) (b2 : Int32) (b3 : Int32) (h0 : Heap) (n0 : Nat) (Z0 : n0 ≤ h0.size) (V : Arv Z h0 a kc .byte (4 : Int32) [(.int b0), (.int b1), (.int b2), (.int b3)] (.int (0 : Int32))) (E : Exa Z h0 a "[B") :
    MetFree l (⟨"com/example/cofferhand/cofferhand/nbt/ByteArrayTag", "of", "([B)Lcom/example/cofferhand/cofferhand/nbt/ByteArrayTag;"⟩ : MethodName) (head1 (Jvm.Cond.code (⟨"com/example/cofferhand/cofferhand/nbt/ByteArrayTag", "of", "([B)Lcom/example/cofferhand/cofferhand/nbt/ByteArrayTag;"⟩ : MethodName) prog_18_method_2_code 1 (some (.object "com/example/cofferhand/cofferhand/nbt/ByteArrayTag")) :: ws) ({ frames := 2, cells := 2, slots := 5, locals := 26 } : Room)) (fun as_ U => as_ = #[(.ref a)] ∧ Z.Warmed39 U.vm ∧ U.heap = h0) (fun _ _ _ _ _ => True) (fun _ U o U' => ∃ v L, o = .returned v ∧ (Qof4 Z a kc b0 b1 b2 b3 h0 n0) v U'.heap L ∧ FrameEnd U o U' L ({ frames := 2, cells := 2, slots := 5, locals := 26 } : Room).cells ({ frames := 2, cells := 2, slots := 5, locals := 26 } : Room).slots) := by
  refine own_met (plainFor_of_name pn_2) ?_
  intro p e s m below meth c s₁ X0 hx hby hml hret hlk hown hnm hZ e0
  have N0 := Fr.nil n0
  have Z_ := Z0
  refine OwnGo.cast (ef_of4 m a) ?_
  show OwnGo p e below s _ _ _ s₁ (mkF m 0 #[.val (.ref a)] [])
  have Kp : Keep h0 h0 [] := Keep.refl h0 []
  obtain ⟨T19, h19, X19, e19, E19, A19, D19, -, st19⟩ := newO X0 hx hZ hown (hw _ (List.mem_of_getElem? (i := 6) rfl)) (hw _ (List.mem_of_getElem? (i := 7) rfl)) (hw _ (List.mem_of_getElem? (i := 4) rfl)) e0 (g := (mkF m 0 #[.val (.ref a)] [])) rfl (hb hby d1_0) (by decide) (by decide)
  obtain ⟨b19, g19⟩ : ∃ z, z = h0.size := ⟨_, rfl⟩
  rw [← g19] at A19 D19 st19
  have ne_a_b19 : a ≠ b19 := Nat.ne_of_lt (Nat.lt_of_lt_of_le V.lt (Nat.le_of_eq g19.symm))
  have g_b19 : n0 ≤ b19 := Nat.le_trans Z_ (Nat.le_of_eq g19.symm)
  have sz_b19 : h0.size ≤ b19 := Nat.le_trans Kp.1 (Nat.le_of_eq g19.symm)
  have V := V.ext E19
  have E := E.ext E19
  have Kp := Kp.ext E19
  have Z_ : n0 ≤ h19.size := Nat.le_trans Z_ E19.1
  have E_b19 := A19
  have F_values_b19 : Fld Z h19 b19 "com/example/cofferhand/cofferhand/nbt/ByteArrayTag" "values" "[B" .null := D19 (Or.inr (hw _ (List.mem_of_getElem? (i := 24) rfl))) (ty := (.array .byte)) (by decide)
  refine OwnGo.st st19 ?_
  show OwnGo p e below s _ _ _ T19 (mkF m 3 #[.val (.ref a)] [(.ref b19)])
  refine OwnGo.st (fun _ k => XS.dup X19.here hx rfl (hb hby d1_3) rfl rfl k) ?_
  show OwnGo p e below s _ _ _ T19 (mkF m 4 #[.val (.ref a)] [(.ref b19), (.ref b19)])
  refine OwnGo.st (fun _ k => XS.aloadN X19.here hx rfl (hb hby d1_4) rfl rfl  k) ?_
  show OwnGo p e below s _ _ _ T19 (mkF m 5 #[.val (.ref a)] [(.ref a), (.ref b19), (.ref b19)])
  obtain ⟨T20, h20, X20, e20, E20, Vn20, Ex20, st20⟩ := cloneH X19 hx hZ hown (hw _ (List.mem_of_getElem? (i := 8) rfl)) (hw _ (List.mem_of_getElem? (i := 9) rfl)) (hw _ (List.mem_of_getElem? (i := 13) rfl)) (hw _ (List.mem_of_getElem? (i := 11) rfl)) (hw _ (List.mem_of_getElem? (i := 12) rfl)) (hw _ (List.mem_of_getElem? (i := 14) rfl)) e19 V.arh E (g := (mkF m 5 #[.val (.ref a)] [(.ref a), (.ref b19), (.ref b19)])) rfl (by rw [hml]; rfl) rfl (hb hby d1_5) (by decide) (W := 2) (by show 2 * 0 + _ ≤ _; exact Nat.le_of_eq rfl) (by decide) (cap := 4) (by decide) (by decide) (by decide)
  obtain ⟨b20, g20⟩ : ∃ z, z = h19.size := ⟨_, rfl⟩
  rw [← g20] at Vn20 Ex20 st20
  have ne_a_b20 : a ≠ b20 := Nat.ne_of_lt (Nat.lt_of_lt_of_le V.lt (Nat.le_of_eq g20.symm))
  have ne_b19_b20 : b19 ≠ b20 := Nat.ne_of_lt (Nat.lt_of_lt_of_le E_b19.lt (Nat.le_of_eq g20.symm))
  have g_b20 : n0 ≤ b20 := Nat.le_trans Z_ (Nat.le_of_eq g20.symm)
  have sz_b20 : h0.size ≤ b20 := Nat.le_trans Kp.1 (Nat.le_of_eq g20.symm)
  have V := V.ext E20
  have E := E.ext E20
  have E_b19 := E_b19.ext E20
  have F_values_b19 := F_values_b19.ext E20
  have Kp := Kp.ext E20
  have Z_ : n0 ≤ h20.size := Nat.le_trans Z_ E20.1
  have V_b20 : Arv Z h20 b20 kc .byte (4 : Int32) [(.int b0), (.int b1), (.int b2), (.int b3)] (.int (0 : Int32)) := Vn20
  have E_b20 := Ex20
  refine OwnGo.st st20 ?_
  show OwnGo p e below s _ _ _ T20 (mkF m 8 #[.val (.ref a)] [(.ref b20), (.ref b19), (.ref b19)])
  obtain ⟨T21, X21, e21, st21⟩ := castY X20 hx hZ hown (hw _ (List.mem_of_getElem? (i := 15) rfl)) e20 (Ins.self E_b20) (g := (mkF m 8 #[.val (.ref a)] [(.ref b20), (.ref b19), (.ref b19)])) rfl rfl (hb hby d1_8)
  refine OwnGo.st st21 ?_
  show OwnGo p e below s _ _ _ T21 (mkF m 11 #[.val (.ref a)] [(.ref b20), (.ref b19), (.ref b19)])
  obtain ⟨_, _, ⟨T22, L22, k22, n22⟩, -, X22, ⟨Lc22, hQ22, l22, y22, z22⟩, st22⟩ := X21.specialBack hx (y := (⟨"com/example/cofferhand/cofferhand/nbt/ByteArrayTag", "<init>", "([B)V"⟩ : MethodName)) rfl hown (mvT hZ (hw _ (List.mem_of_getElem? (i := 17) rfl))) (mvT hZ (hw _ (List.mem_of_getElem? (i := 18) rfl))) (mvT hZ (hw _ (List.mem_of_getElem? (i := 19) rfl))) (by decide) (backOf (W := 1) (rmini l Z a0 hw [] b19 b20 h20 n0 Z_ E_b19 F_values_b19 g_b19) hZ (hw _ (List.mem_of_getElem? (i := 19) rfl)) (hw _ (List.mem_of_getElem? (i := 4) rfl)) (by decide) (by decide)) (g := (mkF m 11 #[.val (.ref a)] [(.ref b20), (.ref b19), (.ref b19)])) rfl (by rw [hml]; rfl) (Steps.refl _) (a := b19) (argsL := [(.ref b20)]) (rest := [(.ref b19)]) (lenOf pd_0 rfl) rfl (by show 2 * 0 + _ ≤ _; exact Nat.le_of_eq rfl) (hb hby d1_11) (fun _ _ => ⟨rfl, e21, (by decide : 2 + 0 ≤ _), (by decide : 5 + 0 ≤ _)⟩)
  dsimp only [Pt.U, Pt.locs, Pt.cells, Pt.slots] at X22 l22 y22 z22 st22 hQ22
  subst l22 y22 z22
  obtain ⟨rfl, N22q, K22, E22, F22⟩ := hQ22
  have N22 := Fr.app N0 N22q
  have Z_ : n0 ≤ T22.heap.size := Nat.le_trans Z_ K22.1
  have V := V.keep K22 (ninS ne_a_b19 nin0)
  have E := E.keep K22
  have E_b19 := E_b19.keep K22
  have V_b20 := V_b20.keep K22 (ninS (Ne.symm ne_b19_b20) nin0)
  have E_b20 := E_b20.keep K22
  have Kp := Kp.trans K22 (allS (Or.inr sz_b19) all0)
  refine OwnGo.st (fun _ k => st22.trans k) ?_
  show OwnGo p e below s _ _ _ T22 (mkF m 14 #[.val (.ref a)] [(.ref b19)])
  exact OwnGo.ret X22 hx hret hlk rfl (Or.inr (Or.inr (Or.inr (Or.inr ⟨rfl, rfl, rfl⟩)))) (hb hby d1_14) (by show Qof4 Z a kc b0 b1 b2 b3 h0 n0 _ T22.heap _; exact ⟨b19, b20, rfl, N22, Kp, E22, F22, V_b20, sz_b19, sz_b20⟩) (by decide) (by decide)
def Qlen (Z : State) (a : Addr) (c_ : Addr) (kc : ClassId) (z : Int32) (vs : List Value) (h0 : Heap) (n0 : Nat) (v : Option Value) (h : Heap) (L : List Loc) : Prop := v = some (.int z) ∧ Fr n0 L ∧ h = h0
set_option maxRecDepth 65536 in
set_option maxHeartbeats 40000000 in
theorem rmlen (l : Launch) (Z : State) (a0 : Array Value) (hw : ∀ d ∈ tables_1, d.before a0 Z = true) (ws : List Jvm.Cond) (a : Addr) (c_ : Addr) (kc : ClassId) (z : Int32) (vs : List Value) (h0 : Heap) (n0 : Nat) (Z0 : n0 ≤ h0.size) (F : Fld Z h0 a "com/example/cofferhand/cofferhand/nbt/ByteArrayTag" "values" "[B" (.ref c_)) (V : Arv Z h0 c_ kc .byte z vs (.int (0 : Int32))) :
    MetFree l (⟨"com/example/cofferhand/cofferhand/nbt/ByteArrayTag", "length", "()I"⟩ : MethodName) (head1 (Jvm.Cond.code (⟨"com/example/cofferhand/cofferhand/nbt/ByteArrayTag", "length", "()I"⟩ : MethodName) prog_18_method_5_code 1 (some .int) :: ws) ({ frames := 0, cells := 0, slots := 0, locals := 0 } : Room)) (fun as_ U => as_ = #[(.ref a)] ∧ Z.Warmed39 U.vm ∧ U.heap = h0) (fun _ _ _ _ _ => True) (fun _ U o U' => ∃ v L, o = .returned v ∧ (Qlen Z a c_ kc z vs h0 n0) v U'.heap L ∧ FrameEnd U o U' L ({ frames := 0, cells := 0, slots := 0, locals := 0 } : Room).cells ({ frames := 0, cells := 0, slots := 0, locals := 0 } : Room).slots) := by
  refine own_met (plainFor_of_name pn_2) ?_
  intro p e s m below meth c s₁ X0 hx hby hml hret hlk hown hnm hZ e0
  have N0 := Fr.nil n0
  have Z_ := Z0
  refine OwnGo.cast (ef_len m a) ?_
  show OwnGo p e below s _ _ _ s₁ (mkF m 0 #[.val (.ref a)] [])
  refine OwnGo.st (fun _ k => XS.aloadN X0.here hx rfl (hb hby d4_0) rfl rfl  k) ?_
  show OwnGo p e below s _ _ _ s₁ (mkF m 1 #[.val (.ref a)] [(.ref a)])
  obtain ⟨T23, X23, e23, st23⟩ := getF X0 hx hZ hown (host := "") (Or.inl (hw _ (List.mem_of_getElem? (i := 23) rfl))) Via.refl e0 F (g := (mkF m 1 #[.val (.ref a)] [(.ref a)])) rfl rfl (hb hby d4_1)
  refine OwnGo.st st23 ?_
  show OwnGo p e below s _ _ _ T23 (mkF m 4 #[.val (.ref a)] [(.ref c_)])
  obtain ⟨cl24, Ar24, -, S24, N24, -, -⟩ := id V
  refine OwnGo.st (fun _ k => own_len hZ (len_of S24 N24) Ar24 X23 e23 hx (g := (mkF m 4 #[.val (.ref a)] [(.ref c_)])) rfl rfl (hb hby d4_4) _ k) ?_
  show OwnGo p e below s _ _ _ T23 (mkF m 5 #[.val (.ref a)] [(.int z)])
  exact OwnGo.ret X23 hx hret hlk rfl (Or.inl ⟨rfl, Or.inl rfl, _, rfl⟩) (hb hby d4_5) (by show Qlen Z a c_ kc z vs h0 n0 _ T23.heap _; rw [e23]; exact ⟨rfl, N0, rfl⟩) (by decide) (by decide)
def Qget (Z : State) (a : Addr) (c_ : Addr) (kc : ClassId) (z : Int32) (vs : List Value) (i : Int32) (bi : Int32) (h0 : Heap) (n0 : Nat) (v : Option Value) (h : Heap) (L : List Loc) : Prop := v = some (.int bi) ∧ Fr n0 L ∧ h = h0
set_option maxRecDepth 65536 in
set_option maxHeartbeats 40000000 in
theorem rmget (l : Launch) (Z : State) (a0 : Array Value) (hw : ∀ d ∈ tables_1, d.before a0 Z = true) (ws : List Jvm.Cond) (a : Addr) (c_ : Addr) (kc : ClassId) (z : Int32) (vs : List Value) (i : Int32) (bi : Int32) (h0 : Heap) (n0 : Nat) (Z0 : n0 ≤ h0.size) (F : Fld Z h0 a "com/example/cofferhand/cofferhand/nbt/ByteArrayTag" "values" "[B" (.ref c_)) (V : Arv Z h0 c_ kc .byte z vs (.int (0 : Int32))) (hin : ¬ i < 0 ∧ i < z) (hat : vs.getD i.toNatClampNeg (.int (0 : Int32)) = .int bi) (hnb : nar .byte bi = bi) :
    MetFree l (⟨"com/example/cofferhand/cofferhand/nbt/ByteArrayTag", "get", "(I)B"⟩ : MethodName) (head1 (Jvm.Cond.code (⟨"com/example/cofferhand/cofferhand/nbt/ByteArrayTag", "get", "(I)B"⟩ : MethodName) prog_18_method_6_code 2 (some .byte) :: ws) ({ frames := 0, cells := 0, slots := 0, locals := 0 } : Room)) (fun as_ U => as_ = #[(.ref a), (.int i)] ∧ Z.Warmed39 U.vm ∧ U.heap = h0) (fun _ _ _ _ _ => True) (fun _ U o U' => ∃ v L, o = .returned v ∧ (Qget Z a c_ kc z vs i bi h0 n0) v U'.heap L ∧ FrameEnd U o U' L ({ frames := 0, cells := 0, slots := 0, locals := 0 } : Room).cells ({ frames := 0, cells := 0, slots := 0, locals := 0 } : Room).slots) := by
  refine own_met (plainFor_of_name pn_2) ?_
  intro p e s m below meth c s₁ X0 hx hby hml hret hlk hown hnm hZ e0
  have N0 := Fr.nil n0
  have Z_ := Z0
  refine OwnGo.cast (ef_get m a i) ?_
  show OwnGo p e below s _ _ _ s₁ (mkF m 0 #[.val (.ref a), .val (.int i)] [])
  refine OwnGo.st (fun _ k => XS.aloadN X0.here hx rfl (hb hby d6_0) rfl rfl  k) ?_
  show OwnGo p e below s _ _ _ s₁ (mkF m 1 #[.val (.ref a), .val (.int i)] [(.ref a)])
  obtain ⟨T25, X25, e25, st25⟩ := getF X0 hx hZ hown (host := "") (Or.inl (hw _ (List.mem_of_getElem? (i := 23) rfl))) Via.refl e0 F (g := (mkF m 1 #[.val (.ref a), .val (.int i)] [(.ref a)])) rfl rfl (hb hby d6_1)
  refine OwnGo.st st25 ?_
  show OwnGo p e below s _ _ _ T25 (mkF m 4 #[.val (.ref a), .val (.int i)] [(.ref c_)])
  refine OwnGo.st (fun _ k => XS.iloadN X25.here hx rfl (hb hby d6_4) rfl  k) ?_
  show OwnGo p e below s _ _ _ T25 (mkF m 5 #[.val (.ref a), .val (.int i)] [(.int i), (.ref c_)])
  obtain ⟨cl26, Ar26, -, S26, -, H26, -⟩ := id V
  have hin26 : ¬ (i < 0 ∨ cl26.slots.size ≤ (i).toNatClampNeg) := inb_of S26 hin
  refine OwnGo.st (fun _ k => X25.baloadBytes hx (j := i) (v := (.int bi)) (by rw [e25]; exact Ar26.1) (State.isArrayOf_alike hZ.alike Ar26.2.1) Ar26.2.2 hin26 (H26.at hin26 hat) (g := (mkF m 5 #[.val (.ref a), .val (.int i)] [(.int i), (.ref c_)])) rfl rfl (hb hby d6_5) _ k) ?_
  show OwnGo p e below s _ _ _ T25 (mkF m 6 #[.val (.ref a), .val (.int i)] [(.int bi)])
  exact OwnGo.retN X25 hx (t := .byte) hret hlk (by simp) (hb hby d6_6) (by show Qget Z a c_ kc z vs i bi h0 n0 _ T25.heap _; rw [e25]; exact ⟨by rw [hnb], N0, rfl⟩) (by decide) (by decide)
def Qtyp (Z : State) (a : Addr) (u_TagType_BYTE_ARRAY : Addr) (h0 : Heap) (n0 : Nat) (v : Option Value) (h : Heap) (L : List Loc) : Prop := v = some (.ref u_TagType_BYTE_ARRAY) ∧ Fr n0 L ∧ h = h0
set_option maxRecDepth 65536 in
set_option maxHeartbeats 40000000 in
theorem rmtyp (l : Launch) (Z : State) (a0 : Array Value) (hw : ∀ d ∈ tables_1, d.before a0 Z = true) (ws : List Jvm.Cond) (a : Addr) (u_TagType_BYTE_ARRAY : Addr) (h0 : Heap) (n0 : Nat) (Z0 : n0 ≤ h0.size) (O_ : Old Z n0 h0) (S_u_TagType_BYTE_ARRAY : Sta Z Z.heap "com/example/cofferhand/cofferhand/nbt/TagType" "BYTE_ARRAY" "Lcom/example/cofferhand/cofferhand/nbt/TagType;" (.ref u_TagType_BYTE_ARRAY)) (E_u_TagType_BYTE_ARRAY : Exa Z Z.heap u_TagType_BYTE_ARRAY "com/example/cofferhand/cofferhand/nbt/TagType") :
    MetFree l (⟨"com/example/cofferhand/cofferhand/nbt/ByteArrayTag", "type", "()Lcom/example/cofferhand/cofferhand/nbt/TagType;"⟩ : MethodName) (head1 (Jvm.Cond.code (⟨"com/example/cofferhand/cofferhand/nbt/ByteArrayTag", "type", "()Lcom/example/cofferhand/cofferhand/nbt/TagType;"⟩ : MethodName) prog_18_method_4_code 1 (some (.object "com/example/cofferhand/cofferhand/nbt/TagType")) :: ws) ({ frames := 0, cells := 0, slots := 0, locals := 0 } : Room)) (fun as_ U => as_ = #[(.ref a)] ∧ Z.Warmed39 U.vm ∧ U.heap = h0) (fun _ _ _ _ _ => True) (fun _ U o U' => ∃ v L, o = .returned v ∧ (Qtyp Z a u_TagType_BYTE_ARRAY h0 n0) v U'.heap L ∧ FrameEnd U o U' L ({ frames := 0, cells := 0, slots := 0, locals := 0 } : Room).cells ({ frames := 0, cells := 0, slots := 0, locals := 0 } : Room).slots) := by
  refine own_met (plainFor_of_name pn_2) ?_
  intro p e s m below meth c s₁ X0 hx hby hml hret hlk hown hnm hZ e0
  have N0 := Fr.nil n0
  have Z_ := Z0
  refine OwnGo.cast (ef_typ m a) ?_
  show OwnGo p e below s _ _ _ s₁ (mkF m 0 #[.val (.ref a)] [])
  obtain ⟨T27, X27, e27, st27⟩ := getS2 X0 hx hZ hown (host := "") (Or.inl (hw _ (List.mem_of_getElem? (i := 35) rfl))) Via.refl e0 (S_u_TagType_BYTE_ARRAY.ext O_.2) (g := (mkF m 0 #[.val (.ref a)] [])) rfl (hb hby d5_0)
  refine OwnGo.st st27 ?_
  show OwnGo p e below s _ _ _ T27 (mkF m 3 #[.val (.ref a)] [(.ref u_TagType_BYTE_ARRAY)])
  exact OwnGo.ret X27 hx hret hlk rfl (Or.inr (Or.inr (Or.inr (Or.inr ⟨rfl, rfl, rfl⟩)))) (hb hby d5_3) (by show Qtyp Z a u_TagType_BYTE_ARRAY h0 n0 _ T27.heap _; rw [e27]; exact ⟨rfl, N0, rfl⟩) (by decide) (by decide)
def Q0 (Z : State) (p1 : Int32) (p2 : Int32) (p3 : Int32) (p4 : Int32) (p5 : Int32) (u_TagType_BYTE_ARRAY : Addr) (h0 : Heap) (n0 : Nat) (v : Option Value) (h : Heap) (L : List Loc) : Prop := v = some (.int (1 : Int32)) ∧ Fr n0 L
set_option maxRecDepth 65536 in
set_option maxHeartbeats 40000000 in
theorem rm0 (l : Launch) (Z : State) (a0 : Array Value) (hw : ∀ d ∈ tables_1, d.before a0 Z = true) (ws : List Jvm.Cond) (p1 : Int32) (p2 : Int32) (p3 : Int32) (p4 : Int32) (p5 : Int32) (u_TagType_BYTE_ARRAY : Addr) (h0 : Heap) (n0 : Nat) (Z0 : n0 ≤ h0.size) (O_ : Old Z n0 h0) (S_u_TagType_BYTE_ARRAY : Sta Z Z.heap "com/example/cofferhand/cofferhand/nbt/TagType" "BYTE_ARRAY" "Lcom/example/cofferhand/cofferhand/nbt/TagType;" (.ref u_TagType_BYTE_ARRAY)) (E_u_TagType_BYTE_ARRAY : Exa Z Z.heap u_TagType_BYTE_ARRAY "com/example/cofferhand/cofferhand/nbt/TagType") :
    MetFree l x (head1 (Jvm.Cond.code x code maxLocals ret :: ws) room_1) (fun as_ U => as_ = #[(.int p1), (.int p2), (.int p3), (.int p4), (.int p5)] ∧ Z.Warmed39 U.vm ∧ U.heap = h0) (fun _ _ _ _ _ => True) (fun _ U o U' => ∃ v L, o = .returned v ∧ (Q0 Z p1 p2 p3 p4 p5 u_TagType_BYTE_ARRAY h0 n0) v U'.heap L ∧ FrameEnd U o U' L room_1.cells room_1.slots) := by
  refine own_met (plainFor_of_name pn_0) ?_
  intro p e s m below meth c s₁ X0 hx hby hml hret hlk hown hnm hZ e0
  have N0 := Fr.nil n0
  have Z_ := Z0
  refine OwnGo.cast (ef_0 m p1 p2 p3 p4 p5) ?_
  have hml : c.maxLocals = 13 := hml
  show OwnGo p e below s _ _ _ s₁ (mkF m 0 #[.val (.int p1), .val (.int p2), .val (.int p3), .val (.int p4), .val (.int p5), .unset, .unset, .unset, .unset, .unset, .unset, .unset, .unset] [])
  refine OwnGo.st (fun _ k => XS.iloadN X0.here hx rfl (hb hby at_0) rfl  k) ?_
  show OwnGo p e below s _ _ _ s₁ (mkF m 1 #[.val (.int p1), .val (.int p2), .val (.int p3), .val (.int p4), .val (.int p5), .unset, .unset, .unset, .unset, .unset, .unset, .unset, .unset] [(.int p1)])
  refine OwnGo.st (fun _ k => X0.ldcInt hx hown (mvT hZ (hw _ (List.mem_of_getElem? (i := 0) rfl))) (g := (mkF m 1 #[.val (.int p1), .val (.int p2), .val (.int p3), .val (.int p4), .val (.int p5), .unset, .unset, .unset, .unset, .unset, .unset, .unset, .unset] [(.int p1)])) rfl (hb hby at_1) _ k) ?_
  show OwnGo p e below s _ _ _ s₁ (mkF m 3 #[.val (.int p1), .val (.int p2), .val (.int p3), .val (.int p4), .val (.int p5), .unset, .unset, .unset, .unset, .unset, .unset, .unset, .unset] [(.int (2147483647 : Int32)), (.int p1)])
  refine OwnGo.st (fun _ k => XS.iand X0.here hx rfl (hb hby at_3) rfl k) ?_
  show OwnGo p e below s _ _ _ s₁ (mkF m 4 #[.val (.int p1), .val (.int p2), .val (.int p3), .val (.int p4), .val (.int p5), .unset, .unset, .unset, .unset, .unset, .unset, .unset, .unset] [(.int (p1 &&& (2147483647 : Int32)))])
  refine OwnGo.st (fun _ k => XS.iconst X0.here hx rfl (hb hby at_4) k) ?_
  show OwnGo p e below s _ _ _ s₁ (mkF m 5 #[.val (.int p1), .val (.int p2), .val (.int p3), .val (.int p4), .val (.int p5), .unset, .unset, .unset, .unset, .unset, .unset, .unset, .unset] [(.int (5 : Int32)), (.int (p1 &&& (2147483647 : Int32)))])
  refine OwnGo.st (fun _ k => iremM (g := (mkF m 5 #[.val (.int p1), .val (.int p2), .val (.int p3), .val (.int p4), .val (.int p5), .unset, .unset, .unset, .unset, .unset, .unset, .unset, .unset] [(.int (5 : Int32)), (.int (p1 &&& (2147483647 : Int32)))])) X0 hx rfl (hb hby at_5) rfl (by decide) k) ?_
  show OwnGo p e below s _ _ _ s₁ (mkF m 6 #[.val (.int p1), .val (.int p2), .val (.int p3), .val (.int p4), .val (.int p5), .unset, .unset, .unset, .unset, .unset, .unset, .unset, .unset] [(.int ((p1 &&& (2147483647 : Int32)) % (5 : Int32)))])
  obtain ⟨nn, hnn⟩ : ∃ z : Int32, z = ((p1 &&& (2147483647 : Int32)) % (5 : Int32)) := ⟨_, rfl⟩
  rw [← hnn]
  show OwnGo p e below s _ _ _ s₁ (mkF m 6 #[.val (.int p1), .val (.int p2), .val (.int p3), .val (.int p4), .val (.int p5), .unset, .unset, .unset, .unset, .unset, .unset, .unset, .unset] [(.int nn)])
  refine OwnGo.st (fun _ k => XS.istore X0.here hx rfl (hb hby at_6) rfl (l' := #[.val (.int p1), .val (.int p2), .val (.int p3), .val (.int p4), .val (.int p5), .val (.int nn), .unset, .unset, .unset, .unset, .unset, .unset, .unset]) rfl k) ?_
  show OwnGo p e below s _ _ _ s₁ (mkF m 8 #[.val (.int p1), .val (.int p2), .val (.int p3), .val (.int p4), .val (.int p5), .val (.int nn), .unset, .unset, .unset, .unset, .unset, .unset, .unset] [])
  refine OwnGo.st (fun _ k => XS.iloadN X0.here hx rfl (hb hby at_8) rfl  k) ?_
  show OwnGo p e below s _ _ _ s₁ (mkF m 9 #[.val (.int p1), .val (.int p2), .val (.int p3), .val (.int p4), .val (.int p5), .val (.int nn), .unset, .unset, .unset, .unset, .unset, .unset, .unset] [(.int p2)])
  refine OwnGo.st (fun _ k => XS.i2b X0.here hx rfl (hb hby at_9) rfl k) ?_
  show OwnGo p e below s _ _ _ s₁ (mkF m 10 #[.val (.int p1), .val (.int p2), .val (.int p3), .val (.int p4), .val (.int p5), .val (.int nn), .unset, .unset, .unset, .unset, .unset, .unset, .unset] [(.int (p2.toInt8.toInt32))])
  obtain ⟨y0, hy0⟩ : ∃ z : Int32, z = (p2.toInt8.toInt32) := ⟨_, rfl⟩
  rw [← hy0]
  show OwnGo p e below s _ _ _ s₁ (mkF m 10 #[.val (.int p1), .val (.int p2), .val (.int p3), .val (.int p4), .val (.int p5), .val (.int nn), .unset, .unset, .unset, .unset, .unset, .unset, .unset] [(.int y0)])
  refine OwnGo.st (fun _ k => XS.istore X0.here hx rfl (hb hby at_10) rfl (l' := #[.val (.int p1), .val (.int p2), .val (.int p3), .val (.int p4), .val (.int p5), .val (.int nn), .val (.int y0), .unset, .unset, .unset, .unset, .unset, .unset]) rfl k) ?_
  show OwnGo p e below s _ _ _ s₁ (mkF m 12 #[.val (.int p1), .val (.int p2), .val (.int p3), .val (.int p4), .val (.int p5), .val (.int nn), .val (.int y0), .unset, .unset, .unset, .unset, .unset, .unset] [])
  refine OwnGo.st (fun _ k => XS.iloadN X0.here hx rfl (hb hby at_12) rfl  k) ?_
  show OwnGo p e below s _ _ _ s₁ (mkF m 13 #[.val (.int p1), .val (.int p2), .val (.int p3), .val (.int p4), .val (.int p5), .val (.int nn), .val (.int y0), .unset, .unset, .unset, .unset, .unset, .unset] [(.int p3)])
  refine OwnGo.st (fun _ k => XS.i2b X0.here hx rfl (hb hby at_13) rfl k) ?_
  show OwnGo p e below s _ _ _ s₁ (mkF m 14 #[.val (.int p1), .val (.int p2), .val (.int p3), .val (.int p4), .val (.int p5), .val (.int nn), .val (.int y0), .unset, .unset, .unset, .unset, .unset, .unset] [(.int (p3.toInt8.toInt32))])
  obtain ⟨y1, hy1⟩ : ∃ z : Int32, z = (p3.toInt8.toInt32) := ⟨_, rfl⟩
  rw [← hy1]
  show OwnGo p e below s _ _ _ s₁ (mkF m 14 #[.val (.int p1), .val (.int p2), .val (.int p3), .val (.int p4), .val (.int p5), .val (.int nn), .val (.int y0), .unset, .unset, .unset, .unset, .unset, .unset] [(.int y1)])
  refine OwnGo.st (fun _ k => XS.istore X0.here hx rfl (hb hby at_14) rfl (l' := #[.val (.int p1), .val (.int p2), .val (.int p3), .val (.int p4), .val (.int p5), .val (.int nn), .val (.int y0), .val (.int y1), .unset, .unset, .unset, .unset, .unset]) rfl k) ?_
  show OwnGo p e below s _ _ _ s₁ (mkF m 16 #[.val (.int p1), .val (.int p2), .val (.int p3), .val (.int p4), .val (.int p5), .val (.int nn), .val (.int y0), .val (.int y1), .unset, .unset, .unset, .unset, .unset] [])
  refine OwnGo.st (fun _ k => XS.iloadN X0.here hx rfl (hb hby at_16) rfl  k) ?_
  show OwnGo p e below s _ _ _ s₁ (mkF m 17 #[.val (.int p1), .val (.int p2), .val (.int p3), .val (.int p4), .val (.int p5), .val (.int nn), .val (.int y0), .val (.int y1), .unset, .unset, .unset, .unset, .unset] [(.int p4)])
  refine OwnGo.st (fun _ k => XS.i2b X0.here hx rfl (hb hby at_17) rfl k) ?_
  show OwnGo p e below s _ _ _ s₁ (mkF m 18 #[.val (.int p1), .val (.int p2), .val (.int p3), .val (.int p4), .val (.int p5), .val (.int nn), .val (.int y0), .val (.int y1), .unset, .unset, .unset, .unset, .unset] [(.int (p4.toInt8.toInt32))])
  obtain ⟨y2, hy2⟩ : ∃ z : Int32, z = (p4.toInt8.toInt32) := ⟨_, rfl⟩
  rw [← hy2]
  show OwnGo p e below s _ _ _ s₁ (mkF m 18 #[.val (.int p1), .val (.int p2), .val (.int p3), .val (.int p4), .val (.int p5), .val (.int nn), .val (.int y0), .val (.int y1), .unset, .unset, .unset, .unset, .unset] [(.int y2)])
  refine OwnGo.st (fun _ k => XS.istore X0.here hx rfl (hb hby at_18) rfl (l' := #[.val (.int p1), .val (.int p2), .val (.int p3), .val (.int p4), .val (.int p5), .val (.int nn), .val (.int y0), .val (.int y1), .val (.int y2), .unset, .unset, .unset, .unset]) rfl k) ?_
  show OwnGo p e below s _ _ _ s₁ (mkF m 20 #[.val (.int p1), .val (.int p2), .val (.int p3), .val (.int p4), .val (.int p5), .val (.int nn), .val (.int y0), .val (.int y1), .val (.int y2), .unset, .unset, .unset, .unset] [])
  refine OwnGo.st (fun _ k => XS.iload X0.here hx rfl (hb hby at_20) rfl  k) ?_
  show OwnGo p e below s _ _ _ s₁ (mkF m 22 #[.val (.int p1), .val (.int p2), .val (.int p3), .val (.int p4), .val (.int p5), .val (.int nn), .val (.int y0), .val (.int y1), .val (.int y2), .unset, .unset, .unset, .unset] [(.int p5)])
  refine OwnGo.st (fun _ k => XS.i2b X0.here hx rfl (hb hby at_22) rfl k) ?_
  show OwnGo p e below s _ _ _ s₁ (mkF m 23 #[.val (.int p1), .val (.int p2), .val (.int p3), .val (.int p4), .val (.int p5), .val (.int nn), .val (.int y0), .val (.int y1), .val (.int y2), .unset, .unset, .unset, .unset] [(.int (p5.toInt8.toInt32))])
  obtain ⟨y3, hy3⟩ : ∃ z : Int32, z = (p5.toInt8.toInt32) := ⟨_, rfl⟩
  rw [← hy3]
  show OwnGo p e below s _ _ _ s₁ (mkF m 23 #[.val (.int p1), .val (.int p2), .val (.int p3), .val (.int p4), .val (.int p5), .val (.int nn), .val (.int y0), .val (.int y1), .val (.int y2), .unset, .unset, .unset, .unset] [(.int y3)])
  refine OwnGo.st (fun _ k => XS.istore X0.here hx rfl (hb hby at_23) rfl (l' := #[.val (.int p1), .val (.int p2), .val (.int p3), .val (.int p4), .val (.int p5), .val (.int nn), .val (.int y0), .val (.int y1), .val (.int y2), .val (.int y3), .unset, .unset, .unset]) rfl k) ?_
  show OwnGo p e below s _ _ _ s₁ (mkF m 25 #[.val (.int p1), .val (.int p2), .val (.int p3), .val (.int p4), .val (.int p5), .val (.int nn), .val (.int y0), .val (.int y1), .val (.int y2), .val (.int y3), .unset, .unset, .unset] [])
  rcases own_m5 p1 _ hnn with rfl | rfl | rfl | rfl | rfl
  · show OwnGo p e below s _ _ _ s₁ (mkF m 25 #[.val (.int p1), .val (.int p2), .val (.int p3), .val (.int p4), .val (.int p5), .val (.int (0 : Int32)), .val (.int y0), .val (.int y1), .val (.int y2), .val (.int y3), .unset, .unset, .unset] [])
    refine OwnGo.st (fun _ k => XS.iload X0.here hx rfl (hb hby at_25) rfl  k) ?_
    show OwnGo p e below s _ _ _ s₁ (mkF m 27 #[.val (.int p1), .val (.int p2), .val (.int p3), .val (.int p4), .val (.int p5), .val (.int (0 : Int32)), .val (.int y0), .val (.int y1), .val (.int y2), .val (.int y3), .unset, .unset, .unset] [(.int (0 : Int32))])
    obtain ⟨T28, h28, k28, X28, e28, E28, A28, Ex28, st28⟩ := newPE X0 hx hZ (hw _ (List.mem_of_getElem? (i := 1) rfl)) e0 (g := (mkF m 27 #[.val (.int p1), .val (.int p2), .val (.int p3), .val (.int p4), .val (.int p5), .val (.int (0 : Int32)), .val (.int y0), .val (.int y1), .val (.int y2), .val (.int y3), .unset, .unset, .unset] [(.int (0 : Int32))])) rfl (hb hby at_27) rfl (by decide) (cap := 0) (by decide) (by decide) (by decide) (by decide) (ad := "[B") (by decide)
    obtain ⟨b28, g28⟩ : ∃ z, z = h0.size := ⟨_, rfl⟩
    rw [← g28] at A28 Ex28 st28
    have g_b28 : n0 ≤ b28 := Nat.le_trans Z_ (Nat.le_of_eq g28.symm)
    have O_ := O_.ext E28
    have Z_ : n0 ≤ h28.size := Nat.le_trans Z_ E28.1
    have V_b28 : Arv Z h28 b28 k28 .byte (0 : Int32) [] (.int (0 : Int32)) := (Arv.new A28 (by decide)).pad (pad_rep [] (.int (0 : Int32)) 0)
    have E_b28 := Ex28
    refine OwnGo.st st28 ?_
    show OwnGo p e below s _ _ _ T28 (mkF m 29 #[.val (.int p1), .val (.int p2), .val (.int p3), .val (.int p4), .val (.int p5), .val (.int (0 : Int32)), .val (.int y0), .val (.int y1), .val (.int y2), .val (.int y3), .unset, .unset, .unset] [(.ref b28)])
    refine OwnGo.st (fun _ k => XS.astore X28.here hx rfl (hb hby at_29) rfl rfl (l' := #[.val (.int p1), .val (.int p2), .val (.int p3), .val (.int p4), .val (.int p5), .val (.int (0 : Int32)), .val (.int y0), .val (.int y1), .val (.int y2), .val (.int y3), .val (.ref b28), .unset, .unset]) rfl k) ?_
    show OwnGo p e below s _ _ _ T28 (mkF m 31 #[.val (.int p1), .val (.int p2), .val (.int p3), .val (.int p4), .val (.int p5), .val (.int (0 : Int32)), .val (.int y0), .val (.int y1), .val (.int y2), .val (.int y3), .val (.ref b28), .unset, .unset] [])
    refine OwnGo.st (fun _ k => XS.iload X28.here hx rfl (hb hby at_31) rfl  k) ?_
    show OwnGo p e below s _ _ _ T28 (mkF m 33 #[.val (.int p1), .val (.int p2), .val (.int p3), .val (.int p4), .val (.int p5), .val (.int (0 : Int32)), .val (.int y0), .val (.int y1), .val (.int y2), .val (.int y3), .val (.ref b28), .unset, .unset] [(.int (0 : Int32))])
    refine OwnGo.st (fun _ k => XS.ifYes X28.here hx rfl (pc0 := 33) (pc' := 42) rfl (hb hby at_33) rfl ((if0 _ _).trans (flt ((by decide) : ¬ ((0 : Int32) < (0 : Int32)))).2.2.2) (by decide) (by decide) k) ?_
    show OwnGo p e below s _ _ _ T28 (mkF m 42 #[.val (.int p1), .val (.int p2), .val (.int p3), .val (.int p4), .val (.int p5), .val (.int (0 : Int32)), .val (.int y0), .val (.int y1), .val (.int y2), .val (.int y3), .val (.ref b28), .unset, .unset] [])
    refine OwnGo.st (fun _ k => XS.iload X28.here hx rfl (hb hby at_42) rfl  k) ?_
    show OwnGo p e below s _ _ _ T28 (mkF m 44 #[.val (.int p1), .val (.int p2), .val (.int p3), .val (.int p4), .val (.int p5), .val (.int (0 : Int32)), .val (.int y0), .val (.int y1), .val (.int y2), .val (.int y3), .val (.ref b28), .unset, .unset] [(.int (0 : Int32))])
    refine OwnGo.st (fun _ k => XS.iconst X28.here hx rfl (hb hby at_44) k) ?_
    show OwnGo p e below s _ _ _ T28 (mkF m 45 #[.val (.int p1), .val (.int p2), .val (.int p3), .val (.int p4), .val (.int p5), .val (.int (0 : Int32)), .val (.int y0), .val (.int y1), .val (.int y2), .val (.int y3), .val (.ref b28), .unset, .unset] [(.int (1 : Int32)), (.int (0 : Int32))])
    refine OwnGo.st (fun _ k => XS.icmpYes X28.here hx rfl (pc0 := 45) (pc' := 54) rfl (hb hby at_45) rfl (flt ((by decide) : ¬ ((1 : Int32) < (0 : Int32)))).2.2.2 (by decide) (by decide) k) ?_
    show OwnGo p e below s _ _ _ T28 (mkF m 54 #[.val (.int p1), .val (.int p2), .val (.int p3), .val (.int p4), .val (.int p5), .val (.int (0 : Int32)), .val (.int y0), .val (.int y1), .val (.int y2), .val (.int y3), .val (.ref b28), .unset, .unset] [])
    refine OwnGo.st (fun _ k => XS.iload X28.here hx rfl (hb hby at_54) rfl  k) ?_
    show OwnGo p e below s _ _ _ T28 (mkF m 56 #[.val (.int p1), .val (.int p2), .val (.int p3), .val (.int p4), .val (.int p5), .val (.int (0 : Int32)), .val (.int y0), .val (.int y1), .val (.int y2), .val (.int y3), .val (.ref b28), .unset, .unset] [(.int (0 : Int32))])
    refine OwnGo.st (fun _ k => XS.iconst X28.here hx rfl (hb hby at_56) k) ?_
    show OwnGo p e below s _ _ _ T28 (mkF m 57 #[.val (.int p1), .val (.int p2), .val (.int p3), .val (.int p4), .val (.int p5), .val (.int (0 : Int32)), .val (.int y0), .val (.int y1), .val (.int y2), .val (.int y3), .val (.ref b28), .unset, .unset] [(.int (2 : Int32)), (.int (0 : Int32))])
    refine OwnGo.st (fun _ k => XS.icmpYes X28.here hx rfl (pc0 := 57) (pc' := 66) rfl (hb hby at_57) rfl (flt ((by decide) : ¬ ((2 : Int32) < (0 : Int32)))).2.2.2 (by decide) (by decide) k) ?_
    show OwnGo p e below s _ _ _ T28 (mkF m 66 #[.val (.int p1), .val (.int p2), .val (.int p3), .val (.int p4), .val (.int p5), .val (.int (0 : Int32)), .val (.int y0), .val (.int y1), .val (.int y2), .val (.int y3), .val (.ref b28), .unset, .unset] [])
    refine OwnGo.st (fun _ k => XS.iload X28.here hx rfl (hb hby at_66) rfl  k) ?_
    show OwnGo p e below s _ _ _ T28 (mkF m 68 #[.val (.int p1), .val (.int p2), .val (.int p3), .val (.int p4), .val (.int p5), .val (.int (0 : Int32)), .val (.int y0), .val (.int y1), .val (.int y2), .val (.int y3), .val (.ref b28), .unset, .unset] [(.int (0 : Int32))])
    refine OwnGo.st (fun _ k => XS.iconst X28.here hx rfl (hb hby at_68) k) ?_
    show OwnGo p e below s _ _ _ T28 (mkF m 69 #[.val (.int p1), .val (.int p2), .val (.int p3), .val (.int p4), .val (.int p5), .val (.int (0 : Int32)), .val (.int y0), .val (.int y1), .val (.int y2), .val (.int y3), .val (.ref b28), .unset, .unset] [(.int (3 : Int32)), (.int (0 : Int32))])
    refine OwnGo.st (fun _ k => XS.icmpYes X28.here hx rfl (pc0 := 69) (pc' := 78) rfl (hb hby at_69) rfl (flt ((by decide) : ¬ ((3 : Int32) < (0 : Int32)))).2.2.2 (by decide) (by decide) k) ?_
    show OwnGo p e below s _ _ _ T28 (mkF m 78 #[.val (.int p1), .val (.int p2), .val (.int p3), .val (.int p4), .val (.int p5), .val (.int (0 : Int32)), .val (.int y0), .val (.int y1), .val (.int y2), .val (.int y3), .val (.ref b28), .unset, .unset] [])
    refine OwnGo.st (fun _ k => XS.aload X28.here hx rfl (hb hby at_78) rfl rfl  k) ?_
    show OwnGo p e below s _ _ _ T28 (mkF m 80 #[.val (.int p1), .val (.int p2), .val (.int p3), .val (.int p4), .val (.int p5), .val (.int (0 : Int32)), .val (.int y0), .val (.int y1), .val (.int y2), .val (.int y3), .val (.ref b28), .unset, .unset] [(.ref b28)])
    obtain ⟨_, _, ⟨T29, L29, k29, n29⟩, -, X29, ⟨Lc29, hQ29, l29, y29, z29⟩, st29⟩ := Jvm.LawKit.callS X28 hx (y := (⟨"com/example/cofferhand/cofferhand/nbt/ByteArrayTag", "of", "([B)Lcom/example/cofferhand/cofferhand/nbt/ByteArrayTag;"⟩ : MethodName)) hown (mvT hZ (hw _ (List.mem_of_getElem? (i := 2) rfl))) (mvT hZ (hw _ (List.mem_of_getElem? (i := 3) rfl))) (mvT hZ (hw _ (List.mem_of_getElem? (i := 4) rfl))) (mvT hZ (hw _ (List.mem_of_getElem? (i := 5) rfl))) (by decide) (backOf (W := 0) (rmof0 l Z a0 hw [] b28 k28 h28 n0 Z_ V_b28 E_b28) hZ (hw _ (List.mem_of_getElem? (i := 5) rfl)) (hw _ (List.mem_of_getElem? (i := 4) rfl)) (by decide) (by decide)) (g := (mkF m 80 #[.val (.int p1), .val (.int p2), .val (.int p3), .val (.int p4), .val (.int p5), .val (.int (0 : Int32)), .val (.int y0), .val (.int y1), .val (.int y2), .val (.int y3), .val (.ref b28), .unset, .unset] [(.ref b28)])) rfl (by rw [hml]; rfl) (argsL := [(.ref b28)]) (rest := []) (lenOf pd_1 rfl) rfl (by show 2 * 0 + _ ≤ _; exact Nat.le_of_eq rfl) (hb hby at_80) (fun _ _ => ⟨rfl, e28, (by decide : 1 + 2 ≤ _), (by decide : 0 + 1 ≤ _)⟩)
    dsimp only [Pt.U, Pt.locs, Pt.cells, Pt.slots] at X29 l29 y29 z29 st29 hQ29
    subst l29 y29 z29
    obtain ⟨t29, c29, rfl, N29q, K29, E29, F29, V29, zt29, zc29⟩ := hQ29
    have N29 := Fr.app N0 N29q
    have ne_b28_t29 : b28 ≠ t29 := Nat.ne_of_lt (Nat.lt_of_lt_of_le V_b28.lt zt29)
    have ne_b28_c29 : b28 ≠ c29 := Nat.ne_of_lt (Nat.lt_of_lt_of_le V_b28.lt zc29)
    have Z_ : n0 ≤ T29.heap.size := Nat.le_trans Z_ K29.1
    have V_b28 := V_b28.keep K29 nin0
    have E_b28 := E_b28.keep K29
    have O_ := O_.keep K29 all0
    refine OwnGo.st st29 ?_
    show OwnGo p e below s _ _ _ T29 (mkF m 83 #[.val (.int p1), .val (.int p2), .val (.int p3), .val (.int p4), .val (.int p5), .val (.int (0 : Int32)), .val (.int y0), .val (.int y1), .val (.int y2), .val (.int y3), .val (.ref b28), .unset, .unset] [(.ref t29)])
    refine OwnGo.st (fun _ k => XS.astore X29.here hx rfl (hb hby at_83) rfl rfl (l' := #[.val (.int p1), .val (.int p2), .val (.int p3), .val (.int p4), .val (.int p5), .val (.int (0 : Int32)), .val (.int y0), .val (.int y1), .val (.int y2), .val (.int y3), .val (.ref b28), .val (.ref t29), .unset]) rfl k) ?_
    show OwnGo p e below s _ _ _ T29 (mkF m 85 #[.val (.int p1), .val (.int p2), .val (.int p3), .val (.int p4), .val (.int p5), .val (.int (0 : Int32)), .val (.int y0), .val (.int y1), .val (.int y2), .val (.int y3), .val (.ref b28), .val (.ref t29), .unset] [])
    refine OwnGo.st (fun _ k => XS.iload X29.here hx rfl (hb hby at_85) rfl  k) ?_
    show OwnGo p e below s _ _ _ T29 (mkF m 87 #[.val (.int p1), .val (.int p2), .val (.int p3), .val (.int p4), .val (.int p5), .val (.int (0 : Int32)), .val (.int y0), .val (.int y1), .val (.int y2), .val (.int y3), .val (.ref b28), .val (.ref t29), .unset] [(.int (0 : Int32))])
    refine OwnGo.st (fun _ k => XS.ifYes X29.here hx rfl (pc0 := 87) (pc' := 99) rfl (hb hby at_87) rfl ((if0 _ _).trans (flt ((by decide) : ¬ ((0 : Int32) < (0 : Int32)))).2.2.2) (by decide) (by decide) k) ?_
    show OwnGo p e below s _ _ _ T29 (mkF m 99 #[.val (.int p1), .val (.int p2), .val (.int p3), .val (.int p4), .val (.int p5), .val (.int (0 : Int32)), .val (.int y0), .val (.int y1), .val (.int y2), .val (.int y3), .val (.ref b28), .val (.ref t29), .unset] [])
    refine OwnGo.st (fun _ k => XS.iload X29.here hx rfl (hb hby at_99) rfl  k) ?_
    show OwnGo p e below s _ _ _ T29 (mkF m 101 #[.val (.int p1), .val (.int p2), .val (.int p3), .val (.int p4), .val (.int p5), .val (.int (0 : Int32)), .val (.int y0), .val (.int y1), .val (.int y2), .val (.int y3), .val (.ref b28), .val (.ref t29), .unset] [(.int (0 : Int32))])
    refine OwnGo.st (fun _ k => XS.iconst X29.here hx rfl (hb hby at_101) k) ?_
    show OwnGo p e below s _ _ _ T29 (mkF m 102 #[.val (.int p1), .val (.int p2), .val (.int p3), .val (.int p4), .val (.int p5), .val (.int (0 : Int32)), .val (.int y0), .val (.int y1), .val (.int y2), .val (.int y3), .val (.ref b28), .val (.ref t29), .unset] [(.int (1 : Int32)), (.int (0 : Int32))])
    refine OwnGo.st (fun _ k => XS.icmpYes X29.here hx rfl (pc0 := 102) (pc' := 114) rfl (hb hby at_102) rfl (flt ((by decide) : ¬ ((1 : Int32) < (0 : Int32)))).2.2.2 (by decide) (by decide) k) ?_
    show OwnGo p e below s _ _ _ T29 (mkF m 114 #[.val (.int p1), .val (.int p2), .val (.int p3), .val (.int p4), .val (.int p5), .val (.int (0 : Int32)), .val (.int y0), .val (.int y1), .val (.int y2), .val (.int y3), .val (.ref b28), .val (.ref t29), .unset] [])
    refine OwnGo.st (fun _ k => XS.iload X29.here hx rfl (hb hby at_114) rfl  k) ?_
    show OwnGo p e below s _ _ _ T29 (mkF m 116 #[.val (.int p1), .val (.int p2), .val (.int p3), .val (.int p4), .val (.int p5), .val (.int (0 : Int32)), .val (.int y0), .val (.int y1), .val (.int y2), .val (.int y3), .val (.ref b28), .val (.ref t29), .unset] [(.int (0 : Int32))])
    refine OwnGo.st (fun _ k => XS.iconst X29.here hx rfl (hb hby at_116) k) ?_
    show OwnGo p e below s _ _ _ T29 (mkF m 117 #[.val (.int p1), .val (.int p2), .val (.int p3), .val (.int p4), .val (.int p5), .val (.int (0 : Int32)), .val (.int y0), .val (.int y1), .val (.int y2), .val (.int y3), .val (.ref b28), .val (.ref t29), .unset] [(.int (2 : Int32)), (.int (0 : Int32))])
    refine OwnGo.st (fun _ k => XS.icmpYes X29.here hx rfl (pc0 := 117) (pc' := 129) rfl (hb hby at_117) rfl (flt ((by decide) : ¬ ((2 : Int32) < (0 : Int32)))).2.2.2 (by decide) (by decide) k) ?_
    show OwnGo p e below s _ _ _ T29 (mkF m 129 #[.val (.int p1), .val (.int p2), .val (.int p3), .val (.int p4), .val (.int p5), .val (.int (0 : Int32)), .val (.int y0), .val (.int y1), .val (.int y2), .val (.int y3), .val (.ref b28), .val (.ref t29), .unset] [])
    refine OwnGo.st (fun _ k => XS.iload X29.here hx rfl (hb hby at_129) rfl  k) ?_
    show OwnGo p e below s _ _ _ T29 (mkF m 131 #[.val (.int p1), .val (.int p2), .val (.int p3), .val (.int p4), .val (.int p5), .val (.int (0 : Int32)), .val (.int y0), .val (.int y1), .val (.int y2), .val (.int y3), .val (.ref b28), .val (.ref t29), .unset] [(.int (0 : Int32))])
    refine OwnGo.st (fun _ k => XS.iconst X29.here hx rfl (hb hby at_131) k) ?_
    show OwnGo p e below s _ _ _ T29 (mkF m 132 #[.val (.int p1), .val (.int p2), .val (.int p3), .val (.int p4), .val (.int p5), .val (.int (0 : Int32)), .val (.int y0), .val (.int y1), .val (.int y2), .val (.int y3), .val (.ref b28), .val (.ref t29), .unset] [(.int (3 : Int32)), (.int (0 : Int32))])
    refine OwnGo.st (fun _ k => XS.icmpYes X29.here hx rfl (pc0 := 132) (pc' := 144) rfl (hb hby at_132) rfl (flt ((by decide) : ¬ ((3 : Int32) < (0 : Int32)))).2.2.2 (by decide) (by decide) k) ?_
    show OwnGo p e below s _ _ _ T29 (mkF m 144 #[.val (.int p1), .val (.int p2), .val (.int p3), .val (.int p4), .val (.int p5), .val (.int (0 : Int32)), .val (.int y0), .val (.int y1), .val (.int y2), .val (.int y3), .val (.ref b28), .val (.ref t29), .unset] [])
    refine OwnGo.st (fun _ k => XS.aload X29.here hx rfl (hb hby at_144) rfl rfl  k) ?_
    show OwnGo p e below s _ _ _ T29 (mkF m 146 #[.val (.int p1), .val (.int p2), .val (.int p3), .val (.int p4), .val (.int p5), .val (.int (0 : Int32)), .val (.int y0), .val (.int y1), .val (.int y2), .val (.int y3), .val (.ref b28), .val (.ref t29), .unset] [(.ref t29)])
    obtain ⟨cq30, kq30, q30a, q30b, q30c⟩ := isOf hZ rfl E29
    obtain ⟨_, _, ⟨T30, L30, k30, n30⟩, -, X30, ⟨Lc30, hQ30, l30, y30, z30⟩, st30⟩ := X29.virtualBack hx (y := (⟨"com/example/cofferhand/cofferhand/nbt/ByteArrayTag", "length", "()I"⟩ : MethodName)) (z := (⟨"com/example/cofferhand/cofferhand/nbt/ByteArrayTag", "length", "()I"⟩ : MethodName)) hown (mvT hZ (hw _ (List.mem_of_getElem? (i := 25) rfl))) (mvT hZ (hw _ (List.mem_of_getElem? (i := 26) rfl))) (notFace_of_selects (args := #[]) (mvT hZ (hw _ (List.mem_of_getElem? (i := 28) rfl)))) (mvT hZ (hw _ (List.mem_of_getElem? (i := 28) rfl))) (mvT hZ (hw _ (List.mem_of_getElem? (i := 27) rfl))) (by decide) (backOf (W := 0) (rmlen l Z a0 hw [] t29 c29 k28 (0 : Int32) [] T29.heap n0 Z_ F29 V29) hZ (hw _ (List.mem_of_getElem? (i := 29) rfl)) (hw _ (List.mem_of_getElem? (i := 4) rfl)) (by decide) (by decide)) q30a q30c (g := (mkF m 146 #[.val (.int p1), .val (.int p2), .val (.int p3), .val (.int p4), .val (.int p5), .val (.int (0 : Int32)), .val (.int y0), .val (.int y1), .val (.int y2), .val (.int y3), .val (.ref b28), .val (.ref t29), .unset] [(.ref t29)])) rfl (by rw [hml]; rfl) (Steps.refl _) (argsL := []) (rest := []) (lenOf pd_2 rfl) rfl (by show 2 * 0 + _ ≤ _; exact Nat.le_of_eq rfl) (hb hby at_146) (fun _ _ => ⟨rfl, rfl, (by decide : 3 + 0 ≤ _), (by decide : 1 + 0 ≤ _)⟩)
    dsimp only [Pt.U, Pt.locs, Pt.cells, Pt.slots] at X30 l30 y30 z30 st30 hQ30
    subst l30 y30 z30
    obtain ⟨rfl, N30q, e30⟩ := hQ30
    have N30 := Fr.app N29 N30q
    refine OwnGo.st (fun _ k => st30.trans k) ?_
    show OwnGo p e below s _ _ _ T30 (mkF m 149 #[.val (.int p1), .val (.int p2), .val (.int p3), .val (.int p4), .val (.int p5), .val (.int (0 : Int32)), .val (.int y0), .val (.int y1), .val (.int y2), .val (.int y3), .val (.ref b28), .val (.ref t29), .unset] [(.int (0 : Int32))])
    refine OwnGo.st (fun _ k => XS.iload X30.here hx rfl (hb hby at_149) rfl  k) ?_
    show OwnGo p e below s _ _ _ T30 (mkF m 151 #[.val (.int p1), .val (.int p2), .val (.int p3), .val (.int p4), .val (.int p5), .val (.int (0 : Int32)), .val (.int y0), .val (.int y1), .val (.int y2), .val (.int y3), .val (.ref b28), .val (.ref t29), .unset] [(.int (0 : Int32)), (.int (0 : Int32))])
    refine OwnGo.st (fun _ k => XS.icmpNo X30.here hx rfl (hb hby at_151) rfl (teq (rfl : (0 : Int32) = (0 : Int32))).2 k) ?_
    show OwnGo p e below s _ _ _ T30 (mkF m 154 #[.val (.int p1), .val (.int p2), .val (.int p3), .val (.int p4), .val (.int p5), .val (.int (0 : Int32)), .val (.int y0), .val (.int y1), .val (.int y2), .val (.int y3), .val (.ref b28), .val (.ref t29), .unset] [])
    refine OwnGo.st (fun _ k => XS.aload X30.here hx rfl (hb hby at_154) rfl rfl  k) ?_
    show OwnGo p e below s _ _ _ T30 (mkF m 156 #[.val (.int p1), .val (.int p2), .val (.int p3), .val (.int p4), .val (.int p5), .val (.int (0 : Int32)), .val (.int y0), .val (.int y1), .val (.int y2), .val (.int y3), .val (.ref b28), .val (.ref t29), .unset] [(.ref t29)])
    obtain ⟨cq31, kq31, q31a, q31b, q31c⟩ := isOf hZ e30 E29
    obtain ⟨_, _, ⟨T31, L31, k31, n31⟩, -, X31, ⟨Lc31, hQ31, l31, y31, z31⟩, st31⟩ := X30.virtualBack hx (y := (⟨"com/example/cofferhand/cofferhand/nbt/ByteArrayTag", "type", "()Lcom/example/cofferhand/cofferhand/nbt/TagType;"⟩ : MethodName)) (z := (⟨"com/example/cofferhand/cofferhand/nbt/ByteArrayTag", "type", "()Lcom/example/cofferhand/cofferhand/nbt/TagType;"⟩ : MethodName)) hown (mvT hZ (hw _ (List.mem_of_getElem? (i := 30) rfl))) (mvT hZ (hw _ (List.mem_of_getElem? (i := 31) rfl))) (notFace_of_selects (args := #[]) (mvT hZ (hw _ (List.mem_of_getElem? (i := 33) rfl)))) (mvT hZ (hw _ (List.mem_of_getElem? (i := 33) rfl))) (mvT hZ (hw _ (List.mem_of_getElem? (i := 32) rfl))) (by decide) (backOf (W := 0) (rmtyp l Z a0 hw [] t29 u_TagType_BYTE_ARRAY T29.heap n0 Z_ O_ S_u_TagType_BYTE_ARRAY E_u_TagType_BYTE_ARRAY) hZ (hw _ (List.mem_of_getElem? (i := 34) rfl)) (hw _ (List.mem_of_getElem? (i := 4) rfl)) (by decide) (by decide)) q31a q31c (g := (mkF m 156 #[.val (.int p1), .val (.int p2), .val (.int p3), .val (.int p4), .val (.int p5), .val (.int (0 : Int32)), .val (.int y0), .val (.int y1), .val (.int y2), .val (.int y3), .val (.ref b28), .val (.ref t29), .unset] [(.ref t29)])) rfl (by rw [hml]; rfl) (Steps.refl _) (argsL := []) (rest := []) (lenOf pd_3 rfl) rfl (by show 2 * 0 + _ ≤ _; exact Nat.le_of_eq rfl) (hb hby at_156) (fun _ _ => ⟨rfl, e30, (by decide : 3 + 0 ≤ _), (by decide : 1 + 0 ≤ _)⟩)
    dsimp only [Pt.U, Pt.locs, Pt.cells, Pt.slots] at X31 l31 y31 z31 st31 hQ31
    subst l31 y31 z31
    obtain ⟨rfl, N31q, e31⟩ := hQ31
    have N31 := Fr.app N30 N31q
    refine OwnGo.st (fun _ k => st31.trans k) ?_
    show OwnGo p e below s _ _ _ T31 (mkF m 159 #[.val (.int p1), .val (.int p2), .val (.int p3), .val (.int p4), .val (.int p5), .val (.int (0 : Int32)), .val (.int y0), .val (.int y1), .val (.int y2), .val (.int y3), .val (.ref b28), .val (.ref t29), .unset] [(.ref u_TagType_BYTE_ARRAY)])
    obtain ⟨T32, X32, e32, st32⟩ := getS2 X31 hx hZ hown (host := "") (Or.inl (hw _ (List.mem_of_getElem? (i := 38) rfl))) Via.refl e31 (S_u_TagType_BYTE_ARRAY.ext O_.2) (g := (mkF m 159 #[.val (.int p1), .val (.int p2), .val (.int p3), .val (.int p4), .val (.int p5), .val (.int (0 : Int32)), .val (.int y0), .val (.int y1), .val (.int y2), .val (.int y3), .val (.ref b28), .val (.ref t29), .unset] [(.ref u_TagType_BYTE_ARRAY)])) rfl (hb hby at_159)
    refine OwnGo.st st32 ?_
    show OwnGo p e below s _ _ _ T32 (mkF m 162 #[.val (.int p1), .val (.int p2), .val (.int p3), .val (.int p4), .val (.int p5), .val (.int (0 : Int32)), .val (.int y0), .val (.int y1), .val (.int y2), .val (.int y3), .val (.ref b28), .val (.ref t29), .unset] [(.ref u_TagType_BYTE_ARRAY), (.ref u_TagType_BYTE_ARRAY)])
    refine OwnGo.st (fun _ k => Jvm.RoadKit.acmp (g := (mkF m 162 #[.val (.int p1), .val (.int p2), .val (.int p3), .val (.int p4), .val (.int p5), .val (.int (0 : Int32)), .val (.int y0), .val (.int y1), .val (.int y2), .val (.int y3), .val (.ref b28), .val (.ref t29), .unset] [(.ref u_TagType_BYTE_ARRAY), (.ref u_TagType_BYTE_ARRAY)])) X32 hx rfl rfl rfl (pc0 := 162) (pc' := 165) (same := true) rfl (hb hby at_162) rfl (decide_eq_true rfl) (by decide) (by decide) k) ?_
    show OwnGo p e below s _ _ _ T32 (mkF m 165 #[.val (.int p1), .val (.int p2), .val (.int p3), .val (.int p4), .val (.int p5), .val (.int (0 : Int32)), .val (.int y0), .val (.int y1), .val (.int y2), .val (.int y3), .val (.ref b28), .val (.ref t29), .unset] [])
    refine OwnGo.st (fun _ k => XS.iconst X32.here hx rfl (hb hby at_165) k) ?_
    show OwnGo p e below s _ _ _ T32 (mkF m 166 #[.val (.int p1), .val (.int p2), .val (.int p3), .val (.int p4), .val (.int p5), .val (.int (0 : Int32)), .val (.int y0), .val (.int y1), .val (.int y2), .val (.int y3), .val (.ref b28), .val (.ref t29), .unset] [(.int (1 : Int32))])
    refine OwnGo.st (fun _ k => XS.goto X32.here hx rfl (pc0 := 166) (pc' := 170) rfl (hb hby at_166) (by decide) (by decide) k) ?_
    show OwnGo p e below s _ _ _ T32 (mkF m 170 #[.val (.int p1), .val (.int p2), .val (.int p3), .val (.int p4), .val (.int p5), .val (.int (0 : Int32)), .val (.int y0), .val (.int y1), .val (.int y2), .val (.int y3), .val (.ref b28), .val (.ref t29), .unset] [(.int (1 : Int32))])
    refine OwnGo.st (fun _ k => XS.istore X32.here hx rfl (hb hby at_170) rfl (l' := #[.val (.int p1), .val (.int p2), .val (.int p3), .val (.int p4), .val (.int p5), .val (.int (0 : Int32)), .val (.int y0), .val (.int y1), .val (.int y2), .val (.int y3), .val (.ref b28), .val (.ref t29), .val (.int (1 : Int32))]) rfl k) ?_
    show OwnGo p e below s _ _ _ T32 (mkF m 172 #[.val (.int p1), .val (.int p2), .val (.int p3), .val (.int p4), .val (.int p5), .val (.int (0 : Int32)), .val (.int y0), .val (.int y1), .val (.int y2), .val (.int y3), .val (.ref b28), .val (.ref t29), .val (.int (1 : Int32))] [])
    refine OwnGo.st (fun _ k => XS.iload X32.here hx rfl (hb hby at_172) rfl  k) ?_
    show OwnGo p e below s _ _ _ T32 (mkF m 174 #[.val (.int p1), .val (.int p2), .val (.int p3), .val (.int p4), .val (.int p5), .val (.int (0 : Int32)), .val (.int y0), .val (.int y1), .val (.int y2), .val (.int y3), .val (.ref b28), .val (.ref t29), .val (.int (1 : Int32))] [(.int (1 : Int32))])
    refine OwnGo.st (fun _ k => XS.ifNo X32.here hx rfl (hb hby at_174) rfl ((if0 _ _).trans (feq ((by decide) : ¬ ((1 : Int32) = (0 : Int32)))).1) k) ?_
    show OwnGo p e below s _ _ _ T32 (mkF m 177 #[.val (.int p1), .val (.int p2), .val (.int p3), .val (.int p4), .val (.int p5), .val (.int (0 : Int32)), .val (.int y0), .val (.int y1), .val (.int y2), .val (.int y3), .val (.ref b28), .val (.ref t29), .val (.int (1 : Int32))] [])
    refine OwnGo.st (fun _ k => XS.iload X32.here hx rfl (hb hby at_177) rfl  k) ?_
    show OwnGo p e below s _ _ _ T32 (mkF m 179 #[.val (.int p1), .val (.int p2), .val (.int p3), .val (.int p4), .val (.int p5), .val (.int (0 : Int32)), .val (.int y0), .val (.int y1), .val (.int y2), .val (.int y3), .val (.ref b28), .val (.ref t29), .val (.int (1 : Int32))] [(.int (0 : Int32))])
    refine OwnGo.st (fun _ k => XS.ifYes X32.here hx rfl (pc0 := 179) (pc' := 200) rfl (hb hby at_179) rfl ((if0 _ _).trans (flt ((by decide) : ¬ ((0 : Int32) < (0 : Int32)))).2.2.2) (by decide) (by decide) k) ?_
    show OwnGo p e below s _ _ _ T32 (mkF m 200 #[.val (.int p1), .val (.int p2), .val (.int p3), .val (.int p4), .val (.int p5), .val (.int (0 : Int32)), .val (.int y0), .val (.int y1), .val (.int y2), .val (.int y3), .val (.ref b28), .val (.ref t29), .val (.int (1 : Int32))] [])
    refine OwnGo.st (fun _ k => XS.iload X32.here hx rfl (hb hby at_200) rfl  k) ?_
    show OwnGo p e below s _ _ _ T32 (mkF m 202 #[.val (.int p1), .val (.int p2), .val (.int p3), .val (.int p4), .val (.int p5), .val (.int (0 : Int32)), .val (.int y0), .val (.int y1), .val (.int y2), .val (.int y3), .val (.ref b28), .val (.ref t29), .val (.int (1 : Int32))] [(.int (1 : Int32))])
    refine OwnGo.st (fun _ k => XS.ifNo X32.here hx rfl (hb hby at_202) rfl ((if0 _ _).trans (feq ((by decide) : ¬ ((1 : Int32) = (0 : Int32)))).1) k) ?_
    show OwnGo p e below s _ _ _ T32 (mkF m 205 #[.val (.int p1), .val (.int p2), .val (.int p3), .val (.int p4), .val (.int p5), .val (.int (0 : Int32)), .val (.int y0), .val (.int y1), .val (.int y2), .val (.int y3), .val (.ref b28), .val (.ref t29), .val (.int (1 : Int32))] [])
    refine OwnGo.st (fun _ k => XS.iload X32.here hx rfl (hb hby at_205) rfl  k) ?_
    show OwnGo p e below s _ _ _ T32 (mkF m 207 #[.val (.int p1), .val (.int p2), .val (.int p3), .val (.int p4), .val (.int p5), .val (.int (0 : Int32)), .val (.int y0), .val (.int y1), .val (.int y2), .val (.int y3), .val (.ref b28), .val (.ref t29), .val (.int (1 : Int32))] [(.int (0 : Int32))])
    refine OwnGo.st (fun _ k => XS.iconst X32.here hx rfl (hb hby at_207) k) ?_
    show OwnGo p e below s _ _ _ T32 (mkF m 208 #[.val (.int p1), .val (.int p2), .val (.int p3), .val (.int p4), .val (.int p5), .val (.int (0 : Int32)), .val (.int y0), .val (.int y1), .val (.int y2), .val (.int y3), .val (.ref b28), .val (.ref t29), .val (.int (1 : Int32))] [(.int (1 : Int32)), (.int (0 : Int32))])
    refine OwnGo.st (fun _ k => XS.icmpYes X32.here hx rfl (pc0 := 208) (pc' := 229) rfl (hb hby at_208) rfl (flt ((by decide) : ¬ ((1 : Int32) < (0 : Int32)))).2.2.2 (by decide) (by decide) k) ?_
    show OwnGo p e below s _ _ _ T32 (mkF m 229 #[.val (.int p1), .val (.int p2), .val (.int p3), .val (.int p4), .val (.int p5), .val (.int (0 : Int32)), .val (.int y0), .val (.int y1), .val (.int y2), .val (.int y3), .val (.ref b28), .val (.ref t29), .val (.int (1 : Int32))] [])
    refine OwnGo.st (fun _ k => XS.iload X32.here hx rfl (hb hby at_229) rfl  k) ?_
    show OwnGo p e below s _ _ _ T32 (mkF m 231 #[.val (.int p1), .val (.int p2), .val (.int p3), .val (.int p4), .val (.int p5), .val (.int (0 : Int32)), .val (.int y0), .val (.int y1), .val (.int y2), .val (.int y3), .val (.ref b28), .val (.ref t29), .val (.int (1 : Int32))] [(.int (1 : Int32))])
    refine OwnGo.st (fun _ k => XS.ifNo X32.here hx rfl (hb hby at_231) rfl ((if0 _ _).trans (feq ((by decide) : ¬ ((1 : Int32) = (0 : Int32)))).1) k) ?_
    show OwnGo p e below s _ _ _ T32 (mkF m 234 #[.val (.int p1), .val (.int p2), .val (.int p3), .val (.int p4), .val (.int p5), .val (.int (0 : Int32)), .val (.int y0), .val (.int y1), .val (.int y2), .val (.int y3), .val (.ref b28), .val (.ref t29), .val (.int (1 : Int32))] [])
    refine OwnGo.st (fun _ k => XS.iload X32.here hx rfl (hb hby at_234) rfl  k) ?_
    show OwnGo p e below s _ _ _ T32 (mkF m 236 #[.val (.int p1), .val (.int p2), .val (.int p3), .val (.int p4), .val (.int p5), .val (.int (0 : Int32)), .val (.int y0), .val (.int y1), .val (.int y2), .val (.int y3), .val (.ref b28), .val (.ref t29), .val (.int (1 : Int32))] [(.int (0 : Int32))])
    refine OwnGo.st (fun _ k => XS.iconst X32.here hx rfl (hb hby at_236) k) ?_
    show OwnGo p e below s _ _ _ T32 (mkF m 237 #[.val (.int p1), .val (.int p2), .val (.int p3), .val (.int p4), .val (.int p5), .val (.int (0 : Int32)), .val (.int y0), .val (.int y1), .val (.int y2), .val (.int y3), .val (.ref b28), .val (.ref t29), .val (.int (1 : Int32))] [(.int (2 : Int32)), (.int (0 : Int32))])
    refine OwnGo.st (fun _ k => XS.icmpYes X32.here hx rfl (pc0 := 237) (pc' := 258) rfl (hb hby at_237) rfl (flt ((by decide) : ¬ ((2 : Int32) < (0 : Int32)))).2.2.2 (by decide) (by decide) k) ?_
    show OwnGo p e below s _ _ _ T32 (mkF m 258 #[.val (.int p1), .val (.int p2), .val (.int p3), .val (.int p4), .val (.int p5), .val (.int (0 : Int32)), .val (.int y0), .val (.int y1), .val (.int y2), .val (.int y3), .val (.ref b28), .val (.ref t29), .val (.int (1 : Int32))] [])
    refine OwnGo.st (fun _ k => XS.iload X32.here hx rfl (hb hby at_258) rfl  k) ?_
    show OwnGo p e below s _ _ _ T32 (mkF m 260 #[.val (.int p1), .val (.int p2), .val (.int p3), .val (.int p4), .val (.int p5), .val (.int (0 : Int32)), .val (.int y0), .val (.int y1), .val (.int y2), .val (.int y3), .val (.ref b28), .val (.ref t29), .val (.int (1 : Int32))] [(.int (1 : Int32))])
    refine OwnGo.st (fun _ k => XS.ifNo X32.here hx rfl (hb hby at_260) rfl ((if0 _ _).trans (feq ((by decide) : ¬ ((1 : Int32) = (0 : Int32)))).1) k) ?_
    show OwnGo p e below s _ _ _ T32 (mkF m 263 #[.val (.int p1), .val (.int p2), .val (.int p3), .val (.int p4), .val (.int p5), .val (.int (0 : Int32)), .val (.int y0), .val (.int y1), .val (.int y2), .val (.int y3), .val (.ref b28), .val (.ref t29), .val (.int (1 : Int32))] [])
    refine OwnGo.st (fun _ k => XS.iload X32.here hx rfl (hb hby at_263) rfl  k) ?_
    show OwnGo p e below s _ _ _ T32 (mkF m 265 #[.val (.int p1), .val (.int p2), .val (.int p3), .val (.int p4), .val (.int p5), .val (.int (0 : Int32)), .val (.int y0), .val (.int y1), .val (.int y2), .val (.int y3), .val (.ref b28), .val (.ref t29), .val (.int (1 : Int32))] [(.int (0 : Int32))])
    refine OwnGo.st (fun _ k => XS.iconst X32.here hx rfl (hb hby at_265) k) ?_
    show OwnGo p e below s _ _ _ T32 (mkF m 266 #[.val (.int p1), .val (.int p2), .val (.int p3), .val (.int p4), .val (.int p5), .val (.int (0 : Int32)), .val (.int y0), .val (.int y1), .val (.int y2), .val (.int y3), .val (.ref b28), .val (.ref t29), .val (.int (1 : Int32))] [(.int (3 : Int32)), (.int (0 : Int32))])
    refine OwnGo.st (fun _ k => XS.icmpYes X32.here hx rfl (pc0 := 266) (pc' := 287) rfl (hb hby at_266) rfl (flt ((by decide) : ¬ ((3 : Int32) < (0 : Int32)))).2.2.2 (by decide) (by decide) k) ?_
    show OwnGo p e below s _ _ _ T32 (mkF m 287 #[.val (.int p1), .val (.int p2), .val (.int p3), .val (.int p4), .val (.int p5), .val (.int (0 : Int32)), .val (.int y0), .val (.int y1), .val (.int y2), .val (.int y3), .val (.ref b28), .val (.ref t29), .val (.int (1 : Int32))] [])
    refine OwnGo.st (fun _ k => XS.iload X32.here hx rfl (hb hby at_287) rfl  k) ?_
    show OwnGo p e below s _ _ _ T32 (mkF m 289 #[.val (.int p1), .val (.int p2), .val (.int p3), .val (.int p4), .val (.int p5), .val (.int (0 : Int32)), .val (.int y0), .val (.int y1), .val (.int y2), .val (.int y3), .val (.ref b28), .val (.ref t29), .val (.int (1 : Int32))] [(.int (1 : Int32))])
    exact OwnGo.retN X32 hx (t := .boolean) hret hlk (by simp) (hb hby at_289) (by show Q0 Z p1 p2 p3 p4 p5 u_TagType_BYTE_ARRAY h0 n0 _ T32.heap _; rw [e32]; exact ⟨rfl, N31⟩) (by decide) (by decide)
  · show OwnGo p e below s _ _ _ s₁ (mkF m 25 #[.val (.int p1), .val (.int p2), .val (.int p3), .val (.int p4), .val (.int p5), .val (.int (1 : Int32)), .val (.int y0), .val (.int y1), .val (.int y2), .val (.int y3), .unset, .unset, .unset] [])
    refine OwnGo.st (fun _ k => XS.iload X0.here hx rfl (hb hby at_25) rfl  k) ?_
    show OwnGo p e below s _ _ _ s₁ (mkF m 27 #[.val (.int p1), .val (.int p2), .val (.int p3), .val (.int p4), .val (.int p5), .val (.int (1 : Int32)), .val (.int y0), .val (.int y1), .val (.int y2), .val (.int y3), .unset, .unset, .unset] [(.int (1 : Int32))])
    obtain ⟨T33, h33, k33, X33, e33, E33, A33, Ex33, st33⟩ := newPE X0 hx hZ (hw _ (List.mem_of_getElem? (i := 1) rfl)) e0 (g := (mkF m 27 #[.val (.int p1), .val (.int p2), .val (.int p3), .val (.int p4), .val (.int p5), .val (.int (1 : Int32)), .val (.int y0), .val (.int y1), .val (.int y2), .val (.int y3), .unset, .unset, .unset] [(.int (1 : Int32))])) rfl (hb hby at_27) rfl (by decide) (cap := 1) (by decide) (by decide) (by decide) (by decide) (ad := "[B") (by decide)
    obtain ⟨b33, g33⟩ : ∃ z, z = h0.size := ⟨_, rfl⟩
    rw [← g33] at A33 Ex33 st33
    have g_b33 : n0 ≤ b33 := Nat.le_trans Z_ (Nat.le_of_eq g33.symm)
    have O_ := O_.ext E33
    have Z_ : n0 ≤ h33.size := Nat.le_trans Z_ E33.1
    have V_b33 : Arv Z h33 b33 k33 .byte (1 : Int32) [(.int (0 : Int32))] (.int (0 : Int32)) := (Arv.new A33 (by decide)).pad (pad_rep [] (.int (0 : Int32)) 1)
    have E_b33 := Ex33
    refine OwnGo.st st33 ?_
    show OwnGo p e below s _ _ _ T33 (mkF m 29 #[.val (.int p1), .val (.int p2), .val (.int p3), .val (.int p4), .val (.int p5), .val (.int (1 : Int32)), .val (.int y0), .val (.int y1), .val (.int y2), .val (.int y3), .unset, .unset, .unset] [(.ref b33)])
    refine OwnGo.st (fun _ k => XS.astore X33.here hx rfl (hb hby at_29) rfl rfl (l' := #[.val (.int p1), .val (.int p2), .val (.int p3), .val (.int p4), .val (.int p5), .val (.int (1 : Int32)), .val (.int y0), .val (.int y1), .val (.int y2), .val (.int y3), .val (.ref b33), .unset, .unset]) rfl k) ?_
    show OwnGo p e below s _ _ _ T33 (mkF m 31 #[.val (.int p1), .val (.int p2), .val (.int p3), .val (.int p4), .val (.int p5), .val (.int (1 : Int32)), .val (.int y0), .val (.int y1), .val (.int y2), .val (.int y3), .val (.ref b33), .unset, .unset] [])
    refine OwnGo.st (fun _ k => XS.iload X33.here hx rfl (hb hby at_31) rfl  k) ?_
    show OwnGo p e below s _ _ _ T33 (mkF m 33 #[.val (.int p1), .val (.int p2), .val (.int p3), .val (.int p4), .val (.int p5), .val (.int (1 : Int32)), .val (.int y0), .val (.int y1), .val (.int y2), .val (.int y3), .val (.ref b33), .unset, .unset] [(.int (1 : Int32))])
    refine OwnGo.st (fun _ k => XS.ifNo X33.here hx rfl (hb hby at_33) rfl ((if0 _ _).trans (tlt ((by decide) : (0 : Int32) < (1 : Int32))).2.2.2) k) ?_
    show OwnGo p e below s _ _ _ T33 (mkF m 36 #[.val (.int p1), .val (.int p2), .val (.int p3), .val (.int p4), .val (.int p5), .val (.int (1 : Int32)), .val (.int y0), .val (.int y1), .val (.int y2), .val (.int y3), .val (.ref b33), .unset, .unset] [])
    refine OwnGo.st (fun _ k => XS.aload X33.here hx rfl (hb hby at_36) rfl rfl  k) ?_
    show OwnGo p e below s _ _ _ T33 (mkF m 38 #[.val (.int p1), .val (.int p2), .val (.int p3), .val (.int p4), .val (.int p5), .val (.int (1 : Int32)), .val (.int y0), .val (.int y1), .val (.int y2), .val (.int y3), .val (.ref b33), .unset, .unset] [(.ref b33)])
    refine OwnGo.st (fun _ k => XS.iconst X33.here hx rfl (hb hby at_38) k) ?_
    show OwnGo p e below s _ _ _ T33 (mkF m 39 #[.val (.int p1), .val (.int p2), .val (.int p3), .val (.int p4), .val (.int p5), .val (.int (1 : Int32)), .val (.int y0), .val (.int y1), .val (.int y2), .val (.int y3), .val (.ref b33), .unset, .unset] [(.int (0 : Int32)), (.ref b33)])
    refine OwnGo.st (fun _ k => XS.iload X33.here hx rfl (hb hby at_39) rfl  k) ?_
    show OwnGo p e below s _ _ _ T33 (mkF m 41 #[.val (.int p1), .val (.int p2), .val (.int p3), .val (.int p4), .val (.int p5), .val (.int (1 : Int32)), .val (.int y0), .val (.int y1), .val (.int y2), .val (.int y3), .val (.ref b33), .unset, .unset] [(.int y0), (.int (0 : Int32)), (.ref b33)])
    obtain ⟨cl34, Ar34, q34, S34, N34, H34, G34⟩ := id V_b33
    have hin34 : ¬ ((0 : Int32) < 0 ∨ cl34.slots.size ≤ ((0 : Int32)).toNatClampNeg) := inb_of S34 ⟨by decide, by decide⟩
    obtain ⟨T34, h34, X34, e34, W34, st34⟩ := stB X33 hx hZ e33 Ar34 (j := (0 : Int32)) hin34 (g := (mkF m 41 #[.val (.int p1), .val (.int p2), .val (.int p3), .val (.int p4), .val (.int p5), .val (.int (1 : Int32)), .val (.int y0), .val (.int y1), .val (.int y2), .val (.int y3), .val (.ref b33), .unset, .unset] [(.int y0), (.int (0 : Int32)), (.ref b33)])) rfl rfl (hb hby at_41)
    have V_b33 : Arv Z h34 b33 k33 .byte (1 : Int32) [(.int (nar .byte y0))] (.int (0 : Int32)) := Arv.set Ar34 q34 S34 N34 H34 G34 (fits_nar_byte _) W34 0 rfl (Nat.le_of_ble_eq_true rfl)
    rw [show nar .byte y0 = y0 from (by rw [hy0]; exact own_nb _)] at V_b33
    have E_b33 := E_b33.wr W34
    have O_ := O_.wr W34 g_b33
    have N34 := Fr.snoc X34 N0 g_b33
    have Z_ : n0 ≤ h34.size := by rw [W34.size]; exact Z_
    refine OwnGo.st st34 ?_
    show OwnGo p e below s _ _ _ T34 (mkF m 42 #[.val (.int p1), .val (.int p2), .val (.int p3), .val (.int p4), .val (.int p5), .val (.int (1 : Int32)), .val (.int y0), .val (.int y1), .val (.int y2), .val (.int y3), .val (.ref b33), .unset, .unset] [])
    refine OwnGo.st (fun _ k => XS.iload X34.here hx rfl (hb hby at_42) rfl  k) ?_
    show OwnGo p e below s _ _ _ T34 (mkF m 44 #[.val (.int p1), .val (.int p2), .val (.int p3), .val (.int p4), .val (.int p5), .val (.int (1 : Int32)), .val (.int y0), .val (.int y1), .val (.int y2), .val (.int y3), .val (.ref b33), .unset, .unset] [(.int (1 : Int32))])
    refine OwnGo.st (fun _ k => XS.iconst X34.here hx rfl (hb hby at_44) k) ?_
    show OwnGo p e below s _ _ _ T34 (mkF m 45 #[.val (.int p1), .val (.int p2), .val (.int p3), .val (.int p4), .val (.int p5), .val (.int (1 : Int32)), .val (.int y0), .val (.int y1), .val (.int y2), .val (.int y3), .val (.ref b33), .unset, .unset] [(.int (1 : Int32)), (.int (1 : Int32))])
    refine OwnGo.st (fun _ k => XS.icmpYes X34.here hx rfl (pc0 := 45) (pc' := 54) rfl (hb hby at_45) rfl (flt ((by decide) : ¬ ((1 : Int32) < (1 : Int32)))).2.2.2 (by decide) (by decide) k) ?_
    show OwnGo p e below s _ _ _ T34 (mkF m 54 #[.val (.int p1), .val (.int p2), .val (.int p3), .val (.int p4), .val (.int p5), .val (.int (1 : Int32)), .val (.int y0), .val (.int y1), .val (.int y2), .val (.int y3), .val (.ref b33), .unset, .unset] [])
    refine OwnGo.st (fun _ k => XS.iload X34.here hx rfl (hb hby at_54) rfl  k) ?_
    show OwnGo p e below s _ _ _ T34 (mkF m 56 #[.val (.int p1), .val (.int p2), .val (.int p3), .val (.int p4), .val (.int p5), .val (.int (1 : Int32)), .val (.int y0), .val (.int y1), .val (.int y2), .val (.int y3), .val (.ref b33), .unset, .unset] [(.int (1 : Int32))])
    refine OwnGo.st (fun _ k => XS.iconst X34.here hx rfl (hb hby at_56) k) ?_
    show OwnGo p e below s _ _ _ T34 (mkF m 57 #[.val (.int p1), .val (.int p2), .val (.int p3), .val (.int p4), .val (.int p5), .val (.int (1 : Int32)), .val (.int y0), .val (.int y1), .val (.int y2), .val (.int y3), .val (.ref b33), .unset, .unset] [(.int (2 : Int32)), (.int (1 : Int32))])
    refine OwnGo.st (fun _ k => XS.icmpYes X34.here hx rfl (pc0 := 57) (pc' := 66) rfl (hb hby at_57) rfl (flt ((by decide) : ¬ ((2 : Int32) < (1 : Int32)))).2.2.2 (by decide) (by decide) k) ?_
    show OwnGo p e below s _ _ _ T34 (mkF m 66 #[.val (.int p1), .val (.int p2), .val (.int p3), .val (.int p4), .val (.int p5), .val (.int (1 : Int32)), .val (.int y0), .val (.int y1), .val (.int y2), .val (.int y3), .val (.ref b33), .unset, .unset] [])
    refine OwnGo.st (fun _ k => XS.iload X34.here hx rfl (hb hby at_66) rfl  k) ?_
    show OwnGo p e below s _ _ _ T34 (mkF m 68 #[.val (.int p1), .val (.int p2), .val (.int p3), .val (.int p4), .val (.int p5), .val (.int (1 : Int32)), .val (.int y0), .val (.int y1), .val (.int y2), .val (.int y3), .val (.ref b33), .unset, .unset] [(.int (1 : Int32))])
    refine OwnGo.st (fun _ k => XS.iconst X34.here hx rfl (hb hby at_68) k) ?_
    show OwnGo p e below s _ _ _ T34 (mkF m 69 #[.val (.int p1), .val (.int p2), .val (.int p3), .val (.int p4), .val (.int p5), .val (.int (1 : Int32)), .val (.int y0), .val (.int y1), .val (.int y2), .val (.int y3), .val (.ref b33), .unset, .unset] [(.int (3 : Int32)), (.int (1 : Int32))])
    refine OwnGo.st (fun _ k => XS.icmpYes X34.here hx rfl (pc0 := 69) (pc' := 78) rfl (hb hby at_69) rfl (flt ((by decide) : ¬ ((3 : Int32) < (1 : Int32)))).2.2.2 (by decide) (by decide) k) ?_
    show OwnGo p e below s _ _ _ T34 (mkF m 78 #[.val (.int p1), .val (.int p2), .val (.int p3), .val (.int p4), .val (.int p5), .val (.int (1 : Int32)), .val (.int y0), .val (.int y1), .val (.int y2), .val (.int y3), .val (.ref b33), .unset, .unset] [])
    refine OwnGo.st (fun _ k => XS.aload X34.here hx rfl (hb hby at_78) rfl rfl  k) ?_
    show OwnGo p e below s _ _ _ T34 (mkF m 80 #[.val (.int p1), .val (.int p2), .val (.int p3), .val (.int p4), .val (.int p5), .val (.int (1 : Int32)), .val (.int y0), .val (.int y1), .val (.int y2), .val (.int y3), .val (.ref b33), .unset, .unset] [(.ref b33)])
    obtain ⟨_, _, ⟨T35, L35, k35, n35⟩, -, X35, ⟨Lc35, hQ35, l35, y35, z35⟩, st35⟩ := Jvm.LawKit.callS X34 hx (y := (⟨"com/example/cofferhand/cofferhand/nbt/ByteArrayTag", "of", "([B)Lcom/example/cofferhand/cofferhand/nbt/ByteArrayTag;"⟩ : MethodName)) hown (mvT hZ (hw _ (List.mem_of_getElem? (i := 2) rfl))) (mvT hZ (hw _ (List.mem_of_getElem? (i := 3) rfl))) (mvT hZ (hw _ (List.mem_of_getElem? (i := 4) rfl))) (mvT hZ (hw _ (List.mem_of_getElem? (i := 5) rfl))) (by decide) (backOf (W := 0) (rmof1 l Z a0 hw [] b33 k33 y0 h34 n0 Z_ V_b33 E_b33) hZ (hw _ (List.mem_of_getElem? (i := 5) rfl)) (hw _ (List.mem_of_getElem? (i := 4) rfl)) (by decide) (by decide)) (g := (mkF m 80 #[.val (.int p1), .val (.int p2), .val (.int p3), .val (.int p4), .val (.int p5), .val (.int (1 : Int32)), .val (.int y0), .val (.int y1), .val (.int y2), .val (.int y3), .val (.ref b33), .unset, .unset] [(.ref b33)])) rfl (by rw [hml]; rfl) (argsL := [(.ref b33)]) (rest := []) (lenOf pd_1 rfl) rfl (by show 2 * 0 + _ ≤ _; exact Nat.le_of_eq rfl) (hb hby at_80) (fun _ _ => ⟨rfl, e34, (by decide : 1 + 2 ≤ _), (by decide : 1 + 2 ≤ _)⟩)
    dsimp only [Pt.U, Pt.locs, Pt.cells, Pt.slots] at X35 l35 y35 z35 st35 hQ35
    subst l35 y35 z35
    obtain ⟨t35, c35, rfl, N35q, K35, E35, F35, V35, zt35, zc35⟩ := hQ35
    have N35 := Fr.app N34 N35q
    have ne_b33_t35 : b33 ≠ t35 := Nat.ne_of_lt (Nat.lt_of_lt_of_le V_b33.lt zt35)
    have ne_b33_c35 : b33 ≠ c35 := Nat.ne_of_lt (Nat.lt_of_lt_of_le V_b33.lt zc35)
    have Z_ : n0 ≤ T35.heap.size := Nat.le_trans Z_ K35.1
    have V_b33 := V_b33.keep K35 nin0
    have E_b33 := E_b33.keep K35
    have O_ := O_.keep K35 all0
    refine OwnGo.st st35 ?_
    show OwnGo p e below s _ _ _ T35 (mkF m 83 #[.val (.int p1), .val (.int p2), .val (.int p3), .val (.int p4), .val (.int p5), .val (.int (1 : Int32)), .val (.int y0), .val (.int y1), .val (.int y2), .val (.int y3), .val (.ref b33), .unset, .unset] [(.ref t35)])
    refine OwnGo.st (fun _ k => XS.astore X35.here hx rfl (hb hby at_83) rfl rfl (l' := #[.val (.int p1), .val (.int p2), .val (.int p3), .val (.int p4), .val (.int p5), .val (.int (1 : Int32)), .val (.int y0), .val (.int y1), .val (.int y2), .val (.int y3), .val (.ref b33), .val (.ref t35), .unset]) rfl k) ?_
    show OwnGo p e below s _ _ _ T35 (mkF m 85 #[.val (.int p1), .val (.int p2), .val (.int p3), .val (.int p4), .val (.int p5), .val (.int (1 : Int32)), .val (.int y0), .val (.int y1), .val (.int y2), .val (.int y3), .val (.ref b33), .val (.ref t35), .unset] [])
    refine OwnGo.st (fun _ k => XS.iload X35.here hx rfl (hb hby at_85) rfl  k) ?_
    show OwnGo p e below s _ _ _ T35 (mkF m 87 #[.val (.int p1), .val (.int p2), .val (.int p3), .val (.int p4), .val (.int p5), .val (.int (1 : Int32)), .val (.int y0), .val (.int y1), .val (.int y2), .val (.int y3), .val (.ref b33), .val (.ref t35), .unset] [(.int (1 : Int32))])
    refine OwnGo.st (fun _ k => XS.ifNo X35.here hx rfl (hb hby at_87) rfl ((if0 _ _).trans (tlt ((by decide) : (0 : Int32) < (1 : Int32))).2.2.2) k) ?_
    show OwnGo p e below s _ _ _ T35 (mkF m 90 #[.val (.int p1), .val (.int p2), .val (.int p3), .val (.int p4), .val (.int p5), .val (.int (1 : Int32)), .val (.int y0), .val (.int y1), .val (.int y2), .val (.int y3), .val (.ref b33), .val (.ref t35), .unset] [])
    refine OwnGo.st (fun _ k => XS.aload X35.here hx rfl (hb hby at_90) rfl rfl  k) ?_
    show OwnGo p e below s _ _ _ T35 (mkF m 92 #[.val (.int p1), .val (.int p2), .val (.int p3), .val (.int p4), .val (.int p5), .val (.int (1 : Int32)), .val (.int y0), .val (.int y1), .val (.int y2), .val (.int y3), .val (.ref b33), .val (.ref t35), .unset] [(.ref b33)])
    refine OwnGo.st (fun _ k => XS.iconst X35.here hx rfl (hb hby at_92) k) ?_
    show OwnGo p e below s _ _ _ T35 (mkF m 93 #[.val (.int p1), .val (.int p2), .val (.int p3), .val (.int p4), .val (.int p5), .val (.int (1 : Int32)), .val (.int y0), .val (.int y1), .val (.int y2), .val (.int y3), .val (.ref b33), .val (.ref t35), .unset] [(.int (0 : Int32)), (.ref b33)])
    refine OwnGo.st (fun _ k => XS.iload X35.here hx rfl (hb hby at_93) rfl  k) ?_
    show OwnGo p e below s _ _ _ T35 (mkF m 95 #[.val (.int p1), .val (.int p2), .val (.int p3), .val (.int p4), .val (.int p5), .val (.int (1 : Int32)), .val (.int y0), .val (.int y1), .val (.int y2), .val (.int y3), .val (.ref b33), .val (.ref t35), .unset] [(.int y0), (.int (0 : Int32)), (.ref b33)])
    refine OwnGo.st (fun _ k => XS.iconst X35.here hx rfl (hb hby at_95) k) ?_
    show OwnGo p e below s _ _ _ T35 (mkF m 96 #[.val (.int p1), .val (.int p2), .val (.int p3), .val (.int p4), .val (.int p5), .val (.int (1 : Int32)), .val (.int y0), .val (.int y1), .val (.int y2), .val (.int y3), .val (.ref b33), .val (.ref t35), .unset] [(.int (-1 : Int32)), (.int y0), (.int (0 : Int32)), (.ref b33)])
    refine OwnGo.st (fun _ k => XS.ixor X35.here hx rfl (hb hby at_96) rfl k) ?_
    show OwnGo p e below s _ _ _ T35 (mkF m 97 #[.val (.int p1), .val (.int p2), .val (.int p3), .val (.int p4), .val (.int p5), .val (.int (1 : Int32)), .val (.int y0), .val (.int y1), .val (.int y2), .val (.int y3), .val (.ref b33), .val (.ref t35), .unset] [(.int (y0 ^^^ (-1 : Int32))), (.int (0 : Int32)), (.ref b33)])
    refine OwnGo.st (fun _ k => XS.i2b X35.here hx rfl (hb hby at_97) rfl k) ?_
    show OwnGo p e below s _ _ _ T35 (mkF m 98 #[.val (.int p1), .val (.int p2), .val (.int p3), .val (.int p4), .val (.int p5), .val (.int (1 : Int32)), .val (.int y0), .val (.int y1), .val (.int y2), .val (.int y3), .val (.ref b33), .val (.ref t35), .unset] [(.int ((y0 ^^^ (-1 : Int32)).toInt8.toInt32)), (.int (0 : Int32)), (.ref b33)])
    obtain ⟨cl36, Ar36, q36, S36, N36, H36, G36⟩ := id V_b33
    have hin36 : ¬ ((0 : Int32) < 0 ∨ cl36.slots.size ≤ ((0 : Int32)).toNatClampNeg) := inb_of S36 ⟨by decide, by decide⟩
    obtain ⟨T36, h36, X36, e36, W36, st36⟩ := stB X35 hx hZ rfl Ar36 (j := (0 : Int32)) hin36 (g := (mkF m 98 #[.val (.int p1), .val (.int p2), .val (.int p3), .val (.int p4), .val (.int p5), .val (.int (1 : Int32)), .val (.int y0), .val (.int y1), .val (.int y2), .val (.int y3), .val (.ref b33), .val (.ref t35), .unset] [(.int ((y0 ^^^ (-1 : Int32)).toInt8.toInt32)), (.int (0 : Int32)), (.ref b33)])) rfl rfl (hb hby at_98)
    have V_b33 : Arv Z h36 b33 k33 .byte (1 : Int32) [(.int (nar .byte ((y0 ^^^ (-1 : Int32)).toInt8.toInt32)))] (.int (0 : Int32)) := Arv.set Ar36 q36 S36 N36 H36 G36 (fits_nar_byte _) W36 0 rfl (Nat.le_of_ble_eq_true rfl)
    rw [show nar .byte ((y0 ^^^ (-1 : Int32)).toInt8.toInt32) = ((y0 ^^^ (-1 : Int32)).toInt8.toInt32) from own_nb _] at V_b33
    have E_b33 := E_b33.wr W36
    have E35 := E35.wr W36
    have F35 := F35.other W36 (Or.inl (Ne.symm ne_b33_t35))
    have V35 := V35.other W36 (Ne.symm ne_b33_c35)
    have O_ := O_.wr W36 g_b33
    have N36 := Fr.snoc X36 N35 g_b33
    have Z_ : n0 ≤ h36.size := by rw [W36.size]; exact Z_
    refine OwnGo.st st36 ?_
    show OwnGo p e below s _ _ _ T36 (mkF m 99 #[.val (.int p1), .val (.int p2), .val (.int p3), .val (.int p4), .val (.int p5), .val (.int (1 : Int32)), .val (.int y0), .val (.int y1), .val (.int y2), .val (.int y3), .val (.ref b33), .val (.ref t35), .unset] [])
    refine OwnGo.st (fun _ k => XS.iload X36.here hx rfl (hb hby at_99) rfl  k) ?_
    show OwnGo p e below s _ _ _ T36 (mkF m 101 #[.val (.int p1), .val (.int p2), .val (.int p3), .val (.int p4), .val (.int p5), .val (.int (1 : Int32)), .val (.int y0), .val (.int y1), .val (.int y2), .val (.int y3), .val (.ref b33), .val (.ref t35), .unset] [(.int (1 : Int32))])
    refine OwnGo.st (fun _ k => XS.iconst X36.here hx rfl (hb hby at_101) k) ?_
    show OwnGo p e below s _ _ _ T36 (mkF m 102 #[.val (.int p1), .val (.int p2), .val (.int p3), .val (.int p4), .val (.int p5), .val (.int (1 : Int32)), .val (.int y0), .val (.int y1), .val (.int y2), .val (.int y3), .val (.ref b33), .val (.ref t35), .unset] [(.int (1 : Int32)), (.int (1 : Int32))])
    refine OwnGo.st (fun _ k => XS.icmpYes X36.here hx rfl (pc0 := 102) (pc' := 114) rfl (hb hby at_102) rfl (flt ((by decide) : ¬ ((1 : Int32) < (1 : Int32)))).2.2.2 (by decide) (by decide) k) ?_
    show OwnGo p e below s _ _ _ T36 (mkF m 114 #[.val (.int p1), .val (.int p2), .val (.int p3), .val (.int p4), .val (.int p5), .val (.int (1 : Int32)), .val (.int y0), .val (.int y1), .val (.int y2), .val (.int y3), .val (.ref b33), .val (.ref t35), .unset] [])
    refine OwnGo.st (fun _ k => XS.iload X36.here hx rfl (hb hby at_114) rfl  k) ?_
    show OwnGo p e below s _ _ _ T36 (mkF m 116 #[.val (.int p1), .val (.int p2), .val (.int p3), .val (.int p4), .val (.int p5), .val (.int (1 : Int32)), .val (.int y0), .val (.int y1), .val (.int y2), .val (.int y3), .val (.ref b33), .val (.ref t35), .unset] [(.int (1 : Int32))])
    refine OwnGo.st (fun _ k => XS.iconst X36.here hx rfl (hb hby at_116) k) ?_
    show OwnGo p e below s _ _ _ T36 (mkF m 117 #[.val (.int p1), .val (.int p2), .val (.int p3), .val (.int p4), .val (.int p5), .val (.int (1 : Int32)), .val (.int y0), .val (.int y1), .val (.int y2), .val (.int y3), .val (.ref b33), .val (.ref t35), .unset] [(.int (2 : Int32)), (.int (1 : Int32))])
    refine OwnGo.st (fun _ k => XS.icmpYes X36.here hx rfl (pc0 := 117) (pc' := 129) rfl (hb hby at_117) rfl (flt ((by decide) : ¬ ((2 : Int32) < (1 : Int32)))).2.2.2 (by decide) (by decide) k) ?_
    show OwnGo p e below s _ _ _ T36 (mkF m 129 #[.val (.int p1), .val (.int p2), .val (.int p3), .val (.int p4), .val (.int p5), .val (.int (1 : Int32)), .val (.int y0), .val (.int y1), .val (.int y2), .val (.int y3), .val (.ref b33), .val (.ref t35), .unset] [])
    refine OwnGo.st (fun _ k => XS.iload X36.here hx rfl (hb hby at_129) rfl  k) ?_
    show OwnGo p e below s _ _ _ T36 (mkF m 131 #[.val (.int p1), .val (.int p2), .val (.int p3), .val (.int p4), .val (.int p5), .val (.int (1 : Int32)), .val (.int y0), .val (.int y1), .val (.int y2), .val (.int y3), .val (.ref b33), .val (.ref t35), .unset] [(.int (1 : Int32))])
    refine OwnGo.st (fun _ k => XS.iconst X36.here hx rfl (hb hby at_131) k) ?_
    show OwnGo p e below s _ _ _ T36 (mkF m 132 #[.val (.int p1), .val (.int p2), .val (.int p3), .val (.int p4), .val (.int p5), .val (.int (1 : Int32)), .val (.int y0), .val (.int y1), .val (.int y2), .val (.int y3), .val (.ref b33), .val (.ref t35), .unset] [(.int (3 : Int32)), (.int (1 : Int32))])
    refine OwnGo.st (fun _ k => XS.icmpYes X36.here hx rfl (pc0 := 132) (pc' := 144) rfl (hb hby at_132) rfl (flt ((by decide) : ¬ ((3 : Int32) < (1 : Int32)))).2.2.2 (by decide) (by decide) k) ?_
    show OwnGo p e below s _ _ _ T36 (mkF m 144 #[.val (.int p1), .val (.int p2), .val (.int p3), .val (.int p4), .val (.int p5), .val (.int (1 : Int32)), .val (.int y0), .val (.int y1), .val (.int y2), .val (.int y3), .val (.ref b33), .val (.ref t35), .unset] [])
    refine OwnGo.st (fun _ k => XS.aload X36.here hx rfl (hb hby at_144) rfl rfl  k) ?_
    show OwnGo p e below s _ _ _ T36 (mkF m 146 #[.val (.int p1), .val (.int p2), .val (.int p3), .val (.int p4), .val (.int p5), .val (.int (1 : Int32)), .val (.int y0), .val (.int y1), .val (.int y2), .val (.int y3), .val (.ref b33), .val (.ref t35), .unset] [(.ref t35)])
    obtain ⟨cq37, kq37, q37a, q37b, q37c⟩ := isOf hZ e36 E35
    obtain ⟨_, _, ⟨T37, L37, k37, n37⟩, -, X37, ⟨Lc37, hQ37, l37, y37, z37⟩, st37⟩ := X36.virtualBack hx (y := (⟨"com/example/cofferhand/cofferhand/nbt/ByteArrayTag", "length", "()I"⟩ : MethodName)) (z := (⟨"com/example/cofferhand/cofferhand/nbt/ByteArrayTag", "length", "()I"⟩ : MethodName)) hown (mvT hZ (hw _ (List.mem_of_getElem? (i := 25) rfl))) (mvT hZ (hw _ (List.mem_of_getElem? (i := 26) rfl))) (notFace_of_selects (args := #[]) (mvT hZ (hw _ (List.mem_of_getElem? (i := 28) rfl)))) (mvT hZ (hw _ (List.mem_of_getElem? (i := 28) rfl))) (mvT hZ (hw _ (List.mem_of_getElem? (i := 27) rfl))) (by decide) (backOf (W := 0) (rmlen l Z a0 hw [] t35 c35 k33 (1 : Int32) [(.int y0)] h36 n0 Z_ F35 V35) hZ (hw _ (List.mem_of_getElem? (i := 29) rfl)) (hw _ (List.mem_of_getElem? (i := 4) rfl)) (by decide) (by decide)) q37a q37c (g := (mkF m 146 #[.val (.int p1), .val (.int p2), .val (.int p3), .val (.int p4), .val (.int p5), .val (.int (1 : Int32)), .val (.int y0), .val (.int y1), .val (.int y2), .val (.int y3), .val (.ref b33), .val (.ref t35), .unset] [(.ref t35)])) rfl (by rw [hml]; rfl) (Steps.refl _) (argsL := []) (rest := []) (lenOf pd_2 rfl) rfl (by show 2 * 0 + _ ≤ _; exact Nat.le_of_eq rfl) (hb hby at_146) (fun _ _ => ⟨rfl, e36, (by decide : 3 + 0 ≤ _), (by decide : 3 + 0 ≤ _)⟩)
    dsimp only [Pt.U, Pt.locs, Pt.cells, Pt.slots] at X37 l37 y37 z37 st37 hQ37
    subst l37 y37 z37
    obtain ⟨rfl, N37q, e37⟩ := hQ37
    have N37 := Fr.app N36 N37q
    refine OwnGo.st (fun _ k => st37.trans k) ?_
    show OwnGo p e below s _ _ _ T37 (mkF m 149 #[.val (.int p1), .val (.int p2), .val (.int p3), .val (.int p4), .val (.int p5), .val (.int (1 : Int32)), .val (.int y0), .val (.int y1), .val (.int y2), .val (.int y3), .val (.ref b33), .val (.ref t35), .unset] [(.int (1 : Int32))])
    refine OwnGo.st (fun _ k => XS.iload X37.here hx rfl (hb hby at_149) rfl  k) ?_
    show OwnGo p e below s _ _ _ T37 (mkF m 151 #[.val (.int p1), .val (.int p2), .val (.int p3), .val (.int p4), .val (.int p5), .val (.int (1 : Int32)), .val (.int y0), .val (.int y1), .val (.int y2), .val (.int y3), .val (.ref b33), .val (.ref t35), .unset] [(.int (1 : Int32)), (.int (1 : Int32))])
    refine OwnGo.st (fun _ k => XS.icmpNo X37.here hx rfl (hb hby at_151) rfl (teq (rfl : (1 : Int32) = (1 : Int32))).2 k) ?_
    show OwnGo p e below s _ _ _ T37 (mkF m 154 #[.val (.int p1), .val (.int p2), .val (.int p3), .val (.int p4), .val (.int p5), .val (.int (1 : Int32)), .val (.int y0), .val (.int y1), .val (.int y2), .val (.int y3), .val (.ref b33), .val (.ref t35), .unset] [])
    refine OwnGo.st (fun _ k => XS.aload X37.here hx rfl (hb hby at_154) rfl rfl  k) ?_
    show OwnGo p e below s _ _ _ T37 (mkF m 156 #[.val (.int p1), .val (.int p2), .val (.int p3), .val (.int p4), .val (.int p5), .val (.int (1 : Int32)), .val (.int y0), .val (.int y1), .val (.int y2), .val (.int y3), .val (.ref b33), .val (.ref t35), .unset] [(.ref t35)])
    obtain ⟨cq38, kq38, q38a, q38b, q38c⟩ := isOf hZ e37 E35
    obtain ⟨_, _, ⟨T38, L38, k38, n38⟩, -, X38, ⟨Lc38, hQ38, l38, y38, z38⟩, st38⟩ := X37.virtualBack hx (y := (⟨"com/example/cofferhand/cofferhand/nbt/ByteArrayTag", "type", "()Lcom/example/cofferhand/cofferhand/nbt/TagType;"⟩ : MethodName)) (z := (⟨"com/example/cofferhand/cofferhand/nbt/ByteArrayTag", "type", "()Lcom/example/cofferhand/cofferhand/nbt/TagType;"⟩ : MethodName)) hown (mvT hZ (hw _ (List.mem_of_getElem? (i := 30) rfl))) (mvT hZ (hw _ (List.mem_of_getElem? (i := 31) rfl))) (notFace_of_selects (args := #[]) (mvT hZ (hw _ (List.mem_of_getElem? (i := 33) rfl)))) (mvT hZ (hw _ (List.mem_of_getElem? (i := 33) rfl))) (mvT hZ (hw _ (List.mem_of_getElem? (i := 32) rfl))) (by decide) (backOf (W := 0) (rmtyp l Z a0 hw [] t35 u_TagType_BYTE_ARRAY h36 n0 Z_ O_ S_u_TagType_BYTE_ARRAY E_u_TagType_BYTE_ARRAY) hZ (hw _ (List.mem_of_getElem? (i := 34) rfl)) (hw _ (List.mem_of_getElem? (i := 4) rfl)) (by decide) (by decide)) q38a q38c (g := (mkF m 156 #[.val (.int p1), .val (.int p2), .val (.int p3), .val (.int p4), .val (.int p5), .val (.int (1 : Int32)), .val (.int y0), .val (.int y1), .val (.int y2), .val (.int y3), .val (.ref b33), .val (.ref t35), .unset] [(.ref t35)])) rfl (by rw [hml]; rfl) (Steps.refl _) (argsL := []) (rest := []) (lenOf pd_3 rfl) rfl (by show 2 * 0 + _ ≤ _; exact Nat.le_of_eq rfl) (hb hby at_156) (fun _ _ => ⟨rfl, e37, (by decide : 3 + 0 ≤ _), (by decide : 3 + 0 ≤ _)⟩)
    dsimp only [Pt.U, Pt.locs, Pt.cells, Pt.slots] at X38 l38 y38 z38 st38 hQ38
    subst l38 y38 z38
    obtain ⟨rfl, N38q, e38⟩ := hQ38
    have N38 := Fr.app N37 N38q
    refine OwnGo.st (fun _ k => st38.trans k) ?_
    show OwnGo p e below s _ _ _ T38 (mkF m 159 #[.val (.int p1), .val (.int p2), .val (.int p3), .val (.int p4), .val (.int p5), .val (.int (1 : Int32)), .val (.int y0), .val (.int y1), .val (.int y2), .val (.int y3), .val (.ref b33), .val (.ref t35), .unset] [(.ref u_TagType_BYTE_ARRAY)])
    obtain ⟨T39, X39, e39, st39⟩ := getS2 X38 hx hZ hown (host := "") (Or.inl (hw _ (List.mem_of_getElem? (i := 38) rfl))) Via.refl e38 (S_u_TagType_BYTE_ARRAY.ext O_.2) (g := (mkF m 159 #[.val (.int p1), .val (.int p2), .val (.int p3), .val (.int p4), .val (.int p5), .val (.int (1 : Int32)), .val (.int y0), .val (.int y1), .val (.int y2), .val (.int y3), .val (.ref b33), .val (.ref t35), .unset] [(.ref u_TagType_BYTE_ARRAY)])) rfl (hb hby at_159)
    refine OwnGo.st st39 ?_
    show OwnGo p e below s _ _ _ T39 (mkF m 162 #[.val (.int p1), .val (.int p2), .val (.int p3), .val (.int p4), .val (.int p5), .val (.int (1 : Int32)), .val (.int y0), .val (.int y1), .val (.int y2), .val (.int y3), .val (.ref b33), .val (.ref t35), .unset] [(.ref u_TagType_BYTE_ARRAY), (.ref u_TagType_BYTE_ARRAY)])
    refine OwnGo.st (fun _ k => Jvm.RoadKit.acmp (g := (mkF m 162 #[.val (.int p1), .val (.int p2), .val (.int p3), .val (.int p4), .val (.int p5), .val (.int (1 : Int32)), .val (.int y0), .val (.int y1), .val (.int y2), .val (.int y3), .val (.ref b33), .val (.ref t35), .unset] [(.ref u_TagType_BYTE_ARRAY), (.ref u_TagType_BYTE_ARRAY)])) X39 hx rfl rfl rfl (pc0 := 162) (pc' := 165) (same := true) rfl (hb hby at_162) rfl (decide_eq_true rfl) (by decide) (by decide) k) ?_
    show OwnGo p e below s _ _ _ T39 (mkF m 165 #[.val (.int p1), .val (.int p2), .val (.int p3), .val (.int p4), .val (.int p5), .val (.int (1 : Int32)), .val (.int y0), .val (.int y1), .val (.int y2), .val (.int y3), .val (.ref b33), .val (.ref t35), .unset] [])
    refine OwnGo.st (fun _ k => XS.iconst X39.here hx rfl (hb hby at_165) k) ?_
    show OwnGo p e below s _ _ _ T39 (mkF m 166 #[.val (.int p1), .val (.int p2), .val (.int p3), .val (.int p4), .val (.int p5), .val (.int (1 : Int32)), .val (.int y0), .val (.int y1), .val (.int y2), .val (.int y3), .val (.ref b33), .val (.ref t35), .unset] [(.int (1 : Int32))])
    refine OwnGo.st (fun _ k => XS.goto X39.here hx rfl (pc0 := 166) (pc' := 170) rfl (hb hby at_166) (by decide) (by decide) k) ?_
    show OwnGo p e below s _ _ _ T39 (mkF m 170 #[.val (.int p1), .val (.int p2), .val (.int p3), .val (.int p4), .val (.int p5), .val (.int (1 : Int32)), .val (.int y0), .val (.int y1), .val (.int y2), .val (.int y3), .val (.ref b33), .val (.ref t35), .unset] [(.int (1 : Int32))])
    refine OwnGo.st (fun _ k => XS.istore X39.here hx rfl (hb hby at_170) rfl (l' := #[.val (.int p1), .val (.int p2), .val (.int p3), .val (.int p4), .val (.int p5), .val (.int (1 : Int32)), .val (.int y0), .val (.int y1), .val (.int y2), .val (.int y3), .val (.ref b33), .val (.ref t35), .val (.int (1 : Int32))]) rfl k) ?_
    show OwnGo p e below s _ _ _ T39 (mkF m 172 #[.val (.int p1), .val (.int p2), .val (.int p3), .val (.int p4), .val (.int p5), .val (.int (1 : Int32)), .val (.int y0), .val (.int y1), .val (.int y2), .val (.int y3), .val (.ref b33), .val (.ref t35), .val (.int (1 : Int32))] [])
    refine OwnGo.st (fun _ k => XS.iload X39.here hx rfl (hb hby at_172) rfl  k) ?_
    show OwnGo p e below s _ _ _ T39 (mkF m 174 #[.val (.int p1), .val (.int p2), .val (.int p3), .val (.int p4), .val (.int p5), .val (.int (1 : Int32)), .val (.int y0), .val (.int y1), .val (.int y2), .val (.int y3), .val (.ref b33), .val (.ref t35), .val (.int (1 : Int32))] [(.int (1 : Int32))])
    refine OwnGo.st (fun _ k => XS.ifNo X39.here hx rfl (hb hby at_174) rfl ((if0 _ _).trans (feq ((by decide) : ¬ ((1 : Int32) = (0 : Int32)))).1) k) ?_
    show OwnGo p e below s _ _ _ T39 (mkF m 177 #[.val (.int p1), .val (.int p2), .val (.int p3), .val (.int p4), .val (.int p5), .val (.int (1 : Int32)), .val (.int y0), .val (.int y1), .val (.int y2), .val (.int y3), .val (.ref b33), .val (.ref t35), .val (.int (1 : Int32))] [])
    refine OwnGo.st (fun _ k => XS.iload X39.here hx rfl (hb hby at_177) rfl  k) ?_
    show OwnGo p e below s _ _ _ T39 (mkF m 179 #[.val (.int p1), .val (.int p2), .val (.int p3), .val (.int p4), .val (.int p5), .val (.int (1 : Int32)), .val (.int y0), .val (.int y1), .val (.int y2), .val (.int y3), .val (.ref b33), .val (.ref t35), .val (.int (1 : Int32))] [(.int (1 : Int32))])
    refine OwnGo.st (fun _ k => XS.ifNo X39.here hx rfl (hb hby at_179) rfl ((if0 _ _).trans (tlt ((by decide) : (0 : Int32) < (1 : Int32))).2.2.2) k) ?_
    show OwnGo p e below s _ _ _ T39 (mkF m 182 #[.val (.int p1), .val (.int p2), .val (.int p3), .val (.int p4), .val (.int p5), .val (.int (1 : Int32)), .val (.int y0), .val (.int y1), .val (.int y2), .val (.int y3), .val (.ref b33), .val (.ref t35), .val (.int (1 : Int32))] [])
    refine OwnGo.st (fun _ k => XS.aload X39.here hx rfl (hb hby at_182) rfl rfl  k) ?_
    show OwnGo p e below s _ _ _ T39 (mkF m 184 #[.val (.int p1), .val (.int p2), .val (.int p3), .val (.int p4), .val (.int p5), .val (.int (1 : Int32)), .val (.int y0), .val (.int y1), .val (.int y2), .val (.int y3), .val (.ref b33), .val (.ref t35), .val (.int (1 : Int32))] [(.ref t35)])
    refine OwnGo.st (fun _ k => XS.iconst X39.here hx rfl (hb hby at_184) k) ?_
    show OwnGo p e below s _ _ _ T39 (mkF m 185 #[.val (.int p1), .val (.int p2), .val (.int p3), .val (.int p4), .val (.int p5), .val (.int (1 : Int32)), .val (.int y0), .val (.int y1), .val (.int y2), .val (.int y3), .val (.ref b33), .val (.ref t35), .val (.int (1 : Int32))] [(.int (0 : Int32)), (.ref t35)])
    obtain ⟨cq40, kq40, q40a, q40b, q40c⟩ := isOf hZ e39 E35
    obtain ⟨_, _, ⟨T40, L40, k40, n40⟩, -, X40, ⟨Lc40, hQ40, l40, y40, z40⟩, st40⟩ := X39.virtualBack hx (y := (⟨"com/example/cofferhand/cofferhand/nbt/ByteArrayTag", "get", "(I)B"⟩ : MethodName)) (z := (⟨"com/example/cofferhand/cofferhand/nbt/ByteArrayTag", "get", "(I)B"⟩ : MethodName)) hown (mvT hZ (hw _ (List.mem_of_getElem? (i := 39) rfl))) (mvT hZ (hw _ (List.mem_of_getElem? (i := 40) rfl))) (notFace_of_selects (args := #[]) (mvT hZ (hw _ (List.mem_of_getElem? (i := 42) rfl)))) (mvT hZ (hw _ (List.mem_of_getElem? (i := 42) rfl))) (mvT hZ (hw _ (List.mem_of_getElem? (i := 41) rfl))) (by decide) (backOf (W := 0) (rmget l Z a0 hw [] t35 c35 k33 (1 : Int32) [(.int y0)] (0 : Int32) y0 h36 n0 Z_ F35 V35 ⟨by decide, by decide⟩ rfl (by rw [hy0]; exact own_nb _)) hZ (hw _ (List.mem_of_getElem? (i := 43) rfl)) (hw _ (List.mem_of_getElem? (i := 4) rfl)) (by decide) (by decide)) q40a q40c (g := (mkF m 185 #[.val (.int p1), .val (.int p2), .val (.int p3), .val (.int p4), .val (.int p5), .val (.int (1 : Int32)), .val (.int y0), .val (.int y1), .val (.int y2), .val (.int y3), .val (.ref b33), .val (.ref t35), .val (.int (1 : Int32))] [(.int (0 : Int32)), (.ref t35)])) rfl (by rw [hml]; rfl) (Steps.refl _) (argsL := [(.int (0 : Int32))]) (rest := []) (lenOf pd_4 rfl) rfl (by show 2 * 0 + _ ≤ _; exact Nat.le_of_eq rfl) (hb hby at_185) (fun _ _ => ⟨rfl, e39, (by decide : 3 + 0 ≤ _), (by decide : 3 + 0 ≤ _)⟩)
    dsimp only [Pt.U, Pt.locs, Pt.cells, Pt.slots] at X40 l40 y40 z40 st40 hQ40
    subst l40 y40 z40
    obtain ⟨rfl, N40q, e40⟩ := hQ40
    have N40 := Fr.app N38 N40q
    refine OwnGo.st (fun _ k => st40.trans k) ?_
    show OwnGo p e below s _ _ _ T40 (mkF m 188 #[.val (.int p1), .val (.int p2), .val (.int p3), .val (.int p4), .val (.int p5), .val (.int (1 : Int32)), .val (.int y0), .val (.int y1), .val (.int y2), .val (.int y3), .val (.ref b33), .val (.ref t35), .val (.int (1 : Int32))] [(.int y0)])
    refine OwnGo.st (fun _ k => XS.iload X40.here hx rfl (hb hby at_188) rfl  k) ?_
    show OwnGo p e below s _ _ _ T40 (mkF m 190 #[.val (.int p1), .val (.int p2), .val (.int p3), .val (.int p4), .val (.int p5), .val (.int (1 : Int32)), .val (.int y0), .val (.int y1), .val (.int y2), .val (.int y3), .val (.ref b33), .val (.ref t35), .val (.int (1 : Int32))] [(.int y0), (.int y0)])
    refine OwnGo.st (fun _ k => XS.icmpNo X40.here hx rfl (hb hby at_190) rfl (teq (rfl : y0 = y0)).2 k) ?_
    show OwnGo p e below s _ _ _ T40 (mkF m 193 #[.val (.int p1), .val (.int p2), .val (.int p3), .val (.int p4), .val (.int p5), .val (.int (1 : Int32)), .val (.int y0), .val (.int y1), .val (.int y2), .val (.int y3), .val (.ref b33), .val (.ref t35), .val (.int (1 : Int32))] [])
    refine OwnGo.st (fun _ k => XS.iconst X40.here hx rfl (hb hby at_193) k) ?_
    show OwnGo p e below s _ _ _ T40 (mkF m 194 #[.val (.int p1), .val (.int p2), .val (.int p3), .val (.int p4), .val (.int p5), .val (.int (1 : Int32)), .val (.int y0), .val (.int y1), .val (.int y2), .val (.int y3), .val (.ref b33), .val (.ref t35), .val (.int (1 : Int32))] [(.int (1 : Int32))])
    refine OwnGo.st (fun _ k => XS.goto X40.here hx rfl (pc0 := 194) (pc' := 198) rfl (hb hby at_194) (by decide) (by decide) k) ?_
    show OwnGo p e below s _ _ _ T40 (mkF m 198 #[.val (.int p1), .val (.int p2), .val (.int p3), .val (.int p4), .val (.int p5), .val (.int (1 : Int32)), .val (.int y0), .val (.int y1), .val (.int y2), .val (.int y3), .val (.ref b33), .val (.ref t35), .val (.int (1 : Int32))] [(.int (1 : Int32))])
    refine OwnGo.st (fun _ k => XS.istore X40.here hx rfl (hb hby at_198) rfl (l' := #[.val (.int p1), .val (.int p2), .val (.int p3), .val (.int p4), .val (.int p5), .val (.int (1 : Int32)), .val (.int y0), .val (.int y1), .val (.int y2), .val (.int y3), .val (.ref b33), .val (.ref t35), .val (.int (1 : Int32))]) rfl k) ?_
    show OwnGo p e below s _ _ _ T40 (mkF m 200 #[.val (.int p1), .val (.int p2), .val (.int p3), .val (.int p4), .val (.int p5), .val (.int (1 : Int32)), .val (.int y0), .val (.int y1), .val (.int y2), .val (.int y3), .val (.ref b33), .val (.ref t35), .val (.int (1 : Int32))] [])
    refine OwnGo.st (fun _ k => XS.iload X40.here hx rfl (hb hby at_200) rfl  k) ?_
    show OwnGo p e below s _ _ _ T40 (mkF m 202 #[.val (.int p1), .val (.int p2), .val (.int p3), .val (.int p4), .val (.int p5), .val (.int (1 : Int32)), .val (.int y0), .val (.int y1), .val (.int y2), .val (.int y3), .val (.ref b33), .val (.ref t35), .val (.int (1 : Int32))] [(.int (1 : Int32))])
    refine OwnGo.st (fun _ k => XS.ifNo X40.here hx rfl (hb hby at_202) rfl ((if0 _ _).trans (feq ((by decide) : ¬ ((1 : Int32) = (0 : Int32)))).1) k) ?_
    show OwnGo p e below s _ _ _ T40 (mkF m 205 #[.val (.int p1), .val (.int p2), .val (.int p3), .val (.int p4), .val (.int p5), .val (.int (1 : Int32)), .val (.int y0), .val (.int y1), .val (.int y2), .val (.int y3), .val (.ref b33), .val (.ref t35), .val (.int (1 : Int32))] [])
    refine OwnGo.st (fun _ k => XS.iload X40.here hx rfl (hb hby at_205) rfl  k) ?_
    show OwnGo p e below s _ _ _ T40 (mkF m 207 #[.val (.int p1), .val (.int p2), .val (.int p3), .val (.int p4), .val (.int p5), .val (.int (1 : Int32)), .val (.int y0), .val (.int y1), .val (.int y2), .val (.int y3), .val (.ref b33), .val (.ref t35), .val (.int (1 : Int32))] [(.int (1 : Int32))])
    refine OwnGo.st (fun _ k => XS.iconst X40.here hx rfl (hb hby at_207) k) ?_
    show OwnGo p e below s _ _ _ T40 (mkF m 208 #[.val (.int p1), .val (.int p2), .val (.int p3), .val (.int p4), .val (.int p5), .val (.int (1 : Int32)), .val (.int y0), .val (.int y1), .val (.int y2), .val (.int y3), .val (.ref b33), .val (.ref t35), .val (.int (1 : Int32))] [(.int (1 : Int32)), (.int (1 : Int32))])
    refine OwnGo.st (fun _ k => XS.icmpYes X40.here hx rfl (pc0 := 208) (pc' := 229) rfl (hb hby at_208) rfl (flt ((by decide) : ¬ ((1 : Int32) < (1 : Int32)))).2.2.2 (by decide) (by decide) k) ?_
    show OwnGo p e below s _ _ _ T40 (mkF m 229 #[.val (.int p1), .val (.int p2), .val (.int p3), .val (.int p4), .val (.int p5), .val (.int (1 : Int32)), .val (.int y0), .val (.int y1), .val (.int y2), .val (.int y3), .val (.ref b33), .val (.ref t35), .val (.int (1 : Int32))] [])
    refine OwnGo.st (fun _ k => XS.iload X40.here hx rfl (hb hby at_229) rfl  k) ?_
    show OwnGo p e below s _ _ _ T40 (mkF m 231 #[.val (.int p1), .val (.int p2), .val (.int p3), .val (.int p4), .val (.int p5), .val (.int (1 : Int32)), .val (.int y0), .val (.int y1), .val (.int y2), .val (.int y3), .val (.ref b33), .val (.ref t35), .val (.int (1 : Int32))] [(.int (1 : Int32))])
    refine OwnGo.st (fun _ k => XS.ifNo X40.here hx rfl (hb hby at_231) rfl ((if0 _ _).trans (feq ((by decide) : ¬ ((1 : Int32) = (0 : Int32)))).1) k) ?_
    show OwnGo p e below s _ _ _ T40 (mkF m 234 #[.val (.int p1), .val (.int p2), .val (.int p3), .val (.int p4), .val (.int p5), .val (.int (1 : Int32)), .val (.int y0), .val (.int y1), .val (.int y2), .val (.int y3), .val (.ref b33), .val (.ref t35), .val (.int (1 : Int32))] [])
    refine OwnGo.st (fun _ k => XS.iload X40.here hx rfl (hb hby at_234) rfl  k) ?_
    show OwnGo p e below s _ _ _ T40 (mkF m 236 #[.val (.int p1), .val (.int p2), .val (.int p3), .val (.int p4), .val (.int p5), .val (.int (1 : Int32)), .val (.int y0), .val (.int y1), .val (.int y2), .val (.int y3), .val (.ref b33), .val (.ref t35), .val (.int (1 : Int32))] [(.int (1 : Int32))])
    refine OwnGo.st (fun _ k => XS.iconst X40.here hx rfl (hb hby at_236) k) ?_
    show OwnGo p e below s _ _ _ T40 (mkF m 237 #[.val (.int p1), .val (.int p2), .val (.int p3), .val (.int p4), .val (.int p5), .val (.int (1 : Int32)), .val (.int y0), .val (.int y1), .val (.int y2), .val (.int y3), .val (.ref b33), .val (.ref t35), .val (.int (1 : Int32))] [(.int (2 : Int32)), (.int (1 : Int32))])
    refine OwnGo.st (fun _ k => XS.icmpYes X40.here hx rfl (pc0 := 237) (pc' := 258) rfl (hb hby at_237) rfl (flt ((by decide) : ¬ ((2 : Int32) < (1 : Int32)))).2.2.2 (by decide) (by decide) k) ?_
    show OwnGo p e below s _ _ _ T40 (mkF m 258 #[.val (.int p1), .val (.int p2), .val (.int p3), .val (.int p4), .val (.int p5), .val (.int (1 : Int32)), .val (.int y0), .val (.int y1), .val (.int y2), .val (.int y3), .val (.ref b33), .val (.ref t35), .val (.int (1 : Int32))] [])
    refine OwnGo.st (fun _ k => XS.iload X40.here hx rfl (hb hby at_258) rfl  k) ?_
    show OwnGo p e below s _ _ _ T40 (mkF m 260 #[.val (.int p1), .val (.int p2), .val (.int p3), .val (.int p4), .val (.int p5), .val (.int (1 : Int32)), .val (.int y0), .val (.int y1), .val (.int y2), .val (.int y3), .val (.ref b33), .val (.ref t35), .val (.int (1 : Int32))] [(.int (1 : Int32))])
    refine OwnGo.st (fun _ k => XS.ifNo X40.here hx rfl (hb hby at_260) rfl ((if0 _ _).trans (feq ((by decide) : ¬ ((1 : Int32) = (0 : Int32)))).1) k) ?_
    show OwnGo p e below s _ _ _ T40 (mkF m 263 #[.val (.int p1), .val (.int p2), .val (.int p3), .val (.int p4), .val (.int p5), .val (.int (1 : Int32)), .val (.int y0), .val (.int y1), .val (.int y2), .val (.int y3), .val (.ref b33), .val (.ref t35), .val (.int (1 : Int32))] [])
    refine OwnGo.st (fun _ k => XS.iload X40.here hx rfl (hb hby at_263) rfl  k) ?_
    show OwnGo p e below s _ _ _ T40 (mkF m 265 #[.val (.int p1), .val (.int p2), .val (.int p3), .val (.int p4), .val (.int p5), .val (.int (1 : Int32)), .val (.int y0), .val (.int y1), .val (.int y2), .val (.int y3), .val (.ref b33), .val (.ref t35), .val (.int (1 : Int32))] [(.int (1 : Int32))])
    refine OwnGo.st (fun _ k => XS.iconst X40.here hx rfl (hb hby at_265) k) ?_
    show OwnGo p e below s _ _ _ T40 (mkF m 266 #[.val (.int p1), .val (.int p2), .val (.int p3), .val (.int p4), .val (.int p5), .val (.int (1 : Int32)), .val (.int y0), .val (.int y1), .val (.int y2), .val (.int y3), .val (.ref b33), .val (.ref t35), .val (.int (1 : Int32))] [(.int (3 : Int32)), (.int (1 : Int32))])
    refine OwnGo.st (fun _ k => XS.icmpYes X40.here hx rfl (pc0 := 266) (pc' := 287) rfl (hb hby at_266) rfl (flt ((by decide) : ¬ ((3 : Int32) < (1 : Int32)))).2.2.2 (by decide) (by decide) k) ?_
    show OwnGo p e below s _ _ _ T40 (mkF m 287 #[.val (.int p1), .val (.int p2), .val (.int p3), .val (.int p4), .val (.int p5), .val (.int (1 : Int32)), .val (.int y0), .val (.int y1), .val (.int y2), .val (.int y3), .val (.ref b33), .val (.ref t35), .val (.int (1 : Int32))] [])
    refine OwnGo.st (fun _ k => XS.iload X40.here hx rfl (hb hby at_287) rfl  k) ?_
    show OwnGo p e below s _ _ _ T40 (mkF m 289 #[.val (.int p1), .val (.int p2), .val (.int p3), .val (.int p4), .val (.int p5), .val (.int (1 : Int32)), .val (.int y0), .val (.int y1), .val (.int y2), .val (.int y3), .val (.ref b33), .val (.ref t35), .val (.int (1 : Int32))] [(.int (1 : Int32))])
    exact OwnGo.retN X40 hx (t := .boolean) hret hlk (by simp) (hb hby at_289) (by show Q0 Z p1 p2 p3 p4 p5 u_TagType_BYTE_ARRAY h0 n0 _ T40.heap _; rw [e40]; exact ⟨rfl, N40⟩) (by decide) (by decide)
  · show OwnGo p e below s _ _ _ s₁ (mkF m 25 #[.val (.int p1), .val (.int p2), .val (.int p3), .val (.int p4), .val (.int p5), .val (.int (2 : Int32)), .val (.int y0), .val (.int y1), .val (.int y2), .val (.int y3), .unset, .unset, .unset] [])
    refine OwnGo.st (fun _ k => XS.iload X0.here hx rfl (hb hby at_25) rfl  k) ?_
    show OwnGo p e below s _ _ _ s₁ (mkF m 27 #[.val (.int p1), .val (.int p2), .val (.int p3), .val (.int p4), .val (.int p5), .val (.int (2 : Int32)), .val (.int y0), .val (.int y1), .val (.int y2), .val (.int y3), .unset, .unset, .unset] [(.int (2 : Int32))])
    obtain ⟨T41, h41, k41, X41, e41, E41, A41, Ex41, st41⟩ := newPE X0 hx hZ (hw _ (List.mem_of_getElem? (i := 1) rfl)) e0 (g := (mkF m 27 #[.val (.int p1), .val (.int p2), .val (.int p3), .val (.int p4), .val (.int p5), .val (.int (2 : Int32)), .val (.int y0), .val (.int y1), .val (.int y2), .val (.int y3), .unset, .unset, .unset] [(.int (2 : Int32))])) rfl (hb hby at_27) rfl (by decide) (cap := 2) (by decide) (by decide) (by decide) (by decide) (ad := "[B") (by decide)
    obtain ⟨b41, g41⟩ : ∃ z, z = h0.size := ⟨_, rfl⟩
    rw [← g41] at A41 Ex41 st41
    have g_b41 : n0 ≤ b41 := Nat.le_trans Z_ (Nat.le_of_eq g41.symm)
    have O_ := O_.ext E41
    have Z_ : n0 ≤ h41.size := Nat.le_trans Z_ E41.1
    have V_b41 : Arv Z h41 b41 k41 .byte (2 : Int32) [(.int (0 : Int32)), (.int (0 : Int32))] (.int (0 : Int32)) := (Arv.new A41 (by decide)).pad (pad_rep [] (.int (0 : Int32)) 2)
    have E_b41 := Ex41
    refine OwnGo.st st41 ?_
    show OwnGo p e below s _ _ _ T41 (mkF m 29 #[.val (.int p1), .val (.int p2), .val (.int p3), .val (.int p4), .val (.int p5), .val (.int (2 : Int32)), .val (.int y0), .val (.int y1), .val (.int y2), .val (.int y3), .unset, .unset, .unset] [(.ref b41)])
    refine OwnGo.st (fun _ k => XS.astore X41.here hx rfl (hb hby at_29) rfl rfl (l' := #[.val (.int p1), .val (.int p2), .val (.int p3), .val (.int p4), .val (.int p5), .val (.int (2 : Int32)), .val (.int y0), .val (.int y1), .val (.int y2), .val (.int y3), .val (.ref b41), .unset, .unset]) rfl k) ?_
    show OwnGo p e below s _ _ _ T41 (mkF m 31 #[.val (.int p1), .val (.int p2), .val (.int p3), .val (.int p4), .val (.int p5), .val (.int (2 : Int32)), .val (.int y0), .val (.int y1), .val (.int y2), .val (.int y3), .val (.ref b41), .unset, .unset] [])
    refine OwnGo.st (fun _ k => XS.iload X41.here hx rfl (hb hby at_31) rfl  k) ?_
    show OwnGo p e below s _ _ _ T41 (mkF m 33 #[.val (.int p1), .val (.int p2), .val (.int p3), .val (.int p4), .val (.int p5), .val (.int (2 : Int32)), .val (.int y0), .val (.int y1), .val (.int y2), .val (.int y3), .val (.ref b41), .unset, .unset] [(.int (2 : Int32))])
    refine OwnGo.st (fun _ k => XS.ifNo X41.here hx rfl (hb hby at_33) rfl ((if0 _ _).trans (tlt ((by decide) : (0 : Int32) < (2 : Int32))).2.2.2) k) ?_
    show OwnGo p e below s _ _ _ T41 (mkF m 36 #[.val (.int p1), .val (.int p2), .val (.int p3), .val (.int p4), .val (.int p5), .val (.int (2 : Int32)), .val (.int y0), .val (.int y1), .val (.int y2), .val (.int y3), .val (.ref b41), .unset, .unset] [])
    refine OwnGo.st (fun _ k => XS.aload X41.here hx rfl (hb hby at_36) rfl rfl  k) ?_
    show OwnGo p e below s _ _ _ T41 (mkF m 38 #[.val (.int p1), .val (.int p2), .val (.int p3), .val (.int p4), .val (.int p5), .val (.int (2 : Int32)), .val (.int y0), .val (.int y1), .val (.int y2), .val (.int y3), .val (.ref b41), .unset, .unset] [(.ref b41)])
    refine OwnGo.st (fun _ k => XS.iconst X41.here hx rfl (hb hby at_38) k) ?_
    show OwnGo p e below s _ _ _ T41 (mkF m 39 #[.val (.int p1), .val (.int p2), .val (.int p3), .val (.int p4), .val (.int p5), .val (.int (2 : Int32)), .val (.int y0), .val (.int y1), .val (.int y2), .val (.int y3), .val (.ref b41), .unset, .unset] [(.int (0 : Int32)), (.ref b41)])
    refine OwnGo.st (fun _ k => XS.iload X41.here hx rfl (hb hby at_39) rfl  k) ?_
    show OwnGo p e below s _ _ _ T41 (mkF m 41 #[.val (.int p1), .val (.int p2), .val (.int p3), .val (.int p4), .val (.int p5), .val (.int (2 : Int32)), .val (.int y0), .val (.int y1), .val (.int y2), .val (.int y3), .val (.ref b41), .unset, .unset] [(.int y0), (.int (0 : Int32)), (.ref b41)])
    obtain ⟨cl42, Ar42, q42, S42, N42, H42, G42⟩ := id V_b41
    have hin42 : ¬ ((0 : Int32) < 0 ∨ cl42.slots.size ≤ ((0 : Int32)).toNatClampNeg) := inb_of S42 ⟨by decide, by decide⟩
    obtain ⟨T42, h42, X42, e42, W42, st42⟩ := stB X41 hx hZ e41 Ar42 (j := (0 : Int32)) hin42 (g := (mkF m 41 #[.val (.int p1), .val (.int p2), .val (.int p3), .val (.int p4), .val (.int p5), .val (.int (2 : Int32)), .val (.int y0), .val (.int y1), .val (.int y2), .val (.int y3), .val (.ref b41), .unset, .unset] [(.int y0), (.int (0 : Int32)), (.ref b41)])) rfl rfl (hb hby at_41)
    have V_b41 : Arv Z h42 b41 k41 .byte (2 : Int32) [(.int (nar .byte y0)), (.int (0 : Int32))] (.int (0 : Int32)) := Arv.set Ar42 q42 S42 N42 H42 G42 (fits_nar_byte _) W42 0 rfl (Nat.le_of_ble_eq_true rfl)
    rw [show nar .byte y0 = y0 from (by rw [hy0]; exact own_nb _)] at V_b41
    have E_b41 := E_b41.wr W42
    have O_ := O_.wr W42 g_b41
    have N42 := Fr.snoc X42 N0 g_b41
    have Z_ : n0 ≤ h42.size := by rw [W42.size]; exact Z_
    refine OwnGo.st st42 ?_
    show OwnGo p e below s _ _ _ T42 (mkF m 42 #[.val (.int p1), .val (.int p2), .val (.int p3), .val (.int p4), .val (.int p5), .val (.int (2 : Int32)), .val (.int y0), .val (.int y1), .val (.int y2), .val (.int y3), .val (.ref b41), .unset, .unset] [])
    refine OwnGo.st (fun _ k => XS.iload X42.here hx rfl (hb hby at_42) rfl  k) ?_
    show OwnGo p e below s _ _ _ T42 (mkF m 44 #[.val (.int p1), .val (.int p2), .val (.int p3), .val (.int p4), .val (.int p5), .val (.int (2 : Int32)), .val (.int y0), .val (.int y1), .val (.int y2), .val (.int y3), .val (.ref b41), .unset, .unset] [(.int (2 : Int32))])
    refine OwnGo.st (fun _ k => XS.iconst X42.here hx rfl (hb hby at_44) k) ?_
    show OwnGo p e below s _ _ _ T42 (mkF m 45 #[.val (.int p1), .val (.int p2), .val (.int p3), .val (.int p4), .val (.int p5), .val (.int (2 : Int32)), .val (.int y0), .val (.int y1), .val (.int y2), .val (.int y3), .val (.ref b41), .unset, .unset] [(.int (1 : Int32)), (.int (2 : Int32))])
    refine OwnGo.st (fun _ k => XS.icmpNo X42.here hx rfl (hb hby at_45) rfl (tlt ((by decide) : (1 : Int32) < (2 : Int32))).2.2.2 k) ?_
    show OwnGo p e below s _ _ _ T42 (mkF m 48 #[.val (.int p1), .val (.int p2), .val (.int p3), .val (.int p4), .val (.int p5), .val (.int (2 : Int32)), .val (.int y0), .val (.int y1), .val (.int y2), .val (.int y3), .val (.ref b41), .unset, .unset] [])
    refine OwnGo.st (fun _ k => XS.aload X42.here hx rfl (hb hby at_48) rfl rfl  k) ?_
    show OwnGo p e below s _ _ _ T42 (mkF m 50 #[.val (.int p1), .val (.int p2), .val (.int p3), .val (.int p4), .val (.int p5), .val (.int (2 : Int32)), .val (.int y0), .val (.int y1), .val (.int y2), .val (.int y3), .val (.ref b41), .unset, .unset] [(.ref b41)])
    refine OwnGo.st (fun _ k => XS.iconst X42.here hx rfl (hb hby at_50) k) ?_
    show OwnGo p e below s _ _ _ T42 (mkF m 51 #[.val (.int p1), .val (.int p2), .val (.int p3), .val (.int p4), .val (.int p5), .val (.int (2 : Int32)), .val (.int y0), .val (.int y1), .val (.int y2), .val (.int y3), .val (.ref b41), .unset, .unset] [(.int (1 : Int32)), (.ref b41)])
    refine OwnGo.st (fun _ k => XS.iload X42.here hx rfl (hb hby at_51) rfl  k) ?_
    show OwnGo p e below s _ _ _ T42 (mkF m 53 #[.val (.int p1), .val (.int p2), .val (.int p3), .val (.int p4), .val (.int p5), .val (.int (2 : Int32)), .val (.int y0), .val (.int y1), .val (.int y2), .val (.int y3), .val (.ref b41), .unset, .unset] [(.int y1), (.int (1 : Int32)), (.ref b41)])
    obtain ⟨cl43, Ar43, q43, S43, N43, H43, G43⟩ := id V_b41
    have hin43 : ¬ ((1 : Int32) < 0 ∨ cl43.slots.size ≤ ((1 : Int32)).toNatClampNeg) := inb_of S43 ⟨by decide, by decide⟩
    obtain ⟨T43, h43, X43, e43, W43, st43⟩ := stB X42 hx hZ e42 Ar43 (j := (1 : Int32)) hin43 (g := (mkF m 53 #[.val (.int p1), .val (.int p2), .val (.int p3), .val (.int p4), .val (.int p5), .val (.int (2 : Int32)), .val (.int y0), .val (.int y1), .val (.int y2), .val (.int y3), .val (.ref b41), .unset, .unset] [(.int y1), (.int (1 : Int32)), (.ref b41)])) rfl rfl (hb hby at_53)
    have V_b41 : Arv Z h43 b41 k41 .byte (2 : Int32) [(.int y0), (.int (nar .byte y1))] (.int (0 : Int32)) := Arv.set Ar43 q43 S43 N43 H43 G43 (fits_nar_byte _) W43 1 rfl (Nat.le_of_ble_eq_true rfl)
    rw [show nar .byte y1 = y1 from (by rw [hy1]; exact own_nb _)] at V_b41
    have E_b41 := E_b41.wr W43
    have O_ := O_.wr W43 g_b41
    have N43 := Fr.snoc X43 N42 g_b41
    have Z_ : n0 ≤ h43.size := by rw [W43.size]; exact Z_
    refine OwnGo.st st43 ?_
    show OwnGo p e below s _ _ _ T43 (mkF m 54 #[.val (.int p1), .val (.int p2), .val (.int p3), .val (.int p4), .val (.int p5), .val (.int (2 : Int32)), .val (.int y0), .val (.int y1), .val (.int y2), .val (.int y3), .val (.ref b41), .unset, .unset] [])
    refine OwnGo.st (fun _ k => XS.iload X43.here hx rfl (hb hby at_54) rfl  k) ?_
    show OwnGo p e below s _ _ _ T43 (mkF m 56 #[.val (.int p1), .val (.int p2), .val (.int p3), .val (.int p4), .val (.int p5), .val (.int (2 : Int32)), .val (.int y0), .val (.int y1), .val (.int y2), .val (.int y3), .val (.ref b41), .unset, .unset] [(.int (2 : Int32))])
    refine OwnGo.st (fun _ k => XS.iconst X43.here hx rfl (hb hby at_56) k) ?_
    show OwnGo p e below s _ _ _ T43 (mkF m 57 #[.val (.int p1), .val (.int p2), .val (.int p3), .val (.int p4), .val (.int p5), .val (.int (2 : Int32)), .val (.int y0), .val (.int y1), .val (.int y2), .val (.int y3), .val (.ref b41), .unset, .unset] [(.int (2 : Int32)), (.int (2 : Int32))])
    refine OwnGo.st (fun _ k => XS.icmpYes X43.here hx rfl (pc0 := 57) (pc' := 66) rfl (hb hby at_57) rfl (flt ((by decide) : ¬ ((2 : Int32) < (2 : Int32)))).2.2.2 (by decide) (by decide) k) ?_
    show OwnGo p e below s _ _ _ T43 (mkF m 66 #[.val (.int p1), .val (.int p2), .val (.int p3), .val (.int p4), .val (.int p5), .val (.int (2 : Int32)), .val (.int y0), .val (.int y1), .val (.int y2), .val (.int y3), .val (.ref b41), .unset, .unset] [])
    refine OwnGo.st (fun _ k => XS.iload X43.here hx rfl (hb hby at_66) rfl  k) ?_
    show OwnGo p e below s _ _ _ T43 (mkF m 68 #[.val (.int p1), .val (.int p2), .val (.int p3), .val (.int p4), .val (.int p5), .val (.int (2 : Int32)), .val (.int y0), .val (.int y1), .val (.int y2), .val (.int y3), .val (.ref b41), .unset, .unset] [(.int (2 : Int32))])
    refine OwnGo.st (fun _ k => XS.iconst X43.here hx rfl (hb hby at_68) k) ?_
    show OwnGo p e below s _ _ _ T43 (mkF m 69 #[.val (.int p1), .val (.int p2), .val (.int p3), .val (.int p4), .val (.int p5), .val (.int (2 : Int32)), .val (.int y0), .val (.int y1), .val (.int y2), .val (.int y3), .val (.ref b41), .unset, .unset] [(.int (3 : Int32)), (.int (2 : Int32))])
    refine OwnGo.st (fun _ k => XS.icmpYes X43.here hx rfl (pc0 := 69) (pc' := 78) rfl (hb hby at_69) rfl (flt ((by decide) : ¬ ((3 : Int32) < (2 : Int32)))).2.2.2 (by decide) (by decide) k) ?_
    show OwnGo p e below s _ _ _ T43 (mkF m 78 #[.val (.int p1), .val (.int p2), .val (.int p3), .val (.int p4), .val (.int p5), .val (.int (2 : Int32)), .val (.int y0), .val (.int y1), .val (.int y2), .val (.int y3), .val (.ref b41), .unset, .unset] [])
    refine OwnGo.st (fun _ k => XS.aload X43.here hx rfl (hb hby at_78) rfl rfl  k) ?_
    show OwnGo p e below s _ _ _ T43 (mkF m 80 #[.val (.int p1), .val (.int p2), .val (.int p3), .val (.int p4), .val (.int p5), .val (.int (2 : Int32)), .val (.int y0), .val (.int y1), .val (.int y2), .val (.int y3), .val (.ref b41), .unset, .unset] [(.ref b41)])
    obtain ⟨_, _, ⟨T44, L44, k44, n44⟩, -, X44, ⟨Lc44, hQ44, l44, y44, z44⟩, st44⟩ := Jvm.LawKit.callS X43 hx (y := (⟨"com/example/cofferhand/cofferhand/nbt/ByteArrayTag", "of", "([B)Lcom/example/cofferhand/cofferhand/nbt/ByteArrayTag;"⟩ : MethodName)) hown (mvT hZ (hw _ (List.mem_of_getElem? (i := 2) rfl))) (mvT hZ (hw _ (List.mem_of_getElem? (i := 3) rfl))) (mvT hZ (hw _ (List.mem_of_getElem? (i := 4) rfl))) (mvT hZ (hw _ (List.mem_of_getElem? (i := 5) rfl))) (by decide) (backOf (W := 0) (rmof2 l Z a0 hw [] b41 k41 y0 y1 h43 n0 Z_ V_b41 E_b41) hZ (hw _ (List.mem_of_getElem? (i := 5) rfl)) (hw _ (List.mem_of_getElem? (i := 4) rfl)) (by decide) (by decide)) (g := (mkF m 80 #[.val (.int p1), .val (.int p2), .val (.int p3), .val (.int p4), .val (.int p5), .val (.int (2 : Int32)), .val (.int y0), .val (.int y1), .val (.int y2), .val (.int y3), .val (.ref b41), .unset, .unset] [(.ref b41)])) rfl (by rw [hml]; rfl) (argsL := [(.ref b41)]) (rest := []) (lenOf pd_1 rfl) rfl (by show 2 * 0 + _ ≤ _; exact Nat.le_of_eq rfl) (hb hby at_80) (fun _ _ => ⟨rfl, e43, (by decide : 1 + 2 ≤ _), (by decide : 2 + 3 ≤ _)⟩)
    dsimp only [Pt.U, Pt.locs, Pt.cells, Pt.slots] at X44 l44 y44 z44 st44 hQ44
    subst l44 y44 z44
    obtain ⟨t44, c44, rfl, N44q, K44, E44, F44, V44, zt44, zc44⟩ := hQ44
    have N44 := Fr.app N43 N44q
    have ne_b41_t44 : b41 ≠ t44 := Nat.ne_of_lt (Nat.lt_of_lt_of_le V_b41.lt zt44)
    have ne_b41_c44 : b41 ≠ c44 := Nat.ne_of_lt (Nat.lt_of_lt_of_le V_b41.lt zc44)
    have Z_ : n0 ≤ T44.heap.size := Nat.le_trans Z_ K44.1
    have V_b41 := V_b41.keep K44 nin0
    have E_b41 := E_b41.keep K44
    have O_ := O_.keep K44 all0
    refine OwnGo.st st44 ?_
    show OwnGo p e below s _ _ _ T44 (mkF m 83 #[.val (.int p1), .val (.int p2), .val (.int p3), .val (.int p4), .val (.int p5), .val (.int (2 : Int32)), .val (.int y0), .val (.int y1), .val (.int y2), .val (.int y3), .val (.ref b41), .unset, .unset] [(.ref t44)])
    refine OwnGo.st (fun _ k => XS.astore X44.here hx rfl (hb hby at_83) rfl rfl (l' := #[.val (.int p1), .val (.int p2), .val (.int p3), .val (.int p4), .val (.int p5), .val (.int (2 : Int32)), .val (.int y0), .val (.int y1), .val (.int y2), .val (.int y3), .val (.ref b41), .val (.ref t44), .unset]) rfl k) ?_
    show OwnGo p e below s _ _ _ T44 (mkF m 85 #[.val (.int p1), .val (.int p2), .val (.int p3), .val (.int p4), .val (.int p5), .val (.int (2 : Int32)), .val (.int y0), .val (.int y1), .val (.int y2), .val (.int y3), .val (.ref b41), .val (.ref t44), .unset] [])
    refine OwnGo.st (fun _ k => XS.iload X44.here hx rfl (hb hby at_85) rfl  k) ?_
    show OwnGo p e below s _ _ _ T44 (mkF m 87 #[.val (.int p1), .val (.int p2), .val (.int p3), .val (.int p4), .val (.int p5), .val (.int (2 : Int32)), .val (.int y0), .val (.int y1), .val (.int y2), .val (.int y3), .val (.ref b41), .val (.ref t44), .unset] [(.int (2 : Int32))])
    refine OwnGo.st (fun _ k => XS.ifNo X44.here hx rfl (hb hby at_87) rfl ((if0 _ _).trans (tlt ((by decide) : (0 : Int32) < (2 : Int32))).2.2.2) k) ?_
    show OwnGo p e below s _ _ _ T44 (mkF m 90 #[.val (.int p1), .val (.int p2), .val (.int p3), .val (.int p4), .val (.int p5), .val (.int (2 : Int32)), .val (.int y0), .val (.int y1), .val (.int y2), .val (.int y3), .val (.ref b41), .val (.ref t44), .unset] [])
    refine OwnGo.st (fun _ k => XS.aload X44.here hx rfl (hb hby at_90) rfl rfl  k) ?_
    show OwnGo p e below s _ _ _ T44 (mkF m 92 #[.val (.int p1), .val (.int p2), .val (.int p3), .val (.int p4), .val (.int p5), .val (.int (2 : Int32)), .val (.int y0), .val (.int y1), .val (.int y2), .val (.int y3), .val (.ref b41), .val (.ref t44), .unset] [(.ref b41)])
    refine OwnGo.st (fun _ k => XS.iconst X44.here hx rfl (hb hby at_92) k) ?_
    show OwnGo p e below s _ _ _ T44 (mkF m 93 #[.val (.int p1), .val (.int p2), .val (.int p3), .val (.int p4), .val (.int p5), .val (.int (2 : Int32)), .val (.int y0), .val (.int y1), .val (.int y2), .val (.int y3), .val (.ref b41), .val (.ref t44), .unset] [(.int (0 : Int32)), (.ref b41)])
    refine OwnGo.st (fun _ k => XS.iload X44.here hx rfl (hb hby at_93) rfl  k) ?_
    show OwnGo p e below s _ _ _ T44 (mkF m 95 #[.val (.int p1), .val (.int p2), .val (.int p3), .val (.int p4), .val (.int p5), .val (.int (2 : Int32)), .val (.int y0), .val (.int y1), .val (.int y2), .val (.int y3), .val (.ref b41), .val (.ref t44), .unset] [(.int y0), (.int (0 : Int32)), (.ref b41)])
    refine OwnGo.st (fun _ k => XS.iconst X44.here hx rfl (hb hby at_95) k) ?_
    show OwnGo p e below s _ _ _ T44 (mkF m 96 #[.val (.int p1), .val (.int p2), .val (.int p3), .val (.int p4), .val (.int p5), .val (.int (2 : Int32)), .val (.int y0), .val (.int y1), .val (.int y2), .val (.int y3), .val (.ref b41), .val (.ref t44), .unset] [(.int (-1 : Int32)), (.int y0), (.int (0 : Int32)), (.ref b41)])
    refine OwnGo.st (fun _ k => XS.ixor X44.here hx rfl (hb hby at_96) rfl k) ?_
    show OwnGo p e below s _ _ _ T44 (mkF m 97 #[.val (.int p1), .val (.int p2), .val (.int p3), .val (.int p4), .val (.int p5), .val (.int (2 : Int32)), .val (.int y0), .val (.int y1), .val (.int y2), .val (.int y3), .val (.ref b41), .val (.ref t44), .unset] [(.int (y0 ^^^ (-1 : Int32))), (.int (0 : Int32)), (.ref b41)])
    refine OwnGo.st (fun _ k => XS.i2b X44.here hx rfl (hb hby at_97) rfl k) ?_
    show OwnGo p e below s _ _ _ T44 (mkF m 98 #[.val (.int p1), .val (.int p2), .val (.int p3), .val (.int p4), .val (.int p5), .val (.int (2 : Int32)), .val (.int y0), .val (.int y1), .val (.int y2), .val (.int y3), .val (.ref b41), .val (.ref t44), .unset] [(.int ((y0 ^^^ (-1 : Int32)).toInt8.toInt32)), (.int (0 : Int32)), (.ref b41)])
    obtain ⟨cl45, Ar45, q45, S45, N45, H45, G45⟩ := id V_b41
    have hin45 : ¬ ((0 : Int32) < 0 ∨ cl45.slots.size ≤ ((0 : Int32)).toNatClampNeg) := inb_of S45 ⟨by decide, by decide⟩
    obtain ⟨T45, h45, X45, e45, W45, st45⟩ := stB X44 hx hZ rfl Ar45 (j := (0 : Int32)) hin45 (g := (mkF m 98 #[.val (.int p1), .val (.int p2), .val (.int p3), .val (.int p4), .val (.int p5), .val (.int (2 : Int32)), .val (.int y0), .val (.int y1), .val (.int y2), .val (.int y3), .val (.ref b41), .val (.ref t44), .unset] [(.int ((y0 ^^^ (-1 : Int32)).toInt8.toInt32)), (.int (0 : Int32)), (.ref b41)])) rfl rfl (hb hby at_98)
    have V_b41 : Arv Z h45 b41 k41 .byte (2 : Int32) [(.int (nar .byte ((y0 ^^^ (-1 : Int32)).toInt8.toInt32))), (.int y1)] (.int (0 : Int32)) := Arv.set Ar45 q45 S45 N45 H45 G45 (fits_nar_byte _) W45 0 rfl (Nat.le_of_ble_eq_true rfl)
    rw [show nar .byte ((y0 ^^^ (-1 : Int32)).toInt8.toInt32) = ((y0 ^^^ (-1 : Int32)).toInt8.toInt32) from own_nb _] at V_b41
    have E_b41 := E_b41.wr W45
    have E44 := E44.wr W45
    have F44 := F44.other W45 (Or.inl (Ne.symm ne_b41_t44))
    have V44 := V44.other W45 (Ne.symm ne_b41_c44)
    have O_ := O_.wr W45 g_b41
    have N45 := Fr.snoc X45 N44 g_b41
    have Z_ : n0 ≤ h45.size := by rw [W45.size]; exact Z_
    refine OwnGo.st st45 ?_
    show OwnGo p e below s _ _ _ T45 (mkF m 99 #[.val (.int p1), .val (.int p2), .val (.int p3), .val (.int p4), .val (.int p5), .val (.int (2 : Int32)), .val (.int y0), .val (.int y1), .val (.int y2), .val (.int y3), .val (.ref b41), .val (.ref t44), .unset] [])
    refine OwnGo.st (fun _ k => XS.iload X45.here hx rfl (hb hby at_99) rfl  k) ?_
    show OwnGo p e below s _ _ _ T45 (mkF m 101 #[.val (.int p1), .val (.int p2), .val (.int p3), .val (.int p4), .val (.int p5), .val (.int (2 : Int32)), .val (.int y0), .val (.int y1), .val (.int y2), .val (.int y3), .val (.ref b41), .val (.ref t44), .unset] [(.int (2 : Int32))])
    refine OwnGo.st (fun _ k => XS.iconst X45.here hx rfl (hb hby at_101) k) ?_
    show OwnGo p e below s _ _ _ T45 (mkF m 102 #[.val (.int p1), .val (.int p2), .val (.int p3), .val (.int p4), .val (.int p5), .val (.int (2 : Int32)), .val (.int y0), .val (.int y1), .val (.int y2), .val (.int y3), .val (.ref b41), .val (.ref t44), .unset] [(.int (1 : Int32)), (.int (2 : Int32))])
    refine OwnGo.st (fun _ k => XS.icmpNo X45.here hx rfl (hb hby at_102) rfl (tlt ((by decide) : (1 : Int32) < (2 : Int32))).2.2.2 k) ?_
    show OwnGo p e below s _ _ _ T45 (mkF m 105 #[.val (.int p1), .val (.int p2), .val (.int p3), .val (.int p4), .val (.int p5), .val (.int (2 : Int32)), .val (.int y0), .val (.int y1), .val (.int y2), .val (.int y3), .val (.ref b41), .val (.ref t44), .unset] [])
    refine OwnGo.st (fun _ k => XS.aload X45.here hx rfl (hb hby at_105) rfl rfl  k) ?_
    show OwnGo p e below s _ _ _ T45 (mkF m 107 #[.val (.int p1), .val (.int p2), .val (.int p3), .val (.int p4), .val (.int p5), .val (.int (2 : Int32)), .val (.int y0), .val (.int y1), .val (.int y2), .val (.int y3), .val (.ref b41), .val (.ref t44), .unset] [(.ref b41)])
    refine OwnGo.st (fun _ k => XS.iconst X45.here hx rfl (hb hby at_107) k) ?_
    show OwnGo p e below s _ _ _ T45 (mkF m 108 #[.val (.int p1), .val (.int p2), .val (.int p3), .val (.int p4), .val (.int p5), .val (.int (2 : Int32)), .val (.int y0), .val (.int y1), .val (.int y2), .val (.int y3), .val (.ref b41), .val (.ref t44), .unset] [(.int (1 : Int32)), (.ref b41)])
    refine OwnGo.st (fun _ k => XS.iload X45.here hx rfl (hb hby at_108) rfl  k) ?_
    show OwnGo p e below s _ _ _ T45 (mkF m 110 #[.val (.int p1), .val (.int p2), .val (.int p3), .val (.int p4), .val (.int p5), .val (.int (2 : Int32)), .val (.int y0), .val (.int y1), .val (.int y2), .val (.int y3), .val (.ref b41), .val (.ref t44), .unset] [(.int y1), (.int (1 : Int32)), (.ref b41)])
    refine OwnGo.st (fun _ k => XS.iconst X45.here hx rfl (hb hby at_110) k) ?_
    show OwnGo p e below s _ _ _ T45 (mkF m 111 #[.val (.int p1), .val (.int p2), .val (.int p3), .val (.int p4), .val (.int p5), .val (.int (2 : Int32)), .val (.int y0), .val (.int y1), .val (.int y2), .val (.int y3), .val (.ref b41), .val (.ref t44), .unset] [(.int (-1 : Int32)), (.int y1), (.int (1 : Int32)), (.ref b41)])
    refine OwnGo.st (fun _ k => XS.ixor X45.here hx rfl (hb hby at_111) rfl k) ?_
    show OwnGo p e below s _ _ _ T45 (mkF m 112 #[.val (.int p1), .val (.int p2), .val (.int p3), .val (.int p4), .val (.int p5), .val (.int (2 : Int32)), .val (.int y0), .val (.int y1), .val (.int y2), .val (.int y3), .val (.ref b41), .val (.ref t44), .unset] [(.int (y1 ^^^ (-1 : Int32))), (.int (1 : Int32)), (.ref b41)])
    refine OwnGo.st (fun _ k => XS.i2b X45.here hx rfl (hb hby at_112) rfl k) ?_
    show OwnGo p e below s _ _ _ T45 (mkF m 113 #[.val (.int p1), .val (.int p2), .val (.int p3), .val (.int p4), .val (.int p5), .val (.int (2 : Int32)), .val (.int y0), .val (.int y1), .val (.int y2), .val (.int y3), .val (.ref b41), .val (.ref t44), .unset] [(.int ((y1 ^^^ (-1 : Int32)).toInt8.toInt32)), (.int (1 : Int32)), (.ref b41)])
    obtain ⟨cl46, Ar46, q46, S46, N46, H46, G46⟩ := id V_b41
    have hin46 : ¬ ((1 : Int32) < 0 ∨ cl46.slots.size ≤ ((1 : Int32)).toNatClampNeg) := inb_of S46 ⟨by decide, by decide⟩
    obtain ⟨T46, h46, X46, e46, W46, st46⟩ := stB X45 hx hZ e45 Ar46 (j := (1 : Int32)) hin46 (g := (mkF m 113 #[.val (.int p1), .val (.int p2), .val (.int p3), .val (.int p4), .val (.int p5), .val (.int (2 : Int32)), .val (.int y0), .val (.int y1), .val (.int y2), .val (.int y3), .val (.ref b41), .val (.ref t44), .unset] [(.int ((y1 ^^^ (-1 : Int32)).toInt8.toInt32)), (.int (1 : Int32)), (.ref b41)])) rfl rfl (hb hby at_113)
    have V_b41 : Arv Z h46 b41 k41 .byte (2 : Int32) [(.int ((y0 ^^^ (-1 : Int32)).toInt8.toInt32)), (.int (nar .byte ((y1 ^^^ (-1 : Int32)).toInt8.toInt32)))] (.int (0 : Int32)) := Arv.set Ar46 q46 S46 N46 H46 G46 (fits_nar_byte _) W46 1 rfl (Nat.le_of_ble_eq_true rfl)
    rw [show nar .byte ((y1 ^^^ (-1 : Int32)).toInt8.toInt32) = ((y1 ^^^ (-1 : Int32)).toInt8.toInt32) from own_nb _] at V_b41
    have E_b41 := E_b41.wr W46
    have E44 := E44.wr W46
    have F44 := F44.other W46 (Or.inl (Ne.symm ne_b41_t44))
    have V44 := V44.other W46 (Ne.symm ne_b41_c44)
    have O_ := O_.wr W46 g_b41
    have N46 := Fr.snoc X46 N45 g_b41
    have Z_ : n0 ≤ h46.size := by rw [W46.size]; exact Z_
    refine OwnGo.st st46 ?_
    show OwnGo p e below s _ _ _ T46 (mkF m 114 #[.val (.int p1), .val (.int p2), .val (.int p3), .val (.int p4), .val (.int p5), .val (.int (2 : Int32)), .val (.int y0), .val (.int y1), .val (.int y2), .val (.int y3), .val (.ref b41), .val (.ref t44), .unset] [])
    refine OwnGo.st (fun _ k => XS.iload X46.here hx rfl (hb hby at_114) rfl  k) ?_
    show OwnGo p e below s _ _ _ T46 (mkF m 116 #[.val (.int p1), .val (.int p2), .val (.int p3), .val (.int p4), .val (.int p5), .val (.int (2 : Int32)), .val (.int y0), .val (.int y1), .val (.int y2), .val (.int y3), .val (.ref b41), .val (.ref t44), .unset] [(.int (2 : Int32))])
    refine OwnGo.st (fun _ k => XS.iconst X46.here hx rfl (hb hby at_116) k) ?_
    show OwnGo p e below s _ _ _ T46 (mkF m 117 #[.val (.int p1), .val (.int p2), .val (.int p3), .val (.int p4), .val (.int p5), .val (.int (2 : Int32)), .val (.int y0), .val (.int y1), .val (.int y2), .val (.int y3), .val (.ref b41), .val (.ref t44), .unset] [(.int (2 : Int32)), (.int (2 : Int32))])
    refine OwnGo.st (fun _ k => XS.icmpYes X46.here hx rfl (pc0 := 117) (pc' := 129) rfl (hb hby at_117) rfl (flt ((by decide) : ¬ ((2 : Int32) < (2 : Int32)))).2.2.2 (by decide) (by decide) k) ?_
    show OwnGo p e below s _ _ _ T46 (mkF m 129 #[.val (.int p1), .val (.int p2), .val (.int p3), .val (.int p4), .val (.int p5), .val (.int (2 : Int32)), .val (.int y0), .val (.int y1), .val (.int y2), .val (.int y3), .val (.ref b41), .val (.ref t44), .unset] [])
    refine OwnGo.st (fun _ k => XS.iload X46.here hx rfl (hb hby at_129) rfl  k) ?_
    show OwnGo p e below s _ _ _ T46 (mkF m 131 #[.val (.int p1), .val (.int p2), .val (.int p3), .val (.int p4), .val (.int p5), .val (.int (2 : Int32)), .val (.int y0), .val (.int y1), .val (.int y2), .val (.int y3), .val (.ref b41), .val (.ref t44), .unset] [(.int (2 : Int32))])
    refine OwnGo.st (fun _ k => XS.iconst X46.here hx rfl (hb hby at_131) k) ?_
    show OwnGo p e below s _ _ _ T46 (mkF m 132 #[.val (.int p1), .val (.int p2), .val (.int p3), .val (.int p4), .val (.int p5), .val (.int (2 : Int32)), .val (.int y0), .val (.int y1), .val (.int y2), .val (.int y3), .val (.ref b41), .val (.ref t44), .unset] [(.int (3 : Int32)), (.int (2 : Int32))])
    refine OwnGo.st (fun _ k => XS.icmpYes X46.here hx rfl (pc0 := 132) (pc' := 144) rfl (hb hby at_132) rfl (flt ((by decide) : ¬ ((3 : Int32) < (2 : Int32)))).2.2.2 (by decide) (by decide) k) ?_
    show OwnGo p e below s _ _ _ T46 (mkF m 144 #[.val (.int p1), .val (.int p2), .val (.int p3), .val (.int p4), .val (.int p5), .val (.int (2 : Int32)), .val (.int y0), .val (.int y1), .val (.int y2), .val (.int y3), .val (.ref b41), .val (.ref t44), .unset] [])
    refine OwnGo.st (fun _ k => XS.aload X46.here hx rfl (hb hby at_144) rfl rfl  k) ?_
    show OwnGo p e below s _ _ _ T46 (mkF m 146 #[.val (.int p1), .val (.int p2), .val (.int p3), .val (.int p4), .val (.int p5), .val (.int (2 : Int32)), .val (.int y0), .val (.int y1), .val (.int y2), .val (.int y3), .val (.ref b41), .val (.ref t44), .unset] [(.ref t44)])
    obtain ⟨cq47, kq47, q47a, q47b, q47c⟩ := isOf hZ e46 E44
    obtain ⟨_, _, ⟨T47, L47, k47, n47⟩, -, X47, ⟨Lc47, hQ47, l47, y47, z47⟩, st47⟩ := X46.virtualBack hx (y := (⟨"com/example/cofferhand/cofferhand/nbt/ByteArrayTag", "length", "()I"⟩ : MethodName)) (z := (⟨"com/example/cofferhand/cofferhand/nbt/ByteArrayTag", "length", "()I"⟩ : MethodName)) hown (mvT hZ (hw _ (List.mem_of_getElem? (i := 25) rfl))) (mvT hZ (hw _ (List.mem_of_getElem? (i := 26) rfl))) (notFace_of_selects (args := #[]) (mvT hZ (hw _ (List.mem_of_getElem? (i := 28) rfl)))) (mvT hZ (hw _ (List.mem_of_getElem? (i := 28) rfl))) (mvT hZ (hw _ (List.mem_of_getElem? (i := 27) rfl))) (by decide) (backOf (W := 0) (rmlen l Z a0 hw [] t44 c44 k41 (2 : Int32) [(.int y0), (.int y1)] h46 n0 Z_ F44 V44) hZ (hw _ (List.mem_of_getElem? (i := 29) rfl)) (hw _ (List.mem_of_getElem? (i := 4) rfl)) (by decide) (by decide)) q47a q47c (g := (mkF m 146 #[.val (.int p1), .val (.int p2), .val (.int p3), .val (.int p4), .val (.int p5), .val (.int (2 : Int32)), .val (.int y0), .val (.int y1), .val (.int y2), .val (.int y3), .val (.ref b41), .val (.ref t44), .unset] [(.ref t44)])) rfl (by rw [hml]; rfl) (Steps.refl _) (argsL := []) (rest := []) (lenOf pd_2 rfl) rfl (by show 2 * 0 + _ ≤ _; exact Nat.le_of_eq rfl) (hb hby at_146) (fun _ _ => ⟨rfl, e46, (by decide : 3 + 0 ≤ _), (by decide : 5 + 0 ≤ _)⟩)
    dsimp only [Pt.U, Pt.locs, Pt.cells, Pt.slots] at X47 l47 y47 z47 st47 hQ47
    subst l47 y47 z47
    obtain ⟨rfl, N47q, e47⟩ := hQ47
    have N47 := Fr.app N46 N47q
    refine OwnGo.st (fun _ k => st47.trans k) ?_
    show OwnGo p e below s _ _ _ T47 (mkF m 149 #[.val (.int p1), .val (.int p2), .val (.int p3), .val (.int p4), .val (.int p5), .val (.int (2 : Int32)), .val (.int y0), .val (.int y1), .val (.int y2), .val (.int y3), .val (.ref b41), .val (.ref t44), .unset] [(.int (2 : Int32))])
    refine OwnGo.st (fun _ k => XS.iload X47.here hx rfl (hb hby at_149) rfl  k) ?_
    show OwnGo p e below s _ _ _ T47 (mkF m 151 #[.val (.int p1), .val (.int p2), .val (.int p3), .val (.int p4), .val (.int p5), .val (.int (2 : Int32)), .val (.int y0), .val (.int y1), .val (.int y2), .val (.int y3), .val (.ref b41), .val (.ref t44), .unset] [(.int (2 : Int32)), (.int (2 : Int32))])
    refine OwnGo.st (fun _ k => XS.icmpNo X47.here hx rfl (hb hby at_151) rfl (teq (rfl : (2 : Int32) = (2 : Int32))).2 k) ?_
    show OwnGo p e below s _ _ _ T47 (mkF m 154 #[.val (.int p1), .val (.int p2), .val (.int p3), .val (.int p4), .val (.int p5), .val (.int (2 : Int32)), .val (.int y0), .val (.int y1), .val (.int y2), .val (.int y3), .val (.ref b41), .val (.ref t44), .unset] [])
    refine OwnGo.st (fun _ k => XS.aload X47.here hx rfl (hb hby at_154) rfl rfl  k) ?_
    show OwnGo p e below s _ _ _ T47 (mkF m 156 #[.val (.int p1), .val (.int p2), .val (.int p3), .val (.int p4), .val (.int p5), .val (.int (2 : Int32)), .val (.int y0), .val (.int y1), .val (.int y2), .val (.int y3), .val (.ref b41), .val (.ref t44), .unset] [(.ref t44)])
    obtain ⟨cq48, kq48, q48a, q48b, q48c⟩ := isOf hZ e47 E44
    obtain ⟨_, _, ⟨T48, L48, k48, n48⟩, -, X48, ⟨Lc48, hQ48, l48, y48, z48⟩, st48⟩ := X47.virtualBack hx (y := (⟨"com/example/cofferhand/cofferhand/nbt/ByteArrayTag", "type", "()Lcom/example/cofferhand/cofferhand/nbt/TagType;"⟩ : MethodName)) (z := (⟨"com/example/cofferhand/cofferhand/nbt/ByteArrayTag", "type", "()Lcom/example/cofferhand/cofferhand/nbt/TagType;"⟩ : MethodName)) hown (mvT hZ (hw _ (List.mem_of_getElem? (i := 30) rfl))) (mvT hZ (hw _ (List.mem_of_getElem? (i := 31) rfl))) (notFace_of_selects (args := #[]) (mvT hZ (hw _ (List.mem_of_getElem? (i := 33) rfl)))) (mvT hZ (hw _ (List.mem_of_getElem? (i := 33) rfl))) (mvT hZ (hw _ (List.mem_of_getElem? (i := 32) rfl))) (by decide) (backOf (W := 0) (rmtyp l Z a0 hw [] t44 u_TagType_BYTE_ARRAY h46 n0 Z_ O_ S_u_TagType_BYTE_ARRAY E_u_TagType_BYTE_ARRAY) hZ (hw _ (List.mem_of_getElem? (i := 34) rfl)) (hw _ (List.mem_of_getElem? (i := 4) rfl)) (by decide) (by decide)) q48a q48c (g := (mkF m 156 #[.val (.int p1), .val (.int p2), .val (.int p3), .val (.int p4), .val (.int p5), .val (.int (2 : Int32)), .val (.int y0), .val (.int y1), .val (.int y2), .val (.int y3), .val (.ref b41), .val (.ref t44), .unset] [(.ref t44)])) rfl (by rw [hml]; rfl) (Steps.refl _) (argsL := []) (rest := []) (lenOf pd_3 rfl) rfl (by show 2 * 0 + _ ≤ _; exact Nat.le_of_eq rfl) (hb hby at_156) (fun _ _ => ⟨rfl, e47, (by decide : 3 + 0 ≤ _), (by decide : 5 + 0 ≤ _)⟩)
    dsimp only [Pt.U, Pt.locs, Pt.cells, Pt.slots] at X48 l48 y48 z48 st48 hQ48
    subst l48 y48 z48
    obtain ⟨rfl, N48q, e48⟩ := hQ48
    have N48 := Fr.app N47 N48q
    refine OwnGo.st (fun _ k => st48.trans k) ?_
    show OwnGo p e below s _ _ _ T48 (mkF m 159 #[.val (.int p1), .val (.int p2), .val (.int p3), .val (.int p4), .val (.int p5), .val (.int (2 : Int32)), .val (.int y0), .val (.int y1), .val (.int y2), .val (.int y3), .val (.ref b41), .val (.ref t44), .unset] [(.ref u_TagType_BYTE_ARRAY)])
    obtain ⟨T49, X49, e49, st49⟩ := getS2 X48 hx hZ hown (host := "") (Or.inl (hw _ (List.mem_of_getElem? (i := 38) rfl))) Via.refl e48 (S_u_TagType_BYTE_ARRAY.ext O_.2) (g := (mkF m 159 #[.val (.int p1), .val (.int p2), .val (.int p3), .val (.int p4), .val (.int p5), .val (.int (2 : Int32)), .val (.int y0), .val (.int y1), .val (.int y2), .val (.int y3), .val (.ref b41), .val (.ref t44), .unset] [(.ref u_TagType_BYTE_ARRAY)])) rfl (hb hby at_159)
    refine OwnGo.st st49 ?_
    show OwnGo p e below s _ _ _ T49 (mkF m 162 #[.val (.int p1), .val (.int p2), .val (.int p3), .val (.int p4), .val (.int p5), .val (.int (2 : Int32)), .val (.int y0), .val (.int y1), .val (.int y2), .val (.int y3), .val (.ref b41), .val (.ref t44), .unset] [(.ref u_TagType_BYTE_ARRAY), (.ref u_TagType_BYTE_ARRAY)])
    refine OwnGo.st (fun _ k => Jvm.RoadKit.acmp (g := (mkF m 162 #[.val (.int p1), .val (.int p2), .val (.int p3), .val (.int p4), .val (.int p5), .val (.int (2 : Int32)), .val (.int y0), .val (.int y1), .val (.int y2), .val (.int y3), .val (.ref b41), .val (.ref t44), .unset] [(.ref u_TagType_BYTE_ARRAY), (.ref u_TagType_BYTE_ARRAY)])) X49 hx rfl rfl rfl (pc0 := 162) (pc' := 165) (same := true) rfl (hb hby at_162) rfl (decide_eq_true rfl) (by decide) (by decide) k) ?_
    show OwnGo p e below s _ _ _ T49 (mkF m 165 #[.val (.int p1), .val (.int p2), .val (.int p3), .val (.int p4), .val (.int p5), .val (.int (2 : Int32)), .val (.int y0), .val (.int y1), .val (.int y2), .val (.int y3), .val (.ref b41), .val (.ref t44), .unset] [])
    refine OwnGo.st (fun _ k => XS.iconst X49.here hx rfl (hb hby at_165) k) ?_
    show OwnGo p e below s _ _ _ T49 (mkF m 166 #[.val (.int p1), .val (.int p2), .val (.int p3), .val (.int p4), .val (.int p5), .val (.int (2 : Int32)), .val (.int y0), .val (.int y1), .val (.int y2), .val (.int y3), .val (.ref b41), .val (.ref t44), .unset] [(.int (1 : Int32))])
    refine OwnGo.st (fun _ k => XS.goto X49.here hx rfl (pc0 := 166) (pc' := 170) rfl (hb hby at_166) (by decide) (by decide) k) ?_
    show OwnGo p e below s _ _ _ T49 (mkF m 170 #[.val (.int p1), .val (.int p2), .val (.int p3), .val (.int p4), .val (.int p5), .val (.int (2 : Int32)), .val (.int y0), .val (.int y1), .val (.int y2), .val (.int y3), .val (.ref b41), .val (.ref t44), .unset] [(.int (1 : Int32))])
    refine OwnGo.st (fun _ k => XS.istore X49.here hx rfl (hb hby at_170) rfl (l' := #[.val (.int p1), .val (.int p2), .val (.int p3), .val (.int p4), .val (.int p5), .val (.int (2 : Int32)), .val (.int y0), .val (.int y1), .val (.int y2), .val (.int y3), .val (.ref b41), .val (.ref t44), .val (.int (1 : Int32))]) rfl k) ?_
    show OwnGo p e below s _ _ _ T49 (mkF m 172 #[.val (.int p1), .val (.int p2), .val (.int p3), .val (.int p4), .val (.int p5), .val (.int (2 : Int32)), .val (.int y0), .val (.int y1), .val (.int y2), .val (.int y3), .val (.ref b41), .val (.ref t44), .val (.int (1 : Int32))] [])
    refine OwnGo.st (fun _ k => XS.iload X49.here hx rfl (hb hby at_172) rfl  k) ?_
    show OwnGo p e below s _ _ _ T49 (mkF m 174 #[.val (.int p1), .val (.int p2), .val (.int p3), .val (.int p4), .val (.int p5), .val (.int (2 : Int32)), .val (.int y0), .val (.int y1), .val (.int y2), .val (.int y3), .val (.ref b41), .val (.ref t44), .val (.int (1 : Int32))] [(.int (1 : Int32))])
    refine OwnGo.st (fun _ k => XS.ifNo X49.here hx rfl (hb hby at_174) rfl ((if0 _ _).trans (feq ((by decide) : ¬ ((1 : Int32) = (0 : Int32)))).1) k) ?_
    show OwnGo p e below s _ _ _ T49 (mkF m 177 #[.val (.int p1), .val (.int p2), .val (.int p3), .val (.int p4), .val (.int p5), .val (.int (2 : Int32)), .val (.int y0), .val (.int y1), .val (.int y2), .val (.int y3), .val (.ref b41), .val (.ref t44), .val (.int (1 : Int32))] [])
    refine OwnGo.st (fun _ k => XS.iload X49.here hx rfl (hb hby at_177) rfl  k) ?_
    show OwnGo p e below s _ _ _ T49 (mkF m 179 #[.val (.int p1), .val (.int p2), .val (.int p3), .val (.int p4), .val (.int p5), .val (.int (2 : Int32)), .val (.int y0), .val (.int y1), .val (.int y2), .val (.int y3), .val (.ref b41), .val (.ref t44), .val (.int (1 : Int32))] [(.int (2 : Int32))])
    refine OwnGo.st (fun _ k => XS.ifNo X49.here hx rfl (hb hby at_179) rfl ((if0 _ _).trans (tlt ((by decide) : (0 : Int32) < (2 : Int32))).2.2.2) k) ?_
    show OwnGo p e below s _ _ _ T49 (mkF m 182 #[.val (.int p1), .val (.int p2), .val (.int p3), .val (.int p4), .val (.int p5), .val (.int (2 : Int32)), .val (.int y0), .val (.int y1), .val (.int y2), .val (.int y3), .val (.ref b41), .val (.ref t44), .val (.int (1 : Int32))] [])
    refine OwnGo.st (fun _ k => XS.aload X49.here hx rfl (hb hby at_182) rfl rfl  k) ?_
    show OwnGo p e below s _ _ _ T49 (mkF m 184 #[.val (.int p1), .val (.int p2), .val (.int p3), .val (.int p4), .val (.int p5), .val (.int (2 : Int32)), .val (.int y0), .val (.int y1), .val (.int y2), .val (.int y3), .val (.ref b41), .val (.ref t44), .val (.int (1 : Int32))] [(.ref t44)])
    refine OwnGo.st (fun _ k => XS.iconst X49.here hx rfl (hb hby at_184) k) ?_
    show OwnGo p e below s _ _ _ T49 (mkF m 185 #[.val (.int p1), .val (.int p2), .val (.int p3), .val (.int p4), .val (.int p5), .val (.int (2 : Int32)), .val (.int y0), .val (.int y1), .val (.int y2), .val (.int y3), .val (.ref b41), .val (.ref t44), .val (.int (1 : Int32))] [(.int (0 : Int32)), (.ref t44)])
    obtain ⟨cq50, kq50, q50a, q50b, q50c⟩ := isOf hZ e49 E44
    obtain ⟨_, _, ⟨T50, L50, k50, n50⟩, -, X50, ⟨Lc50, hQ50, l50, y50, z50⟩, st50⟩ := X49.virtualBack hx (y := (⟨"com/example/cofferhand/cofferhand/nbt/ByteArrayTag", "get", "(I)B"⟩ : MethodName)) (z := (⟨"com/example/cofferhand/cofferhand/nbt/ByteArrayTag", "get", "(I)B"⟩ : MethodName)) hown (mvT hZ (hw _ (List.mem_of_getElem? (i := 39) rfl))) (mvT hZ (hw _ (List.mem_of_getElem? (i := 40) rfl))) (notFace_of_selects (args := #[]) (mvT hZ (hw _ (List.mem_of_getElem? (i := 42) rfl)))) (mvT hZ (hw _ (List.mem_of_getElem? (i := 42) rfl))) (mvT hZ (hw _ (List.mem_of_getElem? (i := 41) rfl))) (by decide) (backOf (W := 0) (rmget l Z a0 hw [] t44 c44 k41 (2 : Int32) [(.int y0), (.int y1)] (0 : Int32) y0 h46 n0 Z_ F44 V44 ⟨by decide, by decide⟩ rfl (by rw [hy0]; exact own_nb _)) hZ (hw _ (List.mem_of_getElem? (i := 43) rfl)) (hw _ (List.mem_of_getElem? (i := 4) rfl)) (by decide) (by decide)) q50a q50c (g := (mkF m 185 #[.val (.int p1), .val (.int p2), .val (.int p3), .val (.int p4), .val (.int p5), .val (.int (2 : Int32)), .val (.int y0), .val (.int y1), .val (.int y2), .val (.int y3), .val (.ref b41), .val (.ref t44), .val (.int (1 : Int32))] [(.int (0 : Int32)), (.ref t44)])) rfl (by rw [hml]; rfl) (Steps.refl _) (argsL := [(.int (0 : Int32))]) (rest := []) (lenOf pd_4 rfl) rfl (by show 2 * 0 + _ ≤ _; exact Nat.le_of_eq rfl) (hb hby at_185) (fun _ _ => ⟨rfl, e49, (by decide : 3 + 0 ≤ _), (by decide : 5 + 0 ≤ _)⟩)
    dsimp only [Pt.U, Pt.locs, Pt.cells, Pt.slots] at X50 l50 y50 z50 st50 hQ50
    subst l50 y50 z50
    obtain ⟨rfl, N50q, e50⟩ := hQ50
    have N50 := Fr.app N48 N50q
    refine OwnGo.st (fun _ k => st50.trans k) ?_
    show OwnGo p e below s _ _ _ T50 (mkF m 188 #[.val (.int p1), .val (.int p2), .val (.int p3), .val (.int p4), .val (.int p5), .val (.int (2 : Int32)), .val (.int y0), .val (.int y1), .val (.int y2), .val (.int y3), .val (.ref b41), .val (.ref t44), .val (.int (1 : Int32))] [(.int y0)])
    refine OwnGo.st (fun _ k => XS.iload X50.here hx rfl (hb hby at_188) rfl  k) ?_
    show OwnGo p e below s _ _ _ T50 (mkF m 190 #[.val (.int p1), .val (.int p2), .val (.int p3), .val (.int p4), .val (.int p5), .val (.int (2 : Int32)), .val (.int y0), .val (.int y1), .val (.int y2), .val (.int y3), .val (.ref b41), .val (.ref t44), .val (.int (1 : Int32))] [(.int y0), (.int y0)])
    refine OwnGo.st (fun _ k => XS.icmpNo X50.here hx rfl (hb hby at_190) rfl (teq (rfl : y0 = y0)).2 k) ?_
    show OwnGo p e below s _ _ _ T50 (mkF m 193 #[.val (.int p1), .val (.int p2), .val (.int p3), .val (.int p4), .val (.int p5), .val (.int (2 : Int32)), .val (.int y0), .val (.int y1), .val (.int y2), .val (.int y3), .val (.ref b41), .val (.ref t44), .val (.int (1 : Int32))] [])
    refine OwnGo.st (fun _ k => XS.iconst X50.here hx rfl (hb hby at_193) k) ?_
    show OwnGo p e below s _ _ _ T50 (mkF m 194 #[.val (.int p1), .val (.int p2), .val (.int p3), .val (.int p4), .val (.int p5), .val (.int (2 : Int32)), .val (.int y0), .val (.int y1), .val (.int y2), .val (.int y3), .val (.ref b41), .val (.ref t44), .val (.int (1 : Int32))] [(.int (1 : Int32))])
    refine OwnGo.st (fun _ k => XS.goto X50.here hx rfl (pc0 := 194) (pc' := 198) rfl (hb hby at_194) (by decide) (by decide) k) ?_
    show OwnGo p e below s _ _ _ T50 (mkF m 198 #[.val (.int p1), .val (.int p2), .val (.int p3), .val (.int p4), .val (.int p5), .val (.int (2 : Int32)), .val (.int y0), .val (.int y1), .val (.int y2), .val (.int y3), .val (.ref b41), .val (.ref t44), .val (.int (1 : Int32))] [(.int (1 : Int32))])
    refine OwnGo.st (fun _ k => XS.istore X50.here hx rfl (hb hby at_198) rfl (l' := #[.val (.int p1), .val (.int p2), .val (.int p3), .val (.int p4), .val (.int p5), .val (.int (2 : Int32)), .val (.int y0), .val (.int y1), .val (.int y2), .val (.int y3), .val (.ref b41), .val (.ref t44), .val (.int (1 : Int32))]) rfl k) ?_
    show OwnGo p e below s _ _ _ T50 (mkF m 200 #[.val (.int p1), .val (.int p2), .val (.int p3), .val (.int p4), .val (.int p5), .val (.int (2 : Int32)), .val (.int y0), .val (.int y1), .val (.int y2), .val (.int y3), .val (.ref b41), .val (.ref t44), .val (.int (1 : Int32))] [])
    refine OwnGo.st (fun _ k => XS.iload X50.here hx rfl (hb hby at_200) rfl  k) ?_
    show OwnGo p e below s _ _ _ T50 (mkF m 202 #[.val (.int p1), .val (.int p2), .val (.int p3), .val (.int p4), .val (.int p5), .val (.int (2 : Int32)), .val (.int y0), .val (.int y1), .val (.int y2), .val (.int y3), .val (.ref b41), .val (.ref t44), .val (.int (1 : Int32))] [(.int (1 : Int32))])
    refine OwnGo.st (fun _ k => XS.ifNo X50.here hx rfl (hb hby at_202) rfl ((if0 _ _).trans (feq ((by decide) : ¬ ((1 : Int32) = (0 : Int32)))).1) k) ?_
    show OwnGo p e below s _ _ _ T50 (mkF m 205 #[.val (.int p1), .val (.int p2), .val (.int p3), .val (.int p4), .val (.int p5), .val (.int (2 : Int32)), .val (.int y0), .val (.int y1), .val (.int y2), .val (.int y3), .val (.ref b41), .val (.ref t44), .val (.int (1 : Int32))] [])
    refine OwnGo.st (fun _ k => XS.iload X50.here hx rfl (hb hby at_205) rfl  k) ?_
    show OwnGo p e below s _ _ _ T50 (mkF m 207 #[.val (.int p1), .val (.int p2), .val (.int p3), .val (.int p4), .val (.int p5), .val (.int (2 : Int32)), .val (.int y0), .val (.int y1), .val (.int y2), .val (.int y3), .val (.ref b41), .val (.ref t44), .val (.int (1 : Int32))] [(.int (2 : Int32))])
    refine OwnGo.st (fun _ k => XS.iconst X50.here hx rfl (hb hby at_207) k) ?_
    show OwnGo p e below s _ _ _ T50 (mkF m 208 #[.val (.int p1), .val (.int p2), .val (.int p3), .val (.int p4), .val (.int p5), .val (.int (2 : Int32)), .val (.int y0), .val (.int y1), .val (.int y2), .val (.int y3), .val (.ref b41), .val (.ref t44), .val (.int (1 : Int32))] [(.int (1 : Int32)), (.int (2 : Int32))])
    refine OwnGo.st (fun _ k => XS.icmpNo X50.here hx rfl (hb hby at_208) rfl (tlt ((by decide) : (1 : Int32) < (2 : Int32))).2.2.2 k) ?_
    show OwnGo p e below s _ _ _ T50 (mkF m 211 #[.val (.int p1), .val (.int p2), .val (.int p3), .val (.int p4), .val (.int p5), .val (.int (2 : Int32)), .val (.int y0), .val (.int y1), .val (.int y2), .val (.int y3), .val (.ref b41), .val (.ref t44), .val (.int (1 : Int32))] [])
    refine OwnGo.st (fun _ k => XS.aload X50.here hx rfl (hb hby at_211) rfl rfl  k) ?_
    show OwnGo p e below s _ _ _ T50 (mkF m 213 #[.val (.int p1), .val (.int p2), .val (.int p3), .val (.int p4), .val (.int p5), .val (.int (2 : Int32)), .val (.int y0), .val (.int y1), .val (.int y2), .val (.int y3), .val (.ref b41), .val (.ref t44), .val (.int (1 : Int32))] [(.ref t44)])
    refine OwnGo.st (fun _ k => XS.iconst X50.here hx rfl (hb hby at_213) k) ?_
    show OwnGo p e below s _ _ _ T50 (mkF m 214 #[.val (.int p1), .val (.int p2), .val (.int p3), .val (.int p4), .val (.int p5), .val (.int (2 : Int32)), .val (.int y0), .val (.int y1), .val (.int y2), .val (.int y3), .val (.ref b41), .val (.ref t44), .val (.int (1 : Int32))] [(.int (1 : Int32)), (.ref t44)])
    obtain ⟨cq51, kq51, q51a, q51b, q51c⟩ := isOf hZ e50 E44
    obtain ⟨_, _, ⟨T51, L51, k51, n51⟩, -, X51, ⟨Lc51, hQ51, l51, y51, z51⟩, st51⟩ := X50.virtualBack hx (y := (⟨"com/example/cofferhand/cofferhand/nbt/ByteArrayTag", "get", "(I)B"⟩ : MethodName)) (z := (⟨"com/example/cofferhand/cofferhand/nbt/ByteArrayTag", "get", "(I)B"⟩ : MethodName)) hown (mvT hZ (hw _ (List.mem_of_getElem? (i := 39) rfl))) (mvT hZ (hw _ (List.mem_of_getElem? (i := 40) rfl))) (notFace_of_selects (args := #[]) (mvT hZ (hw _ (List.mem_of_getElem? (i := 42) rfl)))) (mvT hZ (hw _ (List.mem_of_getElem? (i := 42) rfl))) (mvT hZ (hw _ (List.mem_of_getElem? (i := 41) rfl))) (by decide) (backOf (W := 0) (rmget l Z a0 hw [] t44 c44 k41 (2 : Int32) [(.int y0), (.int y1)] (1 : Int32) y1 h46 n0 Z_ F44 V44 ⟨by decide, by decide⟩ rfl (by rw [hy1]; exact own_nb _)) hZ (hw _ (List.mem_of_getElem? (i := 43) rfl)) (hw _ (List.mem_of_getElem? (i := 4) rfl)) (by decide) (by decide)) q51a q51c (g := (mkF m 214 #[.val (.int p1), .val (.int p2), .val (.int p3), .val (.int p4), .val (.int p5), .val (.int (2 : Int32)), .val (.int y0), .val (.int y1), .val (.int y2), .val (.int y3), .val (.ref b41), .val (.ref t44), .val (.int (1 : Int32))] [(.int (1 : Int32)), (.ref t44)])) rfl (by rw [hml]; rfl) (Steps.refl _) (argsL := [(.int (1 : Int32))]) (rest := []) (lenOf pd_4 rfl) rfl (by show 2 * 0 + _ ≤ _; exact Nat.le_of_eq rfl) (hb hby at_214) (fun _ _ => ⟨rfl, e50, (by decide : 3 + 0 ≤ _), (by decide : 5 + 0 ≤ _)⟩)
    dsimp only [Pt.U, Pt.locs, Pt.cells, Pt.slots] at X51 l51 y51 z51 st51 hQ51
    subst l51 y51 z51
    obtain ⟨rfl, N51q, e51⟩ := hQ51
    have N51 := Fr.app N50 N51q
    refine OwnGo.st (fun _ k => st51.trans k) ?_
    show OwnGo p e below s _ _ _ T51 (mkF m 217 #[.val (.int p1), .val (.int p2), .val (.int p3), .val (.int p4), .val (.int p5), .val (.int (2 : Int32)), .val (.int y0), .val (.int y1), .val (.int y2), .val (.int y3), .val (.ref b41), .val (.ref t44), .val (.int (1 : Int32))] [(.int y1)])
    refine OwnGo.st (fun _ k => XS.iload X51.here hx rfl (hb hby at_217) rfl  k) ?_
    show OwnGo p e below s _ _ _ T51 (mkF m 219 #[.val (.int p1), .val (.int p2), .val (.int p3), .val (.int p4), .val (.int p5), .val (.int (2 : Int32)), .val (.int y0), .val (.int y1), .val (.int y2), .val (.int y3), .val (.ref b41), .val (.ref t44), .val (.int (1 : Int32))] [(.int y1), (.int y1)])
    refine OwnGo.st (fun _ k => XS.icmpNo X51.here hx rfl (hb hby at_219) rfl (teq (rfl : y1 = y1)).2 k) ?_
    show OwnGo p e below s _ _ _ T51 (mkF m 222 #[.val (.int p1), .val (.int p2), .val (.int p3), .val (.int p4), .val (.int p5), .val (.int (2 : Int32)), .val (.int y0), .val (.int y1), .val (.int y2), .val (.int y3), .val (.ref b41), .val (.ref t44), .val (.int (1 : Int32))] [])
    refine OwnGo.st (fun _ k => XS.iconst X51.here hx rfl (hb hby at_222) k) ?_
    show OwnGo p e below s _ _ _ T51 (mkF m 223 #[.val (.int p1), .val (.int p2), .val (.int p3), .val (.int p4), .val (.int p5), .val (.int (2 : Int32)), .val (.int y0), .val (.int y1), .val (.int y2), .val (.int y3), .val (.ref b41), .val (.ref t44), .val (.int (1 : Int32))] [(.int (1 : Int32))])
    refine OwnGo.st (fun _ k => XS.goto X51.here hx rfl (pc0 := 223) (pc' := 227) rfl (hb hby at_223) (by decide) (by decide) k) ?_
    show OwnGo p e below s _ _ _ T51 (mkF m 227 #[.val (.int p1), .val (.int p2), .val (.int p3), .val (.int p4), .val (.int p5), .val (.int (2 : Int32)), .val (.int y0), .val (.int y1), .val (.int y2), .val (.int y3), .val (.ref b41), .val (.ref t44), .val (.int (1 : Int32))] [(.int (1 : Int32))])
    refine OwnGo.st (fun _ k => XS.istore X51.here hx rfl (hb hby at_227) rfl (l' := #[.val (.int p1), .val (.int p2), .val (.int p3), .val (.int p4), .val (.int p5), .val (.int (2 : Int32)), .val (.int y0), .val (.int y1), .val (.int y2), .val (.int y3), .val (.ref b41), .val (.ref t44), .val (.int (1 : Int32))]) rfl k) ?_
    show OwnGo p e below s _ _ _ T51 (mkF m 229 #[.val (.int p1), .val (.int p2), .val (.int p3), .val (.int p4), .val (.int p5), .val (.int (2 : Int32)), .val (.int y0), .val (.int y1), .val (.int y2), .val (.int y3), .val (.ref b41), .val (.ref t44), .val (.int (1 : Int32))] [])
    refine OwnGo.st (fun _ k => XS.iload X51.here hx rfl (hb hby at_229) rfl  k) ?_
    show OwnGo p e below s _ _ _ T51 (mkF m 231 #[.val (.int p1), .val (.int p2), .val (.int p3), .val (.int p4), .val (.int p5), .val (.int (2 : Int32)), .val (.int y0), .val (.int y1), .val (.int y2), .val (.int y3), .val (.ref b41), .val (.ref t44), .val (.int (1 : Int32))] [(.int (1 : Int32))])
    refine OwnGo.st (fun _ k => XS.ifNo X51.here hx rfl (hb hby at_231) rfl ((if0 _ _).trans (feq ((by decide) : ¬ ((1 : Int32) = (0 : Int32)))).1) k) ?_
    show OwnGo p e below s _ _ _ T51 (mkF m 234 #[.val (.int p1), .val (.int p2), .val (.int p3), .val (.int p4), .val (.int p5), .val (.int (2 : Int32)), .val (.int y0), .val (.int y1), .val (.int y2), .val (.int y3), .val (.ref b41), .val (.ref t44), .val (.int (1 : Int32))] [])
    refine OwnGo.st (fun _ k => XS.iload X51.here hx rfl (hb hby at_234) rfl  k) ?_
    show OwnGo p e below s _ _ _ T51 (mkF m 236 #[.val (.int p1), .val (.int p2), .val (.int p3), .val (.int p4), .val (.int p5), .val (.int (2 : Int32)), .val (.int y0), .val (.int y1), .val (.int y2), .val (.int y3), .val (.ref b41), .val (.ref t44), .val (.int (1 : Int32))] [(.int (2 : Int32))])
    refine OwnGo.st (fun _ k => XS.iconst X51.here hx rfl (hb hby at_236) k) ?_
    show OwnGo p e below s _ _ _ T51 (mkF m 237 #[.val (.int p1), .val (.int p2), .val (.int p3), .val (.int p4), .val (.int p5), .val (.int (2 : Int32)), .val (.int y0), .val (.int y1), .val (.int y2), .val (.int y3), .val (.ref b41), .val (.ref t44), .val (.int (1 : Int32))] [(.int (2 : Int32)), (.int (2 : Int32))])
    refine OwnGo.st (fun _ k => XS.icmpYes X51.here hx rfl (pc0 := 237) (pc' := 258) rfl (hb hby at_237) rfl (flt ((by decide) : ¬ ((2 : Int32) < (2 : Int32)))).2.2.2 (by decide) (by decide) k) ?_
    show OwnGo p e below s _ _ _ T51 (mkF m 258 #[.val (.int p1), .val (.int p2), .val (.int p3), .val (.int p4), .val (.int p5), .val (.int (2 : Int32)), .val (.int y0), .val (.int y1), .val (.int y2), .val (.int y3), .val (.ref b41), .val (.ref t44), .val (.int (1 : Int32))] [])
    refine OwnGo.st (fun _ k => XS.iload X51.here hx rfl (hb hby at_258) rfl  k) ?_
    show OwnGo p e below s _ _ _ T51 (mkF m 260 #[.val (.int p1), .val (.int p2), .val (.int p3), .val (.int p4), .val (.int p5), .val (.int (2 : Int32)), .val (.int y0), .val (.int y1), .val (.int y2), .val (.int y3), .val (.ref b41), .val (.ref t44), .val (.int (1 : Int32))] [(.int (1 : Int32))])
    refine OwnGo.st (fun _ k => XS.ifNo X51.here hx rfl (hb hby at_260) rfl ((if0 _ _).trans (feq ((by decide) : ¬ ((1 : Int32) = (0 : Int32)))).1) k) ?_
    show OwnGo p e below s _ _ _ T51 (mkF m 263 #[.val (.int p1), .val (.int p2), .val (.int p3), .val (.int p4), .val (.int p5), .val (.int (2 : Int32)), .val (.int y0), .val (.int y1), .val (.int y2), .val (.int y3), .val (.ref b41), .val (.ref t44), .val (.int (1 : Int32))] [])
    refine OwnGo.st (fun _ k => XS.iload X51.here hx rfl (hb hby at_263) rfl  k) ?_
    show OwnGo p e below s _ _ _ T51 (mkF m 265 #[.val (.int p1), .val (.int p2), .val (.int p3), .val (.int p4), .val (.int p5), .val (.int (2 : Int32)), .val (.int y0), .val (.int y1), .val (.int y2), .val (.int y3), .val (.ref b41), .val (.ref t44), .val (.int (1 : Int32))] [(.int (2 : Int32))])
    refine OwnGo.st (fun _ k => XS.iconst X51.here hx rfl (hb hby at_265) k) ?_
    show OwnGo p e below s _ _ _ T51 (mkF m 266 #[.val (.int p1), .val (.int p2), .val (.int p3), .val (.int p4), .val (.int p5), .val (.int (2 : Int32)), .val (.int y0), .val (.int y1), .val (.int y2), .val (.int y3), .val (.ref b41), .val (.ref t44), .val (.int (1 : Int32))] [(.int (3 : Int32)), (.int (2 : Int32))])
    refine OwnGo.st (fun _ k => XS.icmpYes X51.here hx rfl (pc0 := 266) (pc' := 287) rfl (hb hby at_266) rfl (flt ((by decide) : ¬ ((3 : Int32) < (2 : Int32)))).2.2.2 (by decide) (by decide) k) ?_
    show OwnGo p e below s _ _ _ T51 (mkF m 287 #[.val (.int p1), .val (.int p2), .val (.int p3), .val (.int p4), .val (.int p5), .val (.int (2 : Int32)), .val (.int y0), .val (.int y1), .val (.int y2), .val (.int y3), .val (.ref b41), .val (.ref t44), .val (.int (1 : Int32))] [])
    refine OwnGo.st (fun _ k => XS.iload X51.here hx rfl (hb hby at_287) rfl  k) ?_
    show OwnGo p e below s _ _ _ T51 (mkF m 289 #[.val (.int p1), .val (.int p2), .val (.int p3), .val (.int p4), .val (.int p5), .val (.int (2 : Int32)), .val (.int y0), .val (.int y1), .val (.int y2), .val (.int y3), .val (.ref b41), .val (.ref t44), .val (.int (1 : Int32))] [(.int (1 : Int32))])
    exact OwnGo.retN X51 hx (t := .boolean) hret hlk (by simp) (hb hby at_289) (by show Q0 Z p1 p2 p3 p4 p5 u_TagType_BYTE_ARRAY h0 n0 _ T51.heap _; rw [e51]; exact ⟨rfl, N51⟩) (by decide) (by decide)
  · show OwnGo p e below s _ _ _ s₁ (mkF m 25 #[.val (.int p1), .val (.int p2), .val (.int p3), .val (.int p4), .val (.int p5), .val (.int (3 : Int32)), .val (.int y0), .val (.int y1), .val (.int y2), .val (.int y3), .unset, .unset, .unset] [])
    refine OwnGo.st (fun _ k => XS.iload X0.here hx rfl (hb hby at_25) rfl  k) ?_
    show OwnGo p e below s _ _ _ s₁ (mkF m 27 #[.val (.int p1), .val (.int p2), .val (.int p3), .val (.int p4), .val (.int p5), .val (.int (3 : Int32)), .val (.int y0), .val (.int y1), .val (.int y2), .val (.int y3), .unset, .unset, .unset] [(.int (3 : Int32))])
    obtain ⟨T52, h52, k52, X52, e52, E52, A52, Ex52, st52⟩ := newPE X0 hx hZ (hw _ (List.mem_of_getElem? (i := 1) rfl)) e0 (g := (mkF m 27 #[.val (.int p1), .val (.int p2), .val (.int p3), .val (.int p4), .val (.int p5), .val (.int (3 : Int32)), .val (.int y0), .val (.int y1), .val (.int y2), .val (.int y3), .unset, .unset, .unset] [(.int (3 : Int32))])) rfl (hb hby at_27) rfl (by decide) (cap := 3) (by decide) (by decide) (by decide) (by decide) (ad := "[B") (by decide)
    obtain ⟨b52, g52⟩ : ∃ z, z = h0.size := ⟨_, rfl⟩
    rw [← g52] at A52 Ex52 st52
    have g_b52 : n0 ≤ b52 := Nat.le_trans Z_ (Nat.le_of_eq g52.symm)
    have O_ := O_.ext E52
    have Z_ : n0 ≤ h52.size := Nat.le_trans Z_ E52.1
    have V_b52 : Arv Z h52 b52 k52 .byte (3 : Int32) [(.int (0 : Int32)), (.int (0 : Int32)), (.int (0 : Int32))] (.int (0 : Int32)) := (Arv.new A52 (by decide)).pad (pad_rep [] (.int (0 : Int32)) 3)
    have E_b52 := Ex52
    refine OwnGo.st st52 ?_
    show OwnGo p e below s _ _ _ T52 (mkF m 29 #[.val (.int p1), .val (.int p2), .val (.int p3), .val (.int p4), .val (.int p5), .val (.int (3 : Int32)), .val (.int y0), .val (.int y1), .val (.int y2), .val (.int y3), .unset, .unset, .unset] [(.ref b52)])
    refine OwnGo.st (fun _ k => XS.astore X52.here hx rfl (hb hby at_29) rfl rfl (l' := #[.val (.int p1), .val (.int p2), .val (.int p3), .val (.int p4), .val (.int p5), .val (.int (3 : Int32)), .val (.int y0), .val (.int y1), .val (.int y2), .val (.int y3), .val (.ref b52), .unset, .unset]) rfl k) ?_
    show OwnGo p e below s _ _ _ T52 (mkF m 31 #[.val (.int p1), .val (.int p2), .val (.int p3), .val (.int p4), .val (.int p5), .val (.int (3 : Int32)), .val (.int y0), .val (.int y1), .val (.int y2), .val (.int y3), .val (.ref b52), .unset, .unset] [])
    refine OwnGo.st (fun _ k => XS.iload X52.here hx rfl (hb hby at_31) rfl  k) ?_
    show OwnGo p e below s _ _ _ T52 (mkF m 33 #[.val (.int p1), .val (.int p2), .val (.int p3), .val (.int p4), .val (.int p5), .val (.int (3 : Int32)), .val (.int y0), .val (.int y1), .val (.int y2), .val (.int y3), .val (.ref b52), .unset, .unset] [(.int (3 : Int32))])
    refine OwnGo.st (fun _ k => XS.ifNo X52.here hx rfl (hb hby at_33) rfl ((if0 _ _).trans (tlt ((by decide) : (0 : Int32) < (3 : Int32))).2.2.2) k) ?_
    show OwnGo p e below s _ _ _ T52 (mkF m 36 #[.val (.int p1), .val (.int p2), .val (.int p3), .val (.int p4), .val (.int p5), .val (.int (3 : Int32)), .val (.int y0), .val (.int y1), .val (.int y2), .val (.int y3), .val (.ref b52), .unset, .unset] [])
    refine OwnGo.st (fun _ k => XS.aload X52.here hx rfl (hb hby at_36) rfl rfl  k) ?_
    show OwnGo p e below s _ _ _ T52 (mkF m 38 #[.val (.int p1), .val (.int p2), .val (.int p3), .val (.int p4), .val (.int p5), .val (.int (3 : Int32)), .val (.int y0), .val (.int y1), .val (.int y2), .val (.int y3), .val (.ref b52), .unset, .unset] [(.ref b52)])
    refine OwnGo.st (fun _ k => XS.iconst X52.here hx rfl (hb hby at_38) k) ?_
    show OwnGo p e below s _ _ _ T52 (mkF m 39 #[.val (.int p1), .val (.int p2), .val (.int p3), .val (.int p4), .val (.int p5), .val (.int (3 : Int32)), .val (.int y0), .val (.int y1), .val (.int y2), .val (.int y3), .val (.ref b52), .unset, .unset] [(.int (0 : Int32)), (.ref b52)])
    refine OwnGo.st (fun _ k => XS.iload X52.here hx rfl (hb hby at_39) rfl  k) ?_
    show OwnGo p e below s _ _ _ T52 (mkF m 41 #[.val (.int p1), .val (.int p2), .val (.int p3), .val (.int p4), .val (.int p5), .val (.int (3 : Int32)), .val (.int y0), .val (.int y1), .val (.int y2), .val (.int y3), .val (.ref b52), .unset, .unset] [(.int y0), (.int (0 : Int32)), (.ref b52)])
    obtain ⟨cl53, Ar53, q53, S53, N53, H53, G53⟩ := id V_b52
    have hin53 : ¬ ((0 : Int32) < 0 ∨ cl53.slots.size ≤ ((0 : Int32)).toNatClampNeg) := inb_of S53 ⟨by decide, by decide⟩
    obtain ⟨T53, h53, X53, e53, W53, st53⟩ := stB X52 hx hZ e52 Ar53 (j := (0 : Int32)) hin53 (g := (mkF m 41 #[.val (.int p1), .val (.int p2), .val (.int p3), .val (.int p4), .val (.int p5), .val (.int (3 : Int32)), .val (.int y0), .val (.int y1), .val (.int y2), .val (.int y3), .val (.ref b52), .unset, .unset] [(.int y0), (.int (0 : Int32)), (.ref b52)])) rfl rfl (hb hby at_41)
    have V_b52 : Arv Z h53 b52 k52 .byte (3 : Int32) [(.int (nar .byte y0)), (.int (0 : Int32)), (.int (0 : Int32))] (.int (0 : Int32)) := Arv.set Ar53 q53 S53 N53 H53 G53 (fits_nar_byte _) W53 0 rfl (Nat.le_of_ble_eq_true rfl)
    rw [show nar .byte y0 = y0 from (by rw [hy0]; exact own_nb _)] at V_b52
    have E_b52 := E_b52.wr W53
    have O_ := O_.wr W53 g_b52
    have N53 := Fr.snoc X53 N0 g_b52
    have Z_ : n0 ≤ h53.size := by rw [W53.size]; exact Z_
    refine OwnGo.st st53 ?_
    show OwnGo p e below s _ _ _ T53 (mkF m 42 #[.val (.int p1), .val (.int p2), .val (.int p3), .val (.int p4), .val (.int p5), .val (.int (3 : Int32)), .val (.int y0), .val (.int y1), .val (.int y2), .val (.int y3), .val (.ref b52), .unset, .unset] [])
    refine OwnGo.st (fun _ k => XS.iload X53.here hx rfl (hb hby at_42) rfl  k) ?_
    show OwnGo p e below s _ _ _ T53 (mkF m 44 #[.val (.int p1), .val (.int p2), .val (.int p3), .val (.int p4), .val (.int p5), .val (.int (3 : Int32)), .val (.int y0), .val (.int y1), .val (.int y2), .val (.int y3), .val (.ref b52), .unset, .unset] [(.int (3 : Int32))])
    refine OwnGo.st (fun _ k => XS.iconst X53.here hx rfl (hb hby at_44) k) ?_
    show OwnGo p e below s _ _ _ T53 (mkF m 45 #[.val (.int p1), .val (.int p2), .val (.int p3), .val (.int p4), .val (.int p5), .val (.int (3 : Int32)), .val (.int y0), .val (.int y1), .val (.int y2), .val (.int y3), .val (.ref b52), .unset, .unset] [(.int (1 : Int32)), (.int (3 : Int32))])
    refine OwnGo.st (fun _ k => XS.icmpNo X53.here hx rfl (hb hby at_45) rfl (tlt ((by decide) : (1 : Int32) < (3 : Int32))).2.2.2 k) ?_
    show OwnGo p e below s _ _ _ T53 (mkF m 48 #[.val (.int p1), .val (.int p2), .val (.int p3), .val (.int p4), .val (.int p5), .val (.int (3 : Int32)), .val (.int y0), .val (.int y1), .val (.int y2), .val (.int y3), .val (.ref b52), .unset, .unset] [])
    refine OwnGo.st (fun _ k => XS.aload X53.here hx rfl (hb hby at_48) rfl rfl  k) ?_
    show OwnGo p e below s _ _ _ T53 (mkF m 50 #[.val (.int p1), .val (.int p2), .val (.int p3), .val (.int p4), .val (.int p5), .val (.int (3 : Int32)), .val (.int y0), .val (.int y1), .val (.int y2), .val (.int y3), .val (.ref b52), .unset, .unset] [(.ref b52)])
    refine OwnGo.st (fun _ k => XS.iconst X53.here hx rfl (hb hby at_50) k) ?_
    show OwnGo p e below s _ _ _ T53 (mkF m 51 #[.val (.int p1), .val (.int p2), .val (.int p3), .val (.int p4), .val (.int p5), .val (.int (3 : Int32)), .val (.int y0), .val (.int y1), .val (.int y2), .val (.int y3), .val (.ref b52), .unset, .unset] [(.int (1 : Int32)), (.ref b52)])
    refine OwnGo.st (fun _ k => XS.iload X53.here hx rfl (hb hby at_51) rfl  k) ?_
    show OwnGo p e below s _ _ _ T53 (mkF m 53 #[.val (.int p1), .val (.int p2), .val (.int p3), .val (.int p4), .val (.int p5), .val (.int (3 : Int32)), .val (.int y0), .val (.int y1), .val (.int y2), .val (.int y3), .val (.ref b52), .unset, .unset] [(.int y1), (.int (1 : Int32)), (.ref b52)])
    obtain ⟨cl54, Ar54, q54, S54, N54, H54, G54⟩ := id V_b52
    have hin54 : ¬ ((1 : Int32) < 0 ∨ cl54.slots.size ≤ ((1 : Int32)).toNatClampNeg) := inb_of S54 ⟨by decide, by decide⟩
    obtain ⟨T54, h54, X54, e54, W54, st54⟩ := stB X53 hx hZ e53 Ar54 (j := (1 : Int32)) hin54 (g := (mkF m 53 #[.val (.int p1), .val (.int p2), .val (.int p3), .val (.int p4), .val (.int p5), .val (.int (3 : Int32)), .val (.int y0), .val (.int y1), .val (.int y2), .val (.int y3), .val (.ref b52), .unset, .unset] [(.int y1), (.int (1 : Int32)), (.ref b52)])) rfl rfl (hb hby at_53)
    have V_b52 : Arv Z h54 b52 k52 .byte (3 : Int32) [(.int y0), (.int (nar .byte y1)), (.int (0 : Int32))] (.int (0 : Int32)) := Arv.set Ar54 q54 S54 N54 H54 G54 (fits_nar_byte _) W54 1 rfl (Nat.le_of_ble_eq_true rfl)
    rw [show nar .byte y1 = y1 from (by rw [hy1]; exact own_nb _)] at V_b52
    have E_b52 := E_b52.wr W54
    have O_ := O_.wr W54 g_b52
    have N54 := Fr.snoc X54 N53 g_b52
    have Z_ : n0 ≤ h54.size := by rw [W54.size]; exact Z_
    refine OwnGo.st st54 ?_
    show OwnGo p e below s _ _ _ T54 (mkF m 54 #[.val (.int p1), .val (.int p2), .val (.int p3), .val (.int p4), .val (.int p5), .val (.int (3 : Int32)), .val (.int y0), .val (.int y1), .val (.int y2), .val (.int y3), .val (.ref b52), .unset, .unset] [])
    refine OwnGo.st (fun _ k => XS.iload X54.here hx rfl (hb hby at_54) rfl  k) ?_
    show OwnGo p e below s _ _ _ T54 (mkF m 56 #[.val (.int p1), .val (.int p2), .val (.int p3), .val (.int p4), .val (.int p5), .val (.int (3 : Int32)), .val (.int y0), .val (.int y1), .val (.int y2), .val (.int y3), .val (.ref b52), .unset, .unset] [(.int (3 : Int32))])
    refine OwnGo.st (fun _ k => XS.iconst X54.here hx rfl (hb hby at_56) k) ?_
    show OwnGo p e below s _ _ _ T54 (mkF m 57 #[.val (.int p1), .val (.int p2), .val (.int p3), .val (.int p4), .val (.int p5), .val (.int (3 : Int32)), .val (.int y0), .val (.int y1), .val (.int y2), .val (.int y3), .val (.ref b52), .unset, .unset] [(.int (2 : Int32)), (.int (3 : Int32))])
    refine OwnGo.st (fun _ k => XS.icmpNo X54.here hx rfl (hb hby at_57) rfl (tlt ((by decide) : (2 : Int32) < (3 : Int32))).2.2.2 k) ?_
    show OwnGo p e below s _ _ _ T54 (mkF m 60 #[.val (.int p1), .val (.int p2), .val (.int p3), .val (.int p4), .val (.int p5), .val (.int (3 : Int32)), .val (.int y0), .val (.int y1), .val (.int y2), .val (.int y3), .val (.ref b52), .unset, .unset] [])
    refine OwnGo.st (fun _ k => XS.aload X54.here hx rfl (hb hby at_60) rfl rfl  k) ?_
    show OwnGo p e below s _ _ _ T54 (mkF m 62 #[.val (.int p1), .val (.int p2), .val (.int p3), .val (.int p4), .val (.int p5), .val (.int (3 : Int32)), .val (.int y0), .val (.int y1), .val (.int y2), .val (.int y3), .val (.ref b52), .unset, .unset] [(.ref b52)])
    refine OwnGo.st (fun _ k => XS.iconst X54.here hx rfl (hb hby at_62) k) ?_
    show OwnGo p e below s _ _ _ T54 (mkF m 63 #[.val (.int p1), .val (.int p2), .val (.int p3), .val (.int p4), .val (.int p5), .val (.int (3 : Int32)), .val (.int y0), .val (.int y1), .val (.int y2), .val (.int y3), .val (.ref b52), .unset, .unset] [(.int (2 : Int32)), (.ref b52)])
    refine OwnGo.st (fun _ k => XS.iload X54.here hx rfl (hb hby at_63) rfl  k) ?_
    show OwnGo p e below s _ _ _ T54 (mkF m 65 #[.val (.int p1), .val (.int p2), .val (.int p3), .val (.int p4), .val (.int p5), .val (.int (3 : Int32)), .val (.int y0), .val (.int y1), .val (.int y2), .val (.int y3), .val (.ref b52), .unset, .unset] [(.int y2), (.int (2 : Int32)), (.ref b52)])
    obtain ⟨cl55, Ar55, q55, S55, N55, H55, G55⟩ := id V_b52
    have hin55 : ¬ ((2 : Int32) < 0 ∨ cl55.slots.size ≤ ((2 : Int32)).toNatClampNeg) := inb_of S55 ⟨by decide, by decide⟩
    obtain ⟨T55, h55, X55, e55, W55, st55⟩ := stB X54 hx hZ e54 Ar55 (j := (2 : Int32)) hin55 (g := (mkF m 65 #[.val (.int p1), .val (.int p2), .val (.int p3), .val (.int p4), .val (.int p5), .val (.int (3 : Int32)), .val (.int y0), .val (.int y1), .val (.int y2), .val (.int y3), .val (.ref b52), .unset, .unset] [(.int y2), (.int (2 : Int32)), (.ref b52)])) rfl rfl (hb hby at_65)
    have V_b52 : Arv Z h55 b52 k52 .byte (3 : Int32) [(.int y0), (.int y1), (.int (nar .byte y2))] (.int (0 : Int32)) := Arv.set Ar55 q55 S55 N55 H55 G55 (fits_nar_byte _) W55 2 rfl (Nat.le_of_ble_eq_true rfl)
    rw [show nar .byte y2 = y2 from (by rw [hy2]; exact own_nb _)] at V_b52
    have E_b52 := E_b52.wr W55
    have O_ := O_.wr W55 g_b52
    have N55 := Fr.snoc X55 N54 g_b52
    have Z_ : n0 ≤ h55.size := by rw [W55.size]; exact Z_
    refine OwnGo.st st55 ?_
    show OwnGo p e below s _ _ _ T55 (mkF m 66 #[.val (.int p1), .val (.int p2), .val (.int p3), .val (.int p4), .val (.int p5), .val (.int (3 : Int32)), .val (.int y0), .val (.int y1), .val (.int y2), .val (.int y3), .val (.ref b52), .unset, .unset] [])
    refine OwnGo.st (fun _ k => XS.iload X55.here hx rfl (hb hby at_66) rfl  k) ?_
    show OwnGo p e below s _ _ _ T55 (mkF m 68 #[.val (.int p1), .val (.int p2), .val (.int p3), .val (.int p4), .val (.int p5), .val (.int (3 : Int32)), .val (.int y0), .val (.int y1), .val (.int y2), .val (.int y3), .val (.ref b52), .unset, .unset] [(.int (3 : Int32))])
    refine OwnGo.st (fun _ k => XS.iconst X55.here hx rfl (hb hby at_68) k) ?_
    show OwnGo p e below s _ _ _ T55 (mkF m 69 #[.val (.int p1), .val (.int p2), .val (.int p3), .val (.int p4), .val (.int p5), .val (.int (3 : Int32)), .val (.int y0), .val (.int y1), .val (.int y2), .val (.int y3), .val (.ref b52), .unset, .unset] [(.int (3 : Int32)), (.int (3 : Int32))])
    refine OwnGo.st (fun _ k => XS.icmpYes X55.here hx rfl (pc0 := 69) (pc' := 78) rfl (hb hby at_69) rfl (flt ((by decide) : ¬ ((3 : Int32) < (3 : Int32)))).2.2.2 (by decide) (by decide) k) ?_
    show OwnGo p e below s _ _ _ T55 (mkF m 78 #[.val (.int p1), .val (.int p2), .val (.int p3), .val (.int p4), .val (.int p5), .val (.int (3 : Int32)), .val (.int y0), .val (.int y1), .val (.int y2), .val (.int y3), .val (.ref b52), .unset, .unset] [])
    refine OwnGo.st (fun _ k => XS.aload X55.here hx rfl (hb hby at_78) rfl rfl  k) ?_
    show OwnGo p e below s _ _ _ T55 (mkF m 80 #[.val (.int p1), .val (.int p2), .val (.int p3), .val (.int p4), .val (.int p5), .val (.int (3 : Int32)), .val (.int y0), .val (.int y1), .val (.int y2), .val (.int y3), .val (.ref b52), .unset, .unset] [(.ref b52)])
    obtain ⟨_, _, ⟨T56, L56, k56, n56⟩, -, X56, ⟨Lc56, hQ56, l56, y56, z56⟩, st56⟩ := Jvm.LawKit.callS X55 hx (y := (⟨"com/example/cofferhand/cofferhand/nbt/ByteArrayTag", "of", "([B)Lcom/example/cofferhand/cofferhand/nbt/ByteArrayTag;"⟩ : MethodName)) hown (mvT hZ (hw _ (List.mem_of_getElem? (i := 2) rfl))) (mvT hZ (hw _ (List.mem_of_getElem? (i := 3) rfl))) (mvT hZ (hw _ (List.mem_of_getElem? (i := 4) rfl))) (mvT hZ (hw _ (List.mem_of_getElem? (i := 5) rfl))) (by decide) (backOf (W := 0) (rmof3 l Z a0 hw [] b52 k52 y0 y1 y2 h55 n0 Z_ V_b52 E_b52) hZ (hw _ (List.mem_of_getElem? (i := 5) rfl)) (hw _ (List.mem_of_getElem? (i := 4) rfl)) (by decide) (by decide)) (g := (mkF m 80 #[.val (.int p1), .val (.int p2), .val (.int p3), .val (.int p4), .val (.int p5), .val (.int (3 : Int32)), .val (.int y0), .val (.int y1), .val (.int y2), .val (.int y3), .val (.ref b52), .unset, .unset] [(.ref b52)])) rfl (by rw [hml]; rfl) (argsL := [(.ref b52)]) (rest := []) (lenOf pd_1 rfl) rfl (by show 2 * 0 + _ ≤ _; exact Nat.le_of_eq rfl) (hb hby at_80) (fun _ _ => ⟨rfl, e55, (by decide : 1 + 2 ≤ _), (by decide : 3 + 4 ≤ _)⟩)
    dsimp only [Pt.U, Pt.locs, Pt.cells, Pt.slots] at X56 l56 y56 z56 st56 hQ56
    subst l56 y56 z56
    obtain ⟨t56, c56, rfl, N56q, K56, E56, F56, V56, zt56, zc56⟩ := hQ56
    have N56 := Fr.app N55 N56q
    have ne_b52_t56 : b52 ≠ t56 := Nat.ne_of_lt (Nat.lt_of_lt_of_le V_b52.lt zt56)
    have ne_b52_c56 : b52 ≠ c56 := Nat.ne_of_lt (Nat.lt_of_lt_of_le V_b52.lt zc56)
    have Z_ : n0 ≤ T56.heap.size := Nat.le_trans Z_ K56.1
    have V_b52 := V_b52.keep K56 nin0
    have E_b52 := E_b52.keep K56
    have O_ := O_.keep K56 all0
    refine OwnGo.st st56 ?_
    show OwnGo p e below s _ _ _ T56 (mkF m 83 #[.val (.int p1), .val (.int p2), .val (.int p3), .val (.int p4), .val (.int p5), .val (.int (3 : Int32)), .val (.int y0), .val (.int y1), .val (.int y2), .val (.int y3), .val (.ref b52), .unset, .unset] [(.ref t56)])
    refine OwnGo.st (fun _ k => XS.astore X56.here hx rfl (hb hby at_83) rfl rfl (l' := #[.val (.int p1), .val (.int p2), .val (.int p3), .val (.int p4), .val (.int p5), .val (.int (3 : Int32)), .val (.int y0), .val (.int y1), .val (.int y2), .val (.int y3), .val (.ref b52), .val (.ref t56), .unset]) rfl k) ?_
    show OwnGo p e below s _ _ _ T56 (mkF m 85 #[.val (.int p1), .val (.int p2), .val (.int p3), .val (.int p4), .val (.int p5), .val (.int (3 : Int32)), .val (.int y0), .val (.int y1), .val (.int y2), .val (.int y3), .val (.ref b52), .val (.ref t56), .unset] [])
    refine OwnGo.st (fun _ k => XS.iload X56.here hx rfl (hb hby at_85) rfl  k) ?_
    show OwnGo p e below s _ _ _ T56 (mkF m 87 #[.val (.int p1), .val (.int p2), .val (.int p3), .val (.int p4), .val (.int p5), .val (.int (3 : Int32)), .val (.int y0), .val (.int y1), .val (.int y2), .val (.int y3), .val (.ref b52), .val (.ref t56), .unset] [(.int (3 : Int32))])
    refine OwnGo.st (fun _ k => XS.ifNo X56.here hx rfl (hb hby at_87) rfl ((if0 _ _).trans (tlt ((by decide) : (0 : Int32) < (3 : Int32))).2.2.2) k) ?_
    show OwnGo p e below s _ _ _ T56 (mkF m 90 #[.val (.int p1), .val (.int p2), .val (.int p3), .val (.int p4), .val (.int p5), .val (.int (3 : Int32)), .val (.int y0), .val (.int y1), .val (.int y2), .val (.int y3), .val (.ref b52), .val (.ref t56), .unset] [])
    refine OwnGo.st (fun _ k => XS.aload X56.here hx rfl (hb hby at_90) rfl rfl  k) ?_
    show OwnGo p e below s _ _ _ T56 (mkF m 92 #[.val (.int p1), .val (.int p2), .val (.int p3), .val (.int p4), .val (.int p5), .val (.int (3 : Int32)), .val (.int y0), .val (.int y1), .val (.int y2), .val (.int y3), .val (.ref b52), .val (.ref t56), .unset] [(.ref b52)])
    refine OwnGo.st (fun _ k => XS.iconst X56.here hx rfl (hb hby at_92) k) ?_
    show OwnGo p e below s _ _ _ T56 (mkF m 93 #[.val (.int p1), .val (.int p2), .val (.int p3), .val (.int p4), .val (.int p5), .val (.int (3 : Int32)), .val (.int y0), .val (.int y1), .val (.int y2), .val (.int y3), .val (.ref b52), .val (.ref t56), .unset] [(.int (0 : Int32)), (.ref b52)])
    refine OwnGo.st (fun _ k => XS.iload X56.here hx rfl (hb hby at_93) rfl  k) ?_
    show OwnGo p e below s _ _ _ T56 (mkF m 95 #[.val (.int p1), .val (.int p2), .val (.int p3), .val (.int p4), .val (.int p5), .val (.int (3 : Int32)), .val (.int y0), .val (.int y1), .val (.int y2), .val (.int y3), .val (.ref b52), .val (.ref t56), .unset] [(.int y0), (.int (0 : Int32)), (.ref b52)])
    refine OwnGo.st (fun _ k => XS.iconst X56.here hx rfl (hb hby at_95) k) ?_
    show OwnGo p e below s _ _ _ T56 (mkF m 96 #[.val (.int p1), .val (.int p2), .val (.int p3), .val (.int p4), .val (.int p5), .val (.int (3 : Int32)), .val (.int y0), .val (.int y1), .val (.int y2), .val (.int y3), .val (.ref b52), .val (.ref t56), .unset] [(.int (-1 : Int32)), (.int y0), (.int (0 : Int32)), (.ref b52)])
    refine OwnGo.st (fun _ k => XS.ixor X56.here hx rfl (hb hby at_96) rfl k) ?_
    show OwnGo p e below s _ _ _ T56 (mkF m 97 #[.val (.int p1), .val (.int p2), .val (.int p3), .val (.int p4), .val (.int p5), .val (.int (3 : Int32)), .val (.int y0), .val (.int y1), .val (.int y2), .val (.int y3), .val (.ref b52), .val (.ref t56), .unset] [(.int (y0 ^^^ (-1 : Int32))), (.int (0 : Int32)), (.ref b52)])
    refine OwnGo.st (fun _ k => XS.i2b X56.here hx rfl (hb hby at_97) rfl k) ?_
    show OwnGo p e below s _ _ _ T56 (mkF m 98 #[.val (.int p1), .val (.int p2), .val (.int p3), .val (.int p4), .val (.int p5), .val (.int (3 : Int32)), .val (.int y0), .val (.int y1), .val (.int y2), .val (.int y3), .val (.ref b52), .val (.ref t56), .unset] [(.int ((y0 ^^^ (-1 : Int32)).toInt8.toInt32)), (.int (0 : Int32)), (.ref b52)])
    obtain ⟨cl57, Ar57, q57, S57, N57, H57, G57⟩ := id V_b52
    have hin57 : ¬ ((0 : Int32) < 0 ∨ cl57.slots.size ≤ ((0 : Int32)).toNatClampNeg) := inb_of S57 ⟨by decide, by decide⟩
    obtain ⟨T57, h57, X57, e57, W57, st57⟩ := stB X56 hx hZ rfl Ar57 (j := (0 : Int32)) hin57 (g := (mkF m 98 #[.val (.int p1), .val (.int p2), .val (.int p3), .val (.int p4), .val (.int p5), .val (.int (3 : Int32)), .val (.int y0), .val (.int y1), .val (.int y2), .val (.int y3), .val (.ref b52), .val (.ref t56), .unset] [(.int ((y0 ^^^ (-1 : Int32)).toInt8.toInt32)), (.int (0 : Int32)), (.ref b52)])) rfl rfl (hb hby at_98)
    have V_b52 : Arv Z h57 b52 k52 .byte (3 : Int32) [(.int (nar .byte ((y0 ^^^ (-1 : Int32)).toInt8.toInt32))), (.int y1), (.int y2)] (.int (0 : Int32)) := Arv.set Ar57 q57 S57 N57 H57 G57 (fits_nar_byte _) W57 0 rfl (Nat.le_of_ble_eq_true rfl)
    rw [show nar .byte ((y0 ^^^ (-1 : Int32)).toInt8.toInt32) = ((y0 ^^^ (-1 : Int32)).toInt8.toInt32) from own_nb _] at V_b52
    have E_b52 := E_b52.wr W57
    have E56 := E56.wr W57
    have F56 := F56.other W57 (Or.inl (Ne.symm ne_b52_t56))
    have V56 := V56.other W57 (Ne.symm ne_b52_c56)
    have O_ := O_.wr W57 g_b52
    have N57 := Fr.snoc X57 N56 g_b52
    have Z_ : n0 ≤ h57.size := by rw [W57.size]; exact Z_
    refine OwnGo.st st57 ?_
    show OwnGo p e below s _ _ _ T57 (mkF m 99 #[.val (.int p1), .val (.int p2), .val (.int p3), .val (.int p4), .val (.int p5), .val (.int (3 : Int32)), .val (.int y0), .val (.int y1), .val (.int y2), .val (.int y3), .val (.ref b52), .val (.ref t56), .unset] [])
    refine OwnGo.st (fun _ k => XS.iload X57.here hx rfl (hb hby at_99) rfl  k) ?_
    show OwnGo p e below s _ _ _ T57 (mkF m 101 #[.val (.int p1), .val (.int p2), .val (.int p3), .val (.int p4), .val (.int p5), .val (.int (3 : Int32)), .val (.int y0), .val (.int y1), .val (.int y2), .val (.int y3), .val (.ref b52), .val (.ref t56), .unset] [(.int (3 : Int32))])
    refine OwnGo.st (fun _ k => XS.iconst X57.here hx rfl (hb hby at_101) k) ?_
    show OwnGo p e below s _ _ _ T57 (mkF m 102 #[.val (.int p1), .val (.int p2), .val (.int p3), .val (.int p4), .val (.int p5), .val (.int (3 : Int32)), .val (.int y0), .val (.int y1), .val (.int y2), .val (.int y3), .val (.ref b52), .val (.ref t56), .unset] [(.int (1 : Int32)), (.int (3 : Int32))])
    refine OwnGo.st (fun _ k => XS.icmpNo X57.here hx rfl (hb hby at_102) rfl (tlt ((by decide) : (1 : Int32) < (3 : Int32))).2.2.2 k) ?_
    show OwnGo p e below s _ _ _ T57 (mkF m 105 #[.val (.int p1), .val (.int p2), .val (.int p3), .val (.int p4), .val (.int p5), .val (.int (3 : Int32)), .val (.int y0), .val (.int y1), .val (.int y2), .val (.int y3), .val (.ref b52), .val (.ref t56), .unset] [])
    refine OwnGo.st (fun _ k => XS.aload X57.here hx rfl (hb hby at_105) rfl rfl  k) ?_
    show OwnGo p e below s _ _ _ T57 (mkF m 107 #[.val (.int p1), .val (.int p2), .val (.int p3), .val (.int p4), .val (.int p5), .val (.int (3 : Int32)), .val (.int y0), .val (.int y1), .val (.int y2), .val (.int y3), .val (.ref b52), .val (.ref t56), .unset] [(.ref b52)])
    refine OwnGo.st (fun _ k => XS.iconst X57.here hx rfl (hb hby at_107) k) ?_
    show OwnGo p e below s _ _ _ T57 (mkF m 108 #[.val (.int p1), .val (.int p2), .val (.int p3), .val (.int p4), .val (.int p5), .val (.int (3 : Int32)), .val (.int y0), .val (.int y1), .val (.int y2), .val (.int y3), .val (.ref b52), .val (.ref t56), .unset] [(.int (1 : Int32)), (.ref b52)])
    refine OwnGo.st (fun _ k => XS.iload X57.here hx rfl (hb hby at_108) rfl  k) ?_
    show OwnGo p e below s _ _ _ T57 (mkF m 110 #[.val (.int p1), .val (.int p2), .val (.int p3), .val (.int p4), .val (.int p5), .val (.int (3 : Int32)), .val (.int y0), .val (.int y1), .val (.int y2), .val (.int y3), .val (.ref b52), .val (.ref t56), .unset] [(.int y1), (.int (1 : Int32)), (.ref b52)])
    refine OwnGo.st (fun _ k => XS.iconst X57.here hx rfl (hb hby at_110) k) ?_
    show OwnGo p e below s _ _ _ T57 (mkF m 111 #[.val (.int p1), .val (.int p2), .val (.int p3), .val (.int p4), .val (.int p5), .val (.int (3 : Int32)), .val (.int y0), .val (.int y1), .val (.int y2), .val (.int y3), .val (.ref b52), .val (.ref t56), .unset] [(.int (-1 : Int32)), (.int y1), (.int (1 : Int32)), (.ref b52)])
    refine OwnGo.st (fun _ k => XS.ixor X57.here hx rfl (hb hby at_111) rfl k) ?_
    show OwnGo p e below s _ _ _ T57 (mkF m 112 #[.val (.int p1), .val (.int p2), .val (.int p3), .val (.int p4), .val (.int p5), .val (.int (3 : Int32)), .val (.int y0), .val (.int y1), .val (.int y2), .val (.int y3), .val (.ref b52), .val (.ref t56), .unset] [(.int (y1 ^^^ (-1 : Int32))), (.int (1 : Int32)), (.ref b52)])
    refine OwnGo.st (fun _ k => XS.i2b X57.here hx rfl (hb hby at_112) rfl k) ?_
    show OwnGo p e below s _ _ _ T57 (mkF m 113 #[.val (.int p1), .val (.int p2), .val (.int p3), .val (.int p4), .val (.int p5), .val (.int (3 : Int32)), .val (.int y0), .val (.int y1), .val (.int y2), .val (.int y3), .val (.ref b52), .val (.ref t56), .unset] [(.int ((y1 ^^^ (-1 : Int32)).toInt8.toInt32)), (.int (1 : Int32)), (.ref b52)])
    obtain ⟨cl58, Ar58, q58, S58, N58, H58, G58⟩ := id V_b52
    have hin58 : ¬ ((1 : Int32) < 0 ∨ cl58.slots.size ≤ ((1 : Int32)).toNatClampNeg) := inb_of S58 ⟨by decide, by decide⟩
    obtain ⟨T58, h58, X58, e58, W58, st58⟩ := stB X57 hx hZ e57 Ar58 (j := (1 : Int32)) hin58 (g := (mkF m 113 #[.val (.int p1), .val (.int p2), .val (.int p3), .val (.int p4), .val (.int p5), .val (.int (3 : Int32)), .val (.int y0), .val (.int y1), .val (.int y2), .val (.int y3), .val (.ref b52), .val (.ref t56), .unset] [(.int ((y1 ^^^ (-1 : Int32)).toInt8.toInt32)), (.int (1 : Int32)), (.ref b52)])) rfl rfl (hb hby at_113)
    have V_b52 : Arv Z h58 b52 k52 .byte (3 : Int32) [(.int ((y0 ^^^ (-1 : Int32)).toInt8.toInt32)), (.int (nar .byte ((y1 ^^^ (-1 : Int32)).toInt8.toInt32))), (.int y2)] (.int (0 : Int32)) := Arv.set Ar58 q58 S58 N58 H58 G58 (fits_nar_byte _) W58 1 rfl (Nat.le_of_ble_eq_true rfl)
    rw [show nar .byte ((y1 ^^^ (-1 : Int32)).toInt8.toInt32) = ((y1 ^^^ (-1 : Int32)).toInt8.toInt32) from own_nb _] at V_b52
    have E_b52 := E_b52.wr W58
    have E56 := E56.wr W58
    have F56 := F56.other W58 (Or.inl (Ne.symm ne_b52_t56))
    have V56 := V56.other W58 (Ne.symm ne_b52_c56)
    have O_ := O_.wr W58 g_b52
    have N58 := Fr.snoc X58 N57 g_b52
    have Z_ : n0 ≤ h58.size := by rw [W58.size]; exact Z_
    refine OwnGo.st st58 ?_
    show OwnGo p e below s _ _ _ T58 (mkF m 114 #[.val (.int p1), .val (.int p2), .val (.int p3), .val (.int p4), .val (.int p5), .val (.int (3 : Int32)), .val (.int y0), .val (.int y1), .val (.int y2), .val (.int y3), .val (.ref b52), .val (.ref t56), .unset] [])
    refine OwnGo.st (fun _ k => XS.iload X58.here hx rfl (hb hby at_114) rfl  k) ?_
    show OwnGo p e below s _ _ _ T58 (mkF m 116 #[.val (.int p1), .val (.int p2), .val (.int p3), .val (.int p4), .val (.int p5), .val (.int (3 : Int32)), .val (.int y0), .val (.int y1), .val (.int y2), .val (.int y3), .val (.ref b52), .val (.ref t56), .unset] [(.int (3 : Int32))])
    refine OwnGo.st (fun _ k => XS.iconst X58.here hx rfl (hb hby at_116) k) ?_
    show OwnGo p e below s _ _ _ T58 (mkF m 117 #[.val (.int p1), .val (.int p2), .val (.int p3), .val (.int p4), .val (.int p5), .val (.int (3 : Int32)), .val (.int y0), .val (.int y1), .val (.int y2), .val (.int y3), .val (.ref b52), .val (.ref t56), .unset] [(.int (2 : Int32)), (.int (3 : Int32))])
    refine OwnGo.st (fun _ k => XS.icmpNo X58.here hx rfl (hb hby at_117) rfl (tlt ((by decide) : (2 : Int32) < (3 : Int32))).2.2.2 k) ?_
    show OwnGo p e below s _ _ _ T58 (mkF m 120 #[.val (.int p1), .val (.int p2), .val (.int p3), .val (.int p4), .val (.int p5), .val (.int (3 : Int32)), .val (.int y0), .val (.int y1), .val (.int y2), .val (.int y3), .val (.ref b52), .val (.ref t56), .unset] [])
    refine OwnGo.st (fun _ k => XS.aload X58.here hx rfl (hb hby at_120) rfl rfl  k) ?_
    show OwnGo p e below s _ _ _ T58 (mkF m 122 #[.val (.int p1), .val (.int p2), .val (.int p3), .val (.int p4), .val (.int p5), .val (.int (3 : Int32)), .val (.int y0), .val (.int y1), .val (.int y2), .val (.int y3), .val (.ref b52), .val (.ref t56), .unset] [(.ref b52)])
    refine OwnGo.st (fun _ k => XS.iconst X58.here hx rfl (hb hby at_122) k) ?_
    show OwnGo p e below s _ _ _ T58 (mkF m 123 #[.val (.int p1), .val (.int p2), .val (.int p3), .val (.int p4), .val (.int p5), .val (.int (3 : Int32)), .val (.int y0), .val (.int y1), .val (.int y2), .val (.int y3), .val (.ref b52), .val (.ref t56), .unset] [(.int (2 : Int32)), (.ref b52)])
    refine OwnGo.st (fun _ k => XS.iload X58.here hx rfl (hb hby at_123) rfl  k) ?_
    show OwnGo p e below s _ _ _ T58 (mkF m 125 #[.val (.int p1), .val (.int p2), .val (.int p3), .val (.int p4), .val (.int p5), .val (.int (3 : Int32)), .val (.int y0), .val (.int y1), .val (.int y2), .val (.int y3), .val (.ref b52), .val (.ref t56), .unset] [(.int y2), (.int (2 : Int32)), (.ref b52)])
    refine OwnGo.st (fun _ k => XS.iconst X58.here hx rfl (hb hby at_125) k) ?_
    show OwnGo p e below s _ _ _ T58 (mkF m 126 #[.val (.int p1), .val (.int p2), .val (.int p3), .val (.int p4), .val (.int p5), .val (.int (3 : Int32)), .val (.int y0), .val (.int y1), .val (.int y2), .val (.int y3), .val (.ref b52), .val (.ref t56), .unset] [(.int (-1 : Int32)), (.int y2), (.int (2 : Int32)), (.ref b52)])
    refine OwnGo.st (fun _ k => XS.ixor X58.here hx rfl (hb hby at_126) rfl k) ?_
    show OwnGo p e below s _ _ _ T58 (mkF m 127 #[.val (.int p1), .val (.int p2), .val (.int p3), .val (.int p4), .val (.int p5), .val (.int (3 : Int32)), .val (.int y0), .val (.int y1), .val (.int y2), .val (.int y3), .val (.ref b52), .val (.ref t56), .unset] [(.int (y2 ^^^ (-1 : Int32))), (.int (2 : Int32)), (.ref b52)])
    refine OwnGo.st (fun _ k => XS.i2b X58.here hx rfl (hb hby at_127) rfl k) ?_
    show OwnGo p e below s _ _ _ T58 (mkF m 128 #[.val (.int p1), .val (.int p2), .val (.int p3), .val (.int p4), .val (.int p5), .val (.int (3 : Int32)), .val (.int y0), .val (.int y1), .val (.int y2), .val (.int y3), .val (.ref b52), .val (.ref t56), .unset] [(.int ((y2 ^^^ (-1 : Int32)).toInt8.toInt32)), (.int (2 : Int32)), (.ref b52)])
    obtain ⟨cl59, Ar59, q59, S59, N59, H59, G59⟩ := id V_b52
    have hin59 : ¬ ((2 : Int32) < 0 ∨ cl59.slots.size ≤ ((2 : Int32)).toNatClampNeg) := inb_of S59 ⟨by decide, by decide⟩
    obtain ⟨T59, h59, X59, e59, W59, st59⟩ := stB X58 hx hZ e58 Ar59 (j := (2 : Int32)) hin59 (g := (mkF m 128 #[.val (.int p1), .val (.int p2), .val (.int p3), .val (.int p4), .val (.int p5), .val (.int (3 : Int32)), .val (.int y0), .val (.int y1), .val (.int y2), .val (.int y3), .val (.ref b52), .val (.ref t56), .unset] [(.int ((y2 ^^^ (-1 : Int32)).toInt8.toInt32)), (.int (2 : Int32)), (.ref b52)])) rfl rfl (hb hby at_128)
    have V_b52 : Arv Z h59 b52 k52 .byte (3 : Int32) [(.int ((y0 ^^^ (-1 : Int32)).toInt8.toInt32)), (.int ((y1 ^^^ (-1 : Int32)).toInt8.toInt32)), (.int (nar .byte ((y2 ^^^ (-1 : Int32)).toInt8.toInt32)))] (.int (0 : Int32)) := Arv.set Ar59 q59 S59 N59 H59 G59 (fits_nar_byte _) W59 2 rfl (Nat.le_of_ble_eq_true rfl)
    rw [show nar .byte ((y2 ^^^ (-1 : Int32)).toInt8.toInt32) = ((y2 ^^^ (-1 : Int32)).toInt8.toInt32) from own_nb _] at V_b52
    have E_b52 := E_b52.wr W59
    have E56 := E56.wr W59
    have F56 := F56.other W59 (Or.inl (Ne.symm ne_b52_t56))
    have V56 := V56.other W59 (Ne.symm ne_b52_c56)
    have O_ := O_.wr W59 g_b52
    have N59 := Fr.snoc X59 N58 g_b52
    have Z_ : n0 ≤ h59.size := by rw [W59.size]; exact Z_
    refine OwnGo.st st59 ?_
    show OwnGo p e below s _ _ _ T59 (mkF m 129 #[.val (.int p1), .val (.int p2), .val (.int p3), .val (.int p4), .val (.int p5), .val (.int (3 : Int32)), .val (.int y0), .val (.int y1), .val (.int y2), .val (.int y3), .val (.ref b52), .val (.ref t56), .unset] [])
    refine OwnGo.st (fun _ k => XS.iload X59.here hx rfl (hb hby at_129) rfl  k) ?_
    show OwnGo p e below s _ _ _ T59 (mkF m 131 #[.val (.int p1), .val (.int p2), .val (.int p3), .val (.int p4), .val (.int p5), .val (.int (3 : Int32)), .val (.int y0), .val (.int y1), .val (.int y2), .val (.int y3), .val (.ref b52), .val (.ref t56), .unset] [(.int (3 : Int32))])
    refine OwnGo.st (fun _ k => XS.iconst X59.here hx rfl (hb hby at_131) k) ?_
    show OwnGo p e below s _ _ _ T59 (mkF m 132 #[.val (.int p1), .val (.int p2), .val (.int p3), .val (.int p4), .val (.int p5), .val (.int (3 : Int32)), .val (.int y0), .val (.int y1), .val (.int y2), .val (.int y3), .val (.ref b52), .val (.ref t56), .unset] [(.int (3 : Int32)), (.int (3 : Int32))])
    refine OwnGo.st (fun _ k => XS.icmpYes X59.here hx rfl (pc0 := 132) (pc' := 144) rfl (hb hby at_132) rfl (flt ((by decide) : ¬ ((3 : Int32) < (3 : Int32)))).2.2.2 (by decide) (by decide) k) ?_
    show OwnGo p e below s _ _ _ T59 (mkF m 144 #[.val (.int p1), .val (.int p2), .val (.int p3), .val (.int p4), .val (.int p5), .val (.int (3 : Int32)), .val (.int y0), .val (.int y1), .val (.int y2), .val (.int y3), .val (.ref b52), .val (.ref t56), .unset] [])
    refine OwnGo.st (fun _ k => XS.aload X59.here hx rfl (hb hby at_144) rfl rfl  k) ?_
    show OwnGo p e below s _ _ _ T59 (mkF m 146 #[.val (.int p1), .val (.int p2), .val (.int p3), .val (.int p4), .val (.int p5), .val (.int (3 : Int32)), .val (.int y0), .val (.int y1), .val (.int y2), .val (.int y3), .val (.ref b52), .val (.ref t56), .unset] [(.ref t56)])
    obtain ⟨cq60, kq60, q60a, q60b, q60c⟩ := isOf hZ e59 E56
    obtain ⟨_, _, ⟨T60, L60, k60, n60⟩, -, X60, ⟨Lc60, hQ60, l60, y60, z60⟩, st60⟩ := X59.virtualBack hx (y := (⟨"com/example/cofferhand/cofferhand/nbt/ByteArrayTag", "length", "()I"⟩ : MethodName)) (z := (⟨"com/example/cofferhand/cofferhand/nbt/ByteArrayTag", "length", "()I"⟩ : MethodName)) hown (mvT hZ (hw _ (List.mem_of_getElem? (i := 25) rfl))) (mvT hZ (hw _ (List.mem_of_getElem? (i := 26) rfl))) (notFace_of_selects (args := #[]) (mvT hZ (hw _ (List.mem_of_getElem? (i := 28) rfl)))) (mvT hZ (hw _ (List.mem_of_getElem? (i := 28) rfl))) (mvT hZ (hw _ (List.mem_of_getElem? (i := 27) rfl))) (by decide) (backOf (W := 0) (rmlen l Z a0 hw [] t56 c56 k52 (3 : Int32) [(.int y0), (.int y1), (.int y2)] h59 n0 Z_ F56 V56) hZ (hw _ (List.mem_of_getElem? (i := 29) rfl)) (hw _ (List.mem_of_getElem? (i := 4) rfl)) (by decide) (by decide)) q60a q60c (g := (mkF m 146 #[.val (.int p1), .val (.int p2), .val (.int p3), .val (.int p4), .val (.int p5), .val (.int (3 : Int32)), .val (.int y0), .val (.int y1), .val (.int y2), .val (.int y3), .val (.ref b52), .val (.ref t56), .unset] [(.ref t56)])) rfl (by rw [hml]; rfl) (Steps.refl _) (argsL := []) (rest := []) (lenOf pd_2 rfl) rfl (by show 2 * 0 + _ ≤ _; exact Nat.le_of_eq rfl) (hb hby at_146) (fun _ _ => ⟨rfl, e59, (by decide : 3 + 0 ≤ _), (by decide : 7 + 0 ≤ _)⟩)
    dsimp only [Pt.U, Pt.locs, Pt.cells, Pt.slots] at X60 l60 y60 z60 st60 hQ60
    subst l60 y60 z60
    obtain ⟨rfl, N60q, e60⟩ := hQ60
    have N60 := Fr.app N59 N60q
    refine OwnGo.st (fun _ k => st60.trans k) ?_
    show OwnGo p e below s _ _ _ T60 (mkF m 149 #[.val (.int p1), .val (.int p2), .val (.int p3), .val (.int p4), .val (.int p5), .val (.int (3 : Int32)), .val (.int y0), .val (.int y1), .val (.int y2), .val (.int y3), .val (.ref b52), .val (.ref t56), .unset] [(.int (3 : Int32))])
    refine OwnGo.st (fun _ k => XS.iload X60.here hx rfl (hb hby at_149) rfl  k) ?_
    show OwnGo p e below s _ _ _ T60 (mkF m 151 #[.val (.int p1), .val (.int p2), .val (.int p3), .val (.int p4), .val (.int p5), .val (.int (3 : Int32)), .val (.int y0), .val (.int y1), .val (.int y2), .val (.int y3), .val (.ref b52), .val (.ref t56), .unset] [(.int (3 : Int32)), (.int (3 : Int32))])
    refine OwnGo.st (fun _ k => XS.icmpNo X60.here hx rfl (hb hby at_151) rfl (teq (rfl : (3 : Int32) = (3 : Int32))).2 k) ?_
    show OwnGo p e below s _ _ _ T60 (mkF m 154 #[.val (.int p1), .val (.int p2), .val (.int p3), .val (.int p4), .val (.int p5), .val (.int (3 : Int32)), .val (.int y0), .val (.int y1), .val (.int y2), .val (.int y3), .val (.ref b52), .val (.ref t56), .unset] [])
    refine OwnGo.st (fun _ k => XS.aload X60.here hx rfl (hb hby at_154) rfl rfl  k) ?_
    show OwnGo p e below s _ _ _ T60 (mkF m 156 #[.val (.int p1), .val (.int p2), .val (.int p3), .val (.int p4), .val (.int p5), .val (.int (3 : Int32)), .val (.int y0), .val (.int y1), .val (.int y2), .val (.int y3), .val (.ref b52), .val (.ref t56), .unset] [(.ref t56)])
    obtain ⟨cq61, kq61, q61a, q61b, q61c⟩ := isOf hZ e60 E56
    obtain ⟨_, _, ⟨T61, L61, k61, n61⟩, -, X61, ⟨Lc61, hQ61, l61, y61, z61⟩, st61⟩ := X60.virtualBack hx (y := (⟨"com/example/cofferhand/cofferhand/nbt/ByteArrayTag", "type", "()Lcom/example/cofferhand/cofferhand/nbt/TagType;"⟩ : MethodName)) (z := (⟨"com/example/cofferhand/cofferhand/nbt/ByteArrayTag", "type", "()Lcom/example/cofferhand/cofferhand/nbt/TagType;"⟩ : MethodName)) hown (mvT hZ (hw _ (List.mem_of_getElem? (i := 30) rfl))) (mvT hZ (hw _ (List.mem_of_getElem? (i := 31) rfl))) (notFace_of_selects (args := #[]) (mvT hZ (hw _ (List.mem_of_getElem? (i := 33) rfl)))) (mvT hZ (hw _ (List.mem_of_getElem? (i := 33) rfl))) (mvT hZ (hw _ (List.mem_of_getElem? (i := 32) rfl))) (by decide) (backOf (W := 0) (rmtyp l Z a0 hw [] t56 u_TagType_BYTE_ARRAY h59 n0 Z_ O_ S_u_TagType_BYTE_ARRAY E_u_TagType_BYTE_ARRAY) hZ (hw _ (List.mem_of_getElem? (i := 34) rfl)) (hw _ (List.mem_of_getElem? (i := 4) rfl)) (by decide) (by decide)) q61a q61c (g := (mkF m 156 #[.val (.int p1), .val (.int p2), .val (.int p3), .val (.int p4), .val (.int p5), .val (.int (3 : Int32)), .val (.int y0), .val (.int y1), .val (.int y2), .val (.int y3), .val (.ref b52), .val (.ref t56), .unset] [(.ref t56)])) rfl (by rw [hml]; rfl) (Steps.refl _) (argsL := []) (rest := []) (lenOf pd_3 rfl) rfl (by show 2 * 0 + _ ≤ _; exact Nat.le_of_eq rfl) (hb hby at_156) (fun _ _ => ⟨rfl, e60, (by decide : 3 + 0 ≤ _), (by decide : 7 + 0 ≤ _)⟩)
    dsimp only [Pt.U, Pt.locs, Pt.cells, Pt.slots] at X61 l61 y61 z61 st61 hQ61
    subst l61 y61 z61
    obtain ⟨rfl, N61q, e61⟩ := hQ61
    have N61 := Fr.app N60 N61q
    refine OwnGo.st (fun _ k => st61.trans k) ?_
    show OwnGo p e below s _ _ _ T61 (mkF m 159 #[.val (.int p1), .val (.int p2), .val (.int p3), .val (.int p4), .val (.int p5), .val (.int (3 : Int32)), .val (.int y0), .val (.int y1), .val (.int y2), .val (.int y3), .val (.ref b52), .val (.ref t56), .unset] [(.ref u_TagType_BYTE_ARRAY)])
    obtain ⟨T62, X62, e62, st62⟩ := getS2 X61 hx hZ hown (host := "") (Or.inl (hw _ (List.mem_of_getElem? (i := 38) rfl))) Via.refl e61 (S_u_TagType_BYTE_ARRAY.ext O_.2) (g := (mkF m 159 #[.val (.int p1), .val (.int p2), .val (.int p3), .val (.int p4), .val (.int p5), .val (.int (3 : Int32)), .val (.int y0), .val (.int y1), .val (.int y2), .val (.int y3), .val (.ref b52), .val (.ref t56), .unset] [(.ref u_TagType_BYTE_ARRAY)])) rfl (hb hby at_159)
    refine OwnGo.st st62 ?_
    show OwnGo p e below s _ _ _ T62 (mkF m 162 #[.val (.int p1), .val (.int p2), .val (.int p3), .val (.int p4), .val (.int p5), .val (.int (3 : Int32)), .val (.int y0), .val (.int y1), .val (.int y2), .val (.int y3), .val (.ref b52), .val (.ref t56), .unset] [(.ref u_TagType_BYTE_ARRAY), (.ref u_TagType_BYTE_ARRAY)])
    refine OwnGo.st (fun _ k => Jvm.RoadKit.acmp (g := (mkF m 162 #[.val (.int p1), .val (.int p2), .val (.int p3), .val (.int p4), .val (.int p5), .val (.int (3 : Int32)), .val (.int y0), .val (.int y1), .val (.int y2), .val (.int y3), .val (.ref b52), .val (.ref t56), .unset] [(.ref u_TagType_BYTE_ARRAY), (.ref u_TagType_BYTE_ARRAY)])) X62 hx rfl rfl rfl (pc0 := 162) (pc' := 165) (same := true) rfl (hb hby at_162) rfl (decide_eq_true rfl) (by decide) (by decide) k) ?_
    show OwnGo p e below s _ _ _ T62 (mkF m 165 #[.val (.int p1), .val (.int p2), .val (.int p3), .val (.int p4), .val (.int p5), .val (.int (3 : Int32)), .val (.int y0), .val (.int y1), .val (.int y2), .val (.int y3), .val (.ref b52), .val (.ref t56), .unset] [])
    refine OwnGo.st (fun _ k => XS.iconst X62.here hx rfl (hb hby at_165) k) ?_
    show OwnGo p e below s _ _ _ T62 (mkF m 166 #[.val (.int p1), .val (.int p2), .val (.int p3), .val (.int p4), .val (.int p5), .val (.int (3 : Int32)), .val (.int y0), .val (.int y1), .val (.int y2), .val (.int y3), .val (.ref b52), .val (.ref t56), .unset] [(.int (1 : Int32))])
    refine OwnGo.st (fun _ k => XS.goto X62.here hx rfl (pc0 := 166) (pc' := 170) rfl (hb hby at_166) (by decide) (by decide) k) ?_
    show OwnGo p e below s _ _ _ T62 (mkF m 170 #[.val (.int p1), .val (.int p2), .val (.int p3), .val (.int p4), .val (.int p5), .val (.int (3 : Int32)), .val (.int y0), .val (.int y1), .val (.int y2), .val (.int y3), .val (.ref b52), .val (.ref t56), .unset] [(.int (1 : Int32))])
    refine OwnGo.st (fun _ k => XS.istore X62.here hx rfl (hb hby at_170) rfl (l' := #[.val (.int p1), .val (.int p2), .val (.int p3), .val (.int p4), .val (.int p5), .val (.int (3 : Int32)), .val (.int y0), .val (.int y1), .val (.int y2), .val (.int y3), .val (.ref b52), .val (.ref t56), .val (.int (1 : Int32))]) rfl k) ?_
    show OwnGo p e below s _ _ _ T62 (mkF m 172 #[.val (.int p1), .val (.int p2), .val (.int p3), .val (.int p4), .val (.int p5), .val (.int (3 : Int32)), .val (.int y0), .val (.int y1), .val (.int y2), .val (.int y3), .val (.ref b52), .val (.ref t56), .val (.int (1 : Int32))] [])
    refine OwnGo.st (fun _ k => XS.iload X62.here hx rfl (hb hby at_172) rfl  k) ?_
    show OwnGo p e below s _ _ _ T62 (mkF m 174 #[.val (.int p1), .val (.int p2), .val (.int p3), .val (.int p4), .val (.int p5), .val (.int (3 : Int32)), .val (.int y0), .val (.int y1), .val (.int y2), .val (.int y3), .val (.ref b52), .val (.ref t56), .val (.int (1 : Int32))] [(.int (1 : Int32))])
    refine OwnGo.st (fun _ k => XS.ifNo X62.here hx rfl (hb hby at_174) rfl ((if0 _ _).trans (feq ((by decide) : ¬ ((1 : Int32) = (0 : Int32)))).1) k) ?_
    show OwnGo p e below s _ _ _ T62 (mkF m 177 #[.val (.int p1), .val (.int p2), .val (.int p3), .val (.int p4), .val (.int p5), .val (.int (3 : Int32)), .val (.int y0), .val (.int y1), .val (.int y2), .val (.int y3), .val (.ref b52), .val (.ref t56), .val (.int (1 : Int32))] [])
    refine OwnGo.st (fun _ k => XS.iload X62.here hx rfl (hb hby at_177) rfl  k) ?_
    show OwnGo p e below s _ _ _ T62 (mkF m 179 #[.val (.int p1), .val (.int p2), .val (.int p3), .val (.int p4), .val (.int p5), .val (.int (3 : Int32)), .val (.int y0), .val (.int y1), .val (.int y2), .val (.int y3), .val (.ref b52), .val (.ref t56), .val (.int (1 : Int32))] [(.int (3 : Int32))])
    refine OwnGo.st (fun _ k => XS.ifNo X62.here hx rfl (hb hby at_179) rfl ((if0 _ _).trans (tlt ((by decide) : (0 : Int32) < (3 : Int32))).2.2.2) k) ?_
    show OwnGo p e below s _ _ _ T62 (mkF m 182 #[.val (.int p1), .val (.int p2), .val (.int p3), .val (.int p4), .val (.int p5), .val (.int (3 : Int32)), .val (.int y0), .val (.int y1), .val (.int y2), .val (.int y3), .val (.ref b52), .val (.ref t56), .val (.int (1 : Int32))] [])
    refine OwnGo.st (fun _ k => XS.aload X62.here hx rfl (hb hby at_182) rfl rfl  k) ?_
    show OwnGo p e below s _ _ _ T62 (mkF m 184 #[.val (.int p1), .val (.int p2), .val (.int p3), .val (.int p4), .val (.int p5), .val (.int (3 : Int32)), .val (.int y0), .val (.int y1), .val (.int y2), .val (.int y3), .val (.ref b52), .val (.ref t56), .val (.int (1 : Int32))] [(.ref t56)])
    refine OwnGo.st (fun _ k => XS.iconst X62.here hx rfl (hb hby at_184) k) ?_
    show OwnGo p e below s _ _ _ T62 (mkF m 185 #[.val (.int p1), .val (.int p2), .val (.int p3), .val (.int p4), .val (.int p5), .val (.int (3 : Int32)), .val (.int y0), .val (.int y1), .val (.int y2), .val (.int y3), .val (.ref b52), .val (.ref t56), .val (.int (1 : Int32))] [(.int (0 : Int32)), (.ref t56)])
    obtain ⟨cq63, kq63, q63a, q63b, q63c⟩ := isOf hZ e62 E56
    obtain ⟨_, _, ⟨T63, L63, k63, n63⟩, -, X63, ⟨Lc63, hQ63, l63, y63, z63⟩, st63⟩ := X62.virtualBack hx (y := (⟨"com/example/cofferhand/cofferhand/nbt/ByteArrayTag", "get", "(I)B"⟩ : MethodName)) (z := (⟨"com/example/cofferhand/cofferhand/nbt/ByteArrayTag", "get", "(I)B"⟩ : MethodName)) hown (mvT hZ (hw _ (List.mem_of_getElem? (i := 39) rfl))) (mvT hZ (hw _ (List.mem_of_getElem? (i := 40) rfl))) (notFace_of_selects (args := #[]) (mvT hZ (hw _ (List.mem_of_getElem? (i := 42) rfl)))) (mvT hZ (hw _ (List.mem_of_getElem? (i := 42) rfl))) (mvT hZ (hw _ (List.mem_of_getElem? (i := 41) rfl))) (by decide) (backOf (W := 0) (rmget l Z a0 hw [] t56 c56 k52 (3 : Int32) [(.int y0), (.int y1), (.int y2)] (0 : Int32) y0 h59 n0 Z_ F56 V56 ⟨by decide, by decide⟩ rfl (by rw [hy0]; exact own_nb _)) hZ (hw _ (List.mem_of_getElem? (i := 43) rfl)) (hw _ (List.mem_of_getElem? (i := 4) rfl)) (by decide) (by decide)) q63a q63c (g := (mkF m 185 #[.val (.int p1), .val (.int p2), .val (.int p3), .val (.int p4), .val (.int p5), .val (.int (3 : Int32)), .val (.int y0), .val (.int y1), .val (.int y2), .val (.int y3), .val (.ref b52), .val (.ref t56), .val (.int (1 : Int32))] [(.int (0 : Int32)), (.ref t56)])) rfl (by rw [hml]; rfl) (Steps.refl _) (argsL := [(.int (0 : Int32))]) (rest := []) (lenOf pd_4 rfl) rfl (by show 2 * 0 + _ ≤ _; exact Nat.le_of_eq rfl) (hb hby at_185) (fun _ _ => ⟨rfl, e62, (by decide : 3 + 0 ≤ _), (by decide : 7 + 0 ≤ _)⟩)
    dsimp only [Pt.U, Pt.locs, Pt.cells, Pt.slots] at X63 l63 y63 z63 st63 hQ63
    subst l63 y63 z63
    obtain ⟨rfl, N63q, e63⟩ := hQ63
    have N63 := Fr.app N61 N63q
    refine OwnGo.st (fun _ k => st63.trans k) ?_
    show OwnGo p e below s _ _ _ T63 (mkF m 188 #[.val (.int p1), .val (.int p2), .val (.int p3), .val (.int p4), .val (.int p5), .val (.int (3 : Int32)), .val (.int y0), .val (.int y1), .val (.int y2), .val (.int y3), .val (.ref b52), .val (.ref t56), .val (.int (1 : Int32))] [(.int y0)])
    refine OwnGo.st (fun _ k => XS.iload X63.here hx rfl (hb hby at_188) rfl  k) ?_
    show OwnGo p e below s _ _ _ T63 (mkF m 190 #[.val (.int p1), .val (.int p2), .val (.int p3), .val (.int p4), .val (.int p5), .val (.int (3 : Int32)), .val (.int y0), .val (.int y1), .val (.int y2), .val (.int y3), .val (.ref b52), .val (.ref t56), .val (.int (1 : Int32))] [(.int y0), (.int y0)])
    refine OwnGo.st (fun _ k => XS.icmpNo X63.here hx rfl (hb hby at_190) rfl (teq (rfl : y0 = y0)).2 k) ?_
    show OwnGo p e below s _ _ _ T63 (mkF m 193 #[.val (.int p1), .val (.int p2), .val (.int p3), .val (.int p4), .val (.int p5), .val (.int (3 : Int32)), .val (.int y0), .val (.int y1), .val (.int y2), .val (.int y3), .val (.ref b52), .val (.ref t56), .val (.int (1 : Int32))] [])
    refine OwnGo.st (fun _ k => XS.iconst X63.here hx rfl (hb hby at_193) k) ?_
    show OwnGo p e below s _ _ _ T63 (mkF m 194 #[.val (.int p1), .val (.int p2), .val (.int p3), .val (.int p4), .val (.int p5), .val (.int (3 : Int32)), .val (.int y0), .val (.int y1), .val (.int y2), .val (.int y3), .val (.ref b52), .val (.ref t56), .val (.int (1 : Int32))] [(.int (1 : Int32))])
    refine OwnGo.st (fun _ k => XS.goto X63.here hx rfl (pc0 := 194) (pc' := 198) rfl (hb hby at_194) (by decide) (by decide) k) ?_
    show OwnGo p e below s _ _ _ T63 (mkF m 198 #[.val (.int p1), .val (.int p2), .val (.int p3), .val (.int p4), .val (.int p5), .val (.int (3 : Int32)), .val (.int y0), .val (.int y1), .val (.int y2), .val (.int y3), .val (.ref b52), .val (.ref t56), .val (.int (1 : Int32))] [(.int (1 : Int32))])
    refine OwnGo.st (fun _ k => XS.istore X63.here hx rfl (hb hby at_198) rfl (l' := #[.val (.int p1), .val (.int p2), .val (.int p3), .val (.int p4), .val (.int p5), .val (.int (3 : Int32)), .val (.int y0), .val (.int y1), .val (.int y2), .val (.int y3), .val (.ref b52), .val (.ref t56), .val (.int (1 : Int32))]) rfl k) ?_
    show OwnGo p e below s _ _ _ T63 (mkF m 200 #[.val (.int p1), .val (.int p2), .val (.int p3), .val (.int p4), .val (.int p5), .val (.int (3 : Int32)), .val (.int y0), .val (.int y1), .val (.int y2), .val (.int y3), .val (.ref b52), .val (.ref t56), .val (.int (1 : Int32))] [])
    refine OwnGo.st (fun _ k => XS.iload X63.here hx rfl (hb hby at_200) rfl  k) ?_
    show OwnGo p e below s _ _ _ T63 (mkF m 202 #[.val (.int p1), .val (.int p2), .val (.int p3), .val (.int p4), .val (.int p5), .val (.int (3 : Int32)), .val (.int y0), .val (.int y1), .val (.int y2), .val (.int y3), .val (.ref b52), .val (.ref t56), .val (.int (1 : Int32))] [(.int (1 : Int32))])
    refine OwnGo.st (fun _ k => XS.ifNo X63.here hx rfl (hb hby at_202) rfl ((if0 _ _).trans (feq ((by decide) : ¬ ((1 : Int32) = (0 : Int32)))).1) k) ?_
    show OwnGo p e below s _ _ _ T63 (mkF m 205 #[.val (.int p1), .val (.int p2), .val (.int p3), .val (.int p4), .val (.int p5), .val (.int (3 : Int32)), .val (.int y0), .val (.int y1), .val (.int y2), .val (.int y3), .val (.ref b52), .val (.ref t56), .val (.int (1 : Int32))] [])
    refine OwnGo.st (fun _ k => XS.iload X63.here hx rfl (hb hby at_205) rfl  k) ?_
    show OwnGo p e below s _ _ _ T63 (mkF m 207 #[.val (.int p1), .val (.int p2), .val (.int p3), .val (.int p4), .val (.int p5), .val (.int (3 : Int32)), .val (.int y0), .val (.int y1), .val (.int y2), .val (.int y3), .val (.ref b52), .val (.ref t56), .val (.int (1 : Int32))] [(.int (3 : Int32))])
    refine OwnGo.st (fun _ k => XS.iconst X63.here hx rfl (hb hby at_207) k) ?_
    show OwnGo p e below s _ _ _ T63 (mkF m 208 #[.val (.int p1), .val (.int p2), .val (.int p3), .val (.int p4), .val (.int p5), .val (.int (3 : Int32)), .val (.int y0), .val (.int y1), .val (.int y2), .val (.int y3), .val (.ref b52), .val (.ref t56), .val (.int (1 : Int32))] [(.int (1 : Int32)), (.int (3 : Int32))])
    refine OwnGo.st (fun _ k => XS.icmpNo X63.here hx rfl (hb hby at_208) rfl (tlt ((by decide) : (1 : Int32) < (3 : Int32))).2.2.2 k) ?_
    show OwnGo p e below s _ _ _ T63 (mkF m 211 #[.val (.int p1), .val (.int p2), .val (.int p3), .val (.int p4), .val (.int p5), .val (.int (3 : Int32)), .val (.int y0), .val (.int y1), .val (.int y2), .val (.int y3), .val (.ref b52), .val (.ref t56), .val (.int (1 : Int32))] [])
    refine OwnGo.st (fun _ k => XS.aload X63.here hx rfl (hb hby at_211) rfl rfl  k) ?_
    show OwnGo p e below s _ _ _ T63 (mkF m 213 #[.val (.int p1), .val (.int p2), .val (.int p3), .val (.int p4), .val (.int p5), .val (.int (3 : Int32)), .val (.int y0), .val (.int y1), .val (.int y2), .val (.int y3), .val (.ref b52), .val (.ref t56), .val (.int (1 : Int32))] [(.ref t56)])
    refine OwnGo.st (fun _ k => XS.iconst X63.here hx rfl (hb hby at_213) k) ?_
    show OwnGo p e below s _ _ _ T63 (mkF m 214 #[.val (.int p1), .val (.int p2), .val (.int p3), .val (.int p4), .val (.int p5), .val (.int (3 : Int32)), .val (.int y0), .val (.int y1), .val (.int y2), .val (.int y3), .val (.ref b52), .val (.ref t56), .val (.int (1 : Int32))] [(.int (1 : Int32)), (.ref t56)])
    obtain ⟨cq64, kq64, q64a, q64b, q64c⟩ := isOf hZ e63 E56
    obtain ⟨_, _, ⟨T64, L64, k64, n64⟩, -, X64, ⟨Lc64, hQ64, l64, y64, z64⟩, st64⟩ := X63.virtualBack hx (y := (⟨"com/example/cofferhand/cofferhand/nbt/ByteArrayTag", "get", "(I)B"⟩ : MethodName)) (z := (⟨"com/example/cofferhand/cofferhand/nbt/ByteArrayTag", "get", "(I)B"⟩ : MethodName)) hown (mvT hZ (hw _ (List.mem_of_getElem? (i := 39) rfl))) (mvT hZ (hw _ (List.mem_of_getElem? (i := 40) rfl))) (notFace_of_selects (args := #[]) (mvT hZ (hw _ (List.mem_of_getElem? (i := 42) rfl)))) (mvT hZ (hw _ (List.mem_of_getElem? (i := 42) rfl))) (mvT hZ (hw _ (List.mem_of_getElem? (i := 41) rfl))) (by decide) (backOf (W := 0) (rmget l Z a0 hw [] t56 c56 k52 (3 : Int32) [(.int y0), (.int y1), (.int y2)] (1 : Int32) y1 h59 n0 Z_ F56 V56 ⟨by decide, by decide⟩ rfl (by rw [hy1]; exact own_nb _)) hZ (hw _ (List.mem_of_getElem? (i := 43) rfl)) (hw _ (List.mem_of_getElem? (i := 4) rfl)) (by decide) (by decide)) q64a q64c (g := (mkF m 214 #[.val (.int p1), .val (.int p2), .val (.int p3), .val (.int p4), .val (.int p5), .val (.int (3 : Int32)), .val (.int y0), .val (.int y1), .val (.int y2), .val (.int y3), .val (.ref b52), .val (.ref t56), .val (.int (1 : Int32))] [(.int (1 : Int32)), (.ref t56)])) rfl (by rw [hml]; rfl) (Steps.refl _) (argsL := [(.int (1 : Int32))]) (rest := []) (lenOf pd_4 rfl) rfl (by show 2 * 0 + _ ≤ _; exact Nat.le_of_eq rfl) (hb hby at_214) (fun _ _ => ⟨rfl, e63, (by decide : 3 + 0 ≤ _), (by decide : 7 + 0 ≤ _)⟩)
    dsimp only [Pt.U, Pt.locs, Pt.cells, Pt.slots] at X64 l64 y64 z64 st64 hQ64
    subst l64 y64 z64
    obtain ⟨rfl, N64q, e64⟩ := hQ64
    have N64 := Fr.app N63 N64q
    refine OwnGo.st (fun _ k => st64.trans k) ?_
    show OwnGo p e below s _ _ _ T64 (mkF m 217 #[.val (.int p1), .val (.int p2), .val (.int p3), .val (.int p4), .val (.int p5), .val (.int (3 : Int32)), .val (.int y0), .val (.int y1), .val (.int y2), .val (.int y3), .val (.ref b52), .val (.ref t56), .val (.int (1 : Int32))] [(.int y1)])
    refine OwnGo.st (fun _ k => XS.iload X64.here hx rfl (hb hby at_217) rfl  k) ?_
    show OwnGo p e below s _ _ _ T64 (mkF m 219 #[.val (.int p1), .val (.int p2), .val (.int p3), .val (.int p4), .val (.int p5), .val (.int (3 : Int32)), .val (.int y0), .val (.int y1), .val (.int y2), .val (.int y3), .val (.ref b52), .val (.ref t56), .val (.int (1 : Int32))] [(.int y1), (.int y1)])
    refine OwnGo.st (fun _ k => XS.icmpNo X64.here hx rfl (hb hby at_219) rfl (teq (rfl : y1 = y1)).2 k) ?_
    show OwnGo p e below s _ _ _ T64 (mkF m 222 #[.val (.int p1), .val (.int p2), .val (.int p3), .val (.int p4), .val (.int p5), .val (.int (3 : Int32)), .val (.int y0), .val (.int y1), .val (.int y2), .val (.int y3), .val (.ref b52), .val (.ref t56), .val (.int (1 : Int32))] [])
    refine OwnGo.st (fun _ k => XS.iconst X64.here hx rfl (hb hby at_222) k) ?_
    show OwnGo p e below s _ _ _ T64 (mkF m 223 #[.val (.int p1), .val (.int p2), .val (.int p3), .val (.int p4), .val (.int p5), .val (.int (3 : Int32)), .val (.int y0), .val (.int y1), .val (.int y2), .val (.int y3), .val (.ref b52), .val (.ref t56), .val (.int (1 : Int32))] [(.int (1 : Int32))])
    refine OwnGo.st (fun _ k => XS.goto X64.here hx rfl (pc0 := 223) (pc' := 227) rfl (hb hby at_223) (by decide) (by decide) k) ?_
    show OwnGo p e below s _ _ _ T64 (mkF m 227 #[.val (.int p1), .val (.int p2), .val (.int p3), .val (.int p4), .val (.int p5), .val (.int (3 : Int32)), .val (.int y0), .val (.int y1), .val (.int y2), .val (.int y3), .val (.ref b52), .val (.ref t56), .val (.int (1 : Int32))] [(.int (1 : Int32))])
    refine OwnGo.st (fun _ k => XS.istore X64.here hx rfl (hb hby at_227) rfl (l' := #[.val (.int p1), .val (.int p2), .val (.int p3), .val (.int p4), .val (.int p5), .val (.int (3 : Int32)), .val (.int y0), .val (.int y1), .val (.int y2), .val (.int y3), .val (.ref b52), .val (.ref t56), .val (.int (1 : Int32))]) rfl k) ?_
    show OwnGo p e below s _ _ _ T64 (mkF m 229 #[.val (.int p1), .val (.int p2), .val (.int p3), .val (.int p4), .val (.int p5), .val (.int (3 : Int32)), .val (.int y0), .val (.int y1), .val (.int y2), .val (.int y3), .val (.ref b52), .val (.ref t56), .val (.int (1 : Int32))] [])
    refine OwnGo.st (fun _ k => XS.iload X64.here hx rfl (hb hby at_229) rfl  k) ?_
    show OwnGo p e below s _ _ _ T64 (mkF m 231 #[.val (.int p1), .val (.int p2), .val (.int p3), .val (.int p4), .val (.int p5), .val (.int (3 : Int32)), .val (.int y0), .val (.int y1), .val (.int y2), .val (.int y3), .val (.ref b52), .val (.ref t56), .val (.int (1 : Int32))] [(.int (1 : Int32))])
    refine OwnGo.st (fun _ k => XS.ifNo X64.here hx rfl (hb hby at_231) rfl ((if0 _ _).trans (feq ((by decide) : ¬ ((1 : Int32) = (0 : Int32)))).1) k) ?_
    show OwnGo p e below s _ _ _ T64 (mkF m 234 #[.val (.int p1), .val (.int p2), .val (.int p3), .val (.int p4), .val (.int p5), .val (.int (3 : Int32)), .val (.int y0), .val (.int y1), .val (.int y2), .val (.int y3), .val (.ref b52), .val (.ref t56), .val (.int (1 : Int32))] [])
    refine OwnGo.st (fun _ k => XS.iload X64.here hx rfl (hb hby at_234) rfl  k) ?_
    show OwnGo p e below s _ _ _ T64 (mkF m 236 #[.val (.int p1), .val (.int p2), .val (.int p3), .val (.int p4), .val (.int p5), .val (.int (3 : Int32)), .val (.int y0), .val (.int y1), .val (.int y2), .val (.int y3), .val (.ref b52), .val (.ref t56), .val (.int (1 : Int32))] [(.int (3 : Int32))])
    refine OwnGo.st (fun _ k => XS.iconst X64.here hx rfl (hb hby at_236) k) ?_
    show OwnGo p e below s _ _ _ T64 (mkF m 237 #[.val (.int p1), .val (.int p2), .val (.int p3), .val (.int p4), .val (.int p5), .val (.int (3 : Int32)), .val (.int y0), .val (.int y1), .val (.int y2), .val (.int y3), .val (.ref b52), .val (.ref t56), .val (.int (1 : Int32))] [(.int (2 : Int32)), (.int (3 : Int32))])
    refine OwnGo.st (fun _ k => XS.icmpNo X64.here hx rfl (hb hby at_237) rfl (tlt ((by decide) : (2 : Int32) < (3 : Int32))).2.2.2 k) ?_
    show OwnGo p e below s _ _ _ T64 (mkF m 240 #[.val (.int p1), .val (.int p2), .val (.int p3), .val (.int p4), .val (.int p5), .val (.int (3 : Int32)), .val (.int y0), .val (.int y1), .val (.int y2), .val (.int y3), .val (.ref b52), .val (.ref t56), .val (.int (1 : Int32))] [])
    refine OwnGo.st (fun _ k => XS.aload X64.here hx rfl (hb hby at_240) rfl rfl  k) ?_
    show OwnGo p e below s _ _ _ T64 (mkF m 242 #[.val (.int p1), .val (.int p2), .val (.int p3), .val (.int p4), .val (.int p5), .val (.int (3 : Int32)), .val (.int y0), .val (.int y1), .val (.int y2), .val (.int y3), .val (.ref b52), .val (.ref t56), .val (.int (1 : Int32))] [(.ref t56)])
    refine OwnGo.st (fun _ k => XS.iconst X64.here hx rfl (hb hby at_242) k) ?_
    show OwnGo p e below s _ _ _ T64 (mkF m 243 #[.val (.int p1), .val (.int p2), .val (.int p3), .val (.int p4), .val (.int p5), .val (.int (3 : Int32)), .val (.int y0), .val (.int y1), .val (.int y2), .val (.int y3), .val (.ref b52), .val (.ref t56), .val (.int (1 : Int32))] [(.int (2 : Int32)), (.ref t56)])
    obtain ⟨cq65, kq65, q65a, q65b, q65c⟩ := isOf hZ e64 E56
    obtain ⟨_, _, ⟨T65, L65, k65, n65⟩, -, X65, ⟨Lc65, hQ65, l65, y65, z65⟩, st65⟩ := X64.virtualBack hx (y := (⟨"com/example/cofferhand/cofferhand/nbt/ByteArrayTag", "get", "(I)B"⟩ : MethodName)) (z := (⟨"com/example/cofferhand/cofferhand/nbt/ByteArrayTag", "get", "(I)B"⟩ : MethodName)) hown (mvT hZ (hw _ (List.mem_of_getElem? (i := 39) rfl))) (mvT hZ (hw _ (List.mem_of_getElem? (i := 40) rfl))) (notFace_of_selects (args := #[]) (mvT hZ (hw _ (List.mem_of_getElem? (i := 42) rfl)))) (mvT hZ (hw _ (List.mem_of_getElem? (i := 42) rfl))) (mvT hZ (hw _ (List.mem_of_getElem? (i := 41) rfl))) (by decide) (backOf (W := 0) (rmget l Z a0 hw [] t56 c56 k52 (3 : Int32) [(.int y0), (.int y1), (.int y2)] (2 : Int32) y2 h59 n0 Z_ F56 V56 ⟨by decide, by decide⟩ rfl (by rw [hy2]; exact own_nb _)) hZ (hw _ (List.mem_of_getElem? (i := 43) rfl)) (hw _ (List.mem_of_getElem? (i := 4) rfl)) (by decide) (by decide)) q65a q65c (g := (mkF m 243 #[.val (.int p1), .val (.int p2), .val (.int p3), .val (.int p4), .val (.int p5), .val (.int (3 : Int32)), .val (.int y0), .val (.int y1), .val (.int y2), .val (.int y3), .val (.ref b52), .val (.ref t56), .val (.int (1 : Int32))] [(.int (2 : Int32)), (.ref t56)])) rfl (by rw [hml]; rfl) (Steps.refl _) (argsL := [(.int (2 : Int32))]) (rest := []) (lenOf pd_4 rfl) rfl (by show 2 * 0 + _ ≤ _; exact Nat.le_of_eq rfl) (hb hby at_243) (fun _ _ => ⟨rfl, e64, (by decide : 3 + 0 ≤ _), (by decide : 7 + 0 ≤ _)⟩)
    dsimp only [Pt.U, Pt.locs, Pt.cells, Pt.slots] at X65 l65 y65 z65 st65 hQ65
    subst l65 y65 z65
    obtain ⟨rfl, N65q, e65⟩ := hQ65
    have N65 := Fr.app N64 N65q
    refine OwnGo.st (fun _ k => st65.trans k) ?_
    show OwnGo p e below s _ _ _ T65 (mkF m 246 #[.val (.int p1), .val (.int p2), .val (.int p3), .val (.int p4), .val (.int p5), .val (.int (3 : Int32)), .val (.int y0), .val (.int y1), .val (.int y2), .val (.int y3), .val (.ref b52), .val (.ref t56), .val (.int (1 : Int32))] [(.int y2)])
    refine OwnGo.st (fun _ k => XS.iload X65.here hx rfl (hb hby at_246) rfl  k) ?_
    show OwnGo p e below s _ _ _ T65 (mkF m 248 #[.val (.int p1), .val (.int p2), .val (.int p3), .val (.int p4), .val (.int p5), .val (.int (3 : Int32)), .val (.int y0), .val (.int y1), .val (.int y2), .val (.int y3), .val (.ref b52), .val (.ref t56), .val (.int (1 : Int32))] [(.int y2), (.int y2)])
    refine OwnGo.st (fun _ k => XS.icmpNo X65.here hx rfl (hb hby at_248) rfl (teq (rfl : y2 = y2)).2 k) ?_
    show OwnGo p e below s _ _ _ T65 (mkF m 251 #[.val (.int p1), .val (.int p2), .val (.int p3), .val (.int p4), .val (.int p5), .val (.int (3 : Int32)), .val (.int y0), .val (.int y1), .val (.int y2), .val (.int y3), .val (.ref b52), .val (.ref t56), .val (.int (1 : Int32))] [])
    refine OwnGo.st (fun _ k => XS.iconst X65.here hx rfl (hb hby at_251) k) ?_
    show OwnGo p e below s _ _ _ T65 (mkF m 252 #[.val (.int p1), .val (.int p2), .val (.int p3), .val (.int p4), .val (.int p5), .val (.int (3 : Int32)), .val (.int y0), .val (.int y1), .val (.int y2), .val (.int y3), .val (.ref b52), .val (.ref t56), .val (.int (1 : Int32))] [(.int (1 : Int32))])
    refine OwnGo.st (fun _ k => XS.goto X65.here hx rfl (pc0 := 252) (pc' := 256) rfl (hb hby at_252) (by decide) (by decide) k) ?_
    show OwnGo p e below s _ _ _ T65 (mkF m 256 #[.val (.int p1), .val (.int p2), .val (.int p3), .val (.int p4), .val (.int p5), .val (.int (3 : Int32)), .val (.int y0), .val (.int y1), .val (.int y2), .val (.int y3), .val (.ref b52), .val (.ref t56), .val (.int (1 : Int32))] [(.int (1 : Int32))])
    refine OwnGo.st (fun _ k => XS.istore X65.here hx rfl (hb hby at_256) rfl (l' := #[.val (.int p1), .val (.int p2), .val (.int p3), .val (.int p4), .val (.int p5), .val (.int (3 : Int32)), .val (.int y0), .val (.int y1), .val (.int y2), .val (.int y3), .val (.ref b52), .val (.ref t56), .val (.int (1 : Int32))]) rfl k) ?_
    show OwnGo p e below s _ _ _ T65 (mkF m 258 #[.val (.int p1), .val (.int p2), .val (.int p3), .val (.int p4), .val (.int p5), .val (.int (3 : Int32)), .val (.int y0), .val (.int y1), .val (.int y2), .val (.int y3), .val (.ref b52), .val (.ref t56), .val (.int (1 : Int32))] [])
    refine OwnGo.st (fun _ k => XS.iload X65.here hx rfl (hb hby at_258) rfl  k) ?_
    show OwnGo p e below s _ _ _ T65 (mkF m 260 #[.val (.int p1), .val (.int p2), .val (.int p3), .val (.int p4), .val (.int p5), .val (.int (3 : Int32)), .val (.int y0), .val (.int y1), .val (.int y2), .val (.int y3), .val (.ref b52), .val (.ref t56), .val (.int (1 : Int32))] [(.int (1 : Int32))])
    refine OwnGo.st (fun _ k => XS.ifNo X65.here hx rfl (hb hby at_260) rfl ((if0 _ _).trans (feq ((by decide) : ¬ ((1 : Int32) = (0 : Int32)))).1) k) ?_
    show OwnGo p e below s _ _ _ T65 (mkF m 263 #[.val (.int p1), .val (.int p2), .val (.int p3), .val (.int p4), .val (.int p5), .val (.int (3 : Int32)), .val (.int y0), .val (.int y1), .val (.int y2), .val (.int y3), .val (.ref b52), .val (.ref t56), .val (.int (1 : Int32))] [])
    refine OwnGo.st (fun _ k => XS.iload X65.here hx rfl (hb hby at_263) rfl  k) ?_
    show OwnGo p e below s _ _ _ T65 (mkF m 265 #[.val (.int p1), .val (.int p2), .val (.int p3), .val (.int p4), .val (.int p5), .val (.int (3 : Int32)), .val (.int y0), .val (.int y1), .val (.int y2), .val (.int y3), .val (.ref b52), .val (.ref t56), .val (.int (1 : Int32))] [(.int (3 : Int32))])
    refine OwnGo.st (fun _ k => XS.iconst X65.here hx rfl (hb hby at_265) k) ?_
    show OwnGo p e below s _ _ _ T65 (mkF m 266 #[.val (.int p1), .val (.int p2), .val (.int p3), .val (.int p4), .val (.int p5), .val (.int (3 : Int32)), .val (.int y0), .val (.int y1), .val (.int y2), .val (.int y3), .val (.ref b52), .val (.ref t56), .val (.int (1 : Int32))] [(.int (3 : Int32)), (.int (3 : Int32))])
    refine OwnGo.st (fun _ k => XS.icmpYes X65.here hx rfl (pc0 := 266) (pc' := 287) rfl (hb hby at_266) rfl (flt ((by decide) : ¬ ((3 : Int32) < (3 : Int32)))).2.2.2 (by decide) (by decide) k) ?_
    show OwnGo p e below s _ _ _ T65 (mkF m 287 #[.val (.int p1), .val (.int p2), .val (.int p3), .val (.int p4), .val (.int p5), .val (.int (3 : Int32)), .val (.int y0), .val (.int y1), .val (.int y2), .val (.int y3), .val (.ref b52), .val (.ref t56), .val (.int (1 : Int32))] [])
    refine OwnGo.st (fun _ k => XS.iload X65.here hx rfl (hb hby at_287) rfl  k) ?_
    show OwnGo p e below s _ _ _ T65 (mkF m 289 #[.val (.int p1), .val (.int p2), .val (.int p3), .val (.int p4), .val (.int p5), .val (.int (3 : Int32)), .val (.int y0), .val (.int y1), .val (.int y2), .val (.int y3), .val (.ref b52), .val (.ref t56), .val (.int (1 : Int32))] [(.int (1 : Int32))])
    exact OwnGo.retN X65 hx (t := .boolean) hret hlk (by simp) (hb hby at_289) (by show Q0 Z p1 p2 p3 p4 p5 u_TagType_BYTE_ARRAY h0 n0 _ T65.heap _; rw [e65]; exact ⟨rfl, N65⟩) (by decide) (by decide)
  · show OwnGo p e below s _ _ _ s₁ (mkF m 25 #[.val (.int p1), .val (.int p2), .val (.int p3), .val (.int p4), .val (.int p5), .val (.int (4 : Int32)), .val (.int y0), .val (.int y1), .val (.int y2), .val (.int y3), .unset, .unset, .unset] [])
    refine OwnGo.st (fun _ k => XS.iload X0.here hx rfl (hb hby at_25) rfl  k) ?_
    show OwnGo p e below s _ _ _ s₁ (mkF m 27 #[.val (.int p1), .val (.int p2), .val (.int p3), .val (.int p4), .val (.int p5), .val (.int (4 : Int32)), .val (.int y0), .val (.int y1), .val (.int y2), .val (.int y3), .unset, .unset, .unset] [(.int (4 : Int32))])
    obtain ⟨T66, h66, k66, X66, e66, E66, A66, Ex66, st66⟩ := newPE X0 hx hZ (hw _ (List.mem_of_getElem? (i := 1) rfl)) e0 (g := (mkF m 27 #[.val (.int p1), .val (.int p2), .val (.int p3), .val (.int p4), .val (.int p5), .val (.int (4 : Int32)), .val (.int y0), .val (.int y1), .val (.int y2), .val (.int y3), .unset, .unset, .unset] [(.int (4 : Int32))])) rfl (hb hby at_27) rfl (by decide) (cap := 4) (by decide) (by decide) (by decide) (by decide) (ad := "[B") (by decide)
    obtain ⟨b66, g66⟩ : ∃ z, z = h0.size := ⟨_, rfl⟩
    rw [← g66] at A66 Ex66 st66
    have g_b66 : n0 ≤ b66 := Nat.le_trans Z_ (Nat.le_of_eq g66.symm)
    have O_ := O_.ext E66
    have Z_ : n0 ≤ h66.size := Nat.le_trans Z_ E66.1
    have V_b66 : Arv Z h66 b66 k66 .byte (4 : Int32) [(.int (0 : Int32)), (.int (0 : Int32)), (.int (0 : Int32)), (.int (0 : Int32))] (.int (0 : Int32)) := (Arv.new A66 (by decide)).pad (pad_rep [] (.int (0 : Int32)) 4)
    have E_b66 := Ex66
    refine OwnGo.st st66 ?_
    show OwnGo p e below s _ _ _ T66 (mkF m 29 #[.val (.int p1), .val (.int p2), .val (.int p3), .val (.int p4), .val (.int p5), .val (.int (4 : Int32)), .val (.int y0), .val (.int y1), .val (.int y2), .val (.int y3), .unset, .unset, .unset] [(.ref b66)])
    refine OwnGo.st (fun _ k => XS.astore X66.here hx rfl (hb hby at_29) rfl rfl (l' := #[.val (.int p1), .val (.int p2), .val (.int p3), .val (.int p4), .val (.int p5), .val (.int (4 : Int32)), .val (.int y0), .val (.int y1), .val (.int y2), .val (.int y3), .val (.ref b66), .unset, .unset]) rfl k) ?_
    show OwnGo p e below s _ _ _ T66 (mkF m 31 #[.val (.int p1), .val (.int p2), .val (.int p3), .val (.int p4), .val (.int p5), .val (.int (4 : Int32)), .val (.int y0), .val (.int y1), .val (.int y2), .val (.int y3), .val (.ref b66), .unset, .unset] [])
    refine OwnGo.st (fun _ k => XS.iload X66.here hx rfl (hb hby at_31) rfl  k) ?_
    show OwnGo p e below s _ _ _ T66 (mkF m 33 #[.val (.int p1), .val (.int p2), .val (.int p3), .val (.int p4), .val (.int p5), .val (.int (4 : Int32)), .val (.int y0), .val (.int y1), .val (.int y2), .val (.int y3), .val (.ref b66), .unset, .unset] [(.int (4 : Int32))])
    refine OwnGo.st (fun _ k => XS.ifNo X66.here hx rfl (hb hby at_33) rfl ((if0 _ _).trans (tlt ((by decide) : (0 : Int32) < (4 : Int32))).2.2.2) k) ?_
    show OwnGo p e below s _ _ _ T66 (mkF m 36 #[.val (.int p1), .val (.int p2), .val (.int p3), .val (.int p4), .val (.int p5), .val (.int (4 : Int32)), .val (.int y0), .val (.int y1), .val (.int y2), .val (.int y3), .val (.ref b66), .unset, .unset] [])
    refine OwnGo.st (fun _ k => XS.aload X66.here hx rfl (hb hby at_36) rfl rfl  k) ?_
    show OwnGo p e below s _ _ _ T66 (mkF m 38 #[.val (.int p1), .val (.int p2), .val (.int p3), .val (.int p4), .val (.int p5), .val (.int (4 : Int32)), .val (.int y0), .val (.int y1), .val (.int y2), .val (.int y3), .val (.ref b66), .unset, .unset] [(.ref b66)])
    refine OwnGo.st (fun _ k => XS.iconst X66.here hx rfl (hb hby at_38) k) ?_
    show OwnGo p e below s _ _ _ T66 (mkF m 39 #[.val (.int p1), .val (.int p2), .val (.int p3), .val (.int p4), .val (.int p5), .val (.int (4 : Int32)), .val (.int y0), .val (.int y1), .val (.int y2), .val (.int y3), .val (.ref b66), .unset, .unset] [(.int (0 : Int32)), (.ref b66)])
    refine OwnGo.st (fun _ k => XS.iload X66.here hx rfl (hb hby at_39) rfl  k) ?_
    show OwnGo p e below s _ _ _ T66 (mkF m 41 #[.val (.int p1), .val (.int p2), .val (.int p3), .val (.int p4), .val (.int p5), .val (.int (4 : Int32)), .val (.int y0), .val (.int y1), .val (.int y2), .val (.int y3), .val (.ref b66), .unset, .unset] [(.int y0), (.int (0 : Int32)), (.ref b66)])
    obtain ⟨cl67, Ar67, q67, S67, N67, H67, G67⟩ := id V_b66
    have hin67 : ¬ ((0 : Int32) < 0 ∨ cl67.slots.size ≤ ((0 : Int32)).toNatClampNeg) := inb_of S67 ⟨by decide, by decide⟩
    obtain ⟨T67, h67, X67, e67, W67, st67⟩ := stB X66 hx hZ e66 Ar67 (j := (0 : Int32)) hin67 (g := (mkF m 41 #[.val (.int p1), .val (.int p2), .val (.int p3), .val (.int p4), .val (.int p5), .val (.int (4 : Int32)), .val (.int y0), .val (.int y1), .val (.int y2), .val (.int y3), .val (.ref b66), .unset, .unset] [(.int y0), (.int (0 : Int32)), (.ref b66)])) rfl rfl (hb hby at_41)
    have V_b66 : Arv Z h67 b66 k66 .byte (4 : Int32) [(.int (nar .byte y0)), (.int (0 : Int32)), (.int (0 : Int32)), (.int (0 : Int32))] (.int (0 : Int32)) := Arv.set Ar67 q67 S67 N67 H67 G67 (fits_nar_byte _) W67 0 rfl (Nat.le_of_ble_eq_true rfl)
    rw [show nar .byte y0 = y0 from (by rw [hy0]; exact own_nb _)] at V_b66
    have E_b66 := E_b66.wr W67
    have O_ := O_.wr W67 g_b66
    have N67 := Fr.snoc X67 N0 g_b66
    have Z_ : n0 ≤ h67.size := by rw [W67.size]; exact Z_
    refine OwnGo.st st67 ?_
    show OwnGo p e below s _ _ _ T67 (mkF m 42 #[.val (.int p1), .val (.int p2), .val (.int p3), .val (.int p4), .val (.int p5), .val (.int (4 : Int32)), .val (.int y0), .val (.int y1), .val (.int y2), .val (.int y3), .val (.ref b66), .unset, .unset] [])
    refine OwnGo.st (fun _ k => XS.iload X67.here hx rfl (hb hby at_42) rfl  k) ?_
    show OwnGo p e below s _ _ _ T67 (mkF m 44 #[.val (.int p1), .val (.int p2), .val (.int p3), .val (.int p4), .val (.int p5), .val (.int (4 : Int32)), .val (.int y0), .val (.int y1), .val (.int y2), .val (.int y3), .val (.ref b66), .unset, .unset] [(.int (4 : Int32))])
    refine OwnGo.st (fun _ k => XS.iconst X67.here hx rfl (hb hby at_44) k) ?_
    show OwnGo p e below s _ _ _ T67 (mkF m 45 #[.val (.int p1), .val (.int p2), .val (.int p3), .val (.int p4), .val (.int p5), .val (.int (4 : Int32)), .val (.int y0), .val (.int y1), .val (.int y2), .val (.int y3), .val (.ref b66), .unset, .unset] [(.int (1 : Int32)), (.int (4 : Int32))])
    refine OwnGo.st (fun _ k => XS.icmpNo X67.here hx rfl (hb hby at_45) rfl (tlt ((by decide) : (1 : Int32) < (4 : Int32))).2.2.2 k) ?_
    show OwnGo p e below s _ _ _ T67 (mkF m 48 #[.val (.int p1), .val (.int p2), .val (.int p3), .val (.int p4), .val (.int p5), .val (.int (4 : Int32)), .val (.int y0), .val (.int y1), .val (.int y2), .val (.int y3), .val (.ref b66), .unset, .unset] [])
    refine OwnGo.st (fun _ k => XS.aload X67.here hx rfl (hb hby at_48) rfl rfl  k) ?_
    show OwnGo p e below s _ _ _ T67 (mkF m 50 #[.val (.int p1), .val (.int p2), .val (.int p3), .val (.int p4), .val (.int p5), .val (.int (4 : Int32)), .val (.int y0), .val (.int y1), .val (.int y2), .val (.int y3), .val (.ref b66), .unset, .unset] [(.ref b66)])
    refine OwnGo.st (fun _ k => XS.iconst X67.here hx rfl (hb hby at_50) k) ?_
    show OwnGo p e below s _ _ _ T67 (mkF m 51 #[.val (.int p1), .val (.int p2), .val (.int p3), .val (.int p4), .val (.int p5), .val (.int (4 : Int32)), .val (.int y0), .val (.int y1), .val (.int y2), .val (.int y3), .val (.ref b66), .unset, .unset] [(.int (1 : Int32)), (.ref b66)])
    refine OwnGo.st (fun _ k => XS.iload X67.here hx rfl (hb hby at_51) rfl  k) ?_
    show OwnGo p e below s _ _ _ T67 (mkF m 53 #[.val (.int p1), .val (.int p2), .val (.int p3), .val (.int p4), .val (.int p5), .val (.int (4 : Int32)), .val (.int y0), .val (.int y1), .val (.int y2), .val (.int y3), .val (.ref b66), .unset, .unset] [(.int y1), (.int (1 : Int32)), (.ref b66)])
    obtain ⟨cl68, Ar68, q68, S68, N68, H68, G68⟩ := id V_b66
    have hin68 : ¬ ((1 : Int32) < 0 ∨ cl68.slots.size ≤ ((1 : Int32)).toNatClampNeg) := inb_of S68 ⟨by decide, by decide⟩
    obtain ⟨T68, h68, X68, e68, W68, st68⟩ := stB X67 hx hZ e67 Ar68 (j := (1 : Int32)) hin68 (g := (mkF m 53 #[.val (.int p1), .val (.int p2), .val (.int p3), .val (.int p4), .val (.int p5), .val (.int (4 : Int32)), .val (.int y0), .val (.int y1), .val (.int y2), .val (.int y3), .val (.ref b66), .unset, .unset] [(.int y1), (.int (1 : Int32)), (.ref b66)])) rfl rfl (hb hby at_53)
    have V_b66 : Arv Z h68 b66 k66 .byte (4 : Int32) [(.int y0), (.int (nar .byte y1)), (.int (0 : Int32)), (.int (0 : Int32))] (.int (0 : Int32)) := Arv.set Ar68 q68 S68 N68 H68 G68 (fits_nar_byte _) W68 1 rfl (Nat.le_of_ble_eq_true rfl)
    rw [show nar .byte y1 = y1 from (by rw [hy1]; exact own_nb _)] at V_b66
    have E_b66 := E_b66.wr W68
    have O_ := O_.wr W68 g_b66
    have N68 := Fr.snoc X68 N67 g_b66
    have Z_ : n0 ≤ h68.size := by rw [W68.size]; exact Z_
    refine OwnGo.st st68 ?_
    show OwnGo p e below s _ _ _ T68 (mkF m 54 #[.val (.int p1), .val (.int p2), .val (.int p3), .val (.int p4), .val (.int p5), .val (.int (4 : Int32)), .val (.int y0), .val (.int y1), .val (.int y2), .val (.int y3), .val (.ref b66), .unset, .unset] [])
    refine OwnGo.st (fun _ k => XS.iload X68.here hx rfl (hb hby at_54) rfl  k) ?_
    show OwnGo p e below s _ _ _ T68 (mkF m 56 #[.val (.int p1), .val (.int p2), .val (.int p3), .val (.int p4), .val (.int p5), .val (.int (4 : Int32)), .val (.int y0), .val (.int y1), .val (.int y2), .val (.int y3), .val (.ref b66), .unset, .unset] [(.int (4 : Int32))])
    refine OwnGo.st (fun _ k => XS.iconst X68.here hx rfl (hb hby at_56) k) ?_
    show OwnGo p e below s _ _ _ T68 (mkF m 57 #[.val (.int p1), .val (.int p2), .val (.int p3), .val (.int p4), .val (.int p5), .val (.int (4 : Int32)), .val (.int y0), .val (.int y1), .val (.int y2), .val (.int y3), .val (.ref b66), .unset, .unset] [(.int (2 : Int32)), (.int (4 : Int32))])
    refine OwnGo.st (fun _ k => XS.icmpNo X68.here hx rfl (hb hby at_57) rfl (tlt ((by decide) : (2 : Int32) < (4 : Int32))).2.2.2 k) ?_
    show OwnGo p e below s _ _ _ T68 (mkF m 60 #[.val (.int p1), .val (.int p2), .val (.int p3), .val (.int p4), .val (.int p5), .val (.int (4 : Int32)), .val (.int y0), .val (.int y1), .val (.int y2), .val (.int y3), .val (.ref b66), .unset, .unset] [])
    refine OwnGo.st (fun _ k => XS.aload X68.here hx rfl (hb hby at_60) rfl rfl  k) ?_
    show OwnGo p e below s _ _ _ T68 (mkF m 62 #[.val (.int p1), .val (.int p2), .val (.int p3), .val (.int p4), .val (.int p5), .val (.int (4 : Int32)), .val (.int y0), .val (.int y1), .val (.int y2), .val (.int y3), .val (.ref b66), .unset, .unset] [(.ref b66)])
    refine OwnGo.st (fun _ k => XS.iconst X68.here hx rfl (hb hby at_62) k) ?_
    show OwnGo p e below s _ _ _ T68 (mkF m 63 #[.val (.int p1), .val (.int p2), .val (.int p3), .val (.int p4), .val (.int p5), .val (.int (4 : Int32)), .val (.int y0), .val (.int y1), .val (.int y2), .val (.int y3), .val (.ref b66), .unset, .unset] [(.int (2 : Int32)), (.ref b66)])
    refine OwnGo.st (fun _ k => XS.iload X68.here hx rfl (hb hby at_63) rfl  k) ?_
    show OwnGo p e below s _ _ _ T68 (mkF m 65 #[.val (.int p1), .val (.int p2), .val (.int p3), .val (.int p4), .val (.int p5), .val (.int (4 : Int32)), .val (.int y0), .val (.int y1), .val (.int y2), .val (.int y3), .val (.ref b66), .unset, .unset] [(.int y2), (.int (2 : Int32)), (.ref b66)])
    obtain ⟨cl69, Ar69, q69, S69, N69, H69, G69⟩ := id V_b66
    have hin69 : ¬ ((2 : Int32) < 0 ∨ cl69.slots.size ≤ ((2 : Int32)).toNatClampNeg) := inb_of S69 ⟨by decide, by decide⟩
    obtain ⟨T69, h69, X69, e69, W69, st69⟩ := stB X68 hx hZ e68 Ar69 (j := (2 : Int32)) hin69 (g := (mkF m 65 #[.val (.int p1), .val (.int p2), .val (.int p3), .val (.int p4), .val (.int p5), .val (.int (4 : Int32)), .val (.int y0), .val (.int y1), .val (.int y2), .val (.int y3), .val (.ref b66), .unset, .unset] [(.int y2), (.int (2 : Int32)), (.ref b66)])) rfl rfl (hb hby at_65)
    have V_b66 : Arv Z h69 b66 k66 .byte (4 : Int32) [(.int y0), (.int y1), (.int (nar .byte y2)), (.int (0 : Int32))] (.int (0 : Int32)) := Arv.set Ar69 q69 S69 N69 H69 G69 (fits_nar_byte _) W69 2 rfl (Nat.le_of_ble_eq_true rfl)
    rw [show nar .byte y2 = y2 from (by rw [hy2]; exact own_nb _)] at V_b66
    have E_b66 := E_b66.wr W69
    have O_ := O_.wr W69 g_b66
    have N69 := Fr.snoc X69 N68 g_b66
    have Z_ : n0 ≤ h69.size := by rw [W69.size]; exact Z_
    refine OwnGo.st st69 ?_
    show OwnGo p e below s _ _ _ T69 (mkF m 66 #[.val (.int p1), .val (.int p2), .val (.int p3), .val (.int p4), .val (.int p5), .val (.int (4 : Int32)), .val (.int y0), .val (.int y1), .val (.int y2), .val (.int y3), .val (.ref b66), .unset, .unset] [])
    refine OwnGo.st (fun _ k => XS.iload X69.here hx rfl (hb hby at_66) rfl  k) ?_
    show OwnGo p e below s _ _ _ T69 (mkF m 68 #[.val (.int p1), .val (.int p2), .val (.int p3), .val (.int p4), .val (.int p5), .val (.int (4 : Int32)), .val (.int y0), .val (.int y1), .val (.int y2), .val (.int y3), .val (.ref b66), .unset, .unset] [(.int (4 : Int32))])
    refine OwnGo.st (fun _ k => XS.iconst X69.here hx rfl (hb hby at_68) k) ?_
    show OwnGo p e below s _ _ _ T69 (mkF m 69 #[.val (.int p1), .val (.int p2), .val (.int p3), .val (.int p4), .val (.int p5), .val (.int (4 : Int32)), .val (.int y0), .val (.int y1), .val (.int y2), .val (.int y3), .val (.ref b66), .unset, .unset] [(.int (3 : Int32)), (.int (4 : Int32))])
    refine OwnGo.st (fun _ k => XS.icmpNo X69.here hx rfl (hb hby at_69) rfl (tlt ((by decide) : (3 : Int32) < (4 : Int32))).2.2.2 k) ?_
    show OwnGo p e below s _ _ _ T69 (mkF m 72 #[.val (.int p1), .val (.int p2), .val (.int p3), .val (.int p4), .val (.int p5), .val (.int (4 : Int32)), .val (.int y0), .val (.int y1), .val (.int y2), .val (.int y3), .val (.ref b66), .unset, .unset] [])
    refine OwnGo.st (fun _ k => XS.aload X69.here hx rfl (hb hby at_72) rfl rfl  k) ?_
    show OwnGo p e below s _ _ _ T69 (mkF m 74 #[.val (.int p1), .val (.int p2), .val (.int p3), .val (.int p4), .val (.int p5), .val (.int (4 : Int32)), .val (.int y0), .val (.int y1), .val (.int y2), .val (.int y3), .val (.ref b66), .unset, .unset] [(.ref b66)])
    refine OwnGo.st (fun _ k => XS.iconst X69.here hx rfl (hb hby at_74) k) ?_
    show OwnGo p e below s _ _ _ T69 (mkF m 75 #[.val (.int p1), .val (.int p2), .val (.int p3), .val (.int p4), .val (.int p5), .val (.int (4 : Int32)), .val (.int y0), .val (.int y1), .val (.int y2), .val (.int y3), .val (.ref b66), .unset, .unset] [(.int (3 : Int32)), (.ref b66)])
    refine OwnGo.st (fun _ k => XS.iload X69.here hx rfl (hb hby at_75) rfl  k) ?_
    show OwnGo p e below s _ _ _ T69 (mkF m 77 #[.val (.int p1), .val (.int p2), .val (.int p3), .val (.int p4), .val (.int p5), .val (.int (4 : Int32)), .val (.int y0), .val (.int y1), .val (.int y2), .val (.int y3), .val (.ref b66), .unset, .unset] [(.int y3), (.int (3 : Int32)), (.ref b66)])
    obtain ⟨cl70, Ar70, q70, S70, N70, H70, G70⟩ := id V_b66
    have hin70 : ¬ ((3 : Int32) < 0 ∨ cl70.slots.size ≤ ((3 : Int32)).toNatClampNeg) := inb_of S70 ⟨by decide, by decide⟩
    obtain ⟨T70, h70, X70, e70, W70, st70⟩ := stB X69 hx hZ e69 Ar70 (j := (3 : Int32)) hin70 (g := (mkF m 77 #[.val (.int p1), .val (.int p2), .val (.int p3), .val (.int p4), .val (.int p5), .val (.int (4 : Int32)), .val (.int y0), .val (.int y1), .val (.int y2), .val (.int y3), .val (.ref b66), .unset, .unset] [(.int y3), (.int (3 : Int32)), (.ref b66)])) rfl rfl (hb hby at_77)
    have V_b66 : Arv Z h70 b66 k66 .byte (4 : Int32) [(.int y0), (.int y1), (.int y2), (.int (nar .byte y3))] (.int (0 : Int32)) := Arv.set Ar70 q70 S70 N70 H70 G70 (fits_nar_byte _) W70 3 rfl (Nat.le_of_ble_eq_true rfl)
    rw [show nar .byte y3 = y3 from (by rw [hy3]; exact own_nb _)] at V_b66
    have E_b66 := E_b66.wr W70
    have O_ := O_.wr W70 g_b66
    have N70 := Fr.snoc X70 N69 g_b66
    have Z_ : n0 ≤ h70.size := by rw [W70.size]; exact Z_
    refine OwnGo.st st70 ?_
    show OwnGo p e below s _ _ _ T70 (mkF m 78 #[.val (.int p1), .val (.int p2), .val (.int p3), .val (.int p4), .val (.int p5), .val (.int (4 : Int32)), .val (.int y0), .val (.int y1), .val (.int y2), .val (.int y3), .val (.ref b66), .unset, .unset] [])
    refine OwnGo.st (fun _ k => XS.aload X70.here hx rfl (hb hby at_78) rfl rfl  k) ?_
    show OwnGo p e below s _ _ _ T70 (mkF m 80 #[.val (.int p1), .val (.int p2), .val (.int p3), .val (.int p4), .val (.int p5), .val (.int (4 : Int32)), .val (.int y0), .val (.int y1), .val (.int y2), .val (.int y3), .val (.ref b66), .unset, .unset] [(.ref b66)])
    obtain ⟨_, _, ⟨T71, L71, k71, n71⟩, -, X71, ⟨Lc71, hQ71, l71, y71, z71⟩, st71⟩ := Jvm.LawKit.callS X70 hx (y := (⟨"com/example/cofferhand/cofferhand/nbt/ByteArrayTag", "of", "([B)Lcom/example/cofferhand/cofferhand/nbt/ByteArrayTag;"⟩ : MethodName)) hown (mvT hZ (hw _ (List.mem_of_getElem? (i := 2) rfl))) (mvT hZ (hw _ (List.mem_of_getElem? (i := 3) rfl))) (mvT hZ (hw _ (List.mem_of_getElem? (i := 4) rfl))) (mvT hZ (hw _ (List.mem_of_getElem? (i := 5) rfl))) (by decide) (backOf (W := 0) (rmof4 l Z a0 hw [] b66 k66 y0 y1 y2 y3 h70 n0 Z_ V_b66 E_b66) hZ (hw _ (List.mem_of_getElem? (i := 5) rfl)) (hw _ (List.mem_of_getElem? (i := 4) rfl)) (by decide) (by decide)) (g := (mkF m 80 #[.val (.int p1), .val (.int p2), .val (.int p3), .val (.int p4), .val (.int p5), .val (.int (4 : Int32)), .val (.int y0), .val (.int y1), .val (.int y2), .val (.int y3), .val (.ref b66), .unset, .unset] [(.ref b66)])) rfl (by rw [hml]; rfl) (argsL := [(.ref b66)]) (rest := []) (lenOf pd_1 rfl) rfl (by show 2 * 0 + _ ≤ _; exact Nat.le_of_eq rfl) (hb hby at_80) (fun _ _ => ⟨rfl, e70, (by decide : 1 + 2 ≤ _), (by decide : 4 + 5 ≤ _)⟩)
    dsimp only [Pt.U, Pt.locs, Pt.cells, Pt.slots] at X71 l71 y71 z71 st71 hQ71
    subst l71 y71 z71
    obtain ⟨t71, c71, rfl, N71q, K71, E71, F71, V71, zt71, zc71⟩ := hQ71
    have N71 := Fr.app N70 N71q
    have ne_b66_t71 : b66 ≠ t71 := Nat.ne_of_lt (Nat.lt_of_lt_of_le V_b66.lt zt71)
    have ne_b66_c71 : b66 ≠ c71 := Nat.ne_of_lt (Nat.lt_of_lt_of_le V_b66.lt zc71)
    have Z_ : n0 ≤ T71.heap.size := Nat.le_trans Z_ K71.1
    have V_b66 := V_b66.keep K71 nin0
    have E_b66 := E_b66.keep K71
    have O_ := O_.keep K71 all0
    refine OwnGo.st st71 ?_
    show OwnGo p e below s _ _ _ T71 (mkF m 83 #[.val (.int p1), .val (.int p2), .val (.int p3), .val (.int p4), .val (.int p5), .val (.int (4 : Int32)), .val (.int y0), .val (.int y1), .val (.int y2), .val (.int y3), .val (.ref b66), .unset, .unset] [(.ref t71)])
    refine OwnGo.st (fun _ k => XS.astore X71.here hx rfl (hb hby at_83) rfl rfl (l' := #[.val (.int p1), .val (.int p2), .val (.int p3), .val (.int p4), .val (.int p5), .val (.int (4 : Int32)), .val (.int y0), .val (.int y1), .val (.int y2), .val (.int y3), .val (.ref b66), .val (.ref t71), .unset]) rfl k) ?_
    show OwnGo p e below s _ _ _ T71 (mkF m 85 #[.val (.int p1), .val (.int p2), .val (.int p3), .val (.int p4), .val (.int p5), .val (.int (4 : Int32)), .val (.int y0), .val (.int y1), .val (.int y2), .val (.int y3), .val (.ref b66), .val (.ref t71), .unset] [])
    refine OwnGo.st (fun _ k => XS.iload X71.here hx rfl (hb hby at_85) rfl  k) ?_
    show OwnGo p e below s _ _ _ T71 (mkF m 87 #[.val (.int p1), .val (.int p2), .val (.int p3), .val (.int p4), .val (.int p5), .val (.int (4 : Int32)), .val (.int y0), .val (.int y1), .val (.int y2), .val (.int y3), .val (.ref b66), .val (.ref t71), .unset] [(.int (4 : Int32))])
    refine OwnGo.st (fun _ k => XS.ifNo X71.here hx rfl (hb hby at_87) rfl ((if0 _ _).trans (tlt ((by decide) : (0 : Int32) < (4 : Int32))).2.2.2) k) ?_
    show OwnGo p e below s _ _ _ T71 (mkF m 90 #[.val (.int p1), .val (.int p2), .val (.int p3), .val (.int p4), .val (.int p5), .val (.int (4 : Int32)), .val (.int y0), .val (.int y1), .val (.int y2), .val (.int y3), .val (.ref b66), .val (.ref t71), .unset] [])
    refine OwnGo.st (fun _ k => XS.aload X71.here hx rfl (hb hby at_90) rfl rfl  k) ?_
    show OwnGo p e below s _ _ _ T71 (mkF m 92 #[.val (.int p1), .val (.int p2), .val (.int p3), .val (.int p4), .val (.int p5), .val (.int (4 : Int32)), .val (.int y0), .val (.int y1), .val (.int y2), .val (.int y3), .val (.ref b66), .val (.ref t71), .unset] [(.ref b66)])
    refine OwnGo.st (fun _ k => XS.iconst X71.here hx rfl (hb hby at_92) k) ?_
    show OwnGo p e below s _ _ _ T71 (mkF m 93 #[.val (.int p1), .val (.int p2), .val (.int p3), .val (.int p4), .val (.int p5), .val (.int (4 : Int32)), .val (.int y0), .val (.int y1), .val (.int y2), .val (.int y3), .val (.ref b66), .val (.ref t71), .unset] [(.int (0 : Int32)), (.ref b66)])
    refine OwnGo.st (fun _ k => XS.iload X71.here hx rfl (hb hby at_93) rfl  k) ?_
    show OwnGo p e below s _ _ _ T71 (mkF m 95 #[.val (.int p1), .val (.int p2), .val (.int p3), .val (.int p4), .val (.int p5), .val (.int (4 : Int32)), .val (.int y0), .val (.int y1), .val (.int y2), .val (.int y3), .val (.ref b66), .val (.ref t71), .unset] [(.int y0), (.int (0 : Int32)), (.ref b66)])
    refine OwnGo.st (fun _ k => XS.iconst X71.here hx rfl (hb hby at_95) k) ?_
    show OwnGo p e below s _ _ _ T71 (mkF m 96 #[.val (.int p1), .val (.int p2), .val (.int p3), .val (.int p4), .val (.int p5), .val (.int (4 : Int32)), .val (.int y0), .val (.int y1), .val (.int y2), .val (.int y3), .val (.ref b66), .val (.ref t71), .unset] [(.int (-1 : Int32)), (.int y0), (.int (0 : Int32)), (.ref b66)])
    refine OwnGo.st (fun _ k => XS.ixor X71.here hx rfl (hb hby at_96) rfl k) ?_
    show OwnGo p e below s _ _ _ T71 (mkF m 97 #[.val (.int p1), .val (.int p2), .val (.int p3), .val (.int p4), .val (.int p5), .val (.int (4 : Int32)), .val (.int y0), .val (.int y1), .val (.int y2), .val (.int y3), .val (.ref b66), .val (.ref t71), .unset] [(.int (y0 ^^^ (-1 : Int32))), (.int (0 : Int32)), (.ref b66)])
    refine OwnGo.st (fun _ k => XS.i2b X71.here hx rfl (hb hby at_97) rfl k) ?_
    show OwnGo p e below s _ _ _ T71 (mkF m 98 #[.val (.int p1), .val (.int p2), .val (.int p3), .val (.int p4), .val (.int p5), .val (.int (4 : Int32)), .val (.int y0), .val (.int y1), .val (.int y2), .val (.int y3), .val (.ref b66), .val (.ref t71), .unset] [(.int ((y0 ^^^ (-1 : Int32)).toInt8.toInt32)), (.int (0 : Int32)), (.ref b66)])
    obtain ⟨cl72, Ar72, q72, S72, N72, H72, G72⟩ := id V_b66
    have hin72 : ¬ ((0 : Int32) < 0 ∨ cl72.slots.size ≤ ((0 : Int32)).toNatClampNeg) := inb_of S72 ⟨by decide, by decide⟩
    obtain ⟨T72, h72, X72, e72, W72, st72⟩ := stB X71 hx hZ rfl Ar72 (j := (0 : Int32)) hin72 (g := (mkF m 98 #[.val (.int p1), .val (.int p2), .val (.int p3), .val (.int p4), .val (.int p5), .val (.int (4 : Int32)), .val (.int y0), .val (.int y1), .val (.int y2), .val (.int y3), .val (.ref b66), .val (.ref t71), .unset] [(.int ((y0 ^^^ (-1 : Int32)).toInt8.toInt32)), (.int (0 : Int32)), (.ref b66)])) rfl rfl (hb hby at_98)
    have V_b66 : Arv Z h72 b66 k66 .byte (4 : Int32) [(.int (nar .byte ((y0 ^^^ (-1 : Int32)).toInt8.toInt32))), (.int y1), (.int y2), (.int y3)] (.int (0 : Int32)) := Arv.set Ar72 q72 S72 N72 H72 G72 (fits_nar_byte _) W72 0 rfl (Nat.le_of_ble_eq_true rfl)
    rw [show nar .byte ((y0 ^^^ (-1 : Int32)).toInt8.toInt32) = ((y0 ^^^ (-1 : Int32)).toInt8.toInt32) from own_nb _] at V_b66
    have E_b66 := E_b66.wr W72
    have E71 := E71.wr W72
    have F71 := F71.other W72 (Or.inl (Ne.symm ne_b66_t71))
    have V71 := V71.other W72 (Ne.symm ne_b66_c71)
    have O_ := O_.wr W72 g_b66
    have N72 := Fr.snoc X72 N71 g_b66
    have Z_ : n0 ≤ h72.size := by rw [W72.size]; exact Z_
    refine OwnGo.st st72 ?_
    show OwnGo p e below s _ _ _ T72 (mkF m 99 #[.val (.int p1), .val (.int p2), .val (.int p3), .val (.int p4), .val (.int p5), .val (.int (4 : Int32)), .val (.int y0), .val (.int y1), .val (.int y2), .val (.int y3), .val (.ref b66), .val (.ref t71), .unset] [])
    refine OwnGo.st (fun _ k => XS.iload X72.here hx rfl (hb hby at_99) rfl  k) ?_
    show OwnGo p e below s _ _ _ T72 (mkF m 101 #[.val (.int p1), .val (.int p2), .val (.int p3), .val (.int p4), .val (.int p5), .val (.int (4 : Int32)), .val (.int y0), .val (.int y1), .val (.int y2), .val (.int y3), .val (.ref b66), .val (.ref t71), .unset] [(.int (4 : Int32))])
    refine OwnGo.st (fun _ k => XS.iconst X72.here hx rfl (hb hby at_101) k) ?_
    show OwnGo p e below s _ _ _ T72 (mkF m 102 #[.val (.int p1), .val (.int p2), .val (.int p3), .val (.int p4), .val (.int p5), .val (.int (4 : Int32)), .val (.int y0), .val (.int y1), .val (.int y2), .val (.int y3), .val (.ref b66), .val (.ref t71), .unset] [(.int (1 : Int32)), (.int (4 : Int32))])
    refine OwnGo.st (fun _ k => XS.icmpNo X72.here hx rfl (hb hby at_102) rfl (tlt ((by decide) : (1 : Int32) < (4 : Int32))).2.2.2 k) ?_
    show OwnGo p e below s _ _ _ T72 (mkF m 105 #[.val (.int p1), .val (.int p2), .val (.int p3), .val (.int p4), .val (.int p5), .val (.int (4 : Int32)), .val (.int y0), .val (.int y1), .val (.int y2), .val (.int y3), .val (.ref b66), .val (.ref t71), .unset] [])
    refine OwnGo.st (fun _ k => XS.aload X72.here hx rfl (hb hby at_105) rfl rfl  k) ?_
    show OwnGo p e below s _ _ _ T72 (mkF m 107 #[.val (.int p1), .val (.int p2), .val (.int p3), .val (.int p4), .val (.int p5), .val (.int (4 : Int32)), .val (.int y0), .val (.int y1), .val (.int y2), .val (.int y3), .val (.ref b66), .val (.ref t71), .unset] [(.ref b66)])
    refine OwnGo.st (fun _ k => XS.iconst X72.here hx rfl (hb hby at_107) k) ?_
    show OwnGo p e below s _ _ _ T72 (mkF m 108 #[.val (.int p1), .val (.int p2), .val (.int p3), .val (.int p4), .val (.int p5), .val (.int (4 : Int32)), .val (.int y0), .val (.int y1), .val (.int y2), .val (.int y3), .val (.ref b66), .val (.ref t71), .unset] [(.int (1 : Int32)), (.ref b66)])
    refine OwnGo.st (fun _ k => XS.iload X72.here hx rfl (hb hby at_108) rfl  k) ?_
    show OwnGo p e below s _ _ _ T72 (mkF m 110 #[.val (.int p1), .val (.int p2), .val (.int p3), .val (.int p4), .val (.int p5), .val (.int (4 : Int32)), .val (.int y0), .val (.int y1), .val (.int y2), .val (.int y3), .val (.ref b66), .val (.ref t71), .unset] [(.int y1), (.int (1 : Int32)), (.ref b66)])
    refine OwnGo.st (fun _ k => XS.iconst X72.here hx rfl (hb hby at_110) k) ?_
    show OwnGo p e below s _ _ _ T72 (mkF m 111 #[.val (.int p1), .val (.int p2), .val (.int p3), .val (.int p4), .val (.int p5), .val (.int (4 : Int32)), .val (.int y0), .val (.int y1), .val (.int y2), .val (.int y3), .val (.ref b66), .val (.ref t71), .unset] [(.int (-1 : Int32)), (.int y1), (.int (1 : Int32)), (.ref b66)])
    refine OwnGo.st (fun _ k => XS.ixor X72.here hx rfl (hb hby at_111) rfl k) ?_
    show OwnGo p e below s _ _ _ T72 (mkF m 112 #[.val (.int p1), .val (.int p2), .val (.int p3), .val (.int p4), .val (.int p5), .val (.int (4 : Int32)), .val (.int y0), .val (.int y1), .val (.int y2), .val (.int y3), .val (.ref b66), .val (.ref t71), .unset] [(.int (y1 ^^^ (-1 : Int32))), (.int (1 : Int32)), (.ref b66)])
    refine OwnGo.st (fun _ k => XS.i2b X72.here hx rfl (hb hby at_112) rfl k) ?_
    show OwnGo p e below s _ _ _ T72 (mkF m 113 #[.val (.int p1), .val (.int p2), .val (.int p3), .val (.int p4), .val (.int p5), .val (.int (4 : Int32)), .val (.int y0), .val (.int y1), .val (.int y2), .val (.int y3), .val (.ref b66), .val (.ref t71), .unset] [(.int ((y1 ^^^ (-1 : Int32)).toInt8.toInt32)), (.int (1 : Int32)), (.ref b66)])
    obtain ⟨cl73, Ar73, q73, S73, N73, H73, G73⟩ := id V_b66
    have hin73 : ¬ ((1 : Int32) < 0 ∨ cl73.slots.size ≤ ((1 : Int32)).toNatClampNeg) := inb_of S73 ⟨by decide, by decide⟩
    obtain ⟨T73, h73, X73, e73, W73, st73⟩ := stB X72 hx hZ e72 Ar73 (j := (1 : Int32)) hin73 (g := (mkF m 113 #[.val (.int p1), .val (.int p2), .val (.int p3), .val (.int p4), .val (.int p5), .val (.int (4 : Int32)), .val (.int y0), .val (.int y1), .val (.int y2), .val (.int y3), .val (.ref b66), .val (.ref t71), .unset] [(.int ((y1 ^^^ (-1 : Int32)).toInt8.toInt32)), (.int (1 : Int32)), (.ref b66)])) rfl rfl (hb hby at_113)
    have V_b66 : Arv Z h73 b66 k66 .byte (4 : Int32) [(.int ((y0 ^^^ (-1 : Int32)).toInt8.toInt32)), (.int (nar .byte ((y1 ^^^ (-1 : Int32)).toInt8.toInt32))), (.int y2), (.int y3)] (.int (0 : Int32)) := Arv.set Ar73 q73 S73 N73 H73 G73 (fits_nar_byte _) W73 1 rfl (Nat.le_of_ble_eq_true rfl)
    rw [show nar .byte ((y1 ^^^ (-1 : Int32)).toInt8.toInt32) = ((y1 ^^^ (-1 : Int32)).toInt8.toInt32) from own_nb _] at V_b66
    have E_b66 := E_b66.wr W73
    have E71 := E71.wr W73
    have F71 := F71.other W73 (Or.inl (Ne.symm ne_b66_t71))
    have V71 := V71.other W73 (Ne.symm ne_b66_c71)
    have O_ := O_.wr W73 g_b66
    have N73 := Fr.snoc X73 N72 g_b66
    have Z_ : n0 ≤ h73.size := by rw [W73.size]; exact Z_
    refine OwnGo.st st73 ?_
    show OwnGo p e below s _ _ _ T73 (mkF m 114 #[.val (.int p1), .val (.int p2), .val (.int p3), .val (.int p4), .val (.int p5), .val (.int (4 : Int32)), .val (.int y0), .val (.int y1), .val (.int y2), .val (.int y3), .val (.ref b66), .val (.ref t71), .unset] [])
    refine OwnGo.st (fun _ k => XS.iload X73.here hx rfl (hb hby at_114) rfl  k) ?_
    show OwnGo p e below s _ _ _ T73 (mkF m 116 #[.val (.int p1), .val (.int p2), .val (.int p3), .val (.int p4), .val (.int p5), .val (.int (4 : Int32)), .val (.int y0), .val (.int y1), .val (.int y2), .val (.int y3), .val (.ref b66), .val (.ref t71), .unset] [(.int (4 : Int32))])
    refine OwnGo.st (fun _ k => XS.iconst X73.here hx rfl (hb hby at_116) k) ?_
    show OwnGo p e below s _ _ _ T73 (mkF m 117 #[.val (.int p1), .val (.int p2), .val (.int p3), .val (.int p4), .val (.int p5), .val (.int (4 : Int32)), .val (.int y0), .val (.int y1), .val (.int y2), .val (.int y3), .val (.ref b66), .val (.ref t71), .unset] [(.int (2 : Int32)), (.int (4 : Int32))])
    refine OwnGo.st (fun _ k => XS.icmpNo X73.here hx rfl (hb hby at_117) rfl (tlt ((by decide) : (2 : Int32) < (4 : Int32))).2.2.2 k) ?_
    show OwnGo p e below s _ _ _ T73 (mkF m 120 #[.val (.int p1), .val (.int p2), .val (.int p3), .val (.int p4), .val (.int p5), .val (.int (4 : Int32)), .val (.int y0), .val (.int y1), .val (.int y2), .val (.int y3), .val (.ref b66), .val (.ref t71), .unset] [])
    refine OwnGo.st (fun _ k => XS.aload X73.here hx rfl (hb hby at_120) rfl rfl  k) ?_
    show OwnGo p e below s _ _ _ T73 (mkF m 122 #[.val (.int p1), .val (.int p2), .val (.int p3), .val (.int p4), .val (.int p5), .val (.int (4 : Int32)), .val (.int y0), .val (.int y1), .val (.int y2), .val (.int y3), .val (.ref b66), .val (.ref t71), .unset] [(.ref b66)])
    refine OwnGo.st (fun _ k => XS.iconst X73.here hx rfl (hb hby at_122) k) ?_
    show OwnGo p e below s _ _ _ T73 (mkF m 123 #[.val (.int p1), .val (.int p2), .val (.int p3), .val (.int p4), .val (.int p5), .val (.int (4 : Int32)), .val (.int y0), .val (.int y1), .val (.int y2), .val (.int y3), .val (.ref b66), .val (.ref t71), .unset] [(.int (2 : Int32)), (.ref b66)])
    refine OwnGo.st (fun _ k => XS.iload X73.here hx rfl (hb hby at_123) rfl  k) ?_
    show OwnGo p e below s _ _ _ T73 (mkF m 125 #[.val (.int p1), .val (.int p2), .val (.int p3), .val (.int p4), .val (.int p5), .val (.int (4 : Int32)), .val (.int y0), .val (.int y1), .val (.int y2), .val (.int y3), .val (.ref b66), .val (.ref t71), .unset] [(.int y2), (.int (2 : Int32)), (.ref b66)])
    refine OwnGo.st (fun _ k => XS.iconst X73.here hx rfl (hb hby at_125) k) ?_
    show OwnGo p e below s _ _ _ T73 (mkF m 126 #[.val (.int p1), .val (.int p2), .val (.int p3), .val (.int p4), .val (.int p5), .val (.int (4 : Int32)), .val (.int y0), .val (.int y1), .val (.int y2), .val (.int y3), .val (.ref b66), .val (.ref t71), .unset] [(.int (-1 : Int32)), (.int y2), (.int (2 : Int32)), (.ref b66)])
    refine OwnGo.st (fun _ k => XS.ixor X73.here hx rfl (hb hby at_126) rfl k) ?_
    show OwnGo p e below s _ _ _ T73 (mkF m 127 #[.val (.int p1), .val (.int p2), .val (.int p3), .val (.int p4), .val (.int p5), .val (.int (4 : Int32)), .val (.int y0), .val (.int y1), .val (.int y2), .val (.int y3), .val (.ref b66), .val (.ref t71), .unset] [(.int (y2 ^^^ (-1 : Int32))), (.int (2 : Int32)), (.ref b66)])
    refine OwnGo.st (fun _ k => XS.i2b X73.here hx rfl (hb hby at_127) rfl k) ?_
    show OwnGo p e below s _ _ _ T73 (mkF m 128 #[.val (.int p1), .val (.int p2), .val (.int p3), .val (.int p4), .val (.int p5), .val (.int (4 : Int32)), .val (.int y0), .val (.int y1), .val (.int y2), .val (.int y3), .val (.ref b66), .val (.ref t71), .unset] [(.int ((y2 ^^^ (-1 : Int32)).toInt8.toInt32)), (.int (2 : Int32)), (.ref b66)])
    obtain ⟨cl74, Ar74, q74, S74, N74, H74, G74⟩ := id V_b66
    have hin74 : ¬ ((2 : Int32) < 0 ∨ cl74.slots.size ≤ ((2 : Int32)).toNatClampNeg) := inb_of S74 ⟨by decide, by decide⟩
    obtain ⟨T74, h74, X74, e74, W74, st74⟩ := stB X73 hx hZ e73 Ar74 (j := (2 : Int32)) hin74 (g := (mkF m 128 #[.val (.int p1), .val (.int p2), .val (.int p3), .val (.int p4), .val (.int p5), .val (.int (4 : Int32)), .val (.int y0), .val (.int y1), .val (.int y2), .val (.int y3), .val (.ref b66), .val (.ref t71), .unset] [(.int ((y2 ^^^ (-1 : Int32)).toInt8.toInt32)), (.int (2 : Int32)), (.ref b66)])) rfl rfl (hb hby at_128)
    have V_b66 : Arv Z h74 b66 k66 .byte (4 : Int32) [(.int ((y0 ^^^ (-1 : Int32)).toInt8.toInt32)), (.int ((y1 ^^^ (-1 : Int32)).toInt8.toInt32)), (.int (nar .byte ((y2 ^^^ (-1 : Int32)).toInt8.toInt32))), (.int y3)] (.int (0 : Int32)) := Arv.set Ar74 q74 S74 N74 H74 G74 (fits_nar_byte _) W74 2 rfl (Nat.le_of_ble_eq_true rfl)
    rw [show nar .byte ((y2 ^^^ (-1 : Int32)).toInt8.toInt32) = ((y2 ^^^ (-1 : Int32)).toInt8.toInt32) from own_nb _] at V_b66
    have E_b66 := E_b66.wr W74
    have E71 := E71.wr W74
    have F71 := F71.other W74 (Or.inl (Ne.symm ne_b66_t71))
    have V71 := V71.other W74 (Ne.symm ne_b66_c71)
    have O_ := O_.wr W74 g_b66
    have N74 := Fr.snoc X74 N73 g_b66
    have Z_ : n0 ≤ h74.size := by rw [W74.size]; exact Z_
    refine OwnGo.st st74 ?_
    show OwnGo p e below s _ _ _ T74 (mkF m 129 #[.val (.int p1), .val (.int p2), .val (.int p3), .val (.int p4), .val (.int p5), .val (.int (4 : Int32)), .val (.int y0), .val (.int y1), .val (.int y2), .val (.int y3), .val (.ref b66), .val (.ref t71), .unset] [])
    refine OwnGo.st (fun _ k => XS.iload X74.here hx rfl (hb hby at_129) rfl  k) ?_
    show OwnGo p e below s _ _ _ T74 (mkF m 131 #[.val (.int p1), .val (.int p2), .val (.int p3), .val (.int p4), .val (.int p5), .val (.int (4 : Int32)), .val (.int y0), .val (.int y1), .val (.int y2), .val (.int y3), .val (.ref b66), .val (.ref t71), .unset] [(.int (4 : Int32))])
    refine OwnGo.st (fun _ k => XS.iconst X74.here hx rfl (hb hby at_131) k) ?_
    show OwnGo p e below s _ _ _ T74 (mkF m 132 #[.val (.int p1), .val (.int p2), .val (.int p3), .val (.int p4), .val (.int p5), .val (.int (4 : Int32)), .val (.int y0), .val (.int y1), .val (.int y2), .val (.int y3), .val (.ref b66), .val (.ref t71), .unset] [(.int (3 : Int32)), (.int (4 : Int32))])
    refine OwnGo.st (fun _ k => XS.icmpNo X74.here hx rfl (hb hby at_132) rfl (tlt ((by decide) : (3 : Int32) < (4 : Int32))).2.2.2 k) ?_
    show OwnGo p e below s _ _ _ T74 (mkF m 135 #[.val (.int p1), .val (.int p2), .val (.int p3), .val (.int p4), .val (.int p5), .val (.int (4 : Int32)), .val (.int y0), .val (.int y1), .val (.int y2), .val (.int y3), .val (.ref b66), .val (.ref t71), .unset] [])
    refine OwnGo.st (fun _ k => XS.aload X74.here hx rfl (hb hby at_135) rfl rfl  k) ?_
    show OwnGo p e below s _ _ _ T74 (mkF m 137 #[.val (.int p1), .val (.int p2), .val (.int p3), .val (.int p4), .val (.int p5), .val (.int (4 : Int32)), .val (.int y0), .val (.int y1), .val (.int y2), .val (.int y3), .val (.ref b66), .val (.ref t71), .unset] [(.ref b66)])
    refine OwnGo.st (fun _ k => XS.iconst X74.here hx rfl (hb hby at_137) k) ?_
    show OwnGo p e below s _ _ _ T74 (mkF m 138 #[.val (.int p1), .val (.int p2), .val (.int p3), .val (.int p4), .val (.int p5), .val (.int (4 : Int32)), .val (.int y0), .val (.int y1), .val (.int y2), .val (.int y3), .val (.ref b66), .val (.ref t71), .unset] [(.int (3 : Int32)), (.ref b66)])
    refine OwnGo.st (fun _ k => XS.iload X74.here hx rfl (hb hby at_138) rfl  k) ?_
    show OwnGo p e below s _ _ _ T74 (mkF m 140 #[.val (.int p1), .val (.int p2), .val (.int p3), .val (.int p4), .val (.int p5), .val (.int (4 : Int32)), .val (.int y0), .val (.int y1), .val (.int y2), .val (.int y3), .val (.ref b66), .val (.ref t71), .unset] [(.int y3), (.int (3 : Int32)), (.ref b66)])
    refine OwnGo.st (fun _ k => XS.iconst X74.here hx rfl (hb hby at_140) k) ?_
    show OwnGo p e below s _ _ _ T74 (mkF m 141 #[.val (.int p1), .val (.int p2), .val (.int p3), .val (.int p4), .val (.int p5), .val (.int (4 : Int32)), .val (.int y0), .val (.int y1), .val (.int y2), .val (.int y3), .val (.ref b66), .val (.ref t71), .unset] [(.int (-1 : Int32)), (.int y3), (.int (3 : Int32)), (.ref b66)])
    refine OwnGo.st (fun _ k => XS.ixor X74.here hx rfl (hb hby at_141) rfl k) ?_
    show OwnGo p e below s _ _ _ T74 (mkF m 142 #[.val (.int p1), .val (.int p2), .val (.int p3), .val (.int p4), .val (.int p5), .val (.int (4 : Int32)), .val (.int y0), .val (.int y1), .val (.int y2), .val (.int y3), .val (.ref b66), .val (.ref t71), .unset] [(.int (y3 ^^^ (-1 : Int32))), (.int (3 : Int32)), (.ref b66)])
    refine OwnGo.st (fun _ k => XS.i2b X74.here hx rfl (hb hby at_142) rfl k) ?_
    show OwnGo p e below s _ _ _ T74 (mkF m 143 #[.val (.int p1), .val (.int p2), .val (.int p3), .val (.int p4), .val (.int p5), .val (.int (4 : Int32)), .val (.int y0), .val (.int y1), .val (.int y2), .val (.int y3), .val (.ref b66), .val (.ref t71), .unset] [(.int ((y3 ^^^ (-1 : Int32)).toInt8.toInt32)), (.int (3 : Int32)), (.ref b66)])
    obtain ⟨cl75, Ar75, q75, S75, N75, H75, G75⟩ := id V_b66
    have hin75 : ¬ ((3 : Int32) < 0 ∨ cl75.slots.size ≤ ((3 : Int32)).toNatClampNeg) := inb_of S75 ⟨by decide, by decide⟩
    obtain ⟨T75, h75, X75, e75, W75, st75⟩ := stB X74 hx hZ e74 Ar75 (j := (3 : Int32)) hin75 (g := (mkF m 143 #[.val (.int p1), .val (.int p2), .val (.int p3), .val (.int p4), .val (.int p5), .val (.int (4 : Int32)), .val (.int y0), .val (.int y1), .val (.int y2), .val (.int y3), .val (.ref b66), .val (.ref t71), .unset] [(.int ((y3 ^^^ (-1 : Int32)).toInt8.toInt32)), (.int (3 : Int32)), (.ref b66)])) rfl rfl (hb hby at_143)
    have V_b66 : Arv Z h75 b66 k66 .byte (4 : Int32) [(.int ((y0 ^^^ (-1 : Int32)).toInt8.toInt32)), (.int ((y1 ^^^ (-1 : Int32)).toInt8.toInt32)), (.int ((y2 ^^^ (-1 : Int32)).toInt8.toInt32)), (.int (nar .byte ((y3 ^^^ (-1 : Int32)).toInt8.toInt32)))] (.int (0 : Int32)) := Arv.set Ar75 q75 S75 N75 H75 G75 (fits_nar_byte _) W75 3 rfl (Nat.le_of_ble_eq_true rfl)
    rw [show nar .byte ((y3 ^^^ (-1 : Int32)).toInt8.toInt32) = ((y3 ^^^ (-1 : Int32)).toInt8.toInt32) from own_nb _] at V_b66
    have E_b66 := E_b66.wr W75
    have E71 := E71.wr W75
    have F71 := F71.other W75 (Or.inl (Ne.symm ne_b66_t71))
    have V71 := V71.other W75 (Ne.symm ne_b66_c71)
    have O_ := O_.wr W75 g_b66
    have N75 := Fr.snoc X75 N74 g_b66
    have Z_ : n0 ≤ h75.size := by rw [W75.size]; exact Z_
    refine OwnGo.st st75 ?_
    show OwnGo p e below s _ _ _ T75 (mkF m 144 #[.val (.int p1), .val (.int p2), .val (.int p3), .val (.int p4), .val (.int p5), .val (.int (4 : Int32)), .val (.int y0), .val (.int y1), .val (.int y2), .val (.int y3), .val (.ref b66), .val (.ref t71), .unset] [])
    refine OwnGo.st (fun _ k => XS.aload X75.here hx rfl (hb hby at_144) rfl rfl  k) ?_
    show OwnGo p e below s _ _ _ T75 (mkF m 146 #[.val (.int p1), .val (.int p2), .val (.int p3), .val (.int p4), .val (.int p5), .val (.int (4 : Int32)), .val (.int y0), .val (.int y1), .val (.int y2), .val (.int y3), .val (.ref b66), .val (.ref t71), .unset] [(.ref t71)])
    obtain ⟨cq76, kq76, q76a, q76b, q76c⟩ := isOf hZ e75 E71
    obtain ⟨_, _, ⟨T76, L76, k76, n76⟩, -, X76, ⟨Lc76, hQ76, l76, y76, z76⟩, st76⟩ := X75.virtualBack hx (y := (⟨"com/example/cofferhand/cofferhand/nbt/ByteArrayTag", "length", "()I"⟩ : MethodName)) (z := (⟨"com/example/cofferhand/cofferhand/nbt/ByteArrayTag", "length", "()I"⟩ : MethodName)) hown (mvT hZ (hw _ (List.mem_of_getElem? (i := 25) rfl))) (mvT hZ (hw _ (List.mem_of_getElem? (i := 26) rfl))) (notFace_of_selects (args := #[]) (mvT hZ (hw _ (List.mem_of_getElem? (i := 28) rfl)))) (mvT hZ (hw _ (List.mem_of_getElem? (i := 28) rfl))) (mvT hZ (hw _ (List.mem_of_getElem? (i := 27) rfl))) (by decide) (backOf (W := 0) (rmlen l Z a0 hw [] t71 c71 k66 (4 : Int32) [(.int y0), (.int y1), (.int y2), (.int y3)] h75 n0 Z_ F71 V71) hZ (hw _ (List.mem_of_getElem? (i := 29) rfl)) (hw _ (List.mem_of_getElem? (i := 4) rfl)) (by decide) (by decide)) q76a q76c (g := (mkF m 146 #[.val (.int p1), .val (.int p2), .val (.int p3), .val (.int p4), .val (.int p5), .val (.int (4 : Int32)), .val (.int y0), .val (.int y1), .val (.int y2), .val (.int y3), .val (.ref b66), .val (.ref t71), .unset] [(.ref t71)])) rfl (by rw [hml]; rfl) (Steps.refl _) (argsL := []) (rest := []) (lenOf pd_2 rfl) rfl (by show 2 * 0 + _ ≤ _; exact Nat.le_of_eq rfl) (hb hby at_146) (fun _ _ => ⟨rfl, e75, (by decide : 3 + 0 ≤ _), (by decide : 9 + 0 ≤ _)⟩)
    dsimp only [Pt.U, Pt.locs, Pt.cells, Pt.slots] at X76 l76 y76 z76 st76 hQ76
    subst l76 y76 z76
    obtain ⟨rfl, N76q, e76⟩ := hQ76
    have N76 := Fr.app N75 N76q
    refine OwnGo.st (fun _ k => st76.trans k) ?_
    show OwnGo p e below s _ _ _ T76 (mkF m 149 #[.val (.int p1), .val (.int p2), .val (.int p3), .val (.int p4), .val (.int p5), .val (.int (4 : Int32)), .val (.int y0), .val (.int y1), .val (.int y2), .val (.int y3), .val (.ref b66), .val (.ref t71), .unset] [(.int (4 : Int32))])
    refine OwnGo.st (fun _ k => XS.iload X76.here hx rfl (hb hby at_149) rfl  k) ?_
    show OwnGo p e below s _ _ _ T76 (mkF m 151 #[.val (.int p1), .val (.int p2), .val (.int p3), .val (.int p4), .val (.int p5), .val (.int (4 : Int32)), .val (.int y0), .val (.int y1), .val (.int y2), .val (.int y3), .val (.ref b66), .val (.ref t71), .unset] [(.int (4 : Int32)), (.int (4 : Int32))])
    refine OwnGo.st (fun _ k => XS.icmpNo X76.here hx rfl (hb hby at_151) rfl (teq (rfl : (4 : Int32) = (4 : Int32))).2 k) ?_
    show OwnGo p e below s _ _ _ T76 (mkF m 154 #[.val (.int p1), .val (.int p2), .val (.int p3), .val (.int p4), .val (.int p5), .val (.int (4 : Int32)), .val (.int y0), .val (.int y1), .val (.int y2), .val (.int y3), .val (.ref b66), .val (.ref t71), .unset] [])
    refine OwnGo.st (fun _ k => XS.aload X76.here hx rfl (hb hby at_154) rfl rfl  k) ?_
    show OwnGo p e below s _ _ _ T76 (mkF m 156 #[.val (.int p1), .val (.int p2), .val (.int p3), .val (.int p4), .val (.int p5), .val (.int (4 : Int32)), .val (.int y0), .val (.int y1), .val (.int y2), .val (.int y3), .val (.ref b66), .val (.ref t71), .unset] [(.ref t71)])
    obtain ⟨cq77, kq77, q77a, q77b, q77c⟩ := isOf hZ e76 E71
    obtain ⟨_, _, ⟨T77, L77, k77, n77⟩, -, X77, ⟨Lc77, hQ77, l77, y77, z77⟩, st77⟩ := X76.virtualBack hx (y := (⟨"com/example/cofferhand/cofferhand/nbt/ByteArrayTag", "type", "()Lcom/example/cofferhand/cofferhand/nbt/TagType;"⟩ : MethodName)) (z := (⟨"com/example/cofferhand/cofferhand/nbt/ByteArrayTag", "type", "()Lcom/example/cofferhand/cofferhand/nbt/TagType;"⟩ : MethodName)) hown (mvT hZ (hw _ (List.mem_of_getElem? (i := 30) rfl))) (mvT hZ (hw _ (List.mem_of_getElem? (i := 31) rfl))) (notFace_of_selects (args := #[]) (mvT hZ (hw _ (List.mem_of_getElem? (i := 33) rfl)))) (mvT hZ (hw _ (List.mem_of_getElem? (i := 33) rfl))) (mvT hZ (hw _ (List.mem_of_getElem? (i := 32) rfl))) (by decide) (backOf (W := 0) (rmtyp l Z a0 hw [] t71 u_TagType_BYTE_ARRAY h75 n0 Z_ O_ S_u_TagType_BYTE_ARRAY E_u_TagType_BYTE_ARRAY) hZ (hw _ (List.mem_of_getElem? (i := 34) rfl)) (hw _ (List.mem_of_getElem? (i := 4) rfl)) (by decide) (by decide)) q77a q77c (g := (mkF m 156 #[.val (.int p1), .val (.int p2), .val (.int p3), .val (.int p4), .val (.int p5), .val (.int (4 : Int32)), .val (.int y0), .val (.int y1), .val (.int y2), .val (.int y3), .val (.ref b66), .val (.ref t71), .unset] [(.ref t71)])) rfl (by rw [hml]; rfl) (Steps.refl _) (argsL := []) (rest := []) (lenOf pd_3 rfl) rfl (by show 2 * 0 + _ ≤ _; exact Nat.le_of_eq rfl) (hb hby at_156) (fun _ _ => ⟨rfl, e76, (by decide : 3 + 0 ≤ _), (by decide : 9 + 0 ≤ _)⟩)
    dsimp only [Pt.U, Pt.locs, Pt.cells, Pt.slots] at X77 l77 y77 z77 st77 hQ77
    subst l77 y77 z77
    obtain ⟨rfl, N77q, e77⟩ := hQ77
    have N77 := Fr.app N76 N77q
    refine OwnGo.st (fun _ k => st77.trans k) ?_
    show OwnGo p e below s _ _ _ T77 (mkF m 159 #[.val (.int p1), .val (.int p2), .val (.int p3), .val (.int p4), .val (.int p5), .val (.int (4 : Int32)), .val (.int y0), .val (.int y1), .val (.int y2), .val (.int y3), .val (.ref b66), .val (.ref t71), .unset] [(.ref u_TagType_BYTE_ARRAY)])
    obtain ⟨T78, X78, e78, st78⟩ := getS2 X77 hx hZ hown (host := "") (Or.inl (hw _ (List.mem_of_getElem? (i := 38) rfl))) Via.refl e77 (S_u_TagType_BYTE_ARRAY.ext O_.2) (g := (mkF m 159 #[.val (.int p1), .val (.int p2), .val (.int p3), .val (.int p4), .val (.int p5), .val (.int (4 : Int32)), .val (.int y0), .val (.int y1), .val (.int y2), .val (.int y3), .val (.ref b66), .val (.ref t71), .unset] [(.ref u_TagType_BYTE_ARRAY)])) rfl (hb hby at_159)
    refine OwnGo.st st78 ?_
    show OwnGo p e below s _ _ _ T78 (mkF m 162 #[.val (.int p1), .val (.int p2), .val (.int p3), .val (.int p4), .val (.int p5), .val (.int (4 : Int32)), .val (.int y0), .val (.int y1), .val (.int y2), .val (.int y3), .val (.ref b66), .val (.ref t71), .unset] [(.ref u_TagType_BYTE_ARRAY), (.ref u_TagType_BYTE_ARRAY)])
    refine OwnGo.st (fun _ k => Jvm.RoadKit.acmp (g := (mkF m 162 #[.val (.int p1), .val (.int p2), .val (.int p3), .val (.int p4), .val (.int p5), .val (.int (4 : Int32)), .val (.int y0), .val (.int y1), .val (.int y2), .val (.int y3), .val (.ref b66), .val (.ref t71), .unset] [(.ref u_TagType_BYTE_ARRAY), (.ref u_TagType_BYTE_ARRAY)])) X78 hx rfl rfl rfl (pc0 := 162) (pc' := 165) (same := true) rfl (hb hby at_162) rfl (decide_eq_true rfl) (by decide) (by decide) k) ?_
    show OwnGo p e below s _ _ _ T78 (mkF m 165 #[.val (.int p1), .val (.int p2), .val (.int p3), .val (.int p4), .val (.int p5), .val (.int (4 : Int32)), .val (.int y0), .val (.int y1), .val (.int y2), .val (.int y3), .val (.ref b66), .val (.ref t71), .unset] [])
    refine OwnGo.st (fun _ k => XS.iconst X78.here hx rfl (hb hby at_165) k) ?_
    show OwnGo p e below s _ _ _ T78 (mkF m 166 #[.val (.int p1), .val (.int p2), .val (.int p3), .val (.int p4), .val (.int p5), .val (.int (4 : Int32)), .val (.int y0), .val (.int y1), .val (.int y2), .val (.int y3), .val (.ref b66), .val (.ref t71), .unset] [(.int (1 : Int32))])
    refine OwnGo.st (fun _ k => XS.goto X78.here hx rfl (pc0 := 166) (pc' := 170) rfl (hb hby at_166) (by decide) (by decide) k) ?_
    show OwnGo p e below s _ _ _ T78 (mkF m 170 #[.val (.int p1), .val (.int p2), .val (.int p3), .val (.int p4), .val (.int p5), .val (.int (4 : Int32)), .val (.int y0), .val (.int y1), .val (.int y2), .val (.int y3), .val (.ref b66), .val (.ref t71), .unset] [(.int (1 : Int32))])
    refine OwnGo.st (fun _ k => XS.istore X78.here hx rfl (hb hby at_170) rfl (l' := #[.val (.int p1), .val (.int p2), .val (.int p3), .val (.int p4), .val (.int p5), .val (.int (4 : Int32)), .val (.int y0), .val (.int y1), .val (.int y2), .val (.int y3), .val (.ref b66), .val (.ref t71), .val (.int (1 : Int32))]) rfl k) ?_
    show OwnGo p e below s _ _ _ T78 (mkF m 172 #[.val (.int p1), .val (.int p2), .val (.int p3), .val (.int p4), .val (.int p5), .val (.int (4 : Int32)), .val (.int y0), .val (.int y1), .val (.int y2), .val (.int y3), .val (.ref b66), .val (.ref t71), .val (.int (1 : Int32))] [])
    refine OwnGo.st (fun _ k => XS.iload X78.here hx rfl (hb hby at_172) rfl  k) ?_
    show OwnGo p e below s _ _ _ T78 (mkF m 174 #[.val (.int p1), .val (.int p2), .val (.int p3), .val (.int p4), .val (.int p5), .val (.int (4 : Int32)), .val (.int y0), .val (.int y1), .val (.int y2), .val (.int y3), .val (.ref b66), .val (.ref t71), .val (.int (1 : Int32))] [(.int (1 : Int32))])
    refine OwnGo.st (fun _ k => XS.ifNo X78.here hx rfl (hb hby at_174) rfl ((if0 _ _).trans (feq ((by decide) : ¬ ((1 : Int32) = (0 : Int32)))).1) k) ?_
    show OwnGo p e below s _ _ _ T78 (mkF m 177 #[.val (.int p1), .val (.int p2), .val (.int p3), .val (.int p4), .val (.int p5), .val (.int (4 : Int32)), .val (.int y0), .val (.int y1), .val (.int y2), .val (.int y3), .val (.ref b66), .val (.ref t71), .val (.int (1 : Int32))] [])
    refine OwnGo.st (fun _ k => XS.iload X78.here hx rfl (hb hby at_177) rfl  k) ?_
    show OwnGo p e below s _ _ _ T78 (mkF m 179 #[.val (.int p1), .val (.int p2), .val (.int p3), .val (.int p4), .val (.int p5), .val (.int (4 : Int32)), .val (.int y0), .val (.int y1), .val (.int y2), .val (.int y3), .val (.ref b66), .val (.ref t71), .val (.int (1 : Int32))] [(.int (4 : Int32))])
    refine OwnGo.st (fun _ k => XS.ifNo X78.here hx rfl (hb hby at_179) rfl ((if0 _ _).trans (tlt ((by decide) : (0 : Int32) < (4 : Int32))).2.2.2) k) ?_
    show OwnGo p e below s _ _ _ T78 (mkF m 182 #[.val (.int p1), .val (.int p2), .val (.int p3), .val (.int p4), .val (.int p5), .val (.int (4 : Int32)), .val (.int y0), .val (.int y1), .val (.int y2), .val (.int y3), .val (.ref b66), .val (.ref t71), .val (.int (1 : Int32))] [])
    refine OwnGo.st (fun _ k => XS.aload X78.here hx rfl (hb hby at_182) rfl rfl  k) ?_
    show OwnGo p e below s _ _ _ T78 (mkF m 184 #[.val (.int p1), .val (.int p2), .val (.int p3), .val (.int p4), .val (.int p5), .val (.int (4 : Int32)), .val (.int y0), .val (.int y1), .val (.int y2), .val (.int y3), .val (.ref b66), .val (.ref t71), .val (.int (1 : Int32))] [(.ref t71)])
    refine OwnGo.st (fun _ k => XS.iconst X78.here hx rfl (hb hby at_184) k) ?_
    show OwnGo p e below s _ _ _ T78 (mkF m 185 #[.val (.int p1), .val (.int p2), .val (.int p3), .val (.int p4), .val (.int p5), .val (.int (4 : Int32)), .val (.int y0), .val (.int y1), .val (.int y2), .val (.int y3), .val (.ref b66), .val (.ref t71), .val (.int (1 : Int32))] [(.int (0 : Int32)), (.ref t71)])
    obtain ⟨cq79, kq79, q79a, q79b, q79c⟩ := isOf hZ e78 E71
    obtain ⟨_, _, ⟨T79, L79, k79, n79⟩, -, X79, ⟨Lc79, hQ79, l79, y79, z79⟩, st79⟩ := X78.virtualBack hx (y := (⟨"com/example/cofferhand/cofferhand/nbt/ByteArrayTag", "get", "(I)B"⟩ : MethodName)) (z := (⟨"com/example/cofferhand/cofferhand/nbt/ByteArrayTag", "get", "(I)B"⟩ : MethodName)) hown (mvT hZ (hw _ (List.mem_of_getElem? (i := 39) rfl))) (mvT hZ (hw _ (List.mem_of_getElem? (i := 40) rfl))) (notFace_of_selects (args := #[]) (mvT hZ (hw _ (List.mem_of_getElem? (i := 42) rfl)))) (mvT hZ (hw _ (List.mem_of_getElem? (i := 42) rfl))) (mvT hZ (hw _ (List.mem_of_getElem? (i := 41) rfl))) (by decide) (backOf (W := 0) (rmget l Z a0 hw [] t71 c71 k66 (4 : Int32) [(.int y0), (.int y1), (.int y2), (.int y3)] (0 : Int32) y0 h75 n0 Z_ F71 V71 ⟨by decide, by decide⟩ rfl (by rw [hy0]; exact own_nb _)) hZ (hw _ (List.mem_of_getElem? (i := 43) rfl)) (hw _ (List.mem_of_getElem? (i := 4) rfl)) (by decide) (by decide)) q79a q79c (g := (mkF m 185 #[.val (.int p1), .val (.int p2), .val (.int p3), .val (.int p4), .val (.int p5), .val (.int (4 : Int32)), .val (.int y0), .val (.int y1), .val (.int y2), .val (.int y3), .val (.ref b66), .val (.ref t71), .val (.int (1 : Int32))] [(.int (0 : Int32)), (.ref t71)])) rfl (by rw [hml]; rfl) (Steps.refl _) (argsL := [(.int (0 : Int32))]) (rest := []) (lenOf pd_4 rfl) rfl (by show 2 * 0 + _ ≤ _; exact Nat.le_of_eq rfl) (hb hby at_185) (fun _ _ => ⟨rfl, e78, (by decide : 3 + 0 ≤ _), (by decide : 9 + 0 ≤ _)⟩)
    dsimp only [Pt.U, Pt.locs, Pt.cells, Pt.slots] at X79 l79 y79 z79 st79 hQ79
    subst l79 y79 z79
    obtain ⟨rfl, N79q, e79⟩ := hQ79
    have N79 := Fr.app N77 N79q
    refine OwnGo.st (fun _ k => st79.trans k) ?_
    show OwnGo p e below s _ _ _ T79 (mkF m 188 #[.val (.int p1), .val (.int p2), .val (.int p3), .val (.int p4), .val (.int p5), .val (.int (4 : Int32)), .val (.int y0), .val (.int y1), .val (.int y2), .val (.int y3), .val (.ref b66), .val (.ref t71), .val (.int (1 : Int32))] [(.int y0)])
    refine OwnGo.st (fun _ k => XS.iload X79.here hx rfl (hb hby at_188) rfl  k) ?_
    show OwnGo p e below s _ _ _ T79 (mkF m 190 #[.val (.int p1), .val (.int p2), .val (.int p3), .val (.int p4), .val (.int p5), .val (.int (4 : Int32)), .val (.int y0), .val (.int y1), .val (.int y2), .val (.int y3), .val (.ref b66), .val (.ref t71), .val (.int (1 : Int32))] [(.int y0), (.int y0)])
    refine OwnGo.st (fun _ k => XS.icmpNo X79.here hx rfl (hb hby at_190) rfl (teq (rfl : y0 = y0)).2 k) ?_
    show OwnGo p e below s _ _ _ T79 (mkF m 193 #[.val (.int p1), .val (.int p2), .val (.int p3), .val (.int p4), .val (.int p5), .val (.int (4 : Int32)), .val (.int y0), .val (.int y1), .val (.int y2), .val (.int y3), .val (.ref b66), .val (.ref t71), .val (.int (1 : Int32))] [])
    refine OwnGo.st (fun _ k => XS.iconst X79.here hx rfl (hb hby at_193) k) ?_
    show OwnGo p e below s _ _ _ T79 (mkF m 194 #[.val (.int p1), .val (.int p2), .val (.int p3), .val (.int p4), .val (.int p5), .val (.int (4 : Int32)), .val (.int y0), .val (.int y1), .val (.int y2), .val (.int y3), .val (.ref b66), .val (.ref t71), .val (.int (1 : Int32))] [(.int (1 : Int32))])
    refine OwnGo.st (fun _ k => XS.goto X79.here hx rfl (pc0 := 194) (pc' := 198) rfl (hb hby at_194) (by decide) (by decide) k) ?_
    show OwnGo p e below s _ _ _ T79 (mkF m 198 #[.val (.int p1), .val (.int p2), .val (.int p3), .val (.int p4), .val (.int p5), .val (.int (4 : Int32)), .val (.int y0), .val (.int y1), .val (.int y2), .val (.int y3), .val (.ref b66), .val (.ref t71), .val (.int (1 : Int32))] [(.int (1 : Int32))])
    refine OwnGo.st (fun _ k => XS.istore X79.here hx rfl (hb hby at_198) rfl (l' := #[.val (.int p1), .val (.int p2), .val (.int p3), .val (.int p4), .val (.int p5), .val (.int (4 : Int32)), .val (.int y0), .val (.int y1), .val (.int y2), .val (.int y3), .val (.ref b66), .val (.ref t71), .val (.int (1 : Int32))]) rfl k) ?_
    show OwnGo p e below s _ _ _ T79 (mkF m 200 #[.val (.int p1), .val (.int p2), .val (.int p3), .val (.int p4), .val (.int p5), .val (.int (4 : Int32)), .val (.int y0), .val (.int y1), .val (.int y2), .val (.int y3), .val (.ref b66), .val (.ref t71), .val (.int (1 : Int32))] [])
    refine OwnGo.st (fun _ k => XS.iload X79.here hx rfl (hb hby at_200) rfl  k) ?_
    show OwnGo p e below s _ _ _ T79 (mkF m 202 #[.val (.int p1), .val (.int p2), .val (.int p3), .val (.int p4), .val (.int p5), .val (.int (4 : Int32)), .val (.int y0), .val (.int y1), .val (.int y2), .val (.int y3), .val (.ref b66), .val (.ref t71), .val (.int (1 : Int32))] [(.int (1 : Int32))])
    refine OwnGo.st (fun _ k => XS.ifNo X79.here hx rfl (hb hby at_202) rfl ((if0 _ _).trans (feq ((by decide) : ¬ ((1 : Int32) = (0 : Int32)))).1) k) ?_
    show OwnGo p e below s _ _ _ T79 (mkF m 205 #[.val (.int p1), .val (.int p2), .val (.int p3), .val (.int p4), .val (.int p5), .val (.int (4 : Int32)), .val (.int y0), .val (.int y1), .val (.int y2), .val (.int y3), .val (.ref b66), .val (.ref t71), .val (.int (1 : Int32))] [])
    refine OwnGo.st (fun _ k => XS.iload X79.here hx rfl (hb hby at_205) rfl  k) ?_
    show OwnGo p e below s _ _ _ T79 (mkF m 207 #[.val (.int p1), .val (.int p2), .val (.int p3), .val (.int p4), .val (.int p5), .val (.int (4 : Int32)), .val (.int y0), .val (.int y1), .val (.int y2), .val (.int y3), .val (.ref b66), .val (.ref t71), .val (.int (1 : Int32))] [(.int (4 : Int32))])
    refine OwnGo.st (fun _ k => XS.iconst X79.here hx rfl (hb hby at_207) k) ?_
    show OwnGo p e below s _ _ _ T79 (mkF m 208 #[.val (.int p1), .val (.int p2), .val (.int p3), .val (.int p4), .val (.int p5), .val (.int (4 : Int32)), .val (.int y0), .val (.int y1), .val (.int y2), .val (.int y3), .val (.ref b66), .val (.ref t71), .val (.int (1 : Int32))] [(.int (1 : Int32)), (.int (4 : Int32))])
    refine OwnGo.st (fun _ k => XS.icmpNo X79.here hx rfl (hb hby at_208) rfl (tlt ((by decide) : (1 : Int32) < (4 : Int32))).2.2.2 k) ?_
    show OwnGo p e below s _ _ _ T79 (mkF m 211 #[.val (.int p1), .val (.int p2), .val (.int p3), .val (.int p4), .val (.int p5), .val (.int (4 : Int32)), .val (.int y0), .val (.int y1), .val (.int y2), .val (.int y3), .val (.ref b66), .val (.ref t71), .val (.int (1 : Int32))] [])
    refine OwnGo.st (fun _ k => XS.aload X79.here hx rfl (hb hby at_211) rfl rfl  k) ?_
    show OwnGo p e below s _ _ _ T79 (mkF m 213 #[.val (.int p1), .val (.int p2), .val (.int p3), .val (.int p4), .val (.int p5), .val (.int (4 : Int32)), .val (.int y0), .val (.int y1), .val (.int y2), .val (.int y3), .val (.ref b66), .val (.ref t71), .val (.int (1 : Int32))] [(.ref t71)])
    refine OwnGo.st (fun _ k => XS.iconst X79.here hx rfl (hb hby at_213) k) ?_
    show OwnGo p e below s _ _ _ T79 (mkF m 214 #[.val (.int p1), .val (.int p2), .val (.int p3), .val (.int p4), .val (.int p5), .val (.int (4 : Int32)), .val (.int y0), .val (.int y1), .val (.int y2), .val (.int y3), .val (.ref b66), .val (.ref t71), .val (.int (1 : Int32))] [(.int (1 : Int32)), (.ref t71)])
    obtain ⟨cq80, kq80, q80a, q80b, q80c⟩ := isOf hZ e79 E71
    obtain ⟨_, _, ⟨T80, L80, k80, n80⟩, -, X80, ⟨Lc80, hQ80, l80, y80, z80⟩, st80⟩ := X79.virtualBack hx (y := (⟨"com/example/cofferhand/cofferhand/nbt/ByteArrayTag", "get", "(I)B"⟩ : MethodName)) (z := (⟨"com/example/cofferhand/cofferhand/nbt/ByteArrayTag", "get", "(I)B"⟩ : MethodName)) hown (mvT hZ (hw _ (List.mem_of_getElem? (i := 39) rfl))) (mvT hZ (hw _ (List.mem_of_getElem? (i := 40) rfl))) (notFace_of_selects (args := #[]) (mvT hZ (hw _ (List.mem_of_getElem? (i := 42) rfl)))) (mvT hZ (hw _ (List.mem_of_getElem? (i := 42) rfl))) (mvT hZ (hw _ (List.mem_of_getElem? (i := 41) rfl))) (by decide) (backOf (W := 0) (rmget l Z a0 hw [] t71 c71 k66 (4 : Int32) [(.int y0), (.int y1), (.int y2), (.int y3)] (1 : Int32) y1 h75 n0 Z_ F71 V71 ⟨by decide, by decide⟩ rfl (by rw [hy1]; exact own_nb _)) hZ (hw _ (List.mem_of_getElem? (i := 43) rfl)) (hw _ (List.mem_of_getElem? (i := 4) rfl)) (by decide) (by decide)) q80a q80c (g := (mkF m 214 #[.val (.int p1), .val (.int p2), .val (.int p3), .val (.int p4), .val (.int p5), .val (.int (4 : Int32)), .val (.int y0), .val (.int y1), .val (.int y2), .val (.int y3), .val (.ref b66), .val (.ref t71), .val (.int (1 : Int32))] [(.int (1 : Int32)), (.ref t71)])) rfl (by rw [hml]; rfl) (Steps.refl _) (argsL := [(.int (1 : Int32))]) (rest := []) (lenOf pd_4 rfl) rfl (by show 2 * 0 + _ ≤ _; exact Nat.le_of_eq rfl) (hb hby at_214) (fun _ _ => ⟨rfl, e79, (by decide : 3 + 0 ≤ _), (by decide : 9 + 0 ≤ _)⟩)
    dsimp only [Pt.U, Pt.locs, Pt.cells, Pt.slots] at X80 l80 y80 z80 st80 hQ80
    subst l80 y80 z80
    obtain ⟨rfl, N80q, e80⟩ := hQ80
    have N80 := Fr.app N79 N80q
    refine OwnGo.st (fun _ k => st80.trans k) ?_
    show OwnGo p e below s _ _ _ T80 (mkF m 217 #[.val (.int p1), .val (.int p2), .val (.int p3), .val (.int p4), .val (.int p5), .val (.int (4 : Int32)), .val (.int y0), .val (.int y1), .val (.int y2), .val (.int y3), .val (.ref b66), .val (.ref t71), .val (.int (1 : Int32))] [(.int y1)])
    refine OwnGo.st (fun _ k => XS.iload X80.here hx rfl (hb hby at_217) rfl  k) ?_
    show OwnGo p e below s _ _ _ T80 (mkF m 219 #[.val (.int p1), .val (.int p2), .val (.int p3), .val (.int p4), .val (.int p5), .val (.int (4 : Int32)), .val (.int y0), .val (.int y1), .val (.int y2), .val (.int y3), .val (.ref b66), .val (.ref t71), .val (.int (1 : Int32))] [(.int y1), (.int y1)])
    refine OwnGo.st (fun _ k => XS.icmpNo X80.here hx rfl (hb hby at_219) rfl (teq (rfl : y1 = y1)).2 k) ?_
    show OwnGo p e below s _ _ _ T80 (mkF m 222 #[.val (.int p1), .val (.int p2), .val (.int p3), .val (.int p4), .val (.int p5), .val (.int (4 : Int32)), .val (.int y0), .val (.int y1), .val (.int y2), .val (.int y3), .val (.ref b66), .val (.ref t71), .val (.int (1 : Int32))] [])
    refine OwnGo.st (fun _ k => XS.iconst X80.here hx rfl (hb hby at_222) k) ?_
    show OwnGo p e below s _ _ _ T80 (mkF m 223 #[.val (.int p1), .val (.int p2), .val (.int p3), .val (.int p4), .val (.int p5), .val (.int (4 : Int32)), .val (.int y0), .val (.int y1), .val (.int y2), .val (.int y3), .val (.ref b66), .val (.ref t71), .val (.int (1 : Int32))] [(.int (1 : Int32))])
    refine OwnGo.st (fun _ k => XS.goto X80.here hx rfl (pc0 := 223) (pc' := 227) rfl (hb hby at_223) (by decide) (by decide) k) ?_
    show OwnGo p e below s _ _ _ T80 (mkF m 227 #[.val (.int p1), .val (.int p2), .val (.int p3), .val (.int p4), .val (.int p5), .val (.int (4 : Int32)), .val (.int y0), .val (.int y1), .val (.int y2), .val (.int y3), .val (.ref b66), .val (.ref t71), .val (.int (1 : Int32))] [(.int (1 : Int32))])
    refine OwnGo.st (fun _ k => XS.istore X80.here hx rfl (hb hby at_227) rfl (l' := #[.val (.int p1), .val (.int p2), .val (.int p3), .val (.int p4), .val (.int p5), .val (.int (4 : Int32)), .val (.int y0), .val (.int y1), .val (.int y2), .val (.int y3), .val (.ref b66), .val (.ref t71), .val (.int (1 : Int32))]) rfl k) ?_
    show OwnGo p e below s _ _ _ T80 (mkF m 229 #[.val (.int p1), .val (.int p2), .val (.int p3), .val (.int p4), .val (.int p5), .val (.int (4 : Int32)), .val (.int y0), .val (.int y1), .val (.int y2), .val (.int y3), .val (.ref b66), .val (.ref t71), .val (.int (1 : Int32))] [])
    refine OwnGo.st (fun _ k => XS.iload X80.here hx rfl (hb hby at_229) rfl  k) ?_
    show OwnGo p e below s _ _ _ T80 (mkF m 231 #[.val (.int p1), .val (.int p2), .val (.int p3), .val (.int p4), .val (.int p5), .val (.int (4 : Int32)), .val (.int y0), .val (.int y1), .val (.int y2), .val (.int y3), .val (.ref b66), .val (.ref t71), .val (.int (1 : Int32))] [(.int (1 : Int32))])
    refine OwnGo.st (fun _ k => XS.ifNo X80.here hx rfl (hb hby at_231) rfl ((if0 _ _).trans (feq ((by decide) : ¬ ((1 : Int32) = (0 : Int32)))).1) k) ?_
    show OwnGo p e below s _ _ _ T80 (mkF m 234 #[.val (.int p1), .val (.int p2), .val (.int p3), .val (.int p4), .val (.int p5), .val (.int (4 : Int32)), .val (.int y0), .val (.int y1), .val (.int y2), .val (.int y3), .val (.ref b66), .val (.ref t71), .val (.int (1 : Int32))] [])
    refine OwnGo.st (fun _ k => XS.iload X80.here hx rfl (hb hby at_234) rfl  k) ?_
    show OwnGo p e below s _ _ _ T80 (mkF m 236 #[.val (.int p1), .val (.int p2), .val (.int p3), .val (.int p4), .val (.int p5), .val (.int (4 : Int32)), .val (.int y0), .val (.int y1), .val (.int y2), .val (.int y3), .val (.ref b66), .val (.ref t71), .val (.int (1 : Int32))] [(.int (4 : Int32))])
    refine OwnGo.st (fun _ k => XS.iconst X80.here hx rfl (hb hby at_236) k) ?_
    show OwnGo p e below s _ _ _ T80 (mkF m 237 #[.val (.int p1), .val (.int p2), .val (.int p3), .val (.int p4), .val (.int p5), .val (.int (4 : Int32)), .val (.int y0), .val (.int y1), .val (.int y2), .val (.int y3), .val (.ref b66), .val (.ref t71), .val (.int (1 : Int32))] [(.int (2 : Int32)), (.int (4 : Int32))])
    refine OwnGo.st (fun _ k => XS.icmpNo X80.here hx rfl (hb hby at_237) rfl (tlt ((by decide) : (2 : Int32) < (4 : Int32))).2.2.2 k) ?_
    show OwnGo p e below s _ _ _ T80 (mkF m 240 #[.val (.int p1), .val (.int p2), .val (.int p3), .val (.int p4), .val (.int p5), .val (.int (4 : Int32)), .val (.int y0), .val (.int y1), .val (.int y2), .val (.int y3), .val (.ref b66), .val (.ref t71), .val (.int (1 : Int32))] [])
    refine OwnGo.st (fun _ k => XS.aload X80.here hx rfl (hb hby at_240) rfl rfl  k) ?_
    show OwnGo p e below s _ _ _ T80 (mkF m 242 #[.val (.int p1), .val (.int p2), .val (.int p3), .val (.int p4), .val (.int p5), .val (.int (4 : Int32)), .val (.int y0), .val (.int y1), .val (.int y2), .val (.int y3), .val (.ref b66), .val (.ref t71), .val (.int (1 : Int32))] [(.ref t71)])
    refine OwnGo.st (fun _ k => XS.iconst X80.here hx rfl (hb hby at_242) k) ?_
    show OwnGo p e below s _ _ _ T80 (mkF m 243 #[.val (.int p1), .val (.int p2), .val (.int p3), .val (.int p4), .val (.int p5), .val (.int (4 : Int32)), .val (.int y0), .val (.int y1), .val (.int y2), .val (.int y3), .val (.ref b66), .val (.ref t71), .val (.int (1 : Int32))] [(.int (2 : Int32)), (.ref t71)])
    obtain ⟨cq81, kq81, q81a, q81b, q81c⟩ := isOf hZ e80 E71
    obtain ⟨_, _, ⟨T81, L81, k81, n81⟩, -, X81, ⟨Lc81, hQ81, l81, y81, z81⟩, st81⟩ := X80.virtualBack hx (y := (⟨"com/example/cofferhand/cofferhand/nbt/ByteArrayTag", "get", "(I)B"⟩ : MethodName)) (z := (⟨"com/example/cofferhand/cofferhand/nbt/ByteArrayTag", "get", "(I)B"⟩ : MethodName)) hown (mvT hZ (hw _ (List.mem_of_getElem? (i := 39) rfl))) (mvT hZ (hw _ (List.mem_of_getElem? (i := 40) rfl))) (notFace_of_selects (args := #[]) (mvT hZ (hw _ (List.mem_of_getElem? (i := 42) rfl)))) (mvT hZ (hw _ (List.mem_of_getElem? (i := 42) rfl))) (mvT hZ (hw _ (List.mem_of_getElem? (i := 41) rfl))) (by decide) (backOf (W := 0) (rmget l Z a0 hw [] t71 c71 k66 (4 : Int32) [(.int y0), (.int y1), (.int y2), (.int y3)] (2 : Int32) y2 h75 n0 Z_ F71 V71 ⟨by decide, by decide⟩ rfl (by rw [hy2]; exact own_nb _)) hZ (hw _ (List.mem_of_getElem? (i := 43) rfl)) (hw _ (List.mem_of_getElem? (i := 4) rfl)) (by decide) (by decide)) q81a q81c (g := (mkF m 243 #[.val (.int p1), .val (.int p2), .val (.int p3), .val (.int p4), .val (.int p5), .val (.int (4 : Int32)), .val (.int y0), .val (.int y1), .val (.int y2), .val (.int y3), .val (.ref b66), .val (.ref t71), .val (.int (1 : Int32))] [(.int (2 : Int32)), (.ref t71)])) rfl (by rw [hml]; rfl) (Steps.refl _) (argsL := [(.int (2 : Int32))]) (rest := []) (lenOf pd_4 rfl) rfl (by show 2 * 0 + _ ≤ _; exact Nat.le_of_eq rfl) (hb hby at_243) (fun _ _ => ⟨rfl, e80, (by decide : 3 + 0 ≤ _), (by decide : 9 + 0 ≤ _)⟩)
    dsimp only [Pt.U, Pt.locs, Pt.cells, Pt.slots] at X81 l81 y81 z81 st81 hQ81
    subst l81 y81 z81
    obtain ⟨rfl, N81q, e81⟩ := hQ81
    have N81 := Fr.app N80 N81q
    refine OwnGo.st (fun _ k => st81.trans k) ?_
    show OwnGo p e below s _ _ _ T81 (mkF m 246 #[.val (.int p1), .val (.int p2), .val (.int p3), .val (.int p4), .val (.int p5), .val (.int (4 : Int32)), .val (.int y0), .val (.int y1), .val (.int y2), .val (.int y3), .val (.ref b66), .val (.ref t71), .val (.int (1 : Int32))] [(.int y2)])
    refine OwnGo.st (fun _ k => XS.iload X81.here hx rfl (hb hby at_246) rfl  k) ?_
    show OwnGo p e below s _ _ _ T81 (mkF m 248 #[.val (.int p1), .val (.int p2), .val (.int p3), .val (.int p4), .val (.int p5), .val (.int (4 : Int32)), .val (.int y0), .val (.int y1), .val (.int y2), .val (.int y3), .val (.ref b66), .val (.ref t71), .val (.int (1 : Int32))] [(.int y2), (.int y2)])
    refine OwnGo.st (fun _ k => XS.icmpNo X81.here hx rfl (hb hby at_248) rfl (teq (rfl : y2 = y2)).2 k) ?_
    show OwnGo p e below s _ _ _ T81 (mkF m 251 #[.val (.int p1), .val (.int p2), .val (.int p3), .val (.int p4), .val (.int p5), .val (.int (4 : Int32)), .val (.int y0), .val (.int y1), .val (.int y2), .val (.int y3), .val (.ref b66), .val (.ref t71), .val (.int (1 : Int32))] [])
    refine OwnGo.st (fun _ k => XS.iconst X81.here hx rfl (hb hby at_251) k) ?_
    show OwnGo p e below s _ _ _ T81 (mkF m 252 #[.val (.int p1), .val (.int p2), .val (.int p3), .val (.int p4), .val (.int p5), .val (.int (4 : Int32)), .val (.int y0), .val (.int y1), .val (.int y2), .val (.int y3), .val (.ref b66), .val (.ref t71), .val (.int (1 : Int32))] [(.int (1 : Int32))])
    refine OwnGo.st (fun _ k => XS.goto X81.here hx rfl (pc0 := 252) (pc' := 256) rfl (hb hby at_252) (by decide) (by decide) k) ?_
    show OwnGo p e below s _ _ _ T81 (mkF m 256 #[.val (.int p1), .val (.int p2), .val (.int p3), .val (.int p4), .val (.int p5), .val (.int (4 : Int32)), .val (.int y0), .val (.int y1), .val (.int y2), .val (.int y3), .val (.ref b66), .val (.ref t71), .val (.int (1 : Int32))] [(.int (1 : Int32))])
    refine OwnGo.st (fun _ k => XS.istore X81.here hx rfl (hb hby at_256) rfl (l' := #[.val (.int p1), .val (.int p2), .val (.int p3), .val (.int p4), .val (.int p5), .val (.int (4 : Int32)), .val (.int y0), .val (.int y1), .val (.int y2), .val (.int y3), .val (.ref b66), .val (.ref t71), .val (.int (1 : Int32))]) rfl k) ?_
    show OwnGo p e below s _ _ _ T81 (mkF m 258 #[.val (.int p1), .val (.int p2), .val (.int p3), .val (.int p4), .val (.int p5), .val (.int (4 : Int32)), .val (.int y0), .val (.int y1), .val (.int y2), .val (.int y3), .val (.ref b66), .val (.ref t71), .val (.int (1 : Int32))] [])
    refine OwnGo.st (fun _ k => XS.iload X81.here hx rfl (hb hby at_258) rfl  k) ?_
    show OwnGo p e below s _ _ _ T81 (mkF m 260 #[.val (.int p1), .val (.int p2), .val (.int p3), .val (.int p4), .val (.int p5), .val (.int (4 : Int32)), .val (.int y0), .val (.int y1), .val (.int y2), .val (.int y3), .val (.ref b66), .val (.ref t71), .val (.int (1 : Int32))] [(.int (1 : Int32))])
    refine OwnGo.st (fun _ k => XS.ifNo X81.here hx rfl (hb hby at_260) rfl ((if0 _ _).trans (feq ((by decide) : ¬ ((1 : Int32) = (0 : Int32)))).1) k) ?_
    show OwnGo p e below s _ _ _ T81 (mkF m 263 #[.val (.int p1), .val (.int p2), .val (.int p3), .val (.int p4), .val (.int p5), .val (.int (4 : Int32)), .val (.int y0), .val (.int y1), .val (.int y2), .val (.int y3), .val (.ref b66), .val (.ref t71), .val (.int (1 : Int32))] [])
    refine OwnGo.st (fun _ k => XS.iload X81.here hx rfl (hb hby at_263) rfl  k) ?_
    show OwnGo p e below s _ _ _ T81 (mkF m 265 #[.val (.int p1), .val (.int p2), .val (.int p3), .val (.int p4), .val (.int p5), .val (.int (4 : Int32)), .val (.int y0), .val (.int y1), .val (.int y2), .val (.int y3), .val (.ref b66), .val (.ref t71), .val (.int (1 : Int32))] [(.int (4 : Int32))])
    refine OwnGo.st (fun _ k => XS.iconst X81.here hx rfl (hb hby at_265) k) ?_
    show OwnGo p e below s _ _ _ T81 (mkF m 266 #[.val (.int p1), .val (.int p2), .val (.int p3), .val (.int p4), .val (.int p5), .val (.int (4 : Int32)), .val (.int y0), .val (.int y1), .val (.int y2), .val (.int y3), .val (.ref b66), .val (.ref t71), .val (.int (1 : Int32))] [(.int (3 : Int32)), (.int (4 : Int32))])
    refine OwnGo.st (fun _ k => XS.icmpNo X81.here hx rfl (hb hby at_266) rfl (tlt ((by decide) : (3 : Int32) < (4 : Int32))).2.2.2 k) ?_
    show OwnGo p e below s _ _ _ T81 (mkF m 269 #[.val (.int p1), .val (.int p2), .val (.int p3), .val (.int p4), .val (.int p5), .val (.int (4 : Int32)), .val (.int y0), .val (.int y1), .val (.int y2), .val (.int y3), .val (.ref b66), .val (.ref t71), .val (.int (1 : Int32))] [])
    refine OwnGo.st (fun _ k => XS.aload X81.here hx rfl (hb hby at_269) rfl rfl  k) ?_
    show OwnGo p e below s _ _ _ T81 (mkF m 271 #[.val (.int p1), .val (.int p2), .val (.int p3), .val (.int p4), .val (.int p5), .val (.int (4 : Int32)), .val (.int y0), .val (.int y1), .val (.int y2), .val (.int y3), .val (.ref b66), .val (.ref t71), .val (.int (1 : Int32))] [(.ref t71)])
    refine OwnGo.st (fun _ k => XS.iconst X81.here hx rfl (hb hby at_271) k) ?_
    show OwnGo p e below s _ _ _ T81 (mkF m 272 #[.val (.int p1), .val (.int p2), .val (.int p3), .val (.int p4), .val (.int p5), .val (.int (4 : Int32)), .val (.int y0), .val (.int y1), .val (.int y2), .val (.int y3), .val (.ref b66), .val (.ref t71), .val (.int (1 : Int32))] [(.int (3 : Int32)), (.ref t71)])
    obtain ⟨cq82, kq82, q82a, q82b, q82c⟩ := isOf hZ e81 E71
    obtain ⟨_, _, ⟨T82, L82, k82, n82⟩, -, X82, ⟨Lc82, hQ82, l82, y82, z82⟩, st82⟩ := X81.virtualBack hx (y := (⟨"com/example/cofferhand/cofferhand/nbt/ByteArrayTag", "get", "(I)B"⟩ : MethodName)) (z := (⟨"com/example/cofferhand/cofferhand/nbt/ByteArrayTag", "get", "(I)B"⟩ : MethodName)) hown (mvT hZ (hw _ (List.mem_of_getElem? (i := 39) rfl))) (mvT hZ (hw _ (List.mem_of_getElem? (i := 40) rfl))) (notFace_of_selects (args := #[]) (mvT hZ (hw _ (List.mem_of_getElem? (i := 42) rfl)))) (mvT hZ (hw _ (List.mem_of_getElem? (i := 42) rfl))) (mvT hZ (hw _ (List.mem_of_getElem? (i := 41) rfl))) (by decide) (backOf (W := 0) (rmget l Z a0 hw [] t71 c71 k66 (4 : Int32) [(.int y0), (.int y1), (.int y2), (.int y3)] (3 : Int32) y3 h75 n0 Z_ F71 V71 ⟨by decide, by decide⟩ rfl (by rw [hy3]; exact own_nb _)) hZ (hw _ (List.mem_of_getElem? (i := 43) rfl)) (hw _ (List.mem_of_getElem? (i := 4) rfl)) (by decide) (by decide)) q82a q82c (g := (mkF m 272 #[.val (.int p1), .val (.int p2), .val (.int p3), .val (.int p4), .val (.int p5), .val (.int (4 : Int32)), .val (.int y0), .val (.int y1), .val (.int y2), .val (.int y3), .val (.ref b66), .val (.ref t71), .val (.int (1 : Int32))] [(.int (3 : Int32)), (.ref t71)])) rfl (by rw [hml]; rfl) (Steps.refl _) (argsL := [(.int (3 : Int32))]) (rest := []) (lenOf pd_4 rfl) rfl (by show 2 * 0 + _ ≤ _; exact Nat.le_of_eq rfl) (hb hby at_272) (fun _ _ => ⟨rfl, e81, (by decide : 3 + 0 ≤ _), (by decide : 9 + 0 ≤ _)⟩)
    dsimp only [Pt.U, Pt.locs, Pt.cells, Pt.slots] at X82 l82 y82 z82 st82 hQ82
    subst l82 y82 z82
    obtain ⟨rfl, N82q, e82⟩ := hQ82
    have N82 := Fr.app N81 N82q
    refine OwnGo.st (fun _ k => st82.trans k) ?_
    show OwnGo p e below s _ _ _ T82 (mkF m 275 #[.val (.int p1), .val (.int p2), .val (.int p3), .val (.int p4), .val (.int p5), .val (.int (4 : Int32)), .val (.int y0), .val (.int y1), .val (.int y2), .val (.int y3), .val (.ref b66), .val (.ref t71), .val (.int (1 : Int32))] [(.int y3)])
    refine OwnGo.st (fun _ k => XS.iload X82.here hx rfl (hb hby at_275) rfl  k) ?_
    show OwnGo p e below s _ _ _ T82 (mkF m 277 #[.val (.int p1), .val (.int p2), .val (.int p3), .val (.int p4), .val (.int p5), .val (.int (4 : Int32)), .val (.int y0), .val (.int y1), .val (.int y2), .val (.int y3), .val (.ref b66), .val (.ref t71), .val (.int (1 : Int32))] [(.int y3), (.int y3)])
    refine OwnGo.st (fun _ k => XS.icmpNo X82.here hx rfl (hb hby at_277) rfl (teq (rfl : y3 = y3)).2 k) ?_
    show OwnGo p e below s _ _ _ T82 (mkF m 280 #[.val (.int p1), .val (.int p2), .val (.int p3), .val (.int p4), .val (.int p5), .val (.int (4 : Int32)), .val (.int y0), .val (.int y1), .val (.int y2), .val (.int y3), .val (.ref b66), .val (.ref t71), .val (.int (1 : Int32))] [])
    refine OwnGo.st (fun _ k => XS.iconst X82.here hx rfl (hb hby at_280) k) ?_
    show OwnGo p e below s _ _ _ T82 (mkF m 281 #[.val (.int p1), .val (.int p2), .val (.int p3), .val (.int p4), .val (.int p5), .val (.int (4 : Int32)), .val (.int y0), .val (.int y1), .val (.int y2), .val (.int y3), .val (.ref b66), .val (.ref t71), .val (.int (1 : Int32))] [(.int (1 : Int32))])
    refine OwnGo.st (fun _ k => XS.goto X82.here hx rfl (pc0 := 281) (pc' := 285) rfl (hb hby at_281) (by decide) (by decide) k) ?_
    show OwnGo p e below s _ _ _ T82 (mkF m 285 #[.val (.int p1), .val (.int p2), .val (.int p3), .val (.int p4), .val (.int p5), .val (.int (4 : Int32)), .val (.int y0), .val (.int y1), .val (.int y2), .val (.int y3), .val (.ref b66), .val (.ref t71), .val (.int (1 : Int32))] [(.int (1 : Int32))])
    refine OwnGo.st (fun _ k => XS.istore X82.here hx rfl (hb hby at_285) rfl (l' := #[.val (.int p1), .val (.int p2), .val (.int p3), .val (.int p4), .val (.int p5), .val (.int (4 : Int32)), .val (.int y0), .val (.int y1), .val (.int y2), .val (.int y3), .val (.ref b66), .val (.ref t71), .val (.int (1 : Int32))]) rfl k) ?_
    show OwnGo p e below s _ _ _ T82 (mkF m 287 #[.val (.int p1), .val (.int p2), .val (.int p3), .val (.int p4), .val (.int p5), .val (.int (4 : Int32)), .val (.int y0), .val (.int y1), .val (.int y2), .val (.int y3), .val (.ref b66), .val (.ref t71), .val (.int (1 : Int32))] [])
    refine OwnGo.st (fun _ k => XS.iload X82.here hx rfl (hb hby at_287) rfl  k) ?_
    show OwnGo p e below s _ _ _ T82 (mkF m 289 #[.val (.int p1), .val (.int p2), .val (.int p3), .val (.int p4), .val (.int p5), .val (.int (4 : Int32)), .val (.int y0), .val (.int y1), .val (.int y2), .val (.int y3), .val (.ref b66), .val (.ref t71), .val (.int (1 : Int32))] [(.int (1 : Int32))])
    exact OwnGo.retN X82 hx (t := .boolean) hret hlk (by simp) (hb hby at_289) (by show Q0 Z p1 p2 p3 p4 p5 u_TagType_BYTE_ARRAY h0 n0 _ T82.heap _; rw [e82]; exact ⟨rfl, N82⟩) (by decide) (by decide)
set_option maxRecDepth 65536 in
set_option maxHeartbeats 40000000 in
theorem comes_1 {Post : Tables → Env → Array Value → State → Outcome → State → Prop} (hpost : ∀ tb e args s v u, (limb_1_1.after args s (.returned v) u = true ∧ limb_1_2.after args s (.returned v) u = true ∧ True) → FrameEnd s (.returned v) u (Jvm.fieldLocs frame_1_writes args s ++ Jvm.arrayLocs frame_1_arrays args s ++ Jvm.staticLocs frame_1_statics s) 16 128 → Post tb e args s (.returned v) u) :
    ArmFor flags0 classFile x code maxLocals ret World_1 tables_1 room_1 Calls_1 rest_1 Pre_1 Post := by
  intro l hfl _ _ p e ha hc hk s m args below hf hA hF happ hP
  obtain ⟨hcalls, hrest, hpre⟩ := hP
  obtain ⟨-, -, -, hnamed, -, -, -, hat⟩ := (Spec.applies_iff hf).mp happ
  obtain ⟨hg, hn⟩ := and_e (Cond.before_iff.mp (show (Jvm.Cond.and given_1 narrow_1).before args s = true from hpre))
  obtain ⟨hcnt, hg⟩ := and_e hg
  obtain ⟨hg0, hg⟩ := and_e hg
  obtain ⟨hg1, hg⟩ := and_e hg
  obtain ⟨hg2, hg⟩ := and_e hg
  obtain ⟨hg3, hg⟩ := and_e hg
  have hg4 := hg
  obtain ⟨w0, w1, w2, w3, w4, rfl⟩ : ∃ w0 w1 w2 w3 w4 : Value, args = #[w0, w1, w2, w3, w4] := by
    have hs : args.size = 5 := by simpa [Cond.value, given_1] using hcnt
    obtain ⟨L⟩ := args
    match L, hs with
    | [w0, w1, w2, w3, w4], _ => exact ⟨w0, w1, w2, w3, w4, rfl⟩
  have hw := fun d (hd : d ∈ tables_1) => atoms_spec (ws := Jvm.Cond.code x code maxLocals ret :: tables_1) hat d (List.mem_cons_of_mem _ hd)
  have hfit : Fit s := fun {y c} hc i hi => by
    obtain ⟨ha, rfl⟩ := Array.getElem?_eq_some_iff.mp hc
    have q := List.all_eq_true.mp ((Array.all_eq_true_iff_forall_mem.mp hF) _ (Array.getElem_mem ha)) i (List.mem_range.mpr hi)
    simpa [Array.getElem?_eq_getElem hi] using q
  obtain ⟨i0, ei0⟩ := is_v hg0
  obtain rfl : w0 = (.int i0) := Option.some.inj ei0
  obtain ⟨i1, ei1⟩ := is_v hg1
  obtain rfl : w1 = (.int i1) := Option.some.inj ei1
  obtain ⟨i2, ei2⟩ := is_v hg2
  obtain rfl : w2 = (.int i2) := Option.some.inj ei2
  obtain ⟨i3, ei3⟩ := is_v hg3
  obtain rfl : w3 = (.int i3) := Option.some.inj ei3
  obtain ⟨i4, ei4⟩ := is_v hg4
  obtain rfl : w4 = (.int i4) := Option.some.inj ei4
  have nr0 := hn
  obtain ⟨u_TagType_BYTE_ARRAY, ev_u_TagType_BYTE_ARRAY⟩ := exa_v nr0
  have S_u_TagType_BYTE_ARRAY := Sta.start ev_u_TagType_BYTE_ARRAY (Or.inr ⟨(hw _ (List.mem_of_getElem? (i := 36) rfl)), (hw _ (List.mem_of_getElem? (i := 37) rfl))⟩)
  have E_u_TagType_BYTE_ARRAY := Exa.start ev_u_TagType_BYTE_ARRAY nr0
  obtain ⟨n, o, h1, h2, h3, _, L, rfl, ⟨rfl, N⟩, hq⟩ := rm0 l s _ hw tables_1 i0 i1 i2 i3 i4 u_TagType_BYTE_ARRAY s.heap s.heap.size (Nat.le_refl _) (Old.start s) S_u_TagType_BYTE_ARRAY E_u_TagType_BYTE_ARRAY  p e ha hc hk s m _ below hf ((Spec.applies_iff_loose hf).mp happ).1 ⟨rfl, State.Warmed39.refl s, rfl⟩ trivial
  refine ⟨n, _, h1, h2, h3, hpost _ _ _ _ _ _ ⟨Cond.after_iff.mpr rfl, Cond.after_iff.mpr (eq_i res_at (Term.int_eval (1)) rfl), trivial⟩ ⟨hq.1, hq.2.1, (hq.2.2.sift fun y hy => Or.inr (N y hy)).mono (by decide) (by decide)⟩⟩
theorem main_1_1 : Claimed_1_1 := comes_1 fun _ _ _ _ _ _ h hF => ⟨h.1, hF⟩
theorem main_1_2 : Claimed_1_2 := comes_1 fun _ _ _ _ _ _ h hF => ⟨h.2.1, hF⟩
end Jvm.Pilot.@@N@@
namespace Jvm.Pilot.@@N@@
open Jvm Jvm.ClassFile Sem Op Lib Jvm.Free Jvm.Stand Jvm.Pilot.@@N@@.Jvm.D
/-! MADE BY PROGRAM (witnessworld.py) out of the Statement's table words and the real class files: 14 classes; the members and pool entries that the words name. The judged class is class 1, her method 1. -/
namespace start1
open Jvm.ClassFile
def u (s : String) : CpInfo := .utf8 (stringToUtf16 s)
/-- a pool by its gaps: so many unusable entries, then the entry; so many at the end -/
def gap : Nat → List CpInfo → List CpInfo
  | 0, r => r
  | n + 1, r => .unusable :: gap n r
def poolList (es : List (Nat × CpInfo)) (last : Nat) : List CpInfo := es.foldr (fun e r => gap e.1 (e.2 :: r)) (gap last [])
def pool (es : List (Nat × CpInfo)) (last : Nat) : Array CpInfo := ⟨poolList es last⟩
def fileOf (pool : Array CpInfo) (this : Nat) (attrs : Array Attribute := #[]) (ms : Array MethodInfo := #[]) (fl : Nat := 33) (sup : Nat := 0) (ifs : Array Nat := #[]) (fds : Array FieldInfo := #[]) : ClassFile where
  minorVersion := 0
  majorVersion := 65
  constantPool := pool
  accessFlags := fl
  thisClass := this
  superClass := sup
  interfaces := ifs
  fields := fds
  methods := ms
  attributes := attrs
def plain (name : String) (sup : Option ClassId) : Class where
  name := name
  kind := .ordinary
  loader := none
  accessFlags := 33
  super := sup
  interfaces := #[]
  cf := none
  fields := #[]
  methods := #[]
  instanceTypes := #[]
  staticTypes := #[]
  resolved := #[]
  callSites := []
  init := .initialized
  statics := none
  mirror := none

def pool0 : Array CpInfo := pool [(5, u "<init>"), (0, u "()V"), (1, .class_ 10), (1, u "java/lang/Object"), (85, u "clone"), (0, u "()Ljava/lang/Object;")] 26

def k0c0 : Code := { maxStack := 0, maxLocals := 1, code := object_method_1_code, exceptionTable := #[], attributes := #[] }
def k0m0 : Method := { name := "<init>", desc := "()V", sig := { parameters := [], returnType := none }, accessFlags := 1, code := some k0c0 }
def k0m1 : Method := { name := "clone", desc := "()Ljava/lang/Object;", sig := { parameters := [], returnType := some (.object "java/lang/Object") }, accessFlags := 260, code := none }
/-- java/lang/Object -/
def k0 : Class := { plain "java/lang/Object" none with
  accessFlags := 33
  interfaces := #[]
  cf := some (fileOf pool0 8 #[] #[{ accessFlags := 1, nameIndex := 5, descriptorIndex := 6, attributes := #[] }, { accessFlags := 260, nameIndex := 96, descriptorIndex := 97, attributes := #[] }] 33 0 #[] #[])
  fields := #[]
  methods := #[k0m0, k0m1]
  instanceTypes := #[]
  staticTypes := #[]
  resolved := Array.replicate 124 none
  statics := none }

def pool1 : Array CpInfo := pool [(2, .class_ 4), (1, u "java/lang/Object"), (0, u "<init>"), (0, u "()V"), (0, .integer 2147483647), (0, .methodref 9 10), (0, .class_ 11), (0, .nameAndType 12 13), (0, u "com/example/cofferhand/cofferhand/nbt/ByteArrayTag"), (0, u "of"), (0, u "([B)Lcom/example/cofferhand/cofferhand/nbt/ByteArrayTag;"), (0, .methodref 9 15), (0, .nameAndType 16 17), (0, u "length"), (0, u "()I"), (0, .methodref 9 19), (0, .nameAndType 20 21), (0, u "type"), (0, u "()Lcom/example/cofferhand/cofferhand/nbt/TagType;"), (0, .fieldref 23 24), (0, .class_ 25), (0, .nameAndType 26 27), (0, u "com/example/cofferhand/cofferhand/nbt/TagType"), (0, u "BYTE_ARRAY"), (0, u "Lcom/example/cofferhand/cofferhand/nbt/TagType;"), (0, .methodref 9 29), (0, .nameAndType 30 31), (0, u "get"), (0, u "(I)B"), (0, .class_ 33), (0, u "com/example/cofferhand/cofferhand/nbt/ByteArrayTagOfPinLaw"), (2, u "law"), (0, u "(IIIII)Z")] 5

def k1m0 : Method := { name := "<init>", desc := "()V", sig := { parameters := [], returnType := none }, accessFlags := 1, code := none }
def k1c1 : Code := { maxStack := 4, maxLocals := 13, code := code, exceptionTable := #[], attributes := #[] }
def k1m1 : Method := { name := "law", desc := "(IIIII)Z", sig := { parameters := [.int, .int, .int, .int, .int], returnType := some .boolean }, accessFlags := 9, code := some k1c1 }
/-- com/example/cofferhand/cofferhand/nbt/ByteArrayTagOfPinLaw -/
def k1 : Class := { plain "com/example/cofferhand/cofferhand/nbt/ByteArrayTagOfPinLaw" (some 0) with
  accessFlags := 49
  interfaces := #[]
  cf := some (fileOf pool1 32 #[] #[{ accessFlags := 1, nameIndex := 5, descriptorIndex := 6, attributes := #[] }, { accessFlags := 9, nameIndex := 36, descriptorIndex := 37, attributes := #[] }] 49 2 #[] #[])
  fields := #[]
  methods := #[k1m0, k1m1]
  instanceTypes := #[]
  staticTypes := #[]
  resolved := Array.replicate 43 none
  statics := none }

def pool2 : Array CpInfo := pool [(1, .class_ 2), (0, u "com/example/cofferhand/cofferhand/nbt/Tag"), (0, .class_ 4), (0, u "java/lang/Object")] 29

/-- com/example/cofferhand/cofferhand/nbt/Tag -/
def k2 : Class := { plain "com/example/cofferhand/cofferhand/nbt/Tag" (some 0) with
  accessFlags := 1537
  interfaces := #[]
  cf := some (fileOf pool2 1 #[] #[] 1537 3 #[] #[])
  fields := #[]
  methods := #[]
  instanceTypes := #[]
  staticTypes := #[]
  resolved := Array.replicate 34 none
  statics := none }

def pool3 : Array CpInfo := pool [(1, .methodref 2 3), (0, .class_ 4), (0, .nameAndType 5 6), (0, u "java/lang/Object"), (0, u "<init>"), (0, u "()V"), (0, .fieldref 8 9), (0, .class_ 10), (0, .nameAndType 11 12), (0, u "com/example/cofferhand/cofferhand/nbt/ByteArrayTag"), (0, u "values"), (0, u "[B"), (0, .methodref 14 15), (0, .class_ 12), (0, .nameAndType 16 17), (0, u "clone"), (0, u "()Ljava/lang/Object;"), (0, .methodref 8 19), (0, .nameAndType 5 20), (0, u "([B)V"), (0, .fieldref 22 23), (0, .class_ 24), (0, .nameAndType 25 26), (0, u "com/example/cofferhand/cofferhand/nbt/TagType"), (0, u "BYTE_ARRAY"), (0, u "Lcom/example/cofferhand/cofferhand/nbt/TagType;"), (18, .class_ 46), (0, u "com/example/cofferhand/cofferhand/nbt/Tag"), (2, u "of"), (0, u "([B)Lcom/example/cofferhand/cofferhand/nbt/ByteArrayTag;"), (1, u "type"), (0, u "()Lcom/example/cofferhand/cofferhand/nbt/TagType;"), (0, u "length"), (0, u "()I"), (0, u "get"), (0, u "(I)B")] 22

def k3c0 : Code := { maxStack := 2, maxLocals := 2, code := prog_18_method_1_code, exceptionTable := #[], attributes := #[] }
def k3m0 : Method := { name := "<init>", desc := "([B)V", sig := { parameters := [(.array .byte)], returnType := none }, accessFlags := 2, code := some k3c0 }
def k3c1 : Code := { maxStack := 3, maxLocals := 1, code := prog_18_method_2_code, exceptionTable := #[], attributes := #[] }
def k3m1 : Method := { name := "of", desc := "([B)Lcom/example/cofferhand/cofferhand/nbt/ByteArrayTag;", sig := { parameters := [(.array .byte)], returnType := some (.object "com/example/cofferhand/cofferhand/nbt/ByteArrayTag") }, accessFlags := 137, code := some k3c1 }
def k3c2 : Code := { maxStack := 1, maxLocals := 1, code := prog_18_method_4_code, exceptionTable := #[], attributes := #[] }
def k3m2 : Method := { name := "type", desc := "()Lcom/example/cofferhand/cofferhand/nbt/TagType;", sig := { parameters := [], returnType := some (.object "com/example/cofferhand/cofferhand/nbt/TagType") }, accessFlags := 1, code := some k3c2 }
def k3c3 : Code := { maxStack := 1, maxLocals := 1, code := prog_18_method_5_code, exceptionTable := #[], attributes := #[] }
def k3m3 : Method := { name := "length", desc := "()I", sig := { parameters := [], returnType := some .int }, accessFlags := 1, code := some k3c3 }
def k3c4 : Code := { maxStack := 2, maxLocals := 2, code := prog_18_method_6_code, exceptionTable := #[], attributes := #[] }
def k3m4 : Method := { name := "get", desc := "(I)B", sig := { parameters := [.int], returnType := some .byte }, accessFlags := 1, code := some k3c4 }
/-- com/example/cofferhand/cofferhand/nbt/ByteArrayTag -/
def k3 : Class := { plain "com/example/cofferhand/cofferhand/nbt/ByteArrayTag" (some 0) with
  accessFlags := 49
  interfaces := #[2]
  cf := some (fileOf pool3 8 #[] #[{ accessFlags := 2, nameIndex := 5, descriptorIndex := 20, attributes := #[] }, { accessFlags := 137, nameIndex := 49, descriptorIndex := 50, attributes := #[] }, { accessFlags := 1, nameIndex := 52, descriptorIndex := 53, attributes := #[] }, { accessFlags := 1, nameIndex := 54, descriptorIndex := 55, attributes := #[] }, { accessFlags := 1, nameIndex := 56, descriptorIndex := 57, attributes := #[] }] 49 2 #[45] #[{ accessFlags := 18, nameIndex := 11, descriptorIndex := 12, attributes := #[] }])
  fields := #[{ name := "values", type := (.array .byte), accessFlags := 18, slot := 0, constantValue := 0 }]
  methods := #[k3m0, k3m1, k3m2, k3m3, k3m4]
  instanceTypes := #[(.array .byte)]
  staticTypes := #[]
  resolved := Array.replicate 80 none
  statics := none }

def pool4 : Array CpInfo := pool [(1, .class_ 2), (0, u "java/lang/Cloneable"), (0, .class_ 4), (0, u "java/lang/Object")] 2

/-- java/lang/Cloneable -/
def k4 : Class := { plain "java/lang/Cloneable" (some 0) with
  accessFlags := 1537
  interfaces := #[]
  cf := some (fileOf pool4 1 #[] #[] 1537 3 #[] #[])
  fields := #[]
  methods := #[]
  instanceTypes := #[]
  staticTypes := #[]
  resolved := Array.replicate 7 none
  statics := none }

def pool5 : Array CpInfo := pool [(1, .class_ 2), (0, u "java/lang/constant/Constable"), (0, .class_ 4), (0, u "java/lang/Object")] 6

/-- java/lang/constant/Constable -/
def k5 : Class := { plain "java/lang/constant/Constable" (some 0) with
  accessFlags := 1537
  interfaces := #[]
  cf := some (fileOf pool5 1 #[] #[] 1537 3 #[] #[])
  fields := #[]
  methods := #[]
  instanceTypes := #[]
  staticTypes := #[]
  resolved := Array.replicate 11 none
  statics := none }

def pool6 : Array CpInfo := pool [(1, .class_ 2), (0, u "java/lang/Comparable"), (0, .class_ 4), (0, u "java/lang/Object")] 7

/-- java/lang/Comparable -/
def k6 : Class := { plain "java/lang/Comparable" (some 0) with
  accessFlags := 1537
  interfaces := #[]
  cf := some (fileOf pool6 1 #[] #[] 1537 3 #[] #[])
  fields := #[]
  methods := #[]
  instanceTypes := #[]
  staticTypes := #[]
  resolved := Array.replicate 12 none
  statics := none }

def pool7 : Array CpInfo := pool [(1, .class_ 2), (0, u "java/io/Serializable"), (0, .class_ 4), (0, u "java/lang/Object")] 2

/-- java/io/Serializable -/
def k7 : Class := { plain "java/io/Serializable" (some 0) with
  accessFlags := 1537
  interfaces := #[]
  cf := some (fileOf pool7 1 #[] #[] 1537 3 #[] #[])
  fields := #[]
  methods := #[]
  instanceTypes := #[]
  staticTypes := #[]
  resolved := Array.replicate 7 none
  statics := none }

def pool8 : Array CpInfo := pool [(2, .class_ 4), (1, u "java/lang/Enum"), (0, u "name"), (0, u "Ljava/lang/String;"), (2, u "ordinal"), (0, u "I"), (1, .class_ 14), (1, u "java/lang/Object"), (4, u "hash"), (86, .class_ 108), (1, u "java/lang/Enum$EnumDesc"), (2, .class_ 112), (0, u "java/lang/constant/Constable"), (0, .class_ 114), (0, u "java/lang/Comparable"), (0, .class_ 116), (0, u "java/io/Serializable")] 87

/-- java/lang/Enum -/
def k8 : Class := { plain "java/lang/Enum" (some 0) with
  accessFlags := 1057
  interfaces := #[5, 6, 7]
  cf := some (fileOf pool8 2 #[.nestMembers #[106]] #[] 1057 12 #[111, 113, 115] #[{ accessFlags := 18, nameIndex := 5, descriptorIndex := 6, attributes := #[] }, { accessFlags := 18, nameIndex := 9, descriptorIndex := 10, attributes := #[] }, { accessFlags := 2, nameIndex := 19, descriptorIndex := 10, attributes := #[] }])
  fields := #[{ name := "name", type := (.object "java/lang/String"), accessFlags := 18, slot := 0, constantValue := 0 }, { name := "ordinal", type := .int, accessFlags := 18, slot := 1, constantValue := 0 }, { name := "hash", type := .int, accessFlags := 2, slot := 2, constantValue := 0 }]
  methods := #[]
  instanceTypes := #[(.object "java/lang/String"), .int, .int]
  staticTypes := #[]
  resolved := Array.replicate 204 none
  statics := none }

def pool9 : Array CpInfo := pool [(1, .class_ 2), (0, u "com/example/cofferhand/cofferhand/nbt/TagType"), (2, u "END"), (0, u "Lcom/example/cofferhand/cofferhand/nbt/TagType;"), (2, u "BYTE"), (2, u "SHORT"), (2, u "INT"), (2, u "LONG"), (2, u "FLOAT"), (2, u "DOUBLE"), (2, u "BYTE_ARRAY"), (2, u "STRING"), (2, u "LIST"), (2, u "COMPOUND"), (2, u "INT_ARRAY"), (2, u "LONG_ARRAY"), (2, u "$VALUES"), (0, u "[Lcom/example/cofferhand/cofferhand/nbt/TagType;"), (6, .class_ 55), (1, u "java/lang/Enum"), (8, u "id"), (0, u "I"), (2, u "minPayloadSize"), (2, u "BY_ID")] 63

/-- com/example/cofferhand/cofferhand/nbt/TagType -/
def k9 : Class := { plain "com/example/cofferhand/cofferhand/nbt/TagType" (some 8) with
  accessFlags := 16433
  interfaces := #[]
  cf := some (fileOf pool9 1 #[] #[] 16433 53 #[] #[{ accessFlags := 16409, nameIndex := 5, descriptorIndex := 6, attributes := #[] }, { accessFlags := 16409, nameIndex := 9, descriptorIndex := 6, attributes := #[] }, { accessFlags := 16409, nameIndex := 12, descriptorIndex := 6, attributes := #[] }, { accessFlags := 16409, nameIndex := 15, descriptorIndex := 6, attributes := #[] }, { accessFlags := 16409, nameIndex := 18, descriptorIndex := 6, attributes := #[] }, { accessFlags := 16409, nameIndex := 21, descriptorIndex := 6, attributes := #[] }, { accessFlags := 16409, nameIndex := 24, descriptorIndex := 6, attributes := #[] }, { accessFlags := 16409, nameIndex := 27, descriptorIndex := 6, attributes := #[] }, { accessFlags := 16409, nameIndex := 30, descriptorIndex := 6, attributes := #[] }, { accessFlags := 16409, nameIndex := 33, descriptorIndex := 6, attributes := #[] }, { accessFlags := 16409, nameIndex := 36, descriptorIndex := 6, attributes := #[] }, { accessFlags := 16409, nameIndex := 39, descriptorIndex := 6, attributes := #[] }, { accessFlags := 16409, nameIndex := 42, descriptorIndex := 6, attributes := #[] }, { accessFlags := 26, nameIndex := 71, descriptorIndex := 46, attributes := #[] }, { accessFlags := 18, nameIndex := 64, descriptorIndex := 65, attributes := #[] }, { accessFlags := 18, nameIndex := 68, descriptorIndex := 65, attributes := #[] }, { accessFlags := 4122, nameIndex := 45, descriptorIndex := 46, attributes := #[] }])
  fields := #[{ name := "END", type := (.object "com/example/cofferhand/cofferhand/nbt/TagType"), accessFlags := 16409, slot := 0, constantValue := 0 }, { name := "BYTE", type := (.object "com/example/cofferhand/cofferhand/nbt/TagType"), accessFlags := 16409, slot := 1, constantValue := 0 }, { name := "SHORT", type := (.object "com/example/cofferhand/cofferhand/nbt/TagType"), accessFlags := 16409, slot := 2, constantValue := 0 }, { name := "INT", type := (.object "com/example/cofferhand/cofferhand/nbt/TagType"), accessFlags := 16409, slot := 3, constantValue := 0 }, { name := "LONG", type := (.object "com/example/cofferhand/cofferhand/nbt/TagType"), accessFlags := 16409, slot := 4, constantValue := 0 }, { name := "FLOAT", type := (.object "com/example/cofferhand/cofferhand/nbt/TagType"), accessFlags := 16409, slot := 5, constantValue := 0 }, { name := "DOUBLE", type := (.object "com/example/cofferhand/cofferhand/nbt/TagType"), accessFlags := 16409, slot := 6, constantValue := 0 }, { name := "BYTE_ARRAY", type := (.object "com/example/cofferhand/cofferhand/nbt/TagType"), accessFlags := 16409, slot := 7, constantValue := 0 }, { name := "STRING", type := (.object "com/example/cofferhand/cofferhand/nbt/TagType"), accessFlags := 16409, slot := 8, constantValue := 0 }, { name := "LIST", type := (.object "com/example/cofferhand/cofferhand/nbt/TagType"), accessFlags := 16409, slot := 9, constantValue := 0 }, { name := "COMPOUND", type := (.object "com/example/cofferhand/cofferhand/nbt/TagType"), accessFlags := 16409, slot := 10, constantValue := 0 }, { name := "INT_ARRAY", type := (.object "com/example/cofferhand/cofferhand/nbt/TagType"), accessFlags := 16409, slot := 11, constantValue := 0 }, { name := "LONG_ARRAY", type := (.object "com/example/cofferhand/cofferhand/nbt/TagType"), accessFlags := 16409, slot := 12, constantValue := 0 }, { name := "BY_ID", type := (.array (.object "com/example/cofferhand/cofferhand/nbt/TagType")), accessFlags := 26, slot := 13, constantValue := 0 }, { name := "id", type := .int, accessFlags := 18, slot := 3, constantValue := 0 }, { name := "minPayloadSize", type := .int, accessFlags := 18, slot := 4, constantValue := 0 }, { name := "$VALUES", type := (.array (.object "com/example/cofferhand/cofferhand/nbt/TagType")), accessFlags := 4122, slot := 14, constantValue := 0 }]
  methods := #[]
  instanceTypes := #[(.object "java/lang/String"), .int, .int, .int, .int]
  staticTypes := #[(.object "com/example/cofferhand/cofferhand/nbt/TagType"), (.object "com/example/cofferhand/cofferhand/nbt/TagType"), (.object "com/example/cofferhand/cofferhand/nbt/TagType"), (.object "com/example/cofferhand/cofferhand/nbt/TagType"), (.object "com/example/cofferhand/cofferhand/nbt/TagType"), (.object "com/example/cofferhand/cofferhand/nbt/TagType"), (.object "com/example/cofferhand/cofferhand/nbt/TagType"), (.object "com/example/cofferhand/cofferhand/nbt/TagType"), (.object "com/example/cofferhand/cofferhand/nbt/TagType"), (.object "com/example/cofferhand/cofferhand/nbt/TagType"), (.object "com/example/cofferhand/cofferhand/nbt/TagType"), (.object "com/example/cofferhand/cofferhand/nbt/TagType"), (.object "com/example/cofferhand/cofferhand/nbt/TagType"), (.array (.object "com/example/cofferhand/cofferhand/nbt/TagType")), (.array (.object "com/example/cofferhand/cofferhand/nbt/TagType"))]
  resolved := Array.replicate 135 none
  statics := some 0 }

/-- the primitive byte -/
def k10 : Class := { plain "byte" none with kind := .primitive 'B', accessFlags := 0x411 }
/-- [B -/
def k11 : Class := { plain "[B" (some 0) with kind := .array 10 .byte, interfaces := #[4, 7], accessFlags := 1041 }

/-- the primitive int -/
def k12 : Class := { plain "int" none with kind := .primitive 'I', accessFlags := 0x411 }
/-- [I -/
def k13 : Class := { plain "[I" (some 0) with kind := .array 12 .int, interfaces := #[4, 7], accessFlags := 1041 }

def heap : Heap := #[{ cls := 9, slots := #[.null, .null, .null, .null, .null, .null, .null, .ref 1, .null, .null, .null, .null, .null, .null, .null], vm := .statics 9 },
  { cls := 9, slots := #[.null, .int 7, .int 0, .int 7, .int 0], vm := .none }]
def classes : Array Class := #[k0, k1, k2, k3, k4, k5, k6, k7, k8, k9, k10, k11, k12, k13]
def interned : List (Array UInt16 × Addr) := []
def slotsUsed : Nat := 20
def theMethod : MethodId := ⟨1, 1⟩
def args0 : Array Value := #[.int 3, .int 1, .int 2, .int 3, .int 4]
def aboutOver (below : List Frame) : State where
  vm := { classes := classes, interned := interned.toArray }
  heap := heap
  slotsUsed := slotsUsed
  threads := #[{ frames := .invoking theMethod args0 :: below }]
def below0 : List Frame := [.native { method := ⟨0, 0⟩, args := #[] }]
def about1 : State := aboutOver below0
def p0 : Program := .bare "" "" ""
def e0 : Env := launch0.env 0 0 0
theorem w_frames : about1.frames = Frame.invoking theMethod args0 :: below0 := rfl
set_option maxRecDepth 65536 in
theorem w_args : argsFit about1.vm theMethod args0 = true := by decide +kernel
set_option maxRecDepth 65536 in
theorem w_heap : heapFits about1 = true := by decide +kernel
set_option maxRecDepth 65536 in
theorem w_runnable : about1.curStatus? = some .runnable := by decide +kernel
set_option maxRecDepth 65536 in
theorem w_alone : about1.alone = true := by decide +kernel
set_option maxRecDepth 65536 in
theorem w_named : about1.methodNamed? x = some theMethod := by decide +kernel
set_option maxRecDepth 65536 in
theorem w_hears : about1.hears theMethod below0 = true := by decide +kernel
set_option maxRecDepth 65536 in
theorem w_ripe : about1.ripe theMethod args0 below0 = true := by decide +kernel
theorem w_running : about1.status = .running := rfl
set_option maxRecDepth 65536 in
theorem w_room : about1.hasRoom e0.platform room_1 = true :=
  launch0.hasRoom_least _ room_1 (by decide +kernel) (by decide +kernel) (by decide +kernel) (by decide +kernel) (by decide +kernel) (by decide +kernel)
theorem allAtoms_all (ts : List Jvm.Cond) (a : Array Jvm.Value) (st : Jvm.State) : (allAtoms ts).before a st = ts.all (fun c => c.before a st) := by
  induction ts with
  | nil => rfl
  | cons c t ih =>
    show (Jvm.Cond.and c (allAtoms t)).before a st = _
    rw [Jvm.Cond.before_and, ih, List.all_cons]
def words1 : List Jvm.Cond := Jvm.Cond.code x code maxLocals ret :: tables_1
/-- a 'code' word, met by the world's own term for the bytes: nothing is compared byte by byte -/
theorem code_word {y : MethodName} {bytes : ByteArray} {mx : Nat} {rt : Option FieldType} {a : Array Value} {s : State} {m : MethodId} {meth : Method} {c : Code} (h1 : s.methodNamed? y = some m) (h2 : s.vm.method? m = some meth) (h3 : meth.code = some c) (h4 : c.code = bytes)
    (h5 : (c.maxLocals == mx && c.exceptionTable.isEmpty && decide (c.maxStack ≤ mostOperands) && decide (meth.sig.returnType = rt) && !meth.locks && decide (parseMethodDescriptor y.desc = some meth.sig)) = true) : (Jvm.Cond.code y bytes mx rt).before a s = true := by
  simp only [Bool.and_eq_true, beq_iff_eq, Bool.not_eq_true', decide_eq_true_eq] at h5
  obtain ⟨⟨⟨⟨⟨g1, g2⟩, g3⟩, g4⟩, g5⟩, g6⟩ := h5
  simp [Cond.before, Cond.holds, Cond.value, h1, h2, h3, h4, g1, g2, g3, g4, g5, g6]
def isCode : Jvm.Cond → Bool
  | .code _ _ _ _ => true
  | _ => false
theorem all_split {L : List Jvm.Cond} {P : Jvm.Cond → Bool} (h1 : L.all (fun c => isCode c || P c) = true) (h2 : ∀ c ∈ L.filter isCode, P c = true) : L.all P = true := by
  refine List.all_eq_true.mpr fun c hc => ?_
  have h := List.all_eq_true.mp h1 c hc
  rcases Bool.eq_false_or_eq_true (isCode c) with hi | hi
  · exact h2 c (List.mem_filter.mpr ⟨hc, hi⟩)
  · simpa [hi] using h
set_option maxRecDepth 65536 in
theorem w_c0 : (Jvm.Cond.code x code maxLocals ret).before args0 about1 = true := code_word (m := ⟨1, 1⟩) (meth := k1m1) (c := k1c1) (by decide +kernel) rfl rfl rfl (by decide +kernel)
set_option maxRecDepth 65536 in
theorem w_c1 : (Jvm.Cond.code ({ cls := "com/example/cofferhand/cofferhand/nbt/ByteArrayTag", name := "of", desc := "([B)Lcom/example/cofferhand/cofferhand/nbt/ByteArrayTag;" } : Jvm.MethodName) prog_18_method_2_code (1 : Nat) (Option.some (Jvm.ClassFile.FieldType.object "com/example/cofferhand/cofferhand/nbt/ByteArrayTag"))).before args0 about1 = true := code_word (m := ⟨3, 1⟩) (meth := k3m1) (c := k3c1) (by decide +kernel) rfl rfl rfl (by decide +kernel)
set_option maxRecDepth 65536 in
theorem w_c2 : (Jvm.Cond.code ({ cls := "com/example/cofferhand/cofferhand/nbt/ByteArrayTag", name := "<init>", desc := "([B)V" } : Jvm.MethodName) prog_18_method_1_code (2 : Nat) (Option.none : Option Jvm.ClassFile.FieldType)).before args0 about1 = true := code_word (m := ⟨3, 0⟩) (meth := k3m0) (c := k3c0) (by decide +kernel) rfl rfl rfl (by decide +kernel)
set_option maxRecDepth 65536 in
theorem w_c3 : (Jvm.Cond.code ({ cls := "java/lang/Object", name := "<init>", desc := "()V" } : Jvm.MethodName) object_method_1_code (1 : Nat) (Option.none : Option Jvm.ClassFile.FieldType)).before args0 about1 = true := code_word (m := ⟨0, 0⟩) (meth := k0m0) (c := k0c0) (by decide +kernel) rfl rfl rfl (by decide +kernel)
set_option maxRecDepth 65536 in
theorem w_c4 : (Jvm.Cond.code ({ cls := "com/example/cofferhand/cofferhand/nbt/ByteArrayTag", name := "length", desc := "()I" } : Jvm.MethodName) prog_18_method_5_code (1 : Nat) (Option.some Jvm.ClassFile.FieldType.int)).before args0 about1 = true := code_word (m := ⟨3, 3⟩) (meth := k3m3) (c := k3c3) (by decide +kernel) rfl rfl rfl (by decide +kernel)
set_option maxRecDepth 65536 in
theorem w_c5 : (Jvm.Cond.code ({ cls := "com/example/cofferhand/cofferhand/nbt/ByteArrayTag", name := "type", desc := "()Lcom/example/cofferhand/cofferhand/nbt/TagType;" } : Jvm.MethodName) prog_18_method_4_code (1 : Nat) (Option.some (Jvm.ClassFile.FieldType.object "com/example/cofferhand/cofferhand/nbt/TagType"))).before args0 about1 = true := code_word (m := ⟨3, 2⟩) (meth := k3m2) (c := k3c2) (by decide +kernel) rfl rfl rfl (by decide +kernel)
set_option maxRecDepth 65536 in
theorem w_c6 : (Jvm.Cond.code ({ cls := "com/example/cofferhand/cofferhand/nbt/ByteArrayTag", name := "get", desc := "(I)B" } : Jvm.MethodName) prog_18_method_6_code (2 : Nat) (Option.some Jvm.ClassFile.FieldType.byte)).before args0 about1 = true := code_word (m := ⟨3, 4⟩) (meth := k3m4) (c := k3c4) (by decide +kernel) rfl rfl rfl (by decide +kernel)
def codes1 : List Jvm.Cond := [Jvm.Cond.code x code maxLocals ret, Jvm.Cond.code ({ cls := "com/example/cofferhand/cofferhand/nbt/ByteArrayTag", name := "of", desc := "([B)Lcom/example/cofferhand/cofferhand/nbt/ByteArrayTag;" } : Jvm.MethodName) prog_18_method_2_code (1 : Nat) (Option.some (Jvm.ClassFile.FieldType.object "com/example/cofferhand/cofferhand/nbt/ByteArrayTag")), Jvm.Cond.code ({ cls := "com/example/cofferhand/cofferhand/nbt/ByteArrayTag", name := "<init>", desc := "([B)V" } : Jvm.MethodName) prog_18_method_1_code (2 : Nat) (Option.none : Option Jvm.ClassFile.FieldType), Jvm.Cond.code ({ cls := "java/lang/Object", name := "<init>", desc := "()V" } : Jvm.MethodName) object_method_1_code (1 : Nat) (Option.none : Option Jvm.ClassFile.FieldType), Jvm.Cond.code ({ cls := "com/example/cofferhand/cofferhand/nbt/ByteArrayTag", name := "length", desc := "()I" } : Jvm.MethodName) prog_18_method_5_code (1 : Nat) (Option.some Jvm.ClassFile.FieldType.int), Jvm.Cond.code ({ cls := "com/example/cofferhand/cofferhand/nbt/ByteArrayTag", name := "type", desc := "()Lcom/example/cofferhand/cofferhand/nbt/TagType;" } : Jvm.MethodName) prog_18_method_4_code (1 : Nat) (Option.some (Jvm.ClassFile.FieldType.object "com/example/cofferhand/cofferhand/nbt/TagType")), Jvm.Cond.code ({ cls := "com/example/cofferhand/cofferhand/nbt/ByteArrayTag", name := "get", desc := "(I)B" } : Jvm.MethodName) prog_18_method_6_code (2 : Nat) (Option.some Jvm.ClassFile.FieldType.byte)]
set_option maxRecDepth 65536 in
theorem codes_eq : words1.filter isCode = codes1 := rfl
theorem w_codes : ∀ c ∈ words1.filter isCode, c.before args0 about1 = true := by
  rw [codes_eq]
  intro c hc
  simp only [codes1, List.mem_cons, List.not_mem_nil, or_false] at hc
  rcases hc with rfl | rfl | rfl | rfl | rfl | rfl | rfl
  · exact w_c0
  · exact w_c1
  · exact w_c2
  · exact w_c3
  · exact w_c4
  · exact w_c5
  · exact w_c6
set_option maxRecDepth 65536 in
theorem w_t1 : (words1.take 24).all (fun c => isCode c || c.before args0 about1) = true := by decide +kernel
set_option maxRecDepth 65536 in
theorem w_t2 : (words1.drop 24).all (fun c => isCode c || c.before args0 about1) = true := by decide +kernel
theorem w_tables : (allAtoms (Jvm.Cond.code x code maxLocals ret :: tables_1)).before args0 about1 = true := by
  rw [allAtoms_all]
  show words1.all (fun c => c.before args0 about1) = true
  refine all_split ?_ w_codes
  rw [← List.take_append_drop 24 words1, List.all_append, w_t1, w_t2]
  rfl
set_option maxRecDepth 65536 in
theorem w_case : (Jvm.Cond.and given_1 narrow_1).before args0 about1 = true := by decide +kernel
theorem w_applies : (headSpec (Jvm.Cond.code x code maxLocals ret :: tables_1) room_1).applies x e0.platform about1 = true :=
  (Spec.applies_iff w_frames).mpr ⟨w_running, w_runnable, w_alone, w_named, w_hears, w_ripe, w_room, w_tables⟩
theorem atStart : AtStart classFile x code maxLocals ret World_1 tables_1 room_1 Calls_1 rest_1 Pre_1 launch0 p0 e0 about1 theMethod args0 below0 :=
  ⟨lists_1, trivial, launch0.admits_env _ _ _, launch0.least_env, fairChoices_fair.cas, fairChoices_fair.clock, w_frames, w_args, w_heap, w_applies, trivial, trivial, w_case⟩
end start1
theorem witness_1 : WitnessClaimed_1 := ⟨start1.p0, start1.e0, start1.about1, start1.theMethod, start1.args0, start1.below0, start1.atStart⟩
end Jvm.Pilot.@@N@@
