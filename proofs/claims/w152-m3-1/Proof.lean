import JvmDerived
import JvmDerived.Pilot.@@N@@Statement
import JvmDerived.Pilot.@@N@@Code
set_option linter.unusedVariables false
set_option linter.unusedSimpArgs false
namespace Jvm.RoadKit
open Sem ClassFile Op Lib Jvm.Stand Jvm.Free Jvm.LawKit
section Own
variable {p : Program} {l : Launch} {e : Env} {R : Room} {s : State} {m : MethodId} {args : Array Value} {below : List Frame} {meth : Method} {c : Code} {T T' : State} {locs : List Loc} {cells slots rc rs : Nat} {Q : Option Value → Heap → List Loc → Prop} {g g' : JFrame}
/-- from the state T with the top frame g the run ends in a return of which Q is true -/
def OwnGo (p : Program) (e : Env) (below : List Frame) (s : State) (rc rs : Nat) (Q : Option Value → Heap → List Loc → Prop) (T : State) (g : JFrame) : Prop :=
  ∃ (U : State) (o : Outcome), Steps p.tables e below (T.setTop g) U ∧ U.status = .running ∧ Ended U below o ∧ ∃ v L, o = .returned v ∧ Q v U.heap L ∧ FrameEnd s o U L rc rs
theorem OwnGo.st (k : ∀ target, Steps p.tables e below (T'.setTop g') target → Steps p.tables e below (T.setTop g) target) (h : OwnGo p e below s rc rs Q T' g') : OwnGo p e below s rc rs Q T g := by
  obtain ⟨U, o, h1, h2⟩ := h
  exact ⟨U, o, k _ h1, h2⟩
theorem OwnGo.cast (q : g = g') (h : OwnGo p e below s rc rs Q T g') : OwnGo p e below s rc rs Q T g := q ▸ h
theorem OwnGo.ret (X : Stand p l e R s m args below meth c T locs cells slots) (hx : p.tables.exec = Jvm.exec) {pc : Nat} {Ls : Array Slot} {w : Value} {t : FieldType} {i : Instr} {rest : List Value} (hret : meth.sig.returnType = some t) (hlk : meth.locks = false) (hn : narrow t w = w)
    (hi : (i = .ireturn ∧ (t = .int ∨ t = .boolean ∨ t = .byte ∨ t = .char ∨ t = .short) ∧ ∃ z, w = .int z) ∨ (i = .lreturn ∧ t = .long ∧ ∃ z, w = .long z) ∨ (i = .dreturn ∧ t = .double ∧ ∃ z, w = .double z) ∨ (i = .freturn ∧ t = .float ∧ ∃ z, w = .float z) ∨ (i = .areturn ∧ t.isReference = true ∧ w.isRef = true))
    (hd : decode c.code pc = .ok (i, 1)) (hQ : Q (some w) T.heap locs) (hc : cells ≤ rc) (hs : slots ≤ rs) : OwnGo p e below s rc rs Q T (mkF m pc Ls (w :: rest)) := by
  obtain ⟨fs, hr, hrun, hended, hW, hsame⟩ := X.leave (v := some w) (fun h => by rw [hret] at h; cases h) hlk
  exact ⟨_, _, retOut X hx hret hn hi hd hr, hrun, hended, _, _, rfl, hQ, ⟨_, rfl⟩, hW, hsame.mono hc hs⟩
theorem OwnGo.retN (X : Stand p l e R s m args below meth c T locs cells slots) (hx : p.tables.exec = Jvm.exec) {pc : Nat} {Ls : Array Slot} {z : Int32} {t : FieldType} {rest : List Value} (hret : meth.sig.returnType = some t) (hlk : meth.locks = false) (ht : t = .boolean ∨ t = .byte ∨ t = .char ∨ t = .short)
    (hd : decode c.code pc = .ok (.ireturn, 1)) (hQ : Q (some (.int (nar t z))) T.heap locs) (hc : cells ≤ rc) (hs : slots ≤ rs) : OwnGo p e below s rc rs Q T (mkF m pc Ls (.int z :: rest)) := by
  obtain ⟨fs, hr, hrun, hended, hW, hsame⟩ := X.leave (v := some (.int (nar t z))) (fun h => by rw [hret] at h; cases h) hlk
  exact ⟨_, _, Jvm.RoadKit.retN X hx hret ht hd hr, hrun, hended, _, _, rfl, hQ, ⟨_, rfl⟩, hW, hsame.mono hc hs⟩
theorem OwnGo.retV (X : Stand p l e R s m args below meth c T locs cells slots) (hx : p.tables.exec = Jvm.exec) {pc : Nat} {Ls : Array Slot} (hret : meth.sig.returnType = none) (hlk : meth.locks = false)
    (hd : decode c.code pc = .ok (.return_, 1)) (hQ : Q none T.heap locs) (hc : cells ≤ rc) (hs : slots ≤ rs) : OwnGo p e below s rc rs Q T (mkF m pc Ls []) := by
  obtain ⟨fs, hr, hrun, hended, hW, hsame⟩ := X.leave (v := none) (fun _ => rfl) hlk
  exact ⟨_, _, X.returnOut hx hret hd hr, hrun, hended, _, _, rfl, hQ, ⟨_, rfl⟩, hW, hsame.mono hc hs⟩
theorem own_met {y : MethodName} {bytes : ByteArray} {maxL : Nat} {ret : Option FieldType} {ws : List Jvm.Cond} {rm : Room} {Z : State} {as' : Array Value} {h0 : Heap} (hp : plainFor y = true)
    (body : ∀ (p : Program) (e : Env) (s : State) (m : MethodId) (below : List Frame) (meth : Method) (c : Code) (s₁ : State), Stand p l e rm s m as' below meth c s₁ [] 0 0 → p.tables.exec = Jvm.exec → c.code = bytes → c.maxLocals = maxL → meth.sig.returnType = ret → meth.locks = false → s.vm.findClass y.cls = some m.cls → meth.name = y.name → Z.Warmed39 s.vm → s₁.heap = h0 →
      OwnGo p e below s rm.cells rm.slots Q s₁ (entryFrame m as' maxL)) :
    MetFree l y (head1 (Jvm.Cond.code y bytes maxL ret :: ws) rm) (fun a U => a = as' ∧ Z.Warmed39 U.vm ∧ U.heap = h0) (fun _ _ _ _ _ => True) (fun _ U o U' => ∃ v L, o = .returned v ∧ Q v U'.heap L ∧ FrameEnd U o U' L rm.cells rm.slots) := by
  refine MetFree.of_bodySF hp hisR ?_
  intro p e s m args below meth c s₁ Bd hml0 hP hK
  obtain ⟨rfl, hZ, hh⟩ := hP
  exact body p e s m below meth c s₁ (Stand.of_body Bd) Bd.exec Bd.bytes hml0 Bd.returns Bd.notSynchronized (findClass_of_methodNamed Bd.named) (name_of_methodNamed Bd.named Bd.method).1 hZ (by rw [← hh, Bd.state]; rfl)
theorem own_len {Z : State} {h : Heap} {a : Addr} {cl : Cell} {ty : FieldType} {z : Int32} (hZ : Z.Warmed39 s.vm) (q : cl.slots.size.toInt32 = z) (A : Arr Z h a cl ty) (X : Stand p l e R s m args below meth c T locs cells slots) (eT : T.heap = h) (hx : p.tables.exec = Jvm.exec) {rest : List Value}
    (hg : g.method = m) (hst : g.stack = .ref a :: rest) (hd : decode c.code g.pc = .ok (.arraylength, 1)) (target : State) (k : Steps p.tables e below (T.setTop { g with pc := g.pc + 1, stack := .int z :: rest }) target) : Steps p.tables e below (T.setTop g) target := by
  refine X.arraylength hx (by rw [eT]; exact A.1) (State.isArrayOf_alike hZ.alike A.2.1) hg hst hd _ ?_
  rw [q]; exact k
theorem own_eqi {args : Array Value} {first U : State} {o : Option Outcome} {idx : List Nat} {a : Term} {k : Int32} (h : (Jvm.Cond.eq a (.int k)).value args first o U idx = some true) : a.eval args first o idx U = some (.int k) := Cond.eq_int (b := .int k) (by simp only [Cond.holds, h]; rfl) rfl
theorem own_eqv {args : Array Value} {first U : State} {o : Option Outcome} {idx : List Nat} {a b : Term} {v : Value} (h : (Jvm.Cond.eq a b).value args first o U idx = some true) (hb : b.eval args first o idx U = some v) (hv : v.isRef = true) : a.eval args first o idx U = some v := by
  obtain ⟨x, y, h1, h2, k1, k2⟩ := cmp_v (Or.inl h)
  cases h2.symm.trans hb
  have hx : x.isRef = true := by cases x <;> cases v <;> simp [Kin, Value.isRef] at k1 k2 hv ⊢
  rw [h1, gotT (eq_R h1 h2 hx hv) h]
theorem own_lenv {Z : State} {args : Array Value} {t : Term} {a : Addr} {cl : Cell} {ty : FieldType} {z : Int32} (ev : t.eval args Z none [] Z = some (.ref a)) (A : Arr Z Z.heap a cl ty) (h : (Jvm.Cond.eq (.length t) (.int z)).value args Z none Z [] = some true) : cl.slots.size < 2 ^ 31 ∧ cl.slots.size.toInt32 = z := by
  have e := own_eqi h
  have hA := A.fin (Vm.Alike.refl _)
  refine ⟨SBG.length_lt ev hA e, ?_⟩
  obtain ⟨a', c', e1, e2, e3⟩ := Term.length_spec e
  cases ev.symm.trans e1
  cases hA.symm.trans e2
  exact (Value.int.inj e3).symm
theorem own_elem {Z : State} {args : Array Value} {t : Term} {a : Addr} {cl : Cell} {ty : FieldType} {k : Int32} {v : Value} (ev : t.eval args Z none [] Z = some (.ref a)) (A : Arr Z Z.heap a cl ty) (h : (Term.elem t (.int k)).eval args Z none [] Z = some v) : cl.slots[k.toNatClampNeg]? = some v := (elem_in h ev rfl A.1).2
theorem own_narR {w : Value} {t : FieldType} (h : w.isRef = true) (ht : t.isReference = true) : narrow t w = w := by
  cases w <;> simp [Value.isRef] at h <;> cases t <;> simp [FieldType.isReference] at ht <;> rfl
theorem own_cat {w : Value} (h : w.isRef = true) : w.category = 1 := by cases w <;> simp [Value.isRef] at h <;> rfl
/-- an array of n places, whatever they hold -/
def OwnArr (Z : State) (h : Heap) (a : Addr) (ty : FieldType) (n : Nat) : Prop := ∃ cl : Cell, Arr Z h a cl ty ∧ cl.slots.size = n
theorem OwnArr.lt {Z : State} {h : Heap} {a : Addr} {ty : FieldType} {n : Nat} (F : OwnArr Z h a ty n) : a < h.size := by obtain ⟨_, A, -⟩ := F; exact A.lt
theorem OwnArr.ext {Z : State} {h h' : Heap} {a : Addr} {ty : FieldType} {n : Nat} (F : OwnArr Z h a ty n) (E : Ext h h') : OwnArr Z h' a ty n := by obtain ⟨c, A, S⟩ := F; exact ⟨c, A.ext E, S⟩
theorem OwnArr.keep {Z : State} {h h' : Heap} {a : Addr} {ty : FieldType} {n : Nat} {ws : List Addr} (F : OwnArr Z h a ty n) (K : Keep h h' ws) : OwnArr Z h' a ty n := by
  obtain ⟨c, ⟨A1, ⟨q1, q2⟩, A3⟩, S⟩ := F
  obtain ⟨c', e1, e2, e3, e4⟩ := K.2.2 _ _ A1
  exact ⟨c', ⟨e1, ⟨by rw [e3]; exact q1, by rw [e2]; exact q2⟩, by rw [e3]; exact A3⟩, e4.trans S⟩
theorem OwnArr.wr {Z : State} {h h' : Heap} {a b : Addr} {ty : FieldType} {n sl : Nat} {v : Value} (F : OwnArr Z h a ty n) (W : Wr h h' b sl v) : OwnArr Z h' a ty n := F.keep (Keep.of_wr W)
theorem OwnArr.of {Z : State} {h : Heap} {a : Addr} {k : ClassId} {ty : FieldType} {z : Int32} {vs : List Value} {d : Value} (F : Arv Z h a k ty z vs d) : OwnArr Z h a ty z.toNatClampNeg := by obtain ⟨c, A, -, S, -⟩ := F; exact ⟨c, A, S⟩
theorem own_nb (x : Int32) : nar .byte x.toInt8.toInt32 = x.toInt8.toInt32 := by
  show (x.toInt8.toInt32).toInt8.toInt32 = _
  rw [Int8.toInt8_toInt32]
end Own
end Jvm.RoadKit
namespace Jvm.Pilot.@@N@@
open Jvm Jvm.ClassFile Sem Op Lib Jvm.Free Jvm.Stand Jvm.LawKit Jvm.RoadKit Bundle Jvm.Pilot.@@N@@.Jvm.D
theorem d1_0 : decode prog_55_method_4_code 0 = .ok (.aload_n 0, 1) := by decide +kernel
theorem d1_1 : decode prog_55_method_4_code 1 = .ok (.getstatic 36, 3) := by decide +kernel
theorem d1_4 : decode prog_55_method_4_code 4 = .ok (.if_acmp .ne 9, 3) := by decide +kernel
theorem d1_7 : decode prog_55_method_4_code 7 = .ok (.getstatic 3, 3) := by decide +kernel
theorem d1_10 : decode prog_55_method_4_code 10 = .ok (.goto 6, 3) := by decide +kernel
theorem d1_13 : decode prog_55_method_4_code 13 = .ok (.getstatic 7, 3) := by decide +kernel
theorem d1_16 : decode prog_55_method_4_code 16 = .ok (.areturn, 1) := by decide +kernel
theorem d2_0 : decode prog_55_method_5_code 0 = .ok (.aload_n 0, 1) := by decide +kernel
theorem d2_1 : decode prog_55_method_5_code 1 = .ok (.getfield 32, 3) := by decide +kernel
theorem d2_4 : decode prog_55_method_5_code 4 = .ok (.areturn, 1) := by decide +kernel
theorem d3_0 : decode prog_9_method_4_code 0 = .ok (.aload_n 0, 1) := by decide +kernel
theorem d3_1 : decode prog_9_method_4_code 1 = .ok (.getfield 29, 3) := by decide +kernel
theorem d3_4 : decode prog_9_method_4_code 4 = .ok (.areturn, 1) := by decide +kernel
theorem d4_0 : decode jdk_42_method_66_code 0 = .ok (.aload_n 0, 1) := by decide +kernel
theorem d4_1 : decode jdk_42_method_66_code 1 = .ok (.aload_n 1, 1) := by decide +kernel
theorem d4_2 : decode jdk_42_method_66_code 2 = .ok (.if_acmp .ne 5, 3) := by decide +kernel
theorem d4_5 : decode jdk_42_method_66_code 5 = .ok (.iconst 1, 1) := by decide +kernel
theorem d4_6 : decode jdk_42_method_66_code 6 = .ok (.ireturn, 1) := by decide +kernel
theorem pd_0 : parseMethodDescriptor "(Lcom/example/mapweft/mapweft/compare/Verdict;)Lcom/example/mapweft/mapweft/suite/Status;" = some ⟨[(.object "com/example/mapweft/mapweft/compare/Verdict")], some (.object "com/example/mapweft/mapweft/suite/Status")⟩ := by decide +kernel
theorem pd_1 : parseMethodDescriptor "()Ljava/lang/String;" = some ⟨[], some (.object "java/lang/String")⟩ := by decide +kernel
theorem pd_2 : parseMethodDescriptor "(Ljava/lang/Object;)Z" = some ⟨[(.object "java/lang/Object")], some .boolean⟩ := by decide +kernel
theorem pn_1 : plainName "com/example/mapweft/mapweft/suite/Status" = true := by first | (simp [plainName, overriddenIn]; done) | decide +kernel
theorem pn_3 : plainName "com/example/mapweft/mapweft/compare/Verdict" = true := by first | (simp [plainName, overriddenIn]; done) | decide +kernel
theorem pn_4 : plainName "java/lang/String" = true := by first | (simp [plainName, overriddenIn]; done) | decide +kernel
theorem pn_0 : plainName "com/example/mapweft/mapweft/suite/StatusOfPinLaw" = true := by first | (simp [plainName, overriddenIn]; done) | decide +kernel
theorem ef_ofN (m : MethodId) (x0 : Addr) : entryFrame m #[(.ref x0)] 1 = mkF m 0 #[.val (.ref x0)] [] := by first | (simp [entryFrame, mkF, argsToLocals, Value.category]; done) | rfl
theorem ef_ofM (m : MethodId) (x0 : Addr) : entryFrame m #[(.ref x0)] 1 = mkF m 0 #[.val (.ref x0)] [] := by first | (simp [entryFrame, mkF, argsToLocals, Value.category]; done) | rfl
theorem ef_2 (m : MethodId) (x0 : Addr) : entryFrame m #[(.ref x0)] 1 = mkF m 0 #[.val (.ref x0)] [] := by first | (simp [entryFrame, mkF, argsToLocals, Value.category]; done) | rfl
theorem ef_3 (m : MethodId) (x0 : Addr) : entryFrame m #[(.ref x0)] 1 = mkF m 0 #[.val (.ref x0)] [] := by first | (simp [entryFrame, mkF, argsToLocals, Value.category]; done) | rfl
theorem ef_4 (m : MethodId) (x0 : Addr) (x1 : Addr) : entryFrame m #[(.ref x0), (.ref x1)] 3 = mkF m 0 #[.val (.ref x0), .val (.ref x1), .unset] [] := by first | (simp [entryFrame, mkF, argsToLocals, Value.category]; done) | rfl
theorem ef_0 (m : MethodId) (x0 : Int32) : entryFrame m #[(.int x0)] maxLocals = mkF m 0 #[.val (.int x0), .unset, .unset, .unset, .unset] [] := by first | (simp [entryFrame, mkF, argsToLocals, Value.category, maxLocals]; done) | rfl
def QofN (Z : State) (u_Verdict_MESSAGES_DIFFER : Addr) (u_Status_MESSAGES_DIFFER : Addr) (u_Verdict_NO_DIFFERENCES : Addr) (u_Status_SKIPPED : Addr) (u_Status_MESSAGES_DIFFER_label : Addr) (u_Status_NO_DIFFERENCES : Addr) (u_Status_NO_DIFFERENCES_label : Addr) (u_Status_SKIPPED_label : Addr) (h0 : Heap) (n0 : Nat) (v : Option Value) (h : Heap) (L : List Loc) : Prop := v = some (.ref u_Status_NO_DIFFERENCES) ∧ Fr n0 L ∧ h = h0
set_option maxRecDepth 65536 in
set_option maxHeartbeats 40000000 in
theorem rmofN (l : Launch) (Z : State) (a0 : Array Value) (hw : ∀ d ∈ tables_1, d.before a0 Z = true) (ws : List Jvm.Cond) (u_Verdict_MESSAGES_DIFFER : Addr) (u_Status_MESSAGES_DIFFER : Addr) (u_Verdict_NO_DIFFERENCES : Addr) (u_Status_SKIPPED : Addr) (u_Status_MESSAGES_DIFFER_label : Addr) (u_Status_NO_DIFFERENCES : Addr) (u_Status_NO_DIFFERENCES_label : Addr) (u_Status_SKIPPED_label : Addr) (h0 : Heap) (n0 : Nat) (Z0 : n0 ≤ h0.size) (O_ : Old Z n0 h0) (S_u_Verdict_MESSAGES_DIFFER : Sta Z Z.heap "com/example/mapweft/mapweft/compare/Verdict" "MESSAGES_DIFFER" "Lcom/example/mapweft/mapweft/compare/Verdict;" (.ref u_Verdict_MESSAGES_DIFFER)) (E_u_Verdict_MESSAGES_DIFFER : Exa Z Z.heap u_Verdict_MESSAGES_DIFFER "com/example/mapweft/mapweft/compare/Verdict") (S_u_Status_MESSAGES_DIFFER : Sta Z Z.heap "com/example/mapweft/mapweft/suite/Status" "MESSAGES_DIFFER" "Lcom/example/mapweft/mapweft/suite/Status;" (.ref u_Status_MESSAGES_DIFFER)) (E_u_Status_MESSAGES_DIFFER : Exa Z Z.heap u_Status_MESSAGES_DIFFER "com/example/mapweft/mapweft/suite/Status") (S_u_Verdict_NO_DIFFERENCES : Sta Z Z.heap "com/example/mapweft/mapweft/compare/Verdict" "NO_DIFFERENCES" "Lcom/example/mapweft/mapweft/compare/Verdict;" (.ref u_Verdict_NO_DIFFERENCES)) (E_u_Verdict_NO_DIFFERENCES : Exa Z Z.heap u_Verdict_NO_DIFFERENCES "com/example/mapweft/mapweft/compare/Verdict") (F_u_Verdict_MESSAGES_DIFFER_ordinal : Fld Z Z.heap u_Verdict_MESSAGES_DIFFER "java/lang/Enum" "ordinal" "I" (.int (1 : Int32))) (F_u_Verdict_NO_DIFFERENCES_ordinal : Fld Z Z.heap u_Verdict_NO_DIFFERENCES "java/lang/Enum" "ordinal" "I" (.int (0 : Int32))) (S_u_Status_SKIPPED : Sta Z Z.heap "com/example/mapweft/mapweft/suite/Status" "SKIPPED" "Lcom/example/mapweft/mapweft/suite/Status;" (.ref u_Status_SKIPPED)) (E_u_Status_SKIPPED : Exa Z Z.heap u_Status_SKIPPED "com/example/mapweft/mapweft/suite/Status") (F_u_Status_MESSAGES_DIFFER_ordinal : Fld Z Z.heap u_Status_MESSAGES_DIFFER "java/lang/Enum" "ordinal" "I" (.int (1 : Int32))) (F_u_Status_SKIPPED_ordinal : Fld Z Z.heap u_Status_SKIPPED "java/lang/Enum" "ordinal" "I" (.int (2 : Int32))) (F_u_Status_MESSAGES_DIFFER_label : Fld Z Z.heap u_Status_MESSAGES_DIFFER "com/example/mapweft/mapweft/suite/Status" "label" "Ljava/lang/String;" (.ref u_Status_MESSAGES_DIFFER_label)) (E_u_Status_MESSAGES_DIFFER_label : Exa Z Z.heap u_Status_MESSAGES_DIFFER_label "java/lang/String") (F_u_Verdict_MESSAGES_DIFFER_label : Fld Z Z.heap u_Verdict_MESSAGES_DIFFER "com/example/mapweft/mapweft/compare/Verdict" "label" "Ljava/lang/String;" (.ref u_Status_MESSAGES_DIFFER_label)) (S_u_Status_NO_DIFFERENCES : Sta Z Z.heap "com/example/mapweft/mapweft/suite/Status" "NO_DIFFERENCES" "Lcom/example/mapweft/mapweft/suite/Status;" (.ref u_Status_NO_DIFFERENCES)) (E_u_Status_NO_DIFFERENCES : Exa Z Z.heap u_Status_NO_DIFFERENCES "com/example/mapweft/mapweft/suite/Status") (F_u_Status_NO_DIFFERENCES_ordinal : Fld Z Z.heap u_Status_NO_DIFFERENCES "java/lang/Enum" "ordinal" "I" (.int (0 : Int32))) (F_u_Status_NO_DIFFERENCES_label : Fld Z Z.heap u_Status_NO_DIFFERENCES "com/example/mapweft/mapweft/suite/Status" "label" "Ljava/lang/String;" (.ref u_Status_NO_DIFFERENCES_label)) (E_u_Status_NO_DIFFERENCES_label : Exa Z Z.heap u_Status_NO_DIFFERENCES_label "java/lang/String") (F_u_Verdict_NO_DIFFERENCES_label : Fld Z Z.heap u_Verdict_NO_DIFFERENCES "com/example/mapweft/mapweft/compare/Verdict" "label" "Ljava/lang/String;" (.ref u_Status_NO_DIFFERENCES_label)) (F_u_Status_SKIPPED_label : Fld Z Z.heap u_Status_SKIPPED "com/example/mapweft/mapweft/suite/Status" "label" "Ljava/lang/String;" (.ref u_Status_SKIPPED_label)) (E_u_Status_SKIPPED_label : Exa Z Z.heap u_Status_SKIPPED_label "java/lang/String") :
    MetFree l (⟨"com/example/mapweft/mapweft/suite/Status", "of", "(Lcom/example/mapweft/mapweft/compare/Verdict;)Lcom/example/mapweft/mapweft/suite/Status;"⟩ : MethodName) (head1 (Jvm.Cond.code (⟨"com/example/mapweft/mapweft/suite/Status", "of", "(Lcom/example/mapweft/mapweft/compare/Verdict;)Lcom/example/mapweft/mapweft/suite/Status;"⟩ : MethodName) prog_55_method_4_code 1 (some (.object "com/example/mapweft/mapweft/suite/Status")) :: ws) ({ frames := 0, cells := 0, slots := 0, locals := 0 } : Room)) (fun as_ U => as_ = #[(.ref u_Verdict_NO_DIFFERENCES)] ∧ Z.Warmed39 U.vm ∧ U.heap = h0) (fun _ _ _ _ _ => True) (fun _ U o U' => ∃ v L, o = .returned v ∧ (QofN Z u_Verdict_MESSAGES_DIFFER u_Status_MESSAGES_DIFFER u_Verdict_NO_DIFFERENCES u_Status_SKIPPED u_Status_MESSAGES_DIFFER_label u_Status_NO_DIFFERENCES u_Status_NO_DIFFERENCES_label u_Status_SKIPPED_label h0 n0) v U'.heap L ∧ FrameEnd U o U' L ({ frames := 0, cells := 0, slots := 0, locals := 0 } : Room).cells ({ frames := 0, cells := 0, slots := 0, locals := 0 } : Room).slots) := by
  refine own_met (plainFor_of_name pn_1) ?_
  intro p e s m below meth c s₁ X0 hx hby hml hret hlk hown hnm hZ e0
  have N0 := Fr.nil n0
  have Z_ := Z0
  refine OwnGo.cast (ef_ofN m u_Verdict_NO_DIFFERENCES) ?_
  show OwnGo p e below s _ _ _ s₁ (mkF m 0 #[.val (.ref u_Verdict_NO_DIFFERENCES)] [])
  refine OwnGo.st (fun _ k => XS.aloadN X0.here hx rfl (hb hby d1_0) rfl rfl  k) ?_
  show OwnGo p e below s _ _ _ s₁ (mkF m 1 #[.val (.ref u_Verdict_NO_DIFFERENCES)] [(.ref u_Verdict_NO_DIFFERENCES)])
  obtain ⟨T1, X1, e1, st1⟩ := getS2 X0 hx hZ hown (host := "") (Or.inl (hw _ (List.mem_of_getElem? (i := 9) rfl))) Via.refl e0 (S_u_Verdict_NO_DIFFERENCES.ext O_.2) (g := (mkF m 1 #[.val (.ref u_Verdict_NO_DIFFERENCES)] [(.ref u_Verdict_NO_DIFFERENCES)])) rfl (hb hby d1_1)
  refine OwnGo.st st1 ?_
  show OwnGo p e below s _ _ _ T1 (mkF m 4 #[.val (.ref u_Verdict_NO_DIFFERENCES)] [(.ref u_Verdict_NO_DIFFERENCES), (.ref u_Verdict_NO_DIFFERENCES)])
  refine OwnGo.st (fun _ k => Jvm.RoadKit.acmp (g := (mkF m 4 #[.val (.ref u_Verdict_NO_DIFFERENCES)] [(.ref u_Verdict_NO_DIFFERENCES), (.ref u_Verdict_NO_DIFFERENCES)])) X1 hx rfl rfl rfl (pc0 := 4) (pc' := 7) (same := true) rfl (hb hby d1_4) rfl (decide_eq_true rfl) (by decide) (by decide) k) ?_
  show OwnGo p e below s _ _ _ T1 (mkF m 7 #[.val (.ref u_Verdict_NO_DIFFERENCES)] [])
  obtain ⟨T2, X2, e2, st2⟩ := getS2 X1 hx hZ hown (host := "") (Or.inl (hw _ (List.mem_of_getElem? (i := 37) rfl))) Via.refl e1 (S_u_Status_NO_DIFFERENCES.ext O_.2) (g := (mkF m 7 #[.val (.ref u_Verdict_NO_DIFFERENCES)] [])) rfl (hb hby d1_7)
  refine OwnGo.st st2 ?_
  show OwnGo p e below s _ _ _ T2 (mkF m 10 #[.val (.ref u_Verdict_NO_DIFFERENCES)] [(.ref u_Status_NO_DIFFERENCES)])
  refine OwnGo.st (fun _ k => XS.goto X2.here hx rfl (pc0 := 10) (pc' := 16) rfl (hb hby d1_10) (by decide) (by decide) k) ?_
  show OwnGo p e below s _ _ _ T2 (mkF m 16 #[.val (.ref u_Verdict_NO_DIFFERENCES)] [(.ref u_Status_NO_DIFFERENCES)])
  exact OwnGo.ret X2 hx hret hlk rfl (Or.inr (Or.inr (Or.inr (Or.inr ⟨rfl, rfl, rfl⟩)))) (hb hby d1_16) (by show QofN Z u_Verdict_MESSAGES_DIFFER u_Status_MESSAGES_DIFFER u_Verdict_NO_DIFFERENCES u_Status_SKIPPED u_Status_MESSAGES_DIFFER_label u_Status_NO_DIFFERENCES u_Status_NO_DIFFERENCES_label u_Status_SKIPPED_label h0 n0 _ T2.heap _; rw [e2]; exact ⟨rfl, N0, rfl⟩) (by decide) (by decide)
def QofM (Z : State) (u_Verdict_MESSAGES_DIFFER : Addr) (u_Status_MESSAGES_DIFFER : Addr) (u_Verdict_NO_DIFFERENCES : Addr) (u_Status_SKIPPED : Addr) (u_Status_MESSAGES_DIFFER_label : Addr) (u_Status_NO_DIFFERENCES : Addr) (u_Status_NO_DIFFERENCES_label : Addr) (u_Status_SKIPPED_label : Addr) (h0 : Heap) (n0 : Nat) (v : Option Value) (h : Heap) (L : List Loc) : Prop := v = some (.ref u_Status_MESSAGES_DIFFER) ∧ Fr n0 L ∧ h = h0
set_option maxRecDepth 65536 in
set_option maxHeartbeats 40000000 in
theorem rmofM (l : Launch) (Z : State) (a0 : Array Value) (hw : ∀ d ∈ tables_1, d.before a0 Z = true) (ws : List Jvm.Cond) (u_Verdict_MESSAGES_DIFFER : Addr) (u_Status_MESSAGES_DIFFER : Addr) (u_Verdict_NO_DIFFERENCES : Addr) (u_Status_SKIPPED : Addr) (u_Status_MESSAGES_DIFFER_label : Addr) (u_Status_NO_DIFFERENCES : Addr) (u_Status_NO_DIFFERENCES_label : Addr) (u_Status_SKIPPED_label : Addr) (h0 : Heap) (n0 : Nat) (Z0 : n0 ≤ h0.size) (O_ : Old Z n0 h0) (S_u_Verdict_MESSAGES_DIFFER : Sta Z Z.heap "com/example/mapweft/mapweft/compare/Verdict" "MESSAGES_DIFFER" "Lcom/example/mapweft/mapweft/compare/Verdict;" (.ref u_Verdict_MESSAGES_DIFFER)) (E_u_Verdict_MESSAGES_DIFFER : Exa Z Z.heap u_Verdict_MESSAGES_DIFFER "com/example/mapweft/mapweft/compare/Verdict") (S_u_Status_MESSAGES_DIFFER : Sta Z Z.heap "com/example/mapweft/mapweft/suite/Status" "MESSAGES_DIFFER" "Lcom/example/mapweft/mapweft/suite/Status;" (.ref u_Status_MESSAGES_DIFFER)) (E_u_Status_MESSAGES_DIFFER : Exa Z Z.heap u_Status_MESSAGES_DIFFER "com/example/mapweft/mapweft/suite/Status") (S_u_Verdict_NO_DIFFERENCES : Sta Z Z.heap "com/example/mapweft/mapweft/compare/Verdict" "NO_DIFFERENCES" "Lcom/example/mapweft/mapweft/compare/Verdict;" (.ref u_Verdict_NO_DIFFERENCES)) (E_u_Verdict_NO_DIFFERENCES : Exa Z Z.heap u_Verdict_NO_DIFFERENCES "com/example/mapweft/mapweft/compare/Verdict") (F_u_Verdict_MESSAGES_DIFFER_ordinal : Fld Z Z.heap u_Verdict_MESSAGES_DIFFER "java/lang/Enum" "ordinal" "I" (.int (1 : Int32))) (F_u_Verdict_NO_DIFFERENCES_ordinal : Fld Z Z.heap u_Verdict_NO_DIFFERENCES "java/lang/Enum" "ordinal" "I" (.int (0 : Int32))) (S_u_Status_SKIPPED : Sta Z Z.heap "com/example/mapweft/mapweft/suite/Status" "SKIPPED" "Lcom/example/mapweft/mapweft/suite/Status;" (.ref u_Status_SKIPPED)) (E_u_Status_SKIPPED : Exa Z Z.heap u_Status_SKIPPED "com/example/mapweft/mapweft/suite/Status") (F_u_Status_MESSAGES_DIFFER_ordinal : Fld Z Z.heap u_Status_MESSAGES_DIFFER "java/lang/Enum" "ordinal" "I" (.int (1 : Int32))) (F_u_Status_SKIPPED_ordinal : Fld Z Z.heap u_Status_SKIPPED "java/lang/Enum" "ordinal" "I" (.int (2 : Int32))) (F_u_Status_MESSAGES_DIFFER_label : Fld Z Z.heap u_Status_MESSAGES_DIFFER "com/example/mapweft/mapweft/suite/Status" "label" "Ljava/lang/String;" (.ref u_Status_MESSAGES_DIFFER_label)) (E_u_Status_MESSAGES_DIFFER_label : Exa Z Z.heap u_Status_MESSAGES_DIFFER_label "java/lang/String") (F_u_Verdict_MESSAGES_DIFFER_label : Fld Z Z.heap u_Verdict_MESSAGES_DIFFER "com/example/mapweft/mapweft/compare/Verdict" "label" "Ljava/lang/String;" (.ref u_Status_MESSAGES_DIFFER_label)) (S_u_Status_NO_DIFFERENCES : Sta Z Z.heap "com/example/mapweft/mapweft/suite/Status" "NO_DIFFERENCES" "Lcom/example/mapweft/mapweft/suite/Status;" (.ref u_Status_NO_DIFFERENCES)) (E_u_Status_NO_DIFFERENCES : Exa Z Z.heap u_Status_NO_DIFFERENCES "com/example/mapweft/mapweft/suite/Status") (F_u_Status_NO_DIFFERENCES_ordinal : Fld Z Z.heap u_Status_NO_DIFFERENCES "java/lang/Enum" "ordinal" "I" (.int (0 : Int32))) (F_u_Status_NO_DIFFERENCES_label : Fld Z Z.heap u_Status_NO_DIFFERENCES "com/example/mapweft/mapweft/suite/Status" "label" "Ljava/lang/String;" (.ref u_Status_NO_DIFFERENCES_label)) (E_u_Status_NO_DIFFERENCES_label : Exa Z Z.heap u_Status_NO_DIFFERENCES_label "java/lang/String") (F_u_Verdict_NO_DIFFERENCES_label : Fld Z Z.heap u_Verdict_NO_DIFFERENCES "com/example/mapweft/mapweft/compare/Verdict" "label" "Ljava/lang/String;" (.ref u_Status_NO_DIFFERENCES_label)) (F_u_Status_SKIPPED_label : Fld Z Z.heap u_Status_SKIPPED "com/example/mapweft/mapweft/suite/Status" "label" "Ljava/lang/String;" (.ref u_Status_SKIPPED_label)) (E_u_Status_SKIPPED_label : Exa Z Z.heap u_Status_SKIPPED_label "java/lang/String") :
    MetFree l (⟨"com/example/mapweft/mapweft/suite/Status", "of", "(Lcom/example/mapweft/mapweft/compare/Verdict;)Lcom/example/mapweft/mapweft/suite/Status;"⟩ : MethodName) (head1 (Jvm.Cond.code (⟨"com/example/mapweft/mapweft/suite/Status", "of", "(Lcom/example/mapweft/mapweft/compare/Verdict;)Lcom/example/mapweft/mapweft/suite/Status;"⟩ : MethodName) prog_55_method_4_code 1 (some (.object "com/example/mapweft/mapweft/suite/Status")) :: ws) ({ frames := 0, cells := 0, slots := 0, locals := 0 } : Room)) (fun as_ U => as_ = #[(.ref u_Verdict_MESSAGES_DIFFER)] ∧ Z.Warmed39 U.vm ∧ U.heap = h0) (fun _ _ _ _ _ => True) (fun _ U o U' => ∃ v L, o = .returned v ∧ (QofM Z u_Verdict_MESSAGES_DIFFER u_Status_MESSAGES_DIFFER u_Verdict_NO_DIFFERENCES u_Status_SKIPPED u_Status_MESSAGES_DIFFER_label u_Status_NO_DIFFERENCES u_Status_NO_DIFFERENCES_label u_Status_SKIPPED_label h0 n0) v U'.heap L ∧ FrameEnd U o U' L ({ frames := 0, cells := 0, slots := 0, locals := 0 } : Room).cells ({ frames := 0, cells := 0, slots := 0, locals := 0 } : Room).slots) := by
  refine own_met (plainFor_of_name pn_1) ?_
  intro p e s m below meth c s₁ X0 hx hby hml hret hlk hown hnm hZ e0
  have N0 := Fr.nil n0
  have Z_ := Z0
  refine OwnGo.cast (ef_ofM m u_Verdict_MESSAGES_DIFFER) ?_
  show OwnGo p e below s _ _ _ s₁ (mkF m 0 #[.val (.ref u_Verdict_MESSAGES_DIFFER)] [])
  refine OwnGo.st (fun _ k => XS.aloadN X0.here hx rfl (hb hby d1_0) rfl rfl  k) ?_
  show OwnGo p e below s _ _ _ s₁ (mkF m 1 #[.val (.ref u_Verdict_MESSAGES_DIFFER)] [(.ref u_Verdict_MESSAGES_DIFFER)])
  obtain ⟨T3, X3, e3, st3⟩ := getS2 X0 hx hZ hown (host := "") (Or.inl (hw _ (List.mem_of_getElem? (i := 9) rfl))) Via.refl e0 (S_u_Verdict_NO_DIFFERENCES.ext O_.2) (g := (mkF m 1 #[.val (.ref u_Verdict_MESSAGES_DIFFER)] [(.ref u_Verdict_MESSAGES_DIFFER)])) rfl (hb hby d1_1)
  refine OwnGo.st st3 ?_
  show OwnGo p e below s _ _ _ T3 (mkF m 4 #[.val (.ref u_Verdict_MESSAGES_DIFFER)] [(.ref u_Verdict_NO_DIFFERENCES), (.ref u_Verdict_MESSAGES_DIFFER)])
  refine OwnGo.st (fun _ k => Jvm.RoadKit.acmp (g := (mkF m 4 #[.val (.ref u_Verdict_MESSAGES_DIFFER)] [(.ref u_Verdict_NO_DIFFERENCES), (.ref u_Verdict_MESSAGES_DIFFER)])) X3 hx rfl rfl rfl (pc0 := 4) (pc' := 13) (same := false) rfl (hb hby d1_4) rfl (decide_eq_false fun q => (Fld.ne F_u_Verdict_MESSAGES_DIFFER_ordinal F_u_Verdict_NO_DIFFERENCES_ordinal (by decide)) (Value.ref.inj q)) (by decide) (by decide) k) ?_
  show OwnGo p e below s _ _ _ T3 (mkF m 13 #[.val (.ref u_Verdict_MESSAGES_DIFFER)] [])
  obtain ⟨T4, X4, e4, st4⟩ := getS2 X3 hx hZ hown (host := "") (Or.inl (hw _ (List.mem_of_getElem? (i := 11) rfl))) Via.refl e3 (S_u_Status_MESSAGES_DIFFER.ext O_.2) (g := (mkF m 13 #[.val (.ref u_Verdict_MESSAGES_DIFFER)] [])) rfl (hb hby d1_13)
  refine OwnGo.st st4 ?_
  show OwnGo p e below s _ _ _ T4 (mkF m 16 #[.val (.ref u_Verdict_MESSAGES_DIFFER)] [(.ref u_Status_MESSAGES_DIFFER)])
  exact OwnGo.ret X4 hx hret hlk rfl (Or.inr (Or.inr (Or.inr (Or.inr ⟨rfl, rfl, rfl⟩)))) (hb hby d1_16) (by show QofM Z u_Verdict_MESSAGES_DIFFER u_Status_MESSAGES_DIFFER u_Verdict_NO_DIFFERENCES u_Status_SKIPPED u_Status_MESSAGES_DIFFER_label u_Status_NO_DIFFERENCES u_Status_NO_DIFFERENCES_label u_Status_SKIPPED_label h0 n0 _ T4.heap _; rw [e4]; exact ⟨rfl, N0, rfl⟩) (by decide) (by decide)
def Q2 (Z : State) (a : Addr) (b : Addr) (h0 : Heap) (n0 : Nat) (v : Option Value) (h : Heap) (L : List Loc) : Prop := v = some (.ref b) ∧ Fr n0 L ∧ h = h0
set_option maxRecDepth 65536 in
set_option maxHeartbeats 40000000 in
theorem rm2 (l : Launch) (Z : State) (a0 : Array Value) (hw : ∀ d ∈ tables_1, d.before a0 Z = true) (ws : List Jvm.Cond) (a : Addr) (b : Addr) (h0 : Heap) (n0 : Nat) (Z0 : n0 ≤ h0.size) (F : Fld Z h0 a "com/example/mapweft/mapweft/suite/Status" "label" "Ljava/lang/String;" (.ref b)) :
    MetFree l (⟨"com/example/mapweft/mapweft/suite/Status", "label", "()Ljava/lang/String;"⟩ : MethodName) (head1 (Jvm.Cond.code (⟨"com/example/mapweft/mapweft/suite/Status", "label", "()Ljava/lang/String;"⟩ : MethodName) prog_55_method_5_code 1 (some (.object "java/lang/String")) :: ws) ({ frames := 0, cells := 0, slots := 0, locals := 0 } : Room)) (fun as_ U => as_ = #[(.ref a)] ∧ Z.Warmed39 U.vm ∧ U.heap = h0) (fun _ _ _ _ _ => True) (fun _ U o U' => ∃ v L, o = .returned v ∧ (Q2 Z a b h0 n0) v U'.heap L ∧ FrameEnd U o U' L ({ frames := 0, cells := 0, slots := 0, locals := 0 } : Room).cells ({ frames := 0, cells := 0, slots := 0, locals := 0 } : Room).slots) := by
  refine own_met (plainFor_of_name pn_1) ?_
  intro p e s m below meth c s₁ X0 hx hby hml hret hlk hown hnm hZ e0
  have N0 := Fr.nil n0
  have Z_ := Z0
  refine OwnGo.cast (ef_2 m a) ?_
  show OwnGo p e below s _ _ _ s₁ (mkF m 0 #[.val (.ref a)] [])
  refine OwnGo.st (fun _ k => XS.aloadN X0.here hx rfl (hb hby d2_0) rfl rfl  k) ?_
  show OwnGo p e below s _ _ _ s₁ (mkF m 1 #[.val (.ref a)] [(.ref a)])
  obtain ⟨T5, X5, e5, st5⟩ := getF X0 hx hZ hown (host := "") (Or.inl (hw _ (List.mem_of_getElem? (i := 19) rfl))) Via.refl e0 F (g := (mkF m 1 #[.val (.ref a)] [(.ref a)])) rfl rfl (hb hby d2_1)
  refine OwnGo.st st5 ?_
  show OwnGo p e below s _ _ _ T5 (mkF m 4 #[.val (.ref a)] [(.ref b)])
  exact OwnGo.ret X5 hx hret hlk rfl (Or.inr (Or.inr (Or.inr (Or.inr ⟨rfl, rfl, rfl⟩)))) (hb hby d2_4) (by show Q2 Z a b h0 n0 _ T5.heap _; rw [e5]; exact ⟨rfl, N0, rfl⟩) (by decide) (by decide)
def Q3 (Z : State) (a : Addr) (b : Addr) (h0 : Heap) (n0 : Nat) (v : Option Value) (h : Heap) (L : List Loc) : Prop := v = some (.ref b) ∧ Fr n0 L ∧ h = h0
set_option maxRecDepth 65536 in
set_option maxHeartbeats 40000000 in
theorem rm3 (l : Launch) (Z : State) (a0 : Array Value) (hw : ∀ d ∈ tables_1, d.before a0 Z = true) (ws : List Jvm.Cond) (a : Addr) (b : Addr) (h0 : Heap) (n0 : Nat) (Z0 : n0 ≤ h0.size) (F : Fld Z h0 a "com/example/mapweft/mapweft/compare/Verdict" "label" "Ljava/lang/String;" (.ref b)) :
    MetFree l (⟨"com/example/mapweft/mapweft/compare/Verdict", "label", "()Ljava/lang/String;"⟩ : MethodName) (head1 (Jvm.Cond.code (⟨"com/example/mapweft/mapweft/compare/Verdict", "label", "()Ljava/lang/String;"⟩ : MethodName) prog_9_method_4_code 1 (some (.object "java/lang/String")) :: ws) ({ frames := 0, cells := 0, slots := 0, locals := 0 } : Room)) (fun as_ U => as_ = #[(.ref a)] ∧ Z.Warmed39 U.vm ∧ U.heap = h0) (fun _ _ _ _ _ => True) (fun _ U o U' => ∃ v L, o = .returned v ∧ (Q3 Z a b h0 n0) v U'.heap L ∧ FrameEnd U o U' L ({ frames := 0, cells := 0, slots := 0, locals := 0 } : Room).cells ({ frames := 0, cells := 0, slots := 0, locals := 0 } : Room).slots) := by
  refine own_met (plainFor_of_name pn_3) ?_
  intro p e s m below meth c s₁ X0 hx hby hml hret hlk hown hnm hZ e0
  have N0 := Fr.nil n0
  have Z_ := Z0
  refine OwnGo.cast (ef_3 m a) ?_
  show OwnGo p e below s _ _ _ s₁ (mkF m 0 #[.val (.ref a)] [])
  refine OwnGo.st (fun _ k => XS.aloadN X0.here hx rfl (hb hby d3_0) rfl rfl  k) ?_
  show OwnGo p e below s _ _ _ s₁ (mkF m 1 #[.val (.ref a)] [(.ref a)])
  obtain ⟨T6, X6, e6, st6⟩ := getF X0 hx hZ hown (host := "") (Or.inl (hw _ (List.mem_of_getElem? (i := 26) rfl))) Via.refl e0 F (g := (mkF m 1 #[.val (.ref a)] [(.ref a)])) rfl rfl (hb hby d3_1)
  refine OwnGo.st st6 ?_
  show OwnGo p e below s _ _ _ T6 (mkF m 4 #[.val (.ref a)] [(.ref b)])
  exact OwnGo.ret X6 hx hret hlk rfl (Or.inr (Or.inr (Or.inr (Or.inr ⟨rfl, rfl, rfl⟩)))) (hb hby d3_4) (by show Q3 Z a b h0 n0 _ T6.heap _; rw [e6]; exact ⟨rfl, N0, rfl⟩) (by decide) (by decide)
def Q4 (Z : State) (a : Addr) (h0 : Heap) (n0 : Nat) (v : Option Value) (h : Heap) (L : List Loc) : Prop := v = some (.int (1 : Int32)) ∧ Fr n0 L ∧ h = h0
set_option maxRecDepth 65536 in
set_option maxHeartbeats 40000000 in
theorem rm4 (l : Launch) (Z : State) (a0 : Array Value) (hw : ∀ d ∈ tables_1, d.before a0 Z = true) (ws : List Jvm.Cond) (a : Addr) (h0 : Heap) (n0 : Nat) (Z0 : n0 ≤ h0.size) :
    MetFree l (⟨"java/lang/String", "equals", "(Ljava/lang/Object;)Z"⟩ : MethodName) (head1 (Jvm.Cond.code (⟨"java/lang/String", "equals", "(Ljava/lang/Object;)Z"⟩ : MethodName) jdk_42_method_66_code 3 (some .boolean) :: ws) ({ frames := 0, cells := 0, slots := 0, locals := 0 } : Room)) (fun as_ U => as_ = #[(.ref a), (.ref a)] ∧ Z.Warmed39 U.vm ∧ U.heap = h0) (fun _ _ _ _ _ => True) (fun _ U o U' => ∃ v L, o = .returned v ∧ (Q4 Z a h0 n0) v U'.heap L ∧ FrameEnd U o U' L ({ frames := 0, cells := 0, slots := 0, locals := 0 } : Room).cells ({ frames := 0, cells := 0, slots := 0, locals := 0 } : Room).slots) := by
  refine own_met (plainFor_of_name pn_4) ?_
  intro p e s m below meth c s₁ X0 hx hby hml hret hlk hown hnm hZ e0
  have N0 := Fr.nil n0
  have Z_ := Z0
  refine OwnGo.cast (ef_4 m a a) ?_
  show OwnGo p e below s _ _ _ s₁ (mkF m 0 #[.val (.ref a), .val (.ref a), .unset] [])
  refine OwnGo.st (fun _ k => XS.aloadN X0.here hx rfl (hb hby d4_0) rfl rfl  k) ?_
  show OwnGo p e below s _ _ _ s₁ (mkF m 1 #[.val (.ref a), .val (.ref a), .unset] [(.ref a)])
  refine OwnGo.st (fun _ k => XS.aloadN X0.here hx rfl (hb hby d4_1) rfl rfl  k) ?_
  show OwnGo p e below s _ _ _ s₁ (mkF m 2 #[.val (.ref a), .val (.ref a), .unset] [(.ref a), (.ref a)])
  refine OwnGo.st (fun _ k => Jvm.RoadKit.acmp (g := (mkF m 2 #[.val (.ref a), .val (.ref a), .unset] [(.ref a), (.ref a)])) X0 hx rfl rfl rfl (pc0 := 2) (pc' := 5) (same := true) rfl (hb hby d4_2) rfl (decide_eq_true rfl) (by decide) (by decide) k) ?_
  show OwnGo p e below s _ _ _ s₁ (mkF m 5 #[.val (.ref a), .val (.ref a), .unset] [])
  refine OwnGo.st (fun _ k => XS.iconst X0.here hx rfl (hb hby d4_5) k) ?_
  show OwnGo p e below s _ _ _ s₁ (mkF m 6 #[.val (.ref a), .val (.ref a), .unset] [(.int (1 : Int32))])
  exact OwnGo.retN X0 hx (t := .boolean) hret hlk (by simp) (hb hby d4_6) (by show Q4 Z a h0 n0 _ s₁.heap _; rw [e0]; exact ⟨rfl, N0, rfl⟩) (by decide) (by decide)
def Q0 (Z : State) (p1 : Int32) (u_Verdict_MESSAGES_DIFFER : Addr) (u_Status_MESSAGES_DIFFER : Addr) (u_Verdict_NO_DIFFERENCES : Addr) (u_Status_SKIPPED : Addr) (u_Status_MESSAGES_DIFFER_label : Addr) (u_Status_NO_DIFFERENCES : Addr) (u_Status_NO_DIFFERENCES_label : Addr) (u_Status_SKIPPED_label : Addr) (h0 : Heap) (n0 : Nat) (v : Option Value) (h : Heap) (L : List Loc) : Prop := v = some (.int (1 : Int32)) ∧ Fr n0 L
set_option maxRecDepth 65536 in
set_option maxHeartbeats 40000000 in
theorem rm0 (l : Launch) (Z : State) (a0 : Array Value) (hw : ∀ d ∈ tables_1, d.before a0 Z = true) (ws : List Jvm.Cond) (p1 : Int32) (u_Verdict_MESSAGES_DIFFER : Addr) (u_Status_MESSAGES_DIFFER : Addr) (u_Verdict_NO_DIFFERENCES : Addr) (u_Status_SKIPPED : Addr) (u_Status_MESSAGES_DIFFER_label : Addr) (u_Status_NO_DIFFERENCES : Addr) (u_Status_NO_DIFFERENCES_label : Addr) (u_Status_SKIPPED_label : Addr) (h0 : Heap) (n0 : Nat) (Z0 : n0 ≤ h0.size) (O_ : Old Z n0 h0) (S_u_Verdict_MESSAGES_DIFFER : Sta Z Z.heap "com/example/mapweft/mapweft/compare/Verdict" "MESSAGES_DIFFER" "Lcom/example/mapweft/mapweft/compare/Verdict;" (.ref u_Verdict_MESSAGES_DIFFER)) (E_u_Verdict_MESSAGES_DIFFER : Exa Z Z.heap u_Verdict_MESSAGES_DIFFER "com/example/mapweft/mapweft/compare/Verdict") (S_u_Status_MESSAGES_DIFFER : Sta Z Z.heap "com/example/mapweft/mapweft/suite/Status" "MESSAGES_DIFFER" "Lcom/example/mapweft/mapweft/suite/Status;" (.ref u_Status_MESSAGES_DIFFER)) (E_u_Status_MESSAGES_DIFFER : Exa Z Z.heap u_Status_MESSAGES_DIFFER "com/example/mapweft/mapweft/suite/Status") (S_u_Verdict_NO_DIFFERENCES : Sta Z Z.heap "com/example/mapweft/mapweft/compare/Verdict" "NO_DIFFERENCES" "Lcom/example/mapweft/mapweft/compare/Verdict;" (.ref u_Verdict_NO_DIFFERENCES)) (E_u_Verdict_NO_DIFFERENCES : Exa Z Z.heap u_Verdict_NO_DIFFERENCES "com/example/mapweft/mapweft/compare/Verdict") (F_u_Verdict_MESSAGES_DIFFER_ordinal : Fld Z Z.heap u_Verdict_MESSAGES_DIFFER "java/lang/Enum" "ordinal" "I" (.int (1 : Int32))) (F_u_Verdict_NO_DIFFERENCES_ordinal : Fld Z Z.heap u_Verdict_NO_DIFFERENCES "java/lang/Enum" "ordinal" "I" (.int (0 : Int32))) (S_u_Status_SKIPPED : Sta Z Z.heap "com/example/mapweft/mapweft/suite/Status" "SKIPPED" "Lcom/example/mapweft/mapweft/suite/Status;" (.ref u_Status_SKIPPED)) (E_u_Status_SKIPPED : Exa Z Z.heap u_Status_SKIPPED "com/example/mapweft/mapweft/suite/Status") (F_u_Status_MESSAGES_DIFFER_ordinal : Fld Z Z.heap u_Status_MESSAGES_DIFFER "java/lang/Enum" "ordinal" "I" (.int (1 : Int32))) (F_u_Status_SKIPPED_ordinal : Fld Z Z.heap u_Status_SKIPPED "java/lang/Enum" "ordinal" "I" (.int (2 : Int32))) (F_u_Status_MESSAGES_DIFFER_label : Fld Z Z.heap u_Status_MESSAGES_DIFFER "com/example/mapweft/mapweft/suite/Status" "label" "Ljava/lang/String;" (.ref u_Status_MESSAGES_DIFFER_label)) (E_u_Status_MESSAGES_DIFFER_label : Exa Z Z.heap u_Status_MESSAGES_DIFFER_label "java/lang/String") (F_u_Verdict_MESSAGES_DIFFER_label : Fld Z Z.heap u_Verdict_MESSAGES_DIFFER "com/example/mapweft/mapweft/compare/Verdict" "label" "Ljava/lang/String;" (.ref u_Status_MESSAGES_DIFFER_label)) (S_u_Status_NO_DIFFERENCES : Sta Z Z.heap "com/example/mapweft/mapweft/suite/Status" "NO_DIFFERENCES" "Lcom/example/mapweft/mapweft/suite/Status;" (.ref u_Status_NO_DIFFERENCES)) (E_u_Status_NO_DIFFERENCES : Exa Z Z.heap u_Status_NO_DIFFERENCES "com/example/mapweft/mapweft/suite/Status") (F_u_Status_NO_DIFFERENCES_ordinal : Fld Z Z.heap u_Status_NO_DIFFERENCES "java/lang/Enum" "ordinal" "I" (.int (0 : Int32))) (F_u_Status_NO_DIFFERENCES_label : Fld Z Z.heap u_Status_NO_DIFFERENCES "com/example/mapweft/mapweft/suite/Status" "label" "Ljava/lang/String;" (.ref u_Status_NO_DIFFERENCES_label)) (E_u_Status_NO_DIFFERENCES_label : Exa Z Z.heap u_Status_NO_DIFFERENCES_label "java/lang/String") (F_u_Verdict_NO_DIFFERENCES_label : Fld Z Z.heap u_Verdict_NO_DIFFERENCES "com/example/mapweft/mapweft/compare/Verdict" "label" "Ljava/lang/String;" (.ref u_Status_NO_DIFFERENCES_label)) (F_u_Status_SKIPPED_label : Fld Z Z.heap u_Status_SKIPPED "com/example/mapweft/mapweft/suite/Status" "label" "Ljava/lang/String;" (.ref u_Status_SKIPPED_label)) (E_u_Status_SKIPPED_label : Exa Z Z.heap u_Status_SKIPPED_label "java/lang/String") :
    MetFree l x (head1 (Jvm.Cond.code x code maxLocals ret :: ws) room_1) (fun as_ U => as_ = #[(.int p1)] ∧ Z.Warmed39 U.vm ∧ U.heap = h0) (fun _ _ _ _ _ => True) (fun _ U o U' => ∃ v L, o = .returned v ∧ (Q0 Z p1 u_Verdict_MESSAGES_DIFFER u_Status_MESSAGES_DIFFER u_Verdict_NO_DIFFERENCES u_Status_SKIPPED u_Status_MESSAGES_DIFFER_label u_Status_NO_DIFFERENCES u_Status_NO_DIFFERENCES_label u_Status_SKIPPED_label h0 n0) v U'.heap L ∧ FrameEnd U o U' L room_1.cells room_1.slots) := by
  refine own_met (plainFor_of_name pn_0) ?_
  intro p e s m below meth c s₁ X0 hx hby hml hret hlk hown hnm hZ e0
  have N0 := Fr.nil n0
  have Z_ := Z0
  refine OwnGo.cast (ef_0 m p1) ?_
  have hml : c.maxLocals = 5 := hml
  show OwnGo p e below s _ _ _ s₁ (mkF m 0 #[.val (.int p1), .unset, .unset, .unset, .unset] [])
  refine OwnGo.st (fun _ k => XS.iloadN X0.here hx rfl (hb hby at_0) rfl  k) ?_
  show OwnGo p e below s _ _ _ s₁ (mkF m 1 #[.val (.int p1), .unset, .unset, .unset, .unset] [(.int p1)])
  refine OwnGo.st (fun _ k => XS.iconst X0.here hx rfl (hb hby at_1) k) ?_
  show OwnGo p e below s _ _ _ s₁ (mkF m 2 #[.val (.int p1), .unset, .unset, .unset, .unset] [(.int (1 : Int32)), (.int p1)])
  refine OwnGo.st (fun _ k => XS.iand X0.here hx rfl (hb hby at_2) rfl k) ?_
  show OwnGo p e below s _ _ _ s₁ (mkF m 3 #[.val (.int p1), .unset, .unset, .unset, .unset] [(.int (p1 &&& (1 : Int32)))])
  by_cases hc : (p1 &&& (1 : Int32)) = (0 : Int32)
  · refine OwnGo.st (fun _ k => XS.ifYes X0.here hx rfl (pc0 := 3) (pc' := 10) rfl (hb hby at_3) rfl ((if0 _ _).trans (teq (hc : (p1 &&& (1 : Int32)) = (0 : Int32))).1) (by decide) (by decide) k) ?_
    show OwnGo p e below s _ _ _ s₁ (mkF m 10 #[.val (.int p1), .unset, .unset, .unset, .unset] [])
    refine OwnGo.st (fun _ k => XS.iconst X0.here hx rfl (hb hby at_10) k) ?_
    show OwnGo p e below s _ _ _ s₁ (mkF m 11 #[.val (.int p1), .unset, .unset, .unset, .unset] [(.int (0 : Int32))])
    refine OwnGo.st (fun _ k => XS.istoreN X0.here hx rfl (hb hby at_11) rfl (l' := #[.val (.int p1), .val (.int (0 : Int32)), .unset, .unset, .unset]) rfl k) ?_
    show OwnGo p e below s _ _ _ s₁ (mkF m 12 #[.val (.int p1), .val (.int (0 : Int32)), .unset, .unset, .unset] [])
    refine OwnGo.st (fun _ k => XS.iloadN X0.here hx rfl (hb hby at_12) rfl  k) ?_
    show OwnGo p e below s _ _ _ s₁ (mkF m 13 #[.val (.int p1), .val (.int (0 : Int32)), .unset, .unset, .unset] [(.int (0 : Int32))])
    refine OwnGo.st (fun _ k => XS.ifYes X0.here hx rfl (pc0 := 13) (pc' := 22) rfl (hb hby at_13) rfl ((if0 _ _).trans (teq ((by decide) : (0 : Int32) = (0 : Int32))).1) (by decide) (by decide) k) ?_
    show OwnGo p e below s _ _ _ s₁ (mkF m 22 #[.val (.int p1), .val (.int (0 : Int32)), .unset, .unset, .unset] [])
    obtain ⟨T7, X7, e7, st7⟩ := getS2 X0 hx hZ hown (host := "") (Or.inl (hw _ (List.mem_of_getElem? (i := 0) rfl))) Via.refl e0 (S_u_Verdict_MESSAGES_DIFFER.ext O_.2) (g := (mkF m 22 #[.val (.int p1), .val (.int (0 : Int32)), .unset, .unset, .unset] [])) rfl (hb hby at_22)
    refine OwnGo.st st7 ?_
    show OwnGo p e below s _ _ _ T7 (mkF m 25 #[.val (.int p1), .val (.int (0 : Int32)), .unset, .unset, .unset] [(.ref u_Verdict_MESSAGES_DIFFER)])
    refine OwnGo.st (fun _ k => XS.astoreN X7.here hx rfl (hb hby at_25) rfl rfl (l' := #[.val (.int p1), .val (.int (0 : Int32)), .val (.ref u_Verdict_MESSAGES_DIFFER), .unset, .unset]) rfl k) ?_
    show OwnGo p e below s _ _ _ T7 (mkF m 26 #[.val (.int p1), .val (.int (0 : Int32)), .val (.ref u_Verdict_MESSAGES_DIFFER), .unset, .unset] [])
    refine OwnGo.st (fun _ k => XS.iloadN X7.here hx rfl (hb hby at_26) rfl  k) ?_
    show OwnGo p e below s _ _ _ T7 (mkF m 27 #[.val (.int p1), .val (.int (0 : Int32)), .val (.ref u_Verdict_MESSAGES_DIFFER), .unset, .unset] [(.int (0 : Int32))])
    refine OwnGo.st (fun _ k => XS.ifYes X7.here hx rfl (pc0 := 27) (pc' := 36) rfl (hb hby at_27) rfl ((if0 _ _).trans (teq ((by decide) : (0 : Int32) = (0 : Int32))).1) (by decide) (by decide) k) ?_
    show OwnGo p e below s _ _ _ T7 (mkF m 36 #[.val (.int p1), .val (.int (0 : Int32)), .val (.ref u_Verdict_MESSAGES_DIFFER), .unset, .unset] [])
    obtain ⟨T8, X8, e8, st8⟩ := getS2 X7 hx hZ hown (host := "") (Or.inl (hw _ (List.mem_of_getElem? (i := 3) rfl))) Via.refl e7 (S_u_Status_MESSAGES_DIFFER.ext O_.2) (g := (mkF m 36 #[.val (.int p1), .val (.int (0 : Int32)), .val (.ref u_Verdict_MESSAGES_DIFFER), .unset, .unset] [])) rfl (hb hby at_36)
    refine OwnGo.st st8 ?_
    show OwnGo p e below s _ _ _ T8 (mkF m 39 #[.val (.int p1), .val (.int (0 : Int32)), .val (.ref u_Verdict_MESSAGES_DIFFER), .unset, .unset] [(.ref u_Status_MESSAGES_DIFFER)])
    refine OwnGo.st (fun _ k => XS.astoreN X8.here hx rfl (hb hby at_39) rfl rfl (l' := #[.val (.int p1), .val (.int (0 : Int32)), .val (.ref u_Verdict_MESSAGES_DIFFER), .val (.ref u_Status_MESSAGES_DIFFER), .unset]) rfl k) ?_
    show OwnGo p e below s _ _ _ T8 (mkF m 40 #[.val (.int p1), .val (.int (0 : Int32)), .val (.ref u_Verdict_MESSAGES_DIFFER), .val (.ref u_Status_MESSAGES_DIFFER), .unset] [])
    refine OwnGo.st (fun _ k => XS.aloadN X8.here hx rfl (hb hby at_40) rfl rfl  k) ?_
    show OwnGo p e below s _ _ _ T8 (mkF m 41 #[.val (.int p1), .val (.int (0 : Int32)), .val (.ref u_Verdict_MESSAGES_DIFFER), .val (.ref u_Status_MESSAGES_DIFFER), .unset] [(.ref u_Verdict_MESSAGES_DIFFER)])
    obtain ⟨_, _, ⟨T9, L9, k9, n9⟩, -, X9, ⟨Lc9, hQ9, l9, y9, z9⟩, st9⟩ := Jvm.LawKit.callS X8 hx (y := (⟨"com/example/mapweft/mapweft/suite/Status", "of", "(Lcom/example/mapweft/mapweft/compare/Verdict;)Lcom/example/mapweft/mapweft/suite/Status;"⟩ : MethodName)) hown (mvT hZ (hw _ (List.mem_of_getElem? (i := 6) rfl))) (mvT hZ (hw _ (List.mem_of_getElem? (i := 7) rfl))) (mvT hZ (hw _ (List.mem_of_getElem? (i := 4) rfl))) (mvT hZ (hw _ (List.mem_of_getElem? (i := 8) rfl))) (by decide) (backOf (W := 0) (rmofM l Z a0 hw [] u_Verdict_MESSAGES_DIFFER u_Status_MESSAGES_DIFFER u_Verdict_NO_DIFFERENCES u_Status_SKIPPED u_Status_MESSAGES_DIFFER_label u_Status_NO_DIFFERENCES u_Status_NO_DIFFERENCES_label u_Status_SKIPPED_label h0 n0 Z_ O_ S_u_Verdict_MESSAGES_DIFFER E_u_Verdict_MESSAGES_DIFFER S_u_Status_MESSAGES_DIFFER E_u_Status_MESSAGES_DIFFER S_u_Verdict_NO_DIFFERENCES E_u_Verdict_NO_DIFFERENCES F_u_Verdict_MESSAGES_DIFFER_ordinal F_u_Verdict_NO_DIFFERENCES_ordinal S_u_Status_SKIPPED E_u_Status_SKIPPED F_u_Status_MESSAGES_DIFFER_ordinal F_u_Status_SKIPPED_ordinal F_u_Status_MESSAGES_DIFFER_label E_u_Status_MESSAGES_DIFFER_label F_u_Verdict_MESSAGES_DIFFER_label S_u_Status_NO_DIFFERENCES E_u_Status_NO_DIFFERENCES F_u_Status_NO_DIFFERENCES_ordinal F_u_Status_NO_DIFFERENCES_label E_u_Status_NO_DIFFERENCES_label F_u_Verdict_NO_DIFFERENCES_label F_u_Status_SKIPPED_label E_u_Status_SKIPPED_label) hZ (hw _ (List.mem_of_getElem? (i := 8) rfl)) (hw _ (List.mem_of_getElem? (i := 4) rfl)) (by decide) (by decide)) (g := (mkF m 41 #[.val (.int p1), .val (.int (0 : Int32)), .val (.ref u_Verdict_MESSAGES_DIFFER), .val (.ref u_Status_MESSAGES_DIFFER), .unset] [(.ref u_Verdict_MESSAGES_DIFFER)])) rfl (by rw [hml]; rfl) (argsL := [(.ref u_Verdict_MESSAGES_DIFFER)]) (rest := []) (lenOf pd_0 rfl) rfl (by show 2 * 0 + _ ≤ _; exact Nat.le_of_eq rfl) (hb hby at_41) (fun _ _ => ⟨rfl, e8, (by decide : 0 + 0 ≤ _), (by decide : 0 + 0 ≤ _)⟩)
    dsimp only [Pt.U, Pt.locs, Pt.cells, Pt.slots] at X9 l9 y9 z9 st9 hQ9
    subst l9 y9 z9
    obtain ⟨rfl, N9q, e9⟩ := hQ9
    have N9 := Fr.app N0 N9q
    refine OwnGo.st st9 ?_
    show OwnGo p e below s _ _ _ T9 (mkF m 44 #[.val (.int p1), .val (.int (0 : Int32)), .val (.ref u_Verdict_MESSAGES_DIFFER), .val (.ref u_Status_MESSAGES_DIFFER), .unset] [(.ref u_Status_MESSAGES_DIFFER)])
    refine OwnGo.st (fun _ k => XS.astore X9.here hx rfl (hb hby at_44) rfl rfl (l' := #[.val (.int p1), .val (.int (0 : Int32)), .val (.ref u_Verdict_MESSAGES_DIFFER), .val (.ref u_Status_MESSAGES_DIFFER), .val (.ref u_Status_MESSAGES_DIFFER)]) rfl k) ?_
    show OwnGo p e below s _ _ _ T9 (mkF m 46 #[.val (.int p1), .val (.int (0 : Int32)), .val (.ref u_Verdict_MESSAGES_DIFFER), .val (.ref u_Status_MESSAGES_DIFFER), .val (.ref u_Status_MESSAGES_DIFFER)] [])
    refine OwnGo.st (fun _ k => XS.aload X9.here hx rfl (hb hby at_46) rfl rfl  k) ?_
    show OwnGo p e below s _ _ _ T9 (mkF m 48 #[.val (.int p1), .val (.int (0 : Int32)), .val (.ref u_Verdict_MESSAGES_DIFFER), .val (.ref u_Status_MESSAGES_DIFFER), .val (.ref u_Status_MESSAGES_DIFFER)] [(.ref u_Status_MESSAGES_DIFFER)])
    refine OwnGo.st (fun _ k => XS.aloadN X9.here hx rfl (hb hby at_48) rfl rfl  k) ?_
    show OwnGo p e below s _ _ _ T9 (mkF m 49 #[.val (.int p1), .val (.int (0 : Int32)), .val (.ref u_Verdict_MESSAGES_DIFFER), .val (.ref u_Status_MESSAGES_DIFFER), .val (.ref u_Status_MESSAGES_DIFFER)] [(.ref u_Status_MESSAGES_DIFFER), (.ref u_Status_MESSAGES_DIFFER)])
    refine OwnGo.st (fun _ k => Jvm.RoadKit.acmp (g := (mkF m 49 #[.val (.int p1), .val (.int (0 : Int32)), .val (.ref u_Verdict_MESSAGES_DIFFER), .val (.ref u_Status_MESSAGES_DIFFER), .val (.ref u_Status_MESSAGES_DIFFER)] [(.ref u_Status_MESSAGES_DIFFER), (.ref u_Status_MESSAGES_DIFFER)])) X9 hx rfl rfl rfl (pc0 := 49) (pc' := 54) (same := true) rfl (hb hby at_49) rfl (decide_eq_true rfl) (by decide) (by decide) k) ?_
    show OwnGo p e below s _ _ _ T9 (mkF m 54 #[.val (.int p1), .val (.int (0 : Int32)), .val (.ref u_Verdict_MESSAGES_DIFFER), .val (.ref u_Status_MESSAGES_DIFFER), .val (.ref u_Status_MESSAGES_DIFFER)] [])
    refine OwnGo.st (fun _ k => XS.aload X9.here hx rfl (hb hby at_54) rfl rfl  k) ?_
    show OwnGo p e below s _ _ _ T9 (mkF m 56 #[.val (.int p1), .val (.int (0 : Int32)), .val (.ref u_Verdict_MESSAGES_DIFFER), .val (.ref u_Status_MESSAGES_DIFFER), .val (.ref u_Status_MESSAGES_DIFFER)] [(.ref u_Status_MESSAGES_DIFFER)])
    obtain ⟨T10, X10, e10, st10⟩ := getS2 X9 hx hZ hown (host := "") (Or.inl (hw _ (List.mem_of_getElem? (i := 12) rfl))) Via.refl e9 (S_u_Status_SKIPPED.ext O_.2) (g := (mkF m 56 #[.val (.int p1), .val (.int (0 : Int32)), .val (.ref u_Verdict_MESSAGES_DIFFER), .val (.ref u_Status_MESSAGES_DIFFER), .val (.ref u_Status_MESSAGES_DIFFER)] [(.ref u_Status_MESSAGES_DIFFER)])) rfl (hb hby at_56)
    refine OwnGo.st st10 ?_
    show OwnGo p e below s _ _ _ T10 (mkF m 59 #[.val (.int p1), .val (.int (0 : Int32)), .val (.ref u_Verdict_MESSAGES_DIFFER), .val (.ref u_Status_MESSAGES_DIFFER), .val (.ref u_Status_MESSAGES_DIFFER)] [(.ref u_Status_SKIPPED), (.ref u_Status_MESSAGES_DIFFER)])
    refine OwnGo.st (fun _ k => Jvm.RoadKit.acmp (g := (mkF m 59 #[.val (.int p1), .val (.int (0 : Int32)), .val (.ref u_Verdict_MESSAGES_DIFFER), .val (.ref u_Status_MESSAGES_DIFFER), .val (.ref u_Status_MESSAGES_DIFFER)] [(.ref u_Status_SKIPPED), (.ref u_Status_MESSAGES_DIFFER)])) X10 hx rfl rfl rfl (pc0 := 59) (pc' := 64) (same := false) rfl (hb hby at_59) rfl (decide_eq_false fun q => (Fld.ne F_u_Status_MESSAGES_DIFFER_ordinal F_u_Status_SKIPPED_ordinal (by decide)) (Value.ref.inj q)) (by decide) (by decide) k) ?_
    show OwnGo p e below s _ _ _ T10 (mkF m 64 #[.val (.int p1), .val (.int (0 : Int32)), .val (.ref u_Verdict_MESSAGES_DIFFER), .val (.ref u_Status_MESSAGES_DIFFER), .val (.ref u_Status_MESSAGES_DIFFER)] [])
    refine OwnGo.st (fun _ k => XS.aload X10.here hx rfl (hb hby at_64) rfl rfl  k) ?_
    show OwnGo p e below s _ _ _ T10 (mkF m 66 #[.val (.int p1), .val (.int (0 : Int32)), .val (.ref u_Verdict_MESSAGES_DIFFER), .val (.ref u_Status_MESSAGES_DIFFER), .val (.ref u_Status_MESSAGES_DIFFER)] [(.ref u_Status_MESSAGES_DIFFER)])
    obtain ⟨cq11, kq11, q11a, q11b, q11c⟩ := isOf hZ e10 (E_u_Status_MESSAGES_DIFFER.ext O_.2)
    obtain ⟨_, _, ⟨T11, L11, k11, n11⟩, -, X11, ⟨Lc11, hQ11, l11, y11, z11⟩, st11⟩ := X10.virtualBack hx (y := (⟨"com/example/mapweft/mapweft/suite/Status", "label", "()Ljava/lang/String;"⟩ : MethodName)) (z := (⟨"com/example/mapweft/mapweft/suite/Status", "label", "()Ljava/lang/String;"⟩ : MethodName)) hown (mvT hZ (hw _ (List.mem_of_getElem? (i := 14) rfl))) (mvT hZ (hw _ (List.mem_of_getElem? (i := 15) rfl))) (notFace_of_selects (args := #[]) (mvT hZ (hw _ (List.mem_of_getElem? (i := 17) rfl)))) (mvT hZ (hw _ (List.mem_of_getElem? (i := 17) rfl))) (mvT hZ (hw _ (List.mem_of_getElem? (i := 16) rfl))) (by decide) (backOf (W := 0) (rm2 l Z a0 hw [] u_Status_MESSAGES_DIFFER u_Status_MESSAGES_DIFFER_label h0 n0 Z_ (F_u_Status_MESSAGES_DIFFER_label.ext O_.2)) hZ (hw _ (List.mem_of_getElem? (i := 18) rfl)) (hw _ (List.mem_of_getElem? (i := 4) rfl)) (by decide) (by decide)) q11a q11c (g := (mkF m 66 #[.val (.int p1), .val (.int (0 : Int32)), .val (.ref u_Verdict_MESSAGES_DIFFER), .val (.ref u_Status_MESSAGES_DIFFER), .val (.ref u_Status_MESSAGES_DIFFER)] [(.ref u_Status_MESSAGES_DIFFER)])) rfl (by rw [hml]; rfl) (Steps.refl _) (argsL := []) (rest := []) (lenOf pd_1 rfl) rfl (by show 2 * 0 + _ ≤ _; exact Nat.le_of_eq rfl) (hb hby at_66) (fun _ _ => ⟨rfl, e10, (by decide : 0 + 0 ≤ _), (by decide : 0 + 0 ≤ _)⟩)
    dsimp only [Pt.U, Pt.locs, Pt.cells, Pt.slots] at X11 l11 y11 z11 st11 hQ11
    subst l11 y11 z11
    obtain ⟨rfl, N11q, e11⟩ := hQ11
    have N11 := Fr.app N9 N11q
    refine OwnGo.st (fun _ k => st11.trans k) ?_
    show OwnGo p e below s _ _ _ T11 (mkF m 69 #[.val (.int p1), .val (.int (0 : Int32)), .val (.ref u_Verdict_MESSAGES_DIFFER), .val (.ref u_Status_MESSAGES_DIFFER), .val (.ref u_Status_MESSAGES_DIFFER)] [(.ref u_Status_MESSAGES_DIFFER_label)])
    refine OwnGo.st (fun _ k => XS.aloadN X11.here hx rfl (hb hby at_69) rfl rfl  k) ?_
    show OwnGo p e below s _ _ _ T11 (mkF m 70 #[.val (.int p1), .val (.int (0 : Int32)), .val (.ref u_Verdict_MESSAGES_DIFFER), .val (.ref u_Status_MESSAGES_DIFFER), .val (.ref u_Status_MESSAGES_DIFFER)] [(.ref u_Verdict_MESSAGES_DIFFER), (.ref u_Status_MESSAGES_DIFFER_label)])
    obtain ⟨cq12, kq12, q12a, q12b, q12c⟩ := isOf hZ e11 (E_u_Verdict_MESSAGES_DIFFER.ext O_.2)
    obtain ⟨_, _, ⟨T12, L12, k12, n12⟩, -, X12, ⟨Lc12, hQ12, l12, y12, z12⟩, st12⟩ := X11.virtualBack hx (y := (⟨"com/example/mapweft/mapweft/compare/Verdict", "label", "()Ljava/lang/String;"⟩ : MethodName)) (z := (⟨"com/example/mapweft/mapweft/compare/Verdict", "label", "()Ljava/lang/String;"⟩ : MethodName)) hown (mvT hZ (hw _ (List.mem_of_getElem? (i := 21) rfl))) (mvT hZ (hw _ (List.mem_of_getElem? (i := 22) rfl))) (notFace_of_selects (args := #[]) (mvT hZ (hw _ (List.mem_of_getElem? (i := 24) rfl)))) (mvT hZ (hw _ (List.mem_of_getElem? (i := 24) rfl))) (mvT hZ (hw _ (List.mem_of_getElem? (i := 23) rfl))) (by decide) (backOf (W := 1) (rm3 l Z a0 hw [] u_Verdict_MESSAGES_DIFFER u_Status_MESSAGES_DIFFER_label h0 n0 Z_ (F_u_Verdict_MESSAGES_DIFFER_label.ext O_.2)) hZ (hw _ (List.mem_of_getElem? (i := 25) rfl)) (hw _ (List.mem_of_getElem? (i := 1) rfl)) (by decide) (by decide)) q12a q12c (g := (mkF m 70 #[.val (.int p1), .val (.int (0 : Int32)), .val (.ref u_Verdict_MESSAGES_DIFFER), .val (.ref u_Status_MESSAGES_DIFFER), .val (.ref u_Status_MESSAGES_DIFFER)] [(.ref u_Verdict_MESSAGES_DIFFER), (.ref u_Status_MESSAGES_DIFFER_label)])) rfl (by rw [hml]; rfl) (Steps.refl _) (argsL := []) (rest := [(.ref u_Status_MESSAGES_DIFFER_label)]) (lenOf pd_1 rfl) rfl (by show 2 * 0 + _ ≤ _; exact Nat.le_of_eq rfl) (hb hby at_70) (fun _ _ => ⟨rfl, e11, (by decide : 0 + 0 ≤ _), (by decide : 0 + 0 ≤ _)⟩)
    dsimp only [Pt.U, Pt.locs, Pt.cells, Pt.slots] at X12 l12 y12 z12 st12 hQ12
    subst l12 y12 z12
    obtain ⟨rfl, N12q, e12⟩ := hQ12
    have N12 := Fr.app N11 N12q
    refine OwnGo.st (fun _ k => st12.trans k) ?_
    show OwnGo p e below s _ _ _ T12 (mkF m 73 #[.val (.int p1), .val (.int (0 : Int32)), .val (.ref u_Verdict_MESSAGES_DIFFER), .val (.ref u_Status_MESSAGES_DIFFER), .val (.ref u_Status_MESSAGES_DIFFER)] [(.ref u_Status_MESSAGES_DIFFER_label), (.ref u_Status_MESSAGES_DIFFER_label)])
    obtain ⟨cq13, kq13, q13a, q13b, q13c⟩ := isOf hZ e12 (E_u_Status_MESSAGES_DIFFER_label.ext O_.2)
    obtain ⟨_, _, ⟨T13, L13, k13, n13⟩, -, X13, ⟨Lc13, hQ13, l13, y13, z13⟩, st13⟩ := X12.virtualBack hx (y := (⟨"java/lang/String", "equals", "(Ljava/lang/Object;)Z"⟩ : MethodName)) (z := (⟨"java/lang/String", "equals", "(Ljava/lang/Object;)Z"⟩ : MethodName)) hown (mvT hZ (hw _ (List.mem_of_getElem? (i := 28) rfl))) (mvT hZ (hw _ (List.mem_of_getElem? (i := 29) rfl))) (notFace_of_selects (args := #[]) (mvT hZ (hw _ (List.mem_of_getElem? (i := 31) rfl)))) (mvT hZ (hw _ (List.mem_of_getElem? (i := 31) rfl))) (mvT hZ (hw _ (List.mem_of_getElem? (i := 30) rfl))) (by decide) (backOf (W := 0) (rm4 l Z a0 hw [] u_Status_MESSAGES_DIFFER_label h0 n0 Z_ ) hZ (hw _ (List.mem_of_getElem? (i := 33) rfl)) (hw _ (List.mem_of_getElem? (i := 32) rfl)) (by decide) (by decide)) q13a q13c (g := (mkF m 73 #[.val (.int p1), .val (.int (0 : Int32)), .val (.ref u_Verdict_MESSAGES_DIFFER), .val (.ref u_Status_MESSAGES_DIFFER), .val (.ref u_Status_MESSAGES_DIFFER)] [(.ref u_Status_MESSAGES_DIFFER_label), (.ref u_Status_MESSAGES_DIFFER_label)])) rfl (by rw [hml]; rfl) (Steps.refl _) (argsL := [(.ref u_Status_MESSAGES_DIFFER_label)]) (rest := []) (lenOf pd_2 rfl) rfl (by show 2 * 0 + _ ≤ _; exact Nat.le_of_eq rfl) (hb hby at_73) (fun _ _ => ⟨rfl, e12, (by decide : 0 + 0 ≤ _), (by decide : 0 + 0 ≤ _)⟩)
    dsimp only [Pt.U, Pt.locs, Pt.cells, Pt.slots] at X13 l13 y13 z13 st13 hQ13
    subst l13 y13 z13
    obtain ⟨rfl, N13q, e13⟩ := hQ13
    have N13 := Fr.app N12 N13q
    refine OwnGo.st (fun _ k => st13.trans k) ?_
    show OwnGo p e below s _ _ _ T13 (mkF m 76 #[.val (.int p1), .val (.int (0 : Int32)), .val (.ref u_Verdict_MESSAGES_DIFFER), .val (.ref u_Status_MESSAGES_DIFFER), .val (.ref u_Status_MESSAGES_DIFFER)] [(.int (1 : Int32))])
    exact OwnGo.retN X13 hx (t := .boolean) hret hlk (by simp) (hb hby at_76) (by show Q0 Z p1 u_Verdict_MESSAGES_DIFFER u_Status_MESSAGES_DIFFER u_Verdict_NO_DIFFERENCES u_Status_SKIPPED u_Status_MESSAGES_DIFFER_label u_Status_NO_DIFFERENCES u_Status_NO_DIFFERENCES_label u_Status_SKIPPED_label h0 n0 _ T13.heap _; rw [e13]; exact ⟨rfl, N13⟩) (by decide) (by decide)
  · refine OwnGo.st (fun _ k => XS.ifNo X0.here hx rfl (hb hby at_3) rfl ((if0 _ _).trans (feq (hc : ¬ ((p1 &&& (1 : Int32)) = (0 : Int32)))).1) k) ?_
    show OwnGo p e below s _ _ _ s₁ (mkF m 6 #[.val (.int p1), .unset, .unset, .unset, .unset] [])
    refine OwnGo.st (fun _ k => XS.iconst X0.here hx rfl (hb hby at_6) k) ?_
    show OwnGo p e below s _ _ _ s₁ (mkF m 7 #[.val (.int p1), .unset, .unset, .unset, .unset] [(.int (1 : Int32))])
    refine OwnGo.st (fun _ k => XS.goto X0.here hx rfl (pc0 := 7) (pc' := 11) rfl (hb hby at_7) (by decide) (by decide) k) ?_
    show OwnGo p e below s _ _ _ s₁ (mkF m 11 #[.val (.int p1), .unset, .unset, .unset, .unset] [(.int (1 : Int32))])
    refine OwnGo.st (fun _ k => XS.istoreN X0.here hx rfl (hb hby at_11) rfl (l' := #[.val (.int p1), .val (.int (1 : Int32)), .unset, .unset, .unset]) rfl k) ?_
    show OwnGo p e below s _ _ _ s₁ (mkF m 12 #[.val (.int p1), .val (.int (1 : Int32)), .unset, .unset, .unset] [])
    refine OwnGo.st (fun _ k => XS.iloadN X0.here hx rfl (hb hby at_12) rfl  k) ?_
    show OwnGo p e below s _ _ _ s₁ (mkF m 13 #[.val (.int p1), .val (.int (1 : Int32)), .unset, .unset, .unset] [(.int (1 : Int32))])
    refine OwnGo.st (fun _ k => XS.ifNo X0.here hx rfl (hb hby at_13) rfl ((if0 _ _).trans (feq ((by decide) : ¬ ((1 : Int32) = (0 : Int32)))).1) k) ?_
    show OwnGo p e below s _ _ _ s₁ (mkF m 16 #[.val (.int p1), .val (.int (1 : Int32)), .unset, .unset, .unset] [])
    obtain ⟨T14, X14, e14, st14⟩ := getS2 X0 hx hZ hown (host := "") (Or.inl (hw _ (List.mem_of_getElem? (i := 34) rfl))) Via.refl e0 (S_u_Verdict_NO_DIFFERENCES.ext O_.2) (g := (mkF m 16 #[.val (.int p1), .val (.int (1 : Int32)), .unset, .unset, .unset] [])) rfl (hb hby at_16)
    refine OwnGo.st st14 ?_
    show OwnGo p e below s _ _ _ T14 (mkF m 19 #[.val (.int p1), .val (.int (1 : Int32)), .unset, .unset, .unset] [(.ref u_Verdict_NO_DIFFERENCES)])
    refine OwnGo.st (fun _ k => XS.goto X14.here hx rfl (pc0 := 19) (pc' := 25) rfl (hb hby at_19) (by decide) (by decide) k) ?_
    show OwnGo p e below s _ _ _ T14 (mkF m 25 #[.val (.int p1), .val (.int (1 : Int32)), .unset, .unset, .unset] [(.ref u_Verdict_NO_DIFFERENCES)])
    refine OwnGo.st (fun _ k => XS.astoreN X14.here hx rfl (hb hby at_25) rfl rfl (l' := #[.val (.int p1), .val (.int (1 : Int32)), .val (.ref u_Verdict_NO_DIFFERENCES), .unset, .unset]) rfl k) ?_
    show OwnGo p e below s _ _ _ T14 (mkF m 26 #[.val (.int p1), .val (.int (1 : Int32)), .val (.ref u_Verdict_NO_DIFFERENCES), .unset, .unset] [])
    refine OwnGo.st (fun _ k => XS.iloadN X14.here hx rfl (hb hby at_26) rfl  k) ?_
    show OwnGo p e below s _ _ _ T14 (mkF m 27 #[.val (.int p1), .val (.int (1 : Int32)), .val (.ref u_Verdict_NO_DIFFERENCES), .unset, .unset] [(.int (1 : Int32))])
    refine OwnGo.st (fun _ k => XS.ifNo X14.here hx rfl (hb hby at_27) rfl ((if0 _ _).trans (feq ((by decide) : ¬ ((1 : Int32) = (0 : Int32)))).1) k) ?_
    show OwnGo p e below s _ _ _ T14 (mkF m 30 #[.val (.int p1), .val (.int (1 : Int32)), .val (.ref u_Verdict_NO_DIFFERENCES), .unset, .unset] [])
    obtain ⟨T15, X15, e15, st15⟩ := getS2 X14 hx hZ hown (host := "") (Or.inl (hw _ (List.mem_of_getElem? (i := 35) rfl))) Via.refl e14 (S_u_Status_NO_DIFFERENCES.ext O_.2) (g := (mkF m 30 #[.val (.int p1), .val (.int (1 : Int32)), .val (.ref u_Verdict_NO_DIFFERENCES), .unset, .unset] [])) rfl (hb hby at_30)
    refine OwnGo.st st15 ?_
    show OwnGo p e below s _ _ _ T15 (mkF m 33 #[.val (.int p1), .val (.int (1 : Int32)), .val (.ref u_Verdict_NO_DIFFERENCES), .unset, .unset] [(.ref u_Status_NO_DIFFERENCES)])
    refine OwnGo.st (fun _ k => XS.goto X15.here hx rfl (pc0 := 33) (pc' := 39) rfl (hb hby at_33) (by decide) (by decide) k) ?_
    show OwnGo p e below s _ _ _ T15 (mkF m 39 #[.val (.int p1), .val (.int (1 : Int32)), .val (.ref u_Verdict_NO_DIFFERENCES), .unset, .unset] [(.ref u_Status_NO_DIFFERENCES)])
    refine OwnGo.st (fun _ k => XS.astoreN X15.here hx rfl (hb hby at_39) rfl rfl (l' := #[.val (.int p1), .val (.int (1 : Int32)), .val (.ref u_Verdict_NO_DIFFERENCES), .val (.ref u_Status_NO_DIFFERENCES), .unset]) rfl k) ?_
    show OwnGo p e below s _ _ _ T15 (mkF m 40 #[.val (.int p1), .val (.int (1 : Int32)), .val (.ref u_Verdict_NO_DIFFERENCES), .val (.ref u_Status_NO_DIFFERENCES), .unset] [])
    refine OwnGo.st (fun _ k => XS.aloadN X15.here hx rfl (hb hby at_40) rfl rfl  k) ?_
    show OwnGo p e below s _ _ _ T15 (mkF m 41 #[.val (.int p1), .val (.int (1 : Int32)), .val (.ref u_Verdict_NO_DIFFERENCES), .val (.ref u_Status_NO_DIFFERENCES), .unset] [(.ref u_Verdict_NO_DIFFERENCES)])
    obtain ⟨_, _, ⟨T16, L16, k16, n16⟩, -, X16, ⟨Lc16, hQ16, l16, y16, z16⟩, st16⟩ := Jvm.LawKit.callS X15 hx (y := (⟨"com/example/mapweft/mapweft/suite/Status", "of", "(Lcom/example/mapweft/mapweft/compare/Verdict;)Lcom/example/mapweft/mapweft/suite/Status;"⟩ : MethodName)) hown (mvT hZ (hw _ (List.mem_of_getElem? (i := 6) rfl))) (mvT hZ (hw _ (List.mem_of_getElem? (i := 7) rfl))) (mvT hZ (hw _ (List.mem_of_getElem? (i := 4) rfl))) (mvT hZ (hw _ (List.mem_of_getElem? (i := 8) rfl))) (by decide) (backOf (W := 0) (rmofN l Z a0 hw [] u_Verdict_MESSAGES_DIFFER u_Status_MESSAGES_DIFFER u_Verdict_NO_DIFFERENCES u_Status_SKIPPED u_Status_MESSAGES_DIFFER_label u_Status_NO_DIFFERENCES u_Status_NO_DIFFERENCES_label u_Status_SKIPPED_label h0 n0 Z_ O_ S_u_Verdict_MESSAGES_DIFFER E_u_Verdict_MESSAGES_DIFFER S_u_Status_MESSAGES_DIFFER E_u_Status_MESSAGES_DIFFER S_u_Verdict_NO_DIFFERENCES E_u_Verdict_NO_DIFFERENCES F_u_Verdict_MESSAGES_DIFFER_ordinal F_u_Verdict_NO_DIFFERENCES_ordinal S_u_Status_SKIPPED E_u_Status_SKIPPED F_u_Status_MESSAGES_DIFFER_ordinal F_u_Status_SKIPPED_ordinal F_u_Status_MESSAGES_DIFFER_label E_u_Status_MESSAGES_DIFFER_label F_u_Verdict_MESSAGES_DIFFER_label S_u_Status_NO_DIFFERENCES E_u_Status_NO_DIFFERENCES F_u_Status_NO_DIFFERENCES_ordinal F_u_Status_NO_DIFFERENCES_label E_u_Status_NO_DIFFERENCES_label F_u_Verdict_NO_DIFFERENCES_label F_u_Status_SKIPPED_label E_u_Status_SKIPPED_label) hZ (hw _ (List.mem_of_getElem? (i := 8) rfl)) (hw _ (List.mem_of_getElem? (i := 4) rfl)) (by decide) (by decide)) (g := (mkF m 41 #[.val (.int p1), .val (.int (1 : Int32)), .val (.ref u_Verdict_NO_DIFFERENCES), .val (.ref u_Status_NO_DIFFERENCES), .unset] [(.ref u_Verdict_NO_DIFFERENCES)])) rfl (by rw [hml]; rfl) (argsL := [(.ref u_Verdict_NO_DIFFERENCES)]) (rest := []) (lenOf pd_0 rfl) rfl (by show 2 * 0 + _ ≤ _; exact Nat.le_of_eq rfl) (hb hby at_41) (fun _ _ => ⟨rfl, e15, (by decide : 0 + 0 ≤ _), (by decide : 0 + 0 ≤ _)⟩)
    dsimp only [Pt.U, Pt.locs, Pt.cells, Pt.slots] at X16 l16 y16 z16 st16 hQ16
    subst l16 y16 z16
    obtain ⟨rfl, N16q, e16⟩ := hQ16
    have N16 := Fr.app N0 N16q
    refine OwnGo.st st16 ?_
    show OwnGo p e below s _ _ _ T16 (mkF m 44 #[.val (.int p1), .val (.int (1 : Int32)), .val (.ref u_Verdict_NO_DIFFERENCES), .val (.ref u_Status_NO_DIFFERENCES), .unset] [(.ref u_Status_NO_DIFFERENCES)])
    refine OwnGo.st (fun _ k => XS.astore X16.here hx rfl (hb hby at_44) rfl rfl (l' := #[.val (.int p1), .val (.int (1 : Int32)), .val (.ref u_Verdict_NO_DIFFERENCES), .val (.ref u_Status_NO_DIFFERENCES), .val (.ref u_Status_NO_DIFFERENCES)]) rfl k) ?_
    show OwnGo p e below s _ _ _ T16 (mkF m 46 #[.val (.int p1), .val (.int (1 : Int32)), .val (.ref u_Verdict_NO_DIFFERENCES), .val (.ref u_Status_NO_DIFFERENCES), .val (.ref u_Status_NO_DIFFERENCES)] [])
    refine OwnGo.st (fun _ k => XS.aload X16.here hx rfl (hb hby at_46) rfl rfl  k) ?_
    show OwnGo p e below s _ _ _ T16 (mkF m 48 #[.val (.int p1), .val (.int (1 : Int32)), .val (.ref u_Verdict_NO_DIFFERENCES), .val (.ref u_Status_NO_DIFFERENCES), .val (.ref u_Status_NO_DIFFERENCES)] [(.ref u_Status_NO_DIFFERENCES)])
    refine OwnGo.st (fun _ k => XS.aloadN X16.here hx rfl (hb hby at_48) rfl rfl  k) ?_
    show OwnGo p e below s _ _ _ T16 (mkF m 49 #[.val (.int p1), .val (.int (1 : Int32)), .val (.ref u_Verdict_NO_DIFFERENCES), .val (.ref u_Status_NO_DIFFERENCES), .val (.ref u_Status_NO_DIFFERENCES)] [(.ref u_Status_NO_DIFFERENCES), (.ref u_Status_NO_DIFFERENCES)])
    refine OwnGo.st (fun _ k => Jvm.RoadKit.acmp (g := (mkF m 49 #[.val (.int p1), .val (.int (1 : Int32)), .val (.ref u_Verdict_NO_DIFFERENCES), .val (.ref u_Status_NO_DIFFERENCES), .val (.ref u_Status_NO_DIFFERENCES)] [(.ref u_Status_NO_DIFFERENCES), (.ref u_Status_NO_DIFFERENCES)])) X16 hx rfl rfl rfl (pc0 := 49) (pc' := 54) (same := true) rfl (hb hby at_49) rfl (decide_eq_true rfl) (by decide) (by decide) k) ?_
    show OwnGo p e below s _ _ _ T16 (mkF m 54 #[.val (.int p1), .val (.int (1 : Int32)), .val (.ref u_Verdict_NO_DIFFERENCES), .val (.ref u_Status_NO_DIFFERENCES), .val (.ref u_Status_NO_DIFFERENCES)] [])
    refine OwnGo.st (fun _ k => XS.aload X16.here hx rfl (hb hby at_54) rfl rfl  k) ?_
    show OwnGo p e below s _ _ _ T16 (mkF m 56 #[.val (.int p1), .val (.int (1 : Int32)), .val (.ref u_Verdict_NO_DIFFERENCES), .val (.ref u_Status_NO_DIFFERENCES), .val (.ref u_Status_NO_DIFFERENCES)] [(.ref u_Status_NO_DIFFERENCES)])
    obtain ⟨T17, X17, e17, st17⟩ := getS2 X16 hx hZ hown (host := "") (Or.inl (hw _ (List.mem_of_getElem? (i := 12) rfl))) Via.refl e16 (S_u_Status_SKIPPED.ext O_.2) (g := (mkF m 56 #[.val (.int p1), .val (.int (1 : Int32)), .val (.ref u_Verdict_NO_DIFFERENCES), .val (.ref u_Status_NO_DIFFERENCES), .val (.ref u_Status_NO_DIFFERENCES)] [(.ref u_Status_NO_DIFFERENCES)])) rfl (hb hby at_56)
    refine OwnGo.st st17 ?_
    show OwnGo p e below s _ _ _ T17 (mkF m 59 #[.val (.int p1), .val (.int (1 : Int32)), .val (.ref u_Verdict_NO_DIFFERENCES), .val (.ref u_Status_NO_DIFFERENCES), .val (.ref u_Status_NO_DIFFERENCES)] [(.ref u_Status_SKIPPED), (.ref u_Status_NO_DIFFERENCES)])
    refine OwnGo.st (fun _ k => Jvm.RoadKit.acmp (g := (mkF m 59 #[.val (.int p1), .val (.int (1 : Int32)), .val (.ref u_Verdict_NO_DIFFERENCES), .val (.ref u_Status_NO_DIFFERENCES), .val (.ref u_Status_NO_DIFFERENCES)] [(.ref u_Status_SKIPPED), (.ref u_Status_NO_DIFFERENCES)])) X17 hx rfl rfl rfl (pc0 := 59) (pc' := 64) (same := false) rfl (hb hby at_59) rfl (decide_eq_false fun q => (Fld.ne F_u_Status_NO_DIFFERENCES_ordinal F_u_Status_SKIPPED_ordinal (by decide)) (Value.ref.inj q)) (by decide) (by decide) k) ?_
    show OwnGo p e below s _ _ _ T17 (mkF m 64 #[.val (.int p1), .val (.int (1 : Int32)), .val (.ref u_Verdict_NO_DIFFERENCES), .val (.ref u_Status_NO_DIFFERENCES), .val (.ref u_Status_NO_DIFFERENCES)] [])
    refine OwnGo.st (fun _ k => XS.aload X17.here hx rfl (hb hby at_64) rfl rfl  k) ?_
    show OwnGo p e below s _ _ _ T17 (mkF m 66 #[.val (.int p1), .val (.int (1 : Int32)), .val (.ref u_Verdict_NO_DIFFERENCES), .val (.ref u_Status_NO_DIFFERENCES), .val (.ref u_Status_NO_DIFFERENCES)] [(.ref u_Status_NO_DIFFERENCES)])
    obtain ⟨cq18, kq18, q18a, q18b, q18c⟩ := isOf hZ e17 (E_u_Status_NO_DIFFERENCES.ext O_.2)
    obtain ⟨_, _, ⟨T18, L18, k18, n18⟩, -, X18, ⟨Lc18, hQ18, l18, y18, z18⟩, st18⟩ := X17.virtualBack hx (y := (⟨"com/example/mapweft/mapweft/suite/Status", "label", "()Ljava/lang/String;"⟩ : MethodName)) (z := (⟨"com/example/mapweft/mapweft/suite/Status", "label", "()Ljava/lang/String;"⟩ : MethodName)) hown (mvT hZ (hw _ (List.mem_of_getElem? (i := 14) rfl))) (mvT hZ (hw _ (List.mem_of_getElem? (i := 15) rfl))) (notFace_of_selects (args := #[]) (mvT hZ (hw _ (List.mem_of_getElem? (i := 17) rfl)))) (mvT hZ (hw _ (List.mem_of_getElem? (i := 17) rfl))) (mvT hZ (hw _ (List.mem_of_getElem? (i := 16) rfl))) (by decide) (backOf (W := 0) (rm2 l Z a0 hw [] u_Status_NO_DIFFERENCES u_Status_NO_DIFFERENCES_label h0 n0 Z_ (F_u_Status_NO_DIFFERENCES_label.ext O_.2)) hZ (hw _ (List.mem_of_getElem? (i := 18) rfl)) (hw _ (List.mem_of_getElem? (i := 4) rfl)) (by decide) (by decide)) q18a q18c (g := (mkF m 66 #[.val (.int p1), .val (.int (1 : Int32)), .val (.ref u_Verdict_NO_DIFFERENCES), .val (.ref u_Status_NO_DIFFERENCES), .val (.ref u_Status_NO_DIFFERENCES)] [(.ref u_Status_NO_DIFFERENCES)])) rfl (by rw [hml]; rfl) (Steps.refl _) (argsL := []) (rest := []) (lenOf pd_1 rfl) rfl (by show 2 * 0 + _ ≤ _; exact Nat.le_of_eq rfl) (hb hby at_66) (fun _ _ => ⟨rfl, e17, (by decide : 0 + 0 ≤ _), (by decide : 0 + 0 ≤ _)⟩)
    dsimp only [Pt.U, Pt.locs, Pt.cells, Pt.slots] at X18 l18 y18 z18 st18 hQ18
    subst l18 y18 z18
    obtain ⟨rfl, N18q, e18⟩ := hQ18
    have N18 := Fr.app N16 N18q
    refine OwnGo.st (fun _ k => st18.trans k) ?_
    show OwnGo p e below s _ _ _ T18 (mkF m 69 #[.val (.int p1), .val (.int (1 : Int32)), .val (.ref u_Verdict_NO_DIFFERENCES), .val (.ref u_Status_NO_DIFFERENCES), .val (.ref u_Status_NO_DIFFERENCES)] [(.ref u_Status_NO_DIFFERENCES_label)])
    refine OwnGo.st (fun _ k => XS.aloadN X18.here hx rfl (hb hby at_69) rfl rfl  k) ?_
    show OwnGo p e below s _ _ _ T18 (mkF m 70 #[.val (.int p1), .val (.int (1 : Int32)), .val (.ref u_Verdict_NO_DIFFERENCES), .val (.ref u_Status_NO_DIFFERENCES), .val (.ref u_Status_NO_DIFFERENCES)] [(.ref u_Verdict_NO_DIFFERENCES), (.ref u_Status_NO_DIFFERENCES_label)])
    obtain ⟨cq19, kq19, q19a, q19b, q19c⟩ := isOf hZ e18 (E_u_Verdict_NO_DIFFERENCES.ext O_.2)
    obtain ⟨_, _, ⟨T19, L19, k19, n19⟩, -, X19, ⟨Lc19, hQ19, l19, y19, z19⟩, st19⟩ := X18.virtualBack hx (y := (⟨"com/example/mapweft/mapweft/compare/Verdict", "label", "()Ljava/lang/String;"⟩ : MethodName)) (z := (⟨"com/example/mapweft/mapweft/compare/Verdict", "label", "()Ljava/lang/String;"⟩ : MethodName)) hown (mvT hZ (hw _ (List.mem_of_getElem? (i := 21) rfl))) (mvT hZ (hw _ (List.mem_of_getElem? (i := 22) rfl))) (notFace_of_selects (args := #[]) (mvT hZ (hw _ (List.mem_of_getElem? (i := 24) rfl)))) (mvT hZ (hw _ (List.mem_of_getElem? (i := 24) rfl))) (mvT hZ (hw _ (List.mem_of_getElem? (i := 23) rfl))) (by decide) (backOf (W := 1) (rm3 l Z a0 hw [] u_Verdict_NO_DIFFERENCES u_Status_NO_DIFFERENCES_label h0 n0 Z_ (F_u_Verdict_NO_DIFFERENCES_label.ext O_.2)) hZ (hw _ (List.mem_of_getElem? (i := 25) rfl)) (hw _ (List.mem_of_getElem? (i := 1) rfl)) (by decide) (by decide)) q19a q19c (g := (mkF m 70 #[.val (.int p1), .val (.int (1 : Int32)), .val (.ref u_Verdict_NO_DIFFERENCES), .val (.ref u_Status_NO_DIFFERENCES), .val (.ref u_Status_NO_DIFFERENCES)] [(.ref u_Verdict_NO_DIFFERENCES), (.ref u_Status_NO_DIFFERENCES_label)])) rfl (by rw [hml]; rfl) (Steps.refl _) (argsL := []) (rest := [(.ref u_Status_NO_DIFFERENCES_label)]) (lenOf pd_1 rfl) rfl (by show 2 * 0 + _ ≤ _; exact Nat.le_of_eq rfl) (hb hby at_70) (fun _ _ => ⟨rfl, e18, (by decide : 0 + 0 ≤ _), (by decide : 0 + 0 ≤ _)⟩)
    dsimp only [Pt.U, Pt.locs, Pt.cells, Pt.slots] at X19 l19 y19 z19 st19 hQ19
    subst l19 y19 z19
    obtain ⟨rfl, N19q, e19⟩ := hQ19
    have N19 := Fr.app N18 N19q
    refine OwnGo.st (fun _ k => st19.trans k) ?_
    show OwnGo p e below s _ _ _ T19 (mkF m 73 #[.val (.int p1), .val (.int (1 : Int32)), .val (.ref u_Verdict_NO_DIFFERENCES), .val (.ref u_Status_NO_DIFFERENCES), .val (.ref u_Status_NO_DIFFERENCES)] [(.ref u_Status_NO_DIFFERENCES_label), (.ref u_Status_NO_DIFFERENCES_label)])
    obtain ⟨cq20, kq20, q20a, q20b, q20c⟩ := isOf hZ e19 (E_u_Status_NO_DIFFERENCES_label.ext O_.2)
    obtain ⟨_, _, ⟨T20, L20, k20, n20⟩, -, X20, ⟨Lc20, hQ20, l20, y20, z20⟩, st20⟩ := X19.virtualBack hx (y := (⟨"java/lang/String", "equals", "(Ljava/lang/Object;)Z"⟩ : MethodName)) (z := (⟨"java/lang/String", "equals", "(Ljava/lang/Object;)Z"⟩ : MethodName)) hown (mvT hZ (hw _ (List.mem_of_getElem? (i := 28) rfl))) (mvT hZ (hw _ (List.mem_of_getElem? (i := 29) rfl))) (notFace_of_selects (args := #[]) (mvT hZ (hw _ (List.mem_of_getElem? (i := 31) rfl)))) (mvT hZ (hw _ (List.mem_of_getElem? (i := 31) rfl))) (mvT hZ (hw _ (List.mem_of_getElem? (i := 30) rfl))) (by decide) (backOf (W := 0) (rm4 l Z a0 hw [] u_Status_NO_DIFFERENCES_label h0 n0 Z_ ) hZ (hw _ (List.mem_of_getElem? (i := 33) rfl)) (hw _ (List.mem_of_getElem? (i := 32) rfl)) (by decide) (by decide)) q20a q20c (g := (mkF m 73 #[.val (.int p1), .val (.int (1 : Int32)), .val (.ref u_Verdict_NO_DIFFERENCES), .val (.ref u_Status_NO_DIFFERENCES), .val (.ref u_Status_NO_DIFFERENCES)] [(.ref u_Status_NO_DIFFERENCES_label), (.ref u_Status_NO_DIFFERENCES_label)])) rfl (by rw [hml]; rfl) (Steps.refl _) (argsL := [(.ref u_Status_NO_DIFFERENCES_label)]) (rest := []) (lenOf pd_2 rfl) rfl (by show 2 * 0 + _ ≤ _; exact Nat.le_of_eq rfl) (hb hby at_73) (fun _ _ => ⟨rfl, e19, (by decide : 0 + 0 ≤ _), (by decide : 0 + 0 ≤ _)⟩)
    dsimp only [Pt.U, Pt.locs, Pt.cells, Pt.slots] at X20 l20 y20 z20 st20 hQ20
    subst l20 y20 z20
    obtain ⟨rfl, N20q, e20⟩ := hQ20
    have N20 := Fr.app N19 N20q
    refine OwnGo.st (fun _ k => st20.trans k) ?_
    show OwnGo p e below s _ _ _ T20 (mkF m 76 #[.val (.int p1), .val (.int (1 : Int32)), .val (.ref u_Verdict_NO_DIFFERENCES), .val (.ref u_Status_NO_DIFFERENCES), .val (.ref u_Status_NO_DIFFERENCES)] [(.int (1 : Int32))])
    exact OwnGo.retN X20 hx (t := .boolean) hret hlk (by simp) (hb hby at_76) (by show Q0 Z p1 u_Verdict_MESSAGES_DIFFER u_Status_MESSAGES_DIFFER u_Verdict_NO_DIFFERENCES u_Status_SKIPPED u_Status_MESSAGES_DIFFER_label u_Status_NO_DIFFERENCES u_Status_NO_DIFFERENCES_label u_Status_SKIPPED_label h0 n0 _ T20.heap _; rw [e20]; exact ⟨rfl, N20⟩) (by decide) (by decide)
set_option maxRecDepth 65536 in
set_option maxHeartbeats 40000000 in
theorem comes_1 {Post : Tables → Env → Array Value → State → Outcome → State → Prop} (hpost : ∀ tb e args s v u, (limb_1_1.after args s (.returned v) u = true ∧ limb_1_2.after args s (.returned v) u = true ∧ True) → FrameEnd s (.returned v) u (Jvm.fieldLocs frame_1_writes args s ++ Jvm.arrayLocs frame_1_arrays args s ++ Jvm.staticLocs frame_1_statics s) 0 0 → Post tb e args s (.returned v) u) :
    ArmFor flags0 classFile x code maxLocals ret World_1 tables_1 room_1 Calls_1 rest_1 Pre_1 Post := by
  intro l hfl _ _ p e ha hc hk s m args below hf hA hF happ hP
  obtain ⟨hcalls, hrest, hpre⟩ := hP
  obtain ⟨-, -, -, hnamed, -, -, -, hat⟩ := (Spec.applies_iff hf).mp happ
  obtain ⟨hg, hn⟩ := and_e (Cond.before_iff.mp (show (Jvm.Cond.and given_1 narrow_1).before args s = true from hpre))
  obtain ⟨hcnt, hg⟩ := and_e hg
  have hg0 := hg
  obtain ⟨w0, rfl⟩ : ∃ w0 : Value, args = #[w0] := by
    have hs : args.size = 1 := by simpa [Cond.value, given_1] using hcnt
    obtain ⟨L⟩ := args
    match L, hs with
    | [w0], _ => exact ⟨w0, rfl⟩
  have hw := fun d (hd : d ∈ tables_1) => atoms_spec (ws := Jvm.Cond.code x code maxLocals ret :: tables_1) hat d (List.mem_cons_of_mem _ hd)
  have hfit : Fit s := fun {y c} hc i hi => by
    obtain ⟨ha, rfl⟩ := Array.getElem?_eq_some_iff.mp hc
    have q := List.all_eq_true.mp ((Array.all_eq_true_iff_forall_mem.mp hF) _ (Array.getElem_mem ha)) i (List.mem_range.mpr hi)
    simpa [Array.getElem?_eq_getElem hi] using q
  obtain ⟨i0, ei0⟩ := is_v hg0
  obtain rfl : w0 = (.int i0) := Option.some.inj ei0
  obtain ⟨nr0, hn⟩ := and_e hn
  obtain ⟨nr1, hn⟩ := and_e hn
  obtain ⟨nr2, hn⟩ := and_e hn
  obtain ⟨nr3, hn⟩ := and_e hn
  obtain ⟨nr4, hn⟩ := and_e hn
  obtain ⟨nr5, hn⟩ := and_e hn
  obtain ⟨nr6, hn⟩ := and_e hn
  obtain ⟨nr7, hn⟩ := and_e hn
  obtain ⟨nr8, hn⟩ := and_e hn
  obtain ⟨nr9, hn⟩ := and_e hn
  obtain ⟨nr10, hn⟩ := and_e hn
  obtain ⟨nr11, hn⟩ := and_e hn
  obtain ⟨nr12, hn⟩ := and_e hn
  obtain ⟨nr13, hn⟩ := and_e hn
  have nr14 := hn
  obtain ⟨u_Verdict_MESSAGES_DIFFER, ev_u_Verdict_MESSAGES_DIFFER⟩ := exa_v nr0
  have S_u_Verdict_MESSAGES_DIFFER := Sta.start ev_u_Verdict_MESSAGES_DIFFER (Or.inr ⟨(hw _ (List.mem_of_getElem? (i := 1) rfl)), (hw _ (List.mem_of_getElem? (i := 2) rfl))⟩)
  have E_u_Verdict_MESSAGES_DIFFER := Exa.start ev_u_Verdict_MESSAGES_DIFFER nr0
  obtain ⟨u_Status_MESSAGES_DIFFER, ev_u_Status_MESSAGES_DIFFER⟩ := exa_v nr1
  have S_u_Status_MESSAGES_DIFFER := Sta.start ev_u_Status_MESSAGES_DIFFER (Or.inr ⟨(hw _ (List.mem_of_getElem? (i := 4) rfl)), (hw _ (List.mem_of_getElem? (i := 5) rfl))⟩)
  have E_u_Status_MESSAGES_DIFFER := Exa.start ev_u_Status_MESSAGES_DIFFER nr1
  obtain ⟨u_Verdict_NO_DIFFERENCES, ev_u_Verdict_NO_DIFFERENCES⟩ := exa_v nr2
  have S_u_Verdict_NO_DIFFERENCES := Sta.start ev_u_Verdict_NO_DIFFERENCES (Or.inr ⟨(hw _ (List.mem_of_getElem? (i := 1) rfl)), (hw _ (List.mem_of_getElem? (i := 10) rfl))⟩)
  have E_u_Verdict_NO_DIFFERENCES := Exa.start ev_u_Verdict_NO_DIFFERENCES nr2
  have ev_nr3 := own_eqi nr3
  have F_u_Verdict_MESSAGES_DIFFER_ordinal := Fld.start (C := "java/lang/Enum") (n := "ordinal") (d := "I") ((fld_at ev_u_Verdict_MESSAGES_DIFFER).symm.trans ev_nr3)
  have ev_nr4 := own_eqi nr4
  have F_u_Verdict_NO_DIFFERENCES_ordinal := Fld.start (C := "java/lang/Enum") (n := "ordinal") (d := "I") ((fld_at ev_u_Verdict_NO_DIFFERENCES).symm.trans ev_nr4)
  obtain ⟨u_Status_SKIPPED, ev_u_Status_SKIPPED⟩ := exa_v nr5
  have S_u_Status_SKIPPED := Sta.start ev_u_Status_SKIPPED (Or.inr ⟨(hw _ (List.mem_of_getElem? (i := 4) rfl)), (hw _ (List.mem_of_getElem? (i := 13) rfl))⟩)
  have E_u_Status_SKIPPED := Exa.start ev_u_Status_SKIPPED nr5
  have ev_nr6 := own_eqi nr6
  have F_u_Status_MESSAGES_DIFFER_ordinal := Fld.start (C := "java/lang/Enum") (n := "ordinal") (d := "I") ((fld_at ev_u_Status_MESSAGES_DIFFER).symm.trans ev_nr6)
  have ev_nr7 := own_eqi nr7
  have F_u_Status_SKIPPED_ordinal := Fld.start (C := "java/lang/Enum") (n := "ordinal") (d := "I") ((fld_at ev_u_Status_SKIPPED).symm.trans ev_nr7)
  obtain ⟨u_Status_MESSAGES_DIFFER_label, ev_u_Status_MESSAGES_DIFFER_label⟩ := exa_v nr8
  have F_u_Status_MESSAGES_DIFFER_label := Fld.start (C := "com/example/mapweft/mapweft/suite/Status") (n := "label") (d := "Ljava/lang/String;") ((fld_at ev_u_Status_MESSAGES_DIFFER).symm.trans ev_u_Status_MESSAGES_DIFFER_label)
  have E_u_Status_MESSAGES_DIFFER_label := Exa.start ev_u_Status_MESSAGES_DIFFER_label nr8
  have ev_nr9 := own_eqv nr9 ev_u_Status_MESSAGES_DIFFER_label rfl
  have F_u_Verdict_MESSAGES_DIFFER_label := Fld.start (C := "com/example/mapweft/mapweft/compare/Verdict") (n := "label") (d := "Ljava/lang/String;") ((fld_at ev_u_Verdict_MESSAGES_DIFFER).symm.trans ev_nr9)
  obtain ⟨u_Status_NO_DIFFERENCES, ev_u_Status_NO_DIFFERENCES⟩ := exa_v nr10
  have S_u_Status_NO_DIFFERENCES := Sta.start ev_u_Status_NO_DIFFERENCES (Or.inr ⟨(hw _ (List.mem_of_getElem? (i := 4) rfl)), (hw _ (List.mem_of_getElem? (i := 36) rfl))⟩)
  have E_u_Status_NO_DIFFERENCES := Exa.start ev_u_Status_NO_DIFFERENCES nr10
  have ev_nr11 := own_eqi nr11
  have F_u_Status_NO_DIFFERENCES_ordinal := Fld.start (C := "java/lang/Enum") (n := "ordinal") (d := "I") ((fld_at ev_u_Status_NO_DIFFERENCES).symm.trans ev_nr11)
  obtain ⟨u_Status_NO_DIFFERENCES_label, ev_u_Status_NO_DIFFERENCES_label⟩ := exa_v nr12
  have F_u_Status_NO_DIFFERENCES_label := Fld.start (C := "com/example/mapweft/mapweft/suite/Status") (n := "label") (d := "Ljava/lang/String;") ((fld_at ev_u_Status_NO_DIFFERENCES).symm.trans ev_u_Status_NO_DIFFERENCES_label)
  have E_u_Status_NO_DIFFERENCES_label := Exa.start ev_u_Status_NO_DIFFERENCES_label nr12
  have ev_nr13 := own_eqv nr13 ev_u_Status_NO_DIFFERENCES_label rfl
  have F_u_Verdict_NO_DIFFERENCES_label := Fld.start (C := "com/example/mapweft/mapweft/compare/Verdict") (n := "label") (d := "Ljava/lang/String;") ((fld_at ev_u_Verdict_NO_DIFFERENCES).symm.trans ev_nr13)
  obtain ⟨u_Status_SKIPPED_label, ev_u_Status_SKIPPED_label⟩ := exa_v nr14
  have F_u_Status_SKIPPED_label := Fld.start (C := "com/example/mapweft/mapweft/suite/Status") (n := "label") (d := "Ljava/lang/String;") ((fld_at ev_u_Status_SKIPPED).symm.trans ev_u_Status_SKIPPED_label)
  have E_u_Status_SKIPPED_label := Exa.start ev_u_Status_SKIPPED_label nr14
  obtain ⟨n, o, h1, h2, h3, _, L, rfl, ⟨rfl, N⟩, hq⟩ := rm0 l s _ hw tables_1 i0 u_Verdict_MESSAGES_DIFFER u_Status_MESSAGES_DIFFER u_Verdict_NO_DIFFERENCES u_Status_SKIPPED u_Status_MESSAGES_DIFFER_label u_Status_NO_DIFFERENCES u_Status_NO_DIFFERENCES_label u_Status_SKIPPED_label s.heap s.heap.size (Nat.le_refl _) (Old.start s) S_u_Verdict_MESSAGES_DIFFER E_u_Verdict_MESSAGES_DIFFER S_u_Status_MESSAGES_DIFFER E_u_Status_MESSAGES_DIFFER S_u_Verdict_NO_DIFFERENCES E_u_Verdict_NO_DIFFERENCES F_u_Verdict_MESSAGES_DIFFER_ordinal F_u_Verdict_NO_DIFFERENCES_ordinal S_u_Status_SKIPPED E_u_Status_SKIPPED F_u_Status_MESSAGES_DIFFER_ordinal F_u_Status_SKIPPED_ordinal F_u_Status_MESSAGES_DIFFER_label E_u_Status_MESSAGES_DIFFER_label F_u_Verdict_MESSAGES_DIFFER_label S_u_Status_NO_DIFFERENCES E_u_Status_NO_DIFFERENCES F_u_Status_NO_DIFFERENCES_ordinal F_u_Status_NO_DIFFERENCES_label E_u_Status_NO_DIFFERENCES_label F_u_Verdict_NO_DIFFERENCES_label F_u_Status_SKIPPED_label E_u_Status_SKIPPED_label  p e ha hc hk s m _ below hf ((Spec.applies_iff_loose hf).mp happ).1 ⟨rfl, State.Warmed39.refl s, rfl⟩ trivial
  refine ⟨n, _, h1, h2, h3, hpost _ _ _ _ _ _ ⟨Cond.after_iff.mpr rfl, Cond.after_iff.mpr (eq_i res_at (Term.int_eval (1)) rfl), trivial⟩ ⟨hq.1, hq.2.1, (hq.2.2.sift fun y hy => Or.inr (N y hy)).mono (by decide) (by decide)⟩⟩
theorem main_1_1 : Claimed_1_1 := comes_1 fun _ _ _ _ _ _ h hF => ⟨h.1, hF⟩
theorem main_1_2 : Claimed_1_2 := comes_1 fun _ _ _ _ _ _ h hF => ⟨h.2.1, hF⟩
end Jvm.Pilot.@@N@@
namespace Jvm.Pilot.@@N@@
open Jvm Jvm.ClassFile Sem Op Lib Jvm.Free Jvm.Stand Jvm.Pilot.@@N@@.Jvm.D
/-! MADE BY PROGRAM (witnessworld.py) out of the Statement's table words and the real class files: 16 classes; the members and pool entries that the words name. The judged class is class 1, her method 1. -/
namespace start1
open Jvm.ClassFile
def u (s : String) : CpInfo := .utf8 (stringToUtf16 s)
/-- a pool by its gaps: so many unusable entries, then the entry; so many at the end -/
def gap : Nat → List CpInfo → List CpInfo
  | 0, r => r
  | n + 1, r => .unusable :: gap n r
def poolList (es : List (Nat × CpInfo)) (last : Nat) : List CpInfo := es.foldr (fun e r => gap e.1 (e.2 :: r)) (gap last [])
def pool (es : List (Nat × CpInfo)) (last : Nat) : Array CpInfo := ⟨poolList es last⟩
def fileOf (pool : Array CpInfo) (this : Nat) (attrs : Array Attribute := #[]) (ms : Array MethodInfo := #[]) (fl : Nat := 33) (sup : Nat := 0) (ifs : Array Nat := #[]) (fds : Array FieldInfo := #[]) : ClassFile where
  minorVersion := 0
  majorVersion := 65
  constantPool := pool
  accessFlags := fl
  thisClass := this
  superClass := sup
  interfaces := ifs
  fields := fds
  methods := ms
  attributes := attrs
def plain (name : String) (sup : Option ClassId) : Class where
  name := name
  kind := .ordinary
  loader := none
  accessFlags := 33
  super := sup
  interfaces := #[]
  cf := none
  fields := #[]
  methods := #[]
  instanceTypes := #[]
  staticTypes := #[]
  resolved := #[]
  callSites := []
  init := .initialized
  statics := none
  mirror := none

def pool0 : Array CpInfo := pool [(5, u "<init>"), (0, u "()V"), (1, .class_ 10), (1, u "java/lang/Object")] 113

def k0m0 : Method := { name := "<init>", desc := "()V", sig := { parameters := [], returnType := none }, accessFlags := 1, code := none }
/-- java/lang/Object -/
def k0 : Class := { plain "java/lang/Object" none with
  accessFlags := 33
  interfaces := #[]
  cf := some (fileOf pool0 8 #[] #[{ accessFlags := 1, nameIndex := 5, descriptorIndex := 6, attributes := #[] }] 33 0 #[] #[])
  fields := #[]
  methods := #[k0m0]
  instanceTypes := #[]
  staticTypes := #[]
  resolved := Array.replicate 124 none
  statics := none }

def pool1 : Array CpInfo := pool [(2, .class_ 4), (1, u "java/lang/Object"), (0, u "<init>"), (0, u "()V"), (0, .fieldref 8 9), (0, .class_ 10), (0, .nameAndType 11 12), (0, u "com/example/mapweft/mapweft/compare/Verdict"), (0, u "NO_DIFFERENCES"), (0, u "Lcom/example/mapweft/mapweft/compare/Verdict;"), (0, .fieldref 8 14), (0, .nameAndType 15 12), (0, u "MESSAGES_DIFFER"), (0, .fieldref 17 18), (0, .class_ 19), (0, .nameAndType 11 20), (0, u "com/example/mapweft/mapweft/suite/Status"), (0, u "Lcom/example/mapweft/mapweft/suite/Status;"), (0, .fieldref 17 22), (0, .nameAndType 15 20), (0, .methodref 17 24), (0, .nameAndType 25 26), (0, u "of"), (0, u "(Lcom/example/mapweft/mapweft/compare/Verdict;)Lcom/example/mapweft/mapweft/suite/Status;"), (0, .fieldref 17 28), (0, .nameAndType 29 20), (0, u "SKIPPED"), (0, .methodref 17 31), (0, .nameAndType 32 33), (0, u "label"), (0, u "()Ljava/lang/String;"), (0, .methodref 8 31), (0, .methodref 36 37), (0, .class_ 38), (0, .nameAndType 39 40), (0, u "java/lang/String"), (0, u "equals"), (0, u "(Ljava/lang/Object;)Z"), (0, .class_ 42), (0, u "com/example/mapweft/mapweft/suite/StatusOfPinLaw"), (2, u "law"), (0, u "(I)Z")] 3

def k1m0 : Method := { name := "<init>", desc := "()V", sig := { parameters := [], returnType := none }, accessFlags := 1, code := none }
def k1c1 : Code := { maxStack := 2, maxLocals := 5, code := code, exceptionTable := #[], attributes := #[] }
def k1m1 : Method := { name := "law", desc := "(I)Z", sig := { parameters := [.int], returnType := some .boolean }, accessFlags := 9, code := some k1c1 }
/-- com/example/mapweft/mapweft/suite/StatusOfPinLaw -/
def k1 : Class := { plain "com/example/mapweft/mapweft/suite/StatusOfPinLaw" (some 0) with
  accessFlags := 49
  interfaces := #[]
  cf := some (fileOf pool1 41 #[] #[{ accessFlags := 1, nameIndex := 5, descriptorIndex := 6, attributes := #[] }, { accessFlags := 9, nameIndex := 45, descriptorIndex := 46, attributes := #[] }] 49 2 #[] #[])
  fields := #[]
  methods := #[k1m0, k1m1]
  instanceTypes := #[]
  staticTypes := #[]
  resolved := Array.replicate 50 none
  statics := none }

def pool2 : Array CpInfo := pool [(1, .class_ 2), (0, u "java/lang/constant/Constable"), (0, .class_ 4), (0, u "java/lang/Object")] 6

/-- java/lang/constant/Constable -/
def k2 : Class := { plain "java/lang/constant/Constable" (some 0) with
  accessFlags := 1537
  interfaces := #[]
  cf := some (fileOf pool2 1 #[] #[] 1537 3 #[] #[])
  fields := #[]
  methods := #[]
  instanceTypes := #[]
  staticTypes := #[]
  resolved := Array.replicate 11 none
  statics := none }

def pool3 : Array CpInfo := pool [(1, .class_ 2), (0, u "java/lang/Comparable"), (0, .class_ 4), (0, u "java/lang/Object")] 7

/-- java/lang/Comparable -/
def k3 : Class := { plain "java/lang/Comparable" (some 0) with
  accessFlags := 1537
  interfaces := #[]
  cf := some (fileOf pool3 1 #[] #[] 1537 3 #[] #[])
  fields := #[]
  methods := #[]
  instanceTypes := #[]
  staticTypes := #[]
  resolved := Array.replicate 12 none
  statics := none }

def pool4 : Array CpInfo := pool [(1, .class_ 2), (0, u "java/io/Serializable"), (0, .class_ 4), (0, u "java/lang/Object")] 2

/-- java/io/Serializable -/
def k4 : Class := { plain "java/io/Serializable" (some 0) with
  accessFlags := 1537
  interfaces := #[]
  cf := some (fileOf pool4 1 #[] #[] 1537 3 #[] #[])
  fields := #[]
  methods := #[]
  instanceTypes := #[]
  staticTypes := #[]
  resolved := Array.replicate 7 none
  statics := none }

def pool5 : Array CpInfo := pool [(2, .class_ 4), (1, u "java/lang/Enum"), (0, u "name"), (0, u "Ljava/lang/String;"), (2, u "ordinal"), (0, u "I"), (1, .class_ 14), (1, u "java/lang/Object"), (4, u "hash"), (86, .class_ 108), (1, u "java/lang/Enum$EnumDesc"), (2, .class_ 112), (0, u "java/lang/constant/Constable"), (0, .class_ 114), (0, u "java/lang/Comparable"), (0, .class_ 116), (0, u "java/io/Serializable")] 87

/-- java/lang/Enum -/
def k5 : Class := { plain "java/lang/Enum" (some 0) with
  accessFlags := 1057
  interfaces := #[2, 3, 4]
  cf := some (fileOf pool5 2 #[.nestMembers #[106]] #[] 1057 12 #[111, 113, 115] #[{ accessFlags := 18, nameIndex := 5, descriptorIndex := 6, attributes := #[] }, { accessFlags := 18, nameIndex := 9, descriptorIndex := 10, attributes := #[] }, { accessFlags := 2, nameIndex := 19, descriptorIndex := 10, attributes := #[] }])
  fields := #[{ name := "name", type := (.object "java/lang/String"), accessFlags := 18, slot := 0, constantValue := 0 }, { name := "ordinal", type := .int, accessFlags := 18, slot := 1, constantValue := 0 }, { name := "hash", type := .int, accessFlags := 2, slot := 2, constantValue := 0 }]
  methods := #[]
  instanceTypes := #[(.object "java/lang/String"), .int, .int]
  staticTypes := #[]
  resolved := Array.replicate 204 none
  statics := none }

def pool6 : Array CpInfo := pool [(1, .class_ 2), (0, u "com/example/mapweft/mapweft/compare/Verdict"), (2, u "NO_DIFFERENCES"), (0, u "Lcom/example/mapweft/mapweft/compare/Verdict;"), (2, u "MESSAGES_DIFFER"), (2, u "$VALUES"), (0, u "[Lcom/example/mapweft/mapweft/compare/Verdict;"), (6, .class_ 22), (1, u "java/lang/Enum"), (6, .fieldref 1 30), (0, .nameAndType 31 32), (0, u "label"), (0, u "Ljava/lang/String;"), (20, u "()Ljava/lang/String;")] 5

def k6c0 : Code := { maxStack := 1, maxLocals := 1, code := prog_9_method_4_code, exceptionTable := #[], attributes := #[] }
def k6m0 : Method := { name := "label", desc := "()Ljava/lang/String;", sig := { parameters := [], returnType := some (.object "java/lang/String") }, accessFlags := 1, code := some k6c0 }
/-- com/example/mapweft/mapweft/compare/Verdict -/
def k6 : Class := { plain "com/example/mapweft/mapweft/compare/Verdict" (some 5) with
  accessFlags := 16433
  interfaces := #[]
  cf := some (fileOf pool6 1 #[] #[{ accessFlags := 1, nameIndex := 31, descriptorIndex := 53, attributes := #[] }] 16433 20 #[] #[{ accessFlags := 16409, nameIndex := 5, descriptorIndex := 6, attributes := #[] }, { accessFlags := 16409, nameIndex := 9, descriptorIndex := 6, attributes := #[] }, { accessFlags := 18, nameIndex := 31, descriptorIndex := 32, attributes := #[] }, { accessFlags := 4122, nameIndex := 12, descriptorIndex := 13, attributes := #[] }])
  fields := #[{ name := "NO_DIFFERENCES", type := (.object "com/example/mapweft/mapweft/compare/Verdict"), accessFlags := 16409, slot := 0, constantValue := 0 }, { name := "MESSAGES_DIFFER", type := (.object "com/example/mapweft/mapweft/compare/Verdict"), accessFlags := 16409, slot := 1, constantValue := 0 }, { name := "label", type := (.object "java/lang/String"), accessFlags := 18, slot := 3, constantValue := 0 }, { name := "$VALUES", type := (.array (.object "com/example/mapweft/mapweft/compare/Verdict")), accessFlags := 4122, slot := 2, constantValue := 0 }]
  methods := #[k6m0]
  instanceTypes := #[(.object "java/lang/String"), .int, .int, (.object "java/lang/String")]
  staticTypes := #[(.object "com/example/mapweft/mapweft/compare/Verdict"), (.object "com/example/mapweft/mapweft/compare/Verdict"), (.array (.object "com/example/mapweft/mapweft/compare/Verdict"))]
  resolved := Array.replicate 59 none
  statics := some 0 }

def pool7 : Array CpInfo := pool [(1, .class_ 2), (0, u "com/example/mapweft/mapweft/suite/Status"), (0, .fieldref 1 4), (0, .nameAndType 5 6), (0, u "NO_DIFFERENCES"), (0, u "Lcom/example/mapweft/mapweft/suite/Status;"), (0, .fieldref 1 8), (0, .nameAndType 9 6), (0, u "MESSAGES_DIFFER"), (2, u "SKIPPED"), (2, u "$VALUES"), (0, u "[Lcom/example/mapweft/mapweft/suite/Status;"), (6, .class_ 25), (1, u "java/lang/Enum"), (6, .fieldref 1 33), (0, .nameAndType 34 35), (0, u "label"), (0, u "Ljava/lang/String;"), (0, .fieldref 37 38), (0, .class_ 39), (0, .nameAndType 5 40), (0, u "com/example/mapweft/mapweft/compare/Verdict"), (0, u "Lcom/example/mapweft/mapweft/compare/Verdict;"), (3, u "()Ljava/lang/String;"), (20, u "of"), (0, u "(Lcom/example/mapweft/mapweft/compare/Verdict;)Lcom/example/mapweft/mapweft/suite/Status;")] 6

def k7c0 : Code := { maxStack := 2, maxLocals := 1, code := prog_55_method_4_code, exceptionTable := #[], attributes := #[] }
def k7m0 : Method := { name := "of", desc := "(Lcom/example/mapweft/mapweft/compare/Verdict;)Lcom/example/mapweft/mapweft/suite/Status;", sig := { parameters := [(.object "com/example/mapweft/mapweft/compare/Verdict")], returnType := some (.object "com/example/mapweft/mapweft/suite/Status") }, accessFlags := 9, code := some k7c0 }
def k7c1 : Code := { maxStack := 1, maxLocals := 1, code := prog_55_method_5_code, exceptionTable := #[], attributes := #[] }
def k7m1 : Method := { name := "label", desc := "()Ljava/lang/String;", sig := { parameters := [], returnType := some (.object "java/lang/String") }, accessFlags := 1, code := some k7c1 }
/-- com/example/mapweft/mapweft/suite/Status -/
def k7 : Class := { plain "com/example/mapweft/mapweft/suite/Status" (some 5) with
  accessFlags := 16433
  interfaces := #[]
  cf := some (fileOf pool7 1 #[] #[{ accessFlags := 9, nameIndex := 65, descriptorIndex := 66, attributes := #[] }, { accessFlags := 1, nameIndex := 34, descriptorIndex := 44, attributes := #[] }] 16433 23 #[] #[{ accessFlags := 16409, nameIndex := 5, descriptorIndex := 6, attributes := #[] }, { accessFlags := 16409, nameIndex := 9, descriptorIndex := 6, attributes := #[] }, { accessFlags := 16409, nameIndex := 12, descriptorIndex := 6, attributes := #[] }, { accessFlags := 18, nameIndex := 34, descriptorIndex := 35, attributes := #[] }, { accessFlags := 4122, nameIndex := 15, descriptorIndex := 16, attributes := #[] }])
  fields := #[{ name := "NO_DIFFERENCES", type := (.object "com/example/mapweft/mapweft/suite/Status"), accessFlags := 16409, slot := 0, constantValue := 0 }, { name := "MESSAGES_DIFFER", type := (.object "com/example/mapweft/mapweft/suite/Status"), accessFlags := 16409, slot := 1, constantValue := 0 }, { name := "SKIPPED", type := (.object "com/example/mapweft/mapweft/suite/Status"), accessFlags := 16409, slot := 2, constantValue := 0 }, { name := "label", type := (.object "java/lang/String"), accessFlags := 18, slot := 3, constantValue := 0 }, { name := "$VALUES", type := (.array (.object "com/example/mapweft/mapweft/suite/Status")), accessFlags := 4122, slot := 3, constantValue := 0 }]
  methods := #[k7m0, k7m1]
  instanceTypes := #[(.object "java/lang/String"), .int, .int, (.object "java/lang/String")]
  staticTypes := #[(.object "com/example/mapweft/mapweft/suite/Status"), (.object "com/example/mapweft/mapweft/suite/Status"), (.object "com/example/mapweft/mapweft/suite/Status"), (.array (.object "com/example/mapweft/mapweft/suite/Status"))]
  resolved := Array.replicate 73 none
  statics := some 1 }

def pool8 : Array CpInfo := pool [(2, .class_ 4), (1, u "java/lang/CharSequence"), (42, .class_ 48), (0, u "java/lang/CharSequence$1CodePointIterator"), (10, .class_ 60), (0, u "java/lang/CharSequence$1CharIterator"), (5, .class_ 67), (0, u "java/lang/Object")] 63

/-- java/lang/CharSequence -/
def k8 : Class := { plain "java/lang/CharSequence" (some 0) with
  accessFlags := 1537
  interfaces := #[]
  cf := some (fileOf pool8 2 #[.nestMembers #[47, 59]] #[] 1537 66 #[] #[])
  fields := #[]
  methods := #[]
  instanceTypes := #[]
  staticTypes := #[]
  resolved := Array.replicate 131 none
  statics := none }

def pool9 : Array CpInfo := pool [(1, .class_ 2), (0, u "java/lang/constant/ConstantDesc"), (0, .class_ 4), (0, u "java/lang/Object")] 32

/-- java/lang/constant/ConstantDesc -/
def k9 : Class := { plain "java/lang/constant/ConstantDesc" (some 0) with
  accessFlags := 1537
  interfaces := #[]
  cf := some (fileOf pool9 1 #[] #[] 1537 3 #[] #[])
  fields := #[]
  methods := #[]
  instanceTypes := #[]
  staticTypes := #[]
  resolved := Array.replicate 37 none
  statics := none }

def pool10 : Array CpInfo := pool [(2, .class_ 4), (1, u "java/lang/Object"), (0, u "<init>"), (0, u "()V"), (3, .class_ 12), (1, u "java/lang/String"), (0, u "value"), (0, u "[B"), (2, u "coder"), (0, u "B"), (2, u "hash"), (0, u "I"), (2, u "hashIsZero"), (0, u "Z"), (13, u "COMPACT_STRINGS"), (502, u "equals"), (29, u "(Ljava/lang/Object;)Z"), (1, .class_ 576), (0, u "java/lang/CharSequence"), (22, u "CASE_INSENSITIVE_ORDER"), (0, u "Ljava/util/Comparator;"), (500, u "serialPersistentFields"), (0, u "[Ljava/io/ObjectStreamField;"), (0, .class_ 1104), (0, u "java/lang/String$CaseInsensitiveComparator"), (1, .class_ 1107), (0, u "java/io/Serializable"), (0, .class_ 1109), (0, u "java/lang/Comparable"), (0, .class_ 1111), (0, u "java/lang/constant/Constable"), (0, .class_ 1113), (0, u "java/lang/constant/ConstantDesc"), (2, u "serialVersionUID"), (0, u "J"), (3, u "REPL"), (0, u "C"), (2, u "LATIN1"), (1, u "UTF16")] 323

def k10m0 : Method := { name := "<init>", desc := "()V", sig := { parameters := [], returnType := none }, accessFlags := 1, code := none }
def k10c1 : Code := { maxStack := 2, maxLocals := 3, code := jdk_42_method_66_code, exceptionTable := #[], attributes := #[] }
def k10m1 : Method := { name := "equals", desc := "(Ljava/lang/Object;)Z", sig := { parameters := [(.object "java/lang/Object")], returnType := some .boolean }, accessFlags := 1, code := some k10c1 }
/-- java/lang/String -/
def k10 : Class := { plain "java/lang/String" (some 0) with
  accessFlags := 49
  interfaces := #[4, 3, 8, 2, 9]
  cf := some (fileOf pool10 10 #[.nestMembers #[1103]] #[{ accessFlags := 1, nameIndex := 5, descriptorIndex := 6, attributes := #[] }, { accessFlags := 1, nameIndex := 543, descriptorIndex := 573, attributes := #[] }] 49 2 #[1106, 1108, 575, 1110, 1112] #[{ accessFlags := 18, nameIndex := 13, descriptorIndex := 14, attributes := #[] }, { accessFlags := 18, nameIndex := 17, descriptorIndex := 18, attributes := #[] }, { accessFlags := 2, nameIndex := 21, descriptorIndex := 22, attributes := #[] }, { accessFlags := 2, nameIndex := 25, descriptorIndex := 26, attributes := #[] }, { accessFlags := 26, nameIndex := 1116, descriptorIndex := 1117, attributes := #[] }, { accessFlags := 24, nameIndex := 40, descriptorIndex := 26, attributes := #[] }, { accessFlags := 26, nameIndex := 1101, descriptorIndex := 1102, attributes := #[] }, { accessFlags := 26, nameIndex := 1121, descriptorIndex := 1122, attributes := #[] }, { accessFlags := 25, nameIndex := 599, descriptorIndex := 600, attributes := #[] }, { accessFlags := 24, nameIndex := 1125, descriptorIndex := 18, attributes := #[] }, { accessFlags := 24, nameIndex := 1127, descriptorIndex := 18, attributes := #[] }])
  fields := #[{ name := "value", type := (.array .byte), accessFlags := 18, slot := 0, constantValue := 0 }, { name := "coder", type := .byte, accessFlags := 18, slot := 1, constantValue := 0 }, { name := "hash", type := .int, accessFlags := 2, slot := 2, constantValue := 0 }, { name := "hashIsZero", type := .boolean, accessFlags := 2, slot := 3, constantValue := 0 }, { name := "serialVersionUID", type := .long, accessFlags := 26, slot := 0, constantValue := 0 }, { name := "COMPACT_STRINGS", type := .boolean, accessFlags := 24, slot := 1, constantValue := 0 }, { name := "serialPersistentFields", type := (.array (.object "java/io/ObjectStreamField")), accessFlags := 26, slot := 2, constantValue := 0 }, { name := "REPL", type := .char, accessFlags := 26, slot := 3, constantValue := 0 }, { name := "CASE_INSENSITIVE_ORDER", type := (.object "java/util/Comparator"), accessFlags := 25, slot := 4, constantValue := 0 }, { name := "LATIN1", type := .byte, accessFlags := 24, slot := 5, constantValue := 0 }, { name := "UTF16", type := .byte, accessFlags := 24, slot := 6, constantValue := 0 }]
  methods := #[k10m0, k10m1]
  instanceTypes := #[(.array .byte), .byte, .int, .boolean]
  staticTypes := #[.long, .boolean, (.array (.object "java/io/ObjectStreamField")), .char, (.object "java/util/Comparator"), .byte, .byte]
  resolved := Array.replicate 1451 none
  statics := none }

def pool11 : Array CpInfo := pool [(1, u "java/lang/Cloneable"), (0, .class_ 1), (0, u "java/lang/Object"), (0, .class_ 3)] 3

/-- java/lang/Cloneable -/
def k11 : Class := { plain "java/lang/Cloneable" (some 0) with
  accessFlags := 1537
  interfaces := #[]
  cf := some (fileOf pool11 2 #[] #[] 1537 4 #[] #[])
  fields := #[]
  methods := #[]
  instanceTypes := #[]
  staticTypes := #[]
  resolved := Array.replicate 8 none
  statics := none }

/-- the primitive byte -/
def k12 : Class := { plain "byte" none with kind := .primitive 'B', accessFlags := 0x411 }
/-- [B -/
def k13 : Class := { plain "[B" (some 0) with kind := .array 12 .byte, interfaces := #[11, 4], accessFlags := 1041 }

/-- the primitive int -/
def k14 : Class := { plain "int" none with kind := .primitive 'I', accessFlags := 0x411 }
/-- [I -/
def k15 : Class := { plain "[I" (some 0) with kind := .array 14 .int, interfaces := #[11, 4], accessFlags := 1041 }

def heap : Heap := #[{ cls := 6, slots := #[.ref 5, .ref 6, .null], vm := .statics 6 },
  { cls := 7, slots := #[.ref 7, .ref 8, .ref 9, .null], vm := .statics 7 },
  { cls := 10, slots := #[.null, .int 0, .int 0, .int 0], vm := .none },
  { cls := 10, slots := #[.null, .int 0, .int 0, .int 0], vm := .none },
  { cls := 10, slots := #[.null, .int 0, .int 0, .int 0], vm := .none },
  { cls := 6, slots := #[.null, .int 0, .int 0, .ref 2], vm := .none },
  { cls := 6, slots := #[.null, .int 1, .int 0, .ref 3], vm := .none },
  { cls := 7, slots := #[.null, .int 0, .int 0, .ref 2], vm := .none },
  { cls := 7, slots := #[.null, .int 1, .int 0, .ref 3], vm := .none },
  { cls := 7, slots := #[.null, .int 2, .int 0, .ref 4], vm := .none }]
def classes : Array Class := #[k0, k1, k2, k3, k4, k5, k6, k7, k8, k9, k10, k11, k12, k13, k14, k15]
def interned : List (Array UInt16 × Addr) := []
def slotsUsed : Nat := 39
def theMethod : MethodId := ⟨1, 1⟩
def args0 : Array Value := #[.int 1]
def aboutOver (below : List Frame) : State where
  vm := { classes := classes, interned := interned.toArray }
  heap := heap
  slotsUsed := slotsUsed
  threads := #[{ frames := .invoking theMethod args0 :: below }]
def below0 : List Frame := [.native { method := ⟨0, 0⟩, args := #[] }]
def about1 : State := aboutOver below0
def p0 : Program := .bare "" "" ""
def e0 : Env := launch0.env 0 0 0
theorem w_frames : about1.frames = Frame.invoking theMethod args0 :: below0 := rfl
set_option maxRecDepth 65536 in
theorem w_args : argsFit about1.vm theMethod args0 = true := by decide +kernel
set_option maxRecDepth 65536 in
theorem w_heap : heapFits about1 = true := by decide +kernel
set_option maxRecDepth 65536 in
theorem w_runnable : about1.curStatus? = some .runnable := by decide +kernel
set_option maxRecDepth 65536 in
theorem w_alone : about1.alone = true := by decide +kernel
set_option maxRecDepth 65536 in
theorem w_named : about1.methodNamed? x = some theMethod := by decide +kernel
set_option maxRecDepth 65536 in
theorem w_hears : about1.hears theMethod below0 = true := by decide +kernel
set_option maxRecDepth 65536 in
theorem w_ripe : about1.ripe theMethod args0 below0 = true := by decide +kernel
theorem w_running : about1.status = .running := rfl
set_option maxRecDepth 65536 in
theorem w_room : about1.hasRoom e0.platform room_1 = true :=
  launch0.hasRoom_least _ room_1 (by decide +kernel) (by decide +kernel) (by decide +kernel) (by decide +kernel) (by decide +kernel) (by decide +kernel)
theorem allAtoms_all (ts : List Jvm.Cond) (a : Array Jvm.Value) (st : Jvm.State) : (allAtoms ts).before a st = ts.all (fun c => c.before a st) := by
  induction ts with
  | nil => rfl
  | cons c t ih =>
    show (Jvm.Cond.and c (allAtoms t)).before a st = _
    rw [Jvm.Cond.before_and, ih, List.all_cons]
def words1 : List Jvm.Cond := Jvm.Cond.code x code maxLocals ret :: tables_1
/-- a 'code' word, met by the world's own term for the bytes: nothing is compared byte by byte -/
theorem code_word {y : MethodName} {bytes : ByteArray} {mx : Nat} {rt : Option FieldType} {a : Array Value} {s : State} {m : MethodId} {meth : Method} {c : Code} (h1 : s.methodNamed? y = some m) (h2 : s.vm.method? m = some meth) (h3 : meth.code = some c) (h4 : c.code = bytes)
    (h5 : (c.maxLocals == mx && c.exceptionTable.isEmpty && decide (c.maxStack ≤ mostOperands) && decide (meth.sig.returnType = rt) && !meth.locks && decide (parseMethodDescriptor y.desc = some meth.sig)) = true) : (Jvm.Cond.code y bytes mx rt).before a s = true := by
  simp only [Bool.and_eq_true, beq_iff_eq, Bool.not_eq_true', decide_eq_true_eq] at h5
  obtain ⟨⟨⟨⟨⟨g1, g2⟩, g3⟩, g4⟩, g5⟩, g6⟩ := h5
  simp [Cond.before, Cond.holds, Cond.value, h1, h2, h3, h4, g1, g2, g3, g4, g5, g6]
def isCode : Jvm.Cond → Bool
  | .code _ _ _ _ => true
  | _ => false
theorem all_split {L : List Jvm.Cond} {P : Jvm.Cond → Bool} (h1 : L.all (fun c => isCode c || P c) = true) (h2 : ∀ c ∈ L.filter isCode, P c = true) : L.all P = true := by
  refine List.all_eq_true.mpr fun c hc => ?_
  have h := List.all_eq_true.mp h1 c hc
  rcases Bool.eq_false_or_eq_true (isCode c) with hi | hi
  · exact h2 c (List.mem_filter.mpr ⟨hc, hi⟩)
  · simpa [hi] using h
set_option maxRecDepth 65536 in
theorem w_c0 : (Jvm.Cond.code x code maxLocals ret).before args0 about1 = true := code_word (m := ⟨1, 1⟩) (meth := k1m1) (c := k1c1) (by decide +kernel) rfl rfl rfl (by decide +kernel)
set_option maxRecDepth 65536 in
theorem w_c1 : (Jvm.Cond.code ({ cls := "com/example/mapweft/mapweft/suite/Status", name := "of", desc := "(Lcom/example/mapweft/mapweft/compare/Verdict;)Lcom/example/mapweft/mapweft/suite/Status;" } : Jvm.MethodName) prog_55_method_4_code (1 : Nat) (Option.some (Jvm.ClassFile.FieldType.object "com/example/mapweft/mapweft/suite/Status"))).before args0 about1 = true := code_word (m := ⟨7, 0⟩) (meth := k7m0) (c := k7c0) (by decide +kernel) rfl rfl rfl (by decide +kernel)
set_option maxRecDepth 65536 in
theorem w_c2 : (Jvm.Cond.code ({ cls := "com/example/mapweft/mapweft/suite/Status", name := "label", desc := "()Ljava/lang/String;" } : Jvm.MethodName) prog_55_method_5_code (1 : Nat) (Option.some (Jvm.ClassFile.FieldType.object "java/lang/String"))).before args0 about1 = true := code_word (m := ⟨7, 1⟩) (meth := k7m1) (c := k7c1) (by decide +kernel) rfl rfl rfl (by decide +kernel)
set_option maxRecDepth 65536 in
theorem w_c3 : (Jvm.Cond.code ({ cls := "com/example/mapweft/mapweft/compare/Verdict", name := "label", desc := "()Ljava/lang/String;" } : Jvm.MethodName) prog_9_method_4_code (1 : Nat) (Option.some (Jvm.ClassFile.FieldType.object "java/lang/String"))).before args0 about1 = true := code_word (m := ⟨6, 0⟩) (meth := k6m0) (c := k6c0) (by decide +kernel) rfl rfl rfl (by decide +kernel)
set_option maxRecDepth 65536 in
theorem w_c4 : (Jvm.Cond.code ({ cls := "java/lang/String", name := "equals", desc := "(Ljava/lang/Object;)Z" } : Jvm.MethodName) jdk_42_method_66_code (3 : Nat) (Option.some Jvm.ClassFile.FieldType.boolean)).before args0 about1 = true := code_word (m := ⟨10, 1⟩) (meth := k10m1) (c := k10c1) (by decide +kernel) rfl rfl rfl (by decide +kernel)
def codes1 : List Jvm.Cond := [Jvm.Cond.code x code maxLocals ret, Jvm.Cond.code ({ cls := "com/example/mapweft/mapweft/suite/Status", name := "of", desc := "(Lcom/example/mapweft/mapweft/compare/Verdict;)Lcom/example/mapweft/mapweft/suite/Status;" } : Jvm.MethodName) prog_55_method_4_code (1 : Nat) (Option.some (Jvm.ClassFile.FieldType.object "com/example/mapweft/mapweft/suite/Status")), Jvm.Cond.code ({ cls := "com/example/mapweft/mapweft/suite/Status", name := "label", desc := "()Ljava/lang/String;" } : Jvm.MethodName) prog_55_method_5_code (1 : Nat) (Option.some (Jvm.ClassFile.FieldType.object "java/lang/String")), Jvm.Cond.code ({ cls := "com/example/mapweft/mapweft/compare/Verdict", name := "label", desc := "()Ljava/lang/String;" } : Jvm.MethodName) prog_9_method_4_code (1 : Nat) (Option.some (Jvm.ClassFile.FieldType.object "java/lang/String")), Jvm.Cond.code ({ cls := "java/lang/String", name := "equals", desc := "(Ljava/lang/Object;)Z" } : Jvm.MethodName) jdk_42_method_66_code (3 : Nat) (Option.some Jvm.ClassFile.FieldType.boolean)]
set_option maxRecDepth 65536 in
theorem codes_eq : words1.filter isCode = codes1 := rfl
theorem w_codes : ∀ c ∈ words1.filter isCode, c.before args0 about1 = true := by
  rw [codes_eq]
  intro c hc
  simp only [codes1, List.mem_cons, List.not_mem_nil, or_false] at hc
  rcases hc with rfl | rfl | rfl | rfl | rfl
  · exact w_c0
  · exact w_c1
  · exact w_c2
  · exact w_c3
  · exact w_c4
set_option maxRecDepth 65536 in
theorem w_t1 : (words1.take 24).all (fun c => isCode c || c.before args0 about1) = true := by decide +kernel
set_option maxRecDepth 65536 in
theorem w_t2 : (words1.drop 24).all (fun c => isCode c || c.before args0 about1) = true := by decide +kernel
theorem w_tables : (allAtoms (Jvm.Cond.code x code maxLocals ret :: tables_1)).before args0 about1 = true := by
  rw [allAtoms_all]
  show words1.all (fun c => c.before args0 about1) = true
  refine all_split ?_ w_codes
  rw [← List.take_append_drop 24 words1, List.all_append, w_t1, w_t2]
  rfl
set_option maxRecDepth 65536 in
theorem w_case : (Jvm.Cond.and given_1 narrow_1).before args0 about1 = true := by decide +kernel
theorem w_applies : (headSpec (Jvm.Cond.code x code maxLocals ret :: tables_1) room_1).applies x e0.platform about1 = true :=
  (Spec.applies_iff w_frames).mpr ⟨w_running, w_runnable, w_alone, w_named, w_hears, w_ripe, w_room, w_tables⟩
theorem atStart : AtStart classFile x code maxLocals ret World_1 tables_1 room_1 Calls_1 rest_1 Pre_1 launch0 p0 e0 about1 theMethod args0 below0 :=
  ⟨lists_1, trivial, launch0.admits_env _ _ _, launch0.least_env, fairChoices_fair.cas, fairChoices_fair.clock, w_frames, w_args, w_heap, w_applies, trivial, trivial, w_case⟩
end start1
theorem witness_1 : WitnessClaimed_1 := ⟨start1.p0, start1.e0, start1.about1, start1.theMethod, start1.args0, start1.below0, start1.atStart⟩
end Jvm.Pilot.@@N@@
