import JvmDerived
import JvmDerived.Pilot.@@N@@Statement
import JvmDerived.Pilot.@@N@@Code
set_option linter.unusedVariables false
set_option linter.unusedSimpArgs false
namespace Jvm.RoadKit
open Sem ClassFile Op Lib Jvm.Stand Jvm.Free Jvm.LawKit
section Own
variable {p : Program} {l : Launch} {e : Env} {R : Room} {s : State} {m : MethodId} {args : Array Value} {below : List Frame} {meth : Method} {c : Code} {T T' : State} {locs : List Loc} {cells slots rc rs : Nat} {Q : Option Value → Heap → List Loc → Prop} {g g' : JFrame}
/-- from the state T with the top frame g the run ends in a return of which Q is true -/
def OwnGo (p : Program) (e : Env) (below : List Frame) (s : State) (rc rs : Nat) (Q : Option Value → Heap → List Loc → Prop) (T : State) (g : JFrame) : Prop :=
  ∃ (U : State) (o : Outcome), Steps p.tables e below (T.setTop g) U ∧ U.status = .running ∧ Ended U below o ∧ ∃ v L, o = .returned v ∧ Q v U.heap L ∧ FrameEnd s o U L rc rs
theorem OwnGo.st (k : ∀ target, Steps p.tables e below (T'.setTop g') target → Steps p.tables e below (T.setTop g) target) (h : OwnGo p e below s rc rs Q T' g') : OwnGo p e below s rc rs Q T g := by
  obtain ⟨U, o, h1, h2⟩ := h
  exact ⟨U, o, k _ h1, h2⟩
theorem OwnGo.cast (q : g = g') (h : OwnGo p e below s rc rs Q T g') : OwnGo p e below s rc rs Q T g := q ▸ h
theorem OwnGo.ret (X : Stand p l e R s m args below meth c T locs cells slots) (hx : p.tables.exec = Jvm.exec) {pc : Nat} {Ls : Array Slot} {w : Value} {t : FieldType} {i : Instr} {rest : List Value} (hret : meth.sig.returnType = some t) (hlk : meth.locks = false) (hn : narrow t w = w)
    (hi : (i = .ireturn ∧ (t = .int ∨ t = .boolean ∨ t = .byte ∨ t = .char ∨ t = .short) ∧ ∃ z, w = .int z) ∨ (i = .lreturn ∧ t = .long ∧ ∃ z, w = .long z) ∨ (i = .dreturn ∧ t = .double ∧ ∃ z, w = .double z) ∨ (i = .freturn ∧ t = .float ∧ ∃ z, w = .float z) ∨ (i = .areturn ∧ t.isReference = true ∧ w.isRef = true))
    (hd : decode c.code pc = .ok (i, 1)) (hQ : Q (some w) T.heap locs) (hc : cells ≤ rc) (hs : slots ≤ rs) : OwnGo p e below s rc rs Q T (mkF m pc Ls (w :: rest)) := by
  obtain ⟨fs, hr, hrun, hended, hW, hsame⟩ := X.leave (v := some w) (fun h => by rw [hret] at h; cases h) hlk
  exact ⟨_, _, retOut X hx hret hn hi hd hr, hrun, hended, _, _, rfl, hQ, ⟨_, rfl⟩, hW, hsame.mono hc hs⟩
theorem OwnGo.retN (X : Stand p l e R s m args below meth c T locs cells slots) (hx : p.tables.exec = Jvm.exec) {pc : Nat} {Ls : Array Slot} {z : Int32} {t : FieldType} {rest : List Value} (hret : meth.sig.returnType = some t) (hlk : meth.locks = false) (ht : t = .boolean ∨ t = .byte ∨ t = .char ∨ t = .short)
    (hd : decode c.code pc = .ok (.ireturn, 1)) (hQ : Q (some (.int (nar t z))) T.heap locs) (hc : cells ≤ rc) (hs : slots ≤ rs) : OwnGo p e below s rc rs Q T (mkF m pc Ls (.int z :: rest)) := by
  obtain ⟨fs, hr, hrun, hended, hW, hsame⟩ := X.leave (v := some (.int (nar t z))) (fun h => by rw [hret] at h; cases h) hlk
  exact ⟨_, _, Jvm.RoadKit.retN X hx hret ht hd hr, hrun, hended, _, _, rfl, hQ, ⟨_, rfl⟩, hW, hsame.mono hc hs⟩
theorem OwnGo.retV (X : Stand p l e R s m args below meth c T locs cells slots) (hx : p.tables.exec = Jvm.exec) {pc : Nat} {Ls : Array Slot} (hret : meth.sig.returnType = none) (hlk : meth.locks = false)
    (hd : decode c.code pc = .ok (.return_, 1)) (hQ : Q none T.heap locs) (hc : cells ≤ rc) (hs : slots ≤ rs) : OwnGo p e below s rc rs Q T (mkF m pc Ls []) := by
  obtain ⟨fs, hr, hrun, hended, hW, hsame⟩ := X.leave (v := none) (fun _ => rfl) hlk
  exact ⟨_, _, X.returnOut hx hret hd hr, hrun, hended, _, _, rfl, hQ, ⟨_, rfl⟩, hW, hsame.mono hc hs⟩
theorem own_met {y : MethodName} {bytes : ByteArray} {maxL : Nat} {ret : Option FieldType} {ws : List Jvm.Cond} {rm : Room} {Z : State} {as' : Array Value} {h0 : Heap} (hp : plainFor y = true)
    (body : ∀ (p : Program) (e : Env) (s : State) (m : MethodId) (below : List Frame) (meth : Method) (c : Code) (s₁ : State), Stand p l e rm s m as' below meth c s₁ [] 0 0 → p.tables.exec = Jvm.exec → c.code = bytes → c.maxLocals = maxL → meth.sig.returnType = ret → meth.locks = false → s.vm.findClass y.cls = some m.cls → meth.name = y.name → Z.Warmed39 s.vm → s₁.heap = h0 →
      OwnGo p e below s rm.cells rm.slots Q s₁ (entryFrame m as' maxL)) :
    MetFree l y (head1 (Jvm.Cond.code y bytes maxL ret :: ws) rm) (fun a U => a = as' ∧ Z.Warmed39 U.vm ∧ U.heap = h0) (fun _ _ _ _ _ => True) (fun _ U o U' => ∃ v L, o = .returned v ∧ Q v U'.heap L ∧ FrameEnd U o U' L rm.cells rm.slots) := by
  refine MetFree.of_bodySF hp hisR ?_
  intro p e s m args below meth c s₁ Bd hml0 hP hK
  obtain ⟨rfl, hZ, hh⟩ := hP
  exact body p e s m below meth c s₁ (Stand.of_body Bd) Bd.exec Bd.bytes hml0 Bd.returns Bd.notSynchronized (findClass_of_methodNamed Bd.named) (name_of_methodNamed Bd.named Bd.method).1 hZ (by rw [← hh, Bd.state]; rfl)
theorem own_len {Z : State} {h : Heap} {a : Addr} {cl : Cell} {ty : FieldType} {z : Int32} (hZ : Z.Warmed39 s.vm) (q : cl.slots.size.toInt32 = z) (A : Arr Z h a cl ty) (X : Stand p l e R s m args below meth c T locs cells slots) (eT : T.heap = h) (hx : p.tables.exec = Jvm.exec) {rest : List Value}
    (hg : g.method = m) (hst : g.stack = .ref a :: rest) (hd : decode c.code g.pc = .ok (.arraylength, 1)) (target : State) (k : Steps p.tables e below (T.setTop { g with pc := g.pc + 1, stack := .int z :: rest }) target) : Steps p.tables e below (T.setTop g) target := by
  refine X.arraylength hx (by rw [eT]; exact A.1) (State.isArrayOf_alike hZ.alike A.2.1) hg hst hd _ ?_
  rw [q]; exact k
theorem own_eqi {args : Array Value} {first U : State} {o : Option Outcome} {idx : List Nat} {a : Term} {k : Int32} (h : (Jvm.Cond.eq a (.int k)).value args first o U idx = some true) : a.eval args first o idx U = some (.int k) := Cond.eq_int (b := .int k) (by simp only [Cond.holds, h]; rfl) rfl
theorem own_eqv {args : Array Value} {first U : State} {o : Option Outcome} {idx : List Nat} {a b : Term} {v : Value} (h : (Jvm.Cond.eq a b).value args first o U idx = some true) (hb : b.eval args first o idx U = some v) (hv : v.isRef = true) : a.eval args first o idx U = some v := by
  obtain ⟨x, y, h1, h2, k1, k2⟩ := cmp_v (Or.inl h)
  cases h2.symm.trans hb
  have hx : x.isRef = true := by cases x <;> cases v <;> simp [Kin, Value.isRef] at k1 k2 hv ⊢
  rw [h1, gotT (eq_R h1 h2 hx hv) h]
theorem own_lenv {Z : State} {args : Array Value} {t : Term} {a : Addr} {cl : Cell} {ty : FieldType} {z : Int32} (ev : t.eval args Z none [] Z = some (.ref a)) (A : Arr Z Z.heap a cl ty) (h : (Jvm.Cond.eq (.length t) (.int z)).value args Z none Z [] = some true) : cl.slots.size < 2 ^ 31 ∧ cl.slots.size.toInt32 = z := by
  have e := own_eqi h
  have hA := A.fin (Vm.Alike.refl _)
  refine ⟨SBG.length_lt ev hA e, ?_⟩
  obtain ⟨a', c', e1, e2, e3⟩ := Term.length_spec e
  cases ev.symm.trans e1
  cases hA.symm.trans e2
  exact (Value.int.inj e3).symm
theorem own_elem {Z : State} {args : Array Value} {t : Term} {a : Addr} {cl : Cell} {ty : FieldType} {k : Int32} {v : Value} (ev : t.eval args Z none [] Z = some (.ref a)) (A : Arr Z Z.heap a cl ty) (h : (Term.elem t (.int k)).eval args Z none [] Z = some v) : cl.slots[k.toNatClampNeg]? = some v := (elem_in h ev rfl A.1).2
theorem own_narR {w : Value} {t : FieldType} (h : w.isRef = true) (ht : t.isReference = true) : narrow t w = w := by
  cases w <;> simp [Value.isRef] at h <;> cases t <;> simp [FieldType.isReference] at ht <;> rfl
theorem own_cat {w : Value} (h : w.isRef = true) : w.category = 1 := by cases w <;> simp [Value.isRef] at h <;> rfl
/-- an array of n places, whatever they hold -/
def OwnArr (Z : State) (h : Heap) (a : Addr) (ty : FieldType) (n : Nat) : Prop := ∃ cl : Cell, Arr Z h a cl ty ∧ cl.slots.size = n
theorem OwnArr.lt {Z : State} {h : Heap} {a : Addr} {ty : FieldType} {n : Nat} (F : OwnArr Z h a ty n) : a < h.size := by obtain ⟨_, A, -⟩ := F; exact A.lt
theorem OwnArr.ext {Z : State} {h h' : Heap} {a : Addr} {ty : FieldType} {n : Nat} (F : OwnArr Z h a ty n) (E : Ext h h') : OwnArr Z h' a ty n := by obtain ⟨c, A, S⟩ := F; exact ⟨c, A.ext E, S⟩
theorem OwnArr.keep {Z : State} {h h' : Heap} {a : Addr} {ty : FieldType} {n : Nat} {ws : List Addr} (F : OwnArr Z h a ty n) (K : Keep h h' ws) : OwnArr Z h' a ty n := by
  obtain ⟨c, ⟨A1, ⟨q1, q2⟩, A3⟩, S⟩ := F
  obtain ⟨c', e1, e2, e3, e4⟩ := K.2.2 _ _ A1
  exact ⟨c', ⟨e1, ⟨by rw [e3]; exact q1, by rw [e2]; exact q2⟩, by rw [e3]; exact A3⟩, e4.trans S⟩
theorem OwnArr.wr {Z : State} {h h' : Heap} {a b : Addr} {ty : FieldType} {n sl : Nat} {v : Value} (F : OwnArr Z h a ty n) (W : Wr h h' b sl v) : OwnArr Z h' a ty n := F.keep (Keep.of_wr W)
theorem OwnArr.of {Z : State} {h : Heap} {a : Addr} {k : ClassId} {ty : FieldType} {z : Int32} {vs : List Value} {d : Value} (F : Arv Z h a k ty z vs d) : OwnArr Z h a ty z.toNatClampNeg := by obtain ⟨c, A, -, S, -⟩ := F; exact ⟨c, A, S⟩
theorem own_nb (x : Int32) : nar .byte x.toInt8.toInt32 = x.toInt8.toInt32 := by
  show (x.toInt8.toInt32).toInt8.toInt32 = _
  rw [Int8.toInt8_toInt32]
end Own
end Jvm.RoadKit
namespace Jvm.Pilot.@@N@@
open Jvm Jvm.ClassFile Sem Op Lib Jvm.Free Jvm.Stand Jvm.LawKit Jvm.RoadKit Bundle Jvm.Pilot.@@N@@.Jvm.D
theorem own_size {n : Nat} {z : Int32} (h1 : n < 2 ^ 31) (h2 : n.toInt32 = z) : n = z.toNatClampNeg := by
  rw [← h2]
  simp only [Int32.toNatClampNeg, len_toInt h1]; rfl
theorem own_cache {Z : State} {args : Array Value} {t : Term} {uc : Addr} {cl : Cell} {ty : FieldType} (ht : ∀ idx, t.eval args Z none idx Z = some (.ref uc)) (A : Arr Z Z.heap uc cl ty)
    (hall : (Jvm.Cond.all t (.and (.exactly (.elem t (.index 0)) "java/lang/Integer") (.eq (.field (.elem t (.index 0)) "java/lang/Integer" "value" "I") (.sub (.index 0) (.int 128))))).value args Z none Z [] = some true) (k : Nat) (hk : k < cl.slots.size) {n : Int32} (hn : k.toInt32 - 128 = n ∧ k.toInt32.toNatClampNeg = k) :
    ∃ r, cl.slots[k]? = some (.ref r) ∧ Exa Z Z.heap r "java/lang/Integer" ∧ Fld Z Z.heap r "java/lang/Integer" "value" "I" (.int n) := by
  have h := Cond.all_elim (ht []) (A.fin (Vm.Alike.refl _)) hall k hk
  obtain ⟨h1, h2⟩ := and_e h
  obtain ⟨r, er⟩ := exa_v h1
  have e1 := (elem_in (j := k.toInt32) er (ht [k]) rfl A.1).2
  rw [hn.2] at e1
  have e2 := eqv_i (y := n) (by rw [← hn.1]; rfl) h2
  refine ⟨r, e1, Exa.start (args := #[.ref r]) (t := .arg 0) rfl ?_, Fld.start ((fld_at er).symm.trans e2)⟩
  simp only [Cond.value, er] at h1
  exact h1
theorem d1_0 : decode prog_7_method_5_code 0 = .ok (.aload_n 0, 1) := by decide +kernel
theorem d1_1 : decode prog_7_method_5_code 1 = .ok (.getfield 43, 3) := by decide +kernel
theorem d1_4 : decode prog_7_method_5_code 4 = .ok (.ifCond .ne 7, 3) := by decide +kernel
theorem d1_7 : decode prog_7_method_5_code 7 = .ok (.aconst_null, 1) := by decide +kernel
theorem d1_8 : decode prog_7_method_5_code 8 = .ok (.goto 10, 3) := by decide +kernel
theorem d1_11 : decode prog_7_method_5_code 11 = .ok (.aload_n 0, 1) := by decide +kernel
theorem d1_12 : decode prog_7_method_5_code 12 = .ok (.getfield 43, 3) := by decide +kernel
theorem d1_15 : decode prog_7_method_5_code 15 = .ok (.invokestatic 75, 3) := by decide +kernel
theorem d1_18 : decode prog_7_method_5_code 18 = .ok (.areturn, 1) := by decide +kernel
theorem d2_0 : decode jdk_33_method_22_code 0 = .ok (.iload_n 0, 1) := by decide +kernel
theorem d2_1 : decode jdk_33_method_22_code 1 = .ok (.bipush (-128), 2) := by decide +kernel
theorem d2_3 : decode jdk_33_method_22_code 3 = .ok (.if_icmp .lt 20, 3) := by decide +kernel
theorem d2_6 : decode jdk_33_method_22_code 6 = .ok (.iload_n 0, 1) := by decide +kernel
theorem d2_7 : decode jdk_33_method_22_code 7 = .ok (.getstatic 191, 3) := by decide +kernel
theorem d2_10 : decode jdk_33_method_22_code 10 = .ok (.if_icmp .gt 13, 3) := by decide +kernel
theorem d2_13 : decode jdk_33_method_22_code 13 = .ok (.getstatic 195, 3) := by decide +kernel
theorem d2_16 : decode jdk_33_method_22_code 16 = .ok (.iload_n 0, 1) := by decide +kernel
theorem d2_17 : decode jdk_33_method_22_code 17 = .ok (.sipush 128, 3) := by decide +kernel
theorem d2_20 : decode jdk_33_method_22_code 20 = .ok (.iadd, 1) := by decide +kernel
theorem d2_21 : decode jdk_33_method_22_code 21 = .ok (.aaload, 1) := by decide +kernel
theorem d2_22 : decode jdk_33_method_22_code 22 = .ok (.areturn, 1) := by decide +kernel
theorem d3_0 : decode jdk_33_method_27_code 0 = .ok (.aload_n 0, 1) := by decide +kernel
theorem d3_1 : decode jdk_33_method_27_code 1 = .ok (.getfield 205, 3) := by decide +kernel
theorem d3_4 : decode jdk_33_method_27_code 4 = .ok (.ireturn, 1) := by decide +kernel
theorem pd_0 : parseMethodDescriptor "(I)Ljava/lang/Integer;" = some ⟨[.int], some (.object "java/lang/Integer")⟩ := by decide +kernel
theorem pd_1 : parseMethodDescriptor "()Ljava/lang/Integer;" = some ⟨[], some (.object "java/lang/Integer")⟩ := by decide +kernel
theorem pd_2 : parseMethodDescriptor "()I" = some ⟨[], some .int⟩ := by decide +kernel
theorem pn_2 : plainName "java/lang/Integer" = true := by first | (simp [plainName, overriddenIn]; done) | decide +kernel
theorem pn_1 : plainName "com/example/thorough_factfind/thoroughfactfind/foundation/Frequency" = true := by first | (simp [plainName, overriddenIn]; done) | decide +kernel
theorem pn_0 : plainName "com/example/thorough_factfind/thoroughfactfind/foundation/FrequencyPeriodsPerYearPinLaw" = true := by first | (simp [plainName, overriddenIn]; done) | decide +kernel
theorem ef_2 (m : MethodId) (x0 : Int32) : entryFrame m #[(.int x0)] 1 = mkF m 0 #[.val (.int x0)] [] := by first | (simp [entryFrame, mkF, argsToLocals, Value.category]; done) | rfl
theorem ef_3 (m : MethodId) (x0 : Addr) : entryFrame m #[(.ref x0)] 1 = mkF m 0 #[.val (.ref x0)] [] := by first | (simp [entryFrame, mkF, argsToLocals, Value.category]; done) | rfl
theorem ef_ppy (m : MethodId) (x0 : Addr) : entryFrame m #[(.ref x0)] 1 = mkF m 0 #[.val (.ref x0)] [] := by first | (simp [entryFrame, mkF, argsToLocals, Value.category]; done) | rfl
theorem ef_ppz (m : MethodId) (x0 : Addr) : entryFrame m #[(.ref x0)] 1 = mkF m 0 #[.val (.ref x0)] [] := by first | (simp [entryFrame, mkF, argsToLocals, Value.category]; done) | rfl
theorem ef_0 (m : MethodId) (x0 : Int32) : entryFrame m #[(.int x0)] maxLocals = mkF m 0 #[.val (.int x0), .unset, .unset, .unset, .unset] [] := by first | (simp [entryFrame, mkF, argsToLocals, Value.category, maxLocals]; done) | rfl
def Q2 (Z : State) (n : Int32) (r : Addr) (uc : Addr) (clc : Cell) (h0 : Heap) (n0 : Nat) (v : Option Value) (h : Heap) (L : List Loc) : Prop := v = some (.ref r) ∧ Fr n0 L ∧ h = h0
set_option maxRecDepth 65536 in
set_option maxHeartbeats 40000000 in
theorem rm2 (l : Launch) (Z : State) (a0 : Array Value) (hw : ∀ d ∈ tables_1, d.before a0 Z = true) (ws : List Jvm.Cond) (n : Int32) (r : Addr) (uc : Addr) (clc : Cell) (h0 : Heap) (n0 : Nat) (Z0 : n0 ≤ h0.size) (O_ : Old Z n0 h0) (S_high : Sta Z Z.heap "java/lang/Integer$IntegerCache" "high" "I" (.int (127 : Int32))) (S_cache : Sta Z Z.heap "java/lang/Integer$IntegerCache" "cache" "[Ljava/lang/Integer;" (.ref uc)) (A_uc : Arr Z Z.heap uc clc (.object "java/lang/Integer")) (hlo : ¬ n < (-128 : Int32)) (hhi : ¬ (127 : Int32) < n) (hin : ¬ ((n + (128 : Int32)) < 0 ∨ clc.slots.size ≤ (n + (128 : Int32)).toNatClampNeg)) (hat : clc.slots[(n + (128 : Int32)).toNatClampNeg]? = some (.ref r)) :
    MetFree l (⟨"java/lang/Integer", "valueOf", "(I)Ljava/lang/Integer;"⟩ : MethodName) (head1 (Jvm.Cond.code (⟨"java/lang/Integer", "valueOf", "(I)Ljava/lang/Integer;"⟩ : MethodName) jdk_33_method_22_code 1 (some (.object "java/lang/Integer")) :: ws) ({ frames := 0, cells := 0, slots := 0, locals := 0 } : Room)) (fun as_ UU => as_ = #[(.int n)] ∧ Z.Warmed39 UU.vm ∧ UU.heap = h0) (fun _ _ _ _ _ => True) (fun _ UU oo UU' => ∃ vv LL, oo = .returned vv ∧ (Q2 Z n r uc clc h0 n0) vv UU'.heap LL ∧ FrameEnd UU oo UU' LL ({ frames := 0, cells := 0, slots := 0, locals := 0 } : Room).cells ({ frames := 0, cells := 0, slots := 0, locals := 0 } : Room).slots) := by
  refine own_met (plainFor_of_name pn_2) ?_
  intro p e s m below meth c s₁ X0 hx hby hml hret hlk hown hnm hZ e0
  have N0 := Fr.nil n0
  have Z_ := Z0
  refine OwnGo.cast (ef_2 m n) ?_
  show OwnGo p e below s _ _ _ s₁ (mkF m 0 #[.val (.int n)] [])
  refine OwnGo.st (fun _ k => XS.iloadN X0.here hx rfl (hb hby d2_0) rfl  k) ?_
  show OwnGo p e below s _ _ _ s₁ (mkF m 1 #[.val (.int n)] [(.int n)])
  refine OwnGo.st (fun _ k => XS.bipush X0.here hx rfl (hb hby d2_1) k) ?_
  show OwnGo p e below s _ _ _ s₁ (mkF m 3 #[.val (.int n)] [(.int (-128 : Int32)), (.int n)])
  refine OwnGo.st (fun _ k => XS.icmpNo X0.here hx rfl (hb hby d2_3) rfl (flt (hlo : ¬ (n < (-128 : Int32)))).1 k) ?_
  show OwnGo p e below s _ _ _ s₁ (mkF m 6 #[.val (.int n)] [])
  refine OwnGo.st (fun _ k => XS.iloadN X0.here hx rfl (hb hby d2_6) rfl  k) ?_
  show OwnGo p e below s _ _ _ s₁ (mkF m 7 #[.val (.int n)] [(.int n)])
  obtain ⟨T1, X1, e1, st1⟩ := getS2 X0 hx hZ hown (host := "") (Or.inl (hw _ (List.mem_of_getElem? (i := 14) rfl))) Via.refl e0 (S_high.ext O_.2) (g := (mkF m 7 #[.val (.int n)] [(.int n)])) rfl (hb hby d2_7)
  refine OwnGo.st st1 ?_
  show OwnGo p e below s _ _ _ T1 (mkF m 10 #[.val (.int n)] [(.int (127 : Int32)), (.int n)])
  refine OwnGo.st (fun _ k => XS.icmpNo X1.here hx rfl (hb hby d2_10) rfl (flt (hhi : ¬ ((127 : Int32) < n))).2.2.1 k) ?_
  show OwnGo p e below s _ _ _ T1 (mkF m 13 #[.val (.int n)] [])
  obtain ⟨T2, X2, e2, st2⟩ := getS2 X1 hx hZ hown (host := "") (Or.inl (hw _ (List.mem_of_getElem? (i := 16) rfl))) Via.refl e1 (S_cache.ext O_.2) (g := (mkF m 13 #[.val (.int n)] [])) rfl (hb hby d2_13)
  refine OwnGo.st st2 ?_
  show OwnGo p e below s _ _ _ T2 (mkF m 16 #[.val (.int n)] [(.ref uc)])
  refine OwnGo.st (fun _ k => XS.iloadN X2.here hx rfl (hb hby d2_16) rfl  k) ?_
  show OwnGo p e below s _ _ _ T2 (mkF m 17 #[.val (.int n)] [(.int n), (.ref uc)])
  refine OwnGo.st (fun _ k => XS.sipush X2.here hx rfl (hb hby d2_17) k) ?_
  show OwnGo p e below s _ _ _ T2 (mkF m 20 #[.val (.int n)] [(.int (128 : Int32)), (.int n), (.ref uc)])
  refine OwnGo.st (fun _ k => XS.iadd X2.here hx rfl (hb hby d2_20) rfl k) ?_
  show OwnGo p e below s _ _ _ T2 (mkF m 21 #[.val (.int n)] [(.int (n + (128 : Int32))), (.ref uc)])
  have Ar := A_uc.ext O_.2
  refine OwnGo.st (fun _ k => X2.aaload hx (j := (n + (128 : Int32))) (v := (.ref r)) (by rw [e2]; exact Ar.1) (State.isArrayOf_alike hZ.alike Ar.2.1) rfl Ar.2.2 hin hat (g := (mkF m 21 #[.val (.int n)] [(.int (n + (128 : Int32))), (.ref uc)])) rfl rfl (hb hby d2_21) _ k) ?_
  show OwnGo p e below s _ _ _ T2 (mkF m 22 #[.val (.int n)] [(.ref r)])
  exact OwnGo.ret X2 hx hret hlk rfl (Or.inr (Or.inr (Or.inr (Or.inr ⟨rfl, rfl, rfl⟩)))) (hb hby d2_22) (by show Q2 Z n r uc clc h0 n0 _ T2.heap _; rw [e2]; exact ⟨rfl, N0, rfl⟩) (by decide) (by decide)
def Q3 (Z : State) (a : Addr) (z : Int32) (h0 : Heap) (n0 : Nat) (v : Option Value) (h : Heap) (L : List Loc) : Prop := v = some (.int z) ∧ Fr n0 L ∧ h = h0
set_option maxRecDepth 65536 in
set_option maxHeartbeats 40000000 in
theorem rm3 (l : Launch) (Z : State) (a0 : Array Value) (hw : ∀ d ∈ tables_1, d.before a0 Z = true) (ws : List Jvm.Cond) (a : Addr) (z : Int32) (h0 : Heap) (n0 : Nat) (Z0 : n0 ≤ h0.size) (F : Fld Z h0 a "java/lang/Integer" "value" "I" (.int z)) :
    MetFree l (⟨"java/lang/Integer", "intValue", "()I"⟩ : MethodName) (head1 (Jvm.Cond.code (⟨"java/lang/Integer", "intValue", "()I"⟩ : MethodName) jdk_33_method_27_code 1 (some .int) :: ws) ({ frames := 0, cells := 0, slots := 0, locals := 0 } : Room)) (fun as_ UU => as_ = #[(.ref a)] ∧ Z.Warmed39 UU.vm ∧ UU.heap = h0) (fun _ _ _ _ _ => True) (fun _ UU oo UU' => ∃ vv LL, oo = .returned vv ∧ (Q3 Z a z h0 n0) vv UU'.heap LL ∧ FrameEnd UU oo UU' LL ({ frames := 0, cells := 0, slots := 0, locals := 0 } : Room).cells ({ frames := 0, cells := 0, slots := 0, locals := 0 } : Room).slots) := by
  refine own_met (plainFor_of_name pn_2) ?_
  intro p e s m below meth c s₁ X0 hx hby hml hret hlk hown hnm hZ e0
  have N0 := Fr.nil n0
  have Z_ := Z0
  refine OwnGo.cast (ef_3 m a) ?_
  show OwnGo p e below s _ _ _ s₁ (mkF m 0 #[.val (.ref a)] [])
  refine OwnGo.st (fun _ k => XS.aloadN X0.here hx rfl (hb hby d3_0) rfl rfl  k) ?_
  show OwnGo p e below s _ _ _ s₁ (mkF m 1 #[.val (.ref a)] [(.ref a)])
  obtain ⟨T3, X3, e3, st3⟩ := getF X0 hx hZ hown (host := "") (Or.inl (hw _ (List.mem_of_getElem? (i := 22) rfl))) Via.refl e0 F (g := (mkF m 1 #[.val (.ref a)] [(.ref a)])) rfl rfl (hb hby d3_1)
  refine OwnGo.st st3 ?_
  show OwnGo p e below s _ _ _ T3 (mkF m 4 #[.val (.ref a)] [(.int z)])
  exact OwnGo.ret X3 hx hret hlk rfl (Or.inl ⟨rfl, Or.inl rfl, _, rfl⟩) (hb hby d3_4) (by show Q3 Z a z h0 n0 _ T3.heap _; rw [e3]; exact ⟨rfl, N0, rfl⟩) (by decide) (by decide)
def Qppy (Z : State) (a : Addr) (n : Int32) (r : Addr) (uc : Addr) (clc : Cell) (h0 : Heap) (n0 : Nat) (v : Option Value) (h : Heap) (L : List Loc) : Prop := v = some (.ref r) ∧ Fr n0 L ∧ h = h0
set_option maxRecDepth 65536 in
set_option maxHeartbeats 40000000 in
theorem rmppy (l : Launch) (Z : State) (a0 : Array Value) (hw : ∀ d ∈ tables_1, d.before a0 Z = true) (ws : List Jvm.Cond) (a : Addr) (n : Int32) (r : Addr) (uc : Addr) (clc : Cell) (h0 : Heap) (n0 : Nat) (Z0 : n0 ≤ h0.size) (O_ : Old Z n0 h0) (S_high : Sta Z Z.heap "java/lang/Integer$IntegerCache" "high" "I" (.int (127 : Int32))) (S_cache : Sta Z Z.heap "java/lang/Integer$IntegerCache" "cache" "[Ljava/lang/Integer;" (.ref uc)) (A_uc : Arr Z Z.heap uc clc (.object "java/lang/Integer")) (F : Fld Z h0 a "com/example/thorough_factfind/thoroughfactfind/foundation/Frequency" "_timesPerYear" "I" (.int n)) (hnz : ¬ n = (0 : Int32)) (hlo : ¬ n < (-128 : Int32)) (hhi : ¬ (127 : Int32) < n) (hin : ¬ ((n + (128 : Int32)) < 0 ∨ clc.slots.size ≤ (n + (128 : Int32)).toNatClampNeg)) (hat : clc.slots[(n + (128 : Int32)).toNatClampNeg]? = some (.ref r)) :
    MetFree l (⟨"com/example/thorough_factfind/thoroughfactfind/foundation/Frequency", "periodsPerYear", "()Ljava/lang/Integer;"⟩ : MethodName) (head1 (Jvm.Cond.code (⟨"com/example/thorough_factfind/thoroughfactfind/foundation/Frequency", "periodsPerYear", "()Ljava/lang/Integer;"⟩ : MethodName) prog_7_method_5_code 1 (some (.object "java/lang/Integer")) :: ws) ({ frames := 1, cells := 0, slots := 0, locals := 12 } : Room)) (fun as_ UU => as_ = #[(.ref a)] ∧ Z.Warmed39 UU.vm ∧ UU.heap = h0) (fun _ _ _ _ _ => True) (fun _ UU oo UU' => ∃ vv LL, oo = .returned vv ∧ (Qppy Z a n r uc clc h0 n0) vv UU'.heap LL ∧ FrameEnd UU oo UU' LL ({ frames := 1, cells := 0, slots := 0, locals := 12 } : Room).cells ({ frames := 1, cells := 0, slots := 0, locals := 12 } : Room).slots) := by
  refine own_met (plainFor_of_name pn_1) ?_
  intro p e s m below meth c s₁ X0 hx hby hml hret hlk hown hnm hZ e0
  have N0 := Fr.nil n0
  have Z_ := Z0
  refine OwnGo.cast (ef_ppy m a) ?_
  show OwnGo p e below s _ _ _ s₁ (mkF m 0 #[.val (.ref a)] [])
  refine OwnGo.st (fun _ k => XS.aloadN X0.here hx rfl (hb hby d1_0) rfl rfl  k) ?_
  show OwnGo p e below s _ _ _ s₁ (mkF m 1 #[.val (.ref a)] [(.ref a)])
  obtain ⟨T4, X4, e4, st4⟩ := getF X0 hx hZ hown (host := "") (Or.inl (hw _ (List.mem_of_getElem? (i := 8) rfl))) Via.refl e0 F (g := (mkF m 1 #[.val (.ref a)] [(.ref a)])) rfl rfl (hb hby d1_1)
  refine OwnGo.st st4 ?_
  show OwnGo p e below s _ _ _ T4 (mkF m 4 #[.val (.ref a)] [(.int n)])
  refine OwnGo.st (fun _ k => XS.ifYes X4.here hx rfl (pc0 := 4) (pc' := 11) rfl (hb hby d1_4) rfl ((if0 _ _).trans (feq (hnz : ¬ (n = (0 : Int32)))).2) (by decide) (by decide) k) ?_
  show OwnGo p e below s _ _ _ T4 (mkF m 11 #[.val (.ref a)] [])
  refine OwnGo.st (fun _ k => XS.aloadN X4.here hx rfl (hb hby d1_11) rfl rfl  k) ?_
  show OwnGo p e below s _ _ _ T4 (mkF m 12 #[.val (.ref a)] [(.ref a)])
  obtain ⟨T5, X5, e5, st5⟩ := getF X4 hx hZ hown (host := "") (Or.inl (hw _ (List.mem_of_getElem? (i := 8) rfl))) Via.refl e4 F (g := (mkF m 12 #[.val (.ref a)] [(.ref a)])) rfl rfl (hb hby d1_12)
  refine OwnGo.st st5 ?_
  show OwnGo p e below s _ _ _ T5 (mkF m 15 #[.val (.ref a)] [(.int n)])
  obtain ⟨_, _, ⟨T6, L6, k6, n6⟩, -, X6, ⟨Lc6, hQ6, l6, y6, z6⟩, st6⟩ := Jvm.LawKit.callS X5 hx (y := (⟨"java/lang/Integer", "valueOf", "(I)Ljava/lang/Integer;"⟩ : MethodName)) hown (mvT hZ (hw _ (List.mem_of_getElem? (i := 10) rfl))) (mvT hZ (hw _ (List.mem_of_getElem? (i := 11) rfl))) (mvT hZ (hw _ (List.mem_of_getElem? (i := 12) rfl))) (mvT hZ (hw _ (List.mem_of_getElem? (i := 13) rfl))) (by decide) (backOf (W := 0) (rm2 l Z a0 hw [] n r uc clc h0 n0 Z_ O_ S_high S_cache A_uc hlo hhi hin hat) hZ (hw _ (List.mem_of_getElem? (i := 13) rfl)) (hw _ (List.mem_of_getElem? (i := 12) rfl)) (by decide) (by decide)) (g := (mkF m 15 #[.val (.ref a)] [(.int n)])) rfl (by rw [hml]; rfl) (argsL := [(.int n)]) (rest := []) (lenOf pd_0 rfl) rfl (by show 2 * 0 + _ ≤ _; exact Nat.le_of_eq rfl) (hb hby d1_15) (fun _ _ => ⟨rfl, e5, (by decide : 0 + 0 ≤ _), (by decide : 0 + 0 ≤ _)⟩)
  dsimp only [Pt.U, Pt.locs, Pt.cells, Pt.slots] at X6 l6 y6 z6 st6 hQ6
  subst l6 y6 z6
  obtain ⟨rfl, N6q, e6⟩ := hQ6
  have N6 := Fr.app N0 N6q
  refine OwnGo.st st6 ?_
  show OwnGo p e below s _ _ _ T6 (mkF m 18 #[.val (.ref a)] [(.ref r)])
  exact OwnGo.ret X6 hx hret hlk rfl (Or.inr (Or.inr (Or.inr (Or.inr ⟨rfl, rfl, rfl⟩)))) (hb hby d1_18) (by show Qppy Z a n r uc clc h0 n0 _ T6.heap _; rw [e6]; exact ⟨rfl, N6, rfl⟩) (by decide) (by decide)
def Qppz (Z : State) (a : Addr) (h0 : Heap) (n0 : Nat) (v : Option Value) (h : Heap) (L : List Loc) : Prop := v = some .null ∧ Fr n0 L ∧ h = h0
set_option maxRecDepth 65536 in
set_option maxHeartbeats 40000000 in
theorem rmppz (l : Launch) (Z : State) (a0 : Array Value) (hw : ∀ d ∈ tables_1, d.before a0 Z = true) (ws : List Jvm.Cond) (a : Addr) (h0 : Heap) (n0 : Nat) (Z0 : n0 ≤ h0.size) (F : Fld Z h0 a "com/example/thorough_factfind/thoroughfactfind/foundation/Frequency" "_timesPerYear" "I" (.int (0 : Int32))) :
    MetFree l (⟨"com/example/thorough_factfind/thoroughfactfind/foundation/Frequency", "periodsPerYear", "()Ljava/lang/Integer;"⟩ : MethodName) (head1 (Jvm.Cond.code (⟨"com/example/thorough_factfind/thoroughfactfind/foundation/Frequency", "periodsPerYear", "()Ljava/lang/Integer;"⟩ : MethodName) prog_7_method_5_code 1 (some (.object "java/lang/Integer")) :: ws) ({ frames := 0, cells := 0, slots := 0, locals := 0 } : Room)) (fun as_ UU => as_ = #[(.ref a)] ∧ Z.Warmed39 UU.vm ∧ UU.heap = h0) (fun _ _ _ _ _ => True) (fun _ UU oo UU' => ∃ vv LL, oo = .returned vv ∧ (Qppz Z a h0 n0) vv UU'.heap LL ∧ FrameEnd UU oo UU' LL ({ frames := 0, cells := 0, slots := 0, locals := 0 } : Room).cells ({ frames := 0, cells := 0, slots := 0, locals := 0 } : Room).slots) := by
  refine own_met (plainFor_of_name pn_1) ?_
  intro p e s m below meth c s₁ X0 hx hby hml hret hlk hown hnm hZ e0
  have N0 := Fr.nil n0
  have Z_ := Z0
  refine OwnGo.cast (ef_ppz m a) ?_
  show OwnGo p e below s _ _ _ s₁ (mkF m 0 #[.val (.ref a)] [])
  refine OwnGo.st (fun _ k => XS.aloadN X0.here hx rfl (hb hby d1_0) rfl rfl  k) ?_
  show OwnGo p e below s _ _ _ s₁ (mkF m 1 #[.val (.ref a)] [(.ref a)])
  obtain ⟨T7, X7, e7, st7⟩ := getF X0 hx hZ hown (host := "") (Or.inl (hw _ (List.mem_of_getElem? (i := 8) rfl))) Via.refl e0 F (g := (mkF m 1 #[.val (.ref a)] [(.ref a)])) rfl rfl (hb hby d1_1)
  refine OwnGo.st st7 ?_
  show OwnGo p e below s _ _ _ T7 (mkF m 4 #[.val (.ref a)] [(.int (0 : Int32))])
  refine OwnGo.st (fun _ k => XS.ifNo X7.here hx rfl (hb hby d1_4) rfl ((if0 _ _).trans (teq (rfl : (0 : Int32) = (0 : Int32))).2) k) ?_
  show OwnGo p e below s _ _ _ T7 (mkF m 7 #[.val (.ref a)] [])
  refine OwnGo.st (fun _ k => XS.aconstNull X7.here hx rfl (hb hby d1_7) k) ?_
  show OwnGo p e below s _ _ _ T7 (mkF m 8 #[.val (.ref a)] [.null])
  refine OwnGo.st (fun _ k => XS.goto X7.here hx rfl (pc0 := 8) (pc' := 18) rfl (hb hby d1_8) (by decide) (by decide) k) ?_
  show OwnGo p e below s _ _ _ T7 (mkF m 18 #[.val (.ref a)] [.null])
  exact OwnGo.ret X7 hx hret hlk rfl (Or.inr (Or.inr (Or.inr (Or.inr ⟨rfl, rfl, rfl⟩)))) (hb hby d1_18) (by show Qppz Z a h0 n0 _ T7.heap _; rw [e7]; exact ⟨rfl, N0, rfl⟩) (by decide) (by decide)
def Q0 (Z : State) (p1 : Int32) (u_Frequency_Weekly : Addr) (u_Frequency_Monthly : Addr) (u_Frequency_Annually : Addr) (u_Frequency_Single : Addr) (u_Frequency_FourWeekly : Addr) (u_Frequency_Fortnightly : Addr) (u_Frequency_Quarterly : Addr) (u_Frequency_HalfYearly : Addr) (uc : Addr) (clc : Cell) (r52 : Addr) (r26 : Addr) (r13 : Addr) (r12 : Addr) (r4 : Addr) (r2 : Addr) (r1 : Addr) (h0 : Heap) (n0 : Nat) (v : Option Value) (h : Heap) (L : List Loc) : Prop := v = some (.int (1 : Int32)) ∧ Fr n0 L
set_option maxRecDepth 65536 in
set_option maxHeartbeats 40000000 in
theorem rm0 (l : Launch) (Z : State) (a0 : Array Value) (hw : ∀ d ∈ tables_1, d.before a0 Z = true) (ws : List Jvm.Cond) (p1 : Int32) (u_Frequency_Weekly : Addr) (u_Frequency_Monthly : Addr) (u_Frequency_Annually : Addr) (u_Frequency_Single : Addr) (u_Frequency_FourWeekly : Addr) (u_Frequency_Fortnightly : Addr) (u_Frequency_Quarterly : Addr) (u_Frequency_HalfYearly : Addr) (uc : Addr) (clc : Cell) (r52 : Addr) (r26 : Addr) (r13 : Addr) (r12 : Addr) (r4 : Addr) (r2 : Addr) (r1 : Addr) (h0 : Heap) (n0 : Nat) (Z0 : n0 ≤ h0.size) (O_ : Old Z n0 h0) (S_u_Frequency_Weekly : Sta Z Z.heap "com/example/thorough_factfind/thoroughfactfind/foundation/Frequency" "Weekly" "Lcom/example/thorough_factfind/thoroughfactfind/foundation/Frequency;" (.ref u_Frequency_Weekly)) (E_u_Frequency_Weekly : Exa Z Z.heap u_Frequency_Weekly "com/example/thorough_factfind/thoroughfactfind/foundation/Frequency") (F_u_Frequency_Weekly__timesPerYear : Fld Z Z.heap u_Frequency_Weekly "com/example/thorough_factfind/thoroughfactfind/foundation/Frequency" "_timesPerYear" "I" (.int (52 : Int32))) (S_u_Frequency_Monthly : Sta Z Z.heap "com/example/thorough_factfind/thoroughfactfind/foundation/Frequency" "Monthly" "Lcom/example/thorough_factfind/thoroughfactfind/foundation/Frequency;" (.ref u_Frequency_Monthly)) (E_u_Frequency_Monthly : Exa Z Z.heap u_Frequency_Monthly "com/example/thorough_factfind/thoroughfactfind/foundation/Frequency") (F_u_Frequency_Monthly__timesPerYear : Fld Z Z.heap u_Frequency_Monthly "com/example/thorough_factfind/thoroughfactfind/foundation/Frequency" "_timesPerYear" "I" (.int (12 : Int32))) (S_u_Frequency_Annually : Sta Z Z.heap "com/example/thorough_factfind/thoroughfactfind/foundation/Frequency" "Annually" "Lcom/example/thorough_factfind/thoroughfactfind/foundation/Frequency;" (.ref u_Frequency_Annually)) (E_u_Frequency_Annually : Exa Z Z.heap u_Frequency_Annually "com/example/thorough_factfind/thoroughfactfind/foundation/Frequency") (F_u_Frequency_Annually__timesPerYear : Fld Z Z.heap u_Frequency_Annually "com/example/thorough_factfind/thoroughfactfind/foundation/Frequency" "_timesPerYear" "I" (.int (1 : Int32))) (S_u_Frequency_Single : Sta Z Z.heap "com/example/thorough_factfind/thoroughfactfind/foundation/Frequency" "Single" "Lcom/example/thorough_factfind/thoroughfactfind/foundation/Frequency;" (.ref u_Frequency_Single)) (E_u_Frequency_Single : Exa Z Z.heap u_Frequency_Single "com/example/thorough_factfind/thoroughfactfind/foundation/Frequency") (F_u_Frequency_Single__timesPerYear : Fld Z Z.heap u_Frequency_Single "com/example/thorough_factfind/thoroughfactfind/foundation/Frequency" "_timesPerYear" "I" (.int (0 : Int32))) (S_u_Frequency_FourWeekly : Sta Z Z.heap "com/example/thorough_factfind/thoroughfactfind/foundation/Frequency" "FourWeekly" "Lcom/example/thorough_factfind/thoroughfactfind/foundation/Frequency;" (.ref u_Frequency_FourWeekly)) (E_u_Frequency_FourWeekly : Exa Z Z.heap u_Frequency_FourWeekly "com/example/thorough_factfind/thoroughfactfind/foundation/Frequency") (F_u_Frequency_FourWeekly__timesPerYear : Fld Z Z.heap u_Frequency_FourWeekly "com/example/thorough_factfind/thoroughfactfind/foundation/Frequency" "_timesPerYear" "I" (.int (13 : Int32))) (S_u_Frequency_Fortnightly : Sta Z Z.heap "com/example/thorough_factfind/thoroughfactfind/foundation/Frequency" "Fortnightly" "Lcom/example/thorough_factfind/thoroughfactfind/foundation/Frequency;" (.ref u_Frequency_Fortnightly)) (E_u_Frequency_Fortnightly : Exa Z Z.heap u_Frequency_Fortnightly "com/example/thorough_factfind/thoroughfactfind/foundation/Frequency") (F_u_Frequency_Fortnightly__timesPerYear : Fld Z Z.heap u_Frequency_Fortnightly "com/example/thorough_factfind/thoroughfactfind/foundation/Frequency" "_timesPerYear" "I" (.int (26 : Int32))) (S_u_Frequency_Quarterly : Sta Z Z.heap "com/example/thorough_factfind/thoroughfactfind/foundation/Frequency" "Quarterly" "Lcom/example/thorough_factfind/thoroughfactfind/foundation/Frequency;" (.ref u_Frequency_Quarterly)) (E_u_Frequency_Quarterly : Exa Z Z.heap u_Frequency_Quarterly "com/example/thorough_factfind/thoroughfactfind/foundation/Frequency") (F_u_Frequency_Quarterly__timesPerYear : Fld Z Z.heap u_Frequency_Quarterly "com/example/thorough_factfind/thoroughfactfind/foundation/Frequency" "_timesPerYear" "I" (.int (4 : Int32))) (S_u_Frequency_HalfYearly : Sta Z Z.heap "com/example/thorough_factfind/thoroughfactfind/foundation/Frequency" "HalfYearly" "Lcom/example/thorough_factfind/thoroughfactfind/foundation/Frequency;" (.ref u_Frequency_HalfYearly)) (E_u_Frequency_HalfYearly : Exa Z Z.heap u_Frequency_HalfYearly "com/example/thorough_factfind/thoroughfactfind/foundation/Frequency") (F_u_Frequency_HalfYearly__timesPerYear : Fld Z Z.heap u_Frequency_HalfYearly "com/example/thorough_factfind/thoroughfactfind/foundation/Frequency" "_timesPerYear" "I" (.int (2 : Int32))) (S_high : Sta Z Z.heap "java/lang/Integer$IntegerCache" "high" "I" (.int (127 : Int32))) (S_cache : Sta Z Z.heap "java/lang/Integer$IntegerCache" "cache" "[Ljava/lang/Integer;" (.ref uc)) (A_uc : Arr Z Z.heap uc clc (.object "java/lang/Integer")) (hsz : clc.slots.size = (256 : Int32).toNatClampNeg) (H_52 : clc.slots[180]? = some (.ref r52)) (E_r52 : Exa Z Z.heap r52 "java/lang/Integer") (F_r52 : Fld Z Z.heap r52 "java/lang/Integer" "value" "I" (.int (52 : Int32))) (H_26 : clc.slots[154]? = some (.ref r26)) (E_r26 : Exa Z Z.heap r26 "java/lang/Integer") (F_r26 : Fld Z Z.heap r26 "java/lang/Integer" "value" "I" (.int (26 : Int32))) (H_13 : clc.slots[141]? = some (.ref r13)) (E_r13 : Exa Z Z.heap r13 "java/lang/Integer") (F_r13 : Fld Z Z.heap r13 "java/lang/Integer" "value" "I" (.int (13 : Int32))) (H_12 : clc.slots[140]? = some (.ref r12)) (E_r12 : Exa Z Z.heap r12 "java/lang/Integer") (F_r12 : Fld Z Z.heap r12 "java/lang/Integer" "value" "I" (.int (12 : Int32))) (H_4 : clc.slots[132]? = some (.ref r4)) (E_r4 : Exa Z Z.heap r4 "java/lang/Integer") (F_r4 : Fld Z Z.heap r4 "java/lang/Integer" "value" "I" (.int (4 : Int32))) (H_2 : clc.slots[130]? = some (.ref r2)) (E_r2 : Exa Z Z.heap r2 "java/lang/Integer") (F_r2 : Fld Z Z.heap r2 "java/lang/Integer" "value" "I" (.int (2 : Int32))) (H_1 : clc.slots[129]? = some (.ref r1)) (E_r1 : Exa Z Z.heap r1 "java/lang/Integer") (F_r1 : Fld Z Z.heap r1 "java/lang/Integer" "value" "I" (.int (1 : Int32))) :
    MetFree l x (head1 (Jvm.Cond.code x code maxLocals ret :: ws) room_1) (fun as_ UU => as_ = #[(.int p1)] ∧ Z.Warmed39 UU.vm ∧ UU.heap = h0) (fun _ _ _ _ _ => True) (fun _ UU oo UU' => ∃ vv LL, oo = .returned vv ∧ (Q0 Z p1 u_Frequency_Weekly u_Frequency_Monthly u_Frequency_Annually u_Frequency_Single u_Frequency_FourWeekly u_Frequency_Fortnightly u_Frequency_Quarterly u_Frequency_HalfYearly uc clc r52 r26 r13 r12 r4 r2 r1 h0 n0) vv UU'.heap LL ∧ FrameEnd UU oo UU' LL room_1.cells room_1.slots) := by
  refine own_met (plainFor_of_name pn_0) ?_
  intro p e s m below meth c s₁ X0 hx hby hml hret hlk hown hnm hZ e0
  have N0 := Fr.nil n0
  have Z_ := Z0
  refine OwnGo.cast (ef_0 m p1) ?_
  have hml : c.maxLocals = 5 := hml
  show OwnGo p e below s _ _ _ s₁ (mkF m 0 #[.val (.int p1), .unset, .unset, .unset, .unset] [])
  refine OwnGo.st (fun _ k => XS.iloadN X0.here hx rfl (hb hby at_0) rfl  k) ?_
  show OwnGo p e below s _ _ _ s₁ (mkF m 1 #[.val (.int p1), .unset, .unset, .unset, .unset] [(.int p1)])
  refine OwnGo.st (fun _ k => XS.bipush X0.here hx rfl (hb hby at_1) k) ?_
  show OwnGo p e below s _ _ _ s₁ (mkF m 3 #[.val (.int p1), .unset, .unset, .unset, .unset] [(.int (7 : Int32)), (.int p1)])
  refine OwnGo.st (fun _ k => XS.iand X0.here hx rfl (hb hby at_3) rfl k) ?_
  show OwnGo p e below s _ _ _ s₁ (mkF m 4 #[.val (.int p1), .unset, .unset, .unset, .unset] [(.int (p1 &&& (7 : Int32)))])
  refine OwnGo.st (fun _ k => XS.istoreN X0.here hx rfl (hb hby at_4) rfl (l' := #[.val (.int p1), .val (.int (p1 &&& (7 : Int32))), .unset, .unset, .unset]) rfl k) ?_
  show OwnGo p e below s _ _ _ s₁ (mkF m 5 #[.val (.int p1), .val (.int (p1 &&& (7 : Int32))), .unset, .unset, .unset] [])
  refine OwnGo.st (fun _ k => XS.iloadN X0.here hx rfl (hb hby at_5) rfl  k) ?_
  show OwnGo p e below s _ _ _ s₁ (mkF m 6 #[.val (.int p1), .val (.int (p1 &&& (7 : Int32))), .unset, .unset, .unset] [(.int (p1 &&& (7 : Int32)))])
  by_cases hk0 : (p1 &&& (7 : Int32)) = (0 : Int32)
  · refine OwnGo.st (fun _ k => XS.ifNo X0.here hx rfl (hb hby at_6) rfl ((if0 _ _).trans (teq (hk0 : (p1 &&& (7 : Int32)) = (0 : Int32))).2) k) ?_
    show OwnGo p e below s _ _ _ s₁ (mkF m 9 #[.val (.int p1), .val (.int (p1 &&& (7 : Int32))), .unset, .unset, .unset] [])
    obtain ⟨T8, X8, e8, st8⟩ := getS2 X0 hx hZ hown (host := "") (Or.inl (hw _ (List.mem_of_getElem? (i := 0) rfl))) Via.refl e0 (S_u_Frequency_Weekly.ext O_.2) (g := (mkF m 9 #[.val (.int p1), .val (.int (p1 &&& (7 : Int32))), .unset, .unset, .unset] [])) rfl (hb hby at_9)
    refine OwnGo.st st8 ?_
    show OwnGo p e below s _ _ _ T8 (mkF m 12 #[.val (.int p1), .val (.int (p1 &&& (7 : Int32))), .unset, .unset, .unset] [(.ref u_Frequency_Weekly)])
    refine OwnGo.st (fun _ k => XS.astoreN X8.here hx rfl (hb hby at_12) rfl rfl (l' := #[.val (.int p1), .val (.int (p1 &&& (7 : Int32))), .val (.ref u_Frequency_Weekly), .unset, .unset]) rfl k) ?_
    show OwnGo p e below s _ _ _ T8 (mkF m 13 #[.val (.int p1), .val (.int (p1 &&& (7 : Int32))), .val (.ref u_Frequency_Weekly), .unset, .unset] [])
    refine OwnGo.st (fun _ k => XS.bipush X8.here hx rfl (hb hby at_13) k) ?_
    show OwnGo p e below s _ _ _ T8 (mkF m 15 #[.val (.int p1), .val (.int (p1 &&& (7 : Int32))), .val (.ref u_Frequency_Weekly), .unset, .unset] [(.int (52 : Int32))])
    refine OwnGo.st (fun _ k => XS.istoreN X8.here hx rfl (hb hby at_15) rfl (l' := #[.val (.int p1), .val (.int (p1 &&& (7 : Int32))), .val (.ref u_Frequency_Weekly), .val (.int (52 : Int32)), .unset]) rfl k) ?_
    show OwnGo p e below s _ _ _ T8 (mkF m 16 #[.val (.int p1), .val (.int (p1 &&& (7 : Int32))), .val (.ref u_Frequency_Weekly), .val (.int (52 : Int32)), .unset] [])
    refine OwnGo.st (fun _ k => XS.goto X8.here hx rfl (pc0 := 16) (pc' := 113) rfl (hb hby at_16) (by decide) (by decide) k) ?_
    show OwnGo p e below s _ _ _ T8 (mkF m 113 #[.val (.int p1), .val (.int (p1 &&& (7 : Int32))), .val (.ref u_Frequency_Weekly), .val (.int (52 : Int32)), .unset] [])
    refine OwnGo.st (fun _ k => XS.aloadN X8.here hx rfl (hb hby at_113) rfl rfl  k) ?_
    show OwnGo p e below s _ _ _ T8 (mkF m 114 #[.val (.int p1), .val (.int (p1 &&& (7 : Int32))), .val (.ref u_Frequency_Weekly), .val (.int (52 : Int32)), .unset] [(.ref u_Frequency_Weekly)])
    obtain ⟨cq9, kq9, q9a, q9b, q9c⟩ := isOf hZ e8 (E_u_Frequency_Weekly.ext O_.2)
    obtain ⟨_, _, ⟨T9, L9, k9, n9⟩, -, X9, ⟨Lc9, hQ9, l9, y9, z9⟩, st9⟩ := X8.virtualBack hx (y := (⟨"com/example/thorough_factfind/thoroughfactfind/foundation/Frequency", "periodsPerYear", "()Ljava/lang/Integer;"⟩ : MethodName)) (z := (⟨"com/example/thorough_factfind/thoroughfactfind/foundation/Frequency", "periodsPerYear", "()Ljava/lang/Integer;"⟩ : MethodName)) hown (mvT hZ (hw _ (List.mem_of_getElem? (i := 3) rfl))) (mvT hZ (hw _ (List.mem_of_getElem? (i := 4) rfl))) (notFace_of_selects (args := #[]) (mvT hZ (hw _ (List.mem_of_getElem? (i := 6) rfl)))) (mvT hZ (hw _ (List.mem_of_getElem? (i := 6) rfl))) (mvT hZ (hw _ (List.mem_of_getElem? (i := 5) rfl))) (by decide) (backOf (W := 0) (rmppy l Z a0 hw [] u_Frequency_Weekly (52 : Int32) r52 uc clc h0 n0 Z_ O_ S_high S_cache A_uc (F_u_Frequency_Weekly__timesPerYear.ext O_.2) (by decide) (by decide) (by decide) (by rw [hsz]; decide) H_52) hZ (hw _ (List.mem_of_getElem? (i := 7) rfl)) (hw _ (List.mem_of_getElem? (i := 1) rfl)) (by decide) (by decide)) q9a q9c (g := (mkF m 114 #[.val (.int p1), .val (.int (p1 &&& (7 : Int32))), .val (.ref u_Frequency_Weekly), .val (.int (52 : Int32)), .unset] [(.ref u_Frequency_Weekly)])) rfl (by rw [hml]; rfl) (Steps.refl _) (argsL := []) (rest := []) (lenOf pd_1 rfl) rfl (by show 2 * 0 + _ ≤ _; exact Nat.le_of_eq rfl) (hb hby at_114) (fun _ _ => ⟨rfl, e8, (by decide : 0 + 0 ≤ _), (by decide : 0 + 0 ≤ _)⟩)
    dsimp only [Pt.U, Pt.locs, Pt.cells, Pt.slots] at X9 l9 y9 z9 st9 hQ9
    subst l9 y9 z9
    obtain ⟨rfl, N9q, e9⟩ := hQ9
    have N9 := Fr.app N0 N9q
    refine OwnGo.st (fun _ k => st9.trans k) ?_
    show OwnGo p e below s _ _ _ T9 (mkF m 117 #[.val (.int p1), .val (.int (p1 &&& (7 : Int32))), .val (.ref u_Frequency_Weekly), .val (.int (52 : Int32)), .unset] [(.ref r52)])
    refine OwnGo.st (fun _ k => XS.astore X9.here hx rfl (hb hby at_117) rfl rfl (l' := #[.val (.int p1), .val (.int (p1 &&& (7 : Int32))), .val (.ref u_Frequency_Weekly), .val (.int (52 : Int32)), .val (.ref r52)]) rfl k) ?_
    show OwnGo p e below s _ _ _ T9 (mkF m 119 #[.val (.int p1), .val (.int (p1 &&& (7 : Int32))), .val (.ref u_Frequency_Weekly), .val (.int (52 : Int32)), .val (.ref r52)] [])
    refine OwnGo.st (fun _ k => XS.iloadN X9.here hx rfl (hb hby at_119) rfl  k) ?_
    show OwnGo p e below s _ _ _ T9 (mkF m 120 #[.val (.int p1), .val (.int (p1 &&& (7 : Int32))), .val (.ref u_Frequency_Weekly), .val (.int (52 : Int32)), .val (.ref r52)] [(.int (52 : Int32))])
    refine OwnGo.st (fun _ k => XS.ifYes X9.here hx rfl (pc0 := 120) (pc' := 134) rfl (hb hby at_120) rfl ((if0 _ _).trans (feq ((by decide) : ¬ ((52 : Int32) = (0 : Int32)))).2) (by decide) (by decide) k) ?_
    show OwnGo p e below s _ _ _ T9 (mkF m 134 #[.val (.int p1), .val (.int (p1 &&& (7 : Int32))), .val (.ref u_Frequency_Weekly), .val (.int (52 : Int32)), .val (.ref r52)] [])
    refine OwnGo.st (fun _ k => XS.aload X9.here hx rfl (hb hby at_134) rfl rfl  k) ?_
    show OwnGo p e below s _ _ _ T9 (mkF m 136 #[.val (.int p1), .val (.int (p1 &&& (7 : Int32))), .val (.ref u_Frequency_Weekly), .val (.int (52 : Int32)), .val (.ref r52)] [(.ref r52)])
    refine OwnGo.st (fun _ k => XS.ifnullNo X9.here hx rfl (hb hby at_136) rfl k) ?_
    show OwnGo p e below s _ _ _ T9 (mkF m 139 #[.val (.int p1), .val (.int (p1 &&& (7 : Int32))), .val (.ref u_Frequency_Weekly), .val (.int (52 : Int32)), .val (.ref r52)] [])
    refine OwnGo.st (fun _ k => XS.aload X9.here hx rfl (hb hby at_139) rfl rfl  k) ?_
    show OwnGo p e below s _ _ _ T9 (mkF m 141 #[.val (.int p1), .val (.int (p1 &&& (7 : Int32))), .val (.ref u_Frequency_Weekly), .val (.int (52 : Int32)), .val (.ref r52)] [(.ref r52)])
    obtain ⟨cq10, kq10, q10a, q10b, q10c⟩ := isOf hZ e9 (E_r52.ext O_.2)
    obtain ⟨_, _, ⟨T10, L10, k10, n10⟩, -, X10, ⟨Lc10, hQ10, l10, y10, z10⟩, st10⟩ := X9.virtualBack hx (y := (⟨"java/lang/Integer", "intValue", "()I"⟩ : MethodName)) (z := (⟨"java/lang/Integer", "intValue", "()I"⟩ : MethodName)) hown (mvT hZ (hw _ (List.mem_of_getElem? (i := 17) rfl))) (mvT hZ (hw _ (List.mem_of_getElem? (i := 18) rfl))) (notFace_of_selects (args := #[]) (mvT hZ (hw _ (List.mem_of_getElem? (i := 20) rfl)))) (mvT hZ (hw _ (List.mem_of_getElem? (i := 20) rfl))) (mvT hZ (hw _ (List.mem_of_getElem? (i := 19) rfl))) (by decide) (backOf (W := 0) (rm3 l Z a0 hw [] r52 (52 : Int32) h0 n0 Z_ (F_r52.ext O_.2)) hZ (hw _ (List.mem_of_getElem? (i := 21) rfl)) (hw _ (List.mem_of_getElem? (i := 12) rfl)) (by decide) (by decide)) q10a q10c (g := (mkF m 141 #[.val (.int p1), .val (.int (p1 &&& (7 : Int32))), .val (.ref u_Frequency_Weekly), .val (.int (52 : Int32)), .val (.ref r52)] [(.ref r52)])) rfl (by rw [hml]; rfl) (Steps.refl _) (argsL := []) (rest := []) (lenOf pd_2 rfl) rfl (by show 2 * 0 + _ ≤ _; exact Nat.le_of_eq rfl) (hb hby at_141) (fun _ _ => ⟨rfl, e9, (by decide : 0 + 0 ≤ _), (by decide : 0 + 0 ≤ _)⟩)
    dsimp only [Pt.U, Pt.locs, Pt.cells, Pt.slots] at X10 l10 y10 z10 st10 hQ10
    subst l10 y10 z10
    obtain ⟨rfl, N10q, e10⟩ := hQ10
    have N10 := Fr.app N9 N10q
    refine OwnGo.st (fun _ k => st10.trans k) ?_
    show OwnGo p e below s _ _ _ T10 (mkF m 144 #[.val (.int p1), .val (.int (p1 &&& (7 : Int32))), .val (.ref u_Frequency_Weekly), .val (.int (52 : Int32)), .val (.ref r52)] [(.int (52 : Int32))])
    refine OwnGo.st (fun _ k => XS.iloadN X10.here hx rfl (hb hby at_144) rfl  k) ?_
    show OwnGo p e below s _ _ _ T10 (mkF m 145 #[.val (.int p1), .val (.int (p1 &&& (7 : Int32))), .val (.ref u_Frequency_Weekly), .val (.int (52 : Int32)), .val (.ref r52)] [(.int (52 : Int32)), (.int (52 : Int32))])
    refine OwnGo.st (fun _ k => XS.icmpNo X10.here hx rfl (hb hby at_145) rfl (teq (rfl : (52 : Int32) = (52 : Int32))).2 k) ?_
    show OwnGo p e below s _ _ _ T10 (mkF m 148 #[.val (.int p1), .val (.int (p1 &&& (7 : Int32))), .val (.ref u_Frequency_Weekly), .val (.int (52 : Int32)), .val (.ref r52)] [])
    refine OwnGo.st (fun _ k => XS.iconst X10.here hx rfl (hb hby at_148) k) ?_
    show OwnGo p e below s _ _ _ T10 (mkF m 149 #[.val (.int p1), .val (.int (p1 &&& (7 : Int32))), .val (.ref u_Frequency_Weekly), .val (.int (52 : Int32)), .val (.ref r52)] [(.int (1 : Int32))])
    refine OwnGo.st (fun _ k => XS.goto X10.here hx rfl (pc0 := 149) (pc' := 153) rfl (hb hby at_149) (by decide) (by decide) k) ?_
    show OwnGo p e below s _ _ _ T10 (mkF m 153 #[.val (.int p1), .val (.int (p1 &&& (7 : Int32))), .val (.ref u_Frequency_Weekly), .val (.int (52 : Int32)), .val (.ref r52)] [(.int (1 : Int32))])
    exact OwnGo.retN X10 hx (t := .boolean) hret hlk (by simp) (hb hby at_153) (by show Q0 Z p1 u_Frequency_Weekly u_Frequency_Monthly u_Frequency_Annually u_Frequency_Single u_Frequency_FourWeekly u_Frequency_Fortnightly u_Frequency_Quarterly u_Frequency_HalfYearly uc clc r52 r26 r13 r12 r4 r2 r1 h0 n0 _ T10.heap _; rw [e10]; exact ⟨rfl, N10⟩) (by decide) (by decide)
  · refine OwnGo.st (fun _ k => XS.ifYes X0.here hx rfl (pc0 := 6) (pc' := 19) rfl (hb hby at_6) rfl ((if0 _ _).trans (feq (hk0 : ¬ ((p1 &&& (7 : Int32)) = (0 : Int32)))).2) (by decide) (by decide) k) ?_
    show OwnGo p e below s _ _ _ s₁ (mkF m 19 #[.val (.int p1), .val (.int (p1 &&& (7 : Int32))), .unset, .unset, .unset] [])
    refine OwnGo.st (fun _ k => XS.iloadN X0.here hx rfl (hb hby at_19) rfl  k) ?_
    show OwnGo p e below s _ _ _ s₁ (mkF m 20 #[.val (.int p1), .val (.int (p1 &&& (7 : Int32))), .unset, .unset, .unset] [(.int (p1 &&& (7 : Int32)))])
    refine OwnGo.st (fun _ k => XS.iconst X0.here hx rfl (hb hby at_20) k) ?_
    show OwnGo p e below s _ _ _ s₁ (mkF m 21 #[.val (.int p1), .val (.int (p1 &&& (7 : Int32))), .unset, .unset, .unset] [(.int (1 : Int32)), (.int (p1 &&& (7 : Int32)))])
    by_cases hk1 : (p1 &&& (7 : Int32)) = (1 : Int32)
    · refine OwnGo.st (fun _ k => XS.icmpNo X0.here hx rfl (hb hby at_21) rfl (teq (hk1 : (p1 &&& (7 : Int32)) = (1 : Int32))).2 k) ?_
      show OwnGo p e below s _ _ _ s₁ (mkF m 24 #[.val (.int p1), .val (.int (p1 &&& (7 : Int32))), .unset, .unset, .unset] [])
      obtain ⟨T11, X11, e11, st11⟩ := getS2 X0 hx hZ hown (host := "") (Or.inl (hw _ (List.mem_of_getElem? (i := 32) rfl))) Via.refl e0 (S_u_Frequency_Fortnightly.ext O_.2) (g := (mkF m 24 #[.val (.int p1), .val (.int (p1 &&& (7 : Int32))), .unset, .unset, .unset] [])) rfl (hb hby at_24)
      refine OwnGo.st st11 ?_
      show OwnGo p e below s _ _ _ T11 (mkF m 27 #[.val (.int p1), .val (.int (p1 &&& (7 : Int32))), .unset, .unset, .unset] [(.ref u_Frequency_Fortnightly)])
      refine OwnGo.st (fun _ k => XS.astoreN X11.here hx rfl (hb hby at_27) rfl rfl (l' := #[.val (.int p1), .val (.int (p1 &&& (7 : Int32))), .val (.ref u_Frequency_Fortnightly), .unset, .unset]) rfl k) ?_
      show OwnGo p e below s _ _ _ T11 (mkF m 28 #[.val (.int p1), .val (.int (p1 &&& (7 : Int32))), .val (.ref u_Frequency_Fortnightly), .unset, .unset] [])
      refine OwnGo.st (fun _ k => XS.bipush X11.here hx rfl (hb hby at_28) k) ?_
      show OwnGo p e below s _ _ _ T11 (mkF m 30 #[.val (.int p1), .val (.int (p1 &&& (7 : Int32))), .val (.ref u_Frequency_Fortnightly), .unset, .unset] [(.int (26 : Int32))])
      refine OwnGo.st (fun _ k => XS.istoreN X11.here hx rfl (hb hby at_30) rfl (l' := #[.val (.int p1), .val (.int (p1 &&& (7 : Int32))), .val (.ref u_Frequency_Fortnightly), .val (.int (26 : Int32)), .unset]) rfl k) ?_
      show OwnGo p e below s _ _ _ T11 (mkF m 31 #[.val (.int p1), .val (.int (p1 &&& (7 : Int32))), .val (.ref u_Frequency_Fortnightly), .val (.int (26 : Int32)), .unset] [])
      refine OwnGo.st (fun _ k => XS.goto X11.here hx rfl (pc0 := 31) (pc' := 113) rfl (hb hby at_31) (by decide) (by decide) k) ?_
      show OwnGo p e below s _ _ _ T11 (mkF m 113 #[.val (.int p1), .val (.int (p1 &&& (7 : Int32))), .val (.ref u_Frequency_Fortnightly), .val (.int (26 : Int32)), .unset] [])
      refine OwnGo.st (fun _ k => XS.aloadN X11.here hx rfl (hb hby at_113) rfl rfl  k) ?_
      show OwnGo p e below s _ _ _ T11 (mkF m 114 #[.val (.int p1), .val (.int (p1 &&& (7 : Int32))), .val (.ref u_Frequency_Fortnightly), .val (.int (26 : Int32)), .unset] [(.ref u_Frequency_Fortnightly)])
      obtain ⟨cq12, kq12, q12a, q12b, q12c⟩ := isOf hZ e11 (E_u_Frequency_Fortnightly.ext O_.2)
      obtain ⟨_, _, ⟨T12, L12, k12, n12⟩, -, X12, ⟨Lc12, hQ12, l12, y12, z12⟩, st12⟩ := X11.virtualBack hx (y := (⟨"com/example/thorough_factfind/thoroughfactfind/foundation/Frequency", "periodsPerYear", "()Ljava/lang/Integer;"⟩ : MethodName)) (z := (⟨"com/example/thorough_factfind/thoroughfactfind/foundation/Frequency", "periodsPerYear", "()Ljava/lang/Integer;"⟩ : MethodName)) hown (mvT hZ (hw _ (List.mem_of_getElem? (i := 3) rfl))) (mvT hZ (hw _ (List.mem_of_getElem? (i := 4) rfl))) (notFace_of_selects (args := #[]) (mvT hZ (hw _ (List.mem_of_getElem? (i := 6) rfl)))) (mvT hZ (hw _ (List.mem_of_getElem? (i := 6) rfl))) (mvT hZ (hw _ (List.mem_of_getElem? (i := 5) rfl))) (by decide) (backOf (W := 0) (rmppy l Z a0 hw [] u_Frequency_Fortnightly (26 : Int32) r26 uc clc h0 n0 Z_ O_ S_high S_cache A_uc (F_u_Frequency_Fortnightly__timesPerYear.ext O_.2) (by decide) (by decide) (by decide) (by rw [hsz]; decide) H_26) hZ (hw _ (List.mem_of_getElem? (i := 7) rfl)) (hw _ (List.mem_of_getElem? (i := 1) rfl)) (by decide) (by decide)) q12a q12c (g := (mkF m 114 #[.val (.int p1), .val (.int (p1 &&& (7 : Int32))), .val (.ref u_Frequency_Fortnightly), .val (.int (26 : Int32)), .unset] [(.ref u_Frequency_Fortnightly)])) rfl (by rw [hml]; rfl) (Steps.refl _) (argsL := []) (rest := []) (lenOf pd_1 rfl) rfl (by show 2 * 0 + _ ≤ _; exact Nat.le_of_eq rfl) (hb hby at_114) (fun _ _ => ⟨rfl, e11, (by decide : 0 + 0 ≤ _), (by decide : 0 + 0 ≤ _)⟩)
      dsimp only [Pt.U, Pt.locs, Pt.cells, Pt.slots] at X12 l12 y12 z12 st12 hQ12
      subst l12 y12 z12
      obtain ⟨rfl, N12q, e12⟩ := hQ12
      have N12 := Fr.app N0 N12q
      refine OwnGo.st (fun _ k => st12.trans k) ?_
      show OwnGo p e below s _ _ _ T12 (mkF m 117 #[.val (.int p1), .val (.int (p1 &&& (7 : Int32))), .val (.ref u_Frequency_Fortnightly), .val (.int (26 : Int32)), .unset] [(.ref r26)])
      refine OwnGo.st (fun _ k => XS.astore X12.here hx rfl (hb hby at_117) rfl rfl (l' := #[.val (.int p1), .val (.int (p1 &&& (7 : Int32))), .val (.ref u_Frequency_Fortnightly), .val (.int (26 : Int32)), .val (.ref r26)]) rfl k) ?_
      show OwnGo p e below s _ _ _ T12 (mkF m 119 #[.val (.int p1), .val (.int (p1 &&& (7 : Int32))), .val (.ref u_Frequency_Fortnightly), .val (.int (26 : Int32)), .val (.ref r26)] [])
      refine OwnGo.st (fun _ k => XS.iloadN X12.here hx rfl (hb hby at_119) rfl  k) ?_
      show OwnGo p e below s _ _ _ T12 (mkF m 120 #[.val (.int p1), .val (.int (p1 &&& (7 : Int32))), .val (.ref u_Frequency_Fortnightly), .val (.int (26 : Int32)), .val (.ref r26)] [(.int (26 : Int32))])
      refine OwnGo.st (fun _ k => XS.ifYes X12.here hx rfl (pc0 := 120) (pc' := 134) rfl (hb hby at_120) rfl ((if0 _ _).trans (feq ((by decide) : ¬ ((26 : Int32) = (0 : Int32)))).2) (by decide) (by decide) k) ?_
      show OwnGo p e below s _ _ _ T12 (mkF m 134 #[.val (.int p1), .val (.int (p1 &&& (7 : Int32))), .val (.ref u_Frequency_Fortnightly), .val (.int (26 : Int32)), .val (.ref r26)] [])
      refine OwnGo.st (fun _ k => XS.aload X12.here hx rfl (hb hby at_134) rfl rfl  k) ?_
      show OwnGo p e below s _ _ _ T12 (mkF m 136 #[.val (.int p1), .val (.int (p1 &&& (7 : Int32))), .val (.ref u_Frequency_Fortnightly), .val (.int (26 : Int32)), .val (.ref r26)] [(.ref r26)])
      refine OwnGo.st (fun _ k => XS.ifnullNo X12.here hx rfl (hb hby at_136) rfl k) ?_
      show OwnGo p e below s _ _ _ T12 (mkF m 139 #[.val (.int p1), .val (.int (p1 &&& (7 : Int32))), .val (.ref u_Frequency_Fortnightly), .val (.int (26 : Int32)), .val (.ref r26)] [])
      refine OwnGo.st (fun _ k => XS.aload X12.here hx rfl (hb hby at_139) rfl rfl  k) ?_
      show OwnGo p e below s _ _ _ T12 (mkF m 141 #[.val (.int p1), .val (.int (p1 &&& (7 : Int32))), .val (.ref u_Frequency_Fortnightly), .val (.int (26 : Int32)), .val (.ref r26)] [(.ref r26)])
      obtain ⟨cq13, kq13, q13a, q13b, q13c⟩ := isOf hZ e12 (E_r26.ext O_.2)
      obtain ⟨_, _, ⟨T13, L13, k13, n13⟩, -, X13, ⟨Lc13, hQ13, l13, y13, z13⟩, st13⟩ := X12.virtualBack hx (y := (⟨"java/lang/Integer", "intValue", "()I"⟩ : MethodName)) (z := (⟨"java/lang/Integer", "intValue", "()I"⟩ : MethodName)) hown (mvT hZ (hw _ (List.mem_of_getElem? (i := 17) rfl))) (mvT hZ (hw _ (List.mem_of_getElem? (i := 18) rfl))) (notFace_of_selects (args := #[]) (mvT hZ (hw _ (List.mem_of_getElem? (i := 20) rfl)))) (mvT hZ (hw _ (List.mem_of_getElem? (i := 20) rfl))) (mvT hZ (hw _ (List.mem_of_getElem? (i := 19) rfl))) (by decide) (backOf (W := 0) (rm3 l Z a0 hw [] r26 (26 : Int32) h0 n0 Z_ (F_r26.ext O_.2)) hZ (hw _ (List.mem_of_getElem? (i := 21) rfl)) (hw _ (List.mem_of_getElem? (i := 12) rfl)) (by decide) (by decide)) q13a q13c (g := (mkF m 141 #[.val (.int p1), .val (.int (p1 &&& (7 : Int32))), .val (.ref u_Frequency_Fortnightly), .val (.int (26 : Int32)), .val (.ref r26)] [(.ref r26)])) rfl (by rw [hml]; rfl) (Steps.refl _) (argsL := []) (rest := []) (lenOf pd_2 rfl) rfl (by show 2 * 0 + _ ≤ _; exact Nat.le_of_eq rfl) (hb hby at_141) (fun _ _ => ⟨rfl, e12, (by decide : 0 + 0 ≤ _), (by decide : 0 + 0 ≤ _)⟩)
      dsimp only [Pt.U, Pt.locs, Pt.cells, Pt.slots] at X13 l13 y13 z13 st13 hQ13
      subst l13 y13 z13
      obtain ⟨rfl, N13q, e13⟩ := hQ13
      have N13 := Fr.app N12 N13q
      refine OwnGo.st (fun _ k => st13.trans k) ?_
      show OwnGo p e below s _ _ _ T13 (mkF m 144 #[.val (.int p1), .val (.int (p1 &&& (7 : Int32))), .val (.ref u_Frequency_Fortnightly), .val (.int (26 : Int32)), .val (.ref r26)] [(.int (26 : Int32))])
      refine OwnGo.st (fun _ k => XS.iloadN X13.here hx rfl (hb hby at_144) rfl  k) ?_
      show OwnGo p e below s _ _ _ T13 (mkF m 145 #[.val (.int p1), .val (.int (p1 &&& (7 : Int32))), .val (.ref u_Frequency_Fortnightly), .val (.int (26 : Int32)), .val (.ref r26)] [(.int (26 : Int32)), (.int (26 : Int32))])
      refine OwnGo.st (fun _ k => XS.icmpNo X13.here hx rfl (hb hby at_145) rfl (teq (rfl : (26 : Int32) = (26 : Int32))).2 k) ?_
      show OwnGo p e below s _ _ _ T13 (mkF m 148 #[.val (.int p1), .val (.int (p1 &&& (7 : Int32))), .val (.ref u_Frequency_Fortnightly), .val (.int (26 : Int32)), .val (.ref r26)] [])
      refine OwnGo.st (fun _ k => XS.iconst X13.here hx rfl (hb hby at_148) k) ?_
      show OwnGo p e below s _ _ _ T13 (mkF m 149 #[.val (.int p1), .val (.int (p1 &&& (7 : Int32))), .val (.ref u_Frequency_Fortnightly), .val (.int (26 : Int32)), .val (.ref r26)] [(.int (1 : Int32))])
      refine OwnGo.st (fun _ k => XS.goto X13.here hx rfl (pc0 := 149) (pc' := 153) rfl (hb hby at_149) (by decide) (by decide) k) ?_
      show OwnGo p e below s _ _ _ T13 (mkF m 153 #[.val (.int p1), .val (.int (p1 &&& (7 : Int32))), .val (.ref u_Frequency_Fortnightly), .val (.int (26 : Int32)), .val (.ref r26)] [(.int (1 : Int32))])
      exact OwnGo.retN X13 hx (t := .boolean) hret hlk (by simp) (hb hby at_153) (by show Q0 Z p1 u_Frequency_Weekly u_Frequency_Monthly u_Frequency_Annually u_Frequency_Single u_Frequency_FourWeekly u_Frequency_Fortnightly u_Frequency_Quarterly u_Frequency_HalfYearly uc clc r52 r26 r13 r12 r4 r2 r1 h0 n0 _ T13.heap _; rw [e13]; exact ⟨rfl, N13⟩) (by decide) (by decide)
    · refine OwnGo.st (fun _ k => XS.icmpYes X0.here hx rfl (pc0 := 21) (pc' := 34) rfl (hb hby at_21) rfl (feq (hk1 : ¬ ((p1 &&& (7 : Int32)) = (1 : Int32)))).2 (by decide) (by decide) k) ?_
      show OwnGo p e below s _ _ _ s₁ (mkF m 34 #[.val (.int p1), .val (.int (p1 &&& (7 : Int32))), .unset, .unset, .unset] [])
      refine OwnGo.st (fun _ k => XS.iloadN X0.here hx rfl (hb hby at_34) rfl  k) ?_
      show OwnGo p e below s _ _ _ s₁ (mkF m 35 #[.val (.int p1), .val (.int (p1 &&& (7 : Int32))), .unset, .unset, .unset] [(.int (p1 &&& (7 : Int32)))])
      refine OwnGo.st (fun _ k => XS.iconst X0.here hx rfl (hb hby at_35) k) ?_
      show OwnGo p e below s _ _ _ s₁ (mkF m 36 #[.val (.int p1), .val (.int (p1 &&& (7 : Int32))), .unset, .unset, .unset] [(.int (2 : Int32)), (.int (p1 &&& (7 : Int32)))])
      by_cases hk2 : (p1 &&& (7 : Int32)) = (2 : Int32)
      · refine OwnGo.st (fun _ k => XS.icmpNo X0.here hx rfl (hb hby at_36) rfl (teq (hk2 : (p1 &&& (7 : Int32)) = (2 : Int32))).2 k) ?_
        show OwnGo p e below s _ _ _ s₁ (mkF m 39 #[.val (.int p1), .val (.int (p1 &&& (7 : Int32))), .unset, .unset, .unset] [])
        obtain ⟨T14, X14, e14, st14⟩ := getS2 X0 hx hZ hown (host := "") (Or.inl (hw _ (List.mem_of_getElem? (i := 30) rfl))) Via.refl e0 (S_u_Frequency_FourWeekly.ext O_.2) (g := (mkF m 39 #[.val (.int p1), .val (.int (p1 &&& (7 : Int32))), .unset, .unset, .unset] [])) rfl (hb hby at_39)
        refine OwnGo.st st14 ?_
        show OwnGo p e below s _ _ _ T14 (mkF m 42 #[.val (.int p1), .val (.int (p1 &&& (7 : Int32))), .unset, .unset, .unset] [(.ref u_Frequency_FourWeekly)])
        refine OwnGo.st (fun _ k => XS.astoreN X14.here hx rfl (hb hby at_42) rfl rfl (l' := #[.val (.int p1), .val (.int (p1 &&& (7 : Int32))), .val (.ref u_Frequency_FourWeekly), .unset, .unset]) rfl k) ?_
        show OwnGo p e below s _ _ _ T14 (mkF m 43 #[.val (.int p1), .val (.int (p1 &&& (7 : Int32))), .val (.ref u_Frequency_FourWeekly), .unset, .unset] [])
        refine OwnGo.st (fun _ k => XS.bipush X14.here hx rfl (hb hby at_43) k) ?_
        show OwnGo p e below s _ _ _ T14 (mkF m 45 #[.val (.int p1), .val (.int (p1 &&& (7 : Int32))), .val (.ref u_Frequency_FourWeekly), .unset, .unset] [(.int (13 : Int32))])
        refine OwnGo.st (fun _ k => XS.istoreN X14.here hx rfl (hb hby at_45) rfl (l' := #[.val (.int p1), .val (.int (p1 &&& (7 : Int32))), .val (.ref u_Frequency_FourWeekly), .val (.int (13 : Int32)), .unset]) rfl k) ?_
        show OwnGo p e below s _ _ _ T14 (mkF m 46 #[.val (.int p1), .val (.int (p1 &&& (7 : Int32))), .val (.ref u_Frequency_FourWeekly), .val (.int (13 : Int32)), .unset] [])
        refine OwnGo.st (fun _ k => XS.goto X14.here hx rfl (pc0 := 46) (pc' := 113) rfl (hb hby at_46) (by decide) (by decide) k) ?_
        show OwnGo p e below s _ _ _ T14 (mkF m 113 #[.val (.int p1), .val (.int (p1 &&& (7 : Int32))), .val (.ref u_Frequency_FourWeekly), .val (.int (13 : Int32)), .unset] [])
        refine OwnGo.st (fun _ k => XS.aloadN X14.here hx rfl (hb hby at_113) rfl rfl  k) ?_
        show OwnGo p e below s _ _ _ T14 (mkF m 114 #[.val (.int p1), .val (.int (p1 &&& (7 : Int32))), .val (.ref u_Frequency_FourWeekly), .val (.int (13 : Int32)), .unset] [(.ref u_Frequency_FourWeekly)])
        obtain ⟨cq15, kq15, q15a, q15b, q15c⟩ := isOf hZ e14 (E_u_Frequency_FourWeekly.ext O_.2)
        obtain ⟨_, _, ⟨T15, L15, k15, n15⟩, -, X15, ⟨Lc15, hQ15, l15, y15, z15⟩, st15⟩ := X14.virtualBack hx (y := (⟨"com/example/thorough_factfind/thoroughfactfind/foundation/Frequency", "periodsPerYear", "()Ljava/lang/Integer;"⟩ : MethodName)) (z := (⟨"com/example/thorough_factfind/thoroughfactfind/foundation/Frequency", "periodsPerYear", "()Ljava/lang/Integer;"⟩ : MethodName)) hown (mvT hZ (hw _ (List.mem_of_getElem? (i := 3) rfl))) (mvT hZ (hw _ (List.mem_of_getElem? (i := 4) rfl))) (notFace_of_selects (args := #[]) (mvT hZ (hw _ (List.mem_of_getElem? (i := 6) rfl)))) (mvT hZ (hw _ (List.mem_of_getElem? (i := 6) rfl))) (mvT hZ (hw _ (List.mem_of_getElem? (i := 5) rfl))) (by decide) (backOf (W := 0) (rmppy l Z a0 hw [] u_Frequency_FourWeekly (13 : Int32) r13 uc clc h0 n0 Z_ O_ S_high S_cache A_uc (F_u_Frequency_FourWeekly__timesPerYear.ext O_.2) (by decide) (by decide) (by decide) (by rw [hsz]; decide) H_13) hZ (hw _ (List.mem_of_getElem? (i := 7) rfl)) (hw _ (List.mem_of_getElem? (i := 1) rfl)) (by decide) (by decide)) q15a q15c (g := (mkF m 114 #[.val (.int p1), .val (.int (p1 &&& (7 : Int32))), .val (.ref u_Frequency_FourWeekly), .val (.int (13 : Int32)), .unset] [(.ref u_Frequency_FourWeekly)])) rfl (by rw [hml]; rfl) (Steps.refl _) (argsL := []) (rest := []) (lenOf pd_1 rfl) rfl (by show 2 * 0 + _ ≤ _; exact Nat.le_of_eq rfl) (hb hby at_114) (fun _ _ => ⟨rfl, e14, (by decide : 0 + 0 ≤ _), (by decide : 0 + 0 ≤ _)⟩)
        dsimp only [Pt.U, Pt.locs, Pt.cells, Pt.slots] at X15 l15 y15 z15 st15 hQ15
        subst l15 y15 z15
        obtain ⟨rfl, N15q, e15⟩ := hQ15
        have N15 := Fr.app N0 N15q
        refine OwnGo.st (fun _ k => st15.trans k) ?_
        show OwnGo p e below s _ _ _ T15 (mkF m 117 #[.val (.int p1), .val (.int (p1 &&& (7 : Int32))), .val (.ref u_Frequency_FourWeekly), .val (.int (13 : Int32)), .unset] [(.ref r13)])
        refine OwnGo.st (fun _ k => XS.astore X15.here hx rfl (hb hby at_117) rfl rfl (l' := #[.val (.int p1), .val (.int (p1 &&& (7 : Int32))), .val (.ref u_Frequency_FourWeekly), .val (.int (13 : Int32)), .val (.ref r13)]) rfl k) ?_
        show OwnGo p e below s _ _ _ T15 (mkF m 119 #[.val (.int p1), .val (.int (p1 &&& (7 : Int32))), .val (.ref u_Frequency_FourWeekly), .val (.int (13 : Int32)), .val (.ref r13)] [])
        refine OwnGo.st (fun _ k => XS.iloadN X15.here hx rfl (hb hby at_119) rfl  k) ?_
        show OwnGo p e below s _ _ _ T15 (mkF m 120 #[.val (.int p1), .val (.int (p1 &&& (7 : Int32))), .val (.ref u_Frequency_FourWeekly), .val (.int (13 : Int32)), .val (.ref r13)] [(.int (13 : Int32))])
        refine OwnGo.st (fun _ k => XS.ifYes X15.here hx rfl (pc0 := 120) (pc' := 134) rfl (hb hby at_120) rfl ((if0 _ _).trans (feq ((by decide) : ¬ ((13 : Int32) = (0 : Int32)))).2) (by decide) (by decide) k) ?_
        show OwnGo p e below s _ _ _ T15 (mkF m 134 #[.val (.int p1), .val (.int (p1 &&& (7 : Int32))), .val (.ref u_Frequency_FourWeekly), .val (.int (13 : Int32)), .val (.ref r13)] [])
        refine OwnGo.st (fun _ k => XS.aload X15.here hx rfl (hb hby at_134) rfl rfl  k) ?_
        show OwnGo p e below s _ _ _ T15 (mkF m 136 #[.val (.int p1), .val (.int (p1 &&& (7 : Int32))), .val (.ref u_Frequency_FourWeekly), .val (.int (13 : Int32)), .val (.ref r13)] [(.ref r13)])
        refine OwnGo.st (fun _ k => XS.ifnullNo X15.here hx rfl (hb hby at_136) rfl k) ?_
        show OwnGo p e below s _ _ _ T15 (mkF m 139 #[.val (.int p1), .val (.int (p1 &&& (7 : Int32))), .val (.ref u_Frequency_FourWeekly), .val (.int (13 : Int32)), .val (.ref r13)] [])
        refine OwnGo.st (fun _ k => XS.aload X15.here hx rfl (hb hby at_139) rfl rfl  k) ?_
        show OwnGo p e below s _ _ _ T15 (mkF m 141 #[.val (.int p1), .val (.int (p1 &&& (7 : Int32))), .val (.ref u_Frequency_FourWeekly), .val (.int (13 : Int32)), .val (.ref r13)] [(.ref r13)])
        obtain ⟨cq16, kq16, q16a, q16b, q16c⟩ := isOf hZ e15 (E_r13.ext O_.2)
        obtain ⟨_, _, ⟨T16, L16, k16, n16⟩, -, X16, ⟨Lc16, hQ16, l16, y16, z16⟩, st16⟩ := X15.virtualBack hx (y := (⟨"java/lang/Integer", "intValue", "()I"⟩ : MethodName)) (z := (⟨"java/lang/Integer", "intValue", "()I"⟩ : MethodName)) hown (mvT hZ (hw _ (List.mem_of_getElem? (i := 17) rfl))) (mvT hZ (hw _ (List.mem_of_getElem? (i := 18) rfl))) (notFace_of_selects (args := #[]) (mvT hZ (hw _ (List.mem_of_getElem? (i := 20) rfl)))) (mvT hZ (hw _ (List.mem_of_getElem? (i := 20) rfl))) (mvT hZ (hw _ (List.mem_of_getElem? (i := 19) rfl))) (by decide) (backOf (W := 0) (rm3 l Z a0 hw [] r13 (13 : Int32) h0 n0 Z_ (F_r13.ext O_.2)) hZ (hw _ (List.mem_of_getElem? (i := 21) rfl)) (hw _ (List.mem_of_getElem? (i := 12) rfl)) (by decide) (by decide)) q16a q16c (g := (mkF m 141 #[.val (.int p1), .val (.int (p1 &&& (7 : Int32))), .val (.ref u_Frequency_FourWeekly), .val (.int (13 : Int32)), .val (.ref r13)] [(.ref r13)])) rfl (by rw [hml]; rfl) (Steps.refl _) (argsL := []) (rest := []) (lenOf pd_2 rfl) rfl (by show 2 * 0 + _ ≤ _; exact Nat.le_of_eq rfl) (hb hby at_141) (fun _ _ => ⟨rfl, e15, (by decide : 0 + 0 ≤ _), (by decide : 0 + 0 ≤ _)⟩)
        dsimp only [Pt.U, Pt.locs, Pt.cells, Pt.slots] at X16 l16 y16 z16 st16 hQ16
        subst l16 y16 z16
        obtain ⟨rfl, N16q, e16⟩ := hQ16
        have N16 := Fr.app N15 N16q
        refine OwnGo.st (fun _ k => st16.trans k) ?_
        show OwnGo p e below s _ _ _ T16 (mkF m 144 #[.val (.int p1), .val (.int (p1 &&& (7 : Int32))), .val (.ref u_Frequency_FourWeekly), .val (.int (13 : Int32)), .val (.ref r13)] [(.int (13 : Int32))])
        refine OwnGo.st (fun _ k => XS.iloadN X16.here hx rfl (hb hby at_144) rfl  k) ?_
        show OwnGo p e below s _ _ _ T16 (mkF m 145 #[.val (.int p1), .val (.int (p1 &&& (7 : Int32))), .val (.ref u_Frequency_FourWeekly), .val (.int (13 : Int32)), .val (.ref r13)] [(.int (13 : Int32)), (.int (13 : Int32))])
        refine OwnGo.st (fun _ k => XS.icmpNo X16.here hx rfl (hb hby at_145) rfl (teq (rfl : (13 : Int32) = (13 : Int32))).2 k) ?_
        show OwnGo p e below s _ _ _ T16 (mkF m 148 #[.val (.int p1), .val (.int (p1 &&& (7 : Int32))), .val (.ref u_Frequency_FourWeekly), .val (.int (13 : Int32)), .val (.ref r13)] [])
        refine OwnGo.st (fun _ k => XS.iconst X16.here hx rfl (hb hby at_148) k) ?_
        show OwnGo p e below s _ _ _ T16 (mkF m 149 #[.val (.int p1), .val (.int (p1 &&& (7 : Int32))), .val (.ref u_Frequency_FourWeekly), .val (.int (13 : Int32)), .val (.ref r13)] [(.int (1 : Int32))])
        refine OwnGo.st (fun _ k => XS.goto X16.here hx rfl (pc0 := 149) (pc' := 153) rfl (hb hby at_149) (by decide) (by decide) k) ?_
        show OwnGo p e below s _ _ _ T16 (mkF m 153 #[.val (.int p1), .val (.int (p1 &&& (7 : Int32))), .val (.ref u_Frequency_FourWeekly), .val (.int (13 : Int32)), .val (.ref r13)] [(.int (1 : Int32))])
        exact OwnGo.retN X16 hx (t := .boolean) hret hlk (by simp) (hb hby at_153) (by show Q0 Z p1 u_Frequency_Weekly u_Frequency_Monthly u_Frequency_Annually u_Frequency_Single u_Frequency_FourWeekly u_Frequency_Fortnightly u_Frequency_Quarterly u_Frequency_HalfYearly uc clc r52 r26 r13 r12 r4 r2 r1 h0 n0 _ T16.heap _; rw [e16]; exact ⟨rfl, N16⟩) (by decide) (by decide)
      · refine OwnGo.st (fun _ k => XS.icmpYes X0.here hx rfl (pc0 := 36) (pc' := 49) rfl (hb hby at_36) rfl (feq (hk2 : ¬ ((p1 &&& (7 : Int32)) = (2 : Int32)))).2 (by decide) (by decide) k) ?_
        show OwnGo p e below s _ _ _ s₁ (mkF m 49 #[.val (.int p1), .val (.int (p1 &&& (7 : Int32))), .unset, .unset, .unset] [])
        refine OwnGo.st (fun _ k => XS.iloadN X0.here hx rfl (hb hby at_49) rfl  k) ?_
        show OwnGo p e below s _ _ _ s₁ (mkF m 50 #[.val (.int p1), .val (.int (p1 &&& (7 : Int32))), .unset, .unset, .unset] [(.int (p1 &&& (7 : Int32)))])
        refine OwnGo.st (fun _ k => XS.iconst X0.here hx rfl (hb hby at_50) k) ?_
        show OwnGo p e below s _ _ _ s₁ (mkF m 51 #[.val (.int p1), .val (.int (p1 &&& (7 : Int32))), .unset, .unset, .unset] [(.int (3 : Int32)), (.int (p1 &&& (7 : Int32)))])
        by_cases hk3 : (p1 &&& (7 : Int32)) = (3 : Int32)
        · refine OwnGo.st (fun _ k => XS.icmpNo X0.here hx rfl (hb hby at_51) rfl (teq (hk3 : (p1 &&& (7 : Int32)) = (3 : Int32))).2 k) ?_
          show OwnGo p e below s _ _ _ s₁ (mkF m 54 #[.val (.int p1), .val (.int (p1 &&& (7 : Int32))), .unset, .unset, .unset] [])
          obtain ⟨T17, X17, e17, st17⟩ := getS2 X0 hx hZ hown (host := "") (Or.inl (hw _ (List.mem_of_getElem? (i := 24) rfl))) Via.refl e0 (S_u_Frequency_Monthly.ext O_.2) (g := (mkF m 54 #[.val (.int p1), .val (.int (p1 &&& (7 : Int32))), .unset, .unset, .unset] [])) rfl (hb hby at_54)
          refine OwnGo.st st17 ?_
          show OwnGo p e below s _ _ _ T17 (mkF m 57 #[.val (.int p1), .val (.int (p1 &&& (7 : Int32))), .unset, .unset, .unset] [(.ref u_Frequency_Monthly)])
          refine OwnGo.st (fun _ k => XS.astoreN X17.here hx rfl (hb hby at_57) rfl rfl (l' := #[.val (.int p1), .val (.int (p1 &&& (7 : Int32))), .val (.ref u_Frequency_Monthly), .unset, .unset]) rfl k) ?_
          show OwnGo p e below s _ _ _ T17 (mkF m 58 #[.val (.int p1), .val (.int (p1 &&& (7 : Int32))), .val (.ref u_Frequency_Monthly), .unset, .unset] [])
          refine OwnGo.st (fun _ k => XS.bipush X17.here hx rfl (hb hby at_58) k) ?_
          show OwnGo p e below s _ _ _ T17 (mkF m 60 #[.val (.int p1), .val (.int (p1 &&& (7 : Int32))), .val (.ref u_Frequency_Monthly), .unset, .unset] [(.int (12 : Int32))])
          refine OwnGo.st (fun _ k => XS.istoreN X17.here hx rfl (hb hby at_60) rfl (l' := #[.val (.int p1), .val (.int (p1 &&& (7 : Int32))), .val (.ref u_Frequency_Monthly), .val (.int (12 : Int32)), .unset]) rfl k) ?_
          show OwnGo p e below s _ _ _ T17 (mkF m 61 #[.val (.int p1), .val (.int (p1 &&& (7 : Int32))), .val (.ref u_Frequency_Monthly), .val (.int (12 : Int32)), .unset] [])
          refine OwnGo.st (fun _ k => XS.goto X17.here hx rfl (pc0 := 61) (pc' := 113) rfl (hb hby at_61) (by decide) (by decide) k) ?_
          show OwnGo p e below s _ _ _ T17 (mkF m 113 #[.val (.int p1), .val (.int (p1 &&& (7 : Int32))), .val (.ref u_Frequency_Monthly), .val (.int (12 : Int32)), .unset] [])
          refine OwnGo.st (fun _ k => XS.aloadN X17.here hx rfl (hb hby at_113) rfl rfl  k) ?_
          show OwnGo p e below s _ _ _ T17 (mkF m 114 #[.val (.int p1), .val (.int (p1 &&& (7 : Int32))), .val (.ref u_Frequency_Monthly), .val (.int (12 : Int32)), .unset] [(.ref u_Frequency_Monthly)])
          obtain ⟨cq18, kq18, q18a, q18b, q18c⟩ := isOf hZ e17 (E_u_Frequency_Monthly.ext O_.2)
          obtain ⟨_, _, ⟨T18, L18, k18, n18⟩, -, X18, ⟨Lc18, hQ18, l18, y18, z18⟩, st18⟩ := X17.virtualBack hx (y := (⟨"com/example/thorough_factfind/thoroughfactfind/foundation/Frequency", "periodsPerYear", "()Ljava/lang/Integer;"⟩ : MethodName)) (z := (⟨"com/example/thorough_factfind/thoroughfactfind/foundation/Frequency", "periodsPerYear", "()Ljava/lang/Integer;"⟩ : MethodName)) hown (mvT hZ (hw _ (List.mem_of_getElem? (i := 3) rfl))) (mvT hZ (hw _ (List.mem_of_getElem? (i := 4) rfl))) (notFace_of_selects (args := #[]) (mvT hZ (hw _ (List.mem_of_getElem? (i := 6) rfl)))) (mvT hZ (hw _ (List.mem_of_getElem? (i := 6) rfl))) (mvT hZ (hw _ (List.mem_of_getElem? (i := 5) rfl))) (by decide) (backOf (W := 0) (rmppy l Z a0 hw [] u_Frequency_Monthly (12 : Int32) r12 uc clc h0 n0 Z_ O_ S_high S_cache A_uc (F_u_Frequency_Monthly__timesPerYear.ext O_.2) (by decide) (by decide) (by decide) (by rw [hsz]; decide) H_12) hZ (hw _ (List.mem_of_getElem? (i := 7) rfl)) (hw _ (List.mem_of_getElem? (i := 1) rfl)) (by decide) (by decide)) q18a q18c (g := (mkF m 114 #[.val (.int p1), .val (.int (p1 &&& (7 : Int32))), .val (.ref u_Frequency_Monthly), .val (.int (12 : Int32)), .unset] [(.ref u_Frequency_Monthly)])) rfl (by rw [hml]; rfl) (Steps.refl _) (argsL := []) (rest := []) (lenOf pd_1 rfl) rfl (by show 2 * 0 + _ ≤ _; exact Nat.le_of_eq rfl) (hb hby at_114) (fun _ _ => ⟨rfl, e17, (by decide : 0 + 0 ≤ _), (by decide : 0 + 0 ≤ _)⟩)
          dsimp only [Pt.U, Pt.locs, Pt.cells, Pt.slots] at X18 l18 y18 z18 st18 hQ18
          subst l18 y18 z18
          obtain ⟨rfl, N18q, e18⟩ := hQ18
          have N18 := Fr.app N0 N18q
          refine OwnGo.st (fun _ k => st18.trans k) ?_
          show OwnGo p e below s _ _ _ T18 (mkF m 117 #[.val (.int p1), .val (.int (p1 &&& (7 : Int32))), .val (.ref u_Frequency_Monthly), .val (.int (12 : Int32)), .unset] [(.ref r12)])
          refine OwnGo.st (fun _ k => XS.astore X18.here hx rfl (hb hby at_117) rfl rfl (l' := #[.val (.int p1), .val (.int (p1 &&& (7 : Int32))), .val (.ref u_Frequency_Monthly), .val (.int (12 : Int32)), .val (.ref r12)]) rfl k) ?_
          show OwnGo p e below s _ _ _ T18 (mkF m 119 #[.val (.int p1), .val (.int (p1 &&& (7 : Int32))), .val (.ref u_Frequency_Monthly), .val (.int (12 : Int32)), .val (.ref r12)] [])
          refine OwnGo.st (fun _ k => XS.iloadN X18.here hx rfl (hb hby at_119) rfl  k) ?_
          show OwnGo p e below s _ _ _ T18 (mkF m 120 #[.val (.int p1), .val (.int (p1 &&& (7 : Int32))), .val (.ref u_Frequency_Monthly), .val (.int (12 : Int32)), .val (.ref r12)] [(.int (12 : Int32))])
          refine OwnGo.st (fun _ k => XS.ifYes X18.here hx rfl (pc0 := 120) (pc' := 134) rfl (hb hby at_120) rfl ((if0 _ _).trans (feq ((by decide) : ¬ ((12 : Int32) = (0 : Int32)))).2) (by decide) (by decide) k) ?_
          show OwnGo p e below s _ _ _ T18 (mkF m 134 #[.val (.int p1), .val (.int (p1 &&& (7 : Int32))), .val (.ref u_Frequency_Monthly), .val (.int (12 : Int32)), .val (.ref r12)] [])
          refine OwnGo.st (fun _ k => XS.aload X18.here hx rfl (hb hby at_134) rfl rfl  k) ?_
          show OwnGo p e below s _ _ _ T18 (mkF m 136 #[.val (.int p1), .val (.int (p1 &&& (7 : Int32))), .val (.ref u_Frequency_Monthly), .val (.int (12 : Int32)), .val (.ref r12)] [(.ref r12)])
          refine OwnGo.st (fun _ k => XS.ifnullNo X18.here hx rfl (hb hby at_136) rfl k) ?_
          show OwnGo p e below s _ _ _ T18 (mkF m 139 #[.val (.int p1), .val (.int (p1 &&& (7 : Int32))), .val (.ref u_Frequency_Monthly), .val (.int (12 : Int32)), .val (.ref r12)] [])
          refine OwnGo.st (fun _ k => XS.aload X18.here hx rfl (hb hby at_139) rfl rfl  k) ?_
          show OwnGo p e below s _ _ _ T18 (mkF m 141 #[.val (.int p1), .val (.int (p1 &&& (7 : Int32))), .val (.ref u_Frequency_Monthly), .val (.int (12 : Int32)), .val (.ref r12)] [(.ref r12)])
          obtain ⟨cq19, kq19, q19a, q19b, q19c⟩ := isOf hZ e18 (E_r12.ext O_.2)
          obtain ⟨_, _, ⟨T19, L19, k19, n19⟩, -, X19, ⟨Lc19, hQ19, l19, y19, z19⟩, st19⟩ := X18.virtualBack hx (y := (⟨"java/lang/Integer", "intValue", "()I"⟩ : MethodName)) (z := (⟨"java/lang/Integer", "intValue", "()I"⟩ : MethodName)) hown (mvT hZ (hw _ (List.mem_of_getElem? (i := 17) rfl))) (mvT hZ (hw _ (List.mem_of_getElem? (i := 18) rfl))) (notFace_of_selects (args := #[]) (mvT hZ (hw _ (List.mem_of_getElem? (i := 20) rfl)))) (mvT hZ (hw _ (List.mem_of_getElem? (i := 20) rfl))) (mvT hZ (hw _ (List.mem_of_getElem? (i := 19) rfl))) (by decide) (backOf (W := 0) (rm3 l Z a0 hw [] r12 (12 : Int32) h0 n0 Z_ (F_r12.ext O_.2)) hZ (hw _ (List.mem_of_getElem? (i := 21) rfl)) (hw _ (List.mem_of_getElem? (i := 12) rfl)) (by decide) (by decide)) q19a q19c (g := (mkF m 141 #[.val (.int p1), .val (.int (p1 &&& (7 : Int32))), .val (.ref u_Frequency_Monthly), .val (.int (12 : Int32)), .val (.ref r12)] [(.ref r12)])) rfl (by rw [hml]; rfl) (Steps.refl _) (argsL := []) (rest := []) (lenOf pd_2 rfl) rfl (by show 2 * 0 + _ ≤ _; exact Nat.le_of_eq rfl) (hb hby at_141) (fun _ _ => ⟨rfl, e18, (by decide : 0 + 0 ≤ _), (by decide : 0 + 0 ≤ _)⟩)
          dsimp only [Pt.U, Pt.locs, Pt.cells, Pt.slots] at X19 l19 y19 z19 st19 hQ19
          subst l19 y19 z19
          obtain ⟨rfl, N19q, e19⟩ := hQ19
          have N19 := Fr.app N18 N19q
          refine OwnGo.st (fun _ k => st19.trans k) ?_
          show OwnGo p e below s _ _ _ T19 (mkF m 144 #[.val (.int p1), .val (.int (p1 &&& (7 : Int32))), .val (.ref u_Frequency_Monthly), .val (.int (12 : Int32)), .val (.ref r12)] [(.int (12 : Int32))])
          refine OwnGo.st (fun _ k => XS.iloadN X19.here hx rfl (hb hby at_144) rfl  k) ?_
          show OwnGo p e below s _ _ _ T19 (mkF m 145 #[.val (.int p1), .val (.int (p1 &&& (7 : Int32))), .val (.ref u_Frequency_Monthly), .val (.int (12 : Int32)), .val (.ref r12)] [(.int (12 : Int32)), (.int (12 : Int32))])
          refine OwnGo.st (fun _ k => XS.icmpNo X19.here hx rfl (hb hby at_145) rfl (teq (rfl : (12 : Int32) = (12 : Int32))).2 k) ?_
          show OwnGo p e below s _ _ _ T19 (mkF m 148 #[.val (.int p1), .val (.int (p1 &&& (7 : Int32))), .val (.ref u_Frequency_Monthly), .val (.int (12 : Int32)), .val (.ref r12)] [])
          refine OwnGo.st (fun _ k => XS.iconst X19.here hx rfl (hb hby at_148) k) ?_
          show OwnGo p e below s _ _ _ T19 (mkF m 149 #[.val (.int p1), .val (.int (p1 &&& (7 : Int32))), .val (.ref u_Frequency_Monthly), .val (.int (12 : Int32)), .val (.ref r12)] [(.int (1 : Int32))])
          refine OwnGo.st (fun _ k => XS.goto X19.here hx rfl (pc0 := 149) (pc' := 153) rfl (hb hby at_149) (by decide) (by decide) k) ?_
          show OwnGo p e below s _ _ _ T19 (mkF m 153 #[.val (.int p1), .val (.int (p1 &&& (7 : Int32))), .val (.ref u_Frequency_Monthly), .val (.int (12 : Int32)), .val (.ref r12)] [(.int (1 : Int32))])
          exact OwnGo.retN X19 hx (t := .boolean) hret hlk (by simp) (hb hby at_153) (by show Q0 Z p1 u_Frequency_Weekly u_Frequency_Monthly u_Frequency_Annually u_Frequency_Single u_Frequency_FourWeekly u_Frequency_Fortnightly u_Frequency_Quarterly u_Frequency_HalfYearly uc clc r52 r26 r13 r12 r4 r2 r1 h0 n0 _ T19.heap _; rw [e19]; exact ⟨rfl, N19⟩) (by decide) (by decide)
        · refine OwnGo.st (fun _ k => XS.icmpYes X0.here hx rfl (pc0 := 51) (pc' := 64) rfl (hb hby at_51) rfl (feq (hk3 : ¬ ((p1 &&& (7 : Int32)) = (3 : Int32)))).2 (by decide) (by decide) k) ?_
          show OwnGo p e below s _ _ _ s₁ (mkF m 64 #[.val (.int p1), .val (.int (p1 &&& (7 : Int32))), .unset, .unset, .unset] [])
          refine OwnGo.st (fun _ k => XS.iloadN X0.here hx rfl (hb hby at_64) rfl  k) ?_
          show OwnGo p e below s _ _ _ s₁ (mkF m 65 #[.val (.int p1), .val (.int (p1 &&& (7 : Int32))), .unset, .unset, .unset] [(.int (p1 &&& (7 : Int32)))])
          refine OwnGo.st (fun _ k => XS.iconst X0.here hx rfl (hb hby at_65) k) ?_
          show OwnGo p e below s _ _ _ s₁ (mkF m 66 #[.val (.int p1), .val (.int (p1 &&& (7 : Int32))), .unset, .unset, .unset] [(.int (4 : Int32)), (.int (p1 &&& (7 : Int32)))])
          by_cases hk4 : (p1 &&& (7 : Int32)) = (4 : Int32)
          · refine OwnGo.st (fun _ k => XS.icmpNo X0.here hx rfl (hb hby at_66) rfl (teq (hk4 : (p1 &&& (7 : Int32)) = (4 : Int32))).2 k) ?_
            show OwnGo p e below s _ _ _ s₁ (mkF m 69 #[.val (.int p1), .val (.int (p1 &&& (7 : Int32))), .unset, .unset, .unset] [])
            obtain ⟨T20, X20, e20, st20⟩ := getS2 X0 hx hZ hown (host := "") (Or.inl (hw _ (List.mem_of_getElem? (i := 34) rfl))) Via.refl e0 (S_u_Frequency_Quarterly.ext O_.2) (g := (mkF m 69 #[.val (.int p1), .val (.int (p1 &&& (7 : Int32))), .unset, .unset, .unset] [])) rfl (hb hby at_69)
            refine OwnGo.st st20 ?_
            show OwnGo p e below s _ _ _ T20 (mkF m 72 #[.val (.int p1), .val (.int (p1 &&& (7 : Int32))), .unset, .unset, .unset] [(.ref u_Frequency_Quarterly)])
            refine OwnGo.st (fun _ k => XS.astoreN X20.here hx rfl (hb hby at_72) rfl rfl (l' := #[.val (.int p1), .val (.int (p1 &&& (7 : Int32))), .val (.ref u_Frequency_Quarterly), .unset, .unset]) rfl k) ?_
            show OwnGo p e below s _ _ _ T20 (mkF m 73 #[.val (.int p1), .val (.int (p1 &&& (7 : Int32))), .val (.ref u_Frequency_Quarterly), .unset, .unset] [])
            refine OwnGo.st (fun _ k => XS.iconst X20.here hx rfl (hb hby at_73) k) ?_
            show OwnGo p e below s _ _ _ T20 (mkF m 74 #[.val (.int p1), .val (.int (p1 &&& (7 : Int32))), .val (.ref u_Frequency_Quarterly), .unset, .unset] [(.int (4 : Int32))])
            refine OwnGo.st (fun _ k => XS.istoreN X20.here hx rfl (hb hby at_74) rfl (l' := #[.val (.int p1), .val (.int (p1 &&& (7 : Int32))), .val (.ref u_Frequency_Quarterly), .val (.int (4 : Int32)), .unset]) rfl k) ?_
            show OwnGo p e below s _ _ _ T20 (mkF m 75 #[.val (.int p1), .val (.int (p1 &&& (7 : Int32))), .val (.ref u_Frequency_Quarterly), .val (.int (4 : Int32)), .unset] [])
            refine OwnGo.st (fun _ k => XS.goto X20.here hx rfl (pc0 := 75) (pc' := 113) rfl (hb hby at_75) (by decide) (by decide) k) ?_
            show OwnGo p e below s _ _ _ T20 (mkF m 113 #[.val (.int p1), .val (.int (p1 &&& (7 : Int32))), .val (.ref u_Frequency_Quarterly), .val (.int (4 : Int32)), .unset] [])
            refine OwnGo.st (fun _ k => XS.aloadN X20.here hx rfl (hb hby at_113) rfl rfl  k) ?_
            show OwnGo p e below s _ _ _ T20 (mkF m 114 #[.val (.int p1), .val (.int (p1 &&& (7 : Int32))), .val (.ref u_Frequency_Quarterly), .val (.int (4 : Int32)), .unset] [(.ref u_Frequency_Quarterly)])
            obtain ⟨cq21, kq21, q21a, q21b, q21c⟩ := isOf hZ e20 (E_u_Frequency_Quarterly.ext O_.2)
            obtain ⟨_, _, ⟨T21, L21, k21, n21⟩, -, X21, ⟨Lc21, hQ21, l21, y21, z21⟩, st21⟩ := X20.virtualBack hx (y := (⟨"com/example/thorough_factfind/thoroughfactfind/foundation/Frequency", "periodsPerYear", "()Ljava/lang/Integer;"⟩ : MethodName)) (z := (⟨"com/example/thorough_factfind/thoroughfactfind/foundation/Frequency", "periodsPerYear", "()Ljava/lang/Integer;"⟩ : MethodName)) hown (mvT hZ (hw _ (List.mem_of_getElem? (i := 3) rfl))) (mvT hZ (hw _ (List.mem_of_getElem? (i := 4) rfl))) (notFace_of_selects (args := #[]) (mvT hZ (hw _ (List.mem_of_getElem? (i := 6) rfl)))) (mvT hZ (hw _ (List.mem_of_getElem? (i := 6) rfl))) (mvT hZ (hw _ (List.mem_of_getElem? (i := 5) rfl))) (by decide) (backOf (W := 0) (rmppy l Z a0 hw [] u_Frequency_Quarterly (4 : Int32) r4 uc clc h0 n0 Z_ O_ S_high S_cache A_uc (F_u_Frequency_Quarterly__timesPerYear.ext O_.2) (by decide) (by decide) (by decide) (by rw [hsz]; decide) H_4) hZ (hw _ (List.mem_of_getElem? (i := 7) rfl)) (hw _ (List.mem_of_getElem? (i := 1) rfl)) (by decide) (by decide)) q21a q21c (g := (mkF m 114 #[.val (.int p1), .val (.int (p1 &&& (7 : Int32))), .val (.ref u_Frequency_Quarterly), .val (.int (4 : Int32)), .unset] [(.ref u_Frequency_Quarterly)])) rfl (by rw [hml]; rfl) (Steps.refl _) (argsL := []) (rest := []) (lenOf pd_1 rfl) rfl (by show 2 * 0 + _ ≤ _; exact Nat.le_of_eq rfl) (hb hby at_114) (fun _ _ => ⟨rfl, e20, (by decide : 0 + 0 ≤ _), (by decide : 0 + 0 ≤ _)⟩)
            dsimp only [Pt.U, Pt.locs, Pt.cells, Pt.slots] at X21 l21 y21 z21 st21 hQ21
            subst l21 y21 z21
            obtain ⟨rfl, N21q, e21⟩ := hQ21
            have N21 := Fr.app N0 N21q
            refine OwnGo.st (fun _ k => st21.trans k) ?_
            show OwnGo p e below s _ _ _ T21 (mkF m 117 #[.val (.int p1), .val (.int (p1 &&& (7 : Int32))), .val (.ref u_Frequency_Quarterly), .val (.int (4 : Int32)), .unset] [(.ref r4)])
            refine OwnGo.st (fun _ k => XS.astore X21.here hx rfl (hb hby at_117) rfl rfl (l' := #[.val (.int p1), .val (.int (p1 &&& (7 : Int32))), .val (.ref u_Frequency_Quarterly), .val (.int (4 : Int32)), .val (.ref r4)]) rfl k) ?_
            show OwnGo p e below s _ _ _ T21 (mkF m 119 #[.val (.int p1), .val (.int (p1 &&& (7 : Int32))), .val (.ref u_Frequency_Quarterly), .val (.int (4 : Int32)), .val (.ref r4)] [])
            refine OwnGo.st (fun _ k => XS.iloadN X21.here hx rfl (hb hby at_119) rfl  k) ?_
            show OwnGo p e below s _ _ _ T21 (mkF m 120 #[.val (.int p1), .val (.int (p1 &&& (7 : Int32))), .val (.ref u_Frequency_Quarterly), .val (.int (4 : Int32)), .val (.ref r4)] [(.int (4 : Int32))])
            refine OwnGo.st (fun _ k => XS.ifYes X21.here hx rfl (pc0 := 120) (pc' := 134) rfl (hb hby at_120) rfl ((if0 _ _).trans (feq ((by decide) : ¬ ((4 : Int32) = (0 : Int32)))).2) (by decide) (by decide) k) ?_
            show OwnGo p e below s _ _ _ T21 (mkF m 134 #[.val (.int p1), .val (.int (p1 &&& (7 : Int32))), .val (.ref u_Frequency_Quarterly), .val (.int (4 : Int32)), .val (.ref r4)] [])
            refine OwnGo.st (fun _ k => XS.aload X21.here hx rfl (hb hby at_134) rfl rfl  k) ?_
            show OwnGo p e below s _ _ _ T21 (mkF m 136 #[.val (.int p1), .val (.int (p1 &&& (7 : Int32))), .val (.ref u_Frequency_Quarterly), .val (.int (4 : Int32)), .val (.ref r4)] [(.ref r4)])
            refine OwnGo.st (fun _ k => XS.ifnullNo X21.here hx rfl (hb hby at_136) rfl k) ?_
            show OwnGo p e below s _ _ _ T21 (mkF m 139 #[.val (.int p1), .val (.int (p1 &&& (7 : Int32))), .val (.ref u_Frequency_Quarterly), .val (.int (4 : Int32)), .val (.ref r4)] [])
            refine OwnGo.st (fun _ k => XS.aload X21.here hx rfl (hb hby at_139) rfl rfl  k) ?_
            show OwnGo p e below s _ _ _ T21 (mkF m 141 #[.val (.int p1), .val (.int (p1 &&& (7 : Int32))), .val (.ref u_Frequency_Quarterly), .val (.int (4 : Int32)), .val (.ref r4)] [(.ref r4)])
            obtain ⟨cq22, kq22, q22a, q22b, q22c⟩ := isOf hZ e21 (E_r4.ext O_.2)
            obtain ⟨_, _, ⟨T22, L22, k22, n22⟩, -, X22, ⟨Lc22, hQ22, l22, y22, z22⟩, st22⟩ := X21.virtualBack hx (y := (⟨"java/lang/Integer", "intValue", "()I"⟩ : MethodName)) (z := (⟨"java/lang/Integer", "intValue", "()I"⟩ : MethodName)) hown (mvT hZ (hw _ (List.mem_of_getElem? (i := 17) rfl))) (mvT hZ (hw _ (List.mem_of_getElem? (i := 18) rfl))) (notFace_of_selects (args := #[]) (mvT hZ (hw _ (List.mem_of_getElem? (i := 20) rfl)))) (mvT hZ (hw _ (List.mem_of_getElem? (i := 20) rfl))) (mvT hZ (hw _ (List.mem_of_getElem? (i := 19) rfl))) (by decide) (backOf (W := 0) (rm3 l Z a0 hw [] r4 (4 : Int32) h0 n0 Z_ (F_r4.ext O_.2)) hZ (hw _ (List.mem_of_getElem? (i := 21) rfl)) (hw _ (List.mem_of_getElem? (i := 12) rfl)) (by decide) (by decide)) q22a q22c (g := (mkF m 141 #[.val (.int p1), .val (.int (p1 &&& (7 : Int32))), .val (.ref u_Frequency_Quarterly), .val (.int (4 : Int32)), .val (.ref r4)] [(.ref r4)])) rfl (by rw [hml]; rfl) (Steps.refl _) (argsL := []) (rest := []) (lenOf pd_2 rfl) rfl (by show 2 * 0 + _ ≤ _; exact Nat.le_of_eq rfl) (hb hby at_141) (fun _ _ => ⟨rfl, e21, (by decide : 0 + 0 ≤ _), (by decide : 0 + 0 ≤ _)⟩)
            dsimp only [Pt.U, Pt.locs, Pt.cells, Pt.slots] at X22 l22 y22 z22 st22 hQ22
            subst l22 y22 z22
            obtain ⟨rfl, N22q, e22⟩ := hQ22
            have N22 := Fr.app N21 N22q
            refine OwnGo.st (fun _ k => st22.trans k) ?_
            show OwnGo p e below s _ _ _ T22 (mkF m 144 #[.val (.int p1), .val (.int (p1 &&& (7 : Int32))), .val (.ref u_Frequency_Quarterly), .val (.int (4 : Int32)), .val (.ref r4)] [(.int (4 : Int32))])
            refine OwnGo.st (fun _ k => XS.iloadN X22.here hx rfl (hb hby at_144) rfl  k) ?_
            show OwnGo p e below s _ _ _ T22 (mkF m 145 #[.val (.int p1), .val (.int (p1 &&& (7 : Int32))), .val (.ref u_Frequency_Quarterly), .val (.int (4 : Int32)), .val (.ref r4)] [(.int (4 : Int32)), (.int (4 : Int32))])
            refine OwnGo.st (fun _ k => XS.icmpNo X22.here hx rfl (hb hby at_145) rfl (teq (rfl : (4 : Int32) = (4 : Int32))).2 k) ?_
            show OwnGo p e below s _ _ _ T22 (mkF m 148 #[.val (.int p1), .val (.int (p1 &&& (7 : Int32))), .val (.ref u_Frequency_Quarterly), .val (.int (4 : Int32)), .val (.ref r4)] [])
            refine OwnGo.st (fun _ k => XS.iconst X22.here hx rfl (hb hby at_148) k) ?_
            show OwnGo p e below s _ _ _ T22 (mkF m 149 #[.val (.int p1), .val (.int (p1 &&& (7 : Int32))), .val (.ref u_Frequency_Quarterly), .val (.int (4 : Int32)), .val (.ref r4)] [(.int (1 : Int32))])
            refine OwnGo.st (fun _ k => XS.goto X22.here hx rfl (pc0 := 149) (pc' := 153) rfl (hb hby at_149) (by decide) (by decide) k) ?_
            show OwnGo p e below s _ _ _ T22 (mkF m 153 #[.val (.int p1), .val (.int (p1 &&& (7 : Int32))), .val (.ref u_Frequency_Quarterly), .val (.int (4 : Int32)), .val (.ref r4)] [(.int (1 : Int32))])
            exact OwnGo.retN X22 hx (t := .boolean) hret hlk (by simp) (hb hby at_153) (by show Q0 Z p1 u_Frequency_Weekly u_Frequency_Monthly u_Frequency_Annually u_Frequency_Single u_Frequency_FourWeekly u_Frequency_Fortnightly u_Frequency_Quarterly u_Frequency_HalfYearly uc clc r52 r26 r13 r12 r4 r2 r1 h0 n0 _ T22.heap _; rw [e22]; exact ⟨rfl, N22⟩) (by decide) (by decide)
          · refine OwnGo.st (fun _ k => XS.icmpYes X0.here hx rfl (pc0 := 66) (pc' := 78) rfl (hb hby at_66) rfl (feq (hk4 : ¬ ((p1 &&& (7 : Int32)) = (4 : Int32)))).2 (by decide) (by decide) k) ?_
            show OwnGo p e below s _ _ _ s₁ (mkF m 78 #[.val (.int p1), .val (.int (p1 &&& (7 : Int32))), .unset, .unset, .unset] [])
            refine OwnGo.st (fun _ k => XS.iloadN X0.here hx rfl (hb hby at_78) rfl  k) ?_
            show OwnGo p e below s _ _ _ s₁ (mkF m 79 #[.val (.int p1), .val (.int (p1 &&& (7 : Int32))), .unset, .unset, .unset] [(.int (p1 &&& (7 : Int32)))])
            refine OwnGo.st (fun _ k => XS.iconst X0.here hx rfl (hb hby at_79) k) ?_
            show OwnGo p e below s _ _ _ s₁ (mkF m 80 #[.val (.int p1), .val (.int (p1 &&& (7 : Int32))), .unset, .unset, .unset] [(.int (5 : Int32)), (.int (p1 &&& (7 : Int32)))])
            by_cases hk5 : (p1 &&& (7 : Int32)) = (5 : Int32)
            · refine OwnGo.st (fun _ k => XS.icmpNo X0.here hx rfl (hb hby at_80) rfl (teq (hk5 : (p1 &&& (7 : Int32)) = (5 : Int32))).2 k) ?_
              show OwnGo p e below s _ _ _ s₁ (mkF m 83 #[.val (.int p1), .val (.int (p1 &&& (7 : Int32))), .unset, .unset, .unset] [])
              obtain ⟨T23, X23, e23, st23⟩ := getS2 X0 hx hZ hown (host := "") (Or.inl (hw _ (List.mem_of_getElem? (i := 36) rfl))) Via.refl e0 (S_u_Frequency_HalfYearly.ext O_.2) (g := (mkF m 83 #[.val (.int p1), .val (.int (p1 &&& (7 : Int32))), .unset, .unset, .unset] [])) rfl (hb hby at_83)
              refine OwnGo.st st23 ?_
              show OwnGo p e below s _ _ _ T23 (mkF m 86 #[.val (.int p1), .val (.int (p1 &&& (7 : Int32))), .unset, .unset, .unset] [(.ref u_Frequency_HalfYearly)])
              refine OwnGo.st (fun _ k => XS.astoreN X23.here hx rfl (hb hby at_86) rfl rfl (l' := #[.val (.int p1), .val (.int (p1 &&& (7 : Int32))), .val (.ref u_Frequency_HalfYearly), .unset, .unset]) rfl k) ?_
              show OwnGo p e below s _ _ _ T23 (mkF m 87 #[.val (.int p1), .val (.int (p1 &&& (7 : Int32))), .val (.ref u_Frequency_HalfYearly), .unset, .unset] [])
              refine OwnGo.st (fun _ k => XS.iconst X23.here hx rfl (hb hby at_87) k) ?_
              show OwnGo p e below s _ _ _ T23 (mkF m 88 #[.val (.int p1), .val (.int (p1 &&& (7 : Int32))), .val (.ref u_Frequency_HalfYearly), .unset, .unset] [(.int (2 : Int32))])
              refine OwnGo.st (fun _ k => XS.istoreN X23.here hx rfl (hb hby at_88) rfl (l' := #[.val (.int p1), .val (.int (p1 &&& (7 : Int32))), .val (.ref u_Frequency_HalfYearly), .val (.int (2 : Int32)), .unset]) rfl k) ?_
              show OwnGo p e below s _ _ _ T23 (mkF m 89 #[.val (.int p1), .val (.int (p1 &&& (7 : Int32))), .val (.ref u_Frequency_HalfYearly), .val (.int (2 : Int32)), .unset] [])
              refine OwnGo.st (fun _ k => XS.goto X23.here hx rfl (pc0 := 89) (pc' := 113) rfl (hb hby at_89) (by decide) (by decide) k) ?_
              show OwnGo p e below s _ _ _ T23 (mkF m 113 #[.val (.int p1), .val (.int (p1 &&& (7 : Int32))), .val (.ref u_Frequency_HalfYearly), .val (.int (2 : Int32)), .unset] [])
              refine OwnGo.st (fun _ k => XS.aloadN X23.here hx rfl (hb hby at_113) rfl rfl  k) ?_
              show OwnGo p e below s _ _ _ T23 (mkF m 114 #[.val (.int p1), .val (.int (p1 &&& (7 : Int32))), .val (.ref u_Frequency_HalfYearly), .val (.int (2 : Int32)), .unset] [(.ref u_Frequency_HalfYearly)])
              obtain ⟨cq24, kq24, q24a, q24b, q24c⟩ := isOf hZ e23 (E_u_Frequency_HalfYearly.ext O_.2)
              obtain ⟨_, _, ⟨T24, L24, k24, n24⟩, -, X24, ⟨Lc24, hQ24, l24, y24, z24⟩, st24⟩ := X23.virtualBack hx (y := (⟨"com/example/thorough_factfind/thoroughfactfind/foundation/Frequency", "periodsPerYear", "()Ljava/lang/Integer;"⟩ : MethodName)) (z := (⟨"com/example/thorough_factfind/thoroughfactfind/foundation/Frequency", "periodsPerYear", "()Ljava/lang/Integer;"⟩ : MethodName)) hown (mvT hZ (hw _ (List.mem_of_getElem? (i := 3) rfl))) (mvT hZ (hw _ (List.mem_of_getElem? (i := 4) rfl))) (notFace_of_selects (args := #[]) (mvT hZ (hw _ (List.mem_of_getElem? (i := 6) rfl)))) (mvT hZ (hw _ (List.mem_of_getElem? (i := 6) rfl))) (mvT hZ (hw _ (List.mem_of_getElem? (i := 5) rfl))) (by decide) (backOf (W := 0) (rmppy l Z a0 hw [] u_Frequency_HalfYearly (2 : Int32) r2 uc clc h0 n0 Z_ O_ S_high S_cache A_uc (F_u_Frequency_HalfYearly__timesPerYear.ext O_.2) (by decide) (by decide) (by decide) (by rw [hsz]; decide) H_2) hZ (hw _ (List.mem_of_getElem? (i := 7) rfl)) (hw _ (List.mem_of_getElem? (i := 1) rfl)) (by decide) (by decide)) q24a q24c (g := (mkF m 114 #[.val (.int p1), .val (.int (p1 &&& (7 : Int32))), .val (.ref u_Frequency_HalfYearly), .val (.int (2 : Int32)), .unset] [(.ref u_Frequency_HalfYearly)])) rfl (by rw [hml]; rfl) (Steps.refl _) (argsL := []) (rest := []) (lenOf pd_1 rfl) rfl (by show 2 * 0 + _ ≤ _; exact Nat.le_of_eq rfl) (hb hby at_114) (fun _ _ => ⟨rfl, e23, (by decide : 0 + 0 ≤ _), (by decide : 0 + 0 ≤ _)⟩)
              dsimp only [Pt.U, Pt.locs, Pt.cells, Pt.slots] at X24 l24 y24 z24 st24 hQ24
              subst l24 y24 z24
              obtain ⟨rfl, N24q, e24⟩ := hQ24
              have N24 := Fr.app N0 N24q
              refine OwnGo.st (fun _ k => st24.trans k) ?_
              show OwnGo p e below s _ _ _ T24 (mkF m 117 #[.val (.int p1), .val (.int (p1 &&& (7 : Int32))), .val (.ref u_Frequency_HalfYearly), .val (.int (2 : Int32)), .unset] [(.ref r2)])
              refine OwnGo.st (fun _ k => XS.astore X24.here hx rfl (hb hby at_117) rfl rfl (l' := #[.val (.int p1), .val (.int (p1 &&& (7 : Int32))), .val (.ref u_Frequency_HalfYearly), .val (.int (2 : Int32)), .val (.ref r2)]) rfl k) ?_
              show OwnGo p e below s _ _ _ T24 (mkF m 119 #[.val (.int p1), .val (.int (p1 &&& (7 : Int32))), .val (.ref u_Frequency_HalfYearly), .val (.int (2 : Int32)), .val (.ref r2)] [])
              refine OwnGo.st (fun _ k => XS.iloadN X24.here hx rfl (hb hby at_119) rfl  k) ?_
              show OwnGo p e below s _ _ _ T24 (mkF m 120 #[.val (.int p1), .val (.int (p1 &&& (7 : Int32))), .val (.ref u_Frequency_HalfYearly), .val (.int (2 : Int32)), .val (.ref r2)] [(.int (2 : Int32))])
              refine OwnGo.st (fun _ k => XS.ifYes X24.here hx rfl (pc0 := 120) (pc' := 134) rfl (hb hby at_120) rfl ((if0 _ _).trans (feq ((by decide) : ¬ ((2 : Int32) = (0 : Int32)))).2) (by decide) (by decide) k) ?_
              show OwnGo p e below s _ _ _ T24 (mkF m 134 #[.val (.int p1), .val (.int (p1 &&& (7 : Int32))), .val (.ref u_Frequency_HalfYearly), .val (.int (2 : Int32)), .val (.ref r2)] [])
              refine OwnGo.st (fun _ k => XS.aload X24.here hx rfl (hb hby at_134) rfl rfl  k) ?_
              show OwnGo p e below s _ _ _ T24 (mkF m 136 #[.val (.int p1), .val (.int (p1 &&& (7 : Int32))), .val (.ref u_Frequency_HalfYearly), .val (.int (2 : Int32)), .val (.ref r2)] [(.ref r2)])
              refine OwnGo.st (fun _ k => XS.ifnullNo X24.here hx rfl (hb hby at_136) rfl k) ?_
              show OwnGo p e below s _ _ _ T24 (mkF m 139 #[.val (.int p1), .val (.int (p1 &&& (7 : Int32))), .val (.ref u_Frequency_HalfYearly), .val (.int (2 : Int32)), .val (.ref r2)] [])
              refine OwnGo.st (fun _ k => XS.aload X24.here hx rfl (hb hby at_139) rfl rfl  k) ?_
              show OwnGo p e below s _ _ _ T24 (mkF m 141 #[.val (.int p1), .val (.int (p1 &&& (7 : Int32))), .val (.ref u_Frequency_HalfYearly), .val (.int (2 : Int32)), .val (.ref r2)] [(.ref r2)])
              obtain ⟨cq25, kq25, q25a, q25b, q25c⟩ := isOf hZ e24 (E_r2.ext O_.2)
              obtain ⟨_, _, ⟨T25, L25, k25, n25⟩, -, X25, ⟨Lc25, hQ25, l25, y25, z25⟩, st25⟩ := X24.virtualBack hx (y := (⟨"java/lang/Integer", "intValue", "()I"⟩ : MethodName)) (z := (⟨"java/lang/Integer", "intValue", "()I"⟩ : MethodName)) hown (mvT hZ (hw _ (List.mem_of_getElem? (i := 17) rfl))) (mvT hZ (hw _ (List.mem_of_getElem? (i := 18) rfl))) (notFace_of_selects (args := #[]) (mvT hZ (hw _ (List.mem_of_getElem? (i := 20) rfl)))) (mvT hZ (hw _ (List.mem_of_getElem? (i := 20) rfl))) (mvT hZ (hw _ (List.mem_of_getElem? (i := 19) rfl))) (by decide) (backOf (W := 0) (rm3 l Z a0 hw [] r2 (2 : Int32) h0 n0 Z_ (F_r2.ext O_.2)) hZ (hw _ (List.mem_of_getElem? (i := 21) rfl)) (hw _ (List.mem_of_getElem? (i := 12) rfl)) (by decide) (by decide)) q25a q25c (g := (mkF m 141 #[.val (.int p1), .val (.int (p1 &&& (7 : Int32))), .val (.ref u_Frequency_HalfYearly), .val (.int (2 : Int32)), .val (.ref r2)] [(.ref r2)])) rfl (by rw [hml]; rfl) (Steps.refl _) (argsL := []) (rest := []) (lenOf pd_2 rfl) rfl (by show 2 * 0 + _ ≤ _; exact Nat.le_of_eq rfl) (hb hby at_141) (fun _ _ => ⟨rfl, e24, (by decide : 0 + 0 ≤ _), (by decide : 0 + 0 ≤ _)⟩)
              dsimp only [Pt.U, Pt.locs, Pt.cells, Pt.slots] at X25 l25 y25 z25 st25 hQ25
              subst l25 y25 z25
              obtain ⟨rfl, N25q, e25⟩ := hQ25
              have N25 := Fr.app N24 N25q
              refine OwnGo.st (fun _ k => st25.trans k) ?_
              show OwnGo p e below s _ _ _ T25 (mkF m 144 #[.val (.int p1), .val (.int (p1 &&& (7 : Int32))), .val (.ref u_Frequency_HalfYearly), .val (.int (2 : Int32)), .val (.ref r2)] [(.int (2 : Int32))])
              refine OwnGo.st (fun _ k => XS.iloadN X25.here hx rfl (hb hby at_144) rfl  k) ?_
              show OwnGo p e below s _ _ _ T25 (mkF m 145 #[.val (.int p1), .val (.int (p1 &&& (7 : Int32))), .val (.ref u_Frequency_HalfYearly), .val (.int (2 : Int32)), .val (.ref r2)] [(.int (2 : Int32)), (.int (2 : Int32))])
              refine OwnGo.st (fun _ k => XS.icmpNo X25.here hx rfl (hb hby at_145) rfl (teq (rfl : (2 : Int32) = (2 : Int32))).2 k) ?_
              show OwnGo p e below s _ _ _ T25 (mkF m 148 #[.val (.int p1), .val (.int (p1 &&& (7 : Int32))), .val (.ref u_Frequency_HalfYearly), .val (.int (2 : Int32)), .val (.ref r2)] [])
              refine OwnGo.st (fun _ k => XS.iconst X25.here hx rfl (hb hby at_148) k) ?_
              show OwnGo p e below s _ _ _ T25 (mkF m 149 #[.val (.int p1), .val (.int (p1 &&& (7 : Int32))), .val (.ref u_Frequency_HalfYearly), .val (.int (2 : Int32)), .val (.ref r2)] [(.int (1 : Int32))])
              refine OwnGo.st (fun _ k => XS.goto X25.here hx rfl (pc0 := 149) (pc' := 153) rfl (hb hby at_149) (by decide) (by decide) k) ?_
              show OwnGo p e below s _ _ _ T25 (mkF m 153 #[.val (.int p1), .val (.int (p1 &&& (7 : Int32))), .val (.ref u_Frequency_HalfYearly), .val (.int (2 : Int32)), .val (.ref r2)] [(.int (1 : Int32))])
              exact OwnGo.retN X25 hx (t := .boolean) hret hlk (by simp) (hb hby at_153) (by show Q0 Z p1 u_Frequency_Weekly u_Frequency_Monthly u_Frequency_Annually u_Frequency_Single u_Frequency_FourWeekly u_Frequency_Fortnightly u_Frequency_Quarterly u_Frequency_HalfYearly uc clc r52 r26 r13 r12 r4 r2 r1 h0 n0 _ T25.heap _; rw [e25]; exact ⟨rfl, N25⟩) (by decide) (by decide)
            · refine OwnGo.st (fun _ k => XS.icmpYes X0.here hx rfl (pc0 := 80) (pc' := 92) rfl (hb hby at_80) rfl (feq (hk5 : ¬ ((p1 &&& (7 : Int32)) = (5 : Int32)))).2 (by decide) (by decide) k) ?_
              show OwnGo p e below s _ _ _ s₁ (mkF m 92 #[.val (.int p1), .val (.int (p1 &&& (7 : Int32))), .unset, .unset, .unset] [])
              refine OwnGo.st (fun _ k => XS.iloadN X0.here hx rfl (hb hby at_92) rfl  k) ?_
              show OwnGo p e below s _ _ _ s₁ (mkF m 93 #[.val (.int p1), .val (.int (p1 &&& (7 : Int32))), .unset, .unset, .unset] [(.int (p1 &&& (7 : Int32)))])
              refine OwnGo.st (fun _ k => XS.bipush X0.here hx rfl (hb hby at_93) k) ?_
              show OwnGo p e below s _ _ _ s₁ (mkF m 95 #[.val (.int p1), .val (.int (p1 &&& (7 : Int32))), .unset, .unset, .unset] [(.int (6 : Int32)), (.int (p1 &&& (7 : Int32)))])
              by_cases hk6 : (p1 &&& (7 : Int32)) = (6 : Int32)
              · refine OwnGo.st (fun _ k => XS.icmpNo X0.here hx rfl (hb hby at_95) rfl (teq (hk6 : (p1 &&& (7 : Int32)) = (6 : Int32))).2 k) ?_
                show OwnGo p e below s _ _ _ s₁ (mkF m 98 #[.val (.int p1), .val (.int (p1 &&& (7 : Int32))), .unset, .unset, .unset] [])
                obtain ⟨T26, X26, e26, st26⟩ := getS2 X0 hx hZ hown (host := "") (Or.inl (hw _ (List.mem_of_getElem? (i := 26) rfl))) Via.refl e0 (S_u_Frequency_Annually.ext O_.2) (g := (mkF m 98 #[.val (.int p1), .val (.int (p1 &&& (7 : Int32))), .unset, .unset, .unset] [])) rfl (hb hby at_98)
                refine OwnGo.st st26 ?_
                show OwnGo p e below s _ _ _ T26 (mkF m 101 #[.val (.int p1), .val (.int (p1 &&& (7 : Int32))), .unset, .unset, .unset] [(.ref u_Frequency_Annually)])
                refine OwnGo.st (fun _ k => XS.astoreN X26.here hx rfl (hb hby at_101) rfl rfl (l' := #[.val (.int p1), .val (.int (p1 &&& (7 : Int32))), .val (.ref u_Frequency_Annually), .unset, .unset]) rfl k) ?_
                show OwnGo p e below s _ _ _ T26 (mkF m 102 #[.val (.int p1), .val (.int (p1 &&& (7 : Int32))), .val (.ref u_Frequency_Annually), .unset, .unset] [])
                refine OwnGo.st (fun _ k => XS.iconst X26.here hx rfl (hb hby at_102) k) ?_
                show OwnGo p e below s _ _ _ T26 (mkF m 103 #[.val (.int p1), .val (.int (p1 &&& (7 : Int32))), .val (.ref u_Frequency_Annually), .unset, .unset] [(.int (1 : Int32))])
                refine OwnGo.st (fun _ k => XS.istoreN X26.here hx rfl (hb hby at_103) rfl (l' := #[.val (.int p1), .val (.int (p1 &&& (7 : Int32))), .val (.ref u_Frequency_Annually), .val (.int (1 : Int32)), .unset]) rfl k) ?_
                show OwnGo p e below s _ _ _ T26 (mkF m 104 #[.val (.int p1), .val (.int (p1 &&& (7 : Int32))), .val (.ref u_Frequency_Annually), .val (.int (1 : Int32)), .unset] [])
                refine OwnGo.st (fun _ k => XS.goto X26.here hx rfl (pc0 := 104) (pc' := 113) rfl (hb hby at_104) (by decide) (by decide) k) ?_
                show OwnGo p e below s _ _ _ T26 (mkF m 113 #[.val (.int p1), .val (.int (p1 &&& (7 : Int32))), .val (.ref u_Frequency_Annually), .val (.int (1 : Int32)), .unset] [])
                refine OwnGo.st (fun _ k => XS.aloadN X26.here hx rfl (hb hby at_113) rfl rfl  k) ?_
                show OwnGo p e below s _ _ _ T26 (mkF m 114 #[.val (.int p1), .val (.int (p1 &&& (7 : Int32))), .val (.ref u_Frequency_Annually), .val (.int (1 : Int32)), .unset] [(.ref u_Frequency_Annually)])
                obtain ⟨cq27, kq27, q27a, q27b, q27c⟩ := isOf hZ e26 (E_u_Frequency_Annually.ext O_.2)
                obtain ⟨_, _, ⟨T27, L27, k27, n27⟩, -, X27, ⟨Lc27, hQ27, l27, y27, z27⟩, st27⟩ := X26.virtualBack hx (y := (⟨"com/example/thorough_factfind/thoroughfactfind/foundation/Frequency", "periodsPerYear", "()Ljava/lang/Integer;"⟩ : MethodName)) (z := (⟨"com/example/thorough_factfind/thoroughfactfind/foundation/Frequency", "periodsPerYear", "()Ljava/lang/Integer;"⟩ : MethodName)) hown (mvT hZ (hw _ (List.mem_of_getElem? (i := 3) rfl))) (mvT hZ (hw _ (List.mem_of_getElem? (i := 4) rfl))) (notFace_of_selects (args := #[]) (mvT hZ (hw _ (List.mem_of_getElem? (i := 6) rfl)))) (mvT hZ (hw _ (List.mem_of_getElem? (i := 6) rfl))) (mvT hZ (hw _ (List.mem_of_getElem? (i := 5) rfl))) (by decide) (backOf (W := 0) (rmppy l Z a0 hw [] u_Frequency_Annually (1 : Int32) r1 uc clc h0 n0 Z_ O_ S_high S_cache A_uc (F_u_Frequency_Annually__timesPerYear.ext O_.2) (by decide) (by decide) (by decide) (by rw [hsz]; decide) H_1) hZ (hw _ (List.mem_of_getElem? (i := 7) rfl)) (hw _ (List.mem_of_getElem? (i := 1) rfl)) (by decide) (by decide)) q27a q27c (g := (mkF m 114 #[.val (.int p1), .val (.int (p1 &&& (7 : Int32))), .val (.ref u_Frequency_Annually), .val (.int (1 : Int32)), .unset] [(.ref u_Frequency_Annually)])) rfl (by rw [hml]; rfl) (Steps.refl _) (argsL := []) (rest := []) (lenOf pd_1 rfl) rfl (by show 2 * 0 + _ ≤ _; exact Nat.le_of_eq rfl) (hb hby at_114) (fun _ _ => ⟨rfl, e26, (by decide : 0 + 0 ≤ _), (by decide : 0 + 0 ≤ _)⟩)
                dsimp only [Pt.U, Pt.locs, Pt.cells, Pt.slots] at X27 l27 y27 z27 st27 hQ27
                subst l27 y27 z27
                obtain ⟨rfl, N27q, e27⟩ := hQ27
                have N27 := Fr.app N0 N27q
                refine OwnGo.st (fun _ k => st27.trans k) ?_
                show OwnGo p e below s _ _ _ T27 (mkF m 117 #[.val (.int p1), .val (.int (p1 &&& (7 : Int32))), .val (.ref u_Frequency_Annually), .val (.int (1 : Int32)), .unset] [(.ref r1)])
                refine OwnGo.st (fun _ k => XS.astore X27.here hx rfl (hb hby at_117) rfl rfl (l' := #[.val (.int p1), .val (.int (p1 &&& (7 : Int32))), .val (.ref u_Frequency_Annually), .val (.int (1 : Int32)), .val (.ref r1)]) rfl k) ?_
                show OwnGo p e below s _ _ _ T27 (mkF m 119 #[.val (.int p1), .val (.int (p1 &&& (7 : Int32))), .val (.ref u_Frequency_Annually), .val (.int (1 : Int32)), .val (.ref r1)] [])
                refine OwnGo.st (fun _ k => XS.iloadN X27.here hx rfl (hb hby at_119) rfl  k) ?_
                show OwnGo p e below s _ _ _ T27 (mkF m 120 #[.val (.int p1), .val (.int (p1 &&& (7 : Int32))), .val (.ref u_Frequency_Annually), .val (.int (1 : Int32)), .val (.ref r1)] [(.int (1 : Int32))])
                refine OwnGo.st (fun _ k => XS.ifYes X27.here hx rfl (pc0 := 120) (pc' := 134) rfl (hb hby at_120) rfl ((if0 _ _).trans (feq ((by decide) : ¬ ((1 : Int32) = (0 : Int32)))).2) (by decide) (by decide) k) ?_
                show OwnGo p e below s _ _ _ T27 (mkF m 134 #[.val (.int p1), .val (.int (p1 &&& (7 : Int32))), .val (.ref u_Frequency_Annually), .val (.int (1 : Int32)), .val (.ref r1)] [])
                refine OwnGo.st (fun _ k => XS.aload X27.here hx rfl (hb hby at_134) rfl rfl  k) ?_
                show OwnGo p e below s _ _ _ T27 (mkF m 136 #[.val (.int p1), .val (.int (p1 &&& (7 : Int32))), .val (.ref u_Frequency_Annually), .val (.int (1 : Int32)), .val (.ref r1)] [(.ref r1)])
                refine OwnGo.st (fun _ k => XS.ifnullNo X27.here hx rfl (hb hby at_136) rfl k) ?_
                show OwnGo p e below s _ _ _ T27 (mkF m 139 #[.val (.int p1), .val (.int (p1 &&& (7 : Int32))), .val (.ref u_Frequency_Annually), .val (.int (1 : Int32)), .val (.ref r1)] [])
                refine OwnGo.st (fun _ k => XS.aload X27.here hx rfl (hb hby at_139) rfl rfl  k) ?_
                show OwnGo p e below s _ _ _ T27 (mkF m 141 #[.val (.int p1), .val (.int (p1 &&& (7 : Int32))), .val (.ref u_Frequency_Annually), .val (.int (1 : Int32)), .val (.ref r1)] [(.ref r1)])
                obtain ⟨cq28, kq28, q28a, q28b, q28c⟩ := isOf hZ e27 (E_r1.ext O_.2)
                obtain ⟨_, _, ⟨T28, L28, k28, n28⟩, -, X28, ⟨Lc28, hQ28, l28, y28, z28⟩, st28⟩ := X27.virtualBack hx (y := (⟨"java/lang/Integer", "intValue", "()I"⟩ : MethodName)) (z := (⟨"java/lang/Integer", "intValue", "()I"⟩ : MethodName)) hown (mvT hZ (hw _ (List.mem_of_getElem? (i := 17) rfl))) (mvT hZ (hw _ (List.mem_of_getElem? (i := 18) rfl))) (notFace_of_selects (args := #[]) (mvT hZ (hw _ (List.mem_of_getElem? (i := 20) rfl)))) (mvT hZ (hw _ (List.mem_of_getElem? (i := 20) rfl))) (mvT hZ (hw _ (List.mem_of_getElem? (i := 19) rfl))) (by decide) (backOf (W := 0) (rm3 l Z a0 hw [] r1 (1 : Int32) h0 n0 Z_ (F_r1.ext O_.2)) hZ (hw _ (List.mem_of_getElem? (i := 21) rfl)) (hw _ (List.mem_of_getElem? (i := 12) rfl)) (by decide) (by decide)) q28a q28c (g := (mkF m 141 #[.val (.int p1), .val (.int (p1 &&& (7 : Int32))), .val (.ref u_Frequency_Annually), .val (.int (1 : Int32)), .val (.ref r1)] [(.ref r1)])) rfl (by rw [hml]; rfl) (Steps.refl _) (argsL := []) (rest := []) (lenOf pd_2 rfl) rfl (by show 2 * 0 + _ ≤ _; exact Nat.le_of_eq rfl) (hb hby at_141) (fun _ _ => ⟨rfl, e27, (by decide : 0 + 0 ≤ _), (by decide : 0 + 0 ≤ _)⟩)
                dsimp only [Pt.U, Pt.locs, Pt.cells, Pt.slots] at X28 l28 y28 z28 st28 hQ28
                subst l28 y28 z28
                obtain ⟨rfl, N28q, e28⟩ := hQ28
                have N28 := Fr.app N27 N28q
                refine OwnGo.st (fun _ k => st28.trans k) ?_
                show OwnGo p e below s _ _ _ T28 (mkF m 144 #[.val (.int p1), .val (.int (p1 &&& (7 : Int32))), .val (.ref u_Frequency_Annually), .val (.int (1 : Int32)), .val (.ref r1)] [(.int (1 : Int32))])
                refine OwnGo.st (fun _ k => XS.iloadN X28.here hx rfl (hb hby at_144) rfl  k) ?_
                show OwnGo p e below s _ _ _ T28 (mkF m 145 #[.val (.int p1), .val (.int (p1 &&& (7 : Int32))), .val (.ref u_Frequency_Annually), .val (.int (1 : Int32)), .val (.ref r1)] [(.int (1 : Int32)), (.int (1 : Int32))])
                refine OwnGo.st (fun _ k => XS.icmpNo X28.here hx rfl (hb hby at_145) rfl (teq (rfl : (1 : Int32) = (1 : Int32))).2 k) ?_
                show OwnGo p e below s _ _ _ T28 (mkF m 148 #[.val (.int p1), .val (.int (p1 &&& (7 : Int32))), .val (.ref u_Frequency_Annually), .val (.int (1 : Int32)), .val (.ref r1)] [])
                refine OwnGo.st (fun _ k => XS.iconst X28.here hx rfl (hb hby at_148) k) ?_
                show OwnGo p e below s _ _ _ T28 (mkF m 149 #[.val (.int p1), .val (.int (p1 &&& (7 : Int32))), .val (.ref u_Frequency_Annually), .val (.int (1 : Int32)), .val (.ref r1)] [(.int (1 : Int32))])
                refine OwnGo.st (fun _ k => XS.goto X28.here hx rfl (pc0 := 149) (pc' := 153) rfl (hb hby at_149) (by decide) (by decide) k) ?_
                show OwnGo p e below s _ _ _ T28 (mkF m 153 #[.val (.int p1), .val (.int (p1 &&& (7 : Int32))), .val (.ref u_Frequency_Annually), .val (.int (1 : Int32)), .val (.ref r1)] [(.int (1 : Int32))])
                exact OwnGo.retN X28 hx (t := .boolean) hret hlk (by simp) (hb hby at_153) (by show Q0 Z p1 u_Frequency_Weekly u_Frequency_Monthly u_Frequency_Annually u_Frequency_Single u_Frequency_FourWeekly u_Frequency_Fortnightly u_Frequency_Quarterly u_Frequency_HalfYearly uc clc r52 r26 r13 r12 r4 r2 r1 h0 n0 _ T28.heap _; rw [e28]; exact ⟨rfl, N28⟩) (by decide) (by decide)
              · refine OwnGo.st (fun _ k => XS.icmpYes X0.here hx rfl (pc0 := 95) (pc' := 107) rfl (hb hby at_95) rfl (feq (hk6 : ¬ ((p1 &&& (7 : Int32)) = (6 : Int32)))).2 (by decide) (by decide) k) ?_
                show OwnGo p e below s _ _ _ s₁ (mkF m 107 #[.val (.int p1), .val (.int (p1 &&& (7 : Int32))), .unset, .unset, .unset] [])
                obtain ⟨T29, X29, e29, st29⟩ := getS2 X0 hx hZ hown (host := "") (Or.inl (hw _ (List.mem_of_getElem? (i := 28) rfl))) Via.refl e0 (S_u_Frequency_Single.ext O_.2) (g := (mkF m 107 #[.val (.int p1), .val (.int (p1 &&& (7 : Int32))), .unset, .unset, .unset] [])) rfl (hb hby at_107)
                refine OwnGo.st st29 ?_
                show OwnGo p e below s _ _ _ T29 (mkF m 110 #[.val (.int p1), .val (.int (p1 &&& (7 : Int32))), .unset, .unset, .unset] [(.ref u_Frequency_Single)])
                refine OwnGo.st (fun _ k => XS.astoreN X29.here hx rfl (hb hby at_110) rfl rfl (l' := #[.val (.int p1), .val (.int (p1 &&& (7 : Int32))), .val (.ref u_Frequency_Single), .unset, .unset]) rfl k) ?_
                show OwnGo p e below s _ _ _ T29 (mkF m 111 #[.val (.int p1), .val (.int (p1 &&& (7 : Int32))), .val (.ref u_Frequency_Single), .unset, .unset] [])
                refine OwnGo.st (fun _ k => XS.iconst X29.here hx rfl (hb hby at_111) k) ?_
                show OwnGo p e below s _ _ _ T29 (mkF m 112 #[.val (.int p1), .val (.int (p1 &&& (7 : Int32))), .val (.ref u_Frequency_Single), .unset, .unset] [(.int (0 : Int32))])
                refine OwnGo.st (fun _ k => XS.istoreN X29.here hx rfl (hb hby at_112) rfl (l' := #[.val (.int p1), .val (.int (p1 &&& (7 : Int32))), .val (.ref u_Frequency_Single), .val (.int (0 : Int32)), .unset]) rfl k) ?_
                show OwnGo p e below s _ _ _ T29 (mkF m 113 #[.val (.int p1), .val (.int (p1 &&& (7 : Int32))), .val (.ref u_Frequency_Single), .val (.int (0 : Int32)), .unset] [])
                refine OwnGo.st (fun _ k => XS.aloadN X29.here hx rfl (hb hby at_113) rfl rfl  k) ?_
                show OwnGo p e below s _ _ _ T29 (mkF m 114 #[.val (.int p1), .val (.int (p1 &&& (7 : Int32))), .val (.ref u_Frequency_Single), .val (.int (0 : Int32)), .unset] [(.ref u_Frequency_Single)])
                obtain ⟨cq30, kq30, q30a, q30b, q30c⟩ := isOf hZ e29 (E_u_Frequency_Single.ext O_.2)
                obtain ⟨_, _, ⟨T30, L30, k30, n30⟩, -, X30, ⟨Lc30, hQ30, l30, y30, z30⟩, st30⟩ := X29.virtualBack hx (y := (⟨"com/example/thorough_factfind/thoroughfactfind/foundation/Frequency", "periodsPerYear", "()Ljava/lang/Integer;"⟩ : MethodName)) (z := (⟨"com/example/thorough_factfind/thoroughfactfind/foundation/Frequency", "periodsPerYear", "()Ljava/lang/Integer;"⟩ : MethodName)) hown (mvT hZ (hw _ (List.mem_of_getElem? (i := 3) rfl))) (mvT hZ (hw _ (List.mem_of_getElem? (i := 4) rfl))) (notFace_of_selects (args := #[]) (mvT hZ (hw _ (List.mem_of_getElem? (i := 6) rfl)))) (mvT hZ (hw _ (List.mem_of_getElem? (i := 6) rfl))) (mvT hZ (hw _ (List.mem_of_getElem? (i := 5) rfl))) (by decide) (backOf (W := 0) (rmppz l Z a0 hw [] u_Frequency_Single h0 n0 Z_ (F_u_Frequency_Single__timesPerYear.ext O_.2)) hZ (hw _ (List.mem_of_getElem? (i := 7) rfl)) (hw _ (List.mem_of_getElem? (i := 1) rfl)) (by decide) (by decide)) q30a q30c (g := (mkF m 114 #[.val (.int p1), .val (.int (p1 &&& (7 : Int32))), .val (.ref u_Frequency_Single), .val (.int (0 : Int32)), .unset] [(.ref u_Frequency_Single)])) rfl (by rw [hml]; rfl) (Steps.refl _) (argsL := []) (rest := []) (lenOf pd_1 rfl) rfl (by show 2 * 0 + _ ≤ _; exact Nat.le_of_eq rfl) (hb hby at_114) (fun _ _ => ⟨rfl, e29, (by decide : 0 + 0 ≤ _), (by decide : 0 + 0 ≤ _)⟩)
                dsimp only [Pt.U, Pt.locs, Pt.cells, Pt.slots] at X30 l30 y30 z30 st30 hQ30
                subst l30 y30 z30
                obtain ⟨rfl, N30q, e30⟩ := hQ30
                have N30 := Fr.app N0 N30q
                refine OwnGo.st (fun _ k => st30.trans k) ?_
                show OwnGo p e below s _ _ _ T30 (mkF m 117 #[.val (.int p1), .val (.int (p1 &&& (7 : Int32))), .val (.ref u_Frequency_Single), .val (.int (0 : Int32)), .unset] [.null])
                refine OwnGo.st (fun _ k => XS.astore X30.here hx rfl (hb hby at_117) rfl rfl (l' := #[.val (.int p1), .val (.int (p1 &&& (7 : Int32))), .val (.ref u_Frequency_Single), .val (.int (0 : Int32)), .val .null]) rfl k) ?_
                show OwnGo p e below s _ _ _ T30 (mkF m 119 #[.val (.int p1), .val (.int (p1 &&& (7 : Int32))), .val (.ref u_Frequency_Single), .val (.int (0 : Int32)), .val .null] [])
                refine OwnGo.st (fun _ k => XS.iloadN X30.here hx rfl (hb hby at_119) rfl  k) ?_
                show OwnGo p e below s _ _ _ T30 (mkF m 120 #[.val (.int p1), .val (.int (p1 &&& (7 : Int32))), .val (.ref u_Frequency_Single), .val (.int (0 : Int32)), .val .null] [(.int (0 : Int32))])
                refine OwnGo.st (fun _ k => XS.ifNo X30.here hx rfl (hb hby at_120) rfl ((if0 _ _).trans (teq ((by decide) : (0 : Int32) = (0 : Int32))).2) k) ?_
                show OwnGo p e below s _ _ _ T30 (mkF m 123 #[.val (.int p1), .val (.int (p1 &&& (7 : Int32))), .val (.ref u_Frequency_Single), .val (.int (0 : Int32)), .val .null] [])
                refine OwnGo.st (fun _ k => XS.aload X30.here hx rfl (hb hby at_123) rfl rfl  k) ?_
                show OwnGo p e below s _ _ _ T30 (mkF m 125 #[.val (.int p1), .val (.int (p1 &&& (7 : Int32))), .val (.ref u_Frequency_Single), .val (.int (0 : Int32)), .val .null] [.null])
                refine OwnGo.st (fun _ k => XS.ifnonnullNo X30.here hx rfl (hb hby at_125) rfl k) ?_
                show OwnGo p e below s _ _ _ T30 (mkF m 128 #[.val (.int p1), .val (.int (p1 &&& (7 : Int32))), .val (.ref u_Frequency_Single), .val (.int (0 : Int32)), .val .null] [])
                refine OwnGo.st (fun _ k => XS.iconst X30.here hx rfl (hb hby at_128) k) ?_
                show OwnGo p e below s _ _ _ T30 (mkF m 129 #[.val (.int p1), .val (.int (p1 &&& (7 : Int32))), .val (.ref u_Frequency_Single), .val (.int (0 : Int32)), .val .null] [(.int (1 : Int32))])
                refine OwnGo.st (fun _ k => XS.goto X30.here hx rfl (pc0 := 129) (pc' := 133) rfl (hb hby at_129) (by decide) (by decide) k) ?_
                show OwnGo p e below s _ _ _ T30 (mkF m 133 #[.val (.int p1), .val (.int (p1 &&& (7 : Int32))), .val (.ref u_Frequency_Single), .val (.int (0 : Int32)), .val .null] [(.int (1 : Int32))])
                exact OwnGo.retN X30 hx (t := .boolean) hret hlk (by simp) (hb hby at_133) (by show Q0 Z p1 u_Frequency_Weekly u_Frequency_Monthly u_Frequency_Annually u_Frequency_Single u_Frequency_FourWeekly u_Frequency_Fortnightly u_Frequency_Quarterly u_Frequency_HalfYearly uc clc r52 r26 r13 r12 r4 r2 r1 h0 n0 _ T30.heap _; rw [e30]; exact ⟨rfl, N30⟩) (by decide) (by decide)
set_option maxRecDepth 65536 in
set_option maxHeartbeats 40000000 in
theorem comes_1 {Post : Tables → Env → Array Value → State → Outcome → State → Prop} (hpost : ∀ tb e args s v u, (limb_1_1.after args s (.returned v) u = true ∧ limb_1_2.after args s (.returned v) u = true ∧ True) → FrameEnd s (.returned v) u (Jvm.fieldLocs frame_1_writes args s ++ Jvm.arrayLocs frame_1_arrays args s ++ Jvm.staticLocs frame_1_statics s) 0 0 → Post tb e args s (.returned v) u) :
    ArmFor flags0 classFile x code maxLocals ret World_1 tables_1 room_1 Calls_1 rest_1 Pre_1 Post := by
  intro l hfl _ _ p e ha hc hk s m args below hf hA hF happ hP
  obtain ⟨hcalls, hrest, hpre⟩ := hP
  obtain ⟨-, -, -, hnamed, -, -, -, hat⟩ := (Spec.applies_iff hf).mp happ
  obtain ⟨hg, hn⟩ := and_e (Cond.before_iff.mp (show (Jvm.Cond.and given_1 narrow_1).before args s = true from hpre))
  obtain ⟨hcnt, hg⟩ := and_e hg
  have hg0 := hg
  obtain ⟨w0, rfl⟩ : ∃ w0 : Value, args = #[w0] := by
    have hs : args.size = 1 := by simpa [Cond.value, given_1] using hcnt
    obtain ⟨L⟩ := args
    match L, hs with
    | [w0], _ => exact ⟨w0, rfl⟩
  have hw := fun d (hd : d ∈ tables_1) => atoms_spec (ws := Jvm.Cond.code x code maxLocals ret :: tables_1) hat d (List.mem_cons_of_mem _ hd)
  have hfit : Fit s := fun {y c} hc i hi => by
    obtain ⟨ha, rfl⟩ := Array.getElem?_eq_some_iff.mp hc
    have q := List.all_eq_true.mp ((Array.all_eq_true_iff_forall_mem.mp hF) _ (Array.getElem_mem ha)) i (List.mem_range.mpr hi)
    simpa [Array.getElem?_eq_getElem hi] using q
  obtain ⟨i0, ei0⟩ := is_v hg0
  obtain rfl : w0 = (.int i0) := Option.some.inj ei0
  obtain ⟨nr0, hn⟩ := and_e hn
  obtain ⟨nr1, hn⟩ := and_e hn
  obtain ⟨nr2, hn⟩ := and_e hn
  obtain ⟨nr3, hn⟩ := and_e hn
  obtain ⟨nr4, hn⟩ := and_e hn
  obtain ⟨nr5, hn⟩ := and_e hn
  obtain ⟨nr6, hn⟩ := and_e hn
  obtain ⟨nr7, hn⟩ := and_e hn
  obtain ⟨nr8, hn⟩ := and_e hn
  obtain ⟨nr9, hn⟩ := and_e hn
  obtain ⟨nr10, hn⟩ := and_e hn
  obtain ⟨nr11, hn⟩ := and_e hn
  obtain ⟨nr12, hn⟩ := and_e hn
  obtain ⟨nr13, hn⟩ := and_e hn
  obtain ⟨nr14, hn⟩ := and_e hn
  have nr15 := hn
  obtain ⟨u_Frequency_Weekly, ev_u_Frequency_Weekly⟩ := exa_v nr0
  have S_u_Frequency_Weekly := Sta.start ev_u_Frequency_Weekly (Or.inr ⟨(hw _ (List.mem_of_getElem? (i := 1) rfl)), (hw _ (List.mem_of_getElem? (i := 2) rfl))⟩)
  have E_u_Frequency_Weekly := Exa.start ev_u_Frequency_Weekly nr0
  have ev_nr1 := own_eqi nr1
  have F_u_Frequency_Weekly__timesPerYear := Fld.start (C := "com/example/thorough_factfind/thoroughfactfind/foundation/Frequency") (n := "_timesPerYear") (d := "I") ((fld_at ev_u_Frequency_Weekly).symm.trans ev_nr1)
  obtain ⟨u_Frequency_Monthly, ev_u_Frequency_Monthly⟩ := exa_v nr2
  have S_u_Frequency_Monthly := Sta.start ev_u_Frequency_Monthly (Or.inr ⟨(hw _ (List.mem_of_getElem? (i := 1) rfl)), (hw _ (List.mem_of_getElem? (i := 25) rfl))⟩)
  have E_u_Frequency_Monthly := Exa.start ev_u_Frequency_Monthly nr2
  have ev_nr3 := own_eqi nr3
  have F_u_Frequency_Monthly__timesPerYear := Fld.start (C := "com/example/thorough_factfind/thoroughfactfind/foundation/Frequency") (n := "_timesPerYear") (d := "I") ((fld_at ev_u_Frequency_Monthly).symm.trans ev_nr3)
  obtain ⟨u_Frequency_Annually, ev_u_Frequency_Annually⟩ := exa_v nr4
  have S_u_Frequency_Annually := Sta.start ev_u_Frequency_Annually (Or.inr ⟨(hw _ (List.mem_of_getElem? (i := 1) rfl)), (hw _ (List.mem_of_getElem? (i := 27) rfl))⟩)
  have E_u_Frequency_Annually := Exa.start ev_u_Frequency_Annually nr4
  have ev_nr5 := own_eqi nr5
  have F_u_Frequency_Annually__timesPerYear := Fld.start (C := "com/example/thorough_factfind/thoroughfactfind/foundation/Frequency") (n := "_timesPerYear") (d := "I") ((fld_at ev_u_Frequency_Annually).symm.trans ev_nr5)
  obtain ⟨u_Frequency_Single, ev_u_Frequency_Single⟩ := exa_v nr6
  have S_u_Frequency_Single := Sta.start ev_u_Frequency_Single (Or.inr ⟨(hw _ (List.mem_of_getElem? (i := 1) rfl)), (hw _ (List.mem_of_getElem? (i := 29) rfl))⟩)
  have E_u_Frequency_Single := Exa.start ev_u_Frequency_Single nr6
  have ev_nr7 := own_eqi nr7
  have F_u_Frequency_Single__timesPerYear := Fld.start (C := "com/example/thorough_factfind/thoroughfactfind/foundation/Frequency") (n := "_timesPerYear") (d := "I") ((fld_at ev_u_Frequency_Single).symm.trans ev_nr7)
  obtain ⟨u_Frequency_FourWeekly, ev_u_Frequency_FourWeekly⟩ := exa_v nr8
  have S_u_Frequency_FourWeekly := Sta.start ev_u_Frequency_FourWeekly (Or.inr ⟨(hw _ (List.mem_of_getElem? (i := 1) rfl)), (hw _ (List.mem_of_getElem? (i := 31) rfl))⟩)
  have E_u_Frequency_FourWeekly := Exa.start ev_u_Frequency_FourWeekly nr8
  have ev_nr9 := own_eqi nr9
  have F_u_Frequency_FourWeekly__timesPerYear := Fld.start (C := "com/example/thorough_factfind/thoroughfactfind/foundation/Frequency") (n := "_timesPerYear") (d := "I") ((fld_at ev_u_Frequency_FourWeekly).symm.trans ev_nr9)
  obtain ⟨u_Frequency_Fortnightly, ev_u_Frequency_Fortnightly⟩ := exa_v nr10
  have S_u_Frequency_Fortnightly := Sta.start ev_u_Frequency_Fortnightly (Or.inr ⟨(hw _ (List.mem_of_getElem? (i := 1) rfl)), (hw _ (List.mem_of_getElem? (i := 33) rfl))⟩)
  have E_u_Frequency_Fortnightly := Exa.start ev_u_Frequency_Fortnightly nr10
  have ev_nr11 := own_eqi nr11
  have F_u_Frequency_Fortnightly__timesPerYear := Fld.start (C := "com/example/thorough_factfind/thoroughfactfind/foundation/Frequency") (n := "_timesPerYear") (d := "I") ((fld_at ev_u_Frequency_Fortnightly).symm.trans ev_nr11)
  obtain ⟨u_Frequency_Quarterly, ev_u_Frequency_Quarterly⟩ := exa_v nr12
  have S_u_Frequency_Quarterly := Sta.start ev_u_Frequency_Quarterly (Or.inr ⟨(hw _ (List.mem_of_getElem? (i := 1) rfl)), (hw _ (List.mem_of_getElem? (i := 35) rfl))⟩)
  have E_u_Frequency_Quarterly := Exa.start ev_u_Frequency_Quarterly nr12
  have ev_nr13 := own_eqi nr13
  have F_u_Frequency_Quarterly__timesPerYear := Fld.start (C := "com/example/thorough_factfind/thoroughfactfind/foundation/Frequency") (n := "_timesPerYear") (d := "I") ((fld_at ev_u_Frequency_Quarterly).symm.trans ev_nr13)
  obtain ⟨u_Frequency_HalfYearly, ev_u_Frequency_HalfYearly⟩ := exa_v nr14
  have S_u_Frequency_HalfYearly := Sta.start ev_u_Frequency_HalfYearly (Or.inr ⟨(hw _ (List.mem_of_getElem? (i := 1) rfl)), (hw _ (List.mem_of_getElem? (i := 37) rfl))⟩)
  have E_u_Frequency_HalfYearly := Exa.start ev_u_Frequency_HalfYearly nr14
  have ev_nr15 := own_eqi nr15
  have F_u_Frequency_HalfYearly__timesPerYear := Fld.start (C := "com/example/thorough_factfind/thoroughfactfind/foundation/Frequency") (n := "_timesPerYear") (d := "I") ((fld_at ev_u_Frequency_HalfYearly).symm.trans ev_nr15)
  obtain ⟨hsets, hown0⟩ := atoms_of _ (rest_1_c_eq ▸ (show rest_1_c.before _ s = true from hrest))
  have S_high := Sta.start (own_eqi (Cond.before_iff.mp (hsets _ (List.mem_of_getElem? (i := 3) rfl)))) (Or.inl (hsets _ (List.mem_of_getElem? (i := 1) rfl)))
  obtain ⟨uc, ev_uc⟩ := arr_v (Cond.before_iff.mp (hsets _ (List.mem_of_getElem? (i := 4) rfl)))
  obtain ⟨clc, A_uc⟩ := Arr.start ev_uc (Cond.before_iff.mp (hsets _ (List.mem_of_getElem? (i := 4) rfl)))
  have S_cache := Sta.start ev_uc (Or.inr ⟨(hw _ (List.mem_of_getElem? (i := 15) rfl)), (hsets _ (List.mem_of_getElem? (i := 2) rfl))⟩)
  have lc := own_lenv ev_uc A_uc (Cond.before_iff.mp (hsets _ (List.mem_of_getElem? (i := 6) rfl)))
  have hsz : clc.slots.size = (256 : Int32).toNatClampNeg := own_size lc.1 lc.2
  obtain ⟨r52, H_52, E_r52, F_r52⟩ := own_cache (t := (Jvm.Term.static "java/lang/Integer$IntegerCache" "cache" "[Ljava/lang/Integer;")) (fun _ => ev_uc) A_uc (Cond.before_iff.mp (hsets _ (List.mem_of_getElem? (i := 7) rfl))) 180 (by rw [hsz]; decide) (n := 52) (by decide)
  obtain ⟨r26, H_26, E_r26, F_r26⟩ := own_cache (t := (Jvm.Term.static "java/lang/Integer$IntegerCache" "cache" "[Ljava/lang/Integer;")) (fun _ => ev_uc) A_uc (Cond.before_iff.mp (hsets _ (List.mem_of_getElem? (i := 7) rfl))) 154 (by rw [hsz]; decide) (n := 26) (by decide)
  obtain ⟨r13, H_13, E_r13, F_r13⟩ := own_cache (t := (Jvm.Term.static "java/lang/Integer$IntegerCache" "cache" "[Ljava/lang/Integer;")) (fun _ => ev_uc) A_uc (Cond.before_iff.mp (hsets _ (List.mem_of_getElem? (i := 7) rfl))) 141 (by rw [hsz]; decide) (n := 13) (by decide)
  obtain ⟨r12, H_12, E_r12, F_r12⟩ := own_cache (t := (Jvm.Term.static "java/lang/Integer$IntegerCache" "cache" "[Ljava/lang/Integer;")) (fun _ => ev_uc) A_uc (Cond.before_iff.mp (hsets _ (List.mem_of_getElem? (i := 7) rfl))) 140 (by rw [hsz]; decide) (n := 12) (by decide)
  obtain ⟨r4, H_4, E_r4, F_r4⟩ := own_cache (t := (Jvm.Term.static "java/lang/Integer$IntegerCache" "cache" "[Ljava/lang/Integer;")) (fun _ => ev_uc) A_uc (Cond.before_iff.mp (hsets _ (List.mem_of_getElem? (i := 7) rfl))) 132 (by rw [hsz]; decide) (n := 4) (by decide)
  obtain ⟨r2, H_2, E_r2, F_r2⟩ := own_cache (t := (Jvm.Term.static "java/lang/Integer$IntegerCache" "cache" "[Ljava/lang/Integer;")) (fun _ => ev_uc) A_uc (Cond.before_iff.mp (hsets _ (List.mem_of_getElem? (i := 7) rfl))) 130 (by rw [hsz]; decide) (n := 2) (by decide)
  obtain ⟨r1, H_1, E_r1, F_r1⟩ := own_cache (t := (Jvm.Term.static "java/lang/Integer$IntegerCache" "cache" "[Ljava/lang/Integer;")) (fun _ => ev_uc) A_uc (Cond.before_iff.mp (hsets _ (List.mem_of_getElem? (i := 7) rfl))) 129 (by rw [hsz]; decide) (n := 1) (by decide)
  obtain ⟨n, o, h1, h2, h3, _, L, rfl, ⟨rfl, N⟩, hq⟩ := rm0 l s _ hw tables_1 i0 u_Frequency_Weekly u_Frequency_Monthly u_Frequency_Annually u_Frequency_Single u_Frequency_FourWeekly u_Frequency_Fortnightly u_Frequency_Quarterly u_Frequency_HalfYearly uc clc r52 r26 r13 r12 r4 r2 r1 s.heap s.heap.size (Nat.le_refl _) (Old.start s) S_u_Frequency_Weekly E_u_Frequency_Weekly F_u_Frequency_Weekly__timesPerYear S_u_Frequency_Monthly E_u_Frequency_Monthly F_u_Frequency_Monthly__timesPerYear S_u_Frequency_Annually E_u_Frequency_Annually F_u_Frequency_Annually__timesPerYear S_u_Frequency_Single E_u_Frequency_Single F_u_Frequency_Single__timesPerYear S_u_Frequency_FourWeekly E_u_Frequency_FourWeekly F_u_Frequency_FourWeekly__timesPerYear S_u_Frequency_Fortnightly E_u_Frequency_Fortnightly F_u_Frequency_Fortnightly__timesPerYear S_u_Frequency_Quarterly E_u_Frequency_Quarterly F_u_Frequency_Quarterly__timesPerYear S_u_Frequency_HalfYearly E_u_Frequency_HalfYearly F_u_Frequency_HalfYearly__timesPerYear S_high S_cache A_uc hsz H_52 E_r52 F_r52 H_26 E_r26 F_r26 H_13 E_r13 F_r13 H_12 E_r12 F_r12 H_4 E_r4 F_r4 H_2 E_r2 F_r2 H_1 E_r1 F_r1  p e ha hc hk s m _ below hf ((Spec.applies_iff_loose hf).mp happ).1 ⟨rfl, State.Warmed39.refl s, rfl⟩ trivial
  refine ⟨n, _, h1, h2, h3, hpost _ _ _ _ _ _ ⟨Cond.after_iff.mpr rfl, Cond.after_iff.mpr (eq_i res_at (Term.int_eval (1)) rfl), trivial⟩ ⟨hq.1, hq.2.1, (hq.2.2.sift fun y hy => Or.inr (N y hy)).mono (by decide) (by decide)⟩⟩
theorem main_1_1 : Claimed_1_1 := comes_1 fun _ _ _ _ _ _ h hF => ⟨h.1, hF⟩
theorem main_1_2 : Claimed_1_2 := comes_1 fun _ _ _ _ _ _ h hF => ⟨h.2.1, hF⟩
end Jvm.Pilot.@@N@@
namespace Jvm.Pilot.@@N@@
open Jvm Jvm.ClassFile Sem Op Lib Jvm.Free Jvm.Stand Jvm.Pilot.@@N@@.Jvm.D
/-! MADE BY PROGRAM (witnessworld.py) out of the Statement's table words and the real class files: 18 classes; the members and pool entries that the words name. The judged class is class 1, her method 1. -/
namespace start1
open Jvm.ClassFile
def u (s : String) : CpInfo := .utf8 (stringToUtf16 s)
/-- a pool by its gaps: so many unusable entries, then the entry; so many at the end -/
def gap : Nat → List CpInfo → List CpInfo
  | 0, r => r
  | n + 1, r => .unusable :: gap n r
def poolList (es : List (Nat × CpInfo)) (last : Nat) : List CpInfo := es.foldr (fun e r => gap e.1 (e.2 :: r)) (gap last [])
def pool (es : List (Nat × CpInfo)) (last : Nat) : Array CpInfo := ⟨poolList es last⟩
def fileOf (pool : Array CpInfo) (this : Nat) (attrs : Array Attribute := #[]) (ms : Array MethodInfo := #[]) (fl : Nat := 33) (sup : Nat := 0) (ifs : Array Nat := #[]) (fds : Array FieldInfo := #[]) : ClassFile where
  minorVersion := 0
  majorVersion := 65
  constantPool := pool
  accessFlags := fl
  thisClass := this
  superClass := sup
  interfaces := ifs
  fields := fds
  methods := ms
  attributes := attrs
def plain (name : String) (sup : Option ClassId) : Class where
  name := name
  kind := .ordinary
  loader := none
  accessFlags := 33
  super := sup
  interfaces := #[]
  cf := none
  fields := #[]
  methods := #[]
  instanceTypes := #[]
  staticTypes := #[]
  resolved := #[]
  callSites := []
  init := .initialized
  statics := none
  mirror := none

def pool0 : Array CpInfo := pool [(5, u "<init>"), (0, u "()V"), (1, .class_ 10), (1, u "java/lang/Object")] 113

def k0m0 : Method := { name := "<init>", desc := "()V", sig := { parameters := [], returnType := none }, accessFlags := 1, code := none }
/-- java/lang/Object -/
def k0 : Class := { plain "java/lang/Object" none with
  accessFlags := 33
  interfaces := #[]
  cf := some (fileOf pool0 8 #[] #[{ accessFlags := 1, nameIndex := 5, descriptorIndex := 6, attributes := #[] }] 33 0 #[] #[])
  fields := #[]
  methods := #[k0m0]
  instanceTypes := #[]
  staticTypes := #[]
  resolved := Array.replicate 124 none
  statics := none }

def pool1 : Array CpInfo := pool [(2, .class_ 4), (1, u "java/lang/Object"), (0, u "<init>"), (0, u "()V"), (0, .fieldref 8 9), (0, .class_ 10), (0, .nameAndType 11 12), (0, u "com/example/thorough_factfind/thoroughfactfind/foundation/Frequency"), (0, u "Weekly"), (0, u "Lcom/example/thorough_factfind/thoroughfactfind/foundation/Frequency;"), (0, .fieldref 8 14), (0, .nameAndType 15 12), (0, u "Fortnightly"), (0, .fieldref 8 17), (0, .nameAndType 18 12), (0, u "FourWeekly"), (0, .fieldref 8 20), (0, .nameAndType 21 12), (0, u "Monthly"), (0, .fieldref 8 23), (0, .nameAndType 24 12), (0, u "Quarterly"), (0, .fieldref 8 26), (0, .nameAndType 27 12), (0, u "HalfYearly"), (0, .fieldref 8 29), (0, .nameAndType 30 12), (0, u "Annually"), (0, .fieldref 8 32), (0, .nameAndType 33 12), (0, u "Single"), (0, .methodref 8 35), (0, .nameAndType 36 37), (0, u "periodsPerYear"), (0, u "()Ljava/lang/Integer;"), (0, .methodref 39 40), (0, .class_ 41), (0, .nameAndType 42 43), (0, u "java/lang/Integer"), (0, u "intValue"), (0, u "()I"), (0, .class_ 45), (0, u "com/example/thorough_factfind/thoroughfactfind/foundation/FrequencyPeriodsPerYearPinLaw"), (2, u "law"), (0, u "(I)Z")] 3

def k1m0 : Method := { name := "<init>", desc := "()V", sig := { parameters := [], returnType := none }, accessFlags := 1, code := none }
def k1c1 : Code := { maxStack := 2, maxLocals := 5, code := code, exceptionTable := #[], attributes := #[] }
def k1m1 : Method := { name := "law", desc := "(I)Z", sig := { parameters := [.int], returnType := some .boolean }, accessFlags := 9, code := some k1c1 }
/-- com/example/thorough_factfind/thoroughfactfind/foundation/FrequencyPeriodsPerYearPinLaw -/
def k1 : Class := { plain "com/example/thorough_factfind/thoroughfactfind/foundation/FrequencyPeriodsPerYearPinLaw" (some 0) with
  accessFlags := 49
  interfaces := #[]
  cf := some (fileOf pool1 44 #[] #[{ accessFlags := 1, nameIndex := 5, descriptorIndex := 6, attributes := #[] }, { accessFlags := 9, nameIndex := 48, descriptorIndex := 49, attributes := #[] }] 49 2 #[] #[])
  fields := #[]
  methods := #[k1m0, k1m1]
  instanceTypes := #[]
  staticTypes := #[]
  resolved := Array.replicate 53 none
  statics := none }

def pool2 : Array CpInfo := pool [(1, .class_ 2), (0, u "java/lang/constant/Constable"), (0, .class_ 4), (0, u "java/lang/Object")] 6

/-- java/lang/constant/Constable -/
def k2 : Class := { plain "java/lang/constant/Constable" (some 0) with
  accessFlags := 1537
  interfaces := #[]
  cf := some (fileOf pool2 1 #[] #[] 1537 3 #[] #[])
  fields := #[]
  methods := #[]
  instanceTypes := #[]
  staticTypes := #[]
  resolved := Array.replicate 11 none
  statics := none }

def pool3 : Array CpInfo := pool [(1, .class_ 2), (0, u "java/lang/Comparable"), (0, .class_ 4), (0, u "java/lang/Object")] 7

/-- java/lang/Comparable -/
def k3 : Class := { plain "java/lang/Comparable" (some 0) with
  accessFlags := 1537
  interfaces := #[]
  cf := some (fileOf pool3 1 #[] #[] 1537 3 #[] #[])
  fields := #[]
  methods := #[]
  instanceTypes := #[]
  staticTypes := #[]
  resolved := Array.replicate 12 none
  statics := none }

def pool4 : Array CpInfo := pool [(1, .class_ 2), (0, u "java/io/Serializable"), (0, .class_ 4), (0, u "java/lang/Object")] 2

/-- java/io/Serializable -/
def k4 : Class := { plain "java/io/Serializable" (some 0) with
  accessFlags := 1537
  interfaces := #[]
  cf := some (fileOf pool4 1 #[] #[] 1537 3 #[] #[])
  fields := #[]
  methods := #[]
  instanceTypes := #[]
  staticTypes := #[]
  resolved := Array.replicate 7 none
  statics := none }

def pool5 : Array CpInfo := pool [(2, .class_ 4), (1, u "java/lang/Enum"), (0, u "name"), (0, u "Ljava/lang/String;"), (2, u "ordinal"), (0, u "I"), (1, .class_ 14), (1, u "java/lang/Object"), (4, u "hash"), (86, .class_ 108), (1, u "java/lang/Enum$EnumDesc"), (2, .class_ 112), (0, u "java/lang/constant/Constable"), (0, .class_ 114), (0, u "java/lang/Comparable"), (0, .class_ 116), (0, u "java/io/Serializable")] 87

/-- java/lang/Enum -/
def k5 : Class := { plain "java/lang/Enum" (some 0) with
  accessFlags := 1057
  interfaces := #[2, 3, 4]
  cf := some (fileOf pool5 2 #[.nestMembers #[106]] #[] 1057 12 #[111, 113, 115] #[{ accessFlags := 18, nameIndex := 5, descriptorIndex := 6, attributes := #[] }, { accessFlags := 18, nameIndex := 9, descriptorIndex := 10, attributes := #[] }, { accessFlags := 2, nameIndex := 19, descriptorIndex := 10, attributes := #[] }])
  fields := #[{ name := "name", type := (.object "java/lang/String"), accessFlags := 18, slot := 0, constantValue := 0 }, { name := "ordinal", type := .int, accessFlags := 18, slot := 1, constantValue := 0 }, { name := "hash", type := .int, accessFlags := 2, slot := 2, constantValue := 0 }]
  methods := #[]
  instanceTypes := #[(.object "java/lang/String"), .int, .int]
  staticTypes := #[]
  resolved := Array.replicate 204 none
  statics := none }

def pool6 : Array CpInfo := pool [(1, .class_ 2), (0, u "com/example/thorough_factfind/thoroughfactfind/foundation/Choice"), (0, .class_ 4), (0, u "java/lang/Object")] 5

/-- com/example/thorough_factfind/thoroughfactfind/foundation/Choice -/
def k6 : Class := { plain "com/example/thorough_factfind/thoroughfactfind/foundation/Choice" (some 0) with
  accessFlags := 1537
  interfaces := #[]
  cf := some (fileOf pool6 1 #[] #[] 1537 3 #[] #[])
  fields := #[]
  methods := #[]
  instanceTypes := #[]
  staticTypes := #[]
  resolved := Array.replicate 10 none
  statics := none }

def pool7 : Array CpInfo := pool [(1, .class_ 2), (0, u "com/example/thorough_factfind/thoroughfactfind/foundation/Frequency"), (2, u "Weekly"), (0, u "Lcom/example/thorough_factfind/thoroughfactfind/foundation/Frequency;"), (2, u "Fortnightly"), (2, u "FourWeekly"), (2, u "Monthly"), (2, u "Quarterly"), (2, u "HalfYearly"), (2, u "Annually"), (2, u "Single"), (2, u "$VALUES"), (0, u "[Lcom/example/thorough_factfind/thoroughfactfind/foundation/Frequency;"), (6, .class_ 40), (1, u "java/lang/Enum"), (0, u "valueOf"), (1, .fieldref 1 44), (0, .nameAndType 45 46), (0, u "_timesPerYear"), (0, u "I"), (14, u "MONTHS_PER_YEAR"), (0, u "Ljava/math/BigDecimal;"), (12, .methodref 76 77), (0, .class_ 78), (0, .nameAndType 41 79), (0, u "java/lang/Integer"), (0, u "(I)Ljava/lang/Integer;"), (2, u "_when"), (0, u "Ljava/lang/String;"), (44, .class_ 129), (0, u "com/example/thorough_factfind/thoroughfactfind/foundation/Choice"), (0, u "MULTIPLIER_SCALE"), (8, u "periodsPerYear"), (0, u "()Ljava/lang/Integer;")] 31

def k7c0 : Code := { maxStack := 1, maxLocals := 1, code := prog_7_method_5_code, exceptionTable := #[], attributes := #[] }
def k7m0 : Method := { name := "periodsPerYear", desc := "()Ljava/lang/Integer;", sig := { parameters := [], returnType := some (.object "java/lang/Integer") }, accessFlags := 1, code := some k7c0 }
/-- com/example/thorough_factfind/thoroughfactfind/foundation/Frequency -/
def k7 : Class := { plain "com/example/thorough_factfind/thoroughfactfind/foundation/Frequency" (some 5) with
  accessFlags := 16433
  interfaces := #[6]
  cf := some (fileOf pool7 1 #[] #[{ accessFlags := 1, nameIndex := 139, descriptorIndex := 140, attributes := #[] }] 16433 38 #[128] #[{ accessFlags := 16409, nameIndex := 5, descriptorIndex := 6, attributes := #[] }, { accessFlags := 16409, nameIndex := 9, descriptorIndex := 6, attributes := #[] }, { accessFlags := 16409, nameIndex := 12, descriptorIndex := 6, attributes := #[] }, { accessFlags := 16409, nameIndex := 15, descriptorIndex := 6, attributes := #[] }, { accessFlags := 16409, nameIndex := 18, descriptorIndex := 6, attributes := #[] }, { accessFlags := 16409, nameIndex := 21, descriptorIndex := 6, attributes := #[] }, { accessFlags := 16409, nameIndex := 24, descriptorIndex := 6, attributes := #[] }, { accessFlags := 16409, nameIndex := 27, descriptorIndex := 6, attributes := #[] }, { accessFlags := 18, nameIndex := 45, descriptorIndex := 46, attributes := #[] }, { accessFlags := 18, nameIndex := 82, descriptorIndex := 83, attributes := #[] }, { accessFlags := 26, nameIndex := 61, descriptorIndex := 62, attributes := #[] }, { accessFlags := 26, nameIndex := 130, descriptorIndex := 46, attributes := #[] }, { accessFlags := 4122, nameIndex := 30, descriptorIndex := 31, attributes := #[] }])
  fields := #[{ name := "Weekly", type := (.object "com/example/thorough_factfind/thoroughfactfind/foundation/Frequency"), accessFlags := 16409, slot := 0, constantValue := 0 }, { name := "Fortnightly", type := (.object "com/example/thorough_factfind/thoroughfactfind/foundation/Frequency"), accessFlags := 16409, slot := 1, constantValue := 0 }, { name := "FourWeekly", type := (.object "com/example/thorough_factfind/thoroughfactfind/foundation/Frequency"), accessFlags := 16409, slot := 2, constantValue := 0 }, { name := "Monthly", type := (.object "com/example/thorough_factfind/thoroughfactfind/foundation/Frequency"), accessFlags := 16409, slot := 3, constantValue := 0 }, { name := "Quarterly", type := (.object "com/example/thorough_factfind/thoroughfactfind/foundation/Frequency"), accessFlags := 16409, slot := 4, constantValue := 0 }, { name := "HalfYearly", type := (.object "com/example/thorough_factfind/thoroughfactfind/foundation/Frequency"), accessFlags := 16409, slot := 5, constantValue := 0 }, { name := "Annually", type := (.object "com/example/thorough_factfind/thoroughfactfind/foundation/Frequency"), accessFlags := 16409, slot := 6, constantValue := 0 }, { name := "Single", type := (.object "com/example/thorough_factfind/thoroughfactfind/foundation/Frequency"), accessFlags := 16409, slot := 7, constantValue := 0 }, { name := "_timesPerYear", type := .int, accessFlags := 18, slot := 3, constantValue := 0 }, { name := "_when", type := (.object "java/lang/String"), accessFlags := 18, slot := 4, constantValue := 0 }, { name := "MONTHS_PER_YEAR", type := (.object "java/math/BigDecimal"), accessFlags := 26, slot := 8, constantValue := 0 }, { name := "MULTIPLIER_SCALE", type := .int, accessFlags := 26, slot := 9, constantValue := 0 }, { name := "$VALUES", type := (.array (.object "com/example/thorough_factfind/thoroughfactfind/foundation/Frequency")), accessFlags := 4122, slot := 10, constantValue := 0 }]
  methods := #[k7m0]
  instanceTypes := #[(.object "java/lang/String"), .int, .int, .int, (.object "java/lang/String")]
  staticTypes := #[(.object "com/example/thorough_factfind/thoroughfactfind/foundation/Frequency"), (.object "com/example/thorough_factfind/thoroughfactfind/foundation/Frequency"), (.object "com/example/thorough_factfind/thoroughfactfind/foundation/Frequency"), (.object "com/example/thorough_factfind/thoroughfactfind/foundation/Frequency"), (.object "com/example/thorough_factfind/thoroughfactfind/foundation/Frequency"), (.object "com/example/thorough_factfind/thoroughfactfind/foundation/Frequency"), (.object "com/example/thorough_factfind/thoroughfactfind/foundation/Frequency"), (.object "com/example/thorough_factfind/thoroughfactfind/foundation/Frequency"), (.object "java/math/BigDecimal"), .int, (.array (.object "com/example/thorough_factfind/thoroughfactfind/foundation/Frequency"))]
  resolved := Array.replicate 172 none
  statics := some 0 }

def pool8 : Array CpInfo := pool [(2, .class_ 4), (1, u "java/lang/Object"), (0, u "<init>"), (0, u "()V"), (1, .class_ 10), (1, u "java/lang/Number"), (2, .class_ 14), (0, u "java/io/Serializable"), (0, u "serialVersionUID"), (0, u "J")] 20

def k8m0 : Method := { name := "<init>", desc := "()V", sig := { parameters := [], returnType := none }, accessFlags := 1, code := none }
/-- java/lang/Number -/
def k8 : Class := { plain "java/lang/Number" (some 0) with
  accessFlags := 1057
  interfaces := #[4]
  cf := some (fileOf pool8 8 #[] #[{ accessFlags := 1, nameIndex := 5, descriptorIndex := 6, attributes := #[] }] 1057 2 #[13] #[{ accessFlags := 26, nameIndex := 15, descriptorIndex := 16, attributes := #[] }])
  fields := #[{ name := "serialVersionUID", type := .long, accessFlags := 26, slot := 0, constantValue := 0 }]
  methods := #[k8m0]
  instanceTypes := #[]
  staticTypes := #[.long]
  resolved := Array.replicate 37 none
  statics := none }

def pool9 : Array CpInfo := pool [(1, .class_ 2), (0, u "java/lang/constant/ConstantDesc"), (0, .class_ 4), (0, u "java/lang/Object")] 32

/-- java/lang/constant/ConstantDesc -/
def k9 : Class := { plain "java/lang/constant/ConstantDesc" (some 0) with
  accessFlags := 1537
  interfaces := #[]
  cf := some (fileOf pool9 1 #[] #[] 1537 3 #[] #[])
  fields := #[]
  methods := #[]
  instanceTypes := #[]
  staticTypes := #[]
  resolved := Array.replicate 37 none
  statics := none }

def pool10 : Array CpInfo := pool [(1, .class_ 2), (0, u "java/lang/Integer"), (16, u "digits"), (0, u "[C"), (64, u "DigitOnes"), (0, u "[B"), (2, u "DigitTens"), (31, u "()I"), (65, u "valueOf"), (0, u "(I)Ljava/lang/Integer;"), (0, .class_ 190), (0, u "java/lang/Integer$IntegerCache"), (0, .fieldref 189 192), (0, .nameAndType 193 194), (0, u "high"), (0, u "I"), (0, .fieldref 189 196), (0, .nameAndType 197 198), (0, u "cache"), (0, u "[Ljava/lang/Integer;"), (4, .class_ 204), (0, u "java/lang/Number"), (0, .fieldref 1 206), (0, .nameAndType 207 194), (0, u "value"), (5, u "intValue"), (88, u "TYPE"), (0, u "Ljava/lang/Class;"), (0, .class_ 305), (0, u "java/lang/Comparable"), (0, .class_ 307), (0, u "java/lang/constant/Constable"), (0, .class_ 309), (0, u "java/lang/constant/ConstantDesc"), (0, u "MIN_VALUE"), (1, u "MAX_VALUE"), (3, u "SIZE"), (1, u "BYTES"), (1, u "serialVersionUID"), (0, u "J")] 131

def k10c0 : Code := { maxStack := 3, maxLocals := 1, code := jdk_33_method_22_code, exceptionTable := #[], attributes := #[] }
def k10m0 : Method := { name := "valueOf", desc := "(I)Ljava/lang/Integer;", sig := { parameters := [.int], returnType := some (.object "java/lang/Integer") }, accessFlags := 9, code := some k10c0 }
def k10c1 : Code := { maxStack := 1, maxLocals := 1, code := jdk_33_method_27_code, exceptionTable := #[], attributes := #[] }
def k10m1 : Method := { name := "intValue", desc := "()I", sig := { parameters := [], returnType := some .int }, accessFlags := 1, code := some k10c1 }
/-- java/lang/Integer -/
def k10 : Class := { plain "java/lang/Integer" (some 8) with
  accessFlags := 49
  interfaces := #[3, 2, 9]
  cf := some (fileOf pool10 1 #[.nestMembers #[189]] #[{ accessFlags := 9, nameIndex := 187, descriptorIndex := 188, attributes := #[] }, { accessFlags := 1, nameIndex := 213, descriptorIndex := 121, attributes := #[] }] 49 203 #[304, 306, 308] #[{ accessFlags := 25, nameIndex := 310, descriptorIndex := 194, attributes := #[] }, { accessFlags := 25, nameIndex := 312, descriptorIndex := 194, attributes := #[] }, { accessFlags := 25, nameIndex := 302, descriptorIndex := 303, attributes := #[] }, { accessFlags := 24, nameIndex := 19, descriptorIndex := 20, attributes := #[] }, { accessFlags := 24, nameIndex := 89, descriptorIndex := 86, attributes := #[] }, { accessFlags := 24, nameIndex := 85, descriptorIndex := 86, attributes := #[] }, { accessFlags := 18, nameIndex := 207, descriptorIndex := 194, attributes := #[] }, { accessFlags := 25, nameIndex := 316, descriptorIndex := 194, attributes := #[] }, { accessFlags := 25, nameIndex := 318, descriptorIndex := 194, attributes := #[] }, { accessFlags := 26, nameIndex := 320, descriptorIndex := 321, attributes := #[] }])
  fields := #[{ name := "MIN_VALUE", type := .int, accessFlags := 25, slot := 0, constantValue := 0 }, { name := "MAX_VALUE", type := .int, accessFlags := 25, slot := 1, constantValue := 0 }, { name := "TYPE", type := (.object "java/lang/Class"), accessFlags := 25, slot := 2, constantValue := 0 }, { name := "digits", type := (.array .char), accessFlags := 24, slot := 3, constantValue := 0 }, { name := "DigitTens", type := (.array .byte), accessFlags := 24, slot := 4, constantValue := 0 }, { name := "DigitOnes", type := (.array .byte), accessFlags := 24, slot := 5, constantValue := 0 }, { name := "value", type := .int, accessFlags := 18, slot := 0, constantValue := 0 }, { name := "SIZE", type := .int, accessFlags := 25, slot := 6, constantValue := 0 }, { name := "BYTES", type := .int, accessFlags := 25, slot := 7, constantValue := 0 }, { name := "serialVersionUID", type := .long, accessFlags := 26, slot := 8, constantValue := 0 }]
  methods := #[k10m0, k10m1]
  instanceTypes := #[.int]
  staticTypes := #[.int, .int, (.object "java/lang/Class"), (.array .char), (.array .byte), (.array .byte), .int, .int, .long]
  resolved := Array.replicate 453 none
  statics := none }

def pool11 : Array CpInfo := pool [(2, .class_ 4), (1, u "java/lang/Object"), (0, u "<init>"), (0, u "()V"), (0, .class_ 8), (0, u "java/lang/Integer"), (7, .class_ 18), (1, u "java/lang/Integer$IntegerCache"), (0, u "$assertionsDisabled"), (0, u "Z"), (26, u "high"), (0, u "I"), (8, u "archivedCache"), (0, u "[Ljava/lang/Integer;"), (12, u "cache"), (0, u "low")] 27

def k11m0 : Method := { name := "<init>", desc := "()V", sig := { parameters := [], returnType := none }, accessFlags := 2, code := none }
/-- java/lang/Integer$IntegerCache -/
def k11 : Class := { plain "java/lang/Integer$IntegerCache" (some 0) with
  accessFlags := 48
  interfaces := #[]
  cf := some (fileOf pool11 16 #[.nestHost 7] #[{ accessFlags := 2, nameIndex := 5, descriptorIndex := 6, attributes := #[] }] 48 2 #[] #[{ accessFlags := 24, nameIndex := 72, descriptorIndex := 48, attributes := #[] }, { accessFlags := 24, nameIndex := 47, descriptorIndex := 48, attributes := #[] }, { accessFlags := 24, nameIndex := 71, descriptorIndex := 58, attributes := #[] }, { accessFlags := 8, nameIndex := 57, descriptorIndex := 58, attributes := #[] }, { accessFlags := 4120, nameIndex := 19, descriptorIndex := 20, attributes := #[] }])
  fields := #[{ name := "low", type := .int, accessFlags := 24, slot := 0, constantValue := 0 }, { name := "high", type := .int, accessFlags := 24, slot := 1, constantValue := 0 }, { name := "cache", type := (.array (.object "java/lang/Integer")), accessFlags := 24, slot := 2, constantValue := 0 }, { name := "archivedCache", type := (.array (.object "java/lang/Integer")), accessFlags := 8, slot := 3, constantValue := 0 }, { name := "$assertionsDisabled", type := .boolean, accessFlags := 4120, slot := 4, constantValue := 0 }]
  methods := #[k11m0]
  instanceTypes := #[]
  staticTypes := #[.int, .int, (.array (.object "java/lang/Integer")), (.array (.object "java/lang/Integer")), .boolean]
  resolved := Array.replicate 100 none
  statics := some 1 }

def pool12 : Array CpInfo := pool [(1, u "java/lang/Cloneable"), (0, .class_ 1), (0, u "java/lang/Object"), (0, .class_ 3)] 3

/-- java/lang/Cloneable -/
def k12 : Class := { plain "java/lang/Cloneable" (some 0) with
  accessFlags := 1537
  interfaces := #[]
  cf := some (fileOf pool12 2 #[] #[] 1537 4 #[] #[])
  fields := #[]
  methods := #[]
  instanceTypes := #[]
  staticTypes := #[]
  resolved := Array.replicate 8 none
  statics := none }

/-- the primitive byte -/
def k13 : Class := { plain "byte" none with kind := .primitive 'B', accessFlags := 0x411 }
/-- [B -/
def k14 : Class := { plain "[B" (some 0) with kind := .array 13 .byte, interfaces := #[12, 4], accessFlags := 1041 }

/-- the primitive int -/
def k15 : Class := { plain "int" none with kind := .primitive 'I', accessFlags := 0x411 }
/-- [I -/
def k16 : Class := { plain "[I" (some 0) with kind := .array 15 .int, interfaces := #[12, 4], accessFlags := 1041 }

/-- [Ljava/lang/Integer; -/
def k17 : Class := { plain "[Ljava/lang/Integer;" (some 0) with kind := .array 10 (.object "java/lang/Integer"), interfaces := #[12, 4], accessFlags := 1041 }

def heap : Heap := #[{ cls := 7, slots := #[.ref 259, .ref 260, .ref 261, .ref 262, .ref 263, .ref 264, .ref 265, .ref 266, .null, .int 0, .null], vm := .statics 7 },
  { cls := 11, slots := #[.int 0, .int 127, .ref 2, .null, .int 0], vm := .statics 11 },
  { cls := 17, slots := #[.ref 3, .ref 4, .ref 5, .ref 6, .ref 7, .ref 8, .ref 9, .ref 10, .ref 11, .ref 12, .ref 13, .ref 14, .ref 15, .ref 16, .ref 17, .ref 18, .ref 19, .ref 20, .ref 21, .ref 22, .ref 23, .ref 24, .ref 25, .ref 26, .ref 27, .ref 28, .ref 29, .ref 30, .ref 31, .ref 32, .ref 33, .ref 34, .ref 35, .ref 36, .ref 37, .ref 38, .ref 39, .ref 40, .ref 41, .ref 42, .ref 43, .ref 44, .ref 45, .ref 46, .ref 47, .ref 48, .ref 49, .ref 50, .ref 51, .ref 52, .ref 53, .ref 54, .ref 55, .ref 56, .ref 57, .ref 58, .ref 59, .ref 60, .ref 61, .ref 62, .ref 63, .ref 64, .ref 65, .ref 66, .ref 67, .ref 68, .ref 69, .ref 70, .ref 71, .ref 72, .ref 73, .ref 74, .ref 75, .ref 76, .ref 77, .ref 78, .ref 79, .ref 80, .ref 81, .ref 82, .ref 83, .ref 84, .ref 85, .ref 86, .ref 87, .ref 88, .ref 89, .ref 90, .ref 91, .ref 92, .ref 93, .ref 94, .ref 95, .ref 96, .ref 97, .ref 98, .ref 99, .ref 100, .ref 101, .ref 102, .ref 103, .ref 104, .ref 105, .ref 106, .ref 107, .ref 108, .ref 109, .ref 110, .ref 111, .ref 112, .ref 113, .ref 114, .ref 115, .ref 116, .ref 117, .ref 118, .ref 119, .ref 120, .ref 121, .ref 122, .ref 123, .ref 124, .ref 125, .ref 126, .ref 127, .ref 128, .ref 129, .ref 130, .ref 131, .ref 132, .ref 133, .ref 134, .ref 135, .ref 136, .ref 137, .ref 138, .ref 139, .ref 140, .ref 141, .ref 142, .ref 143, .ref 144, .ref 145, .ref 146, .ref 147, .ref 148, .ref 149, .ref 150, .ref 151, .ref 152, .ref 153, .ref 154, .ref 155, .ref 156, .ref 157, .ref 158, .ref 159, .ref 160, .ref 161, .ref 162, .ref 163, .ref 164, .ref 165, .ref 166, .ref 167, .ref 168, .ref 169, .ref 170, .ref 171, .ref 172, .ref 173, .ref 174, .ref 175, .ref 176, .ref 177, .ref 178, .ref 179, .ref 180, .ref 181, .ref 182, .ref 183, .ref 184, .ref 185, .ref 186, .ref 187, .ref 188, .ref 189, .ref 190, .ref 191, .ref 192, .ref 193, .ref 194, .ref 195, .ref 196, .ref 197, .ref 198, .ref 199, .ref 200, .ref 201, .ref 202, .ref 203, .ref 204, .ref 205, .ref 206, .ref 207, .ref 208, .ref 209, .ref 210, .ref 211, .ref 212, .ref 213, .ref 214, .ref 215, .ref 216, .ref 217, .ref 218, .ref 219, .ref 220, .ref 221, .ref 222, .ref 223, .ref 224, .ref 225, .ref 226, .ref 227, .ref 228, .ref 229, .ref 230, .ref 231, .ref 232, .ref 233, .ref 234, .ref 235, .ref 236, .ref 237, .ref 238, .ref 239, .ref 240, .ref 241, .ref 242, .ref 243, .ref 244, .ref 245, .ref 246, .ref 247, .ref 248, .ref 249, .ref 250, .ref 251, .ref 252, .ref 253, .ref 254, .ref 255, .ref 256, .ref 257, .ref 258], vm := .none },
  { cls := 10, slots := #[.int (-128)], vm := .none },
  { cls := 10, slots := #[.int (-127)], vm := .none },
  { cls := 10, slots := #[.int (-126)], vm := .none },
  { cls := 10, slots := #[.int (-125)], vm := .none },
  { cls := 10, slots := #[.int (-124)], vm := .none },
  { cls := 10, slots := #[.int (-123)], vm := .none },
  { cls := 10, slots := #[.int (-122)], vm := .none },
  { cls := 10, slots := #[.int (-121)], vm := .none },
  { cls := 10, slots := #[.int (-120)], vm := .none },
  { cls := 10, slots := #[.int (-119)], vm := .none },
  { cls := 10, slots := #[.int (-118)], vm := .none },
  { cls := 10, slots := #[.int (-117)], vm := .none },
  { cls := 10, slots := #[.int (-116)], vm := .none },
  { cls := 10, slots := #[.int (-115)], vm := .none },
  { cls := 10, slots := #[.int (-114)], vm := .none },
  { cls := 10, slots := #[.int (-113)], vm := .none },
  { cls := 10, slots := #[.int (-112)], vm := .none },
  { cls := 10, slots := #[.int (-111)], vm := .none },
  { cls := 10, slots := #[.int (-110)], vm := .none },
  { cls := 10, slots := #[.int (-109)], vm := .none },
  { cls := 10, slots := #[.int (-108)], vm := .none },
  { cls := 10, slots := #[.int (-107)], vm := .none },
  { cls := 10, slots := #[.int (-106)], vm := .none },
  { cls := 10, slots := #[.int (-105)], vm := .none },
  { cls := 10, slots := #[.int (-104)], vm := .none },
  { cls := 10, slots := #[.int (-103)], vm := .none },
  { cls := 10, slots := #[.int (-102)], vm := .none },
  { cls := 10, slots := #[.int (-101)], vm := .none },
  { cls := 10, slots := #[.int (-100)], vm := .none },
  { cls := 10, slots := #[.int (-99)], vm := .none },
  { cls := 10, slots := #[.int (-98)], vm := .none },
  { cls := 10, slots := #[.int (-97)], vm := .none },
  { cls := 10, slots := #[.int (-96)], vm := .none },
  { cls := 10, slots := #[.int (-95)], vm := .none },
  { cls := 10, slots := #[.int (-94)], vm := .none },
  { cls := 10, slots := #[.int (-93)], vm := .none },
  { cls := 10, slots := #[.int (-92)], vm := .none },
  { cls := 10, slots := #[.int (-91)], vm := .none },
  { cls := 10, slots := #[.int (-90)], vm := .none },
  { cls := 10, slots := #[.int (-89)], vm := .none },
  { cls := 10, slots := #[.int (-88)], vm := .none },
  { cls := 10, slots := #[.int (-87)], vm := .none },
  { cls := 10, slots := #[.int (-86)], vm := .none },
  { cls := 10, slots := #[.int (-85)], vm := .none },
  { cls := 10, slots := #[.int (-84)], vm := .none },
  { cls := 10, slots := #[.int (-83)], vm := .none },
  { cls := 10, slots := #[.int (-82)], vm := .none },
  { cls := 10, slots := #[.int (-81)], vm := .none },
  { cls := 10, slots := #[.int (-80)], vm := .none },
  { cls := 10, slots := #[.int (-79)], vm := .none },
  { cls := 10, slots := #[.int (-78)], vm := .none },
  { cls := 10, slots := #[.int (-77)], vm := .none },
  { cls := 10, slots := #[.int (-76)], vm := .none },
  { cls := 10, slots := #[.int (-75)], vm := .none },
  { cls := 10, slots := #[.int (-74)], vm := .none },
  { cls := 10, slots := #[.int (-73)], vm := .none },
  { cls := 10, slots := #[.int (-72)], vm := .none },
  { cls := 10, slots := #[.int (-71)], vm := .none },
  { cls := 10, slots := #[.int (-70)], vm := .none },
  { cls := 10, slots := #[.int (-69)], vm := .none },
  { cls := 10, slots := #[.int (-68)], vm := .none },
  { cls := 10, slots := #[.int (-67)], vm := .none },
  { cls := 10, slots := #[.int (-66)], vm := .none },
  { cls := 10, slots := #[.int (-65)], vm := .none },
  { cls := 10, slots := #[.int (-64)], vm := .none },
  { cls := 10, slots := #[.int (-63)], vm := .none },
  { cls := 10, slots := #[.int (-62)], vm := .none },
  { cls := 10, slots := #[.int (-61)], vm := .none },
  { cls := 10, slots := #[.int (-60)], vm := .none },
  { cls := 10, slots := #[.int (-59)], vm := .none },
  { cls := 10, slots := #[.int (-58)], vm := .none },
  { cls := 10, slots := #[.int (-57)], vm := .none },
  { cls := 10, slots := #[.int (-56)], vm := .none },
  { cls := 10, slots := #[.int (-55)], vm := .none },
  { cls := 10, slots := #[.int (-54)], vm := .none },
  { cls := 10, slots := #[.int (-53)], vm := .none },
  { cls := 10, slots := #[.int (-52)], vm := .none },
  { cls := 10, slots := #[.int (-51)], vm := .none },
  { cls := 10, slots := #[.int (-50)], vm := .none },
  { cls := 10, slots := #[.int (-49)], vm := .none },
  { cls := 10, slots := #[.int (-48)], vm := .none },
  { cls := 10, slots := #[.int (-47)], vm := .none },
  { cls := 10, slots := #[.int (-46)], vm := .none },
  { cls := 10, slots := #[.int (-45)], vm := .none },
  { cls := 10, slots := #[.int (-44)], vm := .none },
  { cls := 10, slots := #[.int (-43)], vm := .none },
  { cls := 10, slots := #[.int (-42)], vm := .none },
  { cls := 10, slots := #[.int (-41)], vm := .none },
  { cls := 10, slots := #[.int (-40)], vm := .none },
  { cls := 10, slots := #[.int (-39)], vm := .none },
  { cls := 10, slots := #[.int (-38)], vm := .none },
  { cls := 10, slots := #[.int (-37)], vm := .none },
  { cls := 10, slots := #[.int (-36)], vm := .none },
  { cls := 10, slots := #[.int (-35)], vm := .none },
  { cls := 10, slots := #[.int (-34)], vm := .none },
  { cls := 10, slots := #[.int (-33)], vm := .none },
  { cls := 10, slots := #[.int (-32)], vm := .none },
  { cls := 10, slots := #[.int (-31)], vm := .none },
  { cls := 10, slots := #[.int (-30)], vm := .none },
  { cls := 10, slots := #[.int (-29)], vm := .none },
  { cls := 10, slots := #[.int (-28)], vm := .none },
  { cls := 10, slots := #[.int (-27)], vm := .none },
  { cls := 10, slots := #[.int (-26)], vm := .none },
  { cls := 10, slots := #[.int (-25)], vm := .none },
  { cls := 10, slots := #[.int (-24)], vm := .none },
  { cls := 10, slots := #[.int (-23)], vm := .none },
  { cls := 10, slots := #[.int (-22)], vm := .none },
  { cls := 10, slots := #[.int (-21)], vm := .none },
  { cls := 10, slots := #[.int (-20)], vm := .none },
  { cls := 10, slots := #[.int (-19)], vm := .none },
  { cls := 10, slots := #[.int (-18)], vm := .none },
  { cls := 10, slots := #[.int (-17)], vm := .none },
  { cls := 10, slots := #[.int (-16)], vm := .none },
  { cls := 10, slots := #[.int (-15)], vm := .none },
  { cls := 10, slots := #[.int (-14)], vm := .none },
  { cls := 10, slots := #[.int (-13)], vm := .none },
  { cls := 10, slots := #[.int (-12)], vm := .none },
  { cls := 10, slots := #[.int (-11)], vm := .none },
  { cls := 10, slots := #[.int (-10)], vm := .none },
  { cls := 10, slots := #[.int (-9)], vm := .none },
  { cls := 10, slots := #[.int (-8)], vm := .none },
  { cls := 10, slots := #[.int (-7)], vm := .none },
  { cls := 10, slots := #[.int (-6)], vm := .none },
  { cls := 10, slots := #[.int (-5)], vm := .none },
  { cls := 10, slots := #[.int (-4)], vm := .none },
  { cls := 10, slots := #[.int (-3)], vm := .none },
  { cls := 10, slots := #[.int (-2)], vm := .none },
  { cls := 10, slots := #[.int (-1)], vm := .none },
  { cls := 10, slots := #[.int (0)], vm := .none },
  { cls := 10, slots := #[.int (1)], vm := .none },
  { cls := 10, slots := #[.int (2)], vm := .none },
  { cls := 10, slots := #[.int (3)], vm := .none },
  { cls := 10, slots := #[.int (4)], vm := .none },
  { cls := 10, slots := #[.int (5)], vm := .none },
  { cls := 10, slots := #[.int (6)], vm := .none },
  { cls := 10, slots := #[.int (7)], vm := .none },
  { cls := 10, slots := #[.int (8)], vm := .none },
  { cls := 10, slots := #[.int (9)], vm := .none },
  { cls := 10, slots := #[.int (10)], vm := .none },
  { cls := 10, slots := #[.int (11)], vm := .none },
  { cls := 10, slots := #[.int (12)], vm := .none },
  { cls := 10, slots := #[.int (13)], vm := .none },
  { cls := 10, slots := #[.int (14)], vm := .none },
  { cls := 10, slots := #[.int (15)], vm := .none },
  { cls := 10, slots := #[.int (16)], vm := .none },
  { cls := 10, slots := #[.int (17)], vm := .none },
  { cls := 10, slots := #[.int (18)], vm := .none },
  { cls := 10, slots := #[.int (19)], vm := .none },
  { cls := 10, slots := #[.int (20)], vm := .none },
  { cls := 10, slots := #[.int (21)], vm := .none },
  { cls := 10, slots := #[.int (22)], vm := .none },
  { cls := 10, slots := #[.int (23)], vm := .none },
  { cls := 10, slots := #[.int (24)], vm := .none },
  { cls := 10, slots := #[.int (25)], vm := .none },
  { cls := 10, slots := #[.int (26)], vm := .none },
  { cls := 10, slots := #[.int (27)], vm := .none },
  { cls := 10, slots := #[.int (28)], vm := .none },
  { cls := 10, slots := #[.int (29)], vm := .none },
  { cls := 10, slots := #[.int (30)], vm := .none },
  { cls := 10, slots := #[.int (31)], vm := .none },
  { cls := 10, slots := #[.int (32)], vm := .none },
  { cls := 10, slots := #[.int (33)], vm := .none },
  { cls := 10, slots := #[.int (34)], vm := .none },
  { cls := 10, slots := #[.int (35)], vm := .none },
  { cls := 10, slots := #[.int (36)], vm := .none },
  { cls := 10, slots := #[.int (37)], vm := .none },
  { cls := 10, slots := #[.int (38)], vm := .none },
  { cls := 10, slots := #[.int (39)], vm := .none },
  { cls := 10, slots := #[.int (40)], vm := .none },
  { cls := 10, slots := #[.int (41)], vm := .none },
  { cls := 10, slots := #[.int (42)], vm := .none },
  { cls := 10, slots := #[.int (43)], vm := .none },
  { cls := 10, slots := #[.int (44)], vm := .none },
  { cls := 10, slots := #[.int (45)], vm := .none },
  { cls := 10, slots := #[.int (46)], vm := .none },
  { cls := 10, slots := #[.int (47)], vm := .none },
  { cls := 10, slots := #[.int (48)], vm := .none },
  { cls := 10, slots := #[.int (49)], vm := .none },
  { cls := 10, slots := #[.int (50)], vm := .none },
  { cls := 10, slots := #[.int (51)], vm := .none },
  { cls := 10, slots := #[.int (52)], vm := .none },
  { cls := 10, slots := #[.int (53)], vm := .none },
  { cls := 10, slots := #[.int (54)], vm := .none },
  { cls := 10, slots := #[.int (55)], vm := .none },
  { cls := 10, slots := #[.int (56)], vm := .none },
  { cls := 10, slots := #[.int (57)], vm := .none },
  { cls := 10, slots := #[.int (58)], vm := .none },
  { cls := 10, slots := #[.int (59)], vm := .none },
  { cls := 10, slots := #[.int (60)], vm := .none },
  { cls := 10, slots := #[.int (61)], vm := .none },
  { cls := 10, slots := #[.int (62)], vm := .none },
  { cls := 10, slots := #[.int (63)], vm := .none },
  { cls := 10, slots := #[.int (64)], vm := .none },
  { cls := 10, slots := #[.int (65)], vm := .none },
  { cls := 10, slots := #[.int (66)], vm := .none },
  { cls := 10, slots := #[.int (67)], vm := .none },
  { cls := 10, slots := #[.int (68)], vm := .none },
  { cls := 10, slots := #[.int (69)], vm := .none },
  { cls := 10, slots := #[.int (70)], vm := .none },
  { cls := 10, slots := #[.int (71)], vm := .none },
  { cls := 10, slots := #[.int (72)], vm := .none },
  { cls := 10, slots := #[.int (73)], vm := .none },
  { cls := 10, slots := #[.int (74)], vm := .none },
  { cls := 10, slots := #[.int (75)], vm := .none },
  { cls := 10, slots := #[.int (76)], vm := .none },
  { cls := 10, slots := #[.int (77)], vm := .none },
  { cls := 10, slots := #[.int (78)], vm := .none },
  { cls := 10, slots := #[.int (79)], vm := .none },
  { cls := 10, slots := #[.int (80)], vm := .none },
  { cls := 10, slots := #[.int (81)], vm := .none },
  { cls := 10, slots := #[.int (82)], vm := .none },
  { cls := 10, slots := #[.int (83)], vm := .none },
  { cls := 10, slots := #[.int (84)], vm := .none },
  { cls := 10, slots := #[.int (85)], vm := .none },
  { cls := 10, slots := #[.int (86)], vm := .none },
  { cls := 10, slots := #[.int (87)], vm := .none },
  { cls := 10, slots := #[.int (88)], vm := .none },
  { cls := 10, slots := #[.int (89)], vm := .none },
  { cls := 10, slots := #[.int (90)], vm := .none },
  { cls := 10, slots := #[.int (91)], vm := .none },
  { cls := 10, slots := #[.int (92)], vm := .none },
  { cls := 10, slots := #[.int (93)], vm := .none },
  { cls := 10, slots := #[.int (94)], vm := .none },
  { cls := 10, slots := #[.int (95)], vm := .none },
  { cls := 10, slots := #[.int (96)], vm := .none },
  { cls := 10, slots := #[.int (97)], vm := .none },
  { cls := 10, slots := #[.int (98)], vm := .none },
  { cls := 10, slots := #[.int (99)], vm := .none },
  { cls := 10, slots := #[.int (100)], vm := .none },
  { cls := 10, slots := #[.int (101)], vm := .none },
  { cls := 10, slots := #[.int (102)], vm := .none },
  { cls := 10, slots := #[.int (103)], vm := .none },
  { cls := 10, slots := #[.int (104)], vm := .none },
  { cls := 10, slots := #[.int (105)], vm := .none },
  { cls := 10, slots := #[.int (106)], vm := .none },
  { cls := 10, slots := #[.int (107)], vm := .none },
  { cls := 10, slots := #[.int (108)], vm := .none },
  { cls := 10, slots := #[.int (109)], vm := .none },
  { cls := 10, slots := #[.int (110)], vm := .none },
  { cls := 10, slots := #[.int (111)], vm := .none },
  { cls := 10, slots := #[.int (112)], vm := .none },
  { cls := 10, slots := #[.int (113)], vm := .none },
  { cls := 10, slots := #[.int (114)], vm := .none },
  { cls := 10, slots := #[.int (115)], vm := .none },
  { cls := 10, slots := #[.int (116)], vm := .none },
  { cls := 10, slots := #[.int (117)], vm := .none },
  { cls := 10, slots := #[.int (118)], vm := .none },
  { cls := 10, slots := #[.int (119)], vm := .none },
  { cls := 10, slots := #[.int (120)], vm := .none },
  { cls := 10, slots := #[.int (121)], vm := .none },
  { cls := 10, slots := #[.int (122)], vm := .none },
  { cls := 10, slots := #[.int (123)], vm := .none },
  { cls := 10, slots := #[.int (124)], vm := .none },
  { cls := 10, slots := #[.int (125)], vm := .none },
  { cls := 10, slots := #[.int (126)], vm := .none },
  { cls := 10, slots := #[.int (127)], vm := .none },
  { cls := 7, slots := #[.null, .int 0, .int 0, .int 52, .null], vm := .none },
  { cls := 7, slots := #[.null, .int 0, .int 0, .int 26, .null], vm := .none },
  { cls := 7, slots := #[.null, .int 0, .int 0, .int 13, .null], vm := .none },
  { cls := 7, slots := #[.null, .int 0, .int 0, .int 12, .null], vm := .none },
  { cls := 7, slots := #[.null, .int 0, .int 0, .int 4, .null], vm := .none },
  { cls := 7, slots := #[.null, .int 0, .int 0, .int 2, .null], vm := .none },
  { cls := 7, slots := #[.null, .int 0, .int 0, .int 1, .null], vm := .none },
  { cls := 7, slots := #[.null, .int 0, .int 0, .int 0, .null], vm := .none }]
def classes : Array Class := #[k0, k1, k2, k3, k4, k5, k6, k7, k8, k9, k10, k11, k12, k13, k14, k15, k16, k17]
def interned : List (Array UInt16 × Addr) := []
def slotsUsed : Nat := 568
def theMethod : MethodId := ⟨1, 1⟩
def args0 : Array Value := #[.int 1]
def aboutOver (below : List Frame) : State where
  vm := { classes := classes, interned := interned.toArray }
  heap := heap
  slotsUsed := slotsUsed
  threads := #[{ frames := .invoking theMethod args0 :: below }]
def below0 : List Frame := [.native { method := ⟨0, 0⟩, args := #[] }]
def about1 : State := aboutOver below0
def p0 : Program := .bare "" "" ""
def e0 : Env := launch0.env 0 0 0
theorem w_frames : about1.frames = Frame.invoking theMethod args0 :: below0 := rfl
set_option maxRecDepth 65536 in
theorem w_args : argsFit about1.vm theMethod args0 = true := by decide +kernel
set_option maxRecDepth 65536 in
theorem w_heap : heapFits about1 = true := by decide +kernel
set_option maxRecDepth 65536 in
theorem w_runnable : about1.curStatus? = some .runnable := by decide +kernel
set_option maxRecDepth 65536 in
theorem w_alone : about1.alone = true := by decide +kernel
set_option maxRecDepth 65536 in
theorem w_named : about1.methodNamed? x = some theMethod := by decide +kernel
set_option maxRecDepth 65536 in
theorem w_hears : about1.hears theMethod below0 = true := by decide +kernel
set_option maxRecDepth 65536 in
theorem w_ripe : about1.ripe theMethod args0 below0 = true := by decide +kernel
theorem w_running : about1.status = .running := rfl
set_option maxRecDepth 65536 in
theorem w_room : about1.hasRoom e0.platform room_1 = true :=
  launch0.hasRoom_least _ room_1 (by decide +kernel) (by decide +kernel) (by decide +kernel) (by decide +kernel) (by decide +kernel) (by decide +kernel)
theorem allAtoms_all (ts : List Jvm.Cond) (a : Array Jvm.Value) (st : Jvm.State) : (allAtoms ts).before a st = ts.all (fun c => c.before a st) := by
  induction ts with
  | nil => rfl
  | cons c t ih =>
    show (Jvm.Cond.and c (allAtoms t)).before a st = _
    rw [Jvm.Cond.before_and, ih, List.all_cons]
def words1 : List Jvm.Cond := Jvm.Cond.code x code maxLocals ret :: tables_1
/-- a 'code' word, met by the world's own term for the bytes: nothing is compared byte by byte -/
theorem code_word {y : MethodName} {bytes : ByteArray} {mx : Nat} {rt : Option FieldType} {a : Array Value} {s : State} {m : MethodId} {meth : Method} {c : Code} (h1 : s.methodNamed? y = some m) (h2 : s.vm.method? m = some meth) (h3 : meth.code = some c) (h4 : c.code = bytes)
    (h5 : (c.maxLocals == mx && c.exceptionTable.isEmpty && decide (c.maxStack ≤ mostOperands) && decide (meth.sig.returnType = rt) && !meth.locks && decide (parseMethodDescriptor y.desc = some meth.sig)) = true) : (Jvm.Cond.code y bytes mx rt).before a s = true := by
  simp only [Bool.and_eq_true, beq_iff_eq, Bool.not_eq_true', decide_eq_true_eq] at h5
  obtain ⟨⟨⟨⟨⟨g1, g2⟩, g3⟩, g4⟩, g5⟩, g6⟩ := h5
  simp [Cond.before, Cond.holds, Cond.value, h1, h2, h3, h4, g1, g2, g3, g4, g5, g6]
def isCode : Jvm.Cond → Bool
  | .code _ _ _ _ => true
  | _ => false
theorem all_split {L : List Jvm.Cond} {P : Jvm.Cond → Bool} (h1 : L.all (fun c => isCode c || P c) = true) (h2 : ∀ c ∈ L.filter isCode, P c = true) : L.all P = true := by
  refine List.all_eq_true.mpr fun c hc => ?_
  have h := List.all_eq_true.mp h1 c hc
  rcases Bool.eq_false_or_eq_true (isCode c) with hi | hi
  · exact h2 c (List.mem_filter.mpr ⟨hc, hi⟩)
  · simpa [hi] using h
set_option maxRecDepth 65536 in
theorem w_c0 : (Jvm.Cond.code x code maxLocals ret).before args0 about1 = true := code_word (m := ⟨1, 1⟩) (meth := k1m1) (c := k1c1) (by decide +kernel) rfl rfl rfl (by decide +kernel)
set_option maxRecDepth 65536 in
theorem w_c1 : (Jvm.Cond.code ({ cls := "com/example/thorough_factfind/thoroughfactfind/foundation/Frequency", name := "periodsPerYear", desc := "()Ljava/lang/Integer;" } : Jvm.MethodName) prog_7_method_5_code (1 : Nat) (Option.some (Jvm.ClassFile.FieldType.object "java/lang/Integer"))).before args0 about1 = true := code_word (m := ⟨7, 0⟩) (meth := k7m0) (c := k7c0) (by decide +kernel) rfl rfl rfl (by decide +kernel)
set_option maxRecDepth 65536 in
theorem w_c2 : (Jvm.Cond.code ({ cls := "java/lang/Integer", name := "valueOf", desc := "(I)Ljava/lang/Integer;" } : Jvm.MethodName) jdk_33_method_22_code (1 : Nat) (Option.some (Jvm.ClassFile.FieldType.object "java/lang/Integer"))).before args0 about1 = true := code_word (m := ⟨10, 0⟩) (meth := k10m0) (c := k10c0) (by decide +kernel) rfl rfl rfl (by decide +kernel)
set_option maxRecDepth 65536 in
theorem w_c3 : (Jvm.Cond.code ({ cls := "java/lang/Integer", name := "intValue", desc := "()I" } : Jvm.MethodName) jdk_33_method_27_code (1 : Nat) (Option.some Jvm.ClassFile.FieldType.int)).before args0 about1 = true := code_word (m := ⟨10, 1⟩) (meth := k10m1) (c := k10c1) (by decide +kernel) rfl rfl rfl (by decide +kernel)
def codes1 : List Jvm.Cond := [Jvm.Cond.code x code maxLocals ret, Jvm.Cond.code ({ cls := "com/example/thorough_factfind/thoroughfactfind/foundation/Frequency", name := "periodsPerYear", desc := "()Ljava/lang/Integer;" } : Jvm.MethodName) prog_7_method_5_code (1 : Nat) (Option.some (Jvm.ClassFile.FieldType.object "java/lang/Integer")), Jvm.Cond.code ({ cls := "java/lang/Integer", name := "valueOf", desc := "(I)Ljava/lang/Integer;" } : Jvm.MethodName) jdk_33_method_22_code (1 : Nat) (Option.some (Jvm.ClassFile.FieldType.object "java/lang/Integer")), Jvm.Cond.code ({ cls := "java/lang/Integer", name := "intValue", desc := "()I" } : Jvm.MethodName) jdk_33_method_27_code (1 : Nat) (Option.some Jvm.ClassFile.FieldType.int)]
set_option maxRecDepth 65536 in
theorem codes_eq : words1.filter isCode = codes1 := rfl
theorem w_codes : ∀ c ∈ words1.filter isCode, c.before args0 about1 = true := by
  rw [codes_eq]
  intro c hc
  simp only [codes1, List.mem_cons, List.not_mem_nil, or_false] at hc
  rcases hc with rfl | rfl | rfl | rfl
  · exact w_c0
  · exact w_c1
  · exact w_c2
  · exact w_c3
set_option maxRecDepth 65536 in
theorem w_t1 : (words1.take 24).all (fun c => isCode c || c.before args0 about1) = true := by decide +kernel
set_option maxRecDepth 65536 in
theorem w_t2 : (words1.drop 24).all (fun c => isCode c || c.before args0 about1) = true := by decide +kernel
theorem w_tables : (allAtoms (Jvm.Cond.code x code maxLocals ret :: tables_1)).before args0 about1 = true := by
  rw [allAtoms_all]
  show words1.all (fun c => c.before args0 about1) = true
  refine all_split ?_ w_codes
  rw [← List.take_append_drop 24 words1, List.all_append, w_t1, w_t2]
  rfl
set_option maxRecDepth 65536 in
theorem w_rest : rest_1_c.before args0 about1 = true := by decide +kernel
set_option maxRecDepth 65536 in
theorem w_case : (Jvm.Cond.and given_1 narrow_1).before args0 about1 = true := by decide +kernel
theorem w_applies : (headSpec (Jvm.Cond.code x code maxLocals ret :: tables_1) room_1).applies x e0.platform about1 = true :=
  (Spec.applies_iff w_frames).mpr ⟨w_running, w_runnable, w_alone, w_named, w_hears, w_ripe, w_room, w_tables⟩
theorem atStart : AtStart classFile x code maxLocals ret World_1 tables_1 room_1 Calls_1 rest_1 Pre_1 launch0 p0 e0 about1 theMethod args0 below0 :=
  ⟨lists_1, trivial, launch0.admits_env _ _ _, launch0.least_env, fairChoices_fair.cas, fairChoices_fair.clock, w_frames, w_args, w_heap, w_applies, trivial, w_rest, w_case⟩
end start1
theorem witness_1 : WitnessClaimed_1 := ⟨start1.p0, start1.e0, start1.about1, start1.theMethod, start1.args0, start1.below0, start1.atStart⟩
end Jvm.Pilot.@@N@@
