import JvmDerived
import JvmDerived.Pilot.@@N@@Statement
import JvmDerived.Pilot.@@N@@Code
set_option linter.unusedVariables false
set_option linter.unusedSimpArgs false
namespace Jvm.RoadKit
open Sem ClassFile Op Lib Jvm.Stand Jvm.Free Jvm.LawKit
section Own
variable {p : Program} {l : Launch} {e : Env} {R : Room} {s : State} {m : MethodId} {args : Array Value} {below : List Frame} {meth : Method} {c : Code} {T T' : State} {locs : List Loc} {cells slots rc rs : Nat} {Q : Option Value → Heap → List Loc → Prop} {g g' : JFrame}
/-- from the state T with the top frame g the run ends in a return of which Q is true -/
def OwnGo (p : Program) (e : Env) (below : List Frame) (s : State) (rc rs : Nat) (Q : Option Value → Heap → List Loc → Prop) (T : State) (g : JFrame) : Prop :=
  ∃ (U : State) (o : Outcome), Steps p.tables e below (T.setTop g) U ∧ U.status = .running ∧ Ended U below o ∧ ∃ v L, o = .returned v ∧ Q v U.heap L ∧ FrameEnd s o U L rc rs
theorem OwnGo.st (k : ∀ target, Steps p.tables e below (T'.setTop g') target → Steps p.tables e below (T.setTop g) target) (h : OwnGo p e below s rc rs Q T' g') : OwnGo p e below s rc rs Q T g := by
  obtain ⟨U, o, h1, h2⟩ := h
  exact ⟨U, o, k _ h1, h2⟩
theorem OwnGo.cast (q : g = g') (h : OwnGo p e below s rc rs Q T g') : OwnGo p e below s rc rs Q T g := q ▸ h
theorem OwnGo.ret (X : Stand p l e R s m args below meth c T locs cells slots) (hx : p.tables.exec = Jvm.exec) {pc : Nat} {Ls : Array Slot} {w : Value} {t : FieldType} {i : Instr} {rest : List Value} (hret : meth.sig.returnType = some t) (hlk : meth.locks = false) (hn : narrow t w = w)
    (hi : (i = .ireturn ∧ (t = .int ∨ t = .boolean ∨ t = .byte ∨ t = .char ∨ t = .short) ∧ ∃ z, w = .int z) ∨ (i = .lreturn ∧ t = .long ∧ ∃ z, w = .long z) ∨ (i = .dreturn ∧ t = .double ∧ ∃ z, w = .double z) ∨ (i = .freturn ∧ t = .float ∧ ∃ z, w = .float z) ∨ (i = .areturn ∧ t.isReference = true ∧ w.isRef = true))
    (hd : decode c.code pc = .ok (i, 1)) (hQ : Q (some w) T.heap locs) (hc : cells ≤ rc) (hs : slots ≤ rs) : OwnGo p e below s rc rs Q T (mkF m pc Ls (w :: rest)) := by
  obtain ⟨fs, hr, hrun, hended, hW, hsame⟩ := X.leave (v := some w) (fun h => by rw [hret] at h; cases h) hlk
  exact ⟨_, _, retOut X hx hret hn hi hd hr, hrun, hended, _, _, rfl, hQ, ⟨_, rfl⟩, hW, hsame.mono hc hs⟩
theorem OwnGo.retN (X : Stand p l e R s m args below meth c T locs cells slots) (hx : p.tables.exec = Jvm.exec) {pc : Nat} {Ls : Array Slot} {z : Int32} {t : FieldType} {rest : List Value} (hret : meth.sig.returnType = some t) (hlk : meth.locks = false) (ht : t = .boolean ∨ t = .byte ∨ t = .char ∨ t = .short)
    (hd : decode c.code pc = .ok (.ireturn, 1)) (hQ : Q (some (.int (nar t z))) T.heap locs) (hc : cells ≤ rc) (hs : slots ≤ rs) : OwnGo p e below s rc rs Q T (mkF m pc Ls (.int z :: rest)) := by
  obtain ⟨fs, hr, hrun, hended, hW, hsame⟩ := X.leave (v := some (.int (nar t z))) (fun h => by rw [hret] at h; cases h) hlk
  exact ⟨_, _, Jvm.RoadKit.retN X hx hret ht hd hr, hrun, hended, _, _, rfl, hQ, ⟨_, rfl⟩, hW, hsame.mono hc hs⟩
theorem OwnGo.retV (X : Stand p l e R s m args below meth c T locs cells slots) (hx : p.tables.exec = Jvm.exec) {pc : Nat} {Ls : Array Slot} (hret : meth.sig.returnType = none) (hlk : meth.locks = false)
    (hd : decode c.code pc = .ok (.return_, 1)) (hQ : Q none T.heap locs) (hc : cells ≤ rc) (hs : slots ≤ rs) : OwnGo p e below s rc rs Q T (mkF m pc Ls []) := by
  obtain ⟨fs, hr, hrun, hended, hW, hsame⟩ := X.leave (v := none) (fun _ => rfl) hlk
  exact ⟨_, _, X.returnOut hx hret hd hr, hrun, hended, _, _, rfl, hQ, ⟨_, rfl⟩, hW, hsame.mono hc hs⟩
theorem own_met {y : MethodName} {bytes : ByteArray} {maxL : Nat} {ret : Option FieldType} {ws : List Jvm.Cond} {rm : Room} {Z : State} {as' : Array Value} {h0 : Heap} (hp : plainFor y = true)
    (body : ∀ (p : Program) (e : Env) (s : State) (m : MethodId) (below : List Frame) (meth : Method) (c : Code) (s₁ : State), Stand p l e rm s m as' below meth c s₁ [] 0 0 → p.tables.exec = Jvm.exec → c.code = bytes → c.maxLocals = maxL → meth.sig.returnType = ret → meth.locks = false → s.vm.findClass y.cls = some m.cls → meth.name = y.name → Z.Warmed39 s.vm → s₁.heap = h0 →
      OwnGo p e below s rm.cells rm.slots Q s₁ (entryFrame m as' maxL)) :
    MetFree l y (head1 (Jvm.Cond.code y bytes maxL ret :: ws) rm) (fun a U => a = as' ∧ Z.Warmed39 U.vm ∧ U.heap = h0) (fun _ _ _ _ _ => True) (fun _ U o U' => ∃ v L, o = .returned v ∧ Q v U'.heap L ∧ FrameEnd U o U' L rm.cells rm.slots) := by
  refine MetFree.of_bodySF hp hisR ?_
  intro p e s m args below meth c s₁ Bd hml0 hP hK
  obtain ⟨rfl, hZ, hh⟩ := hP
  exact body p e s m below meth c s₁ (Stand.of_body Bd) Bd.exec Bd.bytes hml0 Bd.returns Bd.notSynchronized (findClass_of_methodNamed Bd.named) (name_of_methodNamed Bd.named Bd.method).1 hZ (by rw [← hh, Bd.state]; rfl)
theorem own_len {Z : State} {h : Heap} {a : Addr} {cl : Cell} {ty : FieldType} {z : Int32} (hZ : Z.Warmed39 s.vm) (q : cl.slots.size.toInt32 = z) (A : Arr Z h a cl ty) (X : Stand p l e R s m args below meth c T locs cells slots) (eT : T.heap = h) (hx : p.tables.exec = Jvm.exec) {rest : List Value}
    (hg : g.method = m) (hst : g.stack = .ref a :: rest) (hd : decode c.code g.pc = .ok (.arraylength, 1)) (target : State) (k : Steps p.tables e below (T.setTop { g with pc := g.pc + 1, stack := .int z :: rest }) target) : Steps p.tables e below (T.setTop g) target := by
  refine X.arraylength hx (by rw [eT]; exact A.1) (State.isArrayOf_alike hZ.alike A.2.1) hg hst hd _ ?_
  rw [q]; exact k
theorem own_eqi {args : Array Value} {first U : State} {o : Option Outcome} {idx : List Nat} {a : Term} {k : Int32} (h : (Jvm.Cond.eq a (.int k)).value args first o U idx = some true) : a.eval args first o idx U = some (.int k) := Cond.eq_int (b := .int k) (by simp only [Cond.holds, h]; rfl) rfl
theorem own_eqv {args : Array Value} {first U : State} {o : Option Outcome} {idx : List Nat} {a b : Term} {v : Value} (h : (Jvm.Cond.eq a b).value args first o U idx = some true) (hb : b.eval args first o idx U = some v) (hv : v.isRef = true) : a.eval args first o idx U = some v := by
  obtain ⟨x, y, h1, h2, k1, k2⟩ := cmp_v (Or.inl h)
  cases h2.symm.trans hb
  have hx : x.isRef = true := by cases x <;> cases v <;> simp [Kin, Value.isRef] at k1 k2 hv ⊢
  rw [h1, gotT (eq_R h1 h2 hx hv) h]
theorem own_lenv {Z : State} {args : Array Value} {t : Term} {a : Addr} {cl : Cell} {ty : FieldType} {z : Int32} (ev : t.eval args Z none [] Z = some (.ref a)) (A : Arr Z Z.heap a cl ty) (h : (Jvm.Cond.eq (.length t) (.int z)).value args Z none Z [] = some true) : cl.slots.size < 2 ^ 31 ∧ cl.slots.size.toInt32 = z := by
  have e := own_eqi h
  have hA := A.fin (Vm.Alike.refl _)
  refine ⟨SBG.length_lt ev hA e, ?_⟩
  obtain ⟨a', c', e1, e2, e3⟩ := Term.length_spec e
  cases ev.symm.trans e1
  cases hA.symm.trans e2
  exact (Value.int.inj e3).symm
theorem own_elem {Z : State} {args : Array Value} {t : Term} {a : Addr} {cl : Cell} {ty : FieldType} {k : Int32} {v : Value} (ev : t.eval args Z none [] Z = some (.ref a)) (A : Arr Z Z.heap a cl ty) (h : (Term.elem t (.int k)).eval args Z none [] Z = some v) : cl.slots[k.toNatClampNeg]? = some v := (elem_in h ev rfl A.1).2
theorem own_narR {w : Value} {t : FieldType} (h : w.isRef = true) (ht : t.isReference = true) : narrow t w = w := by
  cases w <;> simp [Value.isRef] at h <;> cases t <;> simp [FieldType.isReference] at ht <;> rfl
theorem own_cat {w : Value} (h : w.isRef = true) : w.category = 1 := by cases w <;> simp [Value.isRef] at h <;> rfl
/-- an array of n places, whatever they hold -/
def OwnArr (Z : State) (h : Heap) (a : Addr) (ty : FieldType) (n : Nat) : Prop := ∃ cl : Cell, Arr Z h a cl ty ∧ cl.slots.size = n
theorem OwnArr.lt {Z : State} {h : Heap} {a : Addr} {ty : FieldType} {n : Nat} (F : OwnArr Z h a ty n) : a < h.size := by obtain ⟨_, A, -⟩ := F; exact A.lt
theorem OwnArr.ext {Z : State} {h h' : Heap} {a : Addr} {ty : FieldType} {n : Nat} (F : OwnArr Z h a ty n) (E : Ext h h') : OwnArr Z h' a ty n := by obtain ⟨c, A, S⟩ := F; exact ⟨c, A.ext E, S⟩
theorem OwnArr.keep {Z : State} {h h' : Heap} {a : Addr} {ty : FieldType} {n : Nat} {ws : List Addr} (F : OwnArr Z h a ty n) (K : Keep h h' ws) : OwnArr Z h' a ty n := by
  obtain ⟨c, ⟨A1, ⟨q1, q2⟩, A3⟩, S⟩ := F
  obtain ⟨c', e1, e2, e3, e4⟩ := K.2.2 _ _ A1
  exact ⟨c', ⟨e1, ⟨by rw [e3]; exact q1, by rw [e2]; exact q2⟩, by rw [e3]; exact A3⟩, e4.trans S⟩
theorem OwnArr.wr {Z : State} {h h' : Heap} {a b : Addr} {ty : FieldType} {n sl : Nat} {v : Value} (F : OwnArr Z h a ty n) (W : Wr h h' b sl v) : OwnArr Z h' a ty n := F.keep (Keep.of_wr W)
theorem OwnArr.of {Z : State} {h : Heap} {a : Addr} {k : ClassId} {ty : FieldType} {z : Int32} {vs : List Value} {d : Value} (F : Arv Z h a k ty z vs d) : OwnArr Z h a ty z.toNatClampNeg := by obtain ⟨c, A, -, S, -⟩ := F; exact ⟨c, A, S⟩
theorem own_nb (x : Int32) : nar .byte x.toInt8.toInt32 = x.toInt8.toInt32 := by
  show (x.toInt8.toInt32).toInt8.toInt32 = _
  rw [Int8.toInt8_toInt32]
end Own
end Jvm.RoadKit
namespace Jvm.Pilot.@@N@@
open Jvm Jvm.ClassFile Sem Op Lib Jvm.Free Jvm.Stand Jvm.LawKit Jvm.RoadKit Bundle Jvm.Pilot.@@N@@.Jvm.D
def own_ush (x : Int64) (k : Int32) : Int64 := ((x.toUInt64 >>> (k &&& 0x3f).toInt64.toUInt64).toInt64)
def own_xs (x : Int64) (k : Int32) : Int64 := (x ^^^ own_ush x k)
def own_un (x : Int64) (j k : Int32) : Int64 := ((x ^^^ own_ush x j) ^^^ own_ush x k)
def own_nw (a x : Int64) : Int64 := (x * ((2 : Int64) - (a * x)))
def own_inv (a : Int64) : Int64 := own_nw a (own_nw a (own_nw a (own_nw a (own_nw a a))))
theorem own_bv (b : BitVec 64) (n : Nat) (h : 64 ≤ 3 * n) : ((b ^^^ b >>> n) ^^^ ((b ^^^ b >>> n) >>> n)) ^^^ ((b ^^^ b >>> n) >>> (2 * n)) = b := by
  apply BitVec.eq_of_getLsbD_eq
  intro i hi
  simp only [BitVec.getLsbD_xor, BitVec.getLsbD_ushiftRight]
  rw [show n + (n + i) = 2 * n + i by omega, show n + (2 * n + i) = 3 * n + i by omega, BitVec.getLsbD_of_ge b (3 * n + i) (by omega)]
  cases b.getLsbD i <;> cases b.getLsbD (n + i) <;> cases b.getLsbD (2 * n + i) <;> rfl
theorem own_ush_bv (x : Int64) (k : Int32) (n : Nat) (hk : ((k &&& 0x3f).toInt64.toUInt64.toBitVec % 64#64).toNat = n) : (own_ush x k).toBitVec = x.toBitVec >>> n := by
  show (x.toUInt64 >>> (k &&& 0x3f).toInt64.toUInt64).toBitVec = _
  rw [UInt64.toBitVec_shiftRight]
  show x.toBitVec >>> (((k &&& 0x3f).toInt64.toUInt64.toBitVec % 64#64)) = _
  rw [BitVec.ushiftRight_eq', hk]
theorem own_undo (x : Int64) (j k : Int32) (n : Nat) (h : 64 ≤ 3 * n) (hj : ((j &&& 0x3f).toInt64.toUInt64.toBitVec % 64#64).toNat = n) (hk : ((k &&& 0x3f).toInt64.toUInt64.toBitVec % 64#64).toNat = 2 * n) : own_un (own_xs x j) j k = x := by
  apply Int64.toBitVec_inj.mp
  show ((own_xs x j).toBitVec ^^^ (own_ush (own_xs x j) j).toBitVec) ^^^ (own_ush (own_xs x j) k).toBitVec = _
  rw [own_ush_bv _ j n hj, own_ush_bv _ k (2 * n) hk]
  have e : (own_xs x j).toBitVec = x.toBitVec ^^^ x.toBitVec >>> n := by
    show x.toBitVec ^^^ (own_ush x j).toBitVec = _
    rw [own_ush_bv _ j n hj]
  rw [e]
  exact own_bv _ n h
theorem own_u31 (x : Int64) : own_un (own_xs x 31) 31 62 = x := own_undo x 31 62 31 (by decide) (by decide) (by decide)
theorem own_u27 (x : Int64) : own_un (own_xs x 27) 27 54 = x := own_undo x 27 54 27 (by decide) (by decide) (by decide)
theorem own_u30 (x : Int64) : own_un (own_xs x 30) 30 60 = x := own_undo x 30 60 30 (by decide) (by decide) (by decide)
theorem own_k2 (x : Int64) : x * (-7723592293110705685 : Int64) * own_inv (-7723592293110705685 : Int64) = x := by
  rw [Int64.mul_assoc, show (-7723592293110705685 : Int64) * own_inv (-7723592293110705685 : Int64) = 1 by decide +kernel, Int64.mul_one]
theorem own_k1 (x : Int64) : x * (-4658895280553007687 : Int64) * own_inv (-4658895280553007687 : Int64) = x := by
  rw [Int64.mul_assoc, show (-4658895280553007687 : Int64) * own_inv (-4658895280553007687 : Int64) = 1 by decide +kernel, Int64.mul_one]
def own_m0 (p q : Int64) : Int64 := ((p * (-7046029254386353131 : Int64)) + q)
def own_m1 (p q : Int64) : Int64 := ((own_xs (own_m0 p q) 30) * (-4658895280553007687 : Int64))
def own_m2 (p q : Int64) : Int64 := ((own_xs (own_m1 p q) 27) * (-7723592293110705685 : Int64))
def own_mix (p q : Int64) : Int64 := own_xs (own_m2 p q) 31
theorem d1_0 : decode prog_8_method_4_code 0 = .ok (.lload_n 0, 1) := by decide +kernel
theorem d1_1 : decode prog_8_method_4_code 1 = .ok (.ldc2_w 40, 3) := by decide +kernel
theorem d1_4 : decode prog_8_method_4_code 4 = .ok (.lmul, 1) := by decide +kernel
theorem d1_5 : decode prog_8_method_4_code 5 = .ok (.lload_n 2, 1) := by decide +kernel
theorem d1_6 : decode prog_8_method_4_code 6 = .ok (.ladd, 1) := by decide +kernel
theorem d1_7 : decode prog_8_method_4_code 7 = .ok (.lstore 4, 2) := by decide +kernel
theorem d1_9 : decode prog_8_method_4_code 9 = .ok (.lload 4, 2) := by decide +kernel
theorem d1_11 : decode prog_8_method_4_code 11 = .ok (.lload 4, 2) := by decide +kernel
theorem d1_13 : decode prog_8_method_4_code 13 = .ok (.bipush 30, 2) := by decide +kernel
theorem d1_15 : decode prog_8_method_4_code 15 = .ok (.lushr, 1) := by decide +kernel
theorem d1_16 : decode prog_8_method_4_code 16 = .ok (.lxor, 1) := by decide +kernel
theorem d1_17 : decode prog_8_method_4_code 17 = .ok (.ldc2_w 42, 3) := by decide +kernel
theorem d1_20 : decode prog_8_method_4_code 20 = .ok (.lmul, 1) := by decide +kernel
theorem d1_21 : decode prog_8_method_4_code 21 = .ok (.lstore 4, 2) := by decide +kernel
theorem d1_23 : decode prog_8_method_4_code 23 = .ok (.lload 4, 2) := by decide +kernel
theorem d1_25 : decode prog_8_method_4_code 25 = .ok (.lload 4, 2) := by decide +kernel
theorem d1_27 : decode prog_8_method_4_code 27 = .ok (.bipush 27, 2) := by decide +kernel
theorem d1_29 : decode prog_8_method_4_code 29 = .ok (.lushr, 1) := by decide +kernel
theorem d1_30 : decode prog_8_method_4_code 30 = .ok (.lxor, 1) := by decide +kernel
theorem d1_31 : decode prog_8_method_4_code 31 = .ok (.ldc2_w 44, 3) := by decide +kernel
theorem d1_34 : decode prog_8_method_4_code 34 = .ok (.lmul, 1) := by decide +kernel
theorem d1_35 : decode prog_8_method_4_code 35 = .ok (.lstore 4, 2) := by decide +kernel
theorem d1_37 : decode prog_8_method_4_code 37 = .ok (.lload 4, 2) := by decide +kernel
theorem d1_39 : decode prog_8_method_4_code 39 = .ok (.lload 4, 2) := by decide +kernel
theorem d1_41 : decode prog_8_method_4_code 41 = .ok (.bipush 31, 2) := by decide +kernel
theorem d1_43 : decode prog_8_method_4_code 43 = .ok (.lushr, 1) := by decide +kernel
theorem d1_44 : decode prog_8_method_4_code 44 = .ok (.lxor, 1) := by decide +kernel
theorem d1_45 : decode prog_8_method_4_code 45 = .ok (.lreturn, 1) := by decide +kernel
theorem d2_0 : decode method_2_code 0 = .ok (.lload_n 0, 1) := by decide +kernel
theorem d2_1 : decode method_2_code 1 = .ok (.lstore_n 2, 1) := by decide +kernel
theorem d2_2 : decode method_2_code 2 = .ok (.lload_n 2, 1) := by decide +kernel
theorem d2_3 : decode method_2_code 3 = .ok (.ldc2_w 7, 3) := by decide +kernel
theorem d2_6 : decode method_2_code 6 = .ok (.lload_n 0, 1) := by decide +kernel
theorem d2_7 : decode method_2_code 7 = .ok (.lload_n 2, 1) := by decide +kernel
theorem d2_8 : decode method_2_code 8 = .ok (.lmul, 1) := by decide +kernel
theorem d2_9 : decode method_2_code 9 = .ok (.lsub, 1) := by decide +kernel
theorem d2_10 : decode method_2_code 10 = .ok (.lmul, 1) := by decide +kernel
theorem d2_11 : decode method_2_code 11 = .ok (.lstore_n 2, 1) := by decide +kernel
theorem d2_12 : decode method_2_code 12 = .ok (.lload_n 2, 1) := by decide +kernel
theorem d2_13 : decode method_2_code 13 = .ok (.ldc2_w 7, 3) := by decide +kernel
theorem d2_16 : decode method_2_code 16 = .ok (.lload_n 0, 1) := by decide +kernel
theorem d2_17 : decode method_2_code 17 = .ok (.lload_n 2, 1) := by decide +kernel
theorem d2_18 : decode method_2_code 18 = .ok (.lmul, 1) := by decide +kernel
theorem d2_19 : decode method_2_code 19 = .ok (.lsub, 1) := by decide +kernel
theorem d2_20 : decode method_2_code 20 = .ok (.lmul, 1) := by decide +kernel
theorem d2_21 : decode method_2_code 21 = .ok (.lstore_n 2, 1) := by decide +kernel
theorem d2_22 : decode method_2_code 22 = .ok (.lload_n 2, 1) := by decide +kernel
theorem d2_23 : decode method_2_code 23 = .ok (.ldc2_w 7, 3) := by decide +kernel
theorem d2_26 : decode method_2_code 26 = .ok (.lload_n 0, 1) := by decide +kernel
theorem d2_27 : decode method_2_code 27 = .ok (.lload_n 2, 1) := by decide +kernel
theorem d2_28 : decode method_2_code 28 = .ok (.lmul, 1) := by decide +kernel
theorem d2_29 : decode method_2_code 29 = .ok (.lsub, 1) := by decide +kernel
theorem d2_30 : decode method_2_code 30 = .ok (.lmul, 1) := by decide +kernel
theorem d2_31 : decode method_2_code 31 = .ok (.lstore_n 2, 1) := by decide +kernel
theorem d2_32 : decode method_2_code 32 = .ok (.lload_n 2, 1) := by decide +kernel
theorem d2_33 : decode method_2_code 33 = .ok (.ldc2_w 7, 3) := by decide +kernel
theorem d2_36 : decode method_2_code 36 = .ok (.lload_n 0, 1) := by decide +kernel
theorem d2_37 : decode method_2_code 37 = .ok (.lload_n 2, 1) := by decide +kernel
theorem d2_38 : decode method_2_code 38 = .ok (.lmul, 1) := by decide +kernel
theorem d2_39 : decode method_2_code 39 = .ok (.lsub, 1) := by decide +kernel
theorem d2_40 : decode method_2_code 40 = .ok (.lmul, 1) := by decide +kernel
theorem d2_41 : decode method_2_code 41 = .ok (.lstore_n 2, 1) := by decide +kernel
theorem d2_42 : decode method_2_code 42 = .ok (.lload_n 2, 1) := by decide +kernel
theorem d2_43 : decode method_2_code 43 = .ok (.ldc2_w 7, 3) := by decide +kernel
theorem d2_46 : decode method_2_code 46 = .ok (.lload_n 0, 1) := by decide +kernel
theorem d2_47 : decode method_2_code 47 = .ok (.lload_n 2, 1) := by decide +kernel
theorem d2_48 : decode method_2_code 48 = .ok (.lmul, 1) := by decide +kernel
theorem d2_49 : decode method_2_code 49 = .ok (.lsub, 1) := by decide +kernel
theorem d2_50 : decode method_2_code 50 = .ok (.lmul, 1) := by decide +kernel
theorem d2_51 : decode method_2_code 51 = .ok (.lstore_n 2, 1) := by decide +kernel
theorem d2_52 : decode method_2_code 52 = .ok (.lload_n 2, 1) := by decide +kernel
theorem d2_53 : decode method_2_code 53 = .ok (.lreturn, 1) := by decide +kernel
theorem pd_0 : parseMethodDescriptor "(JJ)J" = some ⟨[.long, .long], some .long⟩ := by decide +kernel
theorem pd_1 : parseMethodDescriptor "(J)J" = some ⟨[.long], some .long⟩ := by decide +kernel
theorem pn_1 : plainName "com/example/mapweft/mapweft/compare/Hash" = true := by first | (simp [plainName, overriddenIn]; done) | decide +kernel
theorem pn_2 : plainName "com/example/mapweft/mapweft/compare/HashMixPinLaw" = true := by first | (simp [plainName, overriddenIn]; done) | decide +kernel
theorem ef_1 (m : MethodId) (x0 : Int64) (x1 : Int64) : entryFrame m #[(.long x0), (.long x1)] 6 = mkF m 0 #[.val (.long x0), .second, .val (.long x1), .second, .unset, .unset] [] := by first | (simp [entryFrame, mkF, argsToLocals, Value.category]; done) | rfl
theorem ef_2 (m : MethodId) (x0 : Int64) : entryFrame m #[(.long x0)] 4 = mkF m 0 #[.val (.long x0), .second, .unset, .unset] [] := by first | (simp [entryFrame, mkF, argsToLocals, Value.category]; done) | rfl
theorem ef_0 (m : MethodId) (x0 : Int64) (x1 : Int64) : entryFrame m #[(.long x0), (.long x1)] maxLocals = mkF m 0 #[.val (.long x0), .second, .val (.long x1), .second, .unset, .unset, .unset, .unset] [] := by first | (simp [entryFrame, mkF, argsToLocals, Value.category, maxLocals]; done) | rfl
def Q1 (Z : State) (p1 : Int64) (p2 : Int64) (h0 : Heap) (n0 : Nat) (v : Option Value) (h : Heap) (L : List Loc) : Prop := v = some (.long (own_mix p1 p2)) ∧ Fr n0 L ∧ h = h0
set_option maxRecDepth 65536 in
set_option maxHeartbeats 40000000 in
theorem rm1 (l : Launch) (Z : State) (a0 : Array Value) (hw : ∀ d ∈ tables_1, d.before a0 Z = true) (ws : List Jvm.Cond) (p1 : Int64) (p2 : Int64) (h0 : Heap) (n0 : Nat) (Z0 : n0 ≤ h0.size) :
    MetFree l (⟨"com/example/mapweft/mapweft/compare/Hash", "mix", "(JJ)J"⟩ : MethodName) (head1 (Jvm.Cond.code (⟨"com/example/mapweft/mapweft/compare/Hash", "mix", "(JJ)J"⟩ : MethodName) prog_8_method_4_code 6 (some .long) :: ws) ({ frames := 0, cells := 0, slots := 0, locals := 0 } : Room)) (fun a U => a = #[(.long p1), (.long p2)] ∧ Z.Warmed39 U.vm ∧ U.heap = h0) (fun _ _ _ _ _ => True) (fun _ U o U' => ∃ v L, o = .returned v ∧ (Q1 Z p1 p2 h0 n0) v U'.heap L ∧ FrameEnd U o U' L ({ frames := 0, cells := 0, slots := 0, locals := 0 } : Room).cells ({ frames := 0, cells := 0, slots := 0, locals := 0 } : Room).slots) := by
  refine own_met (plainFor_of_name pn_1) ?_
  intro p e s m below meth c s₁ X0 hx hby hml hret hlk hown hnm hZ e0
  have N0 := Fr.nil n0
  have Z_ := Z0
  refine OwnGo.cast (ef_1 m p1 p2) ?_
  show OwnGo p e below s _ _ _ s₁ (mkF m 0 #[.val (.long p1), .second, .val (.long p2), .second, .unset, .unset] [])
  refine OwnGo.st (fun _ k => XS.lloadN X0.here hx rfl (hb hby d1_0) rfl  k) ?_
  show OwnGo p e below s _ _ _ s₁ (mkF m 1 #[.val (.long p1), .second, .val (.long p2), .second, .unset, .unset] [(.long p1)])
  refine OwnGo.st (fun _ k => X0.ldc2Long hx hown (mvT hZ (hw _ (List.mem_of_getElem? (i := 4) rfl))) (g := (mkF m 1 #[.val (.long p1), .second, .val (.long p2), .second, .unset, .unset] [(.long p1)])) rfl (hb hby d1_1) _ k) ?_
  show OwnGo p e below s _ _ _ s₁ (mkF m 4 #[.val (.long p1), .second, .val (.long p2), .second, .unset, .unset] [(.long (-7046029254386353131 : Int64)), (.long p1)])
  refine OwnGo.st (fun _ k => XS.lmul X0.here hx rfl (hb hby d1_4) rfl k) ?_
  show OwnGo p e below s _ _ _ s₁ (mkF m 5 #[.val (.long p1), .second, .val (.long p2), .second, .unset, .unset] [(.long (p1 * (-7046029254386353131 : Int64)))])
  refine OwnGo.st (fun _ k => XS.lloadN X0.here hx rfl (hb hby d1_5) rfl  k) ?_
  show OwnGo p e below s _ _ _ s₁ (mkF m 6 #[.val (.long p1), .second, .val (.long p2), .second, .unset, .unset] [(.long p2), (.long (p1 * (-7046029254386353131 : Int64)))])
  refine OwnGo.st (fun _ k => XS.ladd X0.here hx rfl (hb hby d1_6) rfl k) ?_
  show OwnGo p e below s _ _ _ s₁ (mkF m 7 #[.val (.long p1), .second, .val (.long p2), .second, .unset, .unset] [(.long ((p1 * (-7046029254386353131 : Int64)) + p2))])
  show OwnGo p e below s _ _ _ s₁ (mkF m 7 #[.val (.long p1), .second, .val (.long p2), .second, .unset, .unset] [(.long (own_m0 p1 p2))])
  refine OwnGo.st (fun _ k => XS.lstore X0.here hx rfl (hb hby d1_7) rfl (l' := #[.val (.long p1), .second, .val (.long p2), .second, .val (.long (own_m0 p1 p2)), .second]) rfl k) ?_
  show OwnGo p e below s _ _ _ s₁ (mkF m 9 #[.val (.long p1), .second, .val (.long p2), .second, .val (.long (own_m0 p1 p2)), .second] [])
  refine OwnGo.st (fun _ k => XS.lload X0.here hx rfl (hb hby d1_9) rfl  k) ?_
  show OwnGo p e below s _ _ _ s₁ (mkF m 11 #[.val (.long p1), .second, .val (.long p2), .second, .val (.long (own_m0 p1 p2)), .second] [(.long (own_m0 p1 p2))])
  refine OwnGo.st (fun _ k => XS.lload X0.here hx rfl (hb hby d1_11) rfl  k) ?_
  show OwnGo p e below s _ _ _ s₁ (mkF m 13 #[.val (.long p1), .second, .val (.long p2), .second, .val (.long (own_m0 p1 p2)), .second] [(.long (own_m0 p1 p2)), (.long (own_m0 p1 p2))])
  refine OwnGo.st (fun _ k => XS.bipush X0.here hx rfl (hb hby d1_13) k) ?_
  show OwnGo p e below s _ _ _ s₁ (mkF m 15 #[.val (.long p1), .second, .val (.long p2), .second, .val (.long (own_m0 p1 p2)), .second] [(.int (30 : Int32)), (.long (own_m0 p1 p2)), (.long (own_m0 p1 p2))])
  refine OwnGo.st (fun _ k => XS.lushr X0.here hx rfl (hb hby d1_15) rfl k) ?_
  show OwnGo p e below s _ _ _ s₁ (mkF m 16 #[.val (.long p1), .second, .val (.long p2), .second, .val (.long (own_m0 p1 p2)), .second] [(.long (((own_m0 p1 p2).toUInt64 >>> ((30 : Int32) &&& 0x3f).toInt64.toUInt64).toInt64)), (.long (own_m0 p1 p2))])
  refine OwnGo.st (fun _ k => XS.lxor X0.here hx rfl (hb hby d1_16) rfl k) ?_
  show OwnGo p e below s _ _ _ s₁ (mkF m 17 #[.val (.long p1), .second, .val (.long p2), .second, .val (.long (own_m0 p1 p2)), .second] [(.long ((own_m0 p1 p2) ^^^ (((own_m0 p1 p2).toUInt64 >>> ((30 : Int32) &&& 0x3f).toInt64.toUInt64).toInt64)))])
  show OwnGo p e below s _ _ _ s₁ (mkF m 17 #[.val (.long p1), .second, .val (.long p2), .second, .val (.long (own_m0 p1 p2)), .second] [(.long (own_xs (own_m0 p1 p2) 30))])
  refine OwnGo.st (fun _ k => X0.ldc2Long hx hown (mvT hZ (hw _ (List.mem_of_getElem? (i := 5) rfl))) (g := (mkF m 17 #[.val (.long p1), .second, .val (.long p2), .second, .val (.long (own_m0 p1 p2)), .second] [(.long (own_xs (own_m0 p1 p2) 30))])) rfl (hb hby d1_17) _ k) ?_
  show OwnGo p e below s _ _ _ s₁ (mkF m 20 #[.val (.long p1), .second, .val (.long p2), .second, .val (.long (own_m0 p1 p2)), .second] [(.long (-4658895280553007687 : Int64)), (.long (own_xs (own_m0 p1 p2) 30))])
  refine OwnGo.st (fun _ k => XS.lmul X0.here hx rfl (hb hby d1_20) rfl k) ?_
  show OwnGo p e below s _ _ _ s₁ (mkF m 21 #[.val (.long p1), .second, .val (.long p2), .second, .val (.long (own_m0 p1 p2)), .second] [(.long ((own_xs (own_m0 p1 p2) 30) * (-4658895280553007687 : Int64)))])
  show OwnGo p e below s _ _ _ s₁ (mkF m 21 #[.val (.long p1), .second, .val (.long p2), .second, .val (.long (own_m0 p1 p2)), .second] [(.long (own_m1 p1 p2))])
  refine OwnGo.st (fun _ k => XS.lstore X0.here hx rfl (hb hby d1_21) rfl (l' := #[.val (.long p1), .second, .val (.long p2), .second, .val (.long (own_m1 p1 p2)), .second]) rfl k) ?_
  show OwnGo p e below s _ _ _ s₁ (mkF m 23 #[.val (.long p1), .second, .val (.long p2), .second, .val (.long (own_m1 p1 p2)), .second] [])
  refine OwnGo.st (fun _ k => XS.lload X0.here hx rfl (hb hby d1_23) rfl  k) ?_
  show OwnGo p e below s _ _ _ s₁ (mkF m 25 #[.val (.long p1), .second, .val (.long p2), .second, .val (.long (own_m1 p1 p2)), .second] [(.long (own_m1 p1 p2))])
  refine OwnGo.st (fun _ k => XS.lload X0.here hx rfl (hb hby d1_25) rfl  k) ?_
  show OwnGo p e below s _ _ _ s₁ (mkF m 27 #[.val (.long p1), .second, .val (.long p2), .second, .val (.long (own_m1 p1 p2)), .second] [(.long (own_m1 p1 p2)), (.long (own_m1 p1 p2))])
  refine OwnGo.st (fun _ k => XS.bipush X0.here hx rfl (hb hby d1_27) k) ?_
  show OwnGo p e below s _ _ _ s₁ (mkF m 29 #[.val (.long p1), .second, .val (.long p2), .second, .val (.long (own_m1 p1 p2)), .second] [(.int (27 : Int32)), (.long (own_m1 p1 p2)), (.long (own_m1 p1 p2))])
  refine OwnGo.st (fun _ k => XS.lushr X0.here hx rfl (hb hby d1_29) rfl k) ?_
  show OwnGo p e below s _ _ _ s₁ (mkF m 30 #[.val (.long p1), .second, .val (.long p2), .second, .val (.long (own_m1 p1 p2)), .second] [(.long (((own_m1 p1 p2).toUInt64 >>> ((27 : Int32) &&& 0x3f).toInt64.toUInt64).toInt64)), (.long (own_m1 p1 p2))])
  refine OwnGo.st (fun _ k => XS.lxor X0.here hx rfl (hb hby d1_30) rfl k) ?_
  show OwnGo p e below s _ _ _ s₁ (mkF m 31 #[.val (.long p1), .second, .val (.long p2), .second, .val (.long (own_m1 p1 p2)), .second] [(.long ((own_m1 p1 p2) ^^^ (((own_m1 p1 p2).toUInt64 >>> ((27 : Int32) &&& 0x3f).toInt64.toUInt64).toInt64)))])
  show OwnGo p e below s _ _ _ s₁ (mkF m 31 #[.val (.long p1), .second, .val (.long p2), .second, .val (.long (own_m1 p1 p2)), .second] [(.long (own_xs (own_m1 p1 p2) 27))])
  refine OwnGo.st (fun _ k => X0.ldc2Long hx hown (mvT hZ (hw _ (List.mem_of_getElem? (i := 6) rfl))) (g := (mkF m 31 #[.val (.long p1), .second, .val (.long p2), .second, .val (.long (own_m1 p1 p2)), .second] [(.long (own_xs (own_m1 p1 p2) 27))])) rfl (hb hby d1_31) _ k) ?_
  show OwnGo p e below s _ _ _ s₁ (mkF m 34 #[.val (.long p1), .second, .val (.long p2), .second, .val (.long (own_m1 p1 p2)), .second] [(.long (-7723592293110705685 : Int64)), (.long (own_xs (own_m1 p1 p2) 27))])
  refine OwnGo.st (fun _ k => XS.lmul X0.here hx rfl (hb hby d1_34) rfl k) ?_
  show OwnGo p e below s _ _ _ s₁ (mkF m 35 #[.val (.long p1), .second, .val (.long p2), .second, .val (.long (own_m1 p1 p2)), .second] [(.long ((own_xs (own_m1 p1 p2) 27) * (-7723592293110705685 : Int64)))])
  show OwnGo p e below s _ _ _ s₁ (mkF m 35 #[.val (.long p1), .second, .val (.long p2), .second, .val (.long (own_m1 p1 p2)), .second] [(.long (own_m2 p1 p2))])
  refine OwnGo.st (fun _ k => XS.lstore X0.here hx rfl (hb hby d1_35) rfl (l' := #[.val (.long p1), .second, .val (.long p2), .second, .val (.long (own_m2 p1 p2)), .second]) rfl k) ?_
  show OwnGo p e below s _ _ _ s₁ (mkF m 37 #[.val (.long p1), .second, .val (.long p2), .second, .val (.long (own_m2 p1 p2)), .second] [])
  refine OwnGo.st (fun _ k => XS.lload X0.here hx rfl (hb hby d1_37) rfl  k) ?_
  show OwnGo p e below s _ _ _ s₁ (mkF m 39 #[.val (.long p1), .second, .val (.long p2), .second, .val (.long (own_m2 p1 p2)), .second] [(.long (own_m2 p1 p2))])
  refine OwnGo.st (fun _ k => XS.lload X0.here hx rfl (hb hby d1_39) rfl  k) ?_
  show OwnGo p e below s _ _ _ s₁ (mkF m 41 #[.val (.long p1), .second, .val (.long p2), .second, .val (.long (own_m2 p1 p2)), .second] [(.long (own_m2 p1 p2)), (.long (own_m2 p1 p2))])
  refine OwnGo.st (fun _ k => XS.bipush X0.here hx rfl (hb hby d1_41) k) ?_
  show OwnGo p e below s _ _ _ s₁ (mkF m 43 #[.val (.long p1), .second, .val (.long p2), .second, .val (.long (own_m2 p1 p2)), .second] [(.int (31 : Int32)), (.long (own_m2 p1 p2)), (.long (own_m2 p1 p2))])
  refine OwnGo.st (fun _ k => XS.lushr X0.here hx rfl (hb hby d1_43) rfl k) ?_
  show OwnGo p e below s _ _ _ s₁ (mkF m 44 #[.val (.long p1), .second, .val (.long p2), .second, .val (.long (own_m2 p1 p2)), .second] [(.long (((own_m2 p1 p2).toUInt64 >>> ((31 : Int32) &&& 0x3f).toInt64.toUInt64).toInt64)), (.long (own_m2 p1 p2))])
  refine OwnGo.st (fun _ k => XS.lxor X0.here hx rfl (hb hby d1_44) rfl k) ?_
  show OwnGo p e below s _ _ _ s₁ (mkF m 45 #[.val (.long p1), .second, .val (.long p2), .second, .val (.long (own_m2 p1 p2)), .second] [(.long ((own_m2 p1 p2) ^^^ (((own_m2 p1 p2).toUInt64 >>> ((31 : Int32) &&& 0x3f).toInt64.toUInt64).toInt64)))])
  show OwnGo p e below s _ _ _ s₁ (mkF m 45 #[.val (.long p1), .second, .val (.long p2), .second, .val (.long (own_m2 p1 p2)), .second] [(.long (own_mix p1 p2))])
  exact OwnGo.ret X0 hx hret hlk rfl (Or.inr (Or.inl ⟨rfl, rfl, _, rfl⟩)) (hb hby d1_45) (by show Q1 Z p1 p2 h0 n0 _ s₁.heap _; rw [e0]; exact ⟨rfl, N0, rfl⟩) (by decide) (by decide)
def Q2 (Z : State) (p1 : Int64) (h0 : Heap) (n0 : Nat) (v : Option Value) (h : Heap) (L : List Loc) : Prop := v = some (.long (own_inv p1)) ∧ Fr n0 L ∧ h = h0
set_option maxRecDepth 65536 in
set_option maxHeartbeats 40000000 in
theorem rm2 (l : Launch) (Z : State) (a0 : Array Value) (hw : ∀ d ∈ tables_1, d.before a0 Z = true) (ws : List Jvm.Cond) (p1 : Int64) (h0 : Heap) (n0 : Nat) (Z0 : n0 ≤ h0.size) :
    MetFree l (⟨"com/example/mapweft/mapweft/compare/HashMixPinLaw", "inverse", "(J)J"⟩ : MethodName) (head1 (Jvm.Cond.code (⟨"com/example/mapweft/mapweft/compare/HashMixPinLaw", "inverse", "(J)J"⟩ : MethodName) method_2_code 4 (some .long) :: ws) ({ frames := 0, cells := 0, slots := 0, locals := 0 } : Room)) (fun a U => a = #[(.long p1)] ∧ Z.Warmed39 U.vm ∧ U.heap = h0) (fun _ _ _ _ _ => True) (fun _ U o U' => ∃ v L, o = .returned v ∧ (Q2 Z p1 h0 n0) v U'.heap L ∧ FrameEnd U o U' L ({ frames := 0, cells := 0, slots := 0, locals := 0 } : Room).cells ({ frames := 0, cells := 0, slots := 0, locals := 0 } : Room).slots) := by
  refine own_met (plainFor_of_name pn_2) ?_
  intro p e s m below meth c s₁ X0 hx hby hml hret hlk hown hnm hZ e0
  have N0 := Fr.nil n0
  have Z_ := Z0
  refine OwnGo.cast (ef_2 m p1) ?_
  show OwnGo p e below s _ _ _ s₁ (mkF m 0 #[.val (.long p1), .second, .unset, .unset] [])
  refine OwnGo.st (fun _ k => XS.lloadN X0.here hx rfl (hb hby d2_0) rfl  k) ?_
  show OwnGo p e below s _ _ _ s₁ (mkF m 1 #[.val (.long p1), .second, .unset, .unset] [(.long p1)])
  refine OwnGo.st (fun _ k => XS.lstoreN X0.here hx rfl (hb hby d2_1) rfl (l' := #[.val (.long p1), .second, .val (.long p1), .second]) rfl k) ?_
  show OwnGo p e below s _ _ _ s₁ (mkF m 2 #[.val (.long p1), .second, .val (.long p1), .second] [])
  refine OwnGo.st (fun _ k => XS.lloadN X0.here hx rfl (hb hby d2_2) rfl  k) ?_
  show OwnGo p e below s _ _ _ s₁ (mkF m 3 #[.val (.long p1), .second, .val (.long p1), .second] [(.long p1)])
  refine OwnGo.st (fun _ k => X0.ldc2Long hx hown (mvT hZ (hw _ (List.mem_of_getElem? (i := 12) rfl))) (g := (mkF m 3 #[.val (.long p1), .second, .val (.long p1), .second] [(.long p1)])) rfl (hb hby d2_3) _ k) ?_
  show OwnGo p e below s _ _ _ s₁ (mkF m 6 #[.val (.long p1), .second, .val (.long p1), .second] [(.long (2 : Int64)), (.long p1)])
  refine OwnGo.st (fun _ k => XS.lloadN X0.here hx rfl (hb hby d2_6) rfl  k) ?_
  show OwnGo p e below s _ _ _ s₁ (mkF m 7 #[.val (.long p1), .second, .val (.long p1), .second] [(.long p1), (.long (2 : Int64)), (.long p1)])
  refine OwnGo.st (fun _ k => XS.lloadN X0.here hx rfl (hb hby d2_7) rfl  k) ?_
  show OwnGo p e below s _ _ _ s₁ (mkF m 8 #[.val (.long p1), .second, .val (.long p1), .second] [(.long p1), (.long p1), (.long (2 : Int64)), (.long p1)])
  refine OwnGo.st (fun _ k => XS.lmul X0.here hx rfl (hb hby d2_8) rfl k) ?_
  show OwnGo p e below s _ _ _ s₁ (mkF m 9 #[.val (.long p1), .second, .val (.long p1), .second] [(.long (p1 * p1)), (.long (2 : Int64)), (.long p1)])
  refine OwnGo.st (fun _ k => XS.lsub X0.here hx rfl (hb hby d2_9) rfl k) ?_
  show OwnGo p e below s _ _ _ s₁ (mkF m 10 #[.val (.long p1), .second, .val (.long p1), .second] [(.long ((2 : Int64) - (p1 * p1))), (.long p1)])
  refine OwnGo.st (fun _ k => XS.lmul X0.here hx rfl (hb hby d2_10) rfl k) ?_
  show OwnGo p e below s _ _ _ s₁ (mkF m 11 #[.val (.long p1), .second, .val (.long p1), .second] [(.long (p1 * ((2 : Int64) - (p1 * p1))))])
  show OwnGo p e below s _ _ _ s₁ (mkF m 11 #[.val (.long p1), .second, .val (.long p1), .second] [(.long (own_nw p1 p1))])
  refine OwnGo.st (fun _ k => XS.lstoreN X0.here hx rfl (hb hby d2_11) rfl (l' := #[.val (.long p1), .second, .val (.long (own_nw p1 p1)), .second]) rfl k) ?_
  show OwnGo p e below s _ _ _ s₁ (mkF m 12 #[.val (.long p1), .second, .val (.long (own_nw p1 p1)), .second] [])
  refine OwnGo.st (fun _ k => XS.lloadN X0.here hx rfl (hb hby d2_12) rfl  k) ?_
  show OwnGo p e below s _ _ _ s₁ (mkF m 13 #[.val (.long p1), .second, .val (.long (own_nw p1 p1)), .second] [(.long (own_nw p1 p1))])
  refine OwnGo.st (fun _ k => X0.ldc2Long hx hown (mvT hZ (hw _ (List.mem_of_getElem? (i := 12) rfl))) (g := (mkF m 13 #[.val (.long p1), .second, .val (.long (own_nw p1 p1)), .second] [(.long (own_nw p1 p1))])) rfl (hb hby d2_13) _ k) ?_
  show OwnGo p e below s _ _ _ s₁ (mkF m 16 #[.val (.long p1), .second, .val (.long (own_nw p1 p1)), .second] [(.long (2 : Int64)), (.long (own_nw p1 p1))])
  refine OwnGo.st (fun _ k => XS.lloadN X0.here hx rfl (hb hby d2_16) rfl  k) ?_
  show OwnGo p e below s _ _ _ s₁ (mkF m 17 #[.val (.long p1), .second, .val (.long (own_nw p1 p1)), .second] [(.long p1), (.long (2 : Int64)), (.long (own_nw p1 p1))])
  refine OwnGo.st (fun _ k => XS.lloadN X0.here hx rfl (hb hby d2_17) rfl  k) ?_
  show OwnGo p e below s _ _ _ s₁ (mkF m 18 #[.val (.long p1), .second, .val (.long (own_nw p1 p1)), .second] [(.long (own_nw p1 p1)), (.long p1), (.long (2 : Int64)), (.long (own_nw p1 p1))])
  refine OwnGo.st (fun _ k => XS.lmul X0.here hx rfl (hb hby d2_18) rfl k) ?_
  show OwnGo p e below s _ _ _ s₁ (mkF m 19 #[.val (.long p1), .second, .val (.long (own_nw p1 p1)), .second] [(.long (p1 * (own_nw p1 p1))), (.long (2 : Int64)), (.long (own_nw p1 p1))])
  refine OwnGo.st (fun _ k => XS.lsub X0.here hx rfl (hb hby d2_19) rfl k) ?_
  show OwnGo p e below s _ _ _ s₁ (mkF m 20 #[.val (.long p1), .second, .val (.long (own_nw p1 p1)), .second] [(.long ((2 : Int64) - (p1 * (own_nw p1 p1)))), (.long (own_nw p1 p1))])
  refine OwnGo.st (fun _ k => XS.lmul X0.here hx rfl (hb hby d2_20) rfl k) ?_
  show OwnGo p e below s _ _ _ s₁ (mkF m 21 #[.val (.long p1), .second, .val (.long (own_nw p1 p1)), .second] [(.long ((own_nw p1 p1) * ((2 : Int64) - (p1 * (own_nw p1 p1)))))])
  show OwnGo p e below s _ _ _ s₁ (mkF m 21 #[.val (.long p1), .second, .val (.long (own_nw p1 p1)), .second] [(.long (own_nw p1 (own_nw p1 p1)))])
  refine OwnGo.st (fun _ k => XS.lstoreN X0.here hx rfl (hb hby d2_21) rfl (l' := #[.val (.long p1), .second, .val (.long (own_nw p1 (own_nw p1 p1))), .second]) rfl k) ?_
  show OwnGo p e below s _ _ _ s₁ (mkF m 22 #[.val (.long p1), .second, .val (.long (own_nw p1 (own_nw p1 p1))), .second] [])
  refine OwnGo.st (fun _ k => XS.lloadN X0.here hx rfl (hb hby d2_22) rfl  k) ?_
  show OwnGo p e below s _ _ _ s₁ (mkF m 23 #[.val (.long p1), .second, .val (.long (own_nw p1 (own_nw p1 p1))), .second] [(.long (own_nw p1 (own_nw p1 p1)))])
  refine OwnGo.st (fun _ k => X0.ldc2Long hx hown (mvT hZ (hw _ (List.mem_of_getElem? (i := 12) rfl))) (g := (mkF m 23 #[.val (.long p1), .second, .val (.long (own_nw p1 (own_nw p1 p1))), .second] [(.long (own_nw p1 (own_nw p1 p1)))])) rfl (hb hby d2_23) _ k) ?_
  show OwnGo p e below s _ _ _ s₁ (mkF m 26 #[.val (.long p1), .second, .val (.long (own_nw p1 (own_nw p1 p1))), .second] [(.long (2 : Int64)), (.long (own_nw p1 (own_nw p1 p1)))])
  refine OwnGo.st (fun _ k => XS.lloadN X0.here hx rfl (hb hby d2_26) rfl  k) ?_
  show OwnGo p e below s _ _ _ s₁ (mkF m 27 #[.val (.long p1), .second, .val (.long (own_nw p1 (own_nw p1 p1))), .second] [(.long p1), (.long (2 : Int64)), (.long (own_nw p1 (own_nw p1 p1)))])
  refine OwnGo.st (fun _ k => XS.lloadN X0.here hx rfl (hb hby d2_27) rfl  k) ?_
  show OwnGo p e below s _ _ _ s₁ (mkF m 28 #[.val (.long p1), .second, .val (.long (own_nw p1 (own_nw p1 p1))), .second] [(.long (own_nw p1 (own_nw p1 p1))), (.long p1), (.long (2 : Int64)), (.long (own_nw p1 (own_nw p1 p1)))])
  refine OwnGo.st (fun _ k => XS.lmul X0.here hx rfl (hb hby d2_28) rfl k) ?_
  show OwnGo p e below s _ _ _ s₁ (mkF m 29 #[.val (.long p1), .second, .val (.long (own_nw p1 (own_nw p1 p1))), .second] [(.long (p1 * (own_nw p1 (own_nw p1 p1)))), (.long (2 : Int64)), (.long (own_nw p1 (own_nw p1 p1)))])
  refine OwnGo.st (fun _ k => XS.lsub X0.here hx rfl (hb hby d2_29) rfl k) ?_
  show OwnGo p e below s _ _ _ s₁ (mkF m 30 #[.val (.long p1), .second, .val (.long (own_nw p1 (own_nw p1 p1))), .second] [(.long ((2 : Int64) - (p1 * (own_nw p1 (own_nw p1 p1))))), (.long (own_nw p1 (own_nw p1 p1)))])
  refine OwnGo.st (fun _ k => XS.lmul X0.here hx rfl (hb hby d2_30) rfl k) ?_
  show OwnGo p e below s _ _ _ s₁ (mkF m 31 #[.val (.long p1), .second, .val (.long (own_nw p1 (own_nw p1 p1))), .second] [(.long ((own_nw p1 (own_nw p1 p1)) * ((2 : Int64) - (p1 * (own_nw p1 (own_nw p1 p1))))))])
  show OwnGo p e below s _ _ _ s₁ (mkF m 31 #[.val (.long p1), .second, .val (.long (own_nw p1 (own_nw p1 p1))), .second] [(.long (own_nw p1 (own_nw p1 (own_nw p1 p1))))])
  refine OwnGo.st (fun _ k => XS.lstoreN X0.here hx rfl (hb hby d2_31) rfl (l' := #[.val (.long p1), .second, .val (.long (own_nw p1 (own_nw p1 (own_nw p1 p1)))), .second]) rfl k) ?_
  show OwnGo p e below s _ _ _ s₁ (mkF m 32 #[.val (.long p1), .second, .val (.long (own_nw p1 (own_nw p1 (own_nw p1 p1)))), .second] [])
  refine OwnGo.st (fun _ k => XS.lloadN X0.here hx rfl (hb hby d2_32) rfl  k) ?_
  show OwnGo p e below s _ _ _ s₁ (mkF m 33 #[.val (.long p1), .second, .val (.long (own_nw p1 (own_nw p1 (own_nw p1 p1)))), .second] [(.long (own_nw p1 (own_nw p1 (own_nw p1 p1))))])
  refine OwnGo.st (fun _ k => X0.ldc2Long hx hown (mvT hZ (hw _ (List.mem_of_getElem? (i := 12) rfl))) (g := (mkF m 33 #[.val (.long p1), .second, .val (.long (own_nw p1 (own_nw p1 (own_nw p1 p1)))), .second] [(.long (own_nw p1 (own_nw p1 (own_nw p1 p1))))])) rfl (hb hby d2_33) _ k) ?_
  show OwnGo p e below s _ _ _ s₁ (mkF m 36 #[.val (.long p1), .second, .val (.long (own_nw p1 (own_nw p1 (own_nw p1 p1)))), .second] [(.long (2 : Int64)), (.long (own_nw p1 (own_nw p1 (own_nw p1 p1))))])
  refine OwnGo.st (fun _ k => XS.lloadN X0.here hx rfl (hb hby d2_36) rfl  k) ?_
  show OwnGo p e below s _ _ _ s₁ (mkF m 37 #[.val (.long p1), .second, .val (.long (own_nw p1 (own_nw p1 (own_nw p1 p1)))), .second] [(.long p1), (.long (2 : Int64)), (.long (own_nw p1 (own_nw p1 (own_nw p1 p1))))])
  refine OwnGo.st (fun _ k => XS.lloadN X0.here hx rfl (hb hby d2_37) rfl  k) ?_
  show OwnGo p e below s _ _ _ s₁ (mkF m 38 #[.val (.long p1), .second, .val (.long (own_nw p1 (own_nw p1 (own_nw p1 p1)))), .second] [(.long (own_nw p1 (own_nw p1 (own_nw p1 p1)))), (.long p1), (.long (2 : Int64)), (.long (own_nw p1 (own_nw p1 (own_nw p1 p1))))])
  refine OwnGo.st (fun _ k => XS.lmul X0.here hx rfl (hb hby d2_38) rfl k) ?_
  show OwnGo p e below s _ _ _ s₁ (mkF m 39 #[.val (.long p1), .second, .val (.long (own_nw p1 (own_nw p1 (own_nw p1 p1)))), .second] [(.long (p1 * (own_nw p1 (own_nw p1 (own_nw p1 p1))))), (.long (2 : Int64)), (.long (own_nw p1 (own_nw p1 (own_nw p1 p1))))])
  refine OwnGo.st (fun _ k => XS.lsub X0.here hx rfl (hb hby d2_39) rfl k) ?_
  show OwnGo p e below s _ _ _ s₁ (mkF m 40 #[.val (.long p1), .second, .val (.long (own_nw p1 (own_nw p1 (own_nw p1 p1)))), .second] [(.long ((2 : Int64) - (p1 * (own_nw p1 (own_nw p1 (own_nw p1 p1)))))), (.long (own_nw p1 (own_nw p1 (own_nw p1 p1))))])
  refine OwnGo.st (fun _ k => XS.lmul X0.here hx rfl (hb hby d2_40) rfl k) ?_
  show OwnGo p e below s _ _ _ s₁ (mkF m 41 #[.val (.long p1), .second, .val (.long (own_nw p1 (own_nw p1 (own_nw p1 p1)))), .second] [(.long ((own_nw p1 (own_nw p1 (own_nw p1 p1))) * ((2 : Int64) - (p1 * (own_nw p1 (own_nw p1 (own_nw p1 p1)))))))])
  show OwnGo p e below s _ _ _ s₁ (mkF m 41 #[.val (.long p1), .second, .val (.long (own_nw p1 (own_nw p1 (own_nw p1 p1)))), .second] [(.long (own_nw p1 (own_nw p1 (own_nw p1 (own_nw p1 p1)))))])
  refine OwnGo.st (fun _ k => XS.lstoreN X0.here hx rfl (hb hby d2_41) rfl (l' := #[.val (.long p1), .second, .val (.long (own_nw p1 (own_nw p1 (own_nw p1 (own_nw p1 p1))))), .second]) rfl k) ?_
  show OwnGo p e below s _ _ _ s₁ (mkF m 42 #[.val (.long p1), .second, .val (.long (own_nw p1 (own_nw p1 (own_nw p1 (own_nw p1 p1))))), .second] [])
  refine OwnGo.st (fun _ k => XS.lloadN X0.here hx rfl (hb hby d2_42) rfl  k) ?_
  show OwnGo p e below s _ _ _ s₁ (mkF m 43 #[.val (.long p1), .second, .val (.long (own_nw p1 (own_nw p1 (own_nw p1 (own_nw p1 p1))))), .second] [(.long (own_nw p1 (own_nw p1 (own_nw p1 (own_nw p1 p1)))))])
  refine OwnGo.st (fun _ k => X0.ldc2Long hx hown (mvT hZ (hw _ (List.mem_of_getElem? (i := 12) rfl))) (g := (mkF m 43 #[.val (.long p1), .second, .val (.long (own_nw p1 (own_nw p1 (own_nw p1 (own_nw p1 p1))))), .second] [(.long (own_nw p1 (own_nw p1 (own_nw p1 (own_nw p1 p1)))))])) rfl (hb hby d2_43) _ k) ?_
  show OwnGo p e below s _ _ _ s₁ (mkF m 46 #[.val (.long p1), .second, .val (.long (own_nw p1 (own_nw p1 (own_nw p1 (own_nw p1 p1))))), .second] [(.long (2 : Int64)), (.long (own_nw p1 (own_nw p1 (own_nw p1 (own_nw p1 p1)))))])
  refine OwnGo.st (fun _ k => XS.lloadN X0.here hx rfl (hb hby d2_46) rfl  k) ?_
  show OwnGo p e below s _ _ _ s₁ (mkF m 47 #[.val (.long p1), .second, .val (.long (own_nw p1 (own_nw p1 (own_nw p1 (own_nw p1 p1))))), .second] [(.long p1), (.long (2 : Int64)), (.long (own_nw p1 (own_nw p1 (own_nw p1 (own_nw p1 p1)))))])
  refine OwnGo.st (fun _ k => XS.lloadN X0.here hx rfl (hb hby d2_47) rfl  k) ?_
  show OwnGo p e below s _ _ _ s₁ (mkF m 48 #[.val (.long p1), .second, .val (.long (own_nw p1 (own_nw p1 (own_nw p1 (own_nw p1 p1))))), .second] [(.long (own_nw p1 (own_nw p1 (own_nw p1 (own_nw p1 p1))))), (.long p1), (.long (2 : Int64)), (.long (own_nw p1 (own_nw p1 (own_nw p1 (own_nw p1 p1)))))])
  refine OwnGo.st (fun _ k => XS.lmul X0.here hx rfl (hb hby d2_48) rfl k) ?_
  show OwnGo p e below s _ _ _ s₁ (mkF m 49 #[.val (.long p1), .second, .val (.long (own_nw p1 (own_nw p1 (own_nw p1 (own_nw p1 p1))))), .second] [(.long (p1 * (own_nw p1 (own_nw p1 (own_nw p1 (own_nw p1 p1)))))), (.long (2 : Int64)), (.long (own_nw p1 (own_nw p1 (own_nw p1 (own_nw p1 p1)))))])
  refine OwnGo.st (fun _ k => XS.lsub X0.here hx rfl (hb hby d2_49) rfl k) ?_
  show OwnGo p e below s _ _ _ s₁ (mkF m 50 #[.val (.long p1), .second, .val (.long (own_nw p1 (own_nw p1 (own_nw p1 (own_nw p1 p1))))), .second] [(.long ((2 : Int64) - (p1 * (own_nw p1 (own_nw p1 (own_nw p1 (own_nw p1 p1))))))), (.long (own_nw p1 (own_nw p1 (own_nw p1 (own_nw p1 p1)))))])
  refine OwnGo.st (fun _ k => XS.lmul X0.here hx rfl (hb hby d2_50) rfl k) ?_
  show OwnGo p e below s _ _ _ s₁ (mkF m 51 #[.val (.long p1), .second, .val (.long (own_nw p1 (own_nw p1 (own_nw p1 (own_nw p1 p1))))), .second] [(.long ((own_nw p1 (own_nw p1 (own_nw p1 (own_nw p1 p1)))) * ((2 : Int64) - (p1 * (own_nw p1 (own_nw p1 (own_nw p1 (own_nw p1 p1))))))))])
  show OwnGo p e below s _ _ _ s₁ (mkF m 51 #[.val (.long p1), .second, .val (.long (own_nw p1 (own_nw p1 (own_nw p1 (own_nw p1 p1))))), .second] [(.long (own_nw p1 (own_nw p1 (own_nw p1 (own_nw p1 (own_nw p1 p1))))))])
  refine OwnGo.st (fun _ k => XS.lstoreN X0.here hx rfl (hb hby d2_51) rfl (l' := #[.val (.long p1), .second, .val (.long (own_nw p1 (own_nw p1 (own_nw p1 (own_nw p1 (own_nw p1 p1)))))), .second]) rfl k) ?_
  show OwnGo p e below s _ _ _ s₁ (mkF m 52 #[.val (.long p1), .second, .val (.long (own_nw p1 (own_nw p1 (own_nw p1 (own_nw p1 (own_nw p1 p1)))))), .second] [])
  refine OwnGo.st (fun _ k => XS.lloadN X0.here hx rfl (hb hby d2_52) rfl  k) ?_
  show OwnGo p e below s _ _ _ s₁ (mkF m 53 #[.val (.long p1), .second, .val (.long (own_nw p1 (own_nw p1 (own_nw p1 (own_nw p1 (own_nw p1 p1)))))), .second] [(.long (own_nw p1 (own_nw p1 (own_nw p1 (own_nw p1 (own_nw p1 p1))))))])
  show OwnGo p e below s _ _ _ s₁ (mkF m 53 #[.val (.long p1), .second, .val (.long (own_nw p1 (own_nw p1 (own_nw p1 (own_nw p1 (own_nw p1 p1)))))), .second] [(.long (own_inv p1))])
  exact OwnGo.ret X0 hx hret hlk rfl (Or.inr (Or.inl ⟨rfl, rfl, _, rfl⟩)) (hb hby d2_53) (by show Q2 Z p1 h0 n0 _ s₁.heap _; rw [e0]; exact ⟨rfl, N0, rfl⟩) (by decide) (by decide)
def Q0 (Z : State) (p1 : Int64) (p2 : Int64) (h0 : Heap) (n0 : Nat) (v : Option Value) (h : Heap) (L : List Loc) : Prop := v = some (.int (1 : Int32)) ∧ Fr n0 L
set_option maxRecDepth 65536 in
set_option maxHeartbeats 40000000 in
theorem rm0 (l : Launch) (Z : State) (a0 : Array Value) (hw : ∀ d ∈ tables_1, d.before a0 Z = true) (ws : List Jvm.Cond) (p1 : Int64) (p2 : Int64) (h0 : Heap) (n0 : Nat) (Z0 : n0 ≤ h0.size) :
    MetFree l x (head1 (Jvm.Cond.code x code maxLocals ret :: ws) room_1) (fun a U => a = #[(.long p1), (.long p2)] ∧ Z.Warmed39 U.vm ∧ U.heap = h0) (fun _ _ _ _ _ => True) (fun _ U o U' => ∃ v L, o = .returned v ∧ (Q0 Z p1 p2 h0 n0) v U'.heap L ∧ FrameEnd U o U' L room_1.cells room_1.slots) := by
  refine own_met (plainFor_of_name pn_2) ?_
  intro p e s m below meth c s₁ X0 hx hby hml hret hlk hown hnm hZ e0
  have N0 := Fr.nil n0
  have Z_ := Z0
  refine OwnGo.cast (ef_0 m p1 p2) ?_
  have hml : c.maxLocals = 8 := hml
  show OwnGo p e below s _ _ _ s₁ (mkF m 0 #[.val (.long p1), .second, .val (.long p2), .second, .unset, .unset, .unset, .unset] [])
  refine OwnGo.st (fun _ k => XS.lloadN X0.here hx rfl (hb hby at_0) rfl  k) ?_
  show OwnGo p e below s _ _ _ s₁ (mkF m 1 #[.val (.long p1), .second, .val (.long p2), .second, .unset, .unset, .unset, .unset] [(.long p1)])
  refine OwnGo.st (fun _ k => XS.lloadN X0.here hx rfl (hb hby at_1) rfl  k) ?_
  show OwnGo p e below s _ _ _ s₁ (mkF m 2 #[.val (.long p1), .second, .val (.long p2), .second, .unset, .unset, .unset, .unset] [(.long p2), (.long p1)])
  obtain ⟨_, _, ⟨T1, L1, k1, n1⟩, -, X1, ⟨Lc1, hQ1, l1, y1, z1⟩, st1⟩ := Jvm.LawKit.callS X0 hx (y := (⟨"com/example/mapweft/mapweft/compare/Hash", "mix", "(JJ)J"⟩ : MethodName)) hown (mvT hZ (hw _ (List.mem_of_getElem? (i := 0) rfl))) (mvT hZ (hw _ (List.mem_of_getElem? (i := 1) rfl))) (mvT hZ (hw _ (List.mem_of_getElem? (i := 2) rfl))) (mvT hZ (hw _ (List.mem_of_getElem? (i := 3) rfl))) (by decide) (backOf (W := 0) (rm1 l Z a0 hw [] p1 p2 h0 n0 Z_ ) hZ (hw _ (List.mem_of_getElem? (i := 3) rfl)) (hw _ (List.mem_of_getElem? (i := 2) rfl)) (by decide) (by decide)) (g := (mkF m 2 #[.val (.long p1), .second, .val (.long p2), .second, .unset, .unset, .unset, .unset] [(.long p2), (.long p1)])) rfl (by rw [hml]; rfl) (argsL := [(.long p1), (.long p2)]) (rest := []) (lenOf pd_0 rfl) rfl (by show 2 * 0 + _ ≤ _; exact Nat.le_of_eq rfl) (hb hby at_2) (fun _ _ => ⟨rfl, e0, (by decide : 0 + 0 ≤ _), (by decide : 0 + 0 ≤ _)⟩)
  dsimp only [Pt.U, Pt.locs, Pt.cells, Pt.slots] at X1 l1 y1 z1 st1 hQ1
  subst l1 y1 z1
  obtain ⟨rfl, N1q, e1⟩ := hQ1
  have N1 := Fr.app N0 N1q
  refine OwnGo.st st1 ?_
  show OwnGo p e below s _ _ _ T1 (mkF m 5 #[.val (.long p1), .second, .val (.long p2), .second, .unset, .unset, .unset, .unset] [(.long (own_mix p1 p2))])
  refine OwnGo.st (fun _ k => XS.lstore X1.here hx rfl (hb hby at_5) rfl (l' := #[.val (.long p1), .second, .val (.long p2), .second, .val (.long (own_mix p1 p2)), .second, .unset, .unset]) rfl k) ?_
  show OwnGo p e below s _ _ _ T1 (mkF m 7 #[.val (.long p1), .second, .val (.long p2), .second, .val (.long (own_mix p1 p2)), .second, .unset, .unset] [])
  refine OwnGo.st (fun _ k => XS.lload X1.here hx rfl (hb hby at_7) rfl  k) ?_
  show OwnGo p e below s _ _ _ T1 (mkF m 9 #[.val (.long p1), .second, .val (.long p2), .second, .val (.long (own_mix p1 p2)), .second, .unset, .unset] [(.long (own_mix p1 p2))])
  refine OwnGo.st (fun _ k => XS.lload X1.here hx rfl (hb hby at_9) rfl  k) ?_
  show OwnGo p e below s _ _ _ T1 (mkF m 11 #[.val (.long p1), .second, .val (.long p2), .second, .val (.long (own_mix p1 p2)), .second, .unset, .unset] [(.long (own_mix p1 p2)), (.long (own_mix p1 p2))])
  refine OwnGo.st (fun _ k => XS.bipush X1.here hx rfl (hb hby at_11) k) ?_
  show OwnGo p e below s _ _ _ T1 (mkF m 13 #[.val (.long p1), .second, .val (.long p2), .second, .val (.long (own_mix p1 p2)), .second, .unset, .unset] [(.int (31 : Int32)), (.long (own_mix p1 p2)), (.long (own_mix p1 p2))])
  refine OwnGo.st (fun _ k => XS.lushr X1.here hx rfl (hb hby at_13) rfl k) ?_
  show OwnGo p e below s _ _ _ T1 (mkF m 14 #[.val (.long p1), .second, .val (.long p2), .second, .val (.long (own_mix p1 p2)), .second, .unset, .unset] [(.long (((own_mix p1 p2).toUInt64 >>> ((31 : Int32) &&& 0x3f).toInt64.toUInt64).toInt64)), (.long (own_mix p1 p2))])
  refine OwnGo.st (fun _ k => XS.lxor X1.here hx rfl (hb hby at_14) rfl k) ?_
  show OwnGo p e below s _ _ _ T1 (mkF m 15 #[.val (.long p1), .second, .val (.long p2), .second, .val (.long (own_mix p1 p2)), .second, .unset, .unset] [(.long ((own_mix p1 p2) ^^^ (((own_mix p1 p2).toUInt64 >>> ((31 : Int32) &&& 0x3f).toInt64.toUInt64).toInt64)))])
  refine OwnGo.st (fun _ k => XS.lload X1.here hx rfl (hb hby at_15) rfl  k) ?_
  show OwnGo p e below s _ _ _ T1 (mkF m 17 #[.val (.long p1), .second, .val (.long p2), .second, .val (.long (own_mix p1 p2)), .second, .unset, .unset] [(.long (own_mix p1 p2)), (.long ((own_mix p1 p2) ^^^ (((own_mix p1 p2).toUInt64 >>> ((31 : Int32) &&& 0x3f).toInt64.toUInt64).toInt64)))])
  refine OwnGo.st (fun _ k => XS.bipush X1.here hx rfl (hb hby at_17) k) ?_
  show OwnGo p e below s _ _ _ T1 (mkF m 19 #[.val (.long p1), .second, .val (.long p2), .second, .val (.long (own_mix p1 p2)), .second, .unset, .unset] [(.int (62 : Int32)), (.long (own_mix p1 p2)), (.long ((own_mix p1 p2) ^^^ (((own_mix p1 p2).toUInt64 >>> ((31 : Int32) &&& 0x3f).toInt64.toUInt64).toInt64)))])
  refine OwnGo.st (fun _ k => XS.lushr X1.here hx rfl (hb hby at_19) rfl k) ?_
  show OwnGo p e below s _ _ _ T1 (mkF m 20 #[.val (.long p1), .second, .val (.long p2), .second, .val (.long (own_mix p1 p2)), .second, .unset, .unset] [(.long (((own_mix p1 p2).toUInt64 >>> ((62 : Int32) &&& 0x3f).toInt64.toUInt64).toInt64)), (.long ((own_mix p1 p2) ^^^ (((own_mix p1 p2).toUInt64 >>> ((31 : Int32) &&& 0x3f).toInt64.toUInt64).toInt64)))])
  refine OwnGo.st (fun _ k => XS.lxor X1.here hx rfl (hb hby at_20) rfl k) ?_
  show OwnGo p e below s _ _ _ T1 (mkF m 21 #[.val (.long p1), .second, .val (.long p2), .second, .val (.long (own_mix p1 p2)), .second, .unset, .unset] [(.long (((own_mix p1 p2) ^^^ (((own_mix p1 p2).toUInt64 >>> ((31 : Int32) &&& 0x3f).toInt64.toUInt64).toInt64)) ^^^ (((own_mix p1 p2).toUInt64 >>> ((62 : Int32) &&& 0x3f).toInt64.toUInt64).toInt64)))])
  show OwnGo p e below s _ _ _ T1 (mkF m 21 #[.val (.long p1), .second, .val (.long p2), .second, .val (.long (own_mix p1 p2)), .second, .unset, .unset] [(.long (own_un (own_mix p1 p2) 31 62))])
  rw [show own_un (own_mix p1 p2) 31 62 = own_m2 p1 p2 from own_u31 _]
  show OwnGo p e below s _ _ _ T1 (mkF m 21 #[.val (.long p1), .second, .val (.long p2), .second, .val (.long (own_mix p1 p2)), .second, .unset, .unset] [(.long (own_m2 p1 p2))])
  refine OwnGo.st (fun _ k => XS.lstore X1.here hx rfl (hb hby at_21) rfl (l' := #[.val (.long p1), .second, .val (.long p2), .second, .val (.long (own_mix p1 p2)), .second, .val (.long (own_m2 p1 p2)), .second]) rfl k) ?_
  show OwnGo p e below s _ _ _ T1 (mkF m 23 #[.val (.long p1), .second, .val (.long p2), .second, .val (.long (own_mix p1 p2)), .second, .val (.long (own_m2 p1 p2)), .second] [])
  refine OwnGo.st (fun _ k => XS.lload X1.here hx rfl (hb hby at_23) rfl  k) ?_
  show OwnGo p e below s _ _ _ T1 (mkF m 25 #[.val (.long p1), .second, .val (.long p2), .second, .val (.long (own_mix p1 p2)), .second, .val (.long (own_m2 p1 p2)), .second] [(.long (own_m2 p1 p2))])
  refine OwnGo.st (fun _ k => X1.ldc2Long hx hown (mvT hZ (hw _ (List.mem_of_getElem? (i := 7) rfl))) (g := (mkF m 25 #[.val (.long p1), .second, .val (.long p2), .second, .val (.long (own_mix p1 p2)), .second, .val (.long (own_m2 p1 p2)), .second] [(.long (own_m2 p1 p2))])) rfl (hb hby at_25) _ k) ?_
  show OwnGo p e below s _ _ _ T1 (mkF m 28 #[.val (.long p1), .second, .val (.long p2), .second, .val (.long (own_mix p1 p2)), .second, .val (.long (own_m2 p1 p2)), .second] [(.long (-7723592293110705685 : Int64)), (.long (own_m2 p1 p2))])
  obtain ⟨_, _, ⟨T2, L2, k2, n2⟩, -, X2, ⟨Lc2, hQ2, l2, y2, z2⟩, st2⟩ := Jvm.LawKit.callS X1 hx (y := (⟨"com/example/mapweft/mapweft/compare/HashMixPinLaw", "inverse", "(J)J"⟩ : MethodName)) hown (mvT hZ (hw _ (List.mem_of_getElem? (i := 8) rfl))) (mvT hZ (hw _ (List.mem_of_getElem? (i := 9) rfl))) (mvT hZ (hw _ (List.mem_of_getElem? (i := 10) rfl))) (mvT hZ (hw _ (List.mem_of_getElem? (i := 11) rfl))) (by decide) (backOf (W := 2) (rm2 l Z a0 hw [] (-7723592293110705685 : Int64) h0 n0 Z_ ) hZ (hw _ (List.mem_of_getElem? (i := 11) rfl)) (hw _ (List.mem_of_getElem? (i := 10) rfl)) (by decide) (by decide)) (g := (mkF m 28 #[.val (.long p1), .second, .val (.long p2), .second, .val (.long (own_mix p1 p2)), .second, .val (.long (own_m2 p1 p2)), .second] [(.long (-7723592293110705685 : Int64)), (.long (own_m2 p1 p2))])) rfl (by rw [hml]; rfl) (argsL := [(.long (-7723592293110705685 : Int64))]) (rest := [(.long (own_m2 p1 p2))]) (lenOf pd_1 rfl) rfl (by show 2 * 0 + _ ≤ _; exact Nat.le_of_eq rfl) (hb hby at_28) (fun _ _ => ⟨rfl, e1, (by decide : 0 + 0 ≤ _), (by decide : 0 + 0 ≤ _)⟩)
  dsimp only [Pt.U, Pt.locs, Pt.cells, Pt.slots] at X2 l2 y2 z2 st2 hQ2
  subst l2 y2 z2
  obtain ⟨rfl, N2q, e2⟩ := hQ2
  have N2 := Fr.app N1 N2q
  refine OwnGo.st st2 ?_
  show OwnGo p e below s _ _ _ T2 (mkF m 31 #[.val (.long p1), .second, .val (.long p2), .second, .val (.long (own_mix p1 p2)), .second, .val (.long (own_m2 p1 p2)), .second] [(.long (own_inv (-7723592293110705685 : Int64))), (.long (own_m2 p1 p2))])
  refine OwnGo.st (fun _ k => XS.lmul X2.here hx rfl (hb hby at_31) rfl k) ?_
  show OwnGo p e below s _ _ _ T2 (mkF m 32 #[.val (.long p1), .second, .val (.long p2), .second, .val (.long (own_mix p1 p2)), .second, .val (.long (own_m2 p1 p2)), .second] [(.long ((own_m2 p1 p2) * (own_inv (-7723592293110705685 : Int64))))])
  rw [show (own_m2 p1 p2 * own_inv (-7723592293110705685 : Int64)) = own_xs (own_m1 p1 p2) 27 from own_k2 _]
  show OwnGo p e below s _ _ _ T2 (mkF m 32 #[.val (.long p1), .second, .val (.long p2), .second, .val (.long (own_mix p1 p2)), .second, .val (.long (own_m2 p1 p2)), .second] [(.long (own_xs (own_m1 p1 p2) 27))])
  refine OwnGo.st (fun _ k => XS.lstore X2.here hx rfl (hb hby at_32) rfl (l' := #[.val (.long p1), .second, .val (.long p2), .second, .val (.long (own_mix p1 p2)), .second, .val (.long (own_xs (own_m1 p1 p2) 27)), .second]) rfl k) ?_
  show OwnGo p e below s _ _ _ T2 (mkF m 34 #[.val (.long p1), .second, .val (.long p2), .second, .val (.long (own_mix p1 p2)), .second, .val (.long (own_xs (own_m1 p1 p2) 27)), .second] [])
  refine OwnGo.st (fun _ k => XS.lload X2.here hx rfl (hb hby at_34) rfl  k) ?_
  show OwnGo p e below s _ _ _ T2 (mkF m 36 #[.val (.long p1), .second, .val (.long p2), .second, .val (.long (own_mix p1 p2)), .second, .val (.long (own_xs (own_m1 p1 p2) 27)), .second] [(.long (own_xs (own_m1 p1 p2) 27))])
  refine OwnGo.st (fun _ k => XS.lload X2.here hx rfl (hb hby at_36) rfl  k) ?_
  show OwnGo p e below s _ _ _ T2 (mkF m 38 #[.val (.long p1), .second, .val (.long p2), .second, .val (.long (own_mix p1 p2)), .second, .val (.long (own_xs (own_m1 p1 p2) 27)), .second] [(.long (own_xs (own_m1 p1 p2) 27)), (.long (own_xs (own_m1 p1 p2) 27))])
  refine OwnGo.st (fun _ k => XS.bipush X2.here hx rfl (hb hby at_38) k) ?_
  show OwnGo p e below s _ _ _ T2 (mkF m 40 #[.val (.long p1), .second, .val (.long p2), .second, .val (.long (own_mix p1 p2)), .second, .val (.long (own_xs (own_m1 p1 p2) 27)), .second] [(.int (27 : Int32)), (.long (own_xs (own_m1 p1 p2) 27)), (.long (own_xs (own_m1 p1 p2) 27))])
  refine OwnGo.st (fun _ k => XS.lushr X2.here hx rfl (hb hby at_40) rfl k) ?_
  show OwnGo p e below s _ _ _ T2 (mkF m 41 #[.val (.long p1), .second, .val (.long p2), .second, .val (.long (own_mix p1 p2)), .second, .val (.long (own_xs (own_m1 p1 p2) 27)), .second] [(.long (((own_xs (own_m1 p1 p2) 27).toUInt64 >>> ((27 : Int32) &&& 0x3f).toInt64.toUInt64).toInt64)), (.long (own_xs (own_m1 p1 p2) 27))])
  refine OwnGo.st (fun _ k => XS.lxor X2.here hx rfl (hb hby at_41) rfl k) ?_
  show OwnGo p e below s _ _ _ T2 (mkF m 42 #[.val (.long p1), .second, .val (.long p2), .second, .val (.long (own_mix p1 p2)), .second, .val (.long (own_xs (own_m1 p1 p2) 27)), .second] [(.long ((own_xs (own_m1 p1 p2) 27) ^^^ (((own_xs (own_m1 p1 p2) 27).toUInt64 >>> ((27 : Int32) &&& 0x3f).toInt64.toUInt64).toInt64)))])
  refine OwnGo.st (fun _ k => XS.lload X2.here hx rfl (hb hby at_42) rfl  k) ?_
  show OwnGo p e below s _ _ _ T2 (mkF m 44 #[.val (.long p1), .second, .val (.long p2), .second, .val (.long (own_mix p1 p2)), .second, .val (.long (own_xs (own_m1 p1 p2) 27)), .second] [(.long (own_xs (own_m1 p1 p2) 27)), (.long ((own_xs (own_m1 p1 p2) 27) ^^^ (((own_xs (own_m1 p1 p2) 27).toUInt64 >>> ((27 : Int32) &&& 0x3f).toInt64.toUInt64).toInt64)))])
  refine OwnGo.st (fun _ k => XS.bipush X2.here hx rfl (hb hby at_44) k) ?_
  show OwnGo p e below s _ _ _ T2 (mkF m 46 #[.val (.long p1), .second, .val (.long p2), .second, .val (.long (own_mix p1 p2)), .second, .val (.long (own_xs (own_m1 p1 p2) 27)), .second] [(.int (54 : Int32)), (.long (own_xs (own_m1 p1 p2) 27)), (.long ((own_xs (own_m1 p1 p2) 27) ^^^ (((own_xs (own_m1 p1 p2) 27).toUInt64 >>> ((27 : Int32) &&& 0x3f).toInt64.toUInt64).toInt64)))])
  refine OwnGo.st (fun _ k => XS.lushr X2.here hx rfl (hb hby at_46) rfl k) ?_
  show OwnGo p e below s _ _ _ T2 (mkF m 47 #[.val (.long p1), .second, .val (.long p2), .second, .val (.long (own_mix p1 p2)), .second, .val (.long (own_xs (own_m1 p1 p2) 27)), .second] [(.long (((own_xs (own_m1 p1 p2) 27).toUInt64 >>> ((54 : Int32) &&& 0x3f).toInt64.toUInt64).toInt64)), (.long ((own_xs (own_m1 p1 p2) 27) ^^^ (((own_xs (own_m1 p1 p2) 27).toUInt64 >>> ((27 : Int32) &&& 0x3f).toInt64.toUInt64).toInt64)))])
  refine OwnGo.st (fun _ k => XS.lxor X2.here hx rfl (hb hby at_47) rfl k) ?_
  show OwnGo p e below s _ _ _ T2 (mkF m 48 #[.val (.long p1), .second, .val (.long p2), .second, .val (.long (own_mix p1 p2)), .second, .val (.long (own_xs (own_m1 p1 p2) 27)), .second] [(.long (((own_xs (own_m1 p1 p2) 27) ^^^ (((own_xs (own_m1 p1 p2) 27).toUInt64 >>> ((27 : Int32) &&& 0x3f).toInt64.toUInt64).toInt64)) ^^^ (((own_xs (own_m1 p1 p2) 27).toUInt64 >>> ((54 : Int32) &&& 0x3f).toInt64.toUInt64).toInt64)))])
  show OwnGo p e below s _ _ _ T2 (mkF m 48 #[.val (.long p1), .second, .val (.long p2), .second, .val (.long (own_mix p1 p2)), .second, .val (.long (own_xs (own_m1 p1 p2) 27)), .second] [(.long (own_un (own_xs (own_m1 p1 p2) 27) 27 54))])
  rw [own_u27]
  show OwnGo p e below s _ _ _ T2 (mkF m 48 #[.val (.long p1), .second, .val (.long p2), .second, .val (.long (own_mix p1 p2)), .second, .val (.long (own_xs (own_m1 p1 p2) 27)), .second] [(.long (own_m1 p1 p2))])
  refine OwnGo.st (fun _ k => XS.lstore X2.here hx rfl (hb hby at_48) rfl (l' := #[.val (.long p1), .second, .val (.long p2), .second, .val (.long (own_mix p1 p2)), .second, .val (.long (own_m1 p1 p2)), .second]) rfl k) ?_
  show OwnGo p e below s _ _ _ T2 (mkF m 50 #[.val (.long p1), .second, .val (.long p2), .second, .val (.long (own_mix p1 p2)), .second, .val (.long (own_m1 p1 p2)), .second] [])
  refine OwnGo.st (fun _ k => XS.lload X2.here hx rfl (hb hby at_50) rfl  k) ?_
  show OwnGo p e below s _ _ _ T2 (mkF m 52 #[.val (.long p1), .second, .val (.long p2), .second, .val (.long (own_mix p1 p2)), .second, .val (.long (own_m1 p1 p2)), .second] [(.long (own_m1 p1 p2))])
  refine OwnGo.st (fun _ k => X2.ldc2Long hx hown (mvT hZ (hw _ (List.mem_of_getElem? (i := 13) rfl))) (g := (mkF m 52 #[.val (.long p1), .second, .val (.long p2), .second, .val (.long (own_mix p1 p2)), .second, .val (.long (own_m1 p1 p2)), .second] [(.long (own_m1 p1 p2))])) rfl (hb hby at_52) _ k) ?_
  show OwnGo p e below s _ _ _ T2 (mkF m 55 #[.val (.long p1), .second, .val (.long p2), .second, .val (.long (own_mix p1 p2)), .second, .val (.long (own_m1 p1 p2)), .second] [(.long (-4658895280553007687 : Int64)), (.long (own_m1 p1 p2))])
  obtain ⟨_, _, ⟨T3, L3, k3, n3⟩, -, X3, ⟨Lc3, hQ3, l3, y3, z3⟩, st3⟩ := Jvm.LawKit.callS X2 hx (y := (⟨"com/example/mapweft/mapweft/compare/HashMixPinLaw", "inverse", "(J)J"⟩ : MethodName)) hown (mvT hZ (hw _ (List.mem_of_getElem? (i := 8) rfl))) (mvT hZ (hw _ (List.mem_of_getElem? (i := 9) rfl))) (mvT hZ (hw _ (List.mem_of_getElem? (i := 10) rfl))) (mvT hZ (hw _ (List.mem_of_getElem? (i := 11) rfl))) (by decide) (backOf (W := 2) (rm2 l Z a0 hw [] (-4658895280553007687 : Int64) h0 n0 Z_ ) hZ (hw _ (List.mem_of_getElem? (i := 11) rfl)) (hw _ (List.mem_of_getElem? (i := 10) rfl)) (by decide) (by decide)) (g := (mkF m 55 #[.val (.long p1), .second, .val (.long p2), .second, .val (.long (own_mix p1 p2)), .second, .val (.long (own_m1 p1 p2)), .second] [(.long (-4658895280553007687 : Int64)), (.long (own_m1 p1 p2))])) rfl (by rw [hml]; rfl) (argsL := [(.long (-4658895280553007687 : Int64))]) (rest := [(.long (own_m1 p1 p2))]) (lenOf pd_1 rfl) rfl (by show 2 * 0 + _ ≤ _; exact Nat.le_of_eq rfl) (hb hby at_55) (fun _ _ => ⟨rfl, e2, (by decide : 0 + 0 ≤ _), (by decide : 0 + 0 ≤ _)⟩)
  dsimp only [Pt.U, Pt.locs, Pt.cells, Pt.slots] at X3 l3 y3 z3 st3 hQ3
  subst l3 y3 z3
  obtain ⟨rfl, N3q, e3⟩ := hQ3
  have N3 := Fr.app N2 N3q
  refine OwnGo.st st3 ?_
  show OwnGo p e below s _ _ _ T3 (mkF m 58 #[.val (.long p1), .second, .val (.long p2), .second, .val (.long (own_mix p1 p2)), .second, .val (.long (own_m1 p1 p2)), .second] [(.long (own_inv (-4658895280553007687 : Int64))), (.long (own_m1 p1 p2))])
  refine OwnGo.st (fun _ k => XS.lmul X3.here hx rfl (hb hby at_58) rfl k) ?_
  show OwnGo p e below s _ _ _ T3 (mkF m 59 #[.val (.long p1), .second, .val (.long p2), .second, .val (.long (own_mix p1 p2)), .second, .val (.long (own_m1 p1 p2)), .second] [(.long ((own_m1 p1 p2) * (own_inv (-4658895280553007687 : Int64))))])
  rw [show (own_m1 p1 p2 * own_inv (-4658895280553007687 : Int64)) = own_xs (own_m0 p1 p2) 30 from own_k1 _]
  show OwnGo p e below s _ _ _ T3 (mkF m 59 #[.val (.long p1), .second, .val (.long p2), .second, .val (.long (own_mix p1 p2)), .second, .val (.long (own_m1 p1 p2)), .second] [(.long (own_xs (own_m0 p1 p2) 30))])
  refine OwnGo.st (fun _ k => XS.lstore X3.here hx rfl (hb hby at_59) rfl (l' := #[.val (.long p1), .second, .val (.long p2), .second, .val (.long (own_mix p1 p2)), .second, .val (.long (own_xs (own_m0 p1 p2) 30)), .second]) rfl k) ?_
  show OwnGo p e below s _ _ _ T3 (mkF m 61 #[.val (.long p1), .second, .val (.long p2), .second, .val (.long (own_mix p1 p2)), .second, .val (.long (own_xs (own_m0 p1 p2) 30)), .second] [])
  refine OwnGo.st (fun _ k => XS.lload X3.here hx rfl (hb hby at_61) rfl  k) ?_
  show OwnGo p e below s _ _ _ T3 (mkF m 63 #[.val (.long p1), .second, .val (.long p2), .second, .val (.long (own_mix p1 p2)), .second, .val (.long (own_xs (own_m0 p1 p2) 30)), .second] [(.long (own_xs (own_m0 p1 p2) 30))])
  refine OwnGo.st (fun _ k => XS.lload X3.here hx rfl (hb hby at_63) rfl  k) ?_
  show OwnGo p e below s _ _ _ T3 (mkF m 65 #[.val (.long p1), .second, .val (.long p2), .second, .val (.long (own_mix p1 p2)), .second, .val (.long (own_xs (own_m0 p1 p2) 30)), .second] [(.long (own_xs (own_m0 p1 p2) 30)), (.long (own_xs (own_m0 p1 p2) 30))])
  refine OwnGo.st (fun _ k => XS.bipush X3.here hx rfl (hb hby at_65) k) ?_
  show OwnGo p e below s _ _ _ T3 (mkF m 67 #[.val (.long p1), .second, .val (.long p2), .second, .val (.long (own_mix p1 p2)), .second, .val (.long (own_xs (own_m0 p1 p2) 30)), .second] [(.int (30 : Int32)), (.long (own_xs (own_m0 p1 p2) 30)), (.long (own_xs (own_m0 p1 p2) 30))])
  refine OwnGo.st (fun _ k => XS.lushr X3.here hx rfl (hb hby at_67) rfl k) ?_
  show OwnGo p e below s _ _ _ T3 (mkF m 68 #[.val (.long p1), .second, .val (.long p2), .second, .val (.long (own_mix p1 p2)), .second, .val (.long (own_xs (own_m0 p1 p2) 30)), .second] [(.long (((own_xs (own_m0 p1 p2) 30).toUInt64 >>> ((30 : Int32) &&& 0x3f).toInt64.toUInt64).toInt64)), (.long (own_xs (own_m0 p1 p2) 30))])
  refine OwnGo.st (fun _ k => XS.lxor X3.here hx rfl (hb hby at_68) rfl k) ?_
  show OwnGo p e below s _ _ _ T3 (mkF m 69 #[.val (.long p1), .second, .val (.long p2), .second, .val (.long (own_mix p1 p2)), .second, .val (.long (own_xs (own_m0 p1 p2) 30)), .second] [(.long ((own_xs (own_m0 p1 p2) 30) ^^^ (((own_xs (own_m0 p1 p2) 30).toUInt64 >>> ((30 : Int32) &&& 0x3f).toInt64.toUInt64).toInt64)))])
  refine OwnGo.st (fun _ k => XS.lload X3.here hx rfl (hb hby at_69) rfl  k) ?_
  show OwnGo p e below s _ _ _ T3 (mkF m 71 #[.val (.long p1), .second, .val (.long p2), .second, .val (.long (own_mix p1 p2)), .second, .val (.long (own_xs (own_m0 p1 p2) 30)), .second] [(.long (own_xs (own_m0 p1 p2) 30)), (.long ((own_xs (own_m0 p1 p2) 30) ^^^ (((own_xs (own_m0 p1 p2) 30).toUInt64 >>> ((30 : Int32) &&& 0x3f).toInt64.toUInt64).toInt64)))])
  refine OwnGo.st (fun _ k => XS.bipush X3.here hx rfl (hb hby at_71) k) ?_
  show OwnGo p e below s _ _ _ T3 (mkF m 73 #[.val (.long p1), .second, .val (.long p2), .second, .val (.long (own_mix p1 p2)), .second, .val (.long (own_xs (own_m0 p1 p2) 30)), .second] [(.int (60 : Int32)), (.long (own_xs (own_m0 p1 p2) 30)), (.long ((own_xs (own_m0 p1 p2) 30) ^^^ (((own_xs (own_m0 p1 p2) 30).toUInt64 >>> ((30 : Int32) &&& 0x3f).toInt64.toUInt64).toInt64)))])
  refine OwnGo.st (fun _ k => XS.lushr X3.here hx rfl (hb hby at_73) rfl k) ?_
  show OwnGo p e below s _ _ _ T3 (mkF m 74 #[.val (.long p1), .second, .val (.long p2), .second, .val (.long (own_mix p1 p2)), .second, .val (.long (own_xs (own_m0 p1 p2) 30)), .second] [(.long (((own_xs (own_m0 p1 p2) 30).toUInt64 >>> ((60 : Int32) &&& 0x3f).toInt64.toUInt64).toInt64)), (.long ((own_xs (own_m0 p1 p2) 30) ^^^ (((own_xs (own_m0 p1 p2) 30).toUInt64 >>> ((30 : Int32) &&& 0x3f).toInt64.toUInt64).toInt64)))])
  refine OwnGo.st (fun _ k => XS.lxor X3.here hx rfl (hb hby at_74) rfl k) ?_
  show OwnGo p e below s _ _ _ T3 (mkF m 75 #[.val (.long p1), .second, .val (.long p2), .second, .val (.long (own_mix p1 p2)), .second, .val (.long (own_xs (own_m0 p1 p2) 30)), .second] [(.long (((own_xs (own_m0 p1 p2) 30) ^^^ (((own_xs (own_m0 p1 p2) 30).toUInt64 >>> ((30 : Int32) &&& 0x3f).toInt64.toUInt64).toInt64)) ^^^ (((own_xs (own_m0 p1 p2) 30).toUInt64 >>> ((60 : Int32) &&& 0x3f).toInt64.toUInt64).toInt64)))])
  show OwnGo p e below s _ _ _ T3 (mkF m 75 #[.val (.long p1), .second, .val (.long p2), .second, .val (.long (own_mix p1 p2)), .second, .val (.long (own_xs (own_m0 p1 p2) 30)), .second] [(.long (own_un (own_xs (own_m0 p1 p2) 30) 30 60))])
  rw [own_u30]
  show OwnGo p e below s _ _ _ T3 (mkF m 75 #[.val (.long p1), .second, .val (.long p2), .second, .val (.long (own_mix p1 p2)), .second, .val (.long (own_xs (own_m0 p1 p2) 30)), .second] [(.long (own_m0 p1 p2))])
  refine OwnGo.st (fun _ k => XS.lstore X3.here hx rfl (hb hby at_75) rfl (l' := #[.val (.long p1), .second, .val (.long p2), .second, .val (.long (own_mix p1 p2)), .second, .val (.long (own_m0 p1 p2)), .second]) rfl k) ?_
  show OwnGo p e below s _ _ _ T3 (mkF m 77 #[.val (.long p1), .second, .val (.long p2), .second, .val (.long (own_mix p1 p2)), .second, .val (.long (own_m0 p1 p2)), .second] [])
  refine OwnGo.st (fun _ k => XS.lload X3.here hx rfl (hb hby at_77) rfl  k) ?_
  show OwnGo p e below s _ _ _ T3 (mkF m 79 #[.val (.long p1), .second, .val (.long p2), .second, .val (.long (own_mix p1 p2)), .second, .val (.long (own_m0 p1 p2)), .second] [(.long (own_m0 p1 p2))])
  refine OwnGo.st (fun _ k => XS.lloadN X3.here hx rfl (hb hby at_79) rfl  k) ?_
  show OwnGo p e below s _ _ _ T3 (mkF m 80 #[.val (.long p1), .second, .val (.long p2), .second, .val (.long (own_mix p1 p2)), .second, .val (.long (own_m0 p1 p2)), .second] [(.long p1), (.long (own_m0 p1 p2))])
  refine OwnGo.st (fun _ k => X3.ldc2Long hx hown (mvT hZ (hw _ (List.mem_of_getElem? (i := 14) rfl))) (g := (mkF m 80 #[.val (.long p1), .second, .val (.long p2), .second, .val (.long (own_mix p1 p2)), .second, .val (.long (own_m0 p1 p2)), .second] [(.long p1), (.long (own_m0 p1 p2))])) rfl (hb hby at_80) _ k) ?_
  show OwnGo p e below s _ _ _ T3 (mkF m 83 #[.val (.long p1), .second, .val (.long p2), .second, .val (.long (own_mix p1 p2)), .second, .val (.long (own_m0 p1 p2)), .second] [(.long (-7046029254386353131 : Int64)), (.long p1), (.long (own_m0 p1 p2))])
  refine OwnGo.st (fun _ k => XS.lmul X3.here hx rfl (hb hby at_83) rfl k) ?_
  show OwnGo p e below s _ _ _ T3 (mkF m 84 #[.val (.long p1), .second, .val (.long p2), .second, .val (.long (own_mix p1 p2)), .second, .val (.long (own_m0 p1 p2)), .second] [(.long (p1 * (-7046029254386353131 : Int64))), (.long (own_m0 p1 p2))])
  refine OwnGo.st (fun _ k => XS.lloadN X3.here hx rfl (hb hby at_84) rfl  k) ?_
  show OwnGo p e below s _ _ _ T3 (mkF m 85 #[.val (.long p1), .second, .val (.long p2), .second, .val (.long (own_mix p1 p2)), .second, .val (.long (own_m0 p1 p2)), .second] [(.long p2), (.long (p1 * (-7046029254386353131 : Int64))), (.long (own_m0 p1 p2))])
  refine OwnGo.st (fun _ k => XS.ladd X3.here hx rfl (hb hby at_85) rfl k) ?_
  show OwnGo p e below s _ _ _ T3 (mkF m 86 #[.val (.long p1), .second, .val (.long p2), .second, .val (.long (own_mix p1 p2)), .second, .val (.long (own_m0 p1 p2)), .second] [(.long ((p1 * (-7046029254386353131 : Int64)) + p2)), (.long (own_m0 p1 p2))])
  refine OwnGo.st (fun _ k => XS.lcmp X3.here hx rfl (hb hby at_86) rfl k) ?_
  show OwnGo p e below s _ _ _ T3 (mkF m 87 #[.val (.long p1), .second, .val (.long p2), .second, .val (.long (own_mix p1 p2)), .second, .val (.long (own_m0 p1 p2)), .second] [(.int (lcmpW (own_m0 p1 p2) ((p1 * (-7046029254386353131 : Int64)) + p2)))])
  refine OwnGo.st (fun _ k => XS.ifNo X3.here hx rfl (hb hby at_87) rfl ((if0 _ _).trans (teq ((lw_eq _ _).2 rfl : (lcmpW (own_m0 p1 p2) ((p1 * (-7046029254386353131 : Int64)) + p2)) = (0 : Int32))).2) k) ?_
  show OwnGo p e below s _ _ _ T3 (mkF m 90 #[.val (.long p1), .second, .val (.long p2), .second, .val (.long (own_mix p1 p2)), .second, .val (.long (own_m0 p1 p2)), .second] [])
  refine OwnGo.st (fun _ k => XS.iconst X3.here hx rfl (hb hby at_90) k) ?_
  show OwnGo p e below s _ _ _ T3 (mkF m 91 #[.val (.long p1), .second, .val (.long p2), .second, .val (.long (own_mix p1 p2)), .second, .val (.long (own_m0 p1 p2)), .second] [(.int (1 : Int32))])
  refine OwnGo.st (fun _ k => XS.goto X3.here hx rfl (pc0 := 91) (pc' := 95) rfl (hb hby at_91) (by decide) (by decide) k) ?_
  show OwnGo p e below s _ _ _ T3 (mkF m 95 #[.val (.long p1), .second, .val (.long p2), .second, .val (.long (own_mix p1 p2)), .second, .val (.long (own_m0 p1 p2)), .second] [(.int (1 : Int32))])
  exact OwnGo.retN X3 hx (t := .boolean) hret hlk (by simp) (hb hby at_95) (by show Q0 Z p1 p2 h0 n0 _ T3.heap _; rw [e3]; exact ⟨rfl, N3⟩) (by decide) (by decide)
set_option maxRecDepth 65536 in
set_option maxHeartbeats 40000000 in
theorem comes_1 {Post : Tables → Env → Array Value → State → Outcome → State → Prop} (hpost : ∀ tb e args s v u, (limb_1_1.after args s (.returned v) u = true ∧ limb_1_2.after args s (.returned v) u = true ∧ True) → FrameEnd s (.returned v) u (Jvm.fieldLocs frame_1_writes args s ++ Jvm.arrayLocs frame_1_arrays args s ++ Jvm.staticLocs frame_1_statics s) 0 0 → Post tb e args s (.returned v) u) :
    ArmFor flags0 classFile x code maxLocals ret World_1 tables_1 room_1 Calls_1 rest_1 Pre_1 Post := by
  intro l hfl _ _ p e ha hc hk s m args below hf hA hF happ hP
  obtain ⟨hcalls, hrest, hpre⟩ := hP
  obtain ⟨-, -, -, hnamed, -, -, -, hat⟩ := (Spec.applies_iff hf).mp happ
  obtain ⟨hg, hn⟩ := and_e (Cond.before_iff.mp (show (Jvm.Cond.and given_1 narrow_1).before args s = true from hpre))
  obtain ⟨hcnt, hg⟩ := and_e hg
  obtain ⟨hg0, hg⟩ := and_e hg
  have hg1 := hg
  obtain ⟨w0, w1, rfl⟩ : ∃ w0 w1 : Value, args = #[w0, w1] := by
    have hs : args.size = 2 := by simpa [Cond.value, given_1] using hcnt
    obtain ⟨L⟩ := args
    match L, hs with
    | [w0, w1], _ => exact ⟨w0, w1, rfl⟩
  have hw := fun d (hd : d ∈ tables_1) => atoms_spec (ws := Jvm.Cond.code x code maxLocals ret :: tables_1) hat d (List.mem_cons_of_mem _ hd)
  have hfit : Fit s := fun {y c} hc i hi => by
    obtain ⟨ha, rfl⟩ := Array.getElem?_eq_some_iff.mp hc
    have q := List.all_eq_true.mp ((Array.all_eq_true_iff_forall_mem.mp hF) _ (Array.getElem_mem ha)) i (List.mem_range.mpr hi)
    simpa [Array.getElem?_eq_getElem hi] using q
  obtain ⟨i0, ei0⟩ := isL_v hg0
  obtain rfl : w0 = (.long i0) := Option.some.inj ei0
  obtain ⟨i1, ei1⟩ := isL_v hg1
  obtain rfl : w1 = (.long i1) := Option.some.inj ei1
  obtain ⟨n, o, h1, h2, h3, _, L, rfl, ⟨rfl, N⟩, hq⟩ := rm0 l s _ hw tables_1 i0 i1 s.heap s.heap.size (Nat.le_refl _)   p e ha hc hk s m _ below hf ((Spec.applies_iff_loose hf).mp happ).1 ⟨rfl, State.Warmed39.refl s, rfl⟩ trivial
  refine ⟨n, _, h1, h2, h3, hpost _ _ _ _ _ _ ⟨Cond.after_iff.mpr rfl, Cond.after_iff.mpr (eq_i res_at (Term.int_eval (1)) rfl), trivial⟩ ⟨hq.1, hq.2.1, (hq.2.2.sift fun y hy => Or.inr (N y hy)).mono (by decide) (by decide)⟩⟩
theorem main_1_1 : Claimed_1_1 := comes_1 fun _ _ _ _ _ _ h hF => ⟨h.1, hF⟩
theorem main_1_2 : Claimed_1_2 := comes_1 fun _ _ _ _ _ _ h hF => ⟨h.2.1, hF⟩
end Jvm.Pilot.@@N@@
namespace Jvm.Pilot.@@N@@
open Jvm Jvm.ClassFile Sem Op Lib Jvm.Free Jvm.Stand Jvm.Pilot.@@N@@.Jvm.D
/-! MADE BY PROGRAM (witnessworld.py) out of the Statement's table words and the real class files: 9 classes; the members and pool entries that the words name. The judged class is class 1, her method 2. -/
namespace start1
open Jvm.ClassFile
def u (s : String) : CpInfo := .utf8 (stringToUtf16 s)
/-- a pool by its gaps: so many unusable entries, then the entry; so many at the end -/
def gap : Nat → List CpInfo → List CpInfo
  | 0, r => r
  | n + 1, r => .unusable :: gap n r
def poolList (es : List (Nat × CpInfo)) (last : Nat) : List CpInfo := es.foldr (fun e r => gap e.1 (e.2 :: r)) (gap last [])
def pool (es : List (Nat × CpInfo)) (last : Nat) : Array CpInfo := ⟨poolList es last⟩
def fileOf (pool : Array CpInfo) (this : Nat) (attrs : Array Attribute := #[]) (ms : Array MethodInfo := #[]) (fl : Nat := 33) (sup : Nat := 0) (ifs : Array Nat := #[]) (fds : Array FieldInfo := #[]) : ClassFile where
  minorVersion := 0
  majorVersion := 65
  constantPool := pool
  accessFlags := fl
  thisClass := this
  superClass := sup
  interfaces := ifs
  fields := fds
  methods := ms
  attributes := attrs
def plain (name : String) (sup : Option ClassId) : Class where
  name := name
  kind := .ordinary
  loader := none
  accessFlags := 33
  super := sup
  interfaces := #[]
  cf := none
  fields := #[]
  methods := #[]
  instanceTypes := #[]
  staticTypes := #[]
  resolved := #[]
  callSites := []
  init := .initialized
  statics := none
  mirror := none

def pool0 : Array CpInfo := pool [(5, u "<init>"), (0, u "()V"), (1, .class_ 10), (1, u "java/lang/Object")] 113

def k0m0 : Method := { name := "<init>", desc := "()V", sig := { parameters := [], returnType := none }, accessFlags := 1, code := none }
/-- java/lang/Object -/
def k0 : Class := { plain "java/lang/Object" none with
  accessFlags := 33
  interfaces := #[]
  cf := some (fileOf pool0 8 #[] #[{ accessFlags := 1, nameIndex := 5, descriptorIndex := 6, attributes := #[] }] 33 0 #[] #[])
  fields := #[]
  methods := #[k0m0]
  instanceTypes := #[]
  staticTypes := #[]
  resolved := Array.replicate 124 none
  statics := none }

def pool1 : Array CpInfo := pool [(2, .class_ 4), (1, u "java/lang/Object"), (0, u "<init>"), (0, u "()V"), (0, .long 2), (1, .methodref 10 11), (0, .class_ 12), (0, .nameAndType 13 14), (0, u "com/example/mapweft/mapweft/compare/Hash"), (0, u "mix"), (0, u "(JJ)J"), (0, .long 10723151780598845931), (1, .methodref 18 19), (0, .class_ 20), (0, .nameAndType 21 22), (0, u "com/example/mapweft/mapweft/compare/HashMixPinLaw"), (0, u "inverse"), (0, u "(J)J"), (0, .long 13787848793156543929), (1, .long 11400714819323198485), (3, u "law"), (0, u "(JJ)Z")] 3

def k1m0 : Method := { name := "<init>", desc := "()V", sig := { parameters := [], returnType := none }, accessFlags := 2, code := none }
def k1c1 : Code := { maxStack := 8, maxLocals := 4, code := method_2_code, exceptionTable := #[], attributes := #[] }
def k1m1 : Method := { name := "inverse", desc := "(J)J", sig := { parameters := [.long], returnType := some .long }, accessFlags := 10, code := some k1c1 }
def k1c2 : Code := { maxStack := 6, maxLocals := 8, code := code, exceptionTable := #[], attributes := #[] }
def k1m2 : Method := { name := "law", desc := "(JJ)Z", sig := { parameters := [.long, .long], returnType := some .boolean }, accessFlags := 9, code := some k1c2 }
/-- com/example/mapweft/mapweft/compare/HashMixPinLaw -/
def k1 : Class := { plain "com/example/mapweft/mapweft/compare/HashMixPinLaw" (some 0) with
  accessFlags := 49
  interfaces := #[]
  cf := some (fileOf pool1 18 #[] #[{ accessFlags := 2, nameIndex := 5, descriptorIndex := 6, attributes := #[] }, { accessFlags := 10, nameIndex := 21, descriptorIndex := 22, attributes := #[] }, { accessFlags := 9, nameIndex := 29, descriptorIndex := 30, attributes := #[] }] 49 2 #[] #[])
  fields := #[]
  methods := #[k1m0, k1m1, k1m2]
  instanceTypes := #[]
  staticTypes := #[]
  resolved := Array.replicate 34 none
  statics := none }

def pool2 : Array CpInfo := pool [(2, .class_ 4), (1, u "java/lang/Object"), (0, u "<init>"), (0, u "()V"), (0, .class_ 8), (0, u "com/example/mapweft/mapweft/compare/Hash"), (29, u "mix"), (0, u "(JJ)J"), (0, .long 11400714819323198485), (1, .long 13787848793156543929), (1, .long 10723151780598845931), (1, u "FNV_OFFSET"), (0, u "J"), (1, u "FNV_PRIME")] 6

def k2m0 : Method := { name := "<init>", desc := "()V", sig := { parameters := [], returnType := none }, accessFlags := 2, code := none }
def k2c1 : Code := { maxStack := 5, maxLocals := 6, code := prog_8_method_4_code, exceptionTable := #[], attributes := #[] }
def k2m1 : Method := { name := "mix", desc := "(JJ)J", sig := { parameters := [.long, .long], returnType := some .long }, accessFlags := 8, code := some k2c1 }
/-- com/example/mapweft/mapweft/compare/Hash -/
def k2 : Class := { plain "com/example/mapweft/mapweft/compare/Hash" (some 0) with
  accessFlags := 48
  interfaces := #[]
  cf := some (fileOf pool2 7 #[] #[{ accessFlags := 2, nameIndex := 5, descriptorIndex := 6, attributes := #[] }, { accessFlags := 8, nameIndex := 38, descriptorIndex := 39, attributes := #[] }] 48 2 #[] #[{ accessFlags := 26, nameIndex := 46, descriptorIndex := 47, attributes := #[] }, { accessFlags := 26, nameIndex := 49, descriptorIndex := 47, attributes := #[] }])
  fields := #[{ name := "FNV_OFFSET", type := .long, accessFlags := 26, slot := 0, constantValue := 0 }, { name := "FNV_PRIME", type := .long, accessFlags := 26, slot := 1, constantValue := 0 }]
  methods := #[k2m0, k2m1]
  instanceTypes := #[]
  staticTypes := #[.long, .long]
  resolved := Array.replicate 56 none
  statics := none }

def pool3 : Array CpInfo := pool [(1, u "java/lang/Cloneable"), (0, .class_ 1), (0, u "java/lang/Object"), (0, .class_ 3)] 3

/-- java/lang/Cloneable -/
def k3 : Class := { plain "java/lang/Cloneable" (some 0) with
  accessFlags := 1537
  interfaces := #[]
  cf := some (fileOf pool3 2 #[] #[] 1537 4 #[] #[])
  fields := #[]
  methods := #[]
  instanceTypes := #[]
  staticTypes := #[]
  resolved := Array.replicate 8 none
  statics := none }

def pool4 : Array CpInfo := pool [(1, u "java/io/Serializable"), (0, .class_ 1), (0, u "java/lang/Object"), (0, .class_ 3)] 3

/-- java/io/Serializable -/
def k4 : Class := { plain "java/io/Serializable" (some 0) with
  accessFlags := 1537
  interfaces := #[]
  cf := some (fileOf pool4 2 #[] #[] 1537 4 #[] #[])
  fields := #[]
  methods := #[]
  instanceTypes := #[]
  staticTypes := #[]
  resolved := Array.replicate 8 none
  statics := none }

/-- the primitive byte -/
def k5 : Class := { plain "byte" none with kind := .primitive 'B', accessFlags := 0x411 }
/-- [B -/
def k6 : Class := { plain "[B" (some 0) with kind := .array 5 .byte, interfaces := #[3, 4], accessFlags := 1041 }

/-- the primitive int -/
def k7 : Class := { plain "int" none with kind := .primitive 'I', accessFlags := 0x411 }
/-- [I -/
def k8 : Class := { plain "[I" (some 0) with kind := .array 7 .int, interfaces := #[3, 4], accessFlags := 1041 }

def heap : Heap := #[]
def classes : Array Class := #[k0, k1, k2, k3, k4, k5, k6, k7, k8]
def interned : List (Array UInt16 × Addr) := []
def slotsUsed : Nat := 0
def theMethod : MethodId := ⟨1, 2⟩
def args0 : Array Value := #[.long 5, .long 7]
def aboutOver (below : List Frame) : State where
  vm := { classes := classes, interned := interned.toArray }
  heap := heap
  slotsUsed := slotsUsed
  threads := #[{ frames := .invoking theMethod args0 :: below }]
def below0 : List Frame := [.native { method := ⟨0, 0⟩, args := #[] }]
def about1 : State := aboutOver below0
def p0 : Program := .bare "" "" ""
def e0 : Env := launch0.env 0 0 0
theorem w_frames : about1.frames = Frame.invoking theMethod args0 :: below0 := rfl
set_option maxRecDepth 65536 in
theorem w_args : argsFit about1.vm theMethod args0 = true := by decide +kernel
set_option maxRecDepth 65536 in
theorem w_heap : heapFits about1 = true := by decide +kernel
set_option maxRecDepth 65536 in
theorem w_runnable : about1.curStatus? = some .runnable := by decide +kernel
set_option maxRecDepth 65536 in
theorem w_alone : about1.alone = true := by decide +kernel
set_option maxRecDepth 65536 in
theorem w_named : about1.methodNamed? x = some theMethod := by decide +kernel
set_option maxRecDepth 65536 in
theorem w_hears : about1.hears theMethod below0 = true := by decide +kernel
set_option maxRecDepth 65536 in
theorem w_ripe : about1.ripe theMethod args0 below0 = true := by decide +kernel
theorem w_running : about1.status = .running := rfl
set_option maxRecDepth 65536 in
theorem w_room : about1.hasRoom e0.platform room_1 = true :=
  launch0.hasRoom_least _ room_1 (by decide +kernel) (by decide +kernel) (by decide +kernel) (by decide +kernel) (by decide +kernel) (by decide +kernel)
theorem allAtoms_all (ts : List Jvm.Cond) (a : Array Jvm.Value) (st : Jvm.State) : (allAtoms ts).before a st = ts.all (fun c => c.before a st) := by
  induction ts with
  | nil => rfl
  | cons c t ih =>
    show (Jvm.Cond.and c (allAtoms t)).before a st = _
    rw [Jvm.Cond.before_and, ih, List.all_cons]
def words1 : List Jvm.Cond := Jvm.Cond.code x code maxLocals ret :: tables_1
/-- a 'code' word, met by the world's own term for the bytes: nothing is compared byte by byte -/
theorem code_word {y : MethodName} {bytes : ByteArray} {mx : Nat} {rt : Option FieldType} {a : Array Value} {s : State} {m : MethodId} {meth : Method} {c : Code} (h1 : s.methodNamed? y = some m) (h2 : s.vm.method? m = some meth) (h3 : meth.code = some c) (h4 : c.code = bytes)
    (h5 : (c.maxLocals == mx && c.exceptionTable.isEmpty && decide (c.maxStack ≤ mostOperands) && decide (meth.sig.returnType = rt) && !meth.locks && decide (parseMethodDescriptor y.desc = some meth.sig)) = true) : (Jvm.Cond.code y bytes mx rt).before a s = true := by
  simp only [Bool.and_eq_true, beq_iff_eq, Bool.not_eq_true', decide_eq_true_eq] at h5
  obtain ⟨⟨⟨⟨⟨g1, g2⟩, g3⟩, g4⟩, g5⟩, g6⟩ := h5
  simp [Cond.before, Cond.holds, Cond.value, h1, h2, h3, h4, g1, g2, g3, g4, g5, g6]
def isCode : Jvm.Cond → Bool
  | .code _ _ _ _ => true
  | _ => false
theorem all_split {L : List Jvm.Cond} {P : Jvm.Cond → Bool} (h1 : L.all (fun c => isCode c || P c) = true) (h2 : ∀ c ∈ L.filter isCode, P c = true) : L.all P = true := by
  refine List.all_eq_true.mpr fun c hc => ?_
  have h := List.all_eq_true.mp h1 c hc
  rcases Bool.eq_false_or_eq_true (isCode c) with hi | hi
  · exact h2 c (List.mem_filter.mpr ⟨hc, hi⟩)
  · simpa [hi] using h
set_option maxRecDepth 65536 in
theorem w_c0 : (Jvm.Cond.code x code maxLocals ret).before args0 about1 = true := code_word (m := ⟨1, 2⟩) (meth := k1m2) (c := k1c2) (by decide +kernel) rfl rfl rfl (by decide +kernel)
set_option maxRecDepth 65536 in
theorem w_c1 : (Jvm.Cond.code ({ cls := "com/example/mapweft/mapweft/compare/Hash", name := "mix", desc := "(JJ)J" } : Jvm.MethodName) prog_8_method_4_code (6 : Nat) (Option.some Jvm.ClassFile.FieldType.long)).before args0 about1 = true := code_word (m := ⟨2, 1⟩) (meth := k2m1) (c := k2c1) (by decide +kernel) rfl rfl rfl (by decide +kernel)
set_option maxRecDepth 65536 in
theorem w_c2 : (Jvm.Cond.code ({ cls := "com/example/mapweft/mapweft/compare/HashMixPinLaw", name := "inverse", desc := "(J)J" } : Jvm.MethodName) method_2_code (4 : Nat) (Option.some Jvm.ClassFile.FieldType.long)).before args0 about1 = true := code_word (m := ⟨1, 1⟩) (meth := k1m1) (c := k1c1) (by decide +kernel) rfl rfl rfl (by decide +kernel)
def codes1 : List Jvm.Cond := [Jvm.Cond.code x code maxLocals ret, Jvm.Cond.code ({ cls := "com/example/mapweft/mapweft/compare/Hash", name := "mix", desc := "(JJ)J" } : Jvm.MethodName) prog_8_method_4_code (6 : Nat) (Option.some Jvm.ClassFile.FieldType.long), Jvm.Cond.code ({ cls := "com/example/mapweft/mapweft/compare/HashMixPinLaw", name := "inverse", desc := "(J)J" } : Jvm.MethodName) method_2_code (4 : Nat) (Option.some Jvm.ClassFile.FieldType.long)]
set_option maxRecDepth 65536 in
theorem codes_eq : words1.filter isCode = codes1 := rfl
theorem w_codes : ∀ c ∈ words1.filter isCode, c.before args0 about1 = true := by
  rw [codes_eq]
  intro c hc
  simp only [codes1, List.mem_cons, List.not_mem_nil, or_false] at hc
  rcases hc with rfl | rfl | rfl
  · exact w_c0
  · exact w_c1
  · exact w_c2
set_option maxRecDepth 65536 in
theorem w_t1 : words1.all (fun c => isCode c || c.before args0 about1) = true := by decide +kernel
theorem w_tables : (allAtoms (Jvm.Cond.code x code maxLocals ret :: tables_1)).before args0 about1 = true := by
  rw [allAtoms_all]
  show words1.all (fun c => c.before args0 about1) = true
  refine all_split ?_ w_codes
  rw [w_t1]
set_option maxRecDepth 65536 in
theorem w_case : (Jvm.Cond.and given_1 narrow_1).before args0 about1 = true := by decide +kernel
theorem w_applies : (headSpec (Jvm.Cond.code x code maxLocals ret :: tables_1) room_1).applies x e0.platform about1 = true :=
  (Spec.applies_iff w_frames).mpr ⟨w_running, w_runnable, w_alone, w_named, w_hears, w_ripe, w_room, w_tables⟩
theorem atStart : AtStart classFile x code maxLocals ret World_1 tables_1 room_1 Calls_1 rest_1 Pre_1 launch0 p0 e0 about1 theMethod args0 below0 :=
  ⟨lists_1, trivial, launch0.admits_env _ _ _, launch0.least_env, fairChoices_fair.cas, fairChoices_fair.clock, w_frames, w_args, w_heap, w_applies, trivial, trivial, w_case⟩
end start1
theorem witness_1 : WitnessClaimed_1 := ⟨start1.p0, start1.e0, start1.about1, start1.theMethod, start1.args0, start1.below0, start1.atStart⟩
end Jvm.Pilot.@@N@@
