import JvmDerived
import JvmDerived.Pilot.@@N@@Statement
import JvmDerived.Pilot.@@N@@Code
set_option linter.unusedVariables false
set_option linter.unusedSimpArgs false
namespace Jvm.RoadKit
open Sem ClassFile Op Lib Jvm.Stand Jvm.Free Jvm.LawKit
section Own
variable {p : Program} {l : Launch} {e : Env} {R : Room} {s : State} {m : MethodId} {args : Array Value} {below : List Frame} {meth : Method} {c : Code} {T T' : State} {locs : List Loc} {cells slots rc rs : Nat} {Q : Option Value → Heap → List Loc → Prop} {g g' : JFrame}
/-- from the state T with the top frame g the run ends in a return of which Q is true -/
def OwnGo (p : Program) (e : Env) (below : List Frame) (s : State) (rc rs : Nat) (Q : Option Value → Heap → List Loc → Prop) (T : State) (g : JFrame) : Prop :=
  ∃ (U : State) (o : Outcome), Steps p.tables e below (T.setTop g) U ∧ U.status = .running ∧ Ended U below o ∧ ∃ v L, o = .returned v ∧ Q v U.heap L ∧ FrameEnd s o U L rc rs
theorem OwnGo.st (k : ∀ target, Steps p.tables e below (T'.setTop g') target → Steps p.tables e below (T.setTop g) target) (h : OwnGo p e below s rc rs Q T' g') : OwnGo p e below s rc rs Q T g := by
  obtain ⟨U, o, h1, h2⟩ := h
  exact ⟨U, o, k _ h1, h2⟩
theorem OwnGo.cast (q : g = g') (h : OwnGo p e below s rc rs Q T g') : OwnGo p e below s rc rs Q T g := q ▸ h
theorem OwnGo.ret (X : Stand p l e R s m args below meth c T locs cells slots) (hx : p.tables.exec = Jvm.exec) {pc : Nat} {Ls : Array Slot} {w : Value} {t : FieldType} {i : Instr} {rest : List Value} (hret : meth.sig.returnType = some t) (hlk : meth.locks = false) (hn : narrow t w = w)
    (hi : (i = .ireturn ∧ (t = .int ∨ t = .boolean ∨ t = .byte ∨ t = .char ∨ t = .short) ∧ ∃ z, w = .int z) ∨ (i = .lreturn ∧ t = .long ∧ ∃ z, w = .long z) ∨ (i = .dreturn ∧ t = .double ∧ ∃ z, w = .double z) ∨ (i = .freturn ∧ t = .float ∧ ∃ z, w = .float z) ∨ (i = .areturn ∧ t.isReference = true ∧ w.isRef = true))
    (hd : decode c.code pc = .ok (i, 1)) (hQ : Q (some w) T.heap locs) (hc : cells ≤ rc) (hs : slots ≤ rs) : OwnGo p e below s rc rs Q T (mkF m pc Ls (w :: rest)) := by
  obtain ⟨fs, hr, hrun, hended, hW, hsame⟩ := X.leave (v := some w) (fun h => by rw [hret] at h; cases h) hlk
  exact ⟨_, _, retOut X hx hret hn hi hd hr, hrun, hended, _, _, rfl, hQ, ⟨_, rfl⟩, hW, hsame.mono hc hs⟩
theorem OwnGo.retN (X : Stand p l e R s m args below meth c T locs cells slots) (hx : p.tables.exec = Jvm.exec) {pc : Nat} {Ls : Array Slot} {z : Int32} {t : FieldType} {rest : List Value} (hret : meth.sig.returnType = some t) (hlk : meth.locks = false) (ht : t = .boolean ∨ t = .byte ∨ t = .char ∨ t = .short)
    (hd : decode c.code pc = .ok (.ireturn, 1)) (hQ : Q (some (.int (nar t z))) T.heap locs) (hc : cells ≤ rc) (hs : slots ≤ rs) : OwnGo p e below s rc rs Q T (mkF m pc Ls (.int z :: rest)) := by
  obtain ⟨fs, hr, hrun, hended, hW, hsame⟩ := X.leave (v := some (.int (nar t z))) (fun h => by rw [hret] at h; cases h) hlk
  exact ⟨_, _, Jvm.RoadKit.retN X hx hret ht hd hr, hrun, hended, _, _, rfl, hQ, ⟨_, rfl⟩, hW, hsame.mono hc hs⟩
theorem OwnGo.retV (X : Stand p l e R s m args below meth c T locs cells slots) (hx : p.tables.exec = Jvm.exec) {pc : Nat} {Ls : Array Slot} (hret : meth.sig.returnType = none) (hlk : meth.locks = false)
    (hd : decode c.code pc = .ok (.return_, 1)) (hQ : Q none T.heap locs) (hc : cells ≤ rc) (hs : slots ≤ rs) : OwnGo p e below s rc rs Q T (mkF m pc Ls []) := by
  obtain ⟨fs, hr, hrun, hended, hW, hsame⟩ := X.leave (v := none) (fun _ => rfl) hlk
  exact ⟨_, _, X.returnOut hx hret hd hr, hrun, hended, _, _, rfl, hQ, ⟨_, rfl⟩, hW, hsame.mono hc hs⟩
theorem own_met {y : MethodName} {bytes : ByteArray} {maxL : Nat} {ret : Option FieldType} {ws : List Jvm.Cond} {rm : Room} {Z : State} {as' : Array Value} {h0 : Heap} (hp : plainFor y = true)
    (body : ∀ (p : Program) (e : Env) (s : State) (m : MethodId) (below : List Frame) (meth : Method) (c : Code) (s₁ : State), Stand p l e rm s m as' below meth c s₁ [] 0 0 → p.tables.exec = Jvm.exec → c.code = bytes → c.maxLocals = maxL → meth.sig.returnType = ret → meth.locks = false → s.vm.findClass y.cls = some m.cls → meth.name = y.name → Z.Warmed39 s.vm → s₁.heap = h0 →
      OwnGo p e below s rm.cells rm.slots Q s₁ (entryFrame m as' maxL)) :
    MetFree l y (head1 (Jvm.Cond.code y bytes maxL ret :: ws) rm) (fun a U => a = as' ∧ Z.Warmed39 U.vm ∧ U.heap = h0) (fun _ _ _ _ _ => True) (fun _ U o U' => ∃ v L, o = .returned v ∧ Q v U'.heap L ∧ FrameEnd U o U' L rm.cells rm.slots) := by
  refine MetFree.of_bodySF hp hisR ?_
  intro p e s m args below meth c s₁ Bd hml0 hP hK
  obtain ⟨rfl, hZ, hh⟩ := hP
  exact body p e s m below meth c s₁ (Stand.of_body Bd) Bd.exec Bd.bytes hml0 Bd.returns Bd.notSynchronized (findClass_of_methodNamed Bd.named) (name_of_methodNamed Bd.named Bd.method).1 hZ (by rw [← hh, Bd.state]; rfl)
theorem own_len {Z : State} {h : Heap} {a : Addr} {cl : Cell} {ty : FieldType} {z : Int32} (hZ : Z.Warmed39 s.vm) (q : cl.slots.size.toInt32 = z) (A : Arr Z h a cl ty) (X : Stand p l e R s m args below meth c T locs cells slots) (eT : T.heap = h) (hx : p.tables.exec = Jvm.exec) {rest : List Value}
    (hg : g.method = m) (hst : g.stack = .ref a :: rest) (hd : decode c.code g.pc = .ok (.arraylength, 1)) (target : State) (k : Steps p.tables e below (T.setTop { g with pc := g.pc + 1, stack := .int z :: rest }) target) : Steps p.tables e below (T.setTop g) target := by
  refine X.arraylength hx (by rw [eT]; exact A.1) (State.isArrayOf_alike hZ.alike A.2.1) hg hst hd _ ?_
  rw [q]; exact k
theorem own_eqi {args : Array Value} {first U : State} {o : Option Outcome} {idx : List Nat} {a : Term} {k : Int32} (h : (Jvm.Cond.eq a (.int k)).value args first o U idx = some true) : a.eval args first o idx U = some (.int k) := Cond.eq_int (b := .int k) (by simp only [Cond.holds, h]; rfl) rfl
theorem own_eqv {args : Array Value} {first U : State} {o : Option Outcome} {idx : List Nat} {a b : Term} {v : Value} (h : (Jvm.Cond.eq a b).value args first o U idx = some true) (hb : b.eval args first o idx U = some v) (hv : v.isRef = true) : a.eval args first o idx U = some v := by
  obtain ⟨x, y, h1, h2, k1, k2⟩ := cmp_v (Or.inl h)
  cases h2.symm.trans hb
  have hx : x.isRef = true := by cases x <;> cases v <;> simp [Kin, Value.isRef] at k1 k2 hv ⊢
  rw [h1, gotT (eq_R h1 h2 hx hv) h]
theorem own_lenv {Z : State} {args : Array Value} {t : Term} {a : Addr} {cl : Cell} {ty : FieldType} {z : Int32} (ev : t.eval args Z none [] Z = some (.ref a)) (A : Arr Z Z.heap a cl ty) (h : (Jvm.Cond.eq (.length t) (.int z)).value args Z none Z [] = some true) : cl.slots.size < 2 ^ 31 ∧ cl.slots.size.toInt32 = z := by
  have e := own_eqi h
  have hA := A.fin (Vm.Alike.refl _)
  refine ⟨SBG.length_lt ev hA e, ?_⟩
  obtain ⟨a', c', e1, e2, e3⟩ := Term.length_spec e
  cases ev.symm.trans e1
  cases hA.symm.trans e2
  exact (Value.int.inj e3).symm
theorem own_elem {Z : State} {args : Array Value} {t : Term} {a : Addr} {cl : Cell} {ty : FieldType} {k : Int32} {v : Value} (ev : t.eval args Z none [] Z = some (.ref a)) (A : Arr Z Z.heap a cl ty) (h : (Term.elem t (.int k)).eval args Z none [] Z = some v) : cl.slots[k.toNatClampNeg]? = some v := (elem_in h ev rfl A.1).2
theorem own_narR {w : Value} {t : FieldType} (h : w.isRef = true) (ht : t.isReference = true) : narrow t w = w := by
  cases w <;> simp [Value.isRef] at h <;> cases t <;> simp [FieldType.isReference] at ht <;> rfl
theorem own_cat {w : Value} (h : w.isRef = true) : w.category = 1 := by cases w <;> simp [Value.isRef] at h <;> rfl
/-- an array of n places, whatever they hold -/
def OwnArr (Z : State) (h : Heap) (a : Addr) (ty : FieldType) (n : Nat) : Prop := ∃ cl : Cell, Arr Z h a cl ty ∧ cl.slots.size = n
theorem OwnArr.lt {Z : State} {h : Heap} {a : Addr} {ty : FieldType} {n : Nat} (F : OwnArr Z h a ty n) : a < h.size := by obtain ⟨_, A, -⟩ := F; exact A.lt
theorem OwnArr.ext {Z : State} {h h' : Heap} {a : Addr} {ty : FieldType} {n : Nat} (F : OwnArr Z h a ty n) (E : Ext h h') : OwnArr Z h' a ty n := by obtain ⟨c, A, S⟩ := F; exact ⟨c, A.ext E, S⟩
theorem OwnArr.keep {Z : State} {h h' : Heap} {a : Addr} {ty : FieldType} {n : Nat} {ws : List Addr} (F : OwnArr Z h a ty n) (K : Keep h h' ws) : OwnArr Z h' a ty n := by
  obtain ⟨c, ⟨A1, ⟨q1, q2⟩, A3⟩, S⟩ := F
  obtain ⟨c', e1, e2, e3, e4⟩ := K.2.2 _ _ A1
  exact ⟨c', ⟨e1, ⟨by rw [e3]; exact q1, by rw [e2]; exact q2⟩, by rw [e3]; exact A3⟩, e4.trans S⟩
theorem OwnArr.wr {Z : State} {h h' : Heap} {a b : Addr} {ty : FieldType} {n sl : Nat} {v : Value} (F : OwnArr Z h a ty n) (W : Wr h h' b sl v) : OwnArr Z h' a ty n := F.keep (Keep.of_wr W)
theorem OwnArr.of {Z : State} {h : Heap} {a : Addr} {k : ClassId} {ty : FieldType} {z : Int32} {vs : List Value} {d : Value} (F : Arv Z h a k ty z vs d) : OwnArr Z h a ty z.toNatClampNeg := by obtain ⟨c, A, -, S, -⟩ := F; exact ⟨c, A, S⟩
theorem own_nb (x : Int32) : nar .byte x.toInt8.toInt32 = x.toInt8.toInt32 := by
  show (x.toInt8.toInt32).toInt8.toInt32 = _
  rw [Int8.toInt8_toInt32]
end Own
end Jvm.RoadKit
namespace Jvm.Pilot.@@N@@
open Jvm Jvm.ClassFile Sem Op Lib Jvm.Free Jvm.Stand Jvm.LawKit Jvm.RoadKit Bundle Jvm.Pilot.@@N@@.Jvm.D
def own_ush (x : Int64) (k : Int32) : Int64 := ((x.toUInt64 >>> (k &&& 0x3f).toInt64.toUInt64).toInt64)
def own_xs (x : Int64) (k : Int32) : Int64 := (x ^^^ own_ush x k)
def own_un (x : Int64) (j k : Int32) : Int64 := ((x ^^^ own_ush x j) ^^^ own_ush x k)
def own_nw (a x : Int64) : Int64 := (x * ((2 : Int64) - (a * x)))
def own_inv (a : Int64) : Int64 := own_nw a (own_nw a (own_nw a (own_nw a (own_nw a a))))
theorem own_bv (b : BitVec 64) (n : Nat) (h : 64 ≤ 3 * n) : ((b ^^^ b >>> n) ^^^ ((b ^^^ b >>> n) >>> n)) ^^^ ((b ^^^ b >>> n) >>> (2 * n)) = b := by
  apply BitVec.eq_of_getLsbD_eq
  intro i hi
  simp only [BitVec.getLsbD_xor, BitVec.getLsbD_ushiftRight]
  rw [show n + (n + i) = 2 * n + i by omega, show n + (2 * n + i) = 3 * n + i by omega, BitVec.getLsbD_of_ge b (3 * n + i) (by omega)]
  cases b.getLsbD i <;> cases b.getLsbD (n + i) <;> cases b.getLsbD (2 * n + i) <;> rfl
theorem own_ush_bv (x : Int64) (k : Int32) (n : Nat) (hk : ((k &&& 0x3f).toInt64.toUInt64.toBitVec % 64#64).toNat = n) : (own_ush x k).toBitVec = x.toBitVec >>> n := by
  show (x.toUInt64 >>> (k &&& 0x3f).toInt64.toUInt64).toBitVec = _
  rw [UInt64.toBitVec_shiftRight]
  show x.toBitVec >>> (((k &&& 0x3f).toInt64.toUInt64.toBitVec % 64#64)) = _
  rw [BitVec.ushiftRight_eq', hk]
theorem own_undo (x : Int64) (j k : Int32) (n : Nat) (h : 64 ≤ 3 * n) (hj : ((j &&& 0x3f).toInt64.toUInt64.toBitVec % 64#64).toNat = n) (hk : ((k &&& 0x3f).toInt64.toUInt64.toBitVec % 64#64).toNat = 2 * n) : own_un (own_xs x j) j k = x := by
  apply Int64.toBitVec_inj.mp
  show ((own_xs x j).toBitVec ^^^ (own_ush (own_xs x j) j).toBitVec) ^^^ (own_ush (own_xs x j) k).toBitVec = _
  rw [own_ush_bv _ j n hj, own_ush_bv _ k (2 * n) hk]
  have e : (own_xs x j).toBitVec = x.toBitVec ^^^ x.toBitVec >>> n := by
    show x.toBitVec ^^^ (own_ush x j).toBitVec = _
    rw [own_ush_bv _ j n hj]
  rw [e]
  exact own_bv _ n h
theorem own_u31 (x : Int64) : own_un (own_xs x 31) 31 62 = x := own_undo x 31 62 31 (by decide) (by decide) (by decide)
theorem own_u27 (x : Int64) : own_un (own_xs x 27) 27 54 = x := own_undo x 27 54 27 (by decide) (by decide) (by decide)
theorem own_u30 (x : Int64) : own_un (own_xs x 30) 30 60 = x := own_undo x 30 60 30 (by decide) (by decide) (by decide)
theorem own_k2 (x : Int64) : x * (-7723592293110705685 : Int64) * own_inv (-7723592293110705685 : Int64) = x := by
  rw [Int64.mul_assoc, show (-7723592293110705685 : Int64) * own_inv (-7723592293110705685 : Int64) = 1 by decide +kernel, Int64.mul_one]
theorem own_k1 (x : Int64) : x * (-4658895280553007687 : Int64) * own_inv (-4658895280553007687 : Int64) = x := by
  rw [Int64.mul_assoc, show (-4658895280553007687 : Int64) * own_inv (-4658895280553007687 : Int64) = 1 by decide +kernel, Int64.mul_one]
def own_step (h : Int64) (b : Int32) : Int64 := ((h ^^^ (b &&& (255 : Int32)).toInt64) * (1099511628211 : Int64))
def own_f1 (h : Int64) : Int64 := ((own_xs h 30) * (-4658895280553007687 : Int64))
def own_f2 (h : Int64) : Int64 := ((own_xs (own_f1 h) 27) * (-7723592293110705685 : Int64))
def own_fin (h : Int64) : Int64 := own_xs (own_f2 h) 31
theorem own_kp (x : Int64) : x * (1099511628211 : Int64) * own_inv (1099511628211 : Int64) = x := by
  rw [Int64.mul_assoc, show (1099511628211 : Int64) * own_inv (1099511628211 : Int64) = 1 by decide +kernel, Int64.mul_one]
theorem own_peel (h : Int64) (b : Int32) : (own_step h b) * own_inv (1099511628211 : Int64) ^^^ (b &&& (255 : Int32)).toInt64 = h := by
  show ((h ^^^ (b &&& (255 : Int32)).toInt64) * (1099511628211 : Int64)) * own_inv (1099511628211 : Int64) ^^^ (b &&& (255 : Int32)).toInt64 = h
  rw [own_kp, Int64.xor_assoc, Int64.xor_self, Int64.xor_zero]
theorem own_m5 (p n : Int32) (h : n = ((p &&& (2147483647 : Int32)) % (5 : Int32))) : n = (0 : Int32) ∨ n = (1 : Int32) ∨ n = (2 : Int32) ∨ n = (3 : Int32) ∨ n = (4 : Int32) := by
  have h1 := c_and p 2147483647 (by decide)
  have h2 := (c_irem (p &&& 2147483647) 5 5 (by decide)).1 h1.1
  rw [← h] at h2
  simp only [← Int32.toInt_inj]
  have e0 : (0 : Int32).toInt = 0 := by decide
  have e1 : (1 : Int32).toInt = 1 := by decide
  have e2 : (2 : Int32).toInt = 2 := by decide
  have e3 : (3 : Int32).toInt = 3 := by decide
  have e4 : (4 : Int32).toInt = 4 := by decide
  rw [e0, e1, e2, e3, e4]
  omega
theorem d1_0 : decode prog_2_method_2_code 0 = .ok (.ldc2_w 13, 3) := by decide +kernel
theorem d1_3 : decode prog_2_method_2_code 3 = .ok (.lstore_n 1, 1) := by decide +kernel
theorem d1_4 : decode prog_2_method_2_code 4 = .ok (.aload_n 0, 1) := by decide +kernel
theorem d1_5 : decode prog_2_method_2_code 5 = .ok (.astore_n 3, 1) := by decide +kernel
theorem d1_6 : decode prog_2_method_2_code 6 = .ok (.aload_n 3, 1) := by decide +kernel
theorem d1_7 : decode prog_2_method_2_code 7 = .ok (.arraylength, 1) := by decide +kernel
theorem d1_8 : decode prog_2_method_2_code 8 = .ok (.istore 4, 2) := by decide +kernel
theorem d1_10 : decode prog_2_method_2_code 10 = .ok (.iconst 0, 1) := by decide +kernel
theorem d1_11 : decode prog_2_method_2_code 11 = .ok (.istore 5, 2) := by decide +kernel
theorem d1_13 : decode prog_2_method_2_code 13 = .ok (.iload 5, 2) := by decide +kernel
theorem d1_15 : decode prog_2_method_2_code 15 = .ok (.iload 4, 2) := by decide +kernel
theorem d1_17 : decode prog_2_method_2_code 17 = .ok (.if_icmp .ge 29, 3) := by decide +kernel
theorem d1_20 : decode prog_2_method_2_code 20 = .ok (.aload_n 3, 1) := by decide +kernel
theorem d1_21 : decode prog_2_method_2_code 21 = .ok (.iload 5, 2) := by decide +kernel
theorem d1_23 : decode prog_2_method_2_code 23 = .ok (.baload, 1) := by decide +kernel
theorem d1_24 : decode prog_2_method_2_code 24 = .ok (.istore 6, 2) := by decide +kernel
theorem d1_26 : decode prog_2_method_2_code 26 = .ok (.lload_n 1, 1) := by decide +kernel
theorem d1_27 : decode prog_2_method_2_code 27 = .ok (.iload 6, 2) := by decide +kernel
theorem d1_29 : decode prog_2_method_2_code 29 = .ok (.sipush 255, 3) := by decide +kernel
theorem d1_32 : decode prog_2_method_2_code 32 = .ok (.iand, 1) := by decide +kernel
theorem d1_33 : decode prog_2_method_2_code 33 = .ok (.i2l, 1) := by decide +kernel
theorem d1_34 : decode prog_2_method_2_code 34 = .ok (.lxor, 1) := by decide +kernel
theorem d1_35 : decode prog_2_method_2_code 35 = .ok (.ldc2_w 15, 3) := by decide +kernel
theorem d1_38 : decode prog_2_method_2_code 38 = .ok (.lmul, 1) := by decide +kernel
theorem d1_39 : decode prog_2_method_2_code 39 = .ok (.lstore_n 1, 1) := by decide +kernel
theorem d1_40 : decode prog_2_method_2_code 40 = .ok (.iinc 5 1, 3) := by decide +kernel
theorem d1_43 : decode prog_2_method_2_code 43 = .ok (.goto (-30), 3) := by decide +kernel
theorem d1_46 : decode prog_2_method_2_code 46 = .ok (.lload_n 1, 1) := by decide +kernel
theorem d1_47 : decode prog_2_method_2_code 47 = .ok (.lload_n 1, 1) := by decide +kernel
theorem d1_48 : decode prog_2_method_2_code 48 = .ok (.bipush 30, 2) := by decide +kernel
theorem d1_50 : decode prog_2_method_2_code 50 = .ok (.lushr, 1) := by decide +kernel
theorem d1_51 : decode prog_2_method_2_code 51 = .ok (.lxor, 1) := by decide +kernel
theorem d1_52 : decode prog_2_method_2_code 52 = .ok (.ldc2_w 17, 3) := by decide +kernel
theorem d1_55 : decode prog_2_method_2_code 55 = .ok (.lmul, 1) := by decide +kernel
theorem d1_56 : decode prog_2_method_2_code 56 = .ok (.lstore_n 1, 1) := by decide +kernel
theorem d1_57 : decode prog_2_method_2_code 57 = .ok (.lload_n 1, 1) := by decide +kernel
theorem d1_58 : decode prog_2_method_2_code 58 = .ok (.lload_n 1, 1) := by decide +kernel
theorem d1_59 : decode prog_2_method_2_code 59 = .ok (.bipush 27, 2) := by decide +kernel
theorem d1_61 : decode prog_2_method_2_code 61 = .ok (.lushr, 1) := by decide +kernel
theorem d1_62 : decode prog_2_method_2_code 62 = .ok (.lxor, 1) := by decide +kernel
theorem d1_63 : decode prog_2_method_2_code 63 = .ok (.ldc2_w 19, 3) := by decide +kernel
theorem d1_66 : decode prog_2_method_2_code 66 = .ok (.lmul, 1) := by decide +kernel
theorem d1_67 : decode prog_2_method_2_code 67 = .ok (.lstore_n 1, 1) := by decide +kernel
theorem d1_68 : decode prog_2_method_2_code 68 = .ok (.lload_n 1, 1) := by decide +kernel
theorem d1_69 : decode prog_2_method_2_code 69 = .ok (.lload_n 1, 1) := by decide +kernel
theorem d1_70 : decode prog_2_method_2_code 70 = .ok (.bipush 31, 2) := by decide +kernel
theorem d1_72 : decode prog_2_method_2_code 72 = .ok (.lushr, 1) := by decide +kernel
theorem d1_73 : decode prog_2_method_2_code 73 = .ok (.lxor, 1) := by decide +kernel
theorem d1_74 : decode prog_2_method_2_code 74 = .ok (.lreturn, 1) := by decide +kernel
theorem d2_0 : decode method_3_code 0 = .ok (.lload_n 0, 1) := by decide +kernel
theorem d2_1 : decode method_3_code 1 = .ok (.lstore_n 2, 1) := by decide +kernel
theorem d2_2 : decode method_3_code 2 = .ok (.lload_n 2, 1) := by decide +kernel
theorem d2_3 : decode method_3_code 3 = .ok (.ldc2_w 28, 3) := by decide +kernel
theorem d2_6 : decode method_3_code 6 = .ok (.lload_n 0, 1) := by decide +kernel
theorem d2_7 : decode method_3_code 7 = .ok (.lload_n 2, 1) := by decide +kernel
theorem d2_8 : decode method_3_code 8 = .ok (.lmul, 1) := by decide +kernel
theorem d2_9 : decode method_3_code 9 = .ok (.lsub, 1) := by decide +kernel
theorem d2_10 : decode method_3_code 10 = .ok (.lmul, 1) := by decide +kernel
theorem d2_11 : decode method_3_code 11 = .ok (.lstore_n 2, 1) := by decide +kernel
theorem d2_12 : decode method_3_code 12 = .ok (.lload_n 2, 1) := by decide +kernel
theorem d2_13 : decode method_3_code 13 = .ok (.ldc2_w 28, 3) := by decide +kernel
theorem d2_16 : decode method_3_code 16 = .ok (.lload_n 0, 1) := by decide +kernel
theorem d2_17 : decode method_3_code 17 = .ok (.lload_n 2, 1) := by decide +kernel
theorem d2_18 : decode method_3_code 18 = .ok (.lmul, 1) := by decide +kernel
theorem d2_19 : decode method_3_code 19 = .ok (.lsub, 1) := by decide +kernel
theorem d2_20 : decode method_3_code 20 = .ok (.lmul, 1) := by decide +kernel
theorem d2_21 : decode method_3_code 21 = .ok (.lstore_n 2, 1) := by decide +kernel
theorem d2_22 : decode method_3_code 22 = .ok (.lload_n 2, 1) := by decide +kernel
theorem d2_23 : decode method_3_code 23 = .ok (.ldc2_w 28, 3) := by decide +kernel
theorem d2_26 : decode method_3_code 26 = .ok (.lload_n 0, 1) := by decide +kernel
theorem d2_27 : decode method_3_code 27 = .ok (.lload_n 2, 1) := by decide +kernel
theorem d2_28 : decode method_3_code 28 = .ok (.lmul, 1) := by decide +kernel
theorem d2_29 : decode method_3_code 29 = .ok (.lsub, 1) := by decide +kernel
theorem d2_30 : decode method_3_code 30 = .ok (.lmul, 1) := by decide +kernel
theorem d2_31 : decode method_3_code 31 = .ok (.lstore_n 2, 1) := by decide +kernel
theorem d2_32 : decode method_3_code 32 = .ok (.lload_n 2, 1) := by decide +kernel
theorem d2_33 : decode method_3_code 33 = .ok (.ldc2_w 28, 3) := by decide +kernel
theorem d2_36 : decode method_3_code 36 = .ok (.lload_n 0, 1) := by decide +kernel
theorem d2_37 : decode method_3_code 37 = .ok (.lload_n 2, 1) := by decide +kernel
theorem d2_38 : decode method_3_code 38 = .ok (.lmul, 1) := by decide +kernel
theorem d2_39 : decode method_3_code 39 = .ok (.lsub, 1) := by decide +kernel
theorem d2_40 : decode method_3_code 40 = .ok (.lmul, 1) := by decide +kernel
theorem d2_41 : decode method_3_code 41 = .ok (.lstore_n 2, 1) := by decide +kernel
theorem d2_42 : decode method_3_code 42 = .ok (.lload_n 2, 1) := by decide +kernel
theorem d2_43 : decode method_3_code 43 = .ok (.ldc2_w 28, 3) := by decide +kernel
theorem d2_46 : decode method_3_code 46 = .ok (.lload_n 0, 1) := by decide +kernel
theorem d2_47 : decode method_3_code 47 = .ok (.lload_n 2, 1) := by decide +kernel
theorem d2_48 : decode method_3_code 48 = .ok (.lmul, 1) := by decide +kernel
theorem d2_49 : decode method_3_code 49 = .ok (.lsub, 1) := by decide +kernel
theorem d2_50 : decode method_3_code 50 = .ok (.lmul, 1) := by decide +kernel
theorem d2_51 : decode method_3_code 51 = .ok (.lstore_n 2, 1) := by decide +kernel
theorem d2_52 : decode method_3_code 52 = .ok (.lload_n 2, 1) := by decide +kernel
theorem d2_53 : decode method_3_code 53 = .ok (.lreturn, 1) := by decide +kernel
theorem pd_0 : parseMethodDescriptor "([B)J" = some ⟨[(.array .byte)], some .long⟩ := by decide +kernel
theorem pd_1 : parseMethodDescriptor "(J)J" = some ⟨[.long], some .long⟩ := by decide +kernel
theorem pn_2 : plainName "com/example/utsatt/utsatt/KeyHashesOfPinLaw" = true := by first | (simp [plainName, overriddenIn]; done) | decide +kernel
theorem pn_1 : plainName "com/example/utsatt/utsatt/KeyHashes" = true := by first | (simp [plainName, overriddenIn]; done) | decide +kernel
theorem ef_2 (m : MethodId) (x0 : Int64) : entryFrame m #[(.long x0)] 4 = mkF m 0 #[.val (.long x0), .second, .unset, .unset] [] := by first | (simp [entryFrame, mkF, argsToLocals, Value.category]; done) | rfl
theorem ef_of0 (m : MethodId) (x0 : Addr) : entryFrame m #[(.ref x0)] 7 = mkF m 0 #[.val (.ref x0), .unset, .unset, .unset, .unset, .unset, .unset] [] := by first | (simp [entryFrame, mkF, argsToLocals, Value.category]; done) | rfl
theorem ef_of1 (m : MethodId) (x0 : Addr) : entryFrame m #[(.ref x0)] 7 = mkF m 0 #[.val (.ref x0), .unset, .unset, .unset, .unset, .unset, .unset] [] := by first | (simp [entryFrame, mkF, argsToLocals, Value.category]; done) | rfl
theorem ef_of2 (m : MethodId) (x0 : Addr) : entryFrame m #[(.ref x0)] 7 = mkF m 0 #[.val (.ref x0), .unset, .unset, .unset, .unset, .unset, .unset] [] := by first | (simp [entryFrame, mkF, argsToLocals, Value.category]; done) | rfl
theorem ef_of3 (m : MethodId) (x0 : Addr) : entryFrame m #[(.ref x0)] 7 = mkF m 0 #[.val (.ref x0), .unset, .unset, .unset, .unset, .unset, .unset] [] := by first | (simp [entryFrame, mkF, argsToLocals, Value.category]; done) | rfl
theorem ef_of4 (m : MethodId) (x0 : Addr) : entryFrame m #[(.ref x0)] 7 = mkF m 0 #[.val (.ref x0), .unset, .unset, .unset, .unset, .unset, .unset] [] := by first | (simp [entryFrame, mkF, argsToLocals, Value.category]; done) | rfl
theorem ef_0 (m : MethodId) (x0 : Int32) (x1 : Int32) (x2 : Int32) (x3 : Int32) (x4 : Int32) : entryFrame m #[(.int x0), (.int x1), (.int x2), (.int x3), (.int x4)] maxLocals = mkF m 0 #[.val (.int x0), .val (.int x1), .val (.int x2), .val (.int x3), .val (.int x4), .unset, .unset, .unset, .unset, .unset, .unset, .unset, .unset, .unset, .unset] [] := by first | (simp [entryFrame, mkF, argsToLocals, Value.category, maxLocals]; done) | rfl
def Q2 (Z : State) (p1 : Int64) (h0 : Heap) (n0 : Nat) (v : Option Value) (h : Heap) (L : List Loc) : Prop := v = some (.long (own_inv p1)) ∧ Fr n0 L ∧ h = h0
set_option maxRecDepth 65536 in
set_option maxHeartbeats 40000000 in
theorem rm2 (l : Launch) (Z : State) (a0 : Array Value) (hw : ∀ d ∈ tables_1, d.before a0 Z = true) (ws : List Jvm.Cond) (p1 : Int64) (h0 : Heap) (n0 : Nat) (Z0 : n0 ≤ h0.size) :
    MetFree l (⟨"com/example/utsatt/utsatt/KeyHashesOfPinLaw", "inverse", "(J)J"⟩ : MethodName) (head1 (Jvm.Cond.code (⟨"com/example/utsatt/utsatt/KeyHashesOfPinLaw", "inverse", "(J)J"⟩ : MethodName) method_3_code 4 (some .long) :: ws) ({ frames := 0, cells := 0, slots := 0, locals := 0 } : Room)) (fun as_ U => as_ = #[(.long p1)] ∧ Z.Warmed39 U.vm ∧ U.heap = h0) (fun _ _ _ _ _ => True) (fun _ U o U' => ∃ v L, o = .returned v ∧ (Q2 Z p1 h0 n0) v U'.heap L ∧ FrameEnd U o U' L ({ frames := 0, cells := 0, slots := 0, locals := 0 } : Room).cells ({ frames := 0, cells := 0, slots := 0, locals := 0 } : Room).slots) := by
  refine own_met (plainFor_of_name pn_2) ?_
  intro p e s m below meth c s₁ X0 hx hby hml hret hlk hown hnm hZ e0
  have N0 := Fr.nil n0
  have Z_ := Z0
  refine OwnGo.cast (ef_2 m p1) ?_
  show OwnGo p e below s _ _ _ s₁ (mkF m 0 #[.val (.long p1), .second, .unset, .unset] [])
  refine OwnGo.st (fun _ k => XS.lloadN X0.here hx rfl (hb hby d2_0) rfl  k) ?_
  show OwnGo p e below s _ _ _ s₁ (mkF m 1 #[.val (.long p1), .second, .unset, .unset] [(.long p1)])
  refine OwnGo.st (fun _ k => XS.lstoreN X0.here hx rfl (hb hby d2_1) rfl (l' := #[.val (.long p1), .second, .val (.long p1), .second]) rfl k) ?_
  show OwnGo p e below s _ _ _ s₁ (mkF m 2 #[.val (.long p1), .second, .val (.long p1), .second] [])
  refine OwnGo.st (fun _ k => XS.lloadN X0.here hx rfl (hb hby d2_2) rfl  k) ?_
  show OwnGo p e below s _ _ _ s₁ (mkF m 3 #[.val (.long p1), .second, .val (.long p1), .second] [(.long p1)])
  refine OwnGo.st (fun _ k => X0.ldc2Long hx hown (mvT hZ (hw _ (List.mem_of_getElem? (i := 14) rfl))) (g := (mkF m 3 #[.val (.long p1), .second, .val (.long p1), .second] [(.long p1)])) rfl (hb hby d2_3) _ k) ?_
  show OwnGo p e below s _ _ _ s₁ (mkF m 6 #[.val (.long p1), .second, .val (.long p1), .second] [(.long (2 : Int64)), (.long p1)])
  refine OwnGo.st (fun _ k => XS.lloadN X0.here hx rfl (hb hby d2_6) rfl  k) ?_
  show OwnGo p e below s _ _ _ s₁ (mkF m 7 #[.val (.long p1), .second, .val (.long p1), .second] [(.long p1), (.long (2 : Int64)), (.long p1)])
  refine OwnGo.st (fun _ k => XS.lloadN X0.here hx rfl (hb hby d2_7) rfl  k) ?_
  show OwnGo p e below s _ _ _ s₁ (mkF m 8 #[.val (.long p1), .second, .val (.long p1), .second] [(.long p1), (.long p1), (.long (2 : Int64)), (.long p1)])
  refine OwnGo.st (fun _ k => XS.lmul X0.here hx rfl (hb hby d2_8) rfl k) ?_
  show OwnGo p e below s _ _ _ s₁ (mkF m 9 #[.val (.long p1), .second, .val (.long p1), .second] [(.long (p1 * p1)), (.long (2 : Int64)), (.long p1)])
  refine OwnGo.st (fun _ k => XS.lsub X0.here hx rfl (hb hby d2_9) rfl k) ?_
  show OwnGo p e below s _ _ _ s₁ (mkF m 10 #[.val (.long p1), .second, .val (.long p1), .second] [(.long ((2 : Int64) - (p1 * p1))), (.long p1)])
  refine OwnGo.st (fun _ k => XS.lmul X0.here hx rfl (hb hby d2_10) rfl k) ?_
  show OwnGo p e below s _ _ _ s₁ (mkF m 11 #[.val (.long p1), .second, .val (.long p1), .second] [(.long (p1 * ((2 : Int64) - (p1 * p1))))])
  show OwnGo p e below s _ _ _ s₁ (mkF m 11 #[.val (.long p1), .second, .val (.long p1), .second] [(.long (own_nw p1 p1))])
  refine OwnGo.st (fun _ k => XS.lstoreN X0.here hx rfl (hb hby d2_11) rfl (l' := #[.val (.long p1), .second, .val (.long (own_nw p1 p1)), .second]) rfl k) ?_
  show OwnGo p e below s _ _ _ s₁ (mkF m 12 #[.val (.long p1), .second, .val (.long (own_nw p1 p1)), .second] [])
  refine OwnGo.st (fun _ k => XS.lloadN X0.here hx rfl (hb hby d2_12) rfl  k) ?_
  show OwnGo p e below s _ _ _ s₁ (mkF m 13 #[.val (.long p1), .second, .val (.long (own_nw p1 p1)), .second] [(.long (own_nw p1 p1))])
  refine OwnGo.st (fun _ k => X0.ldc2Long hx hown (mvT hZ (hw _ (List.mem_of_getElem? (i := 14) rfl))) (g := (mkF m 13 #[.val (.long p1), .second, .val (.long (own_nw p1 p1)), .second] [(.long (own_nw p1 p1))])) rfl (hb hby d2_13) _ k) ?_
  show OwnGo p e below s _ _ _ s₁ (mkF m 16 #[.val (.long p1), .second, .val (.long (own_nw p1 p1)), .second] [(.long (2 : Int64)), (.long (own_nw p1 p1))])
  refine OwnGo.st (fun _ k => XS.lloadN X0.here hx rfl (hb hby d2_16) rfl  k) ?_
  show OwnGo p e below s _ _ _ s₁ (mkF m 17 #[.val (.long p1), .second, .val (.long (own_nw p1 p1)), .second] [(.long p1), (.long (2 : Int64)), (.long (own_nw p1 p1))])
  refine OwnGo.st (fun _ k => XS.lloadN X0.here hx rfl (hb hby d2_17) rfl  k) ?_
  show OwnGo p e below s _ _ _ s₁ (mkF m 18 #[.val (.long p1), .second, .val (.long (own_nw p1 p1)), .second] [(.long (own_nw p1 p1)), (.long p1), (.long (2 : Int64)), (.long (own_nw p1 p1))])
  refine OwnGo.st (fun _ k => XS.lmul X0.here hx rfl (hb hby d2_18) rfl k) ?_
  show OwnGo p e below s _ _ _ s₁ (mkF m 19 #[.val (.long p1), .second, .val (.long (own_nw p1 p1)), .second] [(.long (p1 * (own_nw p1 p1))), (.long (2 : Int64)), (.long (own_nw p1 p1))])
  refine OwnGo.st (fun _ k => XS.lsub X0.here hx rfl (hb hby d2_19) rfl k) ?_
  show OwnGo p e below s _ _ _ s₁ (mkF m 20 #[.val (.long p1), .second, .val (.long (own_nw p1 p1)), .second] [(.long ((2 : Int64) - (p1 * (own_nw p1 p1)))), (.long (own_nw p1 p1))])
  refine OwnGo.st (fun _ k => XS.lmul X0.here hx rfl (hb hby d2_20) rfl k) ?_
  show OwnGo p e below s _ _ _ s₁ (mkF m 21 #[.val (.long p1), .second, .val (.long (own_nw p1 p1)), .second] [(.long ((own_nw p1 p1) * ((2 : Int64) - (p1 * (own_nw p1 p1)))))])
  show OwnGo p e below s _ _ _ s₁ (mkF m 21 #[.val (.long p1), .second, .val (.long (own_nw p1 p1)), .second] [(.long (own_nw p1 (own_nw p1 p1)))])
  refine OwnGo.st (fun _ k => XS.lstoreN X0.here hx rfl (hb hby d2_21) rfl (l' := #[.val (.long p1), .second, .val (.long (own_nw p1 (own_nw p1 p1))), .second]) rfl k) ?_
  show OwnGo p e below s _ _ _ s₁ (mkF m 22 #[.val (.long p1), .second, .val (.long (own_nw p1 (own_nw p1 p1))), .second] [])
  refine OwnGo.st (fun _ k => XS.lloadN X0.here hx rfl (hb hby d2_22) rfl  k) ?_
  show OwnGo p e below s _ _ _ s₁ (mkF m 23 #[.val (.long p1), .second, .val (.long (own_nw p1 (own_nw p1 p1))), .second] [(.long (own_nw p1 (own_nw p1 p1)))])
  refine OwnGo.st (fun _ k => X0.ldc2Long hx hown (mvT hZ (hw _ (List.mem_of_getElem? (i := 14) rfl))) (g := (mkF m 23 #[.val (.long p1), .second, .val (.long (own_nw p1 (own_nw p1 p1))), .second] [(.long (own_nw p1 (own_nw p1 p1)))])) rfl (hb hby d2_23) _ k) ?_
  show OwnGo p e below s _ _ _ s₁ (mkF m 26 #[.val (.long p1), .second, .val (.long (own_nw p1 (own_nw p1 p1))), .second] [(.long (2 : Int64)), (.long (own_nw p1 (own_nw p1 p1)))])
  refine OwnGo.st (fun _ k => XS.lloadN X0.here hx rfl (hb hby d2_26) rfl  k) ?_
  show OwnGo p e below s _ _ _ s₁ (mkF m 27 #[.val (.long p1), .second, .val (.long (own_nw p1 (own_nw p1 p1))), .second] [(.long p1), (.long (2 : Int64)), (.long (own_nw p1 (own_nw p1 p1)))])
  refine OwnGo.st (fun _ k => XS.lloadN X0.here hx rfl (hb hby d2_27) rfl  k) ?_
  show OwnGo p e below s _ _ _ s₁ (mkF m 28 #[.val (.long p1), .second, .val (.long (own_nw p1 (own_nw p1 p1))), .second] [(.long (own_nw p1 (own_nw p1 p1))), (.long p1), (.long (2 : Int64)), (.long (own_nw p1 (own_nw p1 p1)))])
  refine OwnGo.st (fun _ k => XS.lmul X0.here hx rfl (hb hby d2_28) rfl k) ?_
  show OwnGo p e below s _ _ _ s₁ (mkF m 29 #[.val (.long p1), .second, .val (.long (own_nw p1 (own_nw p1 p1))), .second] [(.long (p1 * (own_nw p1 (own_nw p1 p1)))), (.long (2 : Int64)), (.long (own_nw p1 (own_nw p1 p1)))])
  refine OwnGo.st (fun _ k => XS.lsub X0.here hx rfl (hb hby d2_29) rfl k) ?_
  show OwnGo p e below s _ _ _ s₁ (mkF m 30 #[.val (.long p1), .second, .val (.long (own_nw p1 (own_nw p1 p1))), .second] [(.long ((2 : Int64) - (p1 * (own_nw p1 (own_nw p1 p1))))), (.long (own_nw p1 (own_nw p1 p1)))])
  refine OwnGo.st (fun _ k => XS.lmul X0.here hx rfl (hb hby d2_30) rfl k) ?_
  show OwnGo p e below s _ _ _ s₁ (mkF m 31 #[.val (.long p1), .second, .val (.long (own_nw p1 (own_nw p1 p1))), .second] [(.long ((own_nw p1 (own_nw p1 p1)) * ((2 : Int64) - (p1 * (own_nw p1 (own_nw p1 p1))))))])
  show OwnGo p e below s _ _ _ s₁ (mkF m 31 #[.val (.long p1), .second, .val (.long (own_nw p1 (own_nw p1 p1))), .second] [(.long (own_nw p1 (own_nw p1 (own_nw p1 p1))))])
  refine OwnGo.st (fun _ k => XS.lstoreN X0.here hx rfl (hb hby d2_31) rfl (l' := #[.val (.long p1), .second, .val (.long (own_nw p1 (own_nw p1 (own_nw p1 p1)))), .second]) rfl k) ?_
  show OwnGo p e below s _ _ _ s₁ (mkF m 32 #[.val (.long p1), .second, .val (.long (own_nw p1 (own_nw p1 (own_nw p1 p1)))), .second] [])
  refine OwnGo.st (fun _ k => XS.lloadN X0.here hx rfl (hb hby d2_32) rfl  k) ?_
  show OwnGo p e below s _ _ _ s₁ (mkF m 33 #[.val (.long p1), .second, .val (.long (own_nw p1 (own_nw p1 (own_nw p1 p1)))), .second] [(.long (own_nw p1 (own_nw p1 (own_nw p1 p1))))])
  refine OwnGo.st (fun _ k => X0.ldc2Long hx hown (mvT hZ (hw _ (List.mem_of_getElem? (i := 14) rfl))) (g := (mkF m 33 #[.val (.long p1), .second, .val (.long (own_nw p1 (own_nw p1 (own_nw p1 p1)))), .second] [(.long (own_nw p1 (own_nw p1 (own_nw p1 p1))))])) rfl (hb hby d2_33) _ k) ?_
  show OwnGo p e below s _ _ _ s₁ (mkF m 36 #[.val (.long p1), .second, .val (.long (own_nw p1 (own_nw p1 (own_nw p1 p1)))), .second] [(.long (2 : Int64)), (.long (own_nw p1 (own_nw p1 (own_nw p1 p1))))])
  refine OwnGo.st (fun _ k => XS.lloadN X0.here hx rfl (hb hby d2_36) rfl  k) ?_
  show OwnGo p e below s _ _ _ s₁ (mkF m 37 #[.val (.long p1), .second, .val (.long (own_nw p1 (own_nw p1 (own_nw p1 p1)))), .second] [(.long p1), (.long (2 : Int64)), (.long (own_nw p1 (own_nw p1 (own_nw p1 p1))))])
  refine OwnGo.st (fun _ k => XS.lloadN X0.here hx rfl (hb hby d2_37) rfl  k) ?_
  show OwnGo p e below s _ _ _ s₁ (mkF m 38 #[.val (.long p1), .second, .val (.long (own_nw p1 (own_nw p1 (own_nw p1 p1)))), .second] [(.long (own_nw p1 (own_nw p1 (own_nw p1 p1)))), (.long p1), (.long (2 : Int64)), (.long (own_nw p1 (own_nw p1 (own_nw p1 p1))))])
  refine OwnGo.st (fun _ k => XS.lmul X0.here hx rfl (hb hby d2_38) rfl k) ?_
  show OwnGo p e below s _ _ _ s₁ (mkF m 39 #[.val (.long p1), .second, .val (.long (own_nw p1 (own_nw p1 (own_nw p1 p1)))), .second] [(.long (p1 * (own_nw p1 (own_nw p1 (own_nw p1 p1))))), (.long (2 : Int64)), (.long (own_nw p1 (own_nw p1 (own_nw p1 p1))))])
  refine OwnGo.st (fun _ k => XS.lsub X0.here hx rfl (hb hby d2_39) rfl k) ?_
  show OwnGo p e below s _ _ _ s₁ (mkF m 40 #[.val (.long p1), .second, .val (.long (own_nw p1 (own_nw p1 (own_nw p1 p1)))), .second] [(.long ((2 : Int64) - (p1 * (own_nw p1 (own_nw p1 (own_nw p1 p1)))))), (.long (own_nw p1 (own_nw p1 (own_nw p1 p1))))])
  refine OwnGo.st (fun _ k => XS.lmul X0.here hx rfl (hb hby d2_40) rfl k) ?_
  show OwnGo p e below s _ _ _ s₁ (mkF m 41 #[.val (.long p1), .second, .val (.long (own_nw p1 (own_nw p1 (own_nw p1 p1)))), .second] [(.long ((own_nw p1 (own_nw p1 (own_nw p1 p1))) * ((2 : Int64) - (p1 * (own_nw p1 (own_nw p1 (own_nw p1 p1)))))))])
  show OwnGo p e below s _ _ _ s₁ (mkF m 41 #[.val (.long p1), .second, .val (.long (own_nw p1 (own_nw p1 (own_nw p1 p1)))), .second] [(.long (own_nw p1 (own_nw p1 (own_nw p1 (own_nw p1 p1)))))])
  refine OwnGo.st (fun _ k => XS.lstoreN X0.here hx rfl (hb hby d2_41) rfl (l' := #[.val (.long p1), .second, .val (.long (own_nw p1 (own_nw p1 (own_nw p1 (own_nw p1 p1))))), .second]) rfl k) ?_
  show OwnGo p e below s _ _ _ s₁ (mkF m 42 #[.val (.long p1), .second, .val (.long (own_nw p1 (own_nw p1 (own_nw p1 (own_nw p1 p1))))), .second] [])
  refine OwnGo.st (fun _ k => XS.lloadN X0.here hx rfl (hb hby d2_42) rfl  k) ?_
  show OwnGo p e below s _ _ _ s₁ (mkF m 43 #[.val (.long p1), .second, .val (.long (own_nw p1 (own_nw p1 (own_nw p1 (own_nw p1 p1))))), .second] [(.long (own_nw p1 (own_nw p1 (own_nw p1 (own_nw p1 p1)))))])
  refine OwnGo.st (fun _ k => X0.ldc2Long hx hown (mvT hZ (hw _ (List.mem_of_getElem? (i := 14) rfl))) (g := (mkF m 43 #[.val (.long p1), .second, .val (.long (own_nw p1 (own_nw p1 (own_nw p1 (own_nw p1 p1))))), .second] [(.long (own_nw p1 (own_nw p1 (own_nw p1 (own_nw p1 p1)))))])) rfl (hb hby d2_43) _ k) ?_
  show OwnGo p e below s _ _ _ s₁ (mkF m 46 #[.val (.long p1), .second, .val (.long (own_nw p1 (own_nw p1 (own_nw p1 (own_nw p1 p1))))), .second] [(.long (2 : Int64)), (.long (own_nw p1 (own_nw p1 (own_nw p1 (own_nw p1 p1)))))])
  refine OwnGo.st (fun _ k => XS.lloadN X0.here hx rfl (hb hby d2_46) rfl  k) ?_
  show OwnGo p e below s _ _ _ s₁ (mkF m 47 #[.val (.long p1), .second, .val (.long (own_nw p1 (own_nw p1 (own_nw p1 (own_nw p1 p1))))), .second] [(.long p1), (.long (2 : Int64)), (.long (own_nw p1 (own_nw p1 (own_nw p1 (own_nw p1 p1)))))])
  refine OwnGo.st (fun _ k => XS.lloadN X0.here hx rfl (hb hby d2_47) rfl  k) ?_
  show OwnGo p e below s _ _ _ s₁ (mkF m 48 #[.val (.long p1), .second, .val (.long (own_nw p1 (own_nw p1 (own_nw p1 (own_nw p1 p1))))), .second] [(.long (own_nw p1 (own_nw p1 (own_nw p1 (own_nw p1 p1))))), (.long p1), (.long (2 : Int64)), (.long (own_nw p1 (own_nw p1 (own_nw p1 (own_nw p1 p1)))))])
  refine OwnGo.st (fun _ k => XS.lmul X0.here hx rfl (hb hby d2_48) rfl k) ?_
  show OwnGo p e below s _ _ _ s₁ (mkF m 49 #[.val (.long p1), .second, .val (.long (own_nw p1 (own_nw p1 (own_nw p1 (own_nw p1 p1))))), .second] [(.long (p1 * (own_nw p1 (own_nw p1 (own_nw p1 (own_nw p1 p1)))))), (.long (2 : Int64)), (.long (own_nw p1 (own_nw p1 (own_nw p1 (own_nw p1 p1)))))])
  refine OwnGo.st (fun _ k => XS.lsub X0.here hx rfl (hb hby d2_49) rfl k) ?_
  show OwnGo p e below s _ _ _ s₁ (mkF m 50 #[.val (.long p1), .second, .val (.long (own_nw p1 (own_nw p1 (own_nw p1 (own_nw p1 p1))))), .second] [(.long ((2 : Int64) - (p1 * (own_nw p1 (own_nw p1 (own_nw p1 (own_nw p1 p1))))))), (.long (own_nw p1 (own_nw p1 (own_nw p1 (own_nw p1 p1)))))])
  refine OwnGo.st (fun _ k => XS.lmul X0.here hx rfl (hb hby d2_50) rfl k) ?_
  show OwnGo p e below s _ _ _ s₁ (mkF m 51 #[.val (.long p1), .second, .val (.long (own_nw p1 (own_nw p1 (own_nw p1 (own_nw p1 p1))))), .second] [(.long ((own_nw p1 (own_nw p1 (own_nw p1 (own_nw p1 p1)))) * ((2 : Int64) - (p1 * (own_nw p1 (own_nw p1 (own_nw p1 (own_nw p1 p1))))))))])
  show OwnGo p e below s _ _ _ s₁ (mkF m 51 #[.val (.long p1), .second, .val (.long (own_nw p1 (own_nw p1 (own_nw p1 (own_nw p1 p1))))), .second] [(.long (own_nw p1 (own_nw p1 (own_nw p1 (own_nw p1 (own_nw p1 p1))))))])
  refine OwnGo.st (fun _ k => XS.lstoreN X0.here hx rfl (hb hby d2_51) rfl (l' := #[.val (.long p1), .second, .val (.long (own_nw p1 (own_nw p1 (own_nw p1 (own_nw p1 (own_nw p1 p1)))))), .second]) rfl k) ?_
  show OwnGo p e below s _ _ _ s₁ (mkF m 52 #[.val (.long p1), .second, .val (.long (own_nw p1 (own_nw p1 (own_nw p1 (own_nw p1 (own_nw p1 p1)))))), .second] [])
  refine OwnGo.st (fun _ k => XS.lloadN X0.here hx rfl (hb hby d2_52) rfl  k) ?_
  show OwnGo p e below s _ _ _ s₁ (mkF m 53 #[.val (.long p1), .second, .val (.long (own_nw p1 (own_nw p1 (own_nw p1 (own_nw p1 (own_nw p1 p1)))))), .second] [(.long (own_nw p1 (own_nw p1 (own_nw p1 (own_nw p1 (own_nw p1 p1))))))])
  show OwnGo p e below s _ _ _ s₁ (mkF m 53 #[.val (.long p1), .second, .val (.long (own_nw p1 (own_nw p1 (own_nw p1 (own_nw p1 (own_nw p1 p1)))))), .second] [(.long (own_inv p1))])
  exact OwnGo.ret X0 hx hret hlk rfl (Or.inr (Or.inl ⟨rfl, rfl, _, rfl⟩)) (hb hby d2_53) (by show Q2 Z p1 h0 n0 _ s₁.heap _; rw [e0]; exact ⟨rfl, N0, rfl⟩) (by decide) (by decide)
def Qof0 (Z : State) (a : Addr) (kc : ClassId) (h0 : Heap) (n0 : Nat) (v : Option Value) (h : Heap) (L : List Loc) : Prop := v = some (.long (own_fin (-3750763034362895579 : Int64))) ∧ Fr n0 L ∧ h = h0
set_option maxRecDepth 65536 in
set_option maxHeartbeats 40000000 in
theorem rmof0 (l : Launch) (Z : State) (a0 : Array Value) (hw : ∀ d ∈ tables_1, d.before a0 Z = true) (ws : List Jvm.Cond) (a : Addr) (kc : ClassId) (h0 : Heap) (n0 : Nat) (Z0 : n0 ≤ h0.size) (V : Arv Z h0 a kc .byte (0 : Int32) [] (.int (0 : Int32))) :
    MetFree l (⟨"com/example/utsatt/utsatt/KeyHashes", "of", "([B)J"⟩ : MethodName) (head1 (Jvm.Cond.code (⟨"com/example/utsatt/utsatt/KeyHashes", "of", "([B)J"⟩ : MethodName) prog_2_method_2_code 7 (some .long) :: ws) ({ frames := 0, cells := 0, slots := 0, locals := 0 } : Room)) (fun as_ U => as_ = #[(.ref a)] ∧ Z.Warmed39 U.vm ∧ U.heap = h0) (fun _ _ _ _ _ => True) (fun _ U o U' => ∃ v L, o = .returned v ∧ (Qof0 Z a kc h0 n0) v U'.heap L ∧ FrameEnd U o U' L ({ frames := 0, cells := 0, slots := 0, locals := 0 } : Room).cells ({ frames := 0, cells := 0, slots := 0, locals := 0 } : Room).slots) := by
  refine own_met (plainFor_of_name pn_1) ?_
  intro p e s m below meth c s₁ X0 hx hby hml hret hlk hown hnm hZ e0
  have N0 := Fr.nil n0
  have Z_ := Z0
  refine OwnGo.cast (ef_of0 m a) ?_
  show OwnGo p e below s _ _ _ s₁ (mkF m 0 #[.val (.ref a), .unset, .unset, .unset, .unset, .unset, .unset] [])
  refine OwnGo.st (fun _ k => X0.ldc2Long hx hown (mvT hZ (hw _ (List.mem_of_getElem? (i := 6) rfl))) (g := (mkF m 0 #[.val (.ref a), .unset, .unset, .unset, .unset, .unset, .unset] [])) rfl (hb hby d1_0) _ k) ?_
  show OwnGo p e below s _ _ _ s₁ (mkF m 3 #[.val (.ref a), .unset, .unset, .unset, .unset, .unset, .unset] [(.long (-3750763034362895579 : Int64))])
  refine OwnGo.st (fun _ k => XS.lstoreN X0.here hx rfl (hb hby d1_3) rfl (l' := #[.val (.ref a), .val (.long (-3750763034362895579 : Int64)), .second, .unset, .unset, .unset, .unset]) rfl k) ?_
  show OwnGo p e below s _ _ _ s₁ (mkF m 4 #[.val (.ref a), .val (.long (-3750763034362895579 : Int64)), .second, .unset, .unset, .unset, .unset] [])
  refine OwnGo.st (fun _ k => XS.aloadN X0.here hx rfl (hb hby d1_4) rfl rfl  k) ?_
  show OwnGo p e below s _ _ _ s₁ (mkF m 5 #[.val (.ref a), .val (.long (-3750763034362895579 : Int64)), .second, .unset, .unset, .unset, .unset] [(.ref a)])
  refine OwnGo.st (fun _ k => XS.astoreN X0.here hx rfl (hb hby d1_5) rfl rfl (l' := #[.val (.ref a), .val (.long (-3750763034362895579 : Int64)), .second, .val (.ref a), .unset, .unset, .unset]) rfl k) ?_
  show OwnGo p e below s _ _ _ s₁ (mkF m 6 #[.val (.ref a), .val (.long (-3750763034362895579 : Int64)), .second, .val (.ref a), .unset, .unset, .unset] [])
  refine OwnGo.st (fun _ k => XS.aloadN X0.here hx rfl (hb hby d1_6) rfl rfl  k) ?_
  show OwnGo p e below s _ _ _ s₁ (mkF m 7 #[.val (.ref a), .val (.long (-3750763034362895579 : Int64)), .second, .val (.ref a), .unset, .unset, .unset] [(.ref a)])
  obtain ⟨cl1, Ar1, -, S1, N1, -, -⟩ := id V
  refine OwnGo.st (fun _ k => own_len hZ (len_of S1 N1) Ar1 X0 e0 hx (g := (mkF m 7 #[.val (.ref a), .val (.long (-3750763034362895579 : Int64)), .second, .val (.ref a), .unset, .unset, .unset] [(.ref a)])) rfl rfl (hb hby d1_7) _ k) ?_
  show OwnGo p e below s _ _ _ s₁ (mkF m 8 #[.val (.ref a), .val (.long (-3750763034362895579 : Int64)), .second, .val (.ref a), .unset, .unset, .unset] [(.int (0 : Int32))])
  refine OwnGo.st (fun _ k => XS.istore X0.here hx rfl (hb hby d1_8) rfl (l' := #[.val (.ref a), .val (.long (-3750763034362895579 : Int64)), .second, .val (.ref a), .val (.int (0 : Int32)), .unset, .unset]) rfl k) ?_
  show OwnGo p e below s _ _ _ s₁ (mkF m 10 #[.val (.ref a), .val (.long (-3750763034362895579 : Int64)), .second, .val (.ref a), .val (.int (0 : Int32)), .unset, .unset] [])
  refine OwnGo.st (fun _ k => XS.iconst X0.here hx rfl (hb hby d1_10) k) ?_
  show OwnGo p e below s _ _ _ s₁ (mkF m 11 #[.val (.ref a), .val (.long (-3750763034362895579 : Int64)), .second, .val (.ref a), .val (.int (0 : Int32)), .unset, .unset] [(.int (0 : Int32))])
  refine OwnGo.st (fun _ k => XS.istore X0.here hx rfl (hb hby d1_11) rfl (l' := #[.val (.ref a), .val (.long (-3750763034362895579 : Int64)), .second, .val (.ref a), .val (.int (0 : Int32)), .val (.int (0 : Int32)), .unset]) rfl k) ?_
  show OwnGo p e below s _ _ _ s₁ (mkF m 13 #[.val (.ref a), .val (.long (-3750763034362895579 : Int64)), .second, .val (.ref a), .val (.int (0 : Int32)), .val (.int (0 : Int32)), .unset] [])
  refine OwnGo.st (fun _ k => XS.iload X0.here hx rfl (hb hby d1_13) rfl  k) ?_
  show OwnGo p e below s _ _ _ s₁ (mkF m 15 #[.val (.ref a), .val (.long (-3750763034362895579 : Int64)), .second, .val (.ref a), .val (.int (0 : Int32)), .val (.int (0 : Int32)), .unset] [(.int (0 : Int32))])
  refine OwnGo.st (fun _ k => XS.iload X0.here hx rfl (hb hby d1_15) rfl  k) ?_
  show OwnGo p e below s _ _ _ s₁ (mkF m 17 #[.val (.ref a), .val (.long (-3750763034362895579 : Int64)), .second, .val (.ref a), .val (.int (0 : Int32)), .val (.int (0 : Int32)), .unset] [(.int (0 : Int32)), (.int (0 : Int32))])
  refine OwnGo.st (fun _ k => XS.icmpYes X0.here hx rfl (pc0 := 17) (pc' := 46) rfl (hb hby d1_17) rfl (flt ((by decide) : ¬ ((0 : Int32) < (0 : Int32)))).2.1 (by decide) (by decide) k) ?_
  show OwnGo p e below s _ _ _ s₁ (mkF m 46 #[.val (.ref a), .val (.long (-3750763034362895579 : Int64)), .second, .val (.ref a), .val (.int (0 : Int32)), .val (.int (0 : Int32)), .unset] [])
  refine OwnGo.st (fun _ k => XS.lloadN X0.here hx rfl (hb hby d1_46) rfl  k) ?_
  show OwnGo p e below s _ _ _ s₁ (mkF m 47 #[.val (.ref a), .val (.long (-3750763034362895579 : Int64)), .second, .val (.ref a), .val (.int (0 : Int32)), .val (.int (0 : Int32)), .unset] [(.long (-3750763034362895579 : Int64))])
  refine OwnGo.st (fun _ k => XS.lloadN X0.here hx rfl (hb hby d1_47) rfl  k) ?_
  show OwnGo p e below s _ _ _ s₁ (mkF m 48 #[.val (.ref a), .val (.long (-3750763034362895579 : Int64)), .second, .val (.ref a), .val (.int (0 : Int32)), .val (.int (0 : Int32)), .unset] [(.long (-3750763034362895579 : Int64)), (.long (-3750763034362895579 : Int64))])
  refine OwnGo.st (fun _ k => XS.bipush X0.here hx rfl (hb hby d1_48) k) ?_
  show OwnGo p e below s _ _ _ s₁ (mkF m 50 #[.val (.ref a), .val (.long (-3750763034362895579 : Int64)), .second, .val (.ref a), .val (.int (0 : Int32)), .val (.int (0 : Int32)), .unset] [(.int (30 : Int32)), (.long (-3750763034362895579 : Int64)), (.long (-3750763034362895579 : Int64))])
  refine OwnGo.st (fun _ k => XS.lushr X0.here hx rfl (hb hby d1_50) rfl k) ?_
  show OwnGo p e below s _ _ _ s₁ (mkF m 51 #[.val (.ref a), .val (.long (-3750763034362895579 : Int64)), .second, .val (.ref a), .val (.int (0 : Int32)), .val (.int (0 : Int32)), .unset] [(.long (((-3750763034362895579 : Int64).toUInt64 >>> ((30 : Int32) &&& 0x3f).toInt64.toUInt64).toInt64)), (.long (-3750763034362895579 : Int64))])
  refine OwnGo.st (fun _ k => XS.lxor X0.here hx rfl (hb hby d1_51) rfl k) ?_
  show OwnGo p e below s _ _ _ s₁ (mkF m 52 #[.val (.ref a), .val (.long (-3750763034362895579 : Int64)), .second, .val (.ref a), .val (.int (0 : Int32)), .val (.int (0 : Int32)), .unset] [(.long ((-3750763034362895579 : Int64) ^^^ (((-3750763034362895579 : Int64).toUInt64 >>> ((30 : Int32) &&& 0x3f).toInt64.toUInt64).toInt64)))])
  show OwnGo p e below s _ _ _ s₁ (mkF m 52 #[.val (.ref a), .val (.long (-3750763034362895579 : Int64)), .second, .val (.ref a), .val (.int (0 : Int32)), .val (.int (0 : Int32)), .unset] [(.long (own_xs (-3750763034362895579 : Int64) 30))])
  refine OwnGo.st (fun _ k => X0.ldc2Long hx hown (mvT hZ (hw _ (List.mem_of_getElem? (i := 7) rfl))) (g := (mkF m 52 #[.val (.ref a), .val (.long (-3750763034362895579 : Int64)), .second, .val (.ref a), .val (.int (0 : Int32)), .val (.int (0 : Int32)), .unset] [(.long (own_xs (-3750763034362895579 : Int64) 30))])) rfl (hb hby d1_52) _ k) ?_
  show OwnGo p e below s _ _ _ s₁ (mkF m 55 #[.val (.ref a), .val (.long (-3750763034362895579 : Int64)), .second, .val (.ref a), .val (.int (0 : Int32)), .val (.int (0 : Int32)), .unset] [(.long (-4658895280553007687 : Int64)), (.long (own_xs (-3750763034362895579 : Int64) 30))])
  refine OwnGo.st (fun _ k => XS.lmul X0.here hx rfl (hb hby d1_55) rfl k) ?_
  show OwnGo p e below s _ _ _ s₁ (mkF m 56 #[.val (.ref a), .val (.long (-3750763034362895579 : Int64)), .second, .val (.ref a), .val (.int (0 : Int32)), .val (.int (0 : Int32)), .unset] [(.long ((own_xs (-3750763034362895579 : Int64) 30) * (-4658895280553007687 : Int64)))])
  show OwnGo p e below s _ _ _ s₁ (mkF m 56 #[.val (.ref a), .val (.long (-3750763034362895579 : Int64)), .second, .val (.ref a), .val (.int (0 : Int32)), .val (.int (0 : Int32)), .unset] [(.long (own_f1 (-3750763034362895579 : Int64)))])
  refine OwnGo.st (fun _ k => XS.lstoreN X0.here hx rfl (hb hby d1_56) rfl (l' := #[.val (.ref a), .val (.long (own_f1 (-3750763034362895579 : Int64))), .second, .val (.ref a), .val (.int (0 : Int32)), .val (.int (0 : Int32)), .unset]) rfl k) ?_
  show OwnGo p e below s _ _ _ s₁ (mkF m 57 #[.val (.ref a), .val (.long (own_f1 (-3750763034362895579 : Int64))), .second, .val (.ref a), .val (.int (0 : Int32)), .val (.int (0 : Int32)), .unset] [])
  refine OwnGo.st (fun _ k => XS.lloadN X0.here hx rfl (hb hby d1_57) rfl  k) ?_
  show OwnGo p e below s _ _ _ s₁ (mkF m 58 #[.val (.ref a), .val (.long (own_f1 (-3750763034362895579 : Int64))), .second, .val (.ref a), .val (.int (0 : Int32)), .val (.int (0 : Int32)), .unset] [(.long (own_f1 (-3750763034362895579 : Int64)))])
  refine OwnGo.st (fun _ k => XS.lloadN X0.here hx rfl (hb hby d1_58) rfl  k) ?_
  show OwnGo p e below s _ _ _ s₁ (mkF m 59 #[.val (.ref a), .val (.long (own_f1 (-3750763034362895579 : Int64))), .second, .val (.ref a), .val (.int (0 : Int32)), .val (.int (0 : Int32)), .unset] [(.long (own_f1 (-3750763034362895579 : Int64))), (.long (own_f1 (-3750763034362895579 : Int64)))])
  refine OwnGo.st (fun _ k => XS.bipush X0.here hx rfl (hb hby d1_59) k) ?_
  show OwnGo p e below s _ _ _ s₁ (mkF m 61 #[.val (.ref a), .val (.long (own_f1 (-3750763034362895579 : Int64))), .second, .val (.ref a), .val (.int (0 : Int32)), .val (.int (0 : Int32)), .unset] [(.int (27 : Int32)), (.long (own_f1 (-3750763034362895579 : Int64))), (.long (own_f1 (-3750763034362895579 : Int64)))])
  refine OwnGo.st (fun _ k => XS.lushr X0.here hx rfl (hb hby d1_61) rfl k) ?_
  show OwnGo p e below s _ _ _ s₁ (mkF m 62 #[.val (.ref a), .val (.long (own_f1 (-3750763034362895579 : Int64))), .second, .val (.ref a), .val (.int (0 : Int32)), .val (.int (0 : Int32)), .unset] [(.long (((own_f1 (-3750763034362895579 : Int64)).toUInt64 >>> ((27 : Int32) &&& 0x3f).toInt64.toUInt64).toInt64)), (.long (own_f1 (-3750763034362895579 : Int64)))])
  refine OwnGo.st (fun _ k => XS.lxor X0.here hx rfl (hb hby d1_62) rfl k) ?_
  show OwnGo p e below s _ _ _ s₁ (mkF m 63 #[.val (.ref a), .val (.long (own_f1 (-3750763034362895579 : Int64))), .second, .val (.ref a), .val (.int (0 : Int32)), .val (.int (0 : Int32)), .unset] [(.long ((own_f1 (-3750763034362895579 : Int64)) ^^^ (((own_f1 (-3750763034362895579 : Int64)).toUInt64 >>> ((27 : Int32) &&& 0x3f).toInt64.toUInt64).toInt64)))])
  show OwnGo p e below s _ _ _ s₁ (mkF m 63 #[.val (.ref a), .val (.long (own_f1 (-3750763034362895579 : Int64))), .second, .val (.ref a), .val (.int (0 : Int32)), .val (.int (0 : Int32)), .unset] [(.long (own_xs (own_f1 (-3750763034362895579 : Int64)) 27))])
  refine OwnGo.st (fun _ k => X0.ldc2Long hx hown (mvT hZ (hw _ (List.mem_of_getElem? (i := 8) rfl))) (g := (mkF m 63 #[.val (.ref a), .val (.long (own_f1 (-3750763034362895579 : Int64))), .second, .val (.ref a), .val (.int (0 : Int32)), .val (.int (0 : Int32)), .unset] [(.long (own_xs (own_f1 (-3750763034362895579 : Int64)) 27))])) rfl (hb hby d1_63) _ k) ?_
  show OwnGo p e below s _ _ _ s₁ (mkF m 66 #[.val (.ref a), .val (.long (own_f1 (-3750763034362895579 : Int64))), .second, .val (.ref a), .val (.int (0 : Int32)), .val (.int (0 : Int32)), .unset] [(.long (-7723592293110705685 : Int64)), (.long (own_xs (own_f1 (-3750763034362895579 : Int64)) 27))])
  refine OwnGo.st (fun _ k => XS.lmul X0.here hx rfl (hb hby d1_66) rfl k) ?_
  show OwnGo p e below s _ _ _ s₁ (mkF m 67 #[.val (.ref a), .val (.long (own_f1 (-3750763034362895579 : Int64))), .second, .val (.ref a), .val (.int (0 : Int32)), .val (.int (0 : Int32)), .unset] [(.long ((own_xs (own_f1 (-3750763034362895579 : Int64)) 27) * (-7723592293110705685 : Int64)))])
  show OwnGo p e below s _ _ _ s₁ (mkF m 67 #[.val (.ref a), .val (.long (own_f1 (-3750763034362895579 : Int64))), .second, .val (.ref a), .val (.int (0 : Int32)), .val (.int (0 : Int32)), .unset] [(.long (own_f2 (-3750763034362895579 : Int64)))])
  refine OwnGo.st (fun _ k => XS.lstoreN X0.here hx rfl (hb hby d1_67) rfl (l' := #[.val (.ref a), .val (.long (own_f2 (-3750763034362895579 : Int64))), .second, .val (.ref a), .val (.int (0 : Int32)), .val (.int (0 : Int32)), .unset]) rfl k) ?_
  show OwnGo p e below s _ _ _ s₁ (mkF m 68 #[.val (.ref a), .val (.long (own_f2 (-3750763034362895579 : Int64))), .second, .val (.ref a), .val (.int (0 : Int32)), .val (.int (0 : Int32)), .unset] [])
  refine OwnGo.st (fun _ k => XS.lloadN X0.here hx rfl (hb hby d1_68) rfl  k) ?_
  show OwnGo p e below s _ _ _ s₁ (mkF m 69 #[.val (.ref a), .val (.long (own_f2 (-3750763034362895579 : Int64))), .second, .val (.ref a), .val (.int (0 : Int32)), .val (.int (0 : Int32)), .unset] [(.long (own_f2 (-3750763034362895579 : Int64)))])
  refine OwnGo.st (fun _ k => XS.lloadN X0.here hx rfl (hb hby d1_69) rfl  k) ?_
  show OwnGo p e below s _ _ _ s₁ (mkF m 70 #[.val (.ref a), .val (.long (own_f2 (-3750763034362895579 : Int64))), .second, .val (.ref a), .val (.int (0 : Int32)), .val (.int (0 : Int32)), .unset] [(.long (own_f2 (-3750763034362895579 : Int64))), (.long (own_f2 (-3750763034362895579 : Int64)))])
  refine OwnGo.st (fun _ k => XS.bipush X0.here hx rfl (hb hby d1_70) k) ?_
  show OwnGo p e below s _ _ _ s₁ (mkF m 72 #[.val (.ref a), .val (.long (own_f2 (-3750763034362895579 : Int64))), .second, .val (.ref a), .val (.int (0 : Int32)), .val (.int (0 : Int32)), .unset] [(.int (31 : Int32)), (.long (own_f2 (-3750763034362895579 : Int64))), (.long (own_f2 (-3750763034362895579 : Int64)))])
  refine OwnGo.st (fun _ k => XS.lushr X0.here hx rfl (hb hby d1_72) rfl k) ?_
  show OwnGo p e below s _ _ _ s₁ (mkF m 73 #[.val (.ref a), .val (.long (own_f2 (-3750763034362895579 : Int64))), .second, .val (.ref a), .val (.int (0 : Int32)), .val (.int (0 : Int32)), .unset] [(.long (((own_f2 (-3750763034362895579 : Int64)).toUInt64 >>> ((31 : Int32) &&& 0x3f).toInt64.toUInt64).toInt64)), (.long (own_f2 (-3750763034362895579 : Int64)))])
  refine OwnGo.st (fun _ k => XS.lxor X0.here hx rfl (hb hby d1_73) rfl k) ?_
  show OwnGo p e below s _ _ _ s₁ (mkF m 74 #[.val (.ref a), .val (.long (own_f2 (-3750763034362895579 : Int64))), .second, .val (.ref a), .val (.int (0 : Int32)), .val (.int (0 : Int32)), .unset] [(.long ((own_f2 (-3750763034362895579 : Int64)) ^^^ (((own_f2 (-3750763034362895579 : Int64)).toUInt64 >>> ((31 : Int32) &&& 0x3f).toInt64.toUInt64).toInt64)))])
  show OwnGo p e below s _ _ _ s₁ (mkF m 74 #[.val (.ref a), .val (.long (own_f2 (-3750763034362895579 : Int64))), .second, .val (.ref a), .val (.int (0 : Int32)), .val (.int (0 : Int32)), .unset] [(.long (own_fin (-3750763034362895579 : Int64)))])
  exact OwnGo.ret X0 hx hret hlk rfl (Or.inr (Or.inl ⟨rfl, rfl, _, rfl⟩)) (hb hby d1_74) (by show Qof0 Z a kc h0 n0 _ s₁.heap _; rw [e0]; exact ⟨rfl, N0, rfl⟩) (by decide) (by decide)
def Qof1 (Z : State) (a : Addr) (kc : ClassId) (b0 : Int32) (h0 : Heap) (n0 : Nat) (v : Option Value) (h : Heap) (L : List Loc) : Prop := v = some (.long (own_fin (own_step (-3750763034362895579 : Int64) b0))) ∧ Fr n0 L ∧ h = h0
set_option maxRecDepth 65536 in
set_option maxHeartbeats 40000000 in
theorem rmof1 (l : Launch) (Z : State) (a0 : Array Value) (hw : ∀ d ∈ tables_1, d.before a0 Z = true) (ws : List Jvm.Cond) (a : Addr) (kc : ClassId) (b0 : Int32) (h0 : Heap) (n0 : Nat) (Z0 : n0 ≤ h0.size) (V : Arv Z h0 a kc .byte (1 : Int32) [(.int b0)] (.int (0 : Int32))) :
    MetFree l (⟨"com/example/utsatt/utsatt/KeyHashes", "of", "([B)J"⟩ : MethodName) (head1 (Jvm.Cond.code (⟨"com/example/utsatt/utsatt/KeyHashes", "of", "([B)J"⟩ : MethodName) prog_2_method_2_code 7 (some .long) :: ws) ({ frames := 0, cells := 0, slots := 0, locals := 0 } : Room)) (fun as_ U => as_ = #[(.ref a)] ∧ Z.Warmed39 U.vm ∧ U.heap = h0) (fun _ _ _ _ _ => True) (fun _ U o U' => ∃ v L, o = .returned v ∧ (Qof1 Z a kc b0 h0 n0) v U'.heap L ∧ FrameEnd U o U' L ({ frames := 0, cells := 0, slots := 0, locals := 0 } : Room).cells ({ frames := 0, cells := 0, slots := 0, locals := 0 } : Room).slots) := by
  refine own_met (plainFor_of_name pn_1) ?_
  intro p e s m below meth c s₁ X0 hx hby hml hret hlk hown hnm hZ e0
  have N0 := Fr.nil n0
  have Z_ := Z0
  refine OwnGo.cast (ef_of1 m a) ?_
  show OwnGo p e below s _ _ _ s₁ (mkF m 0 #[.val (.ref a), .unset, .unset, .unset, .unset, .unset, .unset] [])
  refine OwnGo.st (fun _ k => X0.ldc2Long hx hown (mvT hZ (hw _ (List.mem_of_getElem? (i := 6) rfl))) (g := (mkF m 0 #[.val (.ref a), .unset, .unset, .unset, .unset, .unset, .unset] [])) rfl (hb hby d1_0) _ k) ?_
  show OwnGo p e below s _ _ _ s₁ (mkF m 3 #[.val (.ref a), .unset, .unset, .unset, .unset, .unset, .unset] [(.long (-3750763034362895579 : Int64))])
  refine OwnGo.st (fun _ k => XS.lstoreN X0.here hx rfl (hb hby d1_3) rfl (l' := #[.val (.ref a), .val (.long (-3750763034362895579 : Int64)), .second, .unset, .unset, .unset, .unset]) rfl k) ?_
  show OwnGo p e below s _ _ _ s₁ (mkF m 4 #[.val (.ref a), .val (.long (-3750763034362895579 : Int64)), .second, .unset, .unset, .unset, .unset] [])
  refine OwnGo.st (fun _ k => XS.aloadN X0.here hx rfl (hb hby d1_4) rfl rfl  k) ?_
  show OwnGo p e below s _ _ _ s₁ (mkF m 5 #[.val (.ref a), .val (.long (-3750763034362895579 : Int64)), .second, .unset, .unset, .unset, .unset] [(.ref a)])
  refine OwnGo.st (fun _ k => XS.astoreN X0.here hx rfl (hb hby d1_5) rfl rfl (l' := #[.val (.ref a), .val (.long (-3750763034362895579 : Int64)), .second, .val (.ref a), .unset, .unset, .unset]) rfl k) ?_
  show OwnGo p e below s _ _ _ s₁ (mkF m 6 #[.val (.ref a), .val (.long (-3750763034362895579 : Int64)), .second, .val (.ref a), .unset, .unset, .unset] [])
  refine OwnGo.st (fun _ k => XS.aloadN X0.here hx rfl (hb hby d1_6) rfl rfl  k) ?_
  show OwnGo p e below s _ _ _ s₁ (mkF m 7 #[.val (.ref a), .val (.long (-3750763034362895579 : Int64)), .second, .val (.ref a), .unset, .unset, .unset] [(.ref a)])
  obtain ⟨cl2, Ar2, -, S2, N2, -, -⟩ := id V
  refine OwnGo.st (fun _ k => own_len hZ (len_of S2 N2) Ar2 X0 e0 hx (g := (mkF m 7 #[.val (.ref a), .val (.long (-3750763034362895579 : Int64)), .second, .val (.ref a), .unset, .unset, .unset] [(.ref a)])) rfl rfl (hb hby d1_7) _ k) ?_
  show OwnGo p e below s _ _ _ s₁ (mkF m 8 #[.val (.ref a), .val (.long (-3750763034362895579 : Int64)), .second, .val (.ref a), .unset, .unset, .unset] [(.int (1 : Int32))])
  refine OwnGo.st (fun _ k => XS.istore X0.here hx rfl (hb hby d1_8) rfl (l' := #[.val (.ref a), .val (.long (-3750763034362895579 : Int64)), .second, .val (.ref a), .val (.int (1 : Int32)), .unset, .unset]) rfl k) ?_
  show OwnGo p e below s _ _ _ s₁ (mkF m 10 #[.val (.ref a), .val (.long (-3750763034362895579 : Int64)), .second, .val (.ref a), .val (.int (1 : Int32)), .unset, .unset] [])
  refine OwnGo.st (fun _ k => XS.iconst X0.here hx rfl (hb hby d1_10) k) ?_
  show OwnGo p e below s _ _ _ s₁ (mkF m 11 #[.val (.ref a), .val (.long (-3750763034362895579 : Int64)), .second, .val (.ref a), .val (.int (1 : Int32)), .unset, .unset] [(.int (0 : Int32))])
  refine OwnGo.st (fun _ k => XS.istore X0.here hx rfl (hb hby d1_11) rfl (l' := #[.val (.ref a), .val (.long (-3750763034362895579 : Int64)), .second, .val (.ref a), .val (.int (1 : Int32)), .val (.int (0 : Int32)), .unset]) rfl k) ?_
  show OwnGo p e below s _ _ _ s₁ (mkF m 13 #[.val (.ref a), .val (.long (-3750763034362895579 : Int64)), .second, .val (.ref a), .val (.int (1 : Int32)), .val (.int (0 : Int32)), .unset] [])
  refine OwnGo.st (fun _ k => XS.iload X0.here hx rfl (hb hby d1_13) rfl  k) ?_
  show OwnGo p e below s _ _ _ s₁ (mkF m 15 #[.val (.ref a), .val (.long (-3750763034362895579 : Int64)), .second, .val (.ref a), .val (.int (1 : Int32)), .val (.int (0 : Int32)), .unset] [(.int (0 : Int32))])
  refine OwnGo.st (fun _ k => XS.iload X0.here hx rfl (hb hby d1_15) rfl  k) ?_
  show OwnGo p e below s _ _ _ s₁ (mkF m 17 #[.val (.ref a), .val (.long (-3750763034362895579 : Int64)), .second, .val (.ref a), .val (.int (1 : Int32)), .val (.int (0 : Int32)), .unset] [(.int (1 : Int32)), (.int (0 : Int32))])
  refine OwnGo.st (fun _ k => XS.icmpNo X0.here hx rfl (hb hby d1_17) rfl (tlt ((by decide) : (0 : Int32) < (1 : Int32))).2.1 k) ?_
  show OwnGo p e below s _ _ _ s₁ (mkF m 20 #[.val (.ref a), .val (.long (-3750763034362895579 : Int64)), .second, .val (.ref a), .val (.int (1 : Int32)), .val (.int (0 : Int32)), .unset] [])
  refine OwnGo.st (fun _ k => XS.aloadN X0.here hx rfl (hb hby d1_20) rfl rfl  k) ?_
  show OwnGo p e below s _ _ _ s₁ (mkF m 21 #[.val (.ref a), .val (.long (-3750763034362895579 : Int64)), .second, .val (.ref a), .val (.int (1 : Int32)), .val (.int (0 : Int32)), .unset] [(.ref a)])
  refine OwnGo.st (fun _ k => XS.iload X0.here hx rfl (hb hby d1_21) rfl  k) ?_
  show OwnGo p e below s _ _ _ s₁ (mkF m 23 #[.val (.ref a), .val (.long (-3750763034362895579 : Int64)), .second, .val (.ref a), .val (.int (1 : Int32)), .val (.int (0 : Int32)), .unset] [(.int (0 : Int32)), (.ref a)])
  obtain ⟨cl3, Ar3, -, S3, -, H3, -⟩ := id V
  have hin3 : ¬ ((0 : Int32) < 0 ∨ cl3.slots.size ≤ ((0 : Int32)).toNatClampNeg) := inb_of S3 ⟨by decide, by decide⟩
  refine OwnGo.st (fun _ k => X0.baloadBytes hx (j := (0 : Int32)) (v := (.int b0)) (by rw [e0]; exact Ar3.1) (State.isArrayOf_alike hZ.alike Ar3.2.1) Ar3.2.2 hin3 (H3.at hin3 rfl) (g := (mkF m 23 #[.val (.ref a), .val (.long (-3750763034362895579 : Int64)), .second, .val (.ref a), .val (.int (1 : Int32)), .val (.int (0 : Int32)), .unset] [(.int (0 : Int32)), (.ref a)])) rfl rfl (hb hby d1_23) _ k) ?_
  show OwnGo p e below s _ _ _ s₁ (mkF m 24 #[.val (.ref a), .val (.long (-3750763034362895579 : Int64)), .second, .val (.ref a), .val (.int (1 : Int32)), .val (.int (0 : Int32)), .unset] [(.int b0)])
  refine OwnGo.st (fun _ k => XS.istore X0.here hx rfl (hb hby d1_24) rfl (l' := #[.val (.ref a), .val (.long (-3750763034362895579 : Int64)), .second, .val (.ref a), .val (.int (1 : Int32)), .val (.int (0 : Int32)), .val (.int b0)]) rfl k) ?_
  show OwnGo p e below s _ _ _ s₁ (mkF m 26 #[.val (.ref a), .val (.long (-3750763034362895579 : Int64)), .second, .val (.ref a), .val (.int (1 : Int32)), .val (.int (0 : Int32)), .val (.int b0)] [])
  refine OwnGo.st (fun _ k => XS.lloadN X0.here hx rfl (hb hby d1_26) rfl  k) ?_
  show OwnGo p e below s _ _ _ s₁ (mkF m 27 #[.val (.ref a), .val (.long (-3750763034362895579 : Int64)), .second, .val (.ref a), .val (.int (1 : Int32)), .val (.int (0 : Int32)), .val (.int b0)] [(.long (-3750763034362895579 : Int64))])
  refine OwnGo.st (fun _ k => XS.iload X0.here hx rfl (hb hby d1_27) rfl  k) ?_
  show OwnGo p e below s _ _ _ s₁ (mkF m 29 #[.val (.ref a), .val (.long (-3750763034362895579 : Int64)), .second, .val (.ref a), .val (.int (1 : Int32)), .val (.int (0 : Int32)), .val (.int b0)] [(.int b0), (.long (-3750763034362895579 : Int64))])
  refine OwnGo.st (fun _ k => XS.sipush X0.here hx rfl (hb hby d1_29) k) ?_
  show OwnGo p e below s _ _ _ s₁ (mkF m 32 #[.val (.ref a), .val (.long (-3750763034362895579 : Int64)), .second, .val (.ref a), .val (.int (1 : Int32)), .val (.int (0 : Int32)), .val (.int b0)] [(.int (255 : Int32)), (.int b0), (.long (-3750763034362895579 : Int64))])
  refine OwnGo.st (fun _ k => XS.iand X0.here hx rfl (hb hby d1_32) rfl k) ?_
  show OwnGo p e below s _ _ _ s₁ (mkF m 33 #[.val (.ref a), .val (.long (-3750763034362895579 : Int64)), .second, .val (.ref a), .val (.int (1 : Int32)), .val (.int (0 : Int32)), .val (.int b0)] [(.int (b0 &&& (255 : Int32))), (.long (-3750763034362895579 : Int64))])
  refine OwnGo.st (fun _ k => XS.i2l X0.here hx rfl (hb hby d1_33) rfl k) ?_
  show OwnGo p e below s _ _ _ s₁ (mkF m 34 #[.val (.ref a), .val (.long (-3750763034362895579 : Int64)), .second, .val (.ref a), .val (.int (1 : Int32)), .val (.int (0 : Int32)), .val (.int b0)] [(.long ((b0 &&& (255 : Int32)).toInt64)), (.long (-3750763034362895579 : Int64))])
  refine OwnGo.st (fun _ k => XS.lxor X0.here hx rfl (hb hby d1_34) rfl k) ?_
  show OwnGo p e below s _ _ _ s₁ (mkF m 35 #[.val (.ref a), .val (.long (-3750763034362895579 : Int64)), .second, .val (.ref a), .val (.int (1 : Int32)), .val (.int (0 : Int32)), .val (.int b0)] [(.long ((-3750763034362895579 : Int64) ^^^ ((b0 &&& (255 : Int32)).toInt64)))])
  refine OwnGo.st (fun _ k => X0.ldc2Long hx hown (mvT hZ (hw _ (List.mem_of_getElem? (i := 18) rfl))) (g := (mkF m 35 #[.val (.ref a), .val (.long (-3750763034362895579 : Int64)), .second, .val (.ref a), .val (.int (1 : Int32)), .val (.int (0 : Int32)), .val (.int b0)] [(.long ((-3750763034362895579 : Int64) ^^^ ((b0 &&& (255 : Int32)).toInt64)))])) rfl (hb hby d1_35) _ k) ?_
  show OwnGo p e below s _ _ _ s₁ (mkF m 38 #[.val (.ref a), .val (.long (-3750763034362895579 : Int64)), .second, .val (.ref a), .val (.int (1 : Int32)), .val (.int (0 : Int32)), .val (.int b0)] [(.long (1099511628211 : Int64)), (.long ((-3750763034362895579 : Int64) ^^^ ((b0 &&& (255 : Int32)).toInt64)))])
  refine OwnGo.st (fun _ k => XS.lmul X0.here hx rfl (hb hby d1_38) rfl k) ?_
  show OwnGo p e below s _ _ _ s₁ (mkF m 39 #[.val (.ref a), .val (.long (-3750763034362895579 : Int64)), .second, .val (.ref a), .val (.int (1 : Int32)), .val (.int (0 : Int32)), .val (.int b0)] [(.long (((-3750763034362895579 : Int64) ^^^ ((b0 &&& (255 : Int32)).toInt64)) * (1099511628211 : Int64)))])
  show OwnGo p e below s _ _ _ s₁ (mkF m 39 #[.val (.ref a), .val (.long (-3750763034362895579 : Int64)), .second, .val (.ref a), .val (.int (1 : Int32)), .val (.int (0 : Int32)), .val (.int b0)] [(.long (own_step (-3750763034362895579 : Int64) b0))])
  refine OwnGo.st (fun _ k => XS.lstoreN X0.here hx rfl (hb hby d1_39) rfl (l' := #[.val (.ref a), .val (.long (own_step (-3750763034362895579 : Int64) b0)), .second, .val (.ref a), .val (.int (1 : Int32)), .val (.int (0 : Int32)), .val (.int b0)]) rfl k) ?_
  show OwnGo p e below s _ _ _ s₁ (mkF m 40 #[.val (.ref a), .val (.long (own_step (-3750763034362895579 : Int64) b0)), .second, .val (.ref a), .val (.int (1 : Int32)), .val (.int (0 : Int32)), .val (.int b0)] [])
  refine OwnGo.st (fun _ k => XS.iinc X0.here hx rfl (hb hby d1_40) rfl (l' := #[.val (.ref a), .val (.long (own_step (-3750763034362895579 : Int64) b0)), .second, .val (.ref a), .val (.int (1 : Int32)), .val (.int ((0 : Int32) + (1 : Int32))), .val (.int b0)]) rfl k) ?_
  show OwnGo p e below s _ _ _ s₁ (mkF m 43 #[.val (.ref a), .val (.long (own_step (-3750763034362895579 : Int64) b0)), .second, .val (.ref a), .val (.int (1 : Int32)), .val (.int ((0 : Int32) + (1 : Int32))), .val (.int b0)] [])
  show OwnGo p e below s _ _ _ s₁ (mkF m 43 #[.val (.ref a), .val (.long (own_step (-3750763034362895579 : Int64) b0)), .second, .val (.ref a), .val (.int (1 : Int32)), .val (.int (1 : Int32)), .val (.int b0)] [])
  refine OwnGo.st (fun _ k => XS.goto X0.here hx rfl (pc0 := 43) (pc' := 13) rfl (hb hby d1_43) (by decide) (by decide) k) ?_
  show OwnGo p e below s _ _ _ s₁ (mkF m 13 #[.val (.ref a), .val (.long (own_step (-3750763034362895579 : Int64) b0)), .second, .val (.ref a), .val (.int (1 : Int32)), .val (.int (1 : Int32)), .val (.int b0)] [])
  refine OwnGo.st (fun _ k => XS.iload X0.here hx rfl (hb hby d1_13) rfl  k) ?_
  show OwnGo p e below s _ _ _ s₁ (mkF m 15 #[.val (.ref a), .val (.long (own_step (-3750763034362895579 : Int64) b0)), .second, .val (.ref a), .val (.int (1 : Int32)), .val (.int (1 : Int32)), .val (.int b0)] [(.int (1 : Int32))])
  refine OwnGo.st (fun _ k => XS.iload X0.here hx rfl (hb hby d1_15) rfl  k) ?_
  show OwnGo p e below s _ _ _ s₁ (mkF m 17 #[.val (.ref a), .val (.long (own_step (-3750763034362895579 : Int64) b0)), .second, .val (.ref a), .val (.int (1 : Int32)), .val (.int (1 : Int32)), .val (.int b0)] [(.int (1 : Int32)), (.int (1 : Int32))])
  refine OwnGo.st (fun _ k => XS.icmpYes X0.here hx rfl (pc0 := 17) (pc' := 46) rfl (hb hby d1_17) rfl (flt ((by decide) : ¬ ((1 : Int32) < (1 : Int32)))).2.1 (by decide) (by decide) k) ?_
  show OwnGo p e below s _ _ _ s₁ (mkF m 46 #[.val (.ref a), .val (.long (own_step (-3750763034362895579 : Int64) b0)), .second, .val (.ref a), .val (.int (1 : Int32)), .val (.int (1 : Int32)), .val (.int b0)] [])
  refine OwnGo.st (fun _ k => XS.lloadN X0.here hx rfl (hb hby d1_46) rfl  k) ?_
  show OwnGo p e below s _ _ _ s₁ (mkF m 47 #[.val (.ref a), .val (.long (own_step (-3750763034362895579 : Int64) b0)), .second, .val (.ref a), .val (.int (1 : Int32)), .val (.int (1 : Int32)), .val (.int b0)] [(.long (own_step (-3750763034362895579 : Int64) b0))])
  refine OwnGo.st (fun _ k => XS.lloadN X0.here hx rfl (hb hby d1_47) rfl  k) ?_
  show OwnGo p e below s _ _ _ s₁ (mkF m 48 #[.val (.ref a), .val (.long (own_step (-3750763034362895579 : Int64) b0)), .second, .val (.ref a), .val (.int (1 : Int32)), .val (.int (1 : Int32)), .val (.int b0)] [(.long (own_step (-3750763034362895579 : Int64) b0)), (.long (own_step (-3750763034362895579 : Int64) b0))])
  refine OwnGo.st (fun _ k => XS.bipush X0.here hx rfl (hb hby d1_48) k) ?_
  show OwnGo p e below s _ _ _ s₁ (mkF m 50 #[.val (.ref a), .val (.long (own_step (-3750763034362895579 : Int64) b0)), .second, .val (.ref a), .val (.int (1 : Int32)), .val (.int (1 : Int32)), .val (.int b0)] [(.int (30 : Int32)), (.long (own_step (-3750763034362895579 : Int64) b0)), (.long (own_step (-3750763034362895579 : Int64) b0))])
  refine OwnGo.st (fun _ k => XS.lushr X0.here hx rfl (hb hby d1_50) rfl k) ?_
  show OwnGo p e below s _ _ _ s₁ (mkF m 51 #[.val (.ref a), .val (.long (own_step (-3750763034362895579 : Int64) b0)), .second, .val (.ref a), .val (.int (1 : Int32)), .val (.int (1 : Int32)), .val (.int b0)] [(.long (((own_step (-3750763034362895579 : Int64) b0).toUInt64 >>> ((30 : Int32) &&& 0x3f).toInt64.toUInt64).toInt64)), (.long (own_step (-3750763034362895579 : Int64) b0))])
  refine OwnGo.st (fun _ k => XS.lxor X0.here hx rfl (hb hby d1_51) rfl k) ?_
  show OwnGo p e below s _ _ _ s₁ (mkF m 52 #[.val (.ref a), .val (.long (own_step (-3750763034362895579 : Int64) b0)), .second, .val (.ref a), .val (.int (1 : Int32)), .val (.int (1 : Int32)), .val (.int b0)] [(.long ((own_step (-3750763034362895579 : Int64) b0) ^^^ (((own_step (-3750763034362895579 : Int64) b0).toUInt64 >>> ((30 : Int32) &&& 0x3f).toInt64.toUInt64).toInt64)))])
  show OwnGo p e below s _ _ _ s₁ (mkF m 52 #[.val (.ref a), .val (.long (own_step (-3750763034362895579 : Int64) b0)), .second, .val (.ref a), .val (.int (1 : Int32)), .val (.int (1 : Int32)), .val (.int b0)] [(.long (own_xs (own_step (-3750763034362895579 : Int64) b0) 30))])
  refine OwnGo.st (fun _ k => X0.ldc2Long hx hown (mvT hZ (hw _ (List.mem_of_getElem? (i := 7) rfl))) (g := (mkF m 52 #[.val (.ref a), .val (.long (own_step (-3750763034362895579 : Int64) b0)), .second, .val (.ref a), .val (.int (1 : Int32)), .val (.int (1 : Int32)), .val (.int b0)] [(.long (own_xs (own_step (-3750763034362895579 : Int64) b0) 30))])) rfl (hb hby d1_52) _ k) ?_
  show OwnGo p e below s _ _ _ s₁ (mkF m 55 #[.val (.ref a), .val (.long (own_step (-3750763034362895579 : Int64) b0)), .second, .val (.ref a), .val (.int (1 : Int32)), .val (.int (1 : Int32)), .val (.int b0)] [(.long (-4658895280553007687 : Int64)), (.long (own_xs (own_step (-3750763034362895579 : Int64) b0) 30))])
  refine OwnGo.st (fun _ k => XS.lmul X0.here hx rfl (hb hby d1_55) rfl k) ?_
  show OwnGo p e below s _ _ _ s₁ (mkF m 56 #[.val (.ref a), .val (.long (own_step (-3750763034362895579 : Int64) b0)), .second, .val (.ref a), .val (.int (1 : Int32)), .val (.int (1 : Int32)), .val (.int b0)] [(.long ((own_xs (own_step (-3750763034362895579 : Int64) b0) 30) * (-4658895280553007687 : Int64)))])
  show OwnGo p e below s _ _ _ s₁ (mkF m 56 #[.val (.ref a), .val (.long (own_step (-3750763034362895579 : Int64) b0)), .second, .val (.ref a), .val (.int (1 : Int32)), .val (.int (1 : Int32)), .val (.int b0)] [(.long (own_f1 (own_step (-3750763034362895579 : Int64) b0)))])
  refine OwnGo.st (fun _ k => XS.lstoreN X0.here hx rfl (hb hby d1_56) rfl (l' := #[.val (.ref a), .val (.long (own_f1 (own_step (-3750763034362895579 : Int64) b0))), .second, .val (.ref a), .val (.int (1 : Int32)), .val (.int (1 : Int32)), .val (.int b0)]) rfl k) ?_
  show OwnGo p e below s _ _ _ s₁ (mkF m 57 #[.val (.ref a), .val (.long (own_f1 (own_step (-3750763034362895579 : Int64) b0))), .second, .val (.ref a), .val (.int (1 : Int32)), .val (.int (1 : Int32)), .val (.int b0)] [])
  refine OwnGo.st (fun _ k => XS.lloadN X0.here hx rfl (hb hby d1_57) rfl  k) ?_
  show OwnGo p e below s _ _ _ s₁ (mkF m 58 #[.val (.ref a), .val (.long (own_f1 (own_step (-3750763034362895579 : Int64) b0))), .second, .val (.ref a), .val (.int (1 : Int32)), .val (.int (1 : Int32)), .val (.int b0)] [(.long (own_f1 (own_step (-3750763034362895579 : Int64) b0)))])
  refine OwnGo.st (fun _ k => XS.lloadN X0.here hx rfl (hb hby d1_58) rfl  k) ?_
  show OwnGo p e below s _ _ _ s₁ (mkF m 59 #[.val (.ref a), .val (.long (own_f1 (own_step (-3750763034362895579 : Int64) b0))), .second, .val (.ref a), .val (.int (1 : Int32)), .val (.int (1 : Int32)), .val (.int b0)] [(.long (own_f1 (own_step (-3750763034362895579 : Int64) b0))), (.long (own_f1 (own_step (-3750763034362895579 : Int64) b0)))])
  refine OwnGo.st (fun _ k => XS.bipush X0.here hx rfl (hb hby d1_59) k) ?_
  show OwnGo p e below s _ _ _ s₁ (mkF m 61 #[.val (.ref a), .val (.long (own_f1 (own_step (-3750763034362895579 : Int64) b0))), .second, .val (.ref a), .val (.int (1 : Int32)), .val (.int (1 : Int32)), .val (.int b0)] [(.int (27 : Int32)), (.long (own_f1 (own_step (-3750763034362895579 : Int64) b0))), (.long (own_f1 (own_step (-3750763034362895579 : Int64) b0)))])
  refine OwnGo.st (fun _ k => XS.lushr X0.here hx rfl (hb hby d1_61) rfl k) ?_
  show OwnGo p e below s _ _ _ s₁ (mkF m 62 #[.val (.ref a), .val (.long (own_f1 (own_step (-3750763034362895579 : Int64) b0))), .second, .val (.ref a), .val (.int (1 : Int32)), .val (.int (1 : Int32)), .val (.int b0)] [(.long (((own_f1 (own_step (-3750763034362895579 : Int64) b0)).toUInt64 >>> ((27 : Int32) &&& 0x3f).toInt64.toUInt64).toInt64)), (.long (own_f1 (own_step (-3750763034362895579 : Int64) b0)))])
  refine OwnGo.st (fun _ k => XS.lxor X0.here hx rfl (hb hby d1_62) rfl k) ?_
  show OwnGo p e below s _ _ _ s₁ (mkF m 63 #[.val (.ref a), .val (.long (own_f1 (own_step (-3750763034362895579 : Int64) b0))), .second, .val (.ref a), .val (.int (1 : Int32)), .val (.int (1 : Int32)), .val (.int b0)] [(.long ((own_f1 (own_step (-3750763034362895579 : Int64) b0)) ^^^ (((own_f1 (own_step (-3750763034362895579 : Int64) b0)).toUInt64 >>> ((27 : Int32) &&& 0x3f).toInt64.toUInt64).toInt64)))])
  show OwnGo p e below s _ _ _ s₁ (mkF m 63 #[.val (.ref a), .val (.long (own_f1 (own_step (-3750763034362895579 : Int64) b0))), .second, .val (.ref a), .val (.int (1 : Int32)), .val (.int (1 : Int32)), .val (.int b0)] [(.long (own_xs (own_f1 (own_step (-3750763034362895579 : Int64) b0)) 27))])
  refine OwnGo.st (fun _ k => X0.ldc2Long hx hown (mvT hZ (hw _ (List.mem_of_getElem? (i := 8) rfl))) (g := (mkF m 63 #[.val (.ref a), .val (.long (own_f1 (own_step (-3750763034362895579 : Int64) b0))), .second, .val (.ref a), .val (.int (1 : Int32)), .val (.int (1 : Int32)), .val (.int b0)] [(.long (own_xs (own_f1 (own_step (-3750763034362895579 : Int64) b0)) 27))])) rfl (hb hby d1_63) _ k) ?_
  show OwnGo p e below s _ _ _ s₁ (mkF m 66 #[.val (.ref a), .val (.long (own_f1 (own_step (-3750763034362895579 : Int64) b0))), .second, .val (.ref a), .val (.int (1 : Int32)), .val (.int (1 : Int32)), .val (.int b0)] [(.long (-7723592293110705685 : Int64)), (.long (own_xs (own_f1 (own_step (-3750763034362895579 : Int64) b0)) 27))])
  refine OwnGo.st (fun _ k => XS.lmul X0.here hx rfl (hb hby d1_66) rfl k) ?_
  show OwnGo p e below s _ _ _ s₁ (mkF m 67 #[.val (.ref a), .val (.long (own_f1 (own_step (-3750763034362895579 : Int64) b0))), .second, .val (.ref a), .val (.int (1 : Int32)), .val (.int (1 : Int32)), .val (.int b0)] [(.long ((own_xs (own_f1 (own_step (-3750763034362895579 : Int64) b0)) 27) * (-7723592293110705685 : Int64)))])
  show OwnGo p e below s _ _ _ s₁ (mkF m 67 #[.val (.ref a), .val (.long (own_f1 (own_step (-3750763034362895579 : Int64) b0))), .second, .val (.ref a), .val (.int (1 : Int32)), .val (.int (1 : Int32)), .val (.int b0)] [(.long (own_f2 (own_step (-3750763034362895579 : Int64) b0)))])
  refine OwnGo.st (fun _ k => XS.lstoreN X0.here hx rfl (hb hby d1_67) rfl (l' := #[.val (.ref a), .val (.long (own_f2 (own_step (-3750763034362895579 : Int64) b0))), .second, .val (.ref a), .val (.int (1 : Int32)), .val (.int (1 : Int32)), .val (.int b0)]) rfl k) ?_
  show OwnGo p e below s _ _ _ s₁ (mkF m 68 #[.val (.ref a), .val (.long (own_f2 (own_step (-3750763034362895579 : Int64) b0))), .second, .val (.ref a), .val (.int (1 : Int32)), .val (.int (1 : Int32)), .val (.int b0)] [])
  refine OwnGo.st (fun _ k => XS.lloadN X0.here hx rfl (hb hby d1_68) rfl  k) ?_
  show OwnGo p e below s _ _ _ s₁ (mkF m 69 #[.val (.ref a), .val (.long (own_f2 (own_step (-3750763034362895579 : Int64) b0))), .second, .val (.ref a), .val (.int (1 : Int32)), .val (.int (1 : Int32)), .val (.int b0)] [(.long (own_f2 (own_step (-3750763034362895579 : Int64) b0)))])
  refine OwnGo.st (fun _ k => XS.lloadN X0.here hx rfl (hb hby d1_69) rfl  k) ?_
  show OwnGo p e below s _ _ _ s₁ (mkF m 70 #[.val (.ref a), .val (.long (own_f2 (own_step (-3750763034362895579 : Int64) b0))), .second, .val (.ref a), .val (.int (1 : Int32)), .val (.int (1 : Int32)), .val (.int b0)] [(.long (own_f2 (own_step (-3750763034362895579 : Int64) b0))), (.long (own_f2 (own_step (-3750763034362895579 : Int64) b0)))])
  refine OwnGo.st (fun _ k => XS.bipush X0.here hx rfl (hb hby d1_70) k) ?_
  show OwnGo p e below s _ _ _ s₁ (mkF m 72 #[.val (.ref a), .val (.long (own_f2 (own_step (-3750763034362895579 : Int64) b0))), .second, .val (.ref a), .val (.int (1 : Int32)), .val (.int (1 : Int32)), .val (.int b0)] [(.int (31 : Int32)), (.long (own_f2 (own_step (-3750763034362895579 : Int64) b0))), (.long (own_f2 (own_step (-3750763034362895579 : Int64) b0)))])
  refine OwnGo.st (fun _ k => XS.lushr X0.here hx rfl (hb hby d1_72) rfl k) ?_
  show OwnGo p e below s _ _ _ s₁ (mkF m 73 #[.val (.ref a), .val (.long (own_f2 (own_step (-3750763034362895579 : Int64) b0))), .second, .val (.ref a), .val (.int (1 : Int32)), .val (.int (1 : Int32)), .val (.int b0)] [(.long (((own_f2 (own_step (-3750763034362895579 : Int64) b0)).toUInt64 >>> ((31 : Int32) &&& 0x3f).toInt64.toUInt64).toInt64)), (.long (own_f2 (own_step (-3750763034362895579 : Int64) b0)))])
  refine OwnGo.st (fun _ k => XS.lxor X0.here hx rfl (hb hby d1_73) rfl k) ?_
  show OwnGo p e below s _ _ _ s₁ (mkF m 74 #[.val (.ref a), .val (.long (own_f2 (own_step (-3750763034362895579 : Int64) b0))), .second, .val (.ref a), .val (.int (1 : Int32)), .val (.int (1 : Int32)), .val (.int b0)] [(.long ((own_f2 (own_step (-3750763034362895579 : Int64) b0)) ^^^ (((own_f2 (own_step (-3750763034362895579 : Int64) b0)).toUInt64 >>> ((31 : Int32) &&& 0x3f).toInt64.toUInt64).toInt64)))])
  show OwnGo p e below s _ _ _ s₁ (mkF m 74 #[.val (.ref a), .val (.long (own_f2 (own_step (-3750763034362895579 : Int64) b0))), .second, .val (.ref a), .val (.int (1 : Int32)), .val (.int (1 : Int32)), .val (.int b0)] [(.long (own_fin (own_step (-3750763034362895579 : Int64) b0)))])
  exact OwnGo.ret X0 hx hret hlk rfl (Or.inr (Or.inl ⟨rfl, rfl, _, rfl⟩)) (hb hby d1_74) (by show Qof1 Z a kc b0 h0 n0 _ s₁.heap _; rw [e0]; exact ⟨rfl, N0, rfl⟩) (by decide) (by decide)
def Qof2 (Z : State) (a : Addr) (kc : ClassId) (b0 : Int32) (b1 : Int32) (h0 : Heap) (n0 : Nat) (v : Option Value) (h : Heap) (L : List Loc) : Prop := v = some (.long (own_fin (own_step (own_step (-3750763034362895579 : Int64) b0) b1))) ∧ Fr n0 L ∧ h = h0
set_option maxRecDepth 65536 in
set_option maxHeartbeats 40000000 in
theorem rmof2 (l : Launch) (Z : State) (a0 : Array Value) (hw : ∀ d ∈ tables_1, d.before a0 Z = true) (ws : List Jvm.Cond) (a : Addr) (kc : ClassId) (b0 : Int32) (b1 : Int32) (h0 : Heap) (n0 : Nat) (Z0 : n0 ≤ h0.size) (V : Arv Z h0 a kc .byte (2 : Int32) [(.int b0), (.int b1)] (.int (0 : Int32))) :
    MetFree l (⟨"com/example/utsatt/utsatt/KeyHashes", "of", "([B)J"⟩ : MethodName) (head1 (Jvm.Cond.code (⟨"com/example/utsatt/utsatt/KeyHashes", "of", "([B)J"⟩ : MethodName) prog_2_method_2_code 7 (some .long) :: ws) ({ frames := 0, cells := 0, slots := 0, locals := 0 } : Room)) (fun as_ U => as_ = #[(.ref a)] ∧ Z.Warmed39 U.vm ∧ U.heap = h0) (fun _ _ _ _ _ => True) (fun _ U o U' => ∃ v L, o = .returned v ∧ (Qof2 Z a kc b0 b1 h0 n0) v U'.heap L ∧ FrameEnd U o U' L ({ frames := 0, cells := 0, slots := 0, locals := 0 } : Room).cells ({ frames := 0, cells := 0, slots := 0, locals := 0 } : Room).slots) := by
  refine own_met (plainFor_of_name pn_1) ?_
  intro p e s m below meth c s₁ X0 hx hby hml hret hlk hown hnm hZ e0
  have N0 := Fr.nil n0
  have Z_ := Z0
  refine OwnGo.cast (ef_of2 m a) ?_
  show OwnGo p e below s _ _ _ s₁ (mkF m 0 #[.val (.ref a), .unset, .unset, .unset, .unset, .unset, .unset] [])
  refine OwnGo.st (fun _ k => X0.ldc2Long hx hown (mvT hZ (hw _ (List.mem_of_getElem? (i := 6) rfl))) (g := (mkF m 0 #[.val (.ref a), .unset, .unset, .unset, .unset, .unset, .unset] [])) rfl (hb hby d1_0) _ k) ?_
  show OwnGo p e below s _ _ _ s₁ (mkF m 3 #[.val (.ref a), .unset, .unset, .unset, .unset, .unset, .unset] [(.long (-3750763034362895579 : Int64))])
  refine OwnGo.st (fun _ k => XS.lstoreN X0.here hx rfl (hb hby d1_3) rfl (l' := #[.val (.ref a), .val (.long (-3750763034362895579 : Int64)), .second, .unset, .unset, .unset, .unset]) rfl k) ?_
  show OwnGo p e below s _ _ _ s₁ (mkF m 4 #[.val (.ref a), .val (.long (-3750763034362895579 : Int64)), .second, .unset, .unset, .unset, .unset] [])
  refine OwnGo.st (fun _ k => XS.aloadN X0.here hx rfl (hb hby d1_4) rfl rfl  k) ?_
  show OwnGo p e below s _ _ _ s₁ (mkF m 5 #[.val (.ref a), .val (.long (-3750763034362895579 : Int64)), .second, .unset, .unset, .unset, .unset] [(.ref a)])
  refine OwnGo.st (fun _ k => XS.astoreN X0.here hx rfl (hb hby d1_5) rfl rfl (l' := #[.val (.ref a), .val (.long (-3750763034362895579 : Int64)), .second, .val (.ref a), .unset, .unset, .unset]) rfl k) ?_
  show OwnGo p e below s _ _ _ s₁ (mkF m 6 #[.val (.ref a), .val (.long (-3750763034362895579 : Int64)), .second, .val (.ref a), .unset, .unset, .unset] [])
  refine OwnGo.st (fun _ k => XS.aloadN X0.here hx rfl (hb hby d1_6) rfl rfl  k) ?_
  show OwnGo p e below s _ _ _ s₁ (mkF m 7 #[.val (.ref a), .val (.long (-3750763034362895579 : Int64)), .second, .val (.ref a), .unset, .unset, .unset] [(.ref a)])
  obtain ⟨cl4, Ar4, -, S4, N4, -, -⟩ := id V
  refine OwnGo.st (fun _ k => own_len hZ (len_of S4 N4) Ar4 X0 e0 hx (g := (mkF m 7 #[.val (.ref a), .val (.long (-3750763034362895579 : Int64)), .second, .val (.ref a), .unset, .unset, .unset] [(.ref a)])) rfl rfl (hb hby d1_7) _ k) ?_
  show OwnGo p e below s _ _ _ s₁ (mkF m 8 #[.val (.ref a), .val (.long (-3750763034362895579 : Int64)), .second, .val (.ref a), .unset, .unset, .unset] [(.int (2 : Int32))])
  refine OwnGo.st (fun _ k => XS.istore X0.here hx rfl (hb hby d1_8) rfl (l' := #[.val (.ref a), .val (.long (-3750763034362895579 : Int64)), .second, .val (.ref a), .val (.int (2 : Int32)), .unset, .unset]) rfl k) ?_
  show OwnGo p e below s _ _ _ s₁ (mkF m 10 #[.val (.ref a), .val (.long (-3750763034362895579 : Int64)), .second, .val (.ref a), .val (.int (2 : Int32)), .unset, .unset] [])
  refine OwnGo.st (fun _ k => XS.iconst X0.here hx rfl (hb hby d1_10) k) ?_
  show OwnGo p e below s _ _ _ s₁ (mkF m 11 #[.val (.ref a), .val (.long (-3750763034362895579 : Int64)), .second, .val (.ref a), .val (.int (2 : Int32)), .unset, .unset] [(.int (0 : Int32))])
  refine OwnGo.st (fun _ k => XS.istore X0.here hx rfl (hb hby d1_11) rfl (l' := #[.val (.ref a), .val (.long (-3750763034362895579 : Int64)), .second, .val (.ref a), .val (.int (2 : Int32)), .val (.int (0 : Int32)), .unset]) rfl k) ?_
  show OwnGo p e below s _ _ _ s₁ (mkF m 13 #[.val (.ref a), .val (.long (-3750763034362895579 : Int64)), .second, .val (.ref a), .val (.int (2 : Int32)), .val (.int (0 : Int32)), .unset] [])
  refine OwnGo.st (fun _ k => XS.iload X0.here hx rfl (hb hby d1_13) rfl  k) ?_
  show OwnGo p e below s _ _ _ s₁ (mkF m 15 #[.val (.ref a), .val (.long (-3750763034362895579 : Int64)), .second, .val (.ref a), .val (.int (2 : Int32)), .val (.int (0 : Int32)), .unset] [(.int (0 : Int32))])
  refine OwnGo.st (fun _ k => XS.iload X0.here hx rfl (hb hby d1_15) rfl  k) ?_
  show OwnGo p e below s _ _ _ s₁ (mkF m 17 #[.val (.ref a), .val (.long (-3750763034362895579 : Int64)), .second, .val (.ref a), .val (.int (2 : Int32)), .val (.int (0 : Int32)), .unset] [(.int (2 : Int32)), (.int (0 : Int32))])
  refine OwnGo.st (fun _ k => XS.icmpNo X0.here hx rfl (hb hby d1_17) rfl (tlt ((by decide) : (0 : Int32) < (2 : Int32))).2.1 k) ?_
  show OwnGo p e below s _ _ _ s₁ (mkF m 20 #[.val (.ref a), .val (.long (-3750763034362895579 : Int64)), .second, .val (.ref a), .val (.int (2 : Int32)), .val (.int (0 : Int32)), .unset] [])
  refine OwnGo.st (fun _ k => XS.aloadN X0.here hx rfl (hb hby d1_20) rfl rfl  k) ?_
  show OwnGo p e below s _ _ _ s₁ (mkF m 21 #[.val (.ref a), .val (.long (-3750763034362895579 : Int64)), .second, .val (.ref a), .val (.int (2 : Int32)), .val (.int (0 : Int32)), .unset] [(.ref a)])
  refine OwnGo.st (fun _ k => XS.iload X0.here hx rfl (hb hby d1_21) rfl  k) ?_
  show OwnGo p e below s _ _ _ s₁ (mkF m 23 #[.val (.ref a), .val (.long (-3750763034362895579 : Int64)), .second, .val (.ref a), .val (.int (2 : Int32)), .val (.int (0 : Int32)), .unset] [(.int (0 : Int32)), (.ref a)])
  obtain ⟨cl5, Ar5, -, S5, -, H5, -⟩ := id V
  have hin5 : ¬ ((0 : Int32) < 0 ∨ cl5.slots.size ≤ ((0 : Int32)).toNatClampNeg) := inb_of S5 ⟨by decide, by decide⟩
  refine OwnGo.st (fun _ k => X0.baloadBytes hx (j := (0 : Int32)) (v := (.int b0)) (by rw [e0]; exact Ar5.1) (State.isArrayOf_alike hZ.alike Ar5.2.1) Ar5.2.2 hin5 (H5.at hin5 rfl) (g := (mkF m 23 #[.val (.ref a), .val (.long (-3750763034362895579 : Int64)), .second, .val (.ref a), .val (.int (2 : Int32)), .val (.int (0 : Int32)), .unset] [(.int (0 : Int32)), (.ref a)])) rfl rfl (hb hby d1_23) _ k) ?_
  show OwnGo p e below s _ _ _ s₁ (mkF m 24 #[.val (.ref a), .val (.long (-3750763034362895579 : Int64)), .second, .val (.ref a), .val (.int (2 : Int32)), .val (.int (0 : Int32)), .unset] [(.int b0)])
  refine OwnGo.st (fun _ k => XS.istore X0.here hx rfl (hb hby d1_24) rfl (l' := #[.val (.ref a), .val (.long (-3750763034362895579 : Int64)), .second, .val (.ref a), .val (.int (2 : Int32)), .val (.int (0 : Int32)), .val (.int b0)]) rfl k) ?_
  show OwnGo p e below s _ _ _ s₁ (mkF m 26 #[.val (.ref a), .val (.long (-3750763034362895579 : Int64)), .second, .val (.ref a), .val (.int (2 : Int32)), .val (.int (0 : Int32)), .val (.int b0)] [])
  refine OwnGo.st (fun _ k => XS.lloadN X0.here hx rfl (hb hby d1_26) rfl  k) ?_
  show OwnGo p e below s _ _ _ s₁ (mkF m 27 #[.val (.ref a), .val (.long (-3750763034362895579 : Int64)), .second, .val (.ref a), .val (.int (2 : Int32)), .val (.int (0 : Int32)), .val (.int b0)] [(.long (-3750763034362895579 : Int64))])
  refine OwnGo.st (fun _ k => XS.iload X0.here hx rfl (hb hby d1_27) rfl  k) ?_
  show OwnGo p e below s _ _ _ s₁ (mkF m 29 #[.val (.ref a), .val (.long (-3750763034362895579 : Int64)), .second, .val (.ref a), .val (.int (2 : Int32)), .val (.int (0 : Int32)), .val (.int b0)] [(.int b0), (.long (-3750763034362895579 : Int64))])
  refine OwnGo.st (fun _ k => XS.sipush X0.here hx rfl (hb hby d1_29) k) ?_
  show OwnGo p e below s _ _ _ s₁ (mkF m 32 #[.val (.ref a), .val (.long (-3750763034362895579 : Int64)), .second, .val (.ref a), .val (.int (2 : Int32)), .val (.int (0 : Int32)), .val (.int b0)] [(.int (255 : Int32)), (.int b0), (.long (-3750763034362895579 : Int64))])
  refine OwnGo.st (fun _ k => XS.iand X0.here hx rfl (hb hby d1_32) rfl k) ?_
  show OwnGo p e below s _ _ _ s₁ (mkF m 33 #[.val (.ref a), .val (.long (-3750763034362895579 : Int64)), .second, .val (.ref a), .val (.int (2 : Int32)), .val (.int (0 : Int32)), .val (.int b0)] [(.int (b0 &&& (255 : Int32))), (.long (-3750763034362895579 : Int64))])
  refine OwnGo.st (fun _ k => XS.i2l X0.here hx rfl (hb hby d1_33) rfl k) ?_
  show OwnGo p e below s _ _ _ s₁ (mkF m 34 #[.val (.ref a), .val (.long (-3750763034362895579 : Int64)), .second, .val (.ref a), .val (.int (2 : Int32)), .val (.int (0 : Int32)), .val (.int b0)] [(.long ((b0 &&& (255 : Int32)).toInt64)), (.long (-3750763034362895579 : Int64))])
  refine OwnGo.st (fun _ k => XS.lxor X0.here hx rfl (hb hby d1_34) rfl k) ?_
  show OwnGo p e below s _ _ _ s₁ (mkF m 35 #[.val (.ref a), .val (.long (-3750763034362895579 : Int64)), .second, .val (.ref a), .val (.int (2 : Int32)), .val (.int (0 : Int32)), .val (.int b0)] [(.long ((-3750763034362895579 : Int64) ^^^ ((b0 &&& (255 : Int32)).toInt64)))])
  refine OwnGo.st (fun _ k => X0.ldc2Long hx hown (mvT hZ (hw _ (List.mem_of_getElem? (i := 18) rfl))) (g := (mkF m 35 #[.val (.ref a), .val (.long (-3750763034362895579 : Int64)), .second, .val (.ref a), .val (.int (2 : Int32)), .val (.int (0 : Int32)), .val (.int b0)] [(.long ((-3750763034362895579 : Int64) ^^^ ((b0 &&& (255 : Int32)).toInt64)))])) rfl (hb hby d1_35) _ k) ?_
  show OwnGo p e below s _ _ _ s₁ (mkF m 38 #[.val (.ref a), .val (.long (-3750763034362895579 : Int64)), .second, .val (.ref a), .val (.int (2 : Int32)), .val (.int (0 : Int32)), .val (.int b0)] [(.long (1099511628211 : Int64)), (.long ((-3750763034362895579 : Int64) ^^^ ((b0 &&& (255 : Int32)).toInt64)))])
  refine OwnGo.st (fun _ k => XS.lmul X0.here hx rfl (hb hby d1_38) rfl k) ?_
  show OwnGo p e below s _ _ _ s₁ (mkF m 39 #[.val (.ref a), .val (.long (-3750763034362895579 : Int64)), .second, .val (.ref a), .val (.int (2 : Int32)), .val (.int (0 : Int32)), .val (.int b0)] [(.long (((-3750763034362895579 : Int64) ^^^ ((b0 &&& (255 : Int32)).toInt64)) * (1099511628211 : Int64)))])
  show OwnGo p e below s _ _ _ s₁ (mkF m 39 #[.val (.ref a), .val (.long (-3750763034362895579 : Int64)), .second, .val (.ref a), .val (.int (2 : Int32)), .val (.int (0 : Int32)), .val (.int b0)] [(.long (own_step (-3750763034362895579 : Int64) b0))])
  refine OwnGo.st (fun _ k => XS.lstoreN X0.here hx rfl (hb hby d1_39) rfl (l' := #[.val (.ref a), .val (.long (own_step (-3750763034362895579 : Int64) b0)), .second, .val (.ref a), .val (.int (2 : Int32)), .val (.int (0 : Int32)), .val (.int b0)]) rfl k) ?_
  show OwnGo p e below s _ _ _ s₁ (mkF m 40 #[.val (.ref a), .val (.long (own_step (-3750763034362895579 : Int64) b0)), .second, .val (.ref a), .val (.int (2 : Int32)), .val (.int (0 : Int32)), .val (.int b0)] [])
  refine OwnGo.st (fun _ k => XS.iinc X0.here hx rfl (hb hby d1_40) rfl (l' := #[.val (.ref a), .val (.long (own_step (-3750763034362895579 : Int64) b0)), .second, .val (.ref a), .val (.int (2 : Int32)), .val (.int ((0 : Int32) + (1 : Int32))), .val (.int b0)]) rfl k) ?_
  show OwnGo p e below s _ _ _ s₁ (mkF m 43 #[.val (.ref a), .val (.long (own_step (-3750763034362895579 : Int64) b0)), .second, .val (.ref a), .val (.int (2 : Int32)), .val (.int ((0 : Int32) + (1 : Int32))), .val (.int b0)] [])
  show OwnGo p e below s _ _ _ s₁ (mkF m 43 #[.val (.ref a), .val (.long (own_step (-3750763034362895579 : Int64) b0)), .second, .val (.ref a), .val (.int (2 : Int32)), .val (.int (1 : Int32)), .val (.int b0)] [])
  refine OwnGo.st (fun _ k => XS.goto X0.here hx rfl (pc0 := 43) (pc' := 13) rfl (hb hby d1_43) (by decide) (by decide) k) ?_
  show OwnGo p e below s _ _ _ s₁ (mkF m 13 #[.val (.ref a), .val (.long (own_step (-3750763034362895579 : Int64) b0)), .second, .val (.ref a), .val (.int (2 : Int32)), .val (.int (1 : Int32)), .val (.int b0)] [])
  refine OwnGo.st (fun _ k => XS.iload X0.here hx rfl (hb hby d1_13) rfl  k) ?_
  show OwnGo p e below s _ _ _ s₁ (mkF m 15 #[.val (.ref a), .val (.long (own_step (-3750763034362895579 : Int64) b0)), .second, .val (.ref a), .val (.int (2 : Int32)), .val (.int (1 : Int32)), .val (.int b0)] [(.int (1 : Int32))])
  refine OwnGo.st (fun _ k => XS.iload X0.here hx rfl (hb hby d1_15) rfl  k) ?_
  show OwnGo p e below s _ _ _ s₁ (mkF m 17 #[.val (.ref a), .val (.long (own_step (-3750763034362895579 : Int64) b0)), .second, .val (.ref a), .val (.int (2 : Int32)), .val (.int (1 : Int32)), .val (.int b0)] [(.int (2 : Int32)), (.int (1 : Int32))])
  refine OwnGo.st (fun _ k => XS.icmpNo X0.here hx rfl (hb hby d1_17) rfl (tlt ((by decide) : (1 : Int32) < (2 : Int32))).2.1 k) ?_
  show OwnGo p e below s _ _ _ s₁ (mkF m 20 #[.val (.ref a), .val (.long (own_step (-3750763034362895579 : Int64) b0)), .second, .val (.ref a), .val (.int (2 : Int32)), .val (.int (1 : Int32)), .val (.int b0)] [])
  refine OwnGo.st (fun _ k => XS.aloadN X0.here hx rfl (hb hby d1_20) rfl rfl  k) ?_
  show OwnGo p e below s _ _ _ s₁ (mkF m 21 #[.val (.ref a), .val (.long (own_step (-3750763034362895579 : Int64) b0)), .second, .val (.ref a), .val (.int (2 : Int32)), .val (.int (1 : Int32)), .val (.int b0)] [(.ref a)])
  refine OwnGo.st (fun _ k => XS.iload X0.here hx rfl (hb hby d1_21) rfl  k) ?_
  show OwnGo p e below s _ _ _ s₁ (mkF m 23 #[.val (.ref a), .val (.long (own_step (-3750763034362895579 : Int64) b0)), .second, .val (.ref a), .val (.int (2 : Int32)), .val (.int (1 : Int32)), .val (.int b0)] [(.int (1 : Int32)), (.ref a)])
  obtain ⟨cl6, Ar6, -, S6, -, H6, -⟩ := id V
  have hin6 : ¬ ((1 : Int32) < 0 ∨ cl6.slots.size ≤ ((1 : Int32)).toNatClampNeg) := inb_of S6 ⟨by decide, by decide⟩
  refine OwnGo.st (fun _ k => X0.baloadBytes hx (j := (1 : Int32)) (v := (.int b1)) (by rw [e0]; exact Ar6.1) (State.isArrayOf_alike hZ.alike Ar6.2.1) Ar6.2.2 hin6 (H6.at hin6 rfl) (g := (mkF m 23 #[.val (.ref a), .val (.long (own_step (-3750763034362895579 : Int64) b0)), .second, .val (.ref a), .val (.int (2 : Int32)), .val (.int (1 : Int32)), .val (.int b0)] [(.int (1 : Int32)), (.ref a)])) rfl rfl (hb hby d1_23) _ k) ?_
  show OwnGo p e below s _ _ _ s₁ (mkF m 24 #[.val (.ref a), .val (.long (own_step (-3750763034362895579 : Int64) b0)), .second, .val (.ref a), .val (.int (2 : Int32)), .val (.int (1 : Int32)), .val (.int b0)] [(.int b1)])
  refine OwnGo.st (fun _ k => XS.istore X0.here hx rfl (hb hby d1_24) rfl (l' := #[.val (.ref a), .val (.long (own_step (-3750763034362895579 : Int64) b0)), .second, .val (.ref a), .val (.int (2 : Int32)), .val (.int (1 : Int32)), .val (.int b1)]) rfl k) ?_
  show OwnGo p e below s _ _ _ s₁ (mkF m 26 #[.val (.ref a), .val (.long (own_step (-3750763034362895579 : Int64) b0)), .second, .val (.ref a), .val (.int (2 : Int32)), .val (.int (1 : Int32)), .val (.int b1)] [])
  refine OwnGo.st (fun _ k => XS.lloadN X0.here hx rfl (hb hby d1_26) rfl  k) ?_
  show OwnGo p e below s _ _ _ s₁ (mkF m 27 #[.val (.ref a), .val (.long (own_step (-3750763034362895579 : Int64) b0)), .second, .val (.ref a), .val (.int (2 : Int32)), .val (.int (1 : Int32)), .val (.int b1)] [(.long (own_step (-3750763034362895579 : Int64) b0))])
  refine OwnGo.st (fun _ k => XS.iload X0.here hx rfl (hb hby d1_27) rfl  k) ?_
  show OwnGo p e below s _ _ _ s₁ (mkF m 29 #[.val (.ref a), .val (.long (own_step (-3750763034362895579 : Int64) b0)), .second, .val (.ref a), .val (.int (2 : Int32)), .val (.int (1 : Int32)), .val (.int b1)] [(.int b1), (.long (own_step (-3750763034362895579 : Int64) b0))])
  refine OwnGo.st (fun _ k => XS.sipush X0.here hx rfl (hb hby d1_29) k) ?_
  show OwnGo p e below s _ _ _ s₁ (mkF m 32 #[.val (.ref a), .val (.long (own_step (-3750763034362895579 : Int64) b0)), .second, .val (.ref a), .val (.int (2 : Int32)), .val (.int (1 : Int32)), .val (.int b1)] [(.int (255 : Int32)), (.int b1), (.long (own_step (-3750763034362895579 : Int64) b0))])
  refine OwnGo.st (fun _ k => XS.iand X0.here hx rfl (hb hby d1_32) rfl k) ?_
  show OwnGo p e below s _ _ _ s₁ (mkF m 33 #[.val (.ref a), .val (.long (own_step (-3750763034362895579 : Int64) b0)), .second, .val (.ref a), .val (.int (2 : Int32)), .val (.int (1 : Int32)), .val (.int b1)] [(.int (b1 &&& (255 : Int32))), (.long (own_step (-3750763034362895579 : Int64) b0))])
  refine OwnGo.st (fun _ k => XS.i2l X0.here hx rfl (hb hby d1_33) rfl k) ?_
  show OwnGo p e below s _ _ _ s₁ (mkF m 34 #[.val (.ref a), .val (.long (own_step (-3750763034362895579 : Int64) b0)), .second, .val (.ref a), .val (.int (2 : Int32)), .val (.int (1 : Int32)), .val (.int b1)] [(.long ((b1 &&& (255 : Int32)).toInt64)), (.long (own_step (-3750763034362895579 : Int64) b0))])
  refine OwnGo.st (fun _ k => XS.lxor X0.here hx rfl (hb hby d1_34) rfl k) ?_
  show OwnGo p e below s _ _ _ s₁ (mkF m 35 #[.val (.ref a), .val (.long (own_step (-3750763034362895579 : Int64) b0)), .second, .val (.ref a), .val (.int (2 : Int32)), .val (.int (1 : Int32)), .val (.int b1)] [(.long ((own_step (-3750763034362895579 : Int64) b0) ^^^ ((b1 &&& (255 : Int32)).toInt64)))])
  refine OwnGo.st (fun _ k => X0.ldc2Long hx hown (mvT hZ (hw _ (List.mem_of_getElem? (i := 18) rfl))) (g := (mkF m 35 #[.val (.ref a), .val (.long (own_step (-3750763034362895579 : Int64) b0)), .second, .val (.ref a), .val (.int (2 : Int32)), .val (.int (1 : Int32)), .val (.int b1)] [(.long ((own_step (-3750763034362895579 : Int64) b0) ^^^ ((b1 &&& (255 : Int32)).toInt64)))])) rfl (hb hby d1_35) _ k) ?_
  show OwnGo p e below s _ _ _ s₁ (mkF m 38 #[.val (.ref a), .val (.long (own_step (-3750763034362895579 : Int64) b0)), .second, .val (.ref a), .val (.int (2 : Int32)), .val (.int (1 : Int32)), .val (.int b1)] [(.long (1099511628211 : Int64)), (.long ((own_step (-3750763034362895579 : Int64) b0) ^^^ ((b1 &&& (255 : Int32)).toInt64)))])
  refine OwnGo.st (fun _ k => XS.lmul X0.here hx rfl (hb hby d1_38) rfl k) ?_
  show OwnGo p e below s _ _ _ s₁ (mkF m 39 #[.val (.ref a), .val (.long (own_step (-3750763034362895579 : Int64) b0)), .second, .val (.ref a), .val (.int (2 : Int32)), .val (.int (1 : Int32)), .val (.int b1)] [(.long (((own_step (-3750763034362895579 : Int64) b0) ^^^ ((b1 &&& (255 : Int32)).toInt64)) * (1099511628211 : Int64)))])
  show OwnGo p e below s _ _ _ s₁ (mkF m 39 #[.val (.ref a), .val (.long (own_step (-3750763034362895579 : Int64) b0)), .second, .val (.ref a), .val (.int (2 : Int32)), .val (.int (1 : Int32)), .val (.int b1)] [(.long (own_step (own_step (-3750763034362895579 : Int64) b0) b1))])
  refine OwnGo.st (fun _ k => XS.lstoreN X0.here hx rfl (hb hby d1_39) rfl (l' := #[.val (.ref a), .val (.long (own_step (own_step (-3750763034362895579 : Int64) b0) b1)), .second, .val (.ref a), .val (.int (2 : Int32)), .val (.int (1 : Int32)), .val (.int b1)]) rfl k) ?_
  show OwnGo p e below s _ _ _ s₁ (mkF m 40 #[.val (.ref a), .val (.long (own_step (own_step (-3750763034362895579 : Int64) b0) b1)), .second, .val (.ref a), .val (.int (2 : Int32)), .val (.int (1 : Int32)), .val (.int b1)] [])
  refine OwnGo.st (fun _ k => XS.iinc X0.here hx rfl (hb hby d1_40) rfl (l' := #[.val (.ref a), .val (.long (own_step (own_step (-3750763034362895579 : Int64) b0) b1)), .second, .val (.ref a), .val (.int (2 : Int32)), .val (.int ((1 : Int32) + (1 : Int32))), .val (.int b1)]) rfl k) ?_
  show OwnGo p e below s _ _ _ s₁ (mkF m 43 #[.val (.ref a), .val (.long (own_step (own_step (-3750763034362895579 : Int64) b0) b1)), .second, .val (.ref a), .val (.int (2 : Int32)), .val (.int ((1 : Int32) + (1 : Int32))), .val (.int b1)] [])
  show OwnGo p e below s _ _ _ s₁ (mkF m 43 #[.val (.ref a), .val (.long (own_step (own_step (-3750763034362895579 : Int64) b0) b1)), .second, .val (.ref a), .val (.int (2 : Int32)), .val (.int (2 : Int32)), .val (.int b1)] [])
  refine OwnGo.st (fun _ k => XS.goto X0.here hx rfl (pc0 := 43) (pc' := 13) rfl (hb hby d1_43) (by decide) (by decide) k) ?_
  show OwnGo p e below s _ _ _ s₁ (mkF m 13 #[.val (.ref a), .val (.long (own_step (own_step (-3750763034362895579 : Int64) b0) b1)), .second, .val (.ref a), .val (.int (2 : Int32)), .val (.int (2 : Int32)), .val (.int b1)] [])
  refine OwnGo.st (fun _ k => XS.iload X0.here hx rfl (hb hby d1_13) rfl  k) ?_
  show OwnGo p e below s _ _ _ s₁ (mkF m 15 #[.val (.ref a), .val (.long (own_step (own_step (-3750763034362895579 : Int64) b0) b1)), .second, .val (.ref a), .val (.int (2 : Int32)), .val (.int (2 : Int32)), .val (.int b1)] [(.int (2 : Int32))])
  refine OwnGo.st (fun _ k => XS.iload X0.here hx rfl (hb hby d1_15) rfl  k) ?_
  show OwnGo p e below s _ _ _ s₁ (mkF m 17 #[.val (.ref a), .val (.long (own_step (own_step (-3750763034362895579 : Int64) b0) b1)), .second, .val (.ref a), .val (.int (2 : Int32)), .val (.int (2 : Int32)), .val (.int b1)] [(.int (2 : Int32)), (.int (2 : Int32))])
  refine OwnGo.st (fun _ k => XS.icmpYes X0.here hx rfl (pc0 := 17) (pc' := 46) rfl (hb hby d1_17) rfl (flt ((by decide) : ¬ ((2 : Int32) < (2 : Int32)))).2.1 (by decide) (by decide) k) ?_
  show OwnGo p e below s _ _ _ s₁ (mkF m 46 #[.val (.ref a), .val (.long (own_step (own_step (-3750763034362895579 : Int64) b0) b1)), .second, .val (.ref a), .val (.int (2 : Int32)), .val (.int (2 : Int32)), .val (.int b1)] [])
  refine OwnGo.st (fun _ k => XS.lloadN X0.here hx rfl (hb hby d1_46) rfl  k) ?_
  show OwnGo p e below s _ _ _ s₁ (mkF m 47 #[.val (.ref a), .val (.long (own_step (own_step (-3750763034362895579 : Int64) b0) b1)), .second, .val (.ref a), .val (.int (2 : Int32)), .val (.int (2 : Int32)), .val (.int b1)] [(.long (own_step (own_step (-3750763034362895579 : Int64) b0) b1))])
  refine OwnGo.st (fun _ k => XS.lloadN X0.here hx rfl (hb hby d1_47) rfl  k) ?_
  show OwnGo p e below s _ _ _ s₁ (mkF m 48 #[.val (.ref a), .val (.long (own_step (own_step (-3750763034362895579 : Int64) b0) b1)), .second, .val (.ref a), .val (.int (2 : Int32)), .val (.int (2 : Int32)), .val (.int b1)] [(.long (own_step (own_step (-3750763034362895579 : Int64) b0) b1)), (.long (own_step (own_step (-3750763034362895579 : Int64) b0) b1))])
  refine OwnGo.st (fun _ k => XS.bipush X0.here hx rfl (hb hby d1_48) k) ?_
  show OwnGo p e below s _ _ _ s₁ (mkF m 50 #[.val (.ref a), .val (.long (own_step (own_step (-3750763034362895579 : Int64) b0) b1)), .second, .val (.ref a), .val (.int (2 : Int32)), .val (.int (2 : Int32)), .val (.int b1)] [(.int (30 : Int32)), (.long (own_step (own_step (-3750763034362895579 : Int64) b0) b1)), (.long (own_step (own_step (-3750763034362895579 : Int64) b0) b1))])
  refine OwnGo.st (fun _ k => XS.lushr X0.here hx rfl (hb hby d1_50) rfl k) ?_
  show OwnGo p e below s _ _ _ s₁ (mkF m 51 #[.val (.ref a), .val (.long (own_step (own_step (-3750763034362895579 : Int64) b0) b1)), .second, .val (.ref a), .val (.int (2 : Int32)), .val (.int (2 : Int32)), .val (.int b1)] [(.long (((own_step (own_step (-3750763034362895579 : Int64) b0) b1).toUInt64 >>> ((30 : Int32) &&& 0x3f).toInt64.toUInt64).toInt64)), (.long (own_step (own_step (-3750763034362895579 : Int64) b0) b1))])
  refine OwnGo.st (fun _ k => XS.lxor X0.here hx rfl (hb hby d1_51) rfl k) ?_
  show OwnGo p e below s _ _ _ s₁ (mkF m 52 #[.val (.ref a), .val (.long (own_step (own_step (-3750763034362895579 : Int64) b0) b1)), .second, .val (.ref a), .val (.int (2 : Int32)), .val (.int (2 : Int32)), .val (.int b1)] [(.long ((own_step (own_step (-3750763034362895579 : Int64) b0) b1) ^^^ (((own_step (own_step (-3750763034362895579 : Int64) b0) b1).toUInt64 >>> ((30 : Int32) &&& 0x3f).toInt64.toUInt64).toInt64)))])
  show OwnGo p e below s _ _ _ s₁ (mkF m 52 #[.val (.ref a), .val (.long (own_step (own_step (-3750763034362895579 : Int64) b0) b1)), .second, .val (.ref a), .val (.int (2 : Int32)), .val (.int (2 : Int32)), .val (.int b1)] [(.long (own_xs (own_step (own_step (-3750763034362895579 : Int64) b0) b1) 30))])
  refine OwnGo.st (fun _ k => X0.ldc2Long hx hown (mvT hZ (hw _ (List.mem_of_getElem? (i := 7) rfl))) (g := (mkF m 52 #[.val (.ref a), .val (.long (own_step (own_step (-3750763034362895579 : Int64) b0) b1)), .second, .val (.ref a), .val (.int (2 : Int32)), .val (.int (2 : Int32)), .val (.int b1)] [(.long (own_xs (own_step (own_step (-3750763034362895579 : Int64) b0) b1) 30))])) rfl (hb hby d1_52) _ k) ?_
  show OwnGo p e below s _ _ _ s₁ (mkF m 55 #[.val (.ref a), .val (.long (own_step (own_step (-3750763034362895579 : Int64) b0) b1)), .second, .val (.ref a), .val (.int (2 : Int32)), .val (.int (2 : Int32)), .val (.int b1)] [(.long (-4658895280553007687 : Int64)), (.long (own_xs (own_step (own_step (-3750763034362895579 : Int64) b0) b1) 30))])
  refine OwnGo.st (fun _ k => XS.lmul X0.here hx rfl (hb hby d1_55) rfl k) ?_
  show OwnGo p e below s _ _ _ s₁ (mkF m 56 #[.val (.ref a), .val (.long (own_step (own_step (-3750763034362895579 : Int64) b0) b1)), .second, .val (.ref a), .val (.int (2 : Int32)), .val (.int (2 : Int32)), .val (.int b1)] [(.long ((own_xs (own_step (own_step (-3750763034362895579 : Int64) b0) b1) 30) * (-4658895280553007687 : Int64)))])
  show OwnGo p e below s _ _ _ s₁ (mkF m 56 #[.val (.ref a), .val (.long (own_step (own_step (-3750763034362895579 : Int64) b0) b1)), .second, .val (.ref a), .val (.int (2 : Int32)), .val (.int (2 : Int32)), .val (.int b1)] [(.long (own_f1 (own_step (own_step (-3750763034362895579 : Int64) b0) b1)))])
  refine OwnGo.st (fun _ k => XS.lstoreN X0.here hx rfl (hb hby d1_56) rfl (l' := #[.val (.ref a), .val (.long (own_f1 (own_step (own_step (-3750763034362895579 : Int64) b0) b1))), .second, .val (.ref a), .val (.int (2 : Int32)), .val (.int (2 : Int32)), .val (.int b1)]) rfl k) ?_
  show OwnGo p e below s _ _ _ s₁ (mkF m 57 #[.val (.ref a), .val (.long (own_f1 (own_step (own_step (-3750763034362895579 : Int64) b0) b1))), .second, .val (.ref a), .val (.int (2 : Int32)), .val (.int (2 : Int32)), .val (.int b1)] [])
  refine OwnGo.st (fun _ k => XS.lloadN X0.here hx rfl (hb hby d1_57) rfl  k) ?_
  show OwnGo p e below s _ _ _ s₁ (mkF m 58 #[.val (.ref a), .val (.long (own_f1 (own_step (own_step (-3750763034362895579 : Int64) b0) b1))), .second, .val (.ref a), .val (.int (2 : Int32)), .val (.int (2 : Int32)), .val (.int b1)] [(.long (own_f1 (own_step (own_step (-3750763034362895579 : Int64) b0) b1)))])
  refine OwnGo.st (fun _ k => XS.lloadN X0.here hx rfl (hb hby d1_58) rfl  k) ?_
  show OwnGo p e below s _ _ _ s₁ (mkF m 59 #[.val (.ref a), .val (.long (own_f1 (own_step (own_step (-3750763034362895579 : Int64) b0) b1))), .second, .val (.ref a), .val (.int (2 : Int32)), .val (.int (2 : Int32)), .val (.int b1)] [(.long (own_f1 (own_step (own_step (-3750763034362895579 : Int64) b0) b1))), (.long (own_f1 (own_step (own_step (-3750763034362895579 : Int64) b0) b1)))])
  refine OwnGo.st (fun _ k => XS.bipush X0.here hx rfl (hb hby d1_59) k) ?_
  show OwnGo p e below s _ _ _ s₁ (mkF m 61 #[.val (.ref a), .val (.long (own_f1 (own_step (own_step (-3750763034362895579 : Int64) b0) b1))), .second, .val (.ref a), .val (.int (2 : Int32)), .val (.int (2 : Int32)), .val (.int b1)] [(.int (27 : Int32)), (.long (own_f1 (own_step (own_step (-3750763034362895579 : Int64) b0) b1))), (.long (own_f1 (own_step (own_step (-3750763034362895579 : Int64) b0) b1)))])
  refine OwnGo.st (fun _ k => XS.lushr X0.here hx rfl (hb hby d1_61) rfl k) ?_
  show OwnGo p e below s _ _ _ s₁ (mkF m 62 #[.val (.ref a), .val (.long (own_f1 (own_step (own_step (-3750763034362895579 : Int64) b0) b1))), .second, .val (.ref a), .val (.int (2 : Int32)), .val (.int (2 : Int32)), .val (.int b1)] [(.long (((own_f1 (own_step (own_step (-3750763034362895579 : Int64) b0) b1)).toUInt64 >>> ((27 : Int32) &&& 0x3f).toInt64.toUInt64).toInt64)), (.long (own_f1 (own_step (own_step (-3750763034362895579 : Int64) b0) b1)))])
  refine OwnGo.st (fun _ k => XS.lxor X0.here hx rfl (hb hby d1_62) rfl k) ?_
  show OwnGo p e below s _ _ _ s₁ (mkF m 63 #[.val (.ref a), .val (.long (own_f1 (own_step (own_step (-3750763034362895579 : Int64) b0) b1))), .second, .val (.ref a), .val (.int (2 : Int32)), .val (.int (2 : Int32)), .val (.int b1)] [(.long ((own_f1 (own_step (own_step (-3750763034362895579 : Int64) b0) b1)) ^^^ (((own_f1 (own_step (own_step (-3750763034362895579 : Int64) b0) b1)).toUInt64 >>> ((27 : Int32) &&& 0x3f).toInt64.toUInt64).toInt64)))])
  show OwnGo p e below s _ _ _ s₁ (mkF m 63 #[.val (.ref a), .val (.long (own_f1 (own_step (own_step (-3750763034362895579 : Int64) b0) b1))), .second, .val (.ref a), .val (.int (2 : Int32)), .val (.int (2 : Int32)), .val (.int b1)] [(.long (own_xs (own_f1 (own_step (own_step (-3750763034362895579 : Int64) b0) b1)) 27))])
  refine OwnGo.st (fun _ k => X0.ldc2Long hx hown (mvT hZ (hw _ (List.mem_of_getElem? (i := 8) rfl))) (g := (mkF m 63 #[.val (.ref a), .val (.long (own_f1 (own_step (own_step (-3750763034362895579 : Int64) b0) b1))), .second, .val (.ref a), .val (.int (2 : Int32)), .val (.int (2 : Int32)), .val (.int b1)] [(.long (own_xs (own_f1 (own_step (own_step (-3750763034362895579 : Int64) b0) b1)) 27))])) rfl (hb hby d1_63) _ k) ?_
  show OwnGo p e below s _ _ _ s₁ (mkF m 66 #[.val (.ref a), .val (.long (own_f1 (own_step (own_step (-3750763034362895579 : Int64) b0) b1))), .second, .val (.ref a), .val (.int (2 : Int32)), .val (.int (2 : Int32)), .val (.int b1)] [(.long (-7723592293110705685 : Int64)), (.long (own_xs (own_f1 (own_step (own_step (-3750763034362895579 : Int64) b0) b1)) 27))])
  refine OwnGo.st (fun _ k => XS.lmul X0.here hx rfl (hb hby d1_66) rfl k) ?_
  show OwnGo p e below s _ _ _ s₁ (mkF m 67 #[.val (.ref a), .val (.long (own_f1 (own_step (own_step (-3750763034362895579 : Int64) b0) b1))), .second, .val (.ref a), .val (.int (2 : Int32)), .val (.int (2 : Int32)), .val (.int b1)] [(.long ((own_xs (own_f1 (own_step (own_step (-3750763034362895579 : Int64) b0) b1)) 27) * (-7723592293110705685 : Int64)))])
  show OwnGo p e below s _ _ _ s₁ (mkF m 67 #[.val (.ref a), .val (.long (own_f1 (own_step (own_step (-3750763034362895579 : Int64) b0) b1))), .second, .val (.ref a), .val (.int (2 : Int32)), .val (.int (2 : Int32)), .val (.int b1)] [(.long (own_f2 (own_step (own_step (-3750763034362895579 : Int64) b0) b1)))])
  refine OwnGo.st (fun _ k => XS.lstoreN X0.here hx rfl (hb hby d1_67) rfl (l' := #[.val (.ref a), .val (.long (own_f2 (own_step (own_step (-3750763034362895579 : Int64) b0) b1))), .second, .val (.ref a), .val (.int (2 : Int32)), .val (.int (2 : Int32)), .val (.int b1)]) rfl k) ?_
  show OwnGo p e below s _ _ _ s₁ (mkF m 68 #[.val (.ref a), .val (.long (own_f2 (own_step (own_step (-3750763034362895579 : Int64) b0) b1))), .second, .val (.ref a), .val (.int (2 : Int32)), .val (.int (2 : Int32)), .val (.int b1)] [])
  refine OwnGo.st (fun _ k => XS.lloadN X0.here hx rfl (hb hby d1_68) rfl  k) ?_
  show OwnGo p e below s _ _ _ s₁ (mkF m 69 #[.val (.ref a), .val (.long (own_f2 (own_step (own_step (-3750763034362895579 : Int64) b0) b1))), .second, .val (.ref a), .val (.int (2 : Int32)), .val (.int (2 : Int32)), .val (.int b1)] [(.long (own_f2 (own_step (own_step (-3750763034362895579 : Int64) b0) b1)))])
  refine OwnGo.st (fun _ k => XS.lloadN X0.here hx rfl (hb hby d1_69) rfl  k) ?_
  show OwnGo p e below s _ _ _ s₁ (mkF m 70 #[.val (.ref a), .val (.long (own_f2 (own_step (own_step (-3750763034362895579 : Int64) b0) b1))), .second, .val (.ref a), .val (.int (2 : Int32)), .val (.int (2 : Int32)), .val (.int b1)] [(.long (own_f2 (own_step (own_step (-3750763034362895579 : Int64) b0) b1))), (.long (own_f2 (own_step (own_step (-3750763034362895579 : Int64) b0) b1)))])
  refine OwnGo.st (fun _ k => XS.bipush X0.here hx rfl (hb hby d1_70) k) ?_
  show OwnGo p e below s _ _ _ s₁ (mkF m 72 #[.val (.ref a), .val (.long (own_f2 (own_step (own_step (-3750763034362895579 : Int64) b0) b1))), .second, .val (.ref a), .val (.int (2 : Int32)), .val (.int (2 : Int32)), .val (.int b1)] [(.int (31 : Int32)), (.long (own_f2 (own_step (own_step (-3750763034362895579 : Int64) b0) b1))), (.long (own_f2 (own_step (own_step (-3750763034362895579 : Int64) b0) b1)))])
  refine OwnGo.st (fun _ k => XS.lushr X0.here hx rfl (hb hby d1_72) rfl k) ?_
  show OwnGo p e below s _ _ _ s₁ (mkF m 73 #[.val (.ref a), .val (.long (own_f2 (own_step (own_step (-3750763034362895579 : Int64) b0) b1))), .second, .val (.ref a), .val (.int (2 : Int32)), .val (.int (2 : Int32)), .val (.int b1)] [(.long (((own_f2 (own_step (own_step (-3750763034362895579 : Int64) b0) b1)).toUInt64 >>> ((31 : Int32) &&& 0x3f).toInt64.toUInt64).toInt64)), (.long (own_f2 (own_step (own_step (-3750763034362895579 : Int64) b0) b1)))])
  refine OwnGo.st (fun _ k => XS.lxor X0.here hx rfl (hb hby d1_73) rfl k) ?_
  show OwnGo p e below s _ _ _ s₁ (mkF m 74 #[.val (.ref a), .val (.long (own_f2 (own_step (own_step (-3750763034362895579 : Int64) b0) b1))), .second, .val (.ref a), .val (.int (2 : Int32)), .val (.int (2 : Int32)), .val (.int b1)] [(.long ((own_f2 (own_step (own_step (-3750763034362895579 : Int64) b0) b1)) ^^^ (((own_f2 (own_step (own_step (-3750763034362895579 : Int64) b0) b1)).toUInt64 >>> ((31 : Int32) &&& 0x3f).toInt64.toUInt64).toInt64)))])
  show OwnGo p e below s _ _ _ s₁ (mkF m 74 #[.val (.ref a), .val (.long (own_f2 (own_step (own_step (-3750763034362895579 : Int64) b0) b1))), .second, .val (.ref a), .val (.int (2 : Int32)), .val (.int (2 : Int32)), .val (.int b1)] [(.long (own_fin (own_step (own_step (-3750763034362895579 : Int64) b0) b1)))])
  exact OwnGo.ret X0 hx hret hlk rfl (Or.inr (Or.inl ⟨rfl, rfl, _, rfl⟩)) (hb hby d1_74) (by show Qof2 Z a kc b0 b1 h0 n0 _ s₁.heap _; rw [e0]; exact ⟨rfl, N0, rfl⟩) (by decide) (by decide)
def Qof3 (Z : State) (a : Addr) (kc : ClassId) (b0 : Int32) (b1 : Int32) (b2 : Int32) (h0 : Heap) (n0 : Nat) (v : Option Value) (h : Heap) (L : List Loc) : Prop := v = some (.long (own_fin (own_step (own_step (own_step (-3750763034362895579 : Int64) b0) b1) b2))) ∧ Fr n0 L ∧ h = h0
set_option maxRecDepth 65536 in
set_option maxHeartbeats 40000000 in
theorem rmof3 (l : Launch) (Z : State) (a0 : Array Value) (hw : ∀ d ∈ tables_1, d.before a0 Z = true) (ws : List Jvm.Cond) (a : Addr) (kc : ClassId) (b0 : Int32) (b1 : Int32) (b2 : Int32) (h0 : Heap) (n0 : Nat) (Z0 : n0 ≤ h0.size) (V : Arv Z h0 a kc .byte (3 : Int32) [(.int b0), (.int b1), (.int b2)] (.int (0 : Int32))) :
    MetFree l (⟨"com/example/utsatt/utsatt/KeyHashes", "of", "([B)J"⟩ : MethodName) (head1 (Jvm.Cond.code (⟨"com/example/utsatt/utsatt/KeyHashes", "of", "([B)J"⟩ : MethodName) prog_2_method_2_code 7 (some .long) :: ws) ({ frames := 0, cells := 0, slots := 0, locals := 0 } : Room)) (fun as_ U => as_ = #[(.ref a)] ∧ Z.Warmed39 U.vm ∧ U.heap = h0) (fun _ _ _ _ _ => True) (fun _ U o U' => ∃ v L, o = .returned v ∧ (Qof3 Z a kc b0 b1 b2 h0 n0) v U'.heap L ∧ FrameEnd U o U' L ({ frames := 0, cells := 0, slots := 0, locals := 0 } : Room).cells ({ frames := 0, cells := 0, slots := 0, locals := 0 } : Room).slots) := by
  refine own_met (plainFor_of_name pn_1) ?_
  intro p e s m below meth c s₁ X0 hx hby hml hret hlk hown hnm hZ e0
  have N0 := Fr.nil n0
  have Z_ := Z0
  refine OwnGo.cast (ef_of3 m a) ?_
  show OwnGo p e below s _ _ _ s₁ (mkF m 0 #[.val (.ref a), .unset, .unset, .unset, .unset, .unset, .unset] [])
  refine OwnGo.st (fun _ k => X0.ldc2Long hx hown (mvT hZ (hw _ (List.mem_of_getElem? (i := 6) rfl))) (g := (mkF m 0 #[.val (.ref a), .unset, .unset, .unset, .unset, .unset, .unset] [])) rfl (hb hby d1_0) _ k) ?_
  show OwnGo p e below s _ _ _ s₁ (mkF m 3 #[.val (.ref a), .unset, .unset, .unset, .unset, .unset, .unset] [(.long (-3750763034362895579 : Int64))])
  refine OwnGo.st (fun _ k => XS.lstoreN X0.here hx rfl (hb hby d1_3) rfl (l' := #[.val (.ref a), .val (.long (-3750763034362895579 : Int64)), .second, .unset, .unset, .unset, .unset]) rfl k) ?_
  show OwnGo p e below s _ _ _ s₁ (mkF m 4 #[.val (.ref a), .val (.long (-3750763034362895579 : Int64)), .second, .unset, .unset, .unset, .unset] [])
  refine OwnGo.st (fun _ k => XS.aloadN X0.here hx rfl (hb hby d1_4) rfl rfl  k) ?_
  show OwnGo p e below s _ _ _ s₁ (mkF m 5 #[.val (.ref a), .val (.long (-3750763034362895579 : Int64)), .second, .unset, .unset, .unset, .unset] [(.ref a)])
  refine OwnGo.st (fun _ k => XS.astoreN X0.here hx rfl (hb hby d1_5) rfl rfl (l' := #[.val (.ref a), .val (.long (-3750763034362895579 : Int64)), .second, .val (.ref a), .unset, .unset, .unset]) rfl k) ?_
  show OwnGo p e below s _ _ _ s₁ (mkF m 6 #[.val (.ref a), .val (.long (-3750763034362895579 : Int64)), .second, .val (.ref a), .unset, .unset, .unset] [])
  refine OwnGo.st (fun _ k => XS.aloadN X0.here hx rfl (hb hby d1_6) rfl rfl  k) ?_
  show OwnGo p e below s _ _ _ s₁ (mkF m 7 #[.val (.ref a), .val (.long (-3750763034362895579 : Int64)), .second, .val (.ref a), .unset, .unset, .unset] [(.ref a)])
  obtain ⟨cl7, Ar7, -, S7, N7, -, -⟩ := id V
  refine OwnGo.st (fun _ k => own_len hZ (len_of S7 N7) Ar7 X0 e0 hx (g := (mkF m 7 #[.val (.ref a), .val (.long (-3750763034362895579 : Int64)), .second, .val (.ref a), .unset, .unset, .unset] [(.ref a)])) rfl rfl (hb hby d1_7) _ k) ?_
  show OwnGo p e below s _ _ _ s₁ (mkF m 8 #[.val (.ref a), .val (.long (-3750763034362895579 : Int64)), .second, .val (.ref a), .unset, .unset, .unset] [(.int (3 : Int32))])
  refine OwnGo.st (fun _ k => XS.istore X0.here hx rfl (hb hby d1_8) rfl (l' := #[.val (.ref a), .val (.long (-3750763034362895579 : Int64)), .second, .val (.ref a), .val (.int (3 : Int32)), .unset, .unset]) rfl k) ?_
  show OwnGo p e below s _ _ _ s₁ (mkF m 10 #[.val (.ref a), .val (.long (-3750763034362895579 : Int64)), .second, .val (.ref a), .val (.int (3 : Int32)), .unset, .unset] [])
  refine OwnGo.st (fun _ k => XS.iconst X0.here hx rfl (hb hby d1_10) k) ?_
  show OwnGo p e below s _ _ _ s₁ (mkF m 11 #[.val (.ref a), .val (.long (-3750763034362895579 : Int64)), .second, .val (.ref a), .val (.int (3 : Int32)), .unset, .unset] [(.int (0 : Int32))])
  refine OwnGo.st (fun _ k => XS.istore X0.here hx rfl (hb hby d1_11) rfl (l' := #[.val (.ref a), .val (.long (-3750763034362895579 : Int64)), .second, .val (.ref a), .val (.int (3 : Int32)), .val (.int (0 : Int32)), .unset]) rfl k) ?_
  show OwnGo p e below s _ _ _ s₁ (mkF m 13 #[.val (.ref a), .val (.long (-3750763034362895579 : Int64)), .second, .val (.ref a), .val (.int (3 : Int32)), .val (.int (0 : Int32)), .unset] [])
  refine OwnGo.st (fun _ k => XS.iload X0.here hx rfl (hb hby d1_13) rfl  k) ?_
  show OwnGo p e below s _ _ _ s₁ (mkF m 15 #[.val (.ref a), .val (.long (-3750763034362895579 : Int64)), .second, .val (.ref a), .val (.int (3 : Int32)), .val (.int (0 : Int32)), .unset] [(.int (0 : Int32))])
  refine OwnGo.st (fun _ k => XS.iload X0.here hx rfl (hb hby d1_15) rfl  k) ?_
  show OwnGo p e below s _ _ _ s₁ (mkF m 17 #[.val (.ref a), .val (.long (-3750763034362895579 : Int64)), .second, .val (.ref a), .val (.int (3 : Int32)), .val (.int (0 : Int32)), .unset] [(.int (3 : Int32)), (.int (0 : Int32))])
  refine OwnGo.st (fun _ k => XS.icmpNo X0.here hx rfl (hb hby d1_17) rfl (tlt ((by decide) : (0 : Int32) < (3 : Int32))).2.1 k) ?_
  show OwnGo p e below s _ _ _ s₁ (mkF m 20 #[.val (.ref a), .val (.long (-3750763034362895579 : Int64)), .second, .val (.ref a), .val (.int (3 : Int32)), .val (.int (0 : Int32)), .unset] [])
  refine OwnGo.st (fun _ k => XS.aloadN X0.here hx rfl (hb hby d1_20) rfl rfl  k) ?_
  show OwnGo p e below s _ _ _ s₁ (mkF m 21 #[.val (.ref a), .val (.long (-3750763034362895579 : Int64)), .second, .val (.ref a), .val (.int (3 : Int32)), .val (.int (0 : Int32)), .unset] [(.ref a)])
  refine OwnGo.st (fun _ k => XS.iload X0.here hx rfl (hb hby d1_21) rfl  k) ?_
  show OwnGo p e below s _ _ _ s₁ (mkF m 23 #[.val (.ref a), .val (.long (-3750763034362895579 : Int64)), .second, .val (.ref a), .val (.int (3 : Int32)), .val (.int (0 : Int32)), .unset] [(.int (0 : Int32)), (.ref a)])
  obtain ⟨cl8, Ar8, -, S8, -, H8, -⟩ := id V
  have hin8 : ¬ ((0 : Int32) < 0 ∨ cl8.slots.size ≤ ((0 : Int32)).toNatClampNeg) := inb_of S8 ⟨by decide, by decide⟩
  refine OwnGo.st (fun _ k => X0.baloadBytes hx (j := (0 : Int32)) (v := (.int b0)) (by rw [e0]; exact Ar8.1) (State.isArrayOf_alike hZ.alike Ar8.2.1) Ar8.2.2 hin8 (H8.at hin8 rfl) (g := (mkF m 23 #[.val (.ref a), .val (.long (-3750763034362895579 : Int64)), .second, .val (.ref a), .val (.int (3 : Int32)), .val (.int (0 : Int32)), .unset] [(.int (0 : Int32)), (.ref a)])) rfl rfl (hb hby d1_23) _ k) ?_
  show OwnGo p e below s _ _ _ s₁ (mkF m 24 #[.val (.ref a), .val (.long (-3750763034362895579 : Int64)), .second, .val (.ref a), .val (.int (3 : Int32)), .val (.int (0 : Int32)), .unset] [(.int b0)])
  refine OwnGo.st (fun _ k => XS.istore X0.here hx rfl (hb hby d1_24) rfl (l' := #[.val (.ref a), .val (.long (-3750763034362895579 : Int64)), .second, .val (.ref a), .val (.int (3 : Int32)), .val (.int (0 : Int32)), .val (.int b0)]) rfl k) ?_
  show OwnGo p e below s _ _ _ s₁ (mkF m 26 #[.val (.ref a), .val (.long (-3750763034362895579 : Int64)), .second, .val (.ref a), .val (.int (3 : Int32)), .val (.int (0 : Int32)), .val (.int b0)] [])
  refine OwnGo.st (fun _ k => XS.lloadN X0.here hx rfl (hb hby d1_26) rfl  k) ?_
  show OwnGo p e below s _ _ _ s₁ (mkF m 27 #[.val (.ref a), .val (.long (-3750763034362895579 : Int64)), .second, .val (.ref a), .val (.int (3 : Int32)), .val (.int (0 : Int32)), .val (.int b0)] [(.long (-3750763034362895579 : Int64))])
  refine OwnGo.st (fun _ k => XS.iload X0.here hx rfl (hb hby d1_27) rfl  k) ?_
  show OwnGo p e below s _ _ _ s₁ (mkF m 29 #[.val (.ref a), .val (.long (-3750763034362895579 : Int64)), .second, .val (.ref a), .val (.int (3 : Int32)), .val (.int (0 : Int32)), .val (.int b0)] [(.int b0), (.long (-3750763034362895579 : Int64))])
  refine OwnGo.st (fun _ k => XS.sipush X0.here hx rfl (hb hby d1_29) k) ?_
  show OwnGo p e below s _ _ _ s₁ (mkF m 32 #[.val (.ref a), .val (.long (-3750763034362895579 : Int64)), .second, .val (.ref a), .val (.int (3 : Int32)), .val (.int (0 : Int32)), .val (.int b0)] [(.int (255 : Int32)), (.int b0), (.long (-3750763034362895579 : Int64))])
  refine OwnGo.st (fun _ k => XS.iand X0.here hx rfl (hb hby d1_32) rfl k) ?_
  show OwnGo p e below s _ _ _ s₁ (mkF m 33 #[.val (.ref a), .val (.long (-3750763034362895579 : Int64)), .second, .val (.ref a), .val (.int (3 : Int32)), .val (.int (0 : Int32)), .val (.int b0)] [(.int (b0 &&& (255 : Int32))), (.long (-3750763034362895579 : Int64))])
  refine OwnGo.st (fun _ k => XS.i2l X0.here hx rfl (hb hby d1_33) rfl k) ?_
  show OwnGo p e below s _ _ _ s₁ (mkF m 34 #[.val (.ref a), .val (.long (-3750763034362895579 : Int64)), .second, .val (.ref a), .val (.int (3 : Int32)), .val (.int (0 : Int32)), .val (.int b0)] [(.long ((b0 &&& (255 : Int32)).toInt64)), (.long (-3750763034362895579 : Int64))])
  refine OwnGo.st (fun _ k => XS.lxor X0.here hx rfl (hb hby d1_34) rfl k) ?_
  show OwnGo p e below s _ _ _ s₁ (mkF m 35 #[.val (.ref a), .val (.long (-3750763034362895579 : Int64)), .second, .val (.ref a), .val (.int (3 : Int32)), .val (.int (0 : Int32)), .val (.int b0)] [(.long ((-3750763034362895579 : Int64) ^^^ ((b0 &&& (255 : Int32)).toInt64)))])
  refine OwnGo.st (fun _ k => X0.ldc2Long hx hown (mvT hZ (hw _ (List.mem_of_getElem? (i := 18) rfl))) (g := (mkF m 35 #[.val (.ref a), .val (.long (-3750763034362895579 : Int64)), .second, .val (.ref a), .val (.int (3 : Int32)), .val (.int (0 : Int32)), .val (.int b0)] [(.long ((-3750763034362895579 : Int64) ^^^ ((b0 &&& (255 : Int32)).toInt64)))])) rfl (hb hby d1_35) _ k) ?_
  show OwnGo p e below s _ _ _ s₁ (mkF m 38 #[.val (.ref a), .val (.long (-3750763034362895579 : Int64)), .second, .val (.ref a), .val (.int (3 : Int32)), .val (.int (0 : Int32)), .val (.int b0)] [(.long (1099511628211 : Int64)), (.long ((-3750763034362895579 : Int64) ^^^ ((b0 &&& (255 : Int32)).toInt64)))])
  refine OwnGo.st (fun _ k => XS.lmul X0.here hx rfl (hb hby d1_38) rfl k) ?_
  show OwnGo p e below s _ _ _ s₁ (mkF m 39 #[.val (.ref a), .val (.long (-3750763034362895579 : Int64)), .second, .val (.ref a), .val (.int (3 : Int32)), .val (.int (0 : Int32)), .val (.int b0)] [(.long (((-3750763034362895579 : Int64) ^^^ ((b0 &&& (255 : Int32)).toInt64)) * (1099511628211 : Int64)))])
  show OwnGo p e below s _ _ _ s₁ (mkF m 39 #[.val (.ref a), .val (.long (-3750763034362895579 : Int64)), .second, .val (.ref a), .val (.int (3 : Int32)), .val (.int (0 : Int32)), .val (.int b0)] [(.long (own_step (-3750763034362895579 : Int64) b0))])
  refine OwnGo.st (fun _ k => XS.lstoreN X0.here hx rfl (hb hby d1_39) rfl (l' := #[.val (.ref a), .val (.long (own_step (-3750763034362895579 : Int64) b0)), .second, .val (.ref a), .val (.int (3 : Int32)), .val (.int (0 : Int32)), .val (.int b0)]) rfl k) ?_
  show OwnGo p e below s _ _ _ s₁ (mkF m 40 #[.val (.ref a), .val (.long (own_step (-3750763034362895579 : Int64) b0)), .second, .val (.ref a), .val (.int (3 : Int32)), .val (.int (0 : Int32)), .val (.int b0)] [])
  refine OwnGo.st (fun _ k => XS.iinc X0.here hx rfl (hb hby d1_40) rfl (l' := #[.val (.ref a), .val (.long (own_step (-3750763034362895579 : Int64) b0)), .second, .val (.ref a), .val (.int (3 : Int32)), .val (.int ((0 : Int32) + (1 : Int32))), .val (.int b0)]) rfl k) ?_
  show OwnGo p e below s _ _ _ s₁ (mkF m 43 #[.val (.ref a), .val (.long (own_step (-3750763034362895579 : Int64) b0)), .second, .val (.ref a), .val (.int (3 : Int32)), .val (.int ((0 : Int32) + (1 : Int32))), .val (.int b0)] [])
  show OwnGo p e below s _ _ _ s₁ (mkF m 43 #[.val (.ref a), .val (.long (own_step (-3750763034362895579 : Int64) b0)), .second, .val (.ref a), .val (.int (3 : Int32)), .val (.int (1 : Int32)), .val (.int b0)] [])
  refine OwnGo.st (fun _ k => XS.goto X0.here hx rfl (pc0 := 43) (pc' := 13) rfl (hb hby d1_43) (by decide) (by decide) k) ?_
  show OwnGo p e below s _ _ _ s₁ (mkF m 13 #[.val (.ref a), .val (.long (own_step (-3750763034362895579 : Int64) b0)), .second, .val (.ref a), .val (.int (3 : Int32)), .val (.int (1 : Int32)), .val (.int b0)] [])
  refine OwnGo.st (fun _ k => XS.iload X0.here hx rfl (hb hby d1_13) rfl  k) ?_
  show OwnGo p e below s _ _ _ s₁ (mkF m 15 #[.val (.ref a), .val (.long (own_step (-3750763034362895579 : Int64) b0)), .second, .val (.ref a), .val (.int (3 : Int32)), .val (.int (1 : Int32)), .val (.int b0)] [(.int (1 : Int32))])
  refine OwnGo.st (fun _ k => XS.iload X0.here hx rfl (hb hby d1_15) rfl  k) ?_
  show OwnGo p e below s _ _ _ s₁ (mkF m 17 #[.val (.ref a), .val (.long (own_step (-3750763034362895579 : Int64) b0)), .second, .val (.ref a), .val (.int (3 : Int32)), .val (.int (1 : Int32)), .val (.int b0)] [(.int (3 : Int32)), (.int (1 : Int32))])
  refine OwnGo.st (fun _ k => XS.icmpNo X0.here hx rfl (hb hby d1_17) rfl (tlt ((by decide) : (1 : Int32) < (3 : Int32))).2.1 k) ?_
  show OwnGo p e below s _ _ _ s₁ (mkF m 20 #[.val (.ref a), .val (.long (own_step (-3750763034362895579 : Int64) b0)), .second, .val (.ref a), .val (.int (3 : Int32)), .val (.int (1 : Int32)), .val (.int b0)] [])
  refine OwnGo.st (fun _ k => XS.aloadN X0.here hx rfl (hb hby d1_20) rfl rfl  k) ?_
  show OwnGo p e below s _ _ _ s₁ (mkF m 21 #[.val (.ref a), .val (.long (own_step (-3750763034362895579 : Int64) b0)), .second, .val (.ref a), .val (.int (3 : Int32)), .val (.int (1 : Int32)), .val (.int b0)] [(.ref a)])
  refine OwnGo.st (fun _ k => XS.iload X0.here hx rfl (hb hby d1_21) rfl  k) ?_
  show OwnGo p e below s _ _ _ s₁ (mkF m 23 #[.val (.ref a), .val (.long (own_step (-3750763034362895579 : Int64) b0)), .second, .val (.ref a), .val (.int (3 : Int32)), .val (.int (1 : Int32)), .val (.int b0)] [(.int (1 : Int32)), (.ref a)])
  obtain ⟨cl9, Ar9, -, S9, -, H9, -⟩ := id V
  have hin9 : ¬ ((1 : Int32) < 0 ∨ cl9.slots.size ≤ ((1 : Int32)).toNatClampNeg) := inb_of S9 ⟨by decide, by decide⟩
  refine OwnGo.st (fun _ k => X0.baloadBytes hx (j := (1 : Int32)) (v := (.int b1)) (by rw [e0]; exact Ar9.1) (State.isArrayOf_alike hZ.alike Ar9.2.1) Ar9.2.2 hin9 (H9.at hin9 rfl) (g := (mkF m 23 #[.val (.ref a), .val (.long (own_step (-3750763034362895579 : Int64) b0)), .second, .val (.ref a), .val (.int (3 : Int32)), .val (.int (1 : Int32)), .val (.int b0)] [(.int (1 : Int32)), (.ref a)])) rfl rfl (hb hby d1_23) _ k) ?_
  show OwnGo p e below s _ _ _ s₁ (mkF m 24 #[.val (.ref a), .val (.long (own_step (-3750763034362895579 : Int64) b0)), .second, .val (.ref a), .val (.int (3 : Int32)), .val (.int (1 : Int32)), .val (.int b0)] [(.int b1)])
  refine OwnGo.st (fun _ k => XS.istore X0.here hx rfl (hb hby d1_24) rfl (l' := #[.val (.ref a), .val (.long (own_step (-3750763034362895579 : Int64) b0)), .second, .val (.ref a), .val (.int (3 : Int32)), .val (.int (1 : Int32)), .val (.int b1)]) rfl k) ?_
  show OwnGo p e below s _ _ _ s₁ (mkF m 26 #[.val (.ref a), .val (.long (own_step (-3750763034362895579 : Int64) b0)), .second, .val (.ref a), .val (.int (3 : Int32)), .val (.int (1 : Int32)), .val (.int b1)] [])
  refine OwnGo.st (fun _ k => XS.lloadN X0.here hx rfl (hb hby d1_26) rfl  k) ?_
  show OwnGo p e below s _ _ _ s₁ (mkF m 27 #[.val (.ref a), .val (.long (own_step (-3750763034362895579 : Int64) b0)), .second, .val (.ref a), .val (.int (3 : Int32)), .val (.int (1 : Int32)), .val (.int b1)] [(.long (own_step (-3750763034362895579 : Int64) b0))])
  refine OwnGo.st (fun _ k => XS.iload X0.here hx rfl (hb hby d1_27) rfl  k) ?_
  show OwnGo p e below s _ _ _ s₁ (mkF m 29 #[.val (.ref a), .val (.long (own_step (-3750763034362895579 : Int64) b0)), .second, .val (.ref a), .val (.int (3 : Int32)), .val (.int (1 : Int32)), .val (.int b1)] [(.int b1), (.long (own_step (-3750763034362895579 : Int64) b0))])
  refine OwnGo.st (fun _ k => XS.sipush X0.here hx rfl (hb hby d1_29) k) ?_
  show OwnGo p e below s _ _ _ s₁ (mkF m 32 #[.val (.ref a), .val (.long (own_step (-3750763034362895579 : Int64) b0)), .second, .val (.ref a), .val (.int (3 : Int32)), .val (.int (1 : Int32)), .val (.int b1)] [(.int (255 : Int32)), (.int b1), (.long (own_step (-3750763034362895579 : Int64) b0))])
  refine OwnGo.st (fun _ k => XS.iand X0.here hx rfl (hb hby d1_32) rfl k) ?_
  show OwnGo p e below s _ _ _ s₁ (mkF m 33 #[.val (.ref a), .val (.long (own_step (-3750763034362895579 : Int64) b0)), .second, .val (.ref a), .val (.int (3 : Int32)), .val (.int (1 : Int32)), .val (.int b1)] [(.int (b1 &&& (255 : Int32))), (.long (own_step (-3750763034362895579 : Int64) b0))])
  refine OwnGo.st (fun _ k => XS.i2l X0.here hx rfl (hb hby d1_33) rfl k) ?_
  show OwnGo p e below s _ _ _ s₁ (mkF m 34 #[.val (.ref a), .val (.long (own_step (-3750763034362895579 : Int64) b0)), .second, .val (.ref a), .val (.int (3 : Int32)), .val (.int (1 : Int32)), .val (.int b1)] [(.long ((b1 &&& (255 : Int32)).toInt64)), (.long (own_step (-3750763034362895579 : Int64) b0))])
  refine OwnGo.st (fun _ k => XS.lxor X0.here hx rfl (hb hby d1_34) rfl k) ?_
  show OwnGo p e below s _ _ _ s₁ (mkF m 35 #[.val (.ref a), .val (.long (own_step (-3750763034362895579 : Int64) b0)), .second, .val (.ref a), .val (.int (3 : Int32)), .val (.int (1 : Int32)), .val (.int b1)] [(.long ((own_step (-3750763034362895579 : Int64) b0) ^^^ ((b1 &&& (255 : Int32)).toInt64)))])
  refine OwnGo.st (fun _ k => X0.ldc2Long hx hown (mvT hZ (hw _ (List.mem_of_getElem? (i := 18) rfl))) (g := (mkF m 35 #[.val (.ref a), .val (.long (own_step (-3750763034362895579 : Int64) b0)), .second, .val (.ref a), .val (.int (3 : Int32)), .val (.int (1 : Int32)), .val (.int b1)] [(.long ((own_step (-3750763034362895579 : Int64) b0) ^^^ ((b1 &&& (255 : Int32)).toInt64)))])) rfl (hb hby d1_35) _ k) ?_
  show OwnGo p e below s _ _ _ s₁ (mkF m 38 #[.val (.ref a), .val (.long (own_step (-3750763034362895579 : Int64) b0)), .second, .val (.ref a), .val (.int (3 : Int32)), .val (.int (1 : Int32)), .val (.int b1)] [(.long (1099511628211 : Int64)), (.long ((own_step (-3750763034362895579 : Int64) b0) ^^^ ((b1 &&& (255 : Int32)).toInt64)))])
  refine OwnGo.st (fun _ k => XS.lmul X0.here hx rfl (hb hby d1_38) rfl k) ?_
  show OwnGo p e below s _ _ _ s₁ (mkF m 39 #[.val (.ref a), .val (.long (own_step (-3750763034362895579 : Int64) b0)), .second, .val (.ref a), .val (.int (3 : Int32)), .val (.int (1 : Int32)), .val (.int b1)] [(.long (((own_step (-3750763034362895579 : Int64) b0) ^^^ ((b1 &&& (255 : Int32)).toInt64)) * (1099511628211 : Int64)))])
  show OwnGo p e below s _ _ _ s₁ (mkF m 39 #[.val (.ref a), .val (.long (own_step (-3750763034362895579 : Int64) b0)), .second, .val (.ref a), .val (.int (3 : Int32)), .val (.int (1 : Int32)), .val (.int b1)] [(.long (own_step (own_step (-3750763034362895579 : Int64) b0) b1))])
  refine OwnGo.st (fun _ k => XS.lstoreN X0.here hx rfl (hb hby d1_39) rfl (l' := #[.val (.ref a), .val (.long (own_step (own_step (-3750763034362895579 : Int64) b0) b1)), .second, .val (.ref a), .val (.int (3 : Int32)), .val (.int (1 : Int32)), .val (.int b1)]) rfl k) ?_
  show OwnGo p e below s _ _ _ s₁ (mkF m 40 #[.val (.ref a), .val (.long (own_step (own_step (-3750763034362895579 : Int64) b0) b1)), .second, .val (.ref a), .val (.int (3 : Int32)), .val (.int (1 : Int32)), .val (.int b1)] [])
  refine OwnGo.st (fun _ k => XS.iinc X0.here hx rfl (hb hby d1_40) rfl (l' := #[.val (.ref a), .val (.long (own_step (own_step (-3750763034362895579 : Int64) b0) b1)), .second, .val (.ref a), .val (.int (3 : Int32)), .val (.int ((1 : Int32) + (1 : Int32))), .val (.int b1)]) rfl k) ?_
  show OwnGo p e below s _ _ _ s₁ (mkF m 43 #[.val (.ref a), .val (.long (own_step (own_step (-3750763034362895579 : Int64) b0) b1)), .second, .val (.ref a), .val (.int (3 : Int32)), .val (.int ((1 : Int32) + (1 : Int32))), .val (.int b1)] [])
  show OwnGo p e below s _ _ _ s₁ (mkF m 43 #[.val (.ref a), .val (.long (own_step (own_step (-3750763034362895579 : Int64) b0) b1)), .second, .val (.ref a), .val (.int (3 : Int32)), .val (.int (2 : Int32)), .val (.int b1)] [])
  refine OwnGo.st (fun _ k => XS.goto X0.here hx rfl (pc0 := 43) (pc' := 13) rfl (hb hby d1_43) (by decide) (by decide) k) ?_
  show OwnGo p e below s _ _ _ s₁ (mkF m 13 #[.val (.ref a), .val (.long (own_step (own_step (-3750763034362895579 : Int64) b0) b1)), .second, .val (.ref a), .val (.int (3 : Int32)), .val (.int (2 : Int32)), .val (.int b1)] [])
  refine OwnGo.st (fun _ k => XS.iload X0.here hx rfl (hb hby d1_13) rfl  k) ?_
  show OwnGo p e below s _ _ _ s₁ (mkF m 15 #[.val (.ref a), .val (.long (own_step (own_step (-3750763034362895579 : Int64) b0) b1)), .second, .val (.ref a), .val (.int (3 : Int32)), .val (.int (2 : Int32)), .val (.int b1)] [(.int (2 : Int32))])
  refine OwnGo.st (fun _ k => XS.iload X0.here hx rfl (hb hby d1_15) rfl  k) ?_
  show OwnGo p e below s _ _ _ s₁ (mkF m 17 #[.val (.ref a), .val (.long (own_step (own_step (-3750763034362895579 : Int64) b0) b1)), .second, .val (.ref a), .val (.int (3 : Int32)), .val (.int (2 : Int32)), .val (.int b1)] [(.int (3 : Int32)), (.int (2 : Int32))])
  refine OwnGo.st (fun _ k => XS.icmpNo X0.here hx rfl (hb hby d1_17) rfl (tlt ((by decide) : (2 : Int32) < (3 : Int32))).2.1 k) ?_
  show OwnGo p e below s _ _ _ s₁ (mkF m 20 #[.val (.ref a), .val (.long (own_step (own_step (-3750763034362895579 : Int64) b0) b1)), .second, .val (.ref a), .val (.int (3 : Int32)), .val (.int (2 : Int32)), .val (.int b1)] [])
  refine OwnGo.st (fun _ k => XS.aloadN X0.here hx rfl (hb hby d1_20) rfl rfl  k) ?_
  show OwnGo p e below s _ _ _ s₁ (mkF m 21 #[.val (.ref a), .val (.long (own_step (own_step (-3750763034362895579 : Int64) b0) b1)), .second, .val (.ref a), .val (.int (3 : Int32)), .val (.int (2 : Int32)), .val (.int b1)] [(.ref a)])
  refine OwnGo.st (fun _ k => XS.iload X0.here hx rfl (hb hby d1_21) rfl  k) ?_
  show OwnGo p e below s _ _ _ s₁ (mkF m 23 #[.val (.ref a), .val (.long (own_step (own_step (-3750763034362895579 : Int64) b0) b1)), .second, .val (.ref a), .val (.int (3 : Int32)), .val (.int (2 : Int32)), .val (.int b1)] [(.int (2 : Int32)), (.ref a)])
  obtain ⟨cl10, Ar10, -, S10, -, H10, -⟩ := id V
  have hin10 : ¬ ((2 : Int32) < 0 ∨ cl10.slots.size ≤ ((2 : Int32)).toNatClampNeg) := inb_of S10 ⟨by decide, by decide⟩
  refine OwnGo.st (fun _ k => X0.baloadBytes hx (j := (2 : Int32)) (v := (.int b2)) (by rw [e0]; exact Ar10.1) (State.isArrayOf_alike hZ.alike Ar10.2.1) Ar10.2.2 hin10 (H10.at hin10 rfl) (g := (mkF m 23 #[.val (.ref a), .val (.long (own_step (own_step (-3750763034362895579 : Int64) b0) b1)), .second, .val (.ref a), .val (.int (3 : Int32)), .val (.int (2 : Int32)), .val (.int b1)] [(.int (2 : Int32)), (.ref a)])) rfl rfl (hb hby d1_23) _ k) ?_
  show OwnGo p e below s _ _ _ s₁ (mkF m 24 #[.val (.ref a), .val (.long (own_step (own_step (-3750763034362895579 : Int64) b0) b1)), .second, .val (.ref a), .val (.int (3 : Int32)), .val (.int (2 : Int32)), .val (.int b1)] [(.int b2)])
  refine OwnGo.st (fun _ k => XS.istore X0.here hx rfl (hb hby d1_24) rfl (l' := #[.val (.ref a), .val (.long (own_step (own_step (-3750763034362895579 : Int64) b0) b1)), .second, .val (.ref a), .val (.int (3 : Int32)), .val (.int (2 : Int32)), .val (.int b2)]) rfl k) ?_
  show OwnGo p e below s _ _ _ s₁ (mkF m 26 #[.val (.ref a), .val (.long (own_step (own_step (-3750763034362895579 : Int64) b0) b1)), .second, .val (.ref a), .val (.int (3 : Int32)), .val (.int (2 : Int32)), .val (.int b2)] [])
  refine OwnGo.st (fun _ k => XS.lloadN X0.here hx rfl (hb hby d1_26) rfl  k) ?_
  show OwnGo p e below s _ _ _ s₁ (mkF m 27 #[.val (.ref a), .val (.long (own_step (own_step (-3750763034362895579 : Int64) b0) b1)), .second, .val (.ref a), .val (.int (3 : Int32)), .val (.int (2 : Int32)), .val (.int b2)] [(.long (own_step (own_step (-3750763034362895579 : Int64) b0) b1))])
  refine OwnGo.st (fun _ k => XS.iload X0.here hx rfl (hb hby d1_27) rfl  k) ?_
  show OwnGo p e below s _ _ _ s₁ (mkF m 29 #[.val (.ref a), .val (.long (own_step (own_step (-3750763034362895579 : Int64) b0) b1)), .second, .val (.ref a), .val (.int (3 : Int32)), .val (.int (2 : Int32)), .val (.int b2)] [(.int b2), (.long (own_step (own_step (-3750763034362895579 : Int64) b0) b1))])
  refine OwnGo.st (fun _ k => XS.sipush X0.here hx rfl (hb hby d1_29) k) ?_
  show OwnGo p e below s _ _ _ s₁ (mkF m 32 #[.val (.ref a), .val (.long (own_step (own_step (-3750763034362895579 : Int64) b0) b1)), .second, .val (.ref a), .val (.int (3 : Int32)), .val (.int (2 : Int32)), .val (.int b2)] [(.int (255 : Int32)), (.int b2), (.long (own_step (own_step (-3750763034362895579 : Int64) b0) b1))])
  refine OwnGo.st (fun _ k => XS.iand X0.here hx rfl (hb hby d1_32) rfl k) ?_
  show OwnGo p e below s _ _ _ s₁ (mkF m 33 #[.val (.ref a), .val (.long (own_step (own_step (-3750763034362895579 : Int64) b0) b1)), .second, .val (.ref a), .val (.int (3 : Int32)), .val (.int (2 : Int32)), .val (.int b2)] [(.int (b2 &&& (255 : Int32))), (.long (own_step (own_step (-3750763034362895579 : Int64) b0) b1))])
  refine OwnGo.st (fun _ k => XS.i2l X0.here hx rfl (hb hby d1_33) rfl k) ?_
  show OwnGo p e below s _ _ _ s₁ (mkF m 34 #[.val (.ref a), .val (.long (own_step (own_step (-3750763034362895579 : Int64) b0) b1)), .second, .val (.ref a), .val (.int (3 : Int32)), .val (.int (2 : Int32)), .val (.int b2)] [(.long ((b2 &&& (255 : Int32)).toInt64)), (.long (own_step (own_step (-3750763034362895579 : Int64) b0) b1))])
  refine OwnGo.st (fun _ k => XS.lxor X0.here hx rfl (hb hby d1_34) rfl k) ?_
  show OwnGo p e below s _ _ _ s₁ (mkF m 35 #[.val (.ref a), .val (.long (own_step (own_step (-3750763034362895579 : Int64) b0) b1)), .second, .val (.ref a), .val (.int (3 : Int32)), .val (.int (2 : Int32)), .val (.int b2)] [(.long ((own_step (own_step (-3750763034362895579 : Int64) b0) b1) ^^^ ((b2 &&& (255 : Int32)).toInt64)))])
  refine OwnGo.st (fun _ k => X0.ldc2Long hx hown (mvT hZ (hw _ (List.mem_of_getElem? (i := 18) rfl))) (g := (mkF m 35 #[.val (.ref a), .val (.long (own_step (own_step (-3750763034362895579 : Int64) b0) b1)), .second, .val (.ref a), .val (.int (3 : Int32)), .val (.int (2 : Int32)), .val (.int b2)] [(.long ((own_step (own_step (-3750763034362895579 : Int64) b0) b1) ^^^ ((b2 &&& (255 : Int32)).toInt64)))])) rfl (hb hby d1_35) _ k) ?_
  show OwnGo p e below s _ _ _ s₁ (mkF m 38 #[.val (.ref a), .val (.long (own_step (own_step (-3750763034362895579 : Int64) b0) b1)), .second, .val (.ref a), .val (.int (3 : Int32)), .val (.int (2 : Int32)), .val (.int b2)] [(.long (1099511628211 : Int64)), (.long ((own_step (own_step (-3750763034362895579 : Int64) b0) b1) ^^^ ((b2 &&& (255 : Int32)).toInt64)))])
  refine OwnGo.st (fun _ k => XS.lmul X0.here hx rfl (hb hby d1_38) rfl k) ?_
  show OwnGo p e below s _ _ _ s₁ (mkF m 39 #[.val (.ref a), .val (.long (own_step (own_step (-3750763034362895579 : Int64) b0) b1)), .second, .val (.ref a), .val (.int (3 : Int32)), .val (.int (2 : Int32)), .val (.int b2)] [(.long (((own_step (own_step (-3750763034362895579 : Int64) b0) b1) ^^^ ((b2 &&& (255 : Int32)).toInt64)) * (1099511628211 : Int64)))])
  show OwnGo p e below s _ _ _ s₁ (mkF m 39 #[.val (.ref a), .val (.long (own_step (own_step (-3750763034362895579 : Int64) b0) b1)), .second, .val (.ref a), .val (.int (3 : Int32)), .val (.int (2 : Int32)), .val (.int b2)] [(.long (own_step (own_step (own_step (-3750763034362895579 : Int64) b0) b1) b2))])
  refine OwnGo.st (fun _ k => XS.lstoreN X0.here hx rfl (hb hby d1_39) rfl (l' := #[.val (.ref a), .val (.long (own_step (own_step (own_step (-3750763034362895579 : Int64) b0) b1) b2)), .second, .val (.ref a), .val (.int (3 : Int32)), .val (.int (2 : Int32)), .val (.int b2)]) rfl k) ?_
  show OwnGo p e below s _ _ _ s₁ (mkF m 40 #[.val (.ref a), .val (.long (own_step (own_step (own_step (-3750763034362895579 : Int64) b0) b1) b2)), .second, .val (.ref a), .val (.int (3 : Int32)), .val (.int (2 : Int32)), .val (.int b2)] [])
  refine OwnGo.st (fun _ k => XS.iinc X0.here hx rfl (hb hby d1_40) rfl (l' := #[.val (.ref a), .val (.long (own_step (own_step (own_step (-3750763034362895579 : Int64) b0) b1) b2)), .second, .val (.ref a), .val (.int (3 : Int32)), .val (.int ((2 : Int32) + (1 : Int32))), .val (.int b2)]) rfl k) ?_
  show OwnGo p e below s _ _ _ s₁ (mkF m 43 #[.val (.ref a), .val (.long (own_step (own_step (own_step (-3750763034362895579 : Int64) b0) b1) b2)), .second, .val (.ref a), .val (.int (3 : Int32)), .val (.int ((2 : Int32) + (1 : Int32))), .val (.int b2)] [])
  show OwnGo p e below s _ _ _ s₁ (mkF m 43 #[.val (.ref a), .val (.long (own_step (own_step (own_step (-3750763034362895579 : Int64) b0) b1) b2)), .second, .val (.ref a), .val (.int (3 : Int32)), .val (.int (3 : Int32)), .val (.int b2)] [])
  refine OwnGo.st (fun _ k => XS.goto X0.here hx rfl (pc0 := 43) (pc' := 13) rfl (hb hby d1_43) (by decide) (by decide) k) ?_
  show OwnGo p e below s _ _ _ s₁ (mkF m 13 #[.val (.ref a), .val (.long (own_step (own_step (own_step (-3750763034362895579 : Int64) b0) b1) b2)), .second, .val (.ref a), .val (.int (3 : Int32)), .val (.int (3 : Int32)), .val (.int b2)] [])
  refine OwnGo.st (fun _ k => XS.iload X0.here hx rfl (hb hby d1_13) rfl  k) ?_
  show OwnGo p e below s _ _ _ s₁ (mkF m 15 #[.val (.ref a), .val (.long (own_step (own_step (own_step (-3750763034362895579 : Int64) b0) b1) b2)), .second, .val (.ref a), .val (.int (3 : Int32)), .val (.int (3 : Int32)), .val (.int b2)] [(.int (3 : Int32))])
  refine OwnGo.st (fun _ k => XS.iload X0.here hx rfl (hb hby d1_15) rfl  k) ?_
  show OwnGo p e below s _ _ _ s₁ (mkF m 17 #[.val (.ref a), .val (.long (own_step (own_step (own_step (-3750763034362895579 : Int64) b0) b1) b2)), .second, .val (.ref a), .val (.int (3 : Int32)), .val (.int (3 : Int32)), .val (.int b2)] [(.int (3 : Int32)), (.int (3 : Int32))])
  refine OwnGo.st (fun _ k => XS.icmpYes X0.here hx rfl (pc0 := 17) (pc' := 46) rfl (hb hby d1_17) rfl (flt ((by decide) : ¬ ((3 : Int32) < (3 : Int32)))).2.1 (by decide) (by decide) k) ?_
  show OwnGo p e below s _ _ _ s₁ (mkF m 46 #[.val (.ref a), .val (.long (own_step (own_step (own_step (-3750763034362895579 : Int64) b0) b1) b2)), .second, .val (.ref a), .val (.int (3 : Int32)), .val (.int (3 : Int32)), .val (.int b2)] [])
  refine OwnGo.st (fun _ k => XS.lloadN X0.here hx rfl (hb hby d1_46) rfl  k) ?_
  show OwnGo p e below s _ _ _ s₁ (mkF m 47 #[.val (.ref a), .val (.long (own_step (own_step (own_step (-3750763034362895579 : Int64) b0) b1) b2)), .second, .val (.ref a), .val (.int (3 : Int32)), .val (.int (3 : Int32)), .val (.int b2)] [(.long (own_step (own_step (own_step (-3750763034362895579 : Int64) b0) b1) b2))])
  refine OwnGo.st (fun _ k => XS.lloadN X0.here hx rfl (hb hby d1_47) rfl  k) ?_
  show OwnGo p e below s _ _ _ s₁ (mkF m 48 #[.val (.ref a), .val (.long (own_step (own_step (own_step (-3750763034362895579 : Int64) b0) b1) b2)), .second, .val (.ref a), .val (.int (3 : Int32)), .val (.int (3 : Int32)), .val (.int b2)] [(.long (own_step (own_step (own_step (-3750763034362895579 : Int64) b0) b1) b2)), (.long (own_step (own_step (own_step (-3750763034362895579 : Int64) b0) b1) b2))])
  refine OwnGo.st (fun _ k => XS.bipush X0.here hx rfl (hb hby d1_48) k) ?_
  show OwnGo p e below s _ _ _ s₁ (mkF m 50 #[.val (.ref a), .val (.long (own_step (own_step (own_step (-3750763034362895579 : Int64) b0) b1) b2)), .second, .val (.ref a), .val (.int (3 : Int32)), .val (.int (3 : Int32)), .val (.int b2)] [(.int (30 : Int32)), (.long (own_step (own_step (own_step (-3750763034362895579 : Int64) b0) b1) b2)), (.long (own_step (own_step (own_step (-3750763034362895579 : Int64) b0) b1) b2))])
  refine OwnGo.st (fun _ k => XS.lushr X0.here hx rfl (hb hby d1_50) rfl k) ?_
  show OwnGo p e below s _ _ _ s₁ (mkF m 51 #[.val (.ref a), .val (.long (own_step (own_step (own_step (-3750763034362895579 : Int64) b0) b1) b2)), .second, .val (.ref a), .val (.int (3 : Int32)), .val (.int (3 : Int32)), .val (.int b2)] [(.long (((own_step (own_step (own_step (-3750763034362895579 : Int64) b0) b1) b2).toUInt64 >>> ((30 : Int32) &&& 0x3f).toInt64.toUInt64).toInt64)), (.long (own_step (own_step (own_step (-3750763034362895579 : Int64) b0) b1) b2))])
  refine OwnGo.st (fun _ k => XS.lxor X0.here hx rfl (hb hby d1_51) rfl k) ?_
  show OwnGo p e below s _ _ _ s₁ (mkF m 52 #[.val (.ref a), .val (.long (own_step (own_step (own_step (-3750763034362895579 : Int64) b0) b1) b2)), .second, .val (.ref a), .val (.int (3 : Int32)), .val (.int (3 : Int32)), .val (.int b2)] [(.long ((own_step (own_step (own_step (-3750763034362895579 : Int64) b0) b1) b2) ^^^ (((own_step (own_step (own_step (-3750763034362895579 : Int64) b0) b1) b2).toUInt64 >>> ((30 : Int32) &&& 0x3f).toInt64.toUInt64).toInt64)))])
  show OwnGo p e below s _ _ _ s₁ (mkF m 52 #[.val (.ref a), .val (.long (own_step (own_step (own_step (-3750763034362895579 : Int64) b0) b1) b2)), .second, .val (.ref a), .val (.int (3 : Int32)), .val (.int (3 : Int32)), .val (.int b2)] [(.long (own_xs (own_step (own_step (own_step (-3750763034362895579 : Int64) b0) b1) b2) 30))])
  refine OwnGo.st (fun _ k => X0.ldc2Long hx hown (mvT hZ (hw _ (List.mem_of_getElem? (i := 7) rfl))) (g := (mkF m 52 #[.val (.ref a), .val (.long (own_step (own_step (own_step (-3750763034362895579 : Int64) b0) b1) b2)), .second, .val (.ref a), .val (.int (3 : Int32)), .val (.int (3 : Int32)), .val (.int b2)] [(.long (own_xs (own_step (own_step (own_step (-3750763034362895579 : Int64) b0) b1) b2) 30))])) rfl (hb hby d1_52) _ k) ?_
  show OwnGo p e below s _ _ _ s₁ (mkF m 55 #[.val (.ref a), .val (.long (own_step (own_step (own_step (-3750763034362895579 : Int64) b0) b1) b2)), .second, .val (.ref a), .val (.int (3 : Int32)), .val (.int (3 : Int32)), .val (.int b2)] [(.long (-4658895280553007687 : Int64)), (.long (own_xs (own_step (own_step (own_step (-3750763034362895579 : Int64) b0) b1) b2) 30))])
  refine OwnGo.st (fun _ k => XS.lmul X0.here hx rfl (hb hby d1_55) rfl k) ?_
  show OwnGo p e below s _ _ _ s₁ (mkF m 56 #[.val (.ref a), .val (.long (own_step (own_step (own_step (-3750763034362895579 : Int64) b0) b1) b2)), .second, .val (.ref a), .val (.int (3 : Int32)), .val (.int (3 : Int32)), .val (.int b2)] [(.long ((own_xs (own_step (own_step (own_step (-3750763034362895579 : Int64) b0) b1) b2) 30) * (-4658895280553007687 : Int64)))])
  show OwnGo p e below s _ _ _ s₁ (mkF m 56 #[.val (.ref a), .val (.long (own_step (own_step (own_step (-3750763034362895579 : Int64) b0) b1) b2)), .second, .val (.ref a), .val (.int (3 : Int32)), .val (.int (3 : Int32)), .val (.int b2)] [(.long (own_f1 (own_step (own_step (own_step (-3750763034362895579 : Int64) b0) b1) b2)))])
  refine OwnGo.st (fun _ k => XS.lstoreN X0.here hx rfl (hb hby d1_56) rfl (l' := #[.val (.ref a), .val (.long (own_f1 (own_step (own_step (own_step (-3750763034362895579 : Int64) b0) b1) b2))), .second, .val (.ref a), .val (.int (3 : Int32)), .val (.int (3 : Int32)), .val (.int b2)]) rfl k) ?_
  show OwnGo p e below s _ _ _ s₁ (mkF m 57 #[.val (.ref a), .val (.long (own_f1 (own_step (own_step (own_step (-3750763034362895579 : Int64) b0) b1) b2))), .second, .val (.ref a), .val (.int (3 : Int32)), .val (.int (3 : Int32)), .val (.int b2)] [])
  refine OwnGo.st (fun _ k => XS.lloadN X0.here hx rfl (hb hby d1_57) rfl  k) ?_
  show OwnGo p e below s _ _ _ s₁ (mkF m 58 #[.val (.ref a), .val (.long (own_f1 (own_step (own_step (own_step (-3750763034362895579 : Int64) b0) b1) b2))), .second, .val (.ref a), .val (.int (3 : Int32)), .val (.int (3 : Int32)), .val (.int b2)] [(.long (own_f1 (own_step (own_step (own_step (-3750763034362895579 : Int64) b0) b1) b2)))])
  refine OwnGo.st (fun _ k => XS.lloadN X0.here hx rfl (hb hby d1_58) rfl  k) ?_
  show OwnGo p e below s _ _ _ s₁ (mkF m 59 #[.val (.ref a), .val (.long (own_f1 (own_step (own_step (own_step (-3750763034362895579 : Int64) b0) b1) b2))), .second, .val (.ref a), .val (.int (3 : Int32)), .val (.int (3 : Int32)), .val (.int b2)] [(.long (own_f1 (own_step (own_step (own_step (-3750763034362895579 : Int64) b0) b1) b2))), (.long (own_f1 (own_step (own_step (own_step (-3750763034362895579 : Int64) b0) b1) b2)))])
  refine OwnGo.st (fun _ k => XS.bipush X0.here hx rfl (hb hby d1_59) k) ?_
  show OwnGo p e below s _ _ _ s₁ (mkF m 61 #[.val (.ref a), .val (.long (own_f1 (own_step (own_step (own_step (-3750763034362895579 : Int64) b0) b1) b2))), .second, .val (.ref a), .val (.int (3 : Int32)), .val (.int (3 : Int32)), .val (.int b2)] [(.int (27 : Int32)), (.long (own_f1 (own_step (own_step (own_step (-3750763034362895579 : Int64) b0) b1) b2))), (.long (own_f1 (own_step (own_step (own_step (-3750763034362895579 : Int64) b0) b1) b2)))])
  refine OwnGo.st (fun _ k => XS.lushr X0.here hx rfl (hb hby d1_61) rfl k) ?_
  show OwnGo p e below s _ _ _ s₁ (mkF m 62 #[.val (.ref a), .val (.long (own_f1 (own_step (own_step (own_step (-3750763034362895579 : Int64) b0) b1) b2))), .second, .val (.ref a), .val (.int (3 : Int32)), .val (.int (3 : Int32)), .val (.int b2)] [(.long (((own_f1 (own_step (own_step (own_step (-3750763034362895579 : Int64) b0) b1) b2)).toUInt64 >>> ((27 : Int32) &&& 0x3f).toInt64.toUInt64).toInt64)), (.long (own_f1 (own_step (own_step (own_step (-3750763034362895579 : Int64) b0) b1) b2)))])
  refine OwnGo.st (fun _ k => XS.lxor X0.here hx rfl (hb hby d1_62) rfl k) ?_
  show OwnGo p e below s _ _ _ s₁ (mkF m 63 #[.val (.ref a), .val (.long (own_f1 (own_step (own_step (own_step (-3750763034362895579 : Int64) b0) b1) b2))), .second, .val (.ref a), .val (.int (3 : Int32)), .val (.int (3 : Int32)), .val (.int b2)] [(.long ((own_f1 (own_step (own_step (own_step (-3750763034362895579 : Int64) b0) b1) b2)) ^^^ (((own_f1 (own_step (own_step (own_step (-3750763034362895579 : Int64) b0) b1) b2)).toUInt64 >>> ((27 : Int32) &&& 0x3f).toInt64.toUInt64).toInt64)))])
  show OwnGo p e below s _ _ _ s₁ (mkF m 63 #[.val (.ref a), .val (.long (own_f1 (own_step (own_step (own_step (-3750763034362895579 : Int64) b0) b1) b2))), .second, .val (.ref a), .val (.int (3 : Int32)), .val (.int (3 : Int32)), .val (.int b2)] [(.long (own_xs (own_f1 (own_step (own_step (own_step (-3750763034362895579 : Int64) b0) b1) b2)) 27))])
  refine OwnGo.st (fun _ k => X0.ldc2Long hx hown (mvT hZ (hw _ (List.mem_of_getElem? (i := 8) rfl))) (g := (mkF m 63 #[.val (.ref a), .val (.long (own_f1 (own_step (own_step (own_step (-3750763034362895579 : Int64) b0) b1) b2))), .second, .val (.ref a), .val (.int (3 : Int32)), .val (.int (3 : Int32)), .val (.int b2)] [(.long (own_xs (own_f1 (own_step (own_step (own_step (-3750763034362895579 : Int64) b0) b1) b2)) 27))])) rfl (hb hby d1_63) _ k) ?_
  show OwnGo p e below s _ _ _ s₁ (mkF m 66 #[.val (.ref a), .val (.long (own_f1 (own_step (own_step (own_step (-3750763034362895579 : Int64) b0) b1) b2))), .second, .val (.ref a), .val (.int (3 : Int32)), .val (.int (3 : Int32)), .val (.int b2)] [(.long (-7723592293110705685 : Int64)), (.long (own_xs (own_f1 (own_step (own_step (own_step (-3750763034362895579 : Int64) b0) b1) b2)) 27))])
  refine OwnGo.st (fun _ k => XS.lmul X0.here hx rfl (hb hby d1_66) rfl k) ?_
  show OwnGo p e below s _ _ _ s₁ (mkF m 67 #[.val (.ref a), .val (.long (own_f1 (own_step (own_step (own_step (-3750763034362895579 : Int64) b0) b1) b2))), .second, .val (.ref a), .val (.int (3 : Int32)), .val (.int (3 : Int32)), .val (.int b2)] [(.long ((own_xs (own_f1 (own_step (own_step (own_step (-3750763034362895579 : Int64) b0) b1) b2)) 27) * (-7723592293110705685 : Int64)))])
  show OwnGo p e below s _ _ _ s₁ (mkF m 67 #[.val (.ref a), .val (.long (own_f1 (own_step (own_step (own_step (-3750763034362895579 : Int64) b0) b1) b2))), .second, .val (.ref a), .val (.int (3 : Int32)), .val (.int (3 : Int32)), .val (.int b2)] [(.long (own_f2 (own_step (own_step (own_step (-3750763034362895579 : Int64) b0) b1) b2)))])
  refine OwnGo.st (fun _ k => XS.lstoreN X0.here hx rfl (hb hby d1_67) rfl (l' := #[.val (.ref a), .val (.long (own_f2 (own_step (own_step (own_step (-3750763034362895579 : Int64) b0) b1) b2))), .second, .val (.ref a), .val (.int (3 : Int32)), .val (.int (3 : Int32)), .val (.int b2)]) rfl k) ?_
  show OwnGo p e below s _ _ _ s₁ (mkF m 68 #[.val (.ref a), .val (.long (own_f2 (own_step (own_step (own_step (-3750763034362895579 : Int64) b0) b1) b2))), .second, .val (.ref a), .val (.int (3 : Int32)), .val (.int (3 : Int32)), .val (.int b2)] [])
  refine OwnGo.st (fun _ k => XS.lloadN X0.here hx rfl (hb hby d1_68) rfl  k) ?_
  show OwnGo p e below s _ _ _ s₁ (mkF m 69 #[.val (.ref a), .val (.long (own_f2 (own_step (own_step (own_step (-3750763034362895579 : Int64) b0) b1) b2))), .second, .val (.ref a), .val (.int (3 : Int32)), .val (.int (3 : Int32)), .val (.int b2)] [(.long (own_f2 (own_step (own_step (own_step (-3750763034362895579 : Int64) b0) b1) b2)))])
  refine OwnGo.st (fun _ k => XS.lloadN X0.here hx rfl (hb hby d1_69) rfl  k) ?_
  show OwnGo p e below s _ _ _ s₁ (mkF m 70 #[.val (.ref a), .val (.long (own_f2 (own_step (own_step (own_step (-3750763034362895579 : Int64) b0) b1) b2))), .second, .val (.ref a), .val (.int (3 : Int32)), .val (.int (3 : Int32)), .val (.int b2)] [(.long (own_f2 (own_step (own_step (own_step (-3750763034362895579 : Int64) b0) b1) b2))), (.long (own_f2 (own_step (own_step (own_step (-3750763034362895579 : Int64) b0) b1) b2)))])
  refine OwnGo.st (fun _ k => XS.bipush X0.here hx rfl (hb hby d1_70) k) ?_
  show OwnGo p e below s _ _ _ s₁ (mkF m 72 #[.val (.ref a), .val (.long (own_f2 (own_step (own_step (own_step (-3750763034362895579 : Int64) b0) b1) b2))), .second, .val (.ref a), .val (.int (3 : Int32)), .val (.int (3 : Int32)), .val (.int b2)] [(.int (31 : Int32)), (.long (own_f2 (own_step (own_step (own_step (-3750763034362895579 : Int64) b0) b1) b2))), (.long (own_f2 (own_step (own_step (own_step (-3750763034362895579 : Int64) b0) b1) b2)))])
  refine OwnGo.st (fun _ k => XS.lushr X0.here hx rfl (hb hby d1_72) rfl k) ?_
  show OwnGo p e below s _ _ _ s₁ (mkF m 73 #[.val (.ref a), .val (.long (own_f2 (own_step (own_step (own_step (-3750763034362895579 : Int64) b0) b1) b2))), .second, .val (.ref a), .val (.int (3 : Int32)), .val (.int (3 : Int32)), .val (.int b2)] [(.long (((own_f2 (own_step (own_step (own_step (-3750763034362895579 : Int64) b0) b1) b2)).toUInt64 >>> ((31 : Int32) &&& 0x3f).toInt64.toUInt64).toInt64)), (.long (own_f2 (own_step (own_step (own_step (-3750763034362895579 : Int64) b0) b1) b2)))])
  refine OwnGo.st (fun _ k => XS.lxor X0.here hx rfl (hb hby d1_73) rfl k) ?_
  show OwnGo p e below s _ _ _ s₁ (mkF m 74 #[.val (.ref a), .val (.long (own_f2 (own_step (own_step (own_step (-3750763034362895579 : Int64) b0) b1) b2))), .second, .val (.ref a), .val (.int (3 : Int32)), .val (.int (3 : Int32)), .val (.int b2)] [(.long ((own_f2 (own_step (own_step (own_step (-3750763034362895579 : Int64) b0) b1) b2)) ^^^ (((own_f2 (own_step (own_step (own_step (-3750763034362895579 : Int64) b0) b1) b2)).toUInt64 >>> ((31 : Int32) &&& 0x3f).toInt64.toUInt64).toInt64)))])
  show OwnGo p e below s _ _ _ s₁ (mkF m 74 #[.val (.ref a), .val (.long (own_f2 (own_step (own_step (own_step (-3750763034362895579 : Int64) b0) b1) b2))), .second, .val (.ref a), .val (.int (3 : Int32)), .val (.int (3 : Int32)), .val (.int b2)] [(.long (own_fin (own_step (own_step (own_step (-3750763034362895579 : Int64) b0) b1) b2)))])
  exact OwnGo.ret X0 hx hret hlk rfl (Or.inr (Or.inl ⟨rfl, rfl, _, rfl⟩)) (hb hby d1_74) (by show Qof3 Z a kc b0 b1 b2 h0 n0 _ s₁.heap _; rw [e0]; exact ⟨rfl, N0, rfl⟩) (by decide) (by decide)
def Qof4 (Z : State) (a : Addr) (kc : ClassId) (b0 : Int32) (b1 : Int32) (b2 : Int32) (b3 : Int32) (h0 : Heap) (n0 : Nat) (v : Option Value) (h : Heap) (L : List Loc) : Prop := v = some (.long (own_fin (own_step (own_step (own_step (own_step (-3750763034362895579 : Int64) b0) b1) b2) b3))) ∧ Fr n0 L ∧ h = h0
set_option maxRecDepth 65536 in
set_option maxHeartbeats 40000000 in
theorem rmof4 (l : Launch) (Z : State) (a0 : Array Value) (hw : ∀ d ∈ tables_1, d.before a0 Z = true) (ws : List Jvm.Cond) (a : Addr) (kc : ClassId) (b0 : Int32) (b1 : Int32) (b2 : Int32) (b3 : Int32) (h0 : Heap) (n0 : Nat) (Z0 : n0 ≤ h0.size) (V : Arv Z h0 a kc .byte (4 : Int32) [(.int b0), (.int b1), (.int b2), (.int b3)] (.int (0 : Int32))) :
    MetFree l (⟨"com/example/utsatt/utsatt/KeyHashes", "of", "([B)J"⟩ : MethodName) (head1 (Jvm.Cond.code (⟨"com/example/utsatt/utsatt/KeyHashes", "of", "([B)J"⟩ : MethodName) prog_2_method_2_code 7 (some .long) :: ws) ({ frames := 0, cells := 0, slots := 0, locals := 0 } : Room)) (fun as_ U => as_ = #[(.ref a)] ∧ Z.Warmed39 U.vm ∧ U.heap = h0) (fun _ _ _ _ _ => True) (fun _ U o U' => ∃ v L, o = .returned v ∧ (Qof4 Z a kc b0 b1 b2 b3 h0 n0) v U'.heap L ∧ FrameEnd U o U' L ({ frames := 0, cells := 0, slots := 0, locals := 0 } : Room).cells ({ frames := 0, cells := 0, slots := 0, locals := 0 } : Room).slots) := by
  refine own_met (plainFor_of_name pn_1) ?_
  intro p e s m below meth c s₁ X0 hx hby hml hret hlk hown hnm hZ e0
  have N0 := Fr.nil n0
  have Z_ := Z0
  refine OwnGo.cast (ef_of4 m a) ?_
  show OwnGo p e below s _ _ _ s₁ (mkF m 0 #[.val (.ref a), .unset, .unset, .unset, .unset, .unset, .unset] [])
  refine OwnGo.st (fun _ k => X0.ldc2Long hx hown (mvT hZ (hw _ (List.mem_of_getElem? (i := 6) rfl))) (g := (mkF m 0 #[.val (.ref a), .unset, .unset, .unset, .unset, .unset, .unset] [])) rfl (hb hby d1_0) _ k) ?_
  show OwnGo p e below s _ _ _ s₁ (mkF m 3 #[.val (.ref a), .unset, .unset, .unset, .unset, .unset, .unset] [(.long (-3750763034362895579 : Int64))])
  refine OwnGo.st (fun _ k => XS.lstoreN X0.here hx rfl (hb hby d1_3) rfl (l' := #[.val (.ref a), .val (.long (-3750763034362895579 : Int64)), .second, .unset, .unset, .unset, .unset]) rfl k) ?_
  show OwnGo p e below s _ _ _ s₁ (mkF m 4 #[.val (.ref a), .val (.long (-3750763034362895579 : Int64)), .second, .unset, .unset, .unset, .unset] [])
  refine OwnGo.st (fun _ k => XS.aloadN X0.here hx rfl (hb hby d1_4) rfl rfl  k) ?_
  show OwnGo p e below s _ _ _ s₁ (mkF m 5 #[.val (.ref a), .val (.long (-3750763034362895579 : Int64)), .second, .unset, .unset, .unset, .unset] [(.ref a)])
  refine OwnGo.st (fun _ k => XS.astoreN X0.here hx rfl (hb hby d1_5) rfl rfl (l' := #[.val (.ref a), .val (.long (-3750763034362895579 : Int64)), .second, .val (.ref a), .unset, .unset, .unset]) rfl k) ?_
  show OwnGo p e below s _ _ _ s₁ (mkF m 6 #[.val (.ref a), .val (.long (-3750763034362895579 : Int64)), .second, .val (.ref a), .unset, .unset, .unset] [])
  refine OwnGo.st (fun _ k => XS.aloadN X0.here hx rfl (hb hby d1_6) rfl rfl  k) ?_
  show OwnGo p e below s _ _ _ s₁ (mkF m 7 #[.val (.ref a), .val (.long (-3750763034362895579 : Int64)), .second, .val (.ref a), .unset, .unset, .unset] [(.ref a)])
  obtain ⟨cl11, Ar11, -, S11, N11, -, -⟩ := id V
  refine OwnGo.st (fun _ k => own_len hZ (len_of S11 N11) Ar11 X0 e0 hx (g := (mkF m 7 #[.val (.ref a), .val (.long (-3750763034362895579 : Int64)), .second, .val (.ref a), .unset, .unset, .unset] [(.ref a)])) rfl rfl (hb hby d1_7) _ k) ?_
  show OwnGo p e below s _ _ _ s₁ (mkF m 8 #[.val (.ref a), .val (.long (-3750763034362895579 : Int64)), .second, .val (.ref a), .unset, .unset, .unset] [(.int (4 : Int32))])
  refine OwnGo.st (fun _ k => XS.istore X0.here hx rfl (hb hby d1_8) rfl (l' := #[.val (.ref a), .val (.long (-3750763034362895579 : Int64)), .second, .val (.ref a), .val (.int (4 : Int32)), .unset, .unset]) rfl k) ?_
  show OwnGo p e below s _ _ _ s₁ (mkF m 10 #[.val (.ref a), .val (.long (-3750763034362895579 : Int64)), .second, .val (.ref a), .val (.int (4 : Int32)), .unset, .unset] [])
  refine OwnGo.st (fun _ k => XS.iconst X0.here hx rfl (hb hby d1_10) k) ?_
  show OwnGo p e below s _ _ _ s₁ (mkF m 11 #[.val (.ref a), .val (.long (-3750763034362895579 : Int64)), .second, .val (.ref a), .val (.int (4 : Int32)), .unset, .unset] [(.int (0 : Int32))])
  refine OwnGo.st (fun _ k => XS.istore X0.here hx rfl (hb hby d1_11) rfl (l' := #[.val (.ref a), .val (.long (-3750763034362895579 : Int64)), .second, .val (.ref a), .val (.int (4 : Int32)), .val (.int (0 : Int32)), .unset]) rfl k) ?_
  show OwnGo p e below s _ _ _ s₁ (mkF m 13 #[.val (.ref a), .val (.long (-3750763034362895579 : Int64)), .second, .val (.ref a), .val (.int (4 : Int32)), .val (.int (0 : Int32)), .unset] [])
  refine OwnGo.st (fun _ k => XS.iload X0.here hx rfl (hb hby d1_13) rfl  k) ?_
  show OwnGo p e below s _ _ _ s₁ (mkF m 15 #[.val (.ref a), .val (.long (-3750763034362895579 : Int64)), .second, .val (.ref a), .val (.int (4 : Int32)), .val (.int (0 : Int32)), .unset] [(.int (0 : Int32))])
  refine OwnGo.st (fun _ k => XS.iload X0.here hx rfl (hb hby d1_15) rfl  k) ?_
  show OwnGo p e below s _ _ _ s₁ (mkF m 17 #[.val (.ref a), .val (.long (-3750763034362895579 : Int64)), .second, .val (.ref a), .val (.int (4 : Int32)), .val (.int (0 : Int32)), .unset] [(.int (4 : Int32)), (.int (0 : Int32))])
  refine OwnGo.st (fun _ k => XS.icmpNo X0.here hx rfl (hb hby d1_17) rfl (tlt ((by decide) : (0 : Int32) < (4 : Int32))).2.1 k) ?_
  show OwnGo p e below s _ _ _ s₁ (mkF m 20 #[.val (.ref a), .val (.long (-3750763034362895579 : Int64)), .second, .val (.ref a), .val (.int (4 : Int32)), .val (.int (0 : Int32)), .unset] [])
  refine OwnGo.st (fun _ k => XS.aloadN X0.here hx rfl (hb hby d1_20) rfl rfl  k) ?_
  show OwnGo p e below s _ _ _ s₁ (mkF m 21 #[.val (.ref a), .val (.long (-3750763034362895579 : Int64)), .second, .val (.ref a), .val (.int (4 : Int32)), .val (.int (0 : Int32)), .unset] [(.ref a)])
  refine OwnGo.st (fun _ k => XS.iload X0.here hx rfl (hb hby d1_21) rfl  k) ?_
  show OwnGo p e below s _ _ _ s₁ (mkF m 23 #[.val (.ref a), .val (.long (-3750763034362895579 : Int64)), .second, .val (.ref a), .val (.int (4 : Int32)), .val (.int (0 : Int32)), .unset] [(.int (0 : Int32)), (.ref a)])
  obtain ⟨cl12, Ar12, -, S12, -, H12, -⟩ := id V
  have hin12 : ¬ ((0 : Int32) < 0 ∨ cl12.slots.size ≤ ((0 : Int32)).toNatClampNeg) := inb_of S12 ⟨by decide, by decide⟩
  refine OwnGo.st (fun _ k => X0.baloadBytes hx (j := (0 : Int32)) (v := (.int b0)) (by rw [e0]; exact Ar12.1) (State.isArrayOf_alike hZ.alike Ar12.2.1) Ar12.2.2 hin12 (H12.at hin12 rfl) (g := (mkF m 23 #[.val (.ref a), .val (.long (-3750763034362895579 : Int64)), .second, .val (.ref a), .val (.int (4 : Int32)), .val (.int (0 : Int32)), .unset] [(.int (0 : Int32)), (.ref a)])) rfl rfl (hb hby d1_23) _ k) ?_
  show OwnGo p e below s _ _ _ s₁ (mkF m 24 #[.val (.ref a), .val (.long (-3750763034362895579 : Int64)), .second, .val (.ref a), .val (.int (4 : Int32)), .val (.int (0 : Int32)), .unset] [(.int b0)])
  refine OwnGo.st (fun _ k => XS.istore X0.here hx rfl (hb hby d1_24) rfl (l' := #[.val (.ref a), .val (.long (-3750763034362895579 : Int64)), .second, .val (.ref a), .val (.int (4 : Int32)), .val (.int (0 : Int32)), .val (.int b0)]) rfl k) ?_
  show OwnGo p e below s _ _ _ s₁ (mkF m 26 #[.val (.ref a), .val (.long (-3750763034362895579 : Int64)), .second, .val (.ref a), .val (.int (4 : Int32)), .val (.int (0 : Int32)), .val (.int b0)] [])
  refine OwnGo.st (fun _ k => XS.lloadN X0.here hx rfl (hb hby d1_26) rfl  k) ?_
  show OwnGo p e below s _ _ _ s₁ (mkF m 27 #[.val (.ref a), .val (.long (-3750763034362895579 : Int64)), .second, .val (.ref a), .val (.int (4 : Int32)), .val (.int (0 : Int32)), .val (.int b0)] [(.long (-3750763034362895579 : Int64))])
  refine OwnGo.st (fun _ k => XS.iload X0.here hx rfl (hb hby d1_27) rfl  k) ?_
  show OwnGo p e below s _ _ _ s₁ (mkF m 29 #[.val (.ref a), .val (.long (-3750763034362895579 : Int64)), .second, .val (.ref a), .val (.int (4 : Int32)), .val (.int (0 : Int32)), .val (.int b0)] [(.int b0), (.long (-3750763034362895579 : Int64))])
  refine OwnGo.st (fun _ k => XS.sipush X0.here hx rfl (hb hby d1_29) k) ?_
  show OwnGo p e below s _ _ _ s₁ (mkF m 32 #[.val (.ref a), .val (.long (-3750763034362895579 : Int64)), .second, .val (.ref a), .val (.int (4 : Int32)), .val (.int (0 : Int32)), .val (.int b0)] [(.int (255 : Int32)), (.int b0), (.long (-3750763034362895579 : Int64))])
  refine OwnGo.st (fun _ k => XS.iand X0.here hx rfl (hb hby d1_32) rfl k) ?_
  show OwnGo p e below s _ _ _ s₁ (mkF m 33 #[.val (.ref a), .val (.long (-3750763034362895579 : Int64)), .second, .val (.ref a), .val (.int (4 : Int32)), .val (.int (0 : Int32)), .val (.int b0)] [(.int (b0 &&& (255 : Int32))), (.long (-3750763034362895579 : Int64))])
  refine OwnGo.st (fun _ k => XS.i2l X0.here hx rfl (hb hby d1_33) rfl k) ?_
  show OwnGo p e below s _ _ _ s₁ (mkF m 34 #[.val (.ref a), .val (.long (-3750763034362895579 : Int64)), .second, .val (.ref a), .val (.int (4 : Int32)), .val (.int (0 : Int32)), .val (.int b0)] [(.long ((b0 &&& (255 : Int32)).toInt64)), (.long (-3750763034362895579 : Int64))])
  refine OwnGo.st (fun _ k => XS.lxor X0.here hx rfl (hb hby d1_34) rfl k) ?_
  show OwnGo p e below s _ _ _ s₁ (mkF m 35 #[.val (.ref a), .val (.long (-3750763034362895579 : Int64)), .second, .val (.ref a), .val (.int (4 : Int32)), .val (.int (0 : Int32)), .val (.int b0)] [(.long ((-3750763034362895579 : Int64) ^^^ ((b0 &&& (255 : Int32)).toInt64)))])
  refine OwnGo.st (fun _ k => X0.ldc2Long hx hown (mvT hZ (hw _ (List.mem_of_getElem? (i := 18) rfl))) (g := (mkF m 35 #[.val (.ref a), .val (.long (-3750763034362895579 : Int64)), .second, .val (.ref a), .val (.int (4 : Int32)), .val (.int (0 : Int32)), .val (.int b0)] [(.long ((-3750763034362895579 : Int64) ^^^ ((b0 &&& (255 : Int32)).toInt64)))])) rfl (hb hby d1_35) _ k) ?_
  show OwnGo p e below s _ _ _ s₁ (mkF m 38 #[.val (.ref a), .val (.long (-3750763034362895579 : Int64)), .second, .val (.ref a), .val (.int (4 : Int32)), .val (.int (0 : Int32)), .val (.int b0)] [(.long (1099511628211 : Int64)), (.long ((-3750763034362895579 : Int64) ^^^ ((b0 &&& (255 : Int32)).toInt64)))])
  refine OwnGo.st (fun _ k => XS.lmul X0.here hx rfl (hb hby d1_38) rfl k) ?_
  show OwnGo p e below s _ _ _ s₁ (mkF m 39 #[.val (.ref a), .val (.long (-3750763034362895579 : Int64)), .second, .val (.ref a), .val (.int (4 : Int32)), .val (.int (0 : Int32)), .val (.int b0)] [(.long (((-3750763034362895579 : Int64) ^^^ ((b0 &&& (255 : Int32)).toInt64)) * (1099511628211 : Int64)))])
  show OwnGo p e below s _ _ _ s₁ (mkF m 39 #[.val (.ref a), .val (.long (-3750763034362895579 : Int64)), .second, .val (.ref a), .val (.int (4 : Int32)), .val (.int (0 : Int32)), .val (.int b0)] [(.long (own_step (-3750763034362895579 : Int64) b0))])
  refine OwnGo.st (fun _ k => XS.lstoreN X0.here hx rfl (hb hby d1_39) rfl (l' := #[.val (.ref a), .val (.long (own_step (-3750763034362895579 : Int64) b0)), .second, .val (.ref a), .val (.int (4 : Int32)), .val (.int (0 : Int32)), .val (.int b0)]) rfl k) ?_
  show OwnGo p e below s _ _ _ s₁ (mkF m 40 #[.val (.ref a), .val (.long (own_step (-3750763034362895579 : Int64) b0)), .second, .val (.ref a), .val (.int (4 : Int32)), .val (.int (0 : Int32)), .val (.int b0)] [])
  refine OwnGo.st (fun _ k => XS.iinc X0.here hx rfl (hb hby d1_40) rfl (l' := #[.val (.ref a), .val (.long (own_step (-3750763034362895579 : Int64) b0)), .second, .val (.ref a), .val (.int (4 : Int32)), .val (.int ((0 : Int32) + (1 : Int32))), .val (.int b0)]) rfl k) ?_
  show OwnGo p e below s _ _ _ s₁ (mkF m 43 #[.val (.ref a), .val (.long (own_step (-3750763034362895579 : Int64) b0)), .second, .val (.ref a), .val (.int (4 : Int32)), .val (.int ((0 : Int32) + (1 : Int32))), .val (.int b0)] [])
  show OwnGo p e below s _ _ _ s₁ (mkF m 43 #[.val (.ref a), .val (.long (own_step (-3750763034362895579 : Int64) b0)), .second, .val (.ref a), .val (.int (4 : Int32)), .val (.int (1 : Int32)), .val (.int b0)] [])
  refine OwnGo.st (fun _ k => XS.goto X0.here hx rfl (pc0 := 43) (pc' := 13) rfl (hb hby d1_43) (by decide) (by decide) k) ?_
  show OwnGo p e below s _ _ _ s₁ (mkF m 13 #[.val (.ref a), .val (.long (own_step (-3750763034362895579 : Int64) b0)), .second, .val (.ref a), .val (.int (4 : Int32)), .val (.int (1 : Int32)), .val (.int b0)] [])
  refine OwnGo.st (fun _ k => XS.iload X0.here hx rfl (hb hby d1_13) rfl  k) ?_
  show OwnGo p e below s _ _ _ s₁ (mkF m 15 #[.val (.ref a), .val (.long (own_step (-3750763034362895579 : Int64) b0)), .second, .val (.ref a), .val (.int (4 : Int32)), .val (.int (1 : Int32)), .val (.int b0)] [(.int (1 : Int32))])
  refine OwnGo.st (fun _ k => XS.iload X0.here hx rfl (hb hby d1_15) rfl  k) ?_
  show OwnGo p e below s _ _ _ s₁ (mkF m 17 #[.val (.ref a), .val (.long (own_step (-3750763034362895579 : Int64) b0)), .second, .val (.ref a), .val (.int (4 : Int32)), .val (.int (1 : Int32)), .val (.int b0)] [(.int (4 : Int32)), (.int (1 : Int32))])
  refine OwnGo.st (fun _ k => XS.icmpNo X0.here hx rfl (hb hby d1_17) rfl (tlt ((by decide) : (1 : Int32) < (4 : Int32))).2.1 k) ?_
  show OwnGo p e below s _ _ _ s₁ (mkF m 20 #[.val (.ref a), .val (.long (own_step (-3750763034362895579 : Int64) b0)), .second, .val (.ref a), .val (.int (4 : Int32)), .val (.int (1 : Int32)), .val (.int b0)] [])
  refine OwnGo.st (fun _ k => XS.aloadN X0.here hx rfl (hb hby d1_20) rfl rfl  k) ?_
  show OwnGo p e below s _ _ _ s₁ (mkF m 21 #[.val (.ref a), .val (.long (own_step (-3750763034362895579 : Int64) b0)), .second, .val (.ref a), .val (.int (4 : Int32)), .val (.int (1 : Int32)), .val (.int b0)] [(.ref a)])
  refine OwnGo.st (fun _ k => XS.iload X0.here hx rfl (hb hby d1_21) rfl  k) ?_
  show OwnGo p e below s _ _ _ s₁ (mkF m 23 #[.val (.ref a), .val (.long (own_step (-3750763034362895579 : Int64) b0)), .second, .val (.ref a), .val (.int (4 : Int32)), .val (.int (1 : Int32)), .val (.int b0)] [(.int (1 : Int32)), (.ref a)])
  obtain ⟨cl13, Ar13, -, S13, -, H13, -⟩ := id V
  have hin13 : ¬ ((1 : Int32) < 0 ∨ cl13.slots.size ≤ ((1 : Int32)).toNatClampNeg) := inb_of S13 ⟨by decide, by decide⟩
  refine OwnGo.st (fun _ k => X0.baloadBytes hx (j := (1 : Int32)) (v := (.int b1)) (by rw [e0]; exact Ar13.1) (State.isArrayOf_alike hZ.alike Ar13.2.1) Ar13.2.2 hin13 (H13.at hin13 rfl) (g := (mkF m 23 #[.val (.ref a), .val (.long (own_step (-3750763034362895579 : Int64) b0)), .second, .val (.ref a), .val (.int (4 : Int32)), .val (.int (1 : Int32)), .val (.int b0)] [(.int (1 : Int32)), (.ref a)])) rfl rfl (hb hby d1_23) _ k) ?_
  show OwnGo p e below s _ _ _ s₁ (mkF m 24 #[.val (.ref a), .val (.long (own_step (-3750763034362895579 : Int64) b0)), .second, .val (.ref a), .val (.int (4 : Int32)), .val (.int (1 : Int32)), .val (.int b0)] [(.int b1)])
  refine OwnGo.st (fun _ k => XS.istore X0.here hx rfl (hb hby d1_24) rfl (l' := #[.val (.ref a), .val (.long (own_step (-3750763034362895579 : Int64) b0)), .second, .val (.ref a), .val (.int (4 : Int32)), .val (.int (1 : Int32)), .val (.int b1)]) rfl k) ?_
  show OwnGo p e below s _ _ _ s₁ (mkF m 26 #[.val (.ref a), .val (.long (own_step (-3750763034362895579 : Int64) b0)), .second, .val (.ref a), .val (.int (4 : Int32)), .val (.int (1 : Int32)), .val (.int b1)] [])
  refine OwnGo.st (fun _ k => XS.lloadN X0.here hx rfl (hb hby d1_26) rfl  k) ?_
  show OwnGo p e below s _ _ _ s₁ (mkF m 27 #[.val (.ref a), .val (.long (own_step (-3750763034362895579 : Int64) b0)), .second, .val (.ref a), .val (.int (4 : Int32)), .val (.int (1 : Int32)), .val (.int b1)] [(.long (own_step (-3750763034362895579 : Int64) b0))])
  refine OwnGo.st (fun _ k => XS.iload X0.here hx rfl (hb hby d1_27) rfl  k) ?_
  show OwnGo p e below s _ _ _ s₁ (mkF m 29 #[.val (.ref a), .val (.long (own_step (-3750763034362895579 : Int64) b0)), .second, .val (.ref a), .val (.int (4 : Int32)), .val (.int (1 : Int32)), .val (.int b1)] [(.int b1), (.long (own_step (-3750763034362895579 : Int64) b0))])
  refine OwnGo.st (fun _ k => XS.sipush X0.here hx rfl (hb hby d1_29) k) ?_
  show OwnGo p e below s _ _ _ s₁ (mkF m 32 #[.val (.ref a), .val (.long (own_step (-3750763034362895579 : Int64) b0)), .second, .val (.ref a), .val (.int (4 : Int32)), .val (.int (1 : Int32)), .val (.int b1)] [(.int (255 : Int32)), (.int b1), (.long (own_step (-3750763034362895579 : Int64) b0))])
  refine OwnGo.st (fun _ k => XS.iand X0.here hx rfl (hb hby d1_32) rfl k) ?_
  show OwnGo p e below s _ _ _ s₁ (mkF m 33 #[.val (.ref a), .val (.long (own_step (-3750763034362895579 : Int64) b0)), .second, .val (.ref a), .val (.int (4 : Int32)), .val (.int (1 : Int32)), .val (.int b1)] [(.int (b1 &&& (255 : Int32))), (.long (own_step (-3750763034362895579 : Int64) b0))])
  refine OwnGo.st (fun _ k => XS.i2l X0.here hx rfl (hb hby d1_33) rfl k) ?_
  show OwnGo p e below s _ _ _ s₁ (mkF m 34 #[.val (.ref a), .val (.long (own_step (-3750763034362895579 : Int64) b0)), .second, .val (.ref a), .val (.int (4 : Int32)), .val (.int (1 : Int32)), .val (.int b1)] [(.long ((b1 &&& (255 : Int32)).toInt64)), (.long (own_step (-3750763034362895579 : Int64) b0))])
  refine OwnGo.st (fun _ k => XS.lxor X0.here hx rfl (hb hby d1_34) rfl k) ?_
  show OwnGo p e below s _ _ _ s₁ (mkF m 35 #[.val (.ref a), .val (.long (own_step (-3750763034362895579 : Int64) b0)), .second, .val (.ref a), .val (.int (4 : Int32)), .val (.int (1 : Int32)), .val (.int b1)] [(.long ((own_step (-3750763034362895579 : Int64) b0) ^^^ ((b1 &&& (255 : Int32)).toInt64)))])
  refine OwnGo.st (fun _ k => X0.ldc2Long hx hown (mvT hZ (hw _ (List.mem_of_getElem? (i := 18) rfl))) (g := (mkF m 35 #[.val (.ref a), .val (.long (own_step (-3750763034362895579 : Int64) b0)), .second, .val (.ref a), .val (.int (4 : Int32)), .val (.int (1 : Int32)), .val (.int b1)] [(.long ((own_step (-3750763034362895579 : Int64) b0) ^^^ ((b1 &&& (255 : Int32)).toInt64)))])) rfl (hb hby d1_35) _ k) ?_
  show OwnGo p e below s _ _ _ s₁ (mkF m 38 #[.val (.ref a), .val (.long (own_step (-3750763034362895579 : Int64) b0)), .second, .val (.ref a), .val (.int (4 : Int32)), .val (.int (1 : Int32)), .val (.int b1)] [(.long (1099511628211 : Int64)), (.long ((own_step (-3750763034362895579 : Int64) b0) ^^^ ((b1 &&& (255 : Int32)).toInt64)))])
  refine OwnGo.st (fun _ k => XS.lmul X0.here hx rfl (hb hby d1_38) rfl k) ?_
  show OwnGo p e below s _ _ _ s₁ (mkF m 39 #[.val (.ref a), .val (.long (own_step (-3750763034362895579 : Int64) b0)), .second, .val (.ref a), .val (.int (4 : Int32)), .val (.int (1 : Int32)), .val (.int b1)] [(.long (((own_step (-3750763034362895579 : Int64) b0) ^^^ ((b1 &&& (255 : Int32)).toInt64)) * (1099511628211 : Int64)))])
  show OwnGo p e below s _ _ _ s₁ (mkF m 39 #[.val (.ref a), .val (.long (own_step (-3750763034362895579 : Int64) b0)), .second, .val (.ref a), .val (.int (4 : Int32)), .val (.int (1 : Int32)), .val (.int b1)] [(.long (own_step (own_step (-3750763034362895579 : Int64) b0) b1))])
  refine OwnGo.st (fun _ k => XS.lstoreN X0.here hx rfl (hb hby d1_39) rfl (l' := #[.val (.ref a), .val (.long (own_step (own_step (-3750763034362895579 : Int64) b0) b1)), .second, .val (.ref a), .val (.int (4 : Int32)), .val (.int (1 : Int32)), .val (.int b1)]) rfl k) ?_
  show OwnGo p e below s _ _ _ s₁ (mkF m 40 #[.val (.ref a), .val (.long (own_step (own_step (-3750763034362895579 : Int64) b0) b1)), .second, .val (.ref a), .val (.int (4 : Int32)), .val (.int (1 : Int32)), .val (.int b1)] [])
  refine OwnGo.st (fun _ k => XS.iinc X0.here hx rfl (hb hby d1_40) rfl (l' := #[.val (.ref a), .val (.long (own_step (own_step (-3750763034362895579 : Int64) b0) b1)), .second, .val (.ref a), .val (.int (4 : Int32)), .val (.int ((1 : Int32) + (1 : Int32))), .val (.int b1)]) rfl k) ?_
  show OwnGo p e below s _ _ _ s₁ (mkF m 43 #[.val (.ref a), .val (.long (own_step (own_step (-3750763034362895579 : Int64) b0) b1)), .second, .val (.ref a), .val (.int (4 : Int32)), .val (.int ((1 : Int32) + (1 : Int32))), .val (.int b1)] [])
  show OwnGo p e below s _ _ _ s₁ (mkF m 43 #[.val (.ref a), .val (.long (own_step (own_step (-3750763034362895579 : Int64) b0) b1)), .second, .val (.ref a), .val (.int (4 : Int32)), .val (.int (2 : Int32)), .val (.int b1)] [])
  refine OwnGo.st (fun _ k => XS.goto X0.here hx rfl (pc0 := 43) (pc' := 13) rfl (hb hby d1_43) (by decide) (by decide) k) ?_
  show OwnGo p e below s _ _ _ s₁ (mkF m 13 #[.val (.ref a), .val (.long (own_step (own_step (-3750763034362895579 : Int64) b0) b1)), .second, .val (.ref a), .val (.int (4 : Int32)), .val (.int (2 : Int32)), .val (.int b1)] [])
  refine OwnGo.st (fun _ k => XS.iload X0.here hx rfl (hb hby d1_13) rfl  k) ?_
  show OwnGo p e below s _ _ _ s₁ (mkF m 15 #[.val (.ref a), .val (.long (own_step (own_step (-3750763034362895579 : Int64) b0) b1)), .second, .val (.ref a), .val (.int (4 : Int32)), .val (.int (2 : Int32)), .val (.int b1)] [(.int (2 : Int32))])
  refine OwnGo.st (fun _ k => XS.iload X0.here hx rfl (hb hby d1_15) rfl  k) ?_
  show OwnGo p e below s _ _ _ s₁ (mkF m 17 #[.val (.ref a), .val (.long (own_step (own_step (-3750763034362895579 : Int64) b0) b1)), .second, .val (.ref a), .val (.int (4 : Int32)), .val (.int (2 : Int32)), .val (.int b1)] [(.int (4 : Int32)), (.int (2 : Int32))])
  refine OwnGo.st (fun _ k => XS.icmpNo X0.here hx rfl (hb hby d1_17) rfl (tlt ((by decide) : (2 : Int32) < (4 : Int32))).2.1 k) ?_
  show OwnGo p e below s _ _ _ s₁ (mkF m 20 #[.val (.ref a), .val (.long (own_step (own_step (-3750763034362895579 : Int64) b0) b1)), .second, .val (.ref a), .val (.int (4 : Int32)), .val (.int (2 : Int32)), .val (.int b1)] [])
  refine OwnGo.st (fun _ k => XS.aloadN X0.here hx rfl (hb hby d1_20) rfl rfl  k) ?_
  show OwnGo p e below s _ _ _ s₁ (mkF m 21 #[.val (.ref a), .val (.long (own_step (own_step (-3750763034362895579 : Int64) b0) b1)), .second, .val (.ref a), .val (.int (4 : Int32)), .val (.int (2 : Int32)), .val (.int b1)] [(.ref a)])
  refine OwnGo.st (fun _ k => XS.iload X0.here hx rfl (hb hby d1_21) rfl  k) ?_
  show OwnGo p e below s _ _ _ s₁ (mkF m 23 #[.val (.ref a), .val (.long (own_step (own_step (-3750763034362895579 : Int64) b0) b1)), .second, .val (.ref a), .val (.int (4 : Int32)), .val (.int (2 : Int32)), .val (.int b1)] [(.int (2 : Int32)), (.ref a)])
  obtain ⟨cl14, Ar14, -, S14, -, H14, -⟩ := id V
  have hin14 : ¬ ((2 : Int32) < 0 ∨ cl14.slots.size ≤ ((2 : Int32)).toNatClampNeg) := inb_of S14 ⟨by decide, by decide⟩
  refine OwnGo.st (fun _ k => X0.baloadBytes hx (j := (2 : Int32)) (v := (.int b2)) (by rw [e0]; exact Ar14.1) (State.isArrayOf_alike hZ.alike Ar14.2.1) Ar14.2.2 hin14 (H14.at hin14 rfl) (g := (mkF m 23 #[.val (.ref a), .val (.long (own_step (own_step (-3750763034362895579 : Int64) b0) b1)), .second, .val (.ref a), .val (.int (4 : Int32)), .val (.int (2 : Int32)), .val (.int b1)] [(.int (2 : Int32)), (.ref a)])) rfl rfl (hb hby d1_23) _ k) ?_
  show OwnGo p e below s _ _ _ s₁ (mkF m 24 #[.val (.ref a), .val (.long (own_step (own_step (-3750763034362895579 : Int64) b0) b1)), .second, .val (.ref a), .val (.int (4 : Int32)), .val (.int (2 : Int32)), .val (.int b1)] [(.int b2)])
  refine OwnGo.st (fun _ k => XS.istore X0.here hx rfl (hb hby d1_24) rfl (l' := #[.val (.ref a), .val (.long (own_step (own_step (-3750763034362895579 : Int64) b0) b1)), .second, .val (.ref a), .val (.int (4 : Int32)), .val (.int (2 : Int32)), .val (.int b2)]) rfl k) ?_
  show OwnGo p e below s _ _ _ s₁ (mkF m 26 #[.val (.ref a), .val (.long (own_step (own_step (-3750763034362895579 : Int64) b0) b1)), .second, .val (.ref a), .val (.int (4 : Int32)), .val (.int (2 : Int32)), .val (.int b2)] [])
  refine OwnGo.st (fun _ k => XS.lloadN X0.here hx rfl (hb hby d1_26) rfl  k) ?_
  show OwnGo p e below s _ _ _ s₁ (mkF m 27 #[.val (.ref a), .val (.long (own_step (own_step (-3750763034362895579 : Int64) b0) b1)), .second, .val (.ref a), .val (.int (4 : Int32)), .val (.int (2 : Int32)), .val (.int b2)] [(.long (own_step (own_step (-3750763034362895579 : Int64) b0) b1))])
  refine OwnGo.st (fun _ k => XS.iload X0.here hx rfl (hb hby d1_27) rfl  k) ?_
  show OwnGo p e below s _ _ _ s₁ (mkF m 29 #[.val (.ref a), .val (.long (own_step (own_step (-3750763034362895579 : Int64) b0) b1)), .second, .val (.ref a), .val (.int (4 : Int32)), .val (.int (2 : Int32)), .val (.int b2)] [(.int b2), (.long (own_step (own_step (-3750763034362895579 : Int64) b0) b1))])
  refine OwnGo.st (fun _ k => XS.sipush X0.here hx rfl (hb hby d1_29) k) ?_
  show OwnGo p e below s _ _ _ s₁ (mkF m 32 #[.val (.ref a), .val (.long (own_step (own_step (-3750763034362895579 : Int64) b0) b1)), .second, .val (.ref a), .val (.int (4 : Int32)), .val (.int (2 : Int32)), .val (.int b2)] [(.int (255 : Int32)), (.int b2), (.long (own_step (own_step (-3750763034362895579 : Int64) b0) b1))])
  refine OwnGo.st (fun _ k => XS.iand X0.here hx rfl (hb hby d1_32) rfl k) ?_
  show OwnGo p e below s _ _ _ s₁ (mkF m 33 #[.val (.ref a), .val (.long (own_step (own_step (-3750763034362895579 : Int64) b0) b1)), .second, .val (.ref a), .val (.int (4 : Int32)), .val (.int (2 : Int32)), .val (.int b2)] [(.int (b2 &&& (255 : Int32))), (.long (own_step (own_step (-3750763034362895579 : Int64) b0) b1))])
  refine OwnGo.st (fun _ k => XS.i2l X0.here hx rfl (hb hby d1_33) rfl k) ?_
  show OwnGo p e below s _ _ _ s₁ (mkF m 34 #[.val (.ref a), .val (.long (own_step (own_step (-3750763034362895579 : Int64) b0) b1)), .second, .val (.ref a), .val (.int (4 : Int32)), .val (.int (2 : Int32)), .val (.int b2)] [(.long ((b2 &&& (255 : Int32)).toInt64)), (.long (own_step (own_step (-3750763034362895579 : Int64) b0) b1))])
  refine OwnGo.st (fun _ k => XS.lxor X0.here hx rfl (hb hby d1_34) rfl k) ?_
  show OwnGo p e below s _ _ _ s₁ (mkF m 35 #[.val (.ref a), .val (.long (own_step (own_step (-3750763034362895579 : Int64) b0) b1)), .second, .val (.ref a), .val (.int (4 : Int32)), .val (.int (2 : Int32)), .val (.int b2)] [(.long ((own_step (own_step (-3750763034362895579 : Int64) b0) b1) ^^^ ((b2 &&& (255 : Int32)).toInt64)))])
  refine OwnGo.st (fun _ k => X0.ldc2Long hx hown (mvT hZ (hw _ (List.mem_of_getElem? (i := 18) rfl))) (g := (mkF m 35 #[.val (.ref a), .val (.long (own_step (own_step (-3750763034362895579 : Int64) b0) b1)), .second, .val (.ref a), .val (.int (4 : Int32)), .val (.int (2 : Int32)), .val (.int b2)] [(.long ((own_step (own_step (-3750763034362895579 : Int64) b0) b1) ^^^ ((b2 &&& (255 : Int32)).toInt64)))])) rfl (hb hby d1_35) _ k) ?_
  show OwnGo p e below s _ _ _ s₁ (mkF m 38 #[.val (.ref a), .val (.long (own_step (own_step (-3750763034362895579 : Int64) b0) b1)), .second, .val (.ref a), .val (.int (4 : Int32)), .val (.int (2 : Int32)), .val (.int b2)] [(.long (1099511628211 : Int64)), (.long ((own_step (own_step (-3750763034362895579 : Int64) b0) b1) ^^^ ((b2 &&& (255 : Int32)).toInt64)))])
  refine OwnGo.st (fun _ k => XS.lmul X0.here hx rfl (hb hby d1_38) rfl k) ?_
  show OwnGo p e below s _ _ _ s₁ (mkF m 39 #[.val (.ref a), .val (.long (own_step (own_step (-3750763034362895579 : Int64) b0) b1)), .second, .val (.ref a), .val (.int (4 : Int32)), .val (.int (2 : Int32)), .val (.int b2)] [(.long (((own_step (own_step (-3750763034362895579 : Int64) b0) b1) ^^^ ((b2 &&& (255 : Int32)).toInt64)) * (1099511628211 : Int64)))])
  show OwnGo p e below s _ _ _ s₁ (mkF m 39 #[.val (.ref a), .val (.long (own_step (own_step (-3750763034362895579 : Int64) b0) b1)), .second, .val (.ref a), .val (.int (4 : Int32)), .val (.int (2 : Int32)), .val (.int b2)] [(.long (own_step (own_step (own_step (-3750763034362895579 : Int64) b0) b1) b2))])
  refine OwnGo.st (fun _ k => XS.lstoreN X0.here hx rfl (hb hby d1_39) rfl (l' := #[.val (.ref a), .val (.long (own_step (own_step (own_step (-3750763034362895579 : Int64) b0) b1) b2)), .second, .val (.ref a), .val (.int (4 : Int32)), .val (.int (2 : Int32)), .val (.int b2)]) rfl k) ?_
  show OwnGo p e below s _ _ _ s₁ (mkF m 40 #[.val (.ref a), .val (.long (own_step (own_step (own_step (-3750763034362895579 : Int64) b0) b1) b2)), .second, .val (.ref a), .val (.int (4 : Int32)), .val (.int (2 : Int32)), .val (.int b2)] [])
  refine OwnGo.st (fun _ k => XS.iinc X0.here hx rfl (hb hby d1_40) rfl (l' := #[.val (.ref a), .val (.long (own_step (own_step (own_step (-3750763034362895579 : Int64) b0) b1) b2)), .second, .val (.ref a), .val (.int (4 : Int32)), .val (.int ((2 : Int32) + (1 : Int32))), .val (.int b2)]) rfl k) ?_
  show OwnGo p e below s _ _ _ s₁ (mkF m 43 #[.val (.ref a), .val (.long (own_step (own_step (own_step (-3750763034362895579 : Int64) b0) b1) b2)), .second, .val (.ref a), .val (.int (4 : Int32)), .val (.int ((2 : Int32) + (1 : Int32))), .val (.int b2)] [])
  show OwnGo p e below s _ _ _ s₁ (mkF m 43 #[.val (.ref a), .val (.long (own_step (own_step (own_step (-3750763034362895579 : Int64) b0) b1) b2)), .second, .val (.ref a), .val (.int (4 : Int32)), .val (.int (3 : Int32)), .val (.int b2)] [])
  refine OwnGo.st (fun _ k => XS.goto X0.here hx rfl (pc0 := 43) (pc' := 13) rfl (hb hby d1_43) (by decide) (by decide) k) ?_
  show OwnGo p e below s _ _ _ s₁ (mkF m 13 #[.val (.ref a), .val (.long (own_step (own_step (own_step (-3750763034362895579 : Int64) b0) b1) b2)), .second, .val (.ref a), .val (.int (4 : Int32)), .val (.int (3 : Int32)), .val (.int b2)] [])
  refine OwnGo.st (fun _ k => XS.iload X0.here hx rfl (hb hby d1_13) rfl  k) ?_
  show OwnGo p e below s _ _ _ s₁ (mkF m 15 #[.val (.ref a), .val (.long (own_step (own_step (own_step (-3750763034362895579 : Int64) b0) b1) b2)), .second, .val (.ref a), .val (.int (4 : Int32)), .val (.int (3 : Int32)), .val (.int b2)] [(.int (3 : Int32))])
  refine OwnGo.st (fun _ k => XS.iload X0.here hx rfl (hb hby d1_15) rfl  k) ?_
  show OwnGo p e below s _ _ _ s₁ (mkF m 17 #[.val (.ref a), .val (.long (own_step (own_step (own_step (-3750763034362895579 : Int64) b0) b1) b2)), .second, .val (.ref a), .val (.int (4 : Int32)), .val (.int (3 : Int32)), .val (.int b2)] [(.int (4 : Int32)), (.int (3 : Int32))])
  refine OwnGo.st (fun _ k => XS.icmpNo X0.here hx rfl (hb hby d1_17) rfl (tlt ((by decide) : (3 : Int32) < (4 : Int32))).2.1 k) ?_
  show OwnGo p e below s _ _ _ s₁ (mkF m 20 #[.val (.ref a), .val (.long (own_step (own_step (own_step (-3750763034362895579 : Int64) b0) b1) b2)), .second, .val (.ref a), .val (.int (4 : Int32)), .val (.int (3 : Int32)), .val (.int b2)] [])
  refine OwnGo.st (fun _ k => XS.aloadN X0.here hx rfl (hb hby d1_20) rfl rfl  k) ?_
  show OwnGo p e below s _ _ _ s₁ (mkF m 21 #[.val (.ref a), .val (.long (own_step (own_step (own_step (-3750763034362895579 : Int64) b0) b1) b2)), .second, .val (.ref a), .val (.int (4 : Int32)), .val (.int (3 : Int32)), .val (.int b2)] [(.ref a)])
  refine OwnGo.st (fun _ k => XS.iload X0.here hx rfl (hb hby d1_21) rfl  k) ?_
  show OwnGo p e below s _ _ _ s₁ (mkF m 23 #[.val (.ref a), .val (.long (own_step (own_step (own_step (-3750763034362895579 : Int64) b0) b1) b2)), .second, .val (.ref a), .val (.int (4 : Int32)), .val (.int (3 : Int32)), .val (.int b2)] [(.int (3 : Int32)), (.ref a)])
  obtain ⟨cl15, Ar15, -, S15, -, H15, -⟩ := id V
  have hin15 : ¬ ((3 : Int32) < 0 ∨ cl15.slots.size ≤ ((3 : Int32)).toNatClampNeg) := inb_of S15 ⟨by decide, by decide⟩
  refine OwnGo.st (fun _ k => X0.baloadBytes hx (j := (3 : Int32)) (v := (.int b3)) (by rw [e0]; exact Ar15.1) (State.isArrayOf_alike hZ.alike Ar15.2.1) Ar15.2.2 hin15 (H15.at hin15 rfl) (g := (mkF m 23 #[.val (.ref a), .val (.long (own_step (own_step (own_step (-3750763034362895579 : Int64) b0) b1) b2)), .second, .val (.ref a), .val (.int (4 : Int32)), .val (.int (3 : Int32)), .val (.int b2)] [(.int (3 : Int32)), (.ref a)])) rfl rfl (hb hby d1_23) _ k) ?_
  show OwnGo p e below s _ _ _ s₁ (mkF m 24 #[.val (.ref a), .val (.long (own_step (own_step (own_step (-3750763034362895579 : Int64) b0) b1) b2)), .second, .val (.ref a), .val (.int (4 : Int32)), .val (.int (3 : Int32)), .val (.int b2)] [(.int b3)])
  refine OwnGo.st (fun _ k => XS.istore X0.here hx rfl (hb hby d1_24) rfl (l' := #[.val (.ref a), .val (.long (own_step (own_step (own_step (-3750763034362895579 : Int64) b0) b1) b2)), .second, .val (.ref a), .val (.int (4 : Int32)), .val (.int (3 : Int32)), .val (.int b3)]) rfl k) ?_
  show OwnGo p e below s _ _ _ s₁ (mkF m 26 #[.val (.ref a), .val (.long (own_step (own_step (own_step (-3750763034362895579 : Int64) b0) b1) b2)), .second, .val (.ref a), .val (.int (4 : Int32)), .val (.int (3 : Int32)), .val (.int b3)] [])
  refine OwnGo.st (fun _ k => XS.lloadN X0.here hx rfl (hb hby d1_26) rfl  k) ?_
  show OwnGo p e below s _ _ _ s₁ (mkF m 27 #[.val (.ref a), .val (.long (own_step (own_step (own_step (-3750763034362895579 : Int64) b0) b1) b2)), .second, .val (.ref a), .val (.int (4 : Int32)), .val (.int (3 : Int32)), .val (.int b3)] [(.long (own_step (own_step (own_step (-3750763034362895579 : Int64) b0) b1) b2))])
  refine OwnGo.st (fun _ k => XS.iload X0.here hx rfl (hb hby d1_27) rfl  k) ?_
  show OwnGo p e below s _ _ _ s₁ (mkF m 29 #[.val (.ref a), .val (.long (own_step (own_step (own_step (-3750763034362895579 : Int64) b0) b1) b2)), .second, .val (.ref a), .val (.int (4 : Int32)), .val (.int (3 : Int32)), .val (.int b3)] [(.int b3), (.long (own_step (own_step (own_step (-3750763034362895579 : Int64) b0) b1) b2))])
  refine OwnGo.st (fun _ k => XS.sipush X0.here hx rfl (hb hby d1_29) k) ?_
  show OwnGo p e below s _ _ _ s₁ (mkF m 32 #[.val (.ref a), .val (.long (own_step (own_step (own_step (-3750763034362895579 : Int64) b0) b1) b2)), .second, .val (.ref a), .val (.int (4 : Int32)), .val (.int (3 : Int32)), .val (.int b3)] [(.int (255 : Int32)), (.int b3), (.long (own_step (own_step (own_step (-3750763034362895579 : Int64) b0) b1) b2))])
  refine OwnGo.st (fun _ k => XS.iand X0.here hx rfl (hb hby d1_32) rfl k) ?_
  show OwnGo p e below s _ _ _ s₁ (mkF m 33 #[.val (.ref a), .val (.long (own_step (own_step (own_step (-3750763034362895579 : Int64) b0) b1) b2)), .second, .val (.ref a), .val (.int (4 : Int32)), .val (.int (3 : Int32)), .val (.int b3)] [(.int (b3 &&& (255 : Int32))), (.long (own_step (own_step (own_step (-3750763034362895579 : Int64) b0) b1) b2))])
  refine OwnGo.st (fun _ k => XS.i2l X0.here hx rfl (hb hby d1_33) rfl k) ?_
  show OwnGo p e below s _ _ _ s₁ (mkF m 34 #[.val (.ref a), .val (.long (own_step (own_step (own_step (-3750763034362895579 : Int64) b0) b1) b2)), .second, .val (.ref a), .val (.int (4 : Int32)), .val (.int (3 : Int32)), .val (.int b3)] [(.long ((b3 &&& (255 : Int32)).toInt64)), (.long (own_step (own_step (own_step (-3750763034362895579 : Int64) b0) b1) b2))])
  refine OwnGo.st (fun _ k => XS.lxor X0.here hx rfl (hb hby d1_34) rfl k) ?_
  show OwnGo p e below s _ _ _ s₁ (mkF m 35 #[.val (.ref a), .val (.long (own_step (own_step (own_step (-3750763034362895579 : Int64) b0) b1) b2)), .second, .val (.ref a), .val (.int (4 : Int32)), .val (.int (3 : Int32)), .val (.int b3)] [(.long ((own_step (own_step (own_step (-3750763034362895579 : Int64) b0) b1) b2) ^^^ ((b3 &&& (255 : Int32)).toInt64)))])
  refine OwnGo.st (fun _ k => X0.ldc2Long hx hown (mvT hZ (hw _ (List.mem_of_getElem? (i := 18) rfl))) (g := (mkF m 35 #[.val (.ref a), .val (.long (own_step (own_step (own_step (-3750763034362895579 : Int64) b0) b1) b2)), .second, .val (.ref a), .val (.int (4 : Int32)), .val (.int (3 : Int32)), .val (.int b3)] [(.long ((own_step (own_step (own_step (-3750763034362895579 : Int64) b0) b1) b2) ^^^ ((b3 &&& (255 : Int32)).toInt64)))])) rfl (hb hby d1_35) _ k) ?_
  show OwnGo p e below s _ _ _ s₁ (mkF m 38 #[.val (.ref a), .val (.long (own_step (own_step (own_step (-3750763034362895579 : Int64) b0) b1) b2)), .second, .val (.ref a), .val (.int (4 : Int32)), .val (.int (3 : Int32)), .val (.int b3)] [(.long (1099511628211 : Int64)), (.long ((own_step (own_step (own_step (-3750763034362895579 : Int64) b0) b1) b2) ^^^ ((b3 &&& (255 : Int32)).toInt64)))])
  refine OwnGo.st (fun _ k => XS.lmul X0.here hx rfl (hb hby d1_38) rfl k) ?_
  show OwnGo p e below s _ _ _ s₁ (mkF m 39 #[.val (.ref a), .val (.long (own_step (own_step (own_step (-3750763034362895579 : Int64) b0) b1) b2)), .second, .val (.ref a), .val (.int (4 : Int32)), .val (.int (3 : Int32)), .val (.int b3)] [(.long (((own_step (own_step (own_step (-3750763034362895579 : Int64) b0) b1) b2) ^^^ ((b3 &&& (255 : Int32)).toInt64)) * (1099511628211 : Int64)))])
  show OwnGo p e below s _ _ _ s₁ (mkF m 39 #[.val (.ref a), .val (.long (own_step (own_step (own_step (-3750763034362895579 : Int64) b0) b1) b2)), .second, .val (.ref a), .val (.int (4 : Int32)), .val (.int (3 : Int32)), .val (.int b3)] [(.long (own_step (own_step (own_step (own_step (-3750763034362895579 : Int64) b0) b1) b2) b3))])
  refine OwnGo.st (fun _ k => XS.lstoreN X0.here hx rfl (hb hby d1_39) rfl (l' := #[.val (.ref a), .val (.long (own_step (own_step (own_step (own_step (-3750763034362895579 : Int64) b0) b1) b2) b3)), .second, .val (.ref a), .val (.int (4 : Int32)), .val (.int (3 : Int32)), .val (.int b3)]) rfl k) ?_
  show OwnGo p e below s _ _ _ s₁ (mkF m 40 #[.val (.ref a), .val (.long (own_step (own_step (own_step (own_step (-3750763034362895579 : Int64) b0) b1) b2) b3)), .second, .val (.ref a), .val (.int (4 : Int32)), .val (.int (3 : Int32)), .val (.int b3)] [])
  refine OwnGo.st (fun _ k => XS.iinc X0.here hx rfl (hb hby d1_40) rfl (l' := #[.val (.ref a), .val (.long (own_step (own_step (own_step (own_step (-3750763034362895579 : Int64) b0) b1) b2) b3)), .second, .val (.ref a), .val (.int (4 : Int32)), .val (.int ((3 : Int32) + (1 : Int32))), .val (.int b3)]) rfl k) ?_
  show OwnGo p e below s _ _ _ s₁ (mkF m 43 #[.val (.ref a), .val (.long (own_step (own_step (own_step (own_step (-3750763034362895579 : Int64) b0) b1) b2) b3)), .second, .val (.ref a), .val (.int (4 : Int32)), .val (.int ((3 : Int32) + (1 : Int32))), .val (.int b3)] [])
  show OwnGo p e below s _ _ _ s₁ (mkF m 43 #[.val (.ref a), .val (.long (own_step (own_step (own_step (own_step (-3750763034362895579 : Int64) b0) b1) b2) b3)), .second, .val (.ref a), .val (.int (4 : Int32)), .val (.int (4 : Int32)), .val (.int b3)] [])
  refine OwnGo.st (fun _ k => XS.goto X0.here hx rfl (pc0 := 43) (pc' := 13) rfl (hb hby d1_43) (by decide) (by decide) k) ?_
  show OwnGo p e below s _ _ _ s₁ (mkF m 13 #[.val (.ref a), .val (.long (own_step (own_step (own_step (own_step (-3750763034362895579 : Int64) b0) b1) b2) b3)), .second, .val (.ref a), .val (.int (4 : Int32)), .val (.int (4 : Int32)), .val (.int b3)] [])
  refine OwnGo.st (fun _ k => XS.iload X0.here hx rfl (hb hby d1_13) rfl  k) ?_
  show OwnGo p e below s _ _ _ s₁ (mkF m 15 #[.val (.ref a), .val (.long (own_step (own_step (own_step (own_step (-3750763034362895579 : Int64) b0) b1) b2) b3)), .second, .val (.ref a), .val (.int (4 : Int32)), .val (.int (4 : Int32)), .val (.int b3)] [(.int (4 : Int32))])
  refine OwnGo.st (fun _ k => XS.iload X0.here hx rfl (hb hby d1_15) rfl  k) ?_
  show OwnGo p e below s _ _ _ s₁ (mkF m 17 #[.val (.ref a), .val (.long (own_step (own_step (own_step (own_step (-3750763034362895579 : Int64) b0) b1) b2) b3)), .second, .val (.ref a), .val (.int (4 : Int32)), .val (.int (4 : Int32)), .val (.int b3)] [(.int (4 : Int32)), (.int (4 : Int32))])
  refine OwnGo.st (fun _ k => XS.icmpYes X0.here hx rfl (pc0 := 17) (pc' := 46) rfl (hb hby d1_17) rfl (flt ((by decide) : ¬ ((4 : Int32) < (4 : Int32)))).2.1 (by decide) (by decide) k) ?_
  show OwnGo p e below s _ _ _ s₁ (mkF m 46 #[.val (.ref a), .val (.long (own_step (own_step (own_step (own_step (-3750763034362895579 : Int64) b0) b1) b2) b3)), .second, .val (.ref a), .val (.int (4 : Int32)), .val (.int (4 : Int32)), .val (.int b3)] [])
  refine OwnGo.st (fun _ k => XS.lloadN X0.here hx rfl (hb hby d1_46) rfl  k) ?_
  show OwnGo p e below s _ _ _ s₁ (mkF m 47 #[.val (.ref a), .val (.long (own_step (own_step (own_step (own_step (-3750763034362895579 : Int64) b0) b1) b2) b3)), .second, .val (.ref a), .val (.int (4 : Int32)), .val (.int (4 : Int32)), .val (.int b3)] [(.long (own_step (own_step (own_step (own_step (-3750763034362895579 : Int64) b0) b1) b2) b3))])
  refine OwnGo.st (fun _ k => XS.lloadN X0.here hx rfl (hb hby d1_47) rfl  k) ?_
  show OwnGo p e below s _ _ _ s₁ (mkF m 48 #[.val (.ref a), .val (.long (own_step (own_step (own_step (own_step (-3750763034362895579 : Int64) b0) b1) b2) b3)), .second, .val (.ref a), .val (.int (4 : Int32)), .val (.int (4 : Int32)), .val (.int b3)] [(.long (own_step (own_step (own_step (own_step (-3750763034362895579 : Int64) b0) b1) b2) b3)), (.long (own_step (own_step (own_step (own_step (-3750763034362895579 : Int64) b0) b1) b2) b3))])
  refine OwnGo.st (fun _ k => XS.bipush X0.here hx rfl (hb hby d1_48) k) ?_
  show OwnGo p e below s _ _ _ s₁ (mkF m 50 #[.val (.ref a), .val (.long (own_step (own_step (own_step (own_step (-3750763034362895579 : Int64) b0) b1) b2) b3)), .second, .val (.ref a), .val (.int (4 : Int32)), .val (.int (4 : Int32)), .val (.int b3)] [(.int (30 : Int32)), (.long (own_step (own_step (own_step (own_step (-3750763034362895579 : Int64) b0) b1) b2) b3)), (.long (own_step (own_step (own_step (own_step (-3750763034362895579 : Int64) b0) b1) b2) b3))])
  refine OwnGo.st (fun _ k => XS.lushr X0.here hx rfl (hb hby d1_50) rfl k) ?_
  show OwnGo p e below s _ _ _ s₁ (mkF m 51 #[.val (.ref a), .val (.long (own_step (own_step (own_step (own_step (-3750763034362895579 : Int64) b0) b1) b2) b3)), .second, .val (.ref a), .val (.int (4 : Int32)), .val (.int (4 : Int32)), .val (.int b3)] [(.long (((own_step (own_step (own_step (own_step (-3750763034362895579 : Int64) b0) b1) b2) b3).toUInt64 >>> ((30 : Int32) &&& 0x3f).toInt64.toUInt64).toInt64)), (.long (own_step (own_step (own_step (own_step (-3750763034362895579 : Int64) b0) b1) b2) b3))])
  refine OwnGo.st (fun _ k => XS.lxor X0.here hx rfl (hb hby d1_51) rfl k) ?_
  show OwnGo p e below s _ _ _ s₁ (mkF m 52 #[.val (.ref a), .val (.long (own_step (own_step (own_step (own_step (-3750763034362895579 : Int64) b0) b1) b2) b3)), .second, .val (.ref a), .val (.int (4 : Int32)), .val (.int (4 : Int32)), .val (.int b3)] [(.long ((own_step (own_step (own_step (own_step (-3750763034362895579 : Int64) b0) b1) b2) b3) ^^^ (((own_step (own_step (own_step (own_step (-3750763034362895579 : Int64) b0) b1) b2) b3).toUInt64 >>> ((30 : Int32) &&& 0x3f).toInt64.toUInt64).toInt64)))])
  show OwnGo p e below s _ _ _ s₁ (mkF m 52 #[.val (.ref a), .val (.long (own_step (own_step (own_step (own_step (-3750763034362895579 : Int64) b0) b1) b2) b3)), .second, .val (.ref a), .val (.int (4 : Int32)), .val (.int (4 : Int32)), .val (.int b3)] [(.long (own_xs (own_step (own_step (own_step (own_step (-3750763034362895579 : Int64) b0) b1) b2) b3) 30))])
  refine OwnGo.st (fun _ k => X0.ldc2Long hx hown (mvT hZ (hw _ (List.mem_of_getElem? (i := 7) rfl))) (g := (mkF m 52 #[.val (.ref a), .val (.long (own_step (own_step (own_step (own_step (-3750763034362895579 : Int64) b0) b1) b2) b3)), .second, .val (.ref a), .val (.int (4 : Int32)), .val (.int (4 : Int32)), .val (.int b3)] [(.long (own_xs (own_step (own_step (own_step (own_step (-3750763034362895579 : Int64) b0) b1) b2) b3) 30))])) rfl (hb hby d1_52) _ k) ?_
  show OwnGo p e below s _ _ _ s₁ (mkF m 55 #[.val (.ref a), .val (.long (own_step (own_step (own_step (own_step (-3750763034362895579 : Int64) b0) b1) b2) b3)), .second, .val (.ref a), .val (.int (4 : Int32)), .val (.int (4 : Int32)), .val (.int b3)] [(.long (-4658895280553007687 : Int64)), (.long (own_xs (own_step (own_step (own_step (own_step (-3750763034362895579 : Int64) b0) b1) b2) b3) 30))])
  refine OwnGo.st (fun _ k => XS.lmul X0.here hx rfl (hb hby d1_55) rfl k) ?_
  show OwnGo p e below s _ _ _ s₁ (mkF m 56 #[.val (.ref a), .val (.long (own_step (own_step (own_step (own_step (-3750763034362895579 : Int64) b0) b1) b2) b3)), .second, .val (.ref a), .val (.int (4 : Int32)), .val (.int (4 : Int32)), .val (.int b3)] [(.long ((own_xs (own_step (own_step (own_step (own_step (-3750763034362895579 : Int64) b0) b1) b2) b3) 30) * (-4658895280553007687 : Int64)))])
  show OwnGo p e below s _ _ _ s₁ (mkF m 56 #[.val (.ref a), .val (.long (own_step (own_step (own_step (own_step (-3750763034362895579 : Int64) b0) b1) b2) b3)), .second, .val (.ref a), .val (.int (4 : Int32)), .val (.int (4 : Int32)), .val (.int b3)] [(.long (own_f1 (own_step (own_step (own_step (own_step (-3750763034362895579 : Int64) b0) b1) b2) b3)))])
  refine OwnGo.st (fun _ k => XS.lstoreN X0.here hx rfl (hb hby d1_56) rfl (l' := #[.val (.ref a), .val (.long (own_f1 (own_step (own_step (own_step (own_step (-3750763034362895579 : Int64) b0) b1) b2) b3))), .second, .val (.ref a), .val (.int (4 : Int32)), .val (.int (4 : Int32)), .val (.int b3)]) rfl k) ?_
  show OwnGo p e below s _ _ _ s₁ (mkF m 57 #[.val (.ref a), .val (.long (own_f1 (own_step (own_step (own_step (own_step (-3750763034362895579 : Int64) b0) b1) b2) b3))), .second, .val (.ref a), .val (.int (4 : Int32)), .val (.int (4 : Int32)), .val (.int b3)] [])
  refine OwnGo.st (fun _ k => XS.lloadN X0.here hx rfl (hb hby d1_57) rfl  k) ?_
  show OwnGo p e below s _ _ _ s₁ (mkF m 58 #[.val (.ref a), .val (.long (own_f1 (own_step (own_step (own_step (own_step (-3750763034362895579 : Int64) b0) b1) b2) b3))), .second, .val (.ref a), .val (.int (4 : Int32)), .val (.int (4 : Int32)), .val (.int b3)] [(.long (own_f1 (own_step (own_step (own_step (own_step (-3750763034362895579 : Int64) b0) b1) b2) b3)))])
  refine OwnGo.st (fun _ k => XS.lloadN X0.here hx rfl (hb hby d1_58) rfl  k) ?_
  show OwnGo p e below s _ _ _ s₁ (mkF m 59 #[.val (.ref a), .val (.long (own_f1 (own_step (own_step (own_step (own_step (-3750763034362895579 : Int64) b0) b1) b2) b3))), .second, .val (.ref a), .val (.int (4 : Int32)), .val (.int (4 : Int32)), .val (.int b3)] [(.long (own_f1 (own_step (own_step (own_step (own_step (-3750763034362895579 : Int64) b0) b1) b2) b3))), (.long (own_f1 (own_step (own_step (own_step (own_step (-3750763034362895579 : Int64) b0) b1) b2) b3)))])
  refine OwnGo.st (fun _ k => XS.bipush X0.here hx rfl (hb hby d1_59) k) ?_
  show OwnGo p e below s _ _ _ s₁ (mkF m 61 #[.val (.ref a), .val (.long (own_f1 (own_step (own_step (own_step (own_step (-3750763034362895579 : Int64) b0) b1) b2) b3))), .second, .val (.ref a), .val (.int (4 : Int32)), .val (.int (4 : Int32)), .val (.int b3)] [(.int (27 : Int32)), (.long (own_f1 (own_step (own_step (own_step (own_step (-3750763034362895579 : Int64) b0) b1) b2) b3))), (.long (own_f1 (own_step (own_step (own_step (own_step (-3750763034362895579 : Int64) b0) b1) b2) b3)))])
  refine OwnGo.st (fun _ k => XS.lushr X0.here hx rfl (hb hby d1_61) rfl k) ?_
  show OwnGo p e below s _ _ _ s₁ (mkF m 62 #[.val (.ref a), .val (.long (own_f1 (own_step (own_step (own_step (own_step (-3750763034362895579 : Int64) b0) b1) b2) b3))), .second, .val (.ref a), .val (.int (4 : Int32)), .val (.int (4 : Int32)), .val (.int b3)] [(.long (((own_f1 (own_step (own_step (own_step (own_step (-3750763034362895579 : Int64) b0) b1) b2) b3)).toUInt64 >>> ((27 : Int32) &&& 0x3f).toInt64.toUInt64).toInt64)), (.long (own_f1 (own_step (own_step (own_step (own_step (-3750763034362895579 : Int64) b0) b1) b2) b3)))])
  refine OwnGo.st (fun _ k => XS.lxor X0.here hx rfl (hb hby d1_62) rfl k) ?_
  show OwnGo p e below s _ _ _ s₁ (mkF m 63 #[.val (.ref a), .val (.long (own_f1 (own_step (own_step (own_step (own_step (-3750763034362895579 : Int64) b0) b1) b2) b3))), .second, .val (.ref a), .val (.int (4 : Int32)), .val (.int (4 : Int32)), .val (.int b3)] [(.long ((own_f1 (own_step (own_step (own_step (own_step (-3750763034362895579 : Int64) b0) b1) b2) b3)) ^^^ (((own_f1 (own_step (own_step (own_step (own_step (-3750763034362895579 : Int64) b0) b1) b2) b3)).toUInt64 >>> ((27 : Int32) &&& 0x3f).toInt64.toUInt64).toInt64)))])
  show OwnGo p e below s _ _ _ s₁ (mkF m 63 #[.val (.ref a), .val (.long (own_f1 (own_step (own_step (own_step (own_step (-3750763034362895579 : Int64) b0) b1) b2) b3))), .second, .val (.ref a), .val (.int (4 : Int32)), .val (.int (4 : Int32)), .val (.int b3)] [(.long (own_xs (own_f1 (own_step (own_step (own_step (own_step (-3750763034362895579 : Int64) b0) b1) b2) b3)) 27))])
  refine OwnGo.st (fun _ k => X0.ldc2Long hx hown (mvT hZ (hw _ (List.mem_of_getElem? (i := 8) rfl))) (g := (mkF m 63 #[.val (.ref a), .val (.long (own_f1 (own_step (own_step (own_step (own_step (-3750763034362895579 : Int64) b0) b1) b2) b3))), .second, .val (.ref a), .val (.int (4 : Int32)), .val (.int (4 : Int32)), .val (.int b3)] [(.long (own_xs (own_f1 (own_step (own_step (own_step (own_step (-3750763034362895579 : Int64) b0) b1) b2) b3)) 27))])) rfl (hb hby d1_63) _ k) ?_
  show OwnGo p e below s _ _ _ s₁ (mkF m 66 #[.val (.ref a), .val (.long (own_f1 (own_step (own_step (own_step (own_step (-3750763034362895579 : Int64) b0) b1) b2) b3))), .second, .val (.ref a), .val (.int (4 : Int32)), .val (.int (4 : Int32)), .val (.int b3)] [(.long (-7723592293110705685 : Int64)), (.long (own_xs (own_f1 (own_step (own_step (own_step (own_step (-3750763034362895579 : Int64) b0) b1) b2) b3)) 27))])
  refine OwnGo.st (fun _ k => XS.lmul X0.here hx rfl (hb hby d1_66) rfl k) ?_
  show OwnGo p e below s _ _ _ s₁ (mkF m 67 #[.val (.ref a), .val (.long (own_f1 (own_step (own_step (own_step (own_step (-3750763034362895579 : Int64) b0) b1) b2) b3))), .second, .val (.ref a), .val (.int (4 : Int32)), .val (.int (4 : Int32)), .val (.int b3)] [(.long ((own_xs (own_f1 (own_step (own_step (own_step (own_step (-3750763034362895579 : Int64) b0) b1) b2) b3)) 27) * (-7723592293110705685 : Int64)))])
  show OwnGo p e below s _ _ _ s₁ (mkF m 67 #[.val (.ref a), .val (.long (own_f1 (own_step (own_step (own_step (own_step (-3750763034362895579 : Int64) b0) b1) b2) b3))), .second, .val (.ref a), .val (.int (4 : Int32)), .val (.int (4 : Int32)), .val (.int b3)] [(.long (own_f2 (own_step (own_step (own_step (own_step (-3750763034362895579 : Int64) b0) b1) b2) b3)))])
  refine OwnGo.st (fun _ k => XS.lstoreN X0.here hx rfl (hb hby d1_67) rfl (l' := #[.val (.ref a), .val (.long (own_f2 (own_step (own_step (own_step (own_step (-3750763034362895579 : Int64) b0) b1) b2) b3))), .second, .val (.ref a), .val (.int (4 : Int32)), .val (.int (4 : Int32)), .val (.int b3)]) rfl k) ?_
  show OwnGo p e below s _ _ _ s₁ (mkF m 68 #[.val (.ref a), .val (.long (own_f2 (own_step (own_step (own_step (own_step (-3750763034362895579 : Int64) b0) b1) b2) b3))), .second, .val (.ref a), .val (.int (4 : Int32)), .val (.int (4 : Int32)), .val (.int b3)] [])
  refine OwnGo.st (fun _ k => XS.lloadN X0.here hx rfl (hb hby d1_68) rfl  k) ?_
  show OwnGo p e below s _ _ _ s₁ (mkF m 69 #[.val (.ref a), .val (.long (own_f2 (own_step (own_step (own_step (own_step (-3750763034362895579 : Int64) b0) b1) b2) b3))), .second, .val (.ref a), .val (.int (4 : Int32)), .val (.int (4 : Int32)), .val (.int b3)] [(.long (own_f2 (own_step (own_step (own_step (own_step (-3750763034362895579 : Int64) b0) b1) b2) b3)))])
  refine OwnGo.st (fun _ k => XS.lloadN X0.here hx rfl (hb hby d1_69) rfl  k) ?_
  show OwnGo p e below s _ _ _ s₁ (mkF m 70 #[.val (.ref a), .val (.long (own_f2 (own_step (own_step (own_step (own_step (-3750763034362895579 : Int64) b0) b1) b2) b3))), .second, .val (.ref a), .val (.int (4 : Int32)), .val (.int (4 : Int32)), .val (.int b3)] [(.long (own_f2 (own_step (own_step (own_step (own_step (-3750763034362895579 : Int64) b0) b1) b2) b3))), (.long (own_f2 (own_step (own_step (own_step (own_step (-3750763034362895579 : Int64) b0) b1) b2) b3)))])
  refine OwnGo.st (fun _ k => XS.bipush X0.here hx rfl (hb hby d1_70) k) ?_
  show OwnGo p e below s _ _ _ s₁ (mkF m 72 #[.val (.ref a), .val (.long (own_f2 (own_step (own_step (own_step (own_step (-3750763034362895579 : Int64) b0) b1) b2) b3))), .second, .val (.ref a), .val (.int (4 : Int32)), .val (.int (4 : Int32)), .val (.int b3)] [(.int (31 : Int32)), (.long (own_f2 (own_step (own_step (own_step (own_step (-3750763034362895579 : Int64) b0) b1) b2) b3))), (.long (own_f2 (own_step (own_step (own_step (own_step (-3750763034362895579 : Int64) b0) b1) b2) b3)))])
  refine OwnGo.st (fun _ k => XS.lushr X0.here hx rfl (hb hby d1_72) rfl k) ?_
  show OwnGo p e below s _ _ _ s₁ (mkF m 73 #[.val (.ref a), .val (.long (own_f2 (own_step (own_step (own_step (own_step (-3750763034362895579 : Int64) b0) b1) b2) b3))), .second, .val (.ref a), .val (.int (4 : Int32)), .val (.int (4 : Int32)), .val (.int b3)] [(.long (((own_f2 (own_step (own_step (own_step (own_step (-3750763034362895579 : Int64) b0) b1) b2) b3)).toUInt64 >>> ((31 : Int32) &&& 0x3f).toInt64.toUInt64).toInt64)), (.long (own_f2 (own_step (own_step (own_step (own_step (-3750763034362895579 : Int64) b0) b1) b2) b3)))])
  refine OwnGo.st (fun _ k => XS.lxor X0.here hx rfl (hb hby d1_73) rfl k) ?_
  show OwnGo p e below s _ _ _ s₁ (mkF m 74 #[.val (.ref a), .val (.long (own_f2 (own_step (own_step (own_step (own_step (-3750763034362895579 : Int64) b0) b1) b2) b3))), .second, .val (.ref a), .val (.int (4 : Int32)), .val (.int (4 : Int32)), .val (.int b3)] [(.long ((own_f2 (own_step (own_step (own_step (own_step (-3750763034362895579 : Int64) b0) b1) b2) b3)) ^^^ (((own_f2 (own_step (own_step (own_step (own_step (-3750763034362895579 : Int64) b0) b1) b2) b3)).toUInt64 >>> ((31 : Int32) &&& 0x3f).toInt64.toUInt64).toInt64)))])
  show OwnGo p e below s _ _ _ s₁ (mkF m 74 #[.val (.ref a), .val (.long (own_f2 (own_step (own_step (own_step (own_step (-3750763034362895579 : Int64) b0) b1) b2) b3))), .second, .val (.ref a), .val (.int (4 : Int32)), .val (.int (4 : Int32)), .val (.int b3)] [(.long (own_fin (own_step (own_step (own_step (own_step (-3750763034362895579 : Int64) b0) b1) b2) b3)))])
  exact OwnGo.ret X0 hx hret hlk rfl (Or.inr (Or.inl ⟨rfl, rfl, _, rfl⟩)) (hb hby d1_74) (by show Qof4 Z a kc b0 b1 b2 b3 h0 n0 _ s₁.heap _; rw [e0]; exact ⟨rfl, N0, rfl⟩) (by decide) (by decide)
def Q0 (Z : State) (p1 : Int32) (p2 : Int32) (p3 : Int32) (p4 : Int32) (p5 : Int32) (h0 : Heap) (n0 : Nat) (v : Option Value) (h : Heap) (L : List Loc) : Prop := v = some (.int (1 : Int32)) ∧ Fr n0 L
set_option maxRecDepth 65536 in
set_option maxHeartbeats 40000000 in
theorem rm0 (l : Launch) (Z : State) (a0 : Array Value) (hw : ∀ d ∈ tables_1, d.before a0 Z = true) (ws : List Jvm.Cond) (p1 : Int32) (p2 : Int32) (p3 : Int32) (p4 : Int32) (p5 : Int32) (h0 : Heap) (n0 : Nat) (Z0 : n0 ≤ h0.size) :
    MetFree l x (head1 (Jvm.Cond.code x code maxLocals ret :: ws) room_1) (fun as_ U => as_ = #[(.int p1), (.int p2), (.int p3), (.int p4), (.int p5)] ∧ Z.Warmed39 U.vm ∧ U.heap = h0) (fun _ _ _ _ _ => True) (fun _ U o U' => ∃ v L, o = .returned v ∧ (Q0 Z p1 p2 p3 p4 p5 h0 n0) v U'.heap L ∧ FrameEnd U o U' L room_1.cells room_1.slots) := by
  refine own_met (plainFor_of_name pn_2) ?_
  intro p e s m below meth c s₁ X0 hx hby hml hret hlk hown hnm hZ e0
  have N0 := Fr.nil n0
  have Z_ := Z0
  refine OwnGo.cast (ef_0 m p1 p2 p3 p4 p5) ?_
  have hml : c.maxLocals = 15 := hml
  show OwnGo p e below s _ _ _ s₁ (mkF m 0 #[.val (.int p1), .val (.int p2), .val (.int p3), .val (.int p4), .val (.int p5), .unset, .unset, .unset, .unset, .unset, .unset, .unset, .unset, .unset, .unset] [])
  refine OwnGo.st (fun _ k => XS.iloadN X0.here hx rfl (hb hby at_0) rfl  k) ?_
  show OwnGo p e below s _ _ _ s₁ (mkF m 1 #[.val (.int p1), .val (.int p2), .val (.int p3), .val (.int p4), .val (.int p5), .unset, .unset, .unset, .unset, .unset, .unset, .unset, .unset, .unset, .unset] [(.int p1)])
  refine OwnGo.st (fun _ k => X0.ldcInt hx hown (mvT hZ (hw _ (List.mem_of_getElem? (i := 0) rfl))) (g := (mkF m 1 #[.val (.int p1), .val (.int p2), .val (.int p3), .val (.int p4), .val (.int p5), .unset, .unset, .unset, .unset, .unset, .unset, .unset, .unset, .unset, .unset] [(.int p1)])) rfl (hb hby at_1) _ k) ?_
  show OwnGo p e below s _ _ _ s₁ (mkF m 3 #[.val (.int p1), .val (.int p2), .val (.int p3), .val (.int p4), .val (.int p5), .unset, .unset, .unset, .unset, .unset, .unset, .unset, .unset, .unset, .unset] [(.int (2147483647 : Int32)), (.int p1)])
  refine OwnGo.st (fun _ k => XS.iand X0.here hx rfl (hb hby at_3) rfl k) ?_
  show OwnGo p e below s _ _ _ s₁ (mkF m 4 #[.val (.int p1), .val (.int p2), .val (.int p3), .val (.int p4), .val (.int p5), .unset, .unset, .unset, .unset, .unset, .unset, .unset, .unset, .unset, .unset] [(.int (p1 &&& (2147483647 : Int32)))])
  refine OwnGo.st (fun _ k => XS.iconst X0.here hx rfl (hb hby at_4) k) ?_
  show OwnGo p e below s _ _ _ s₁ (mkF m 5 #[.val (.int p1), .val (.int p2), .val (.int p3), .val (.int p4), .val (.int p5), .unset, .unset, .unset, .unset, .unset, .unset, .unset, .unset, .unset, .unset] [(.int (5 : Int32)), (.int (p1 &&& (2147483647 : Int32)))])
  refine OwnGo.st (fun _ k => iremM (g := (mkF m 5 #[.val (.int p1), .val (.int p2), .val (.int p3), .val (.int p4), .val (.int p5), .unset, .unset, .unset, .unset, .unset, .unset, .unset, .unset, .unset, .unset] [(.int (5 : Int32)), (.int (p1 &&& (2147483647 : Int32)))])) X0 hx rfl (hb hby at_5) rfl (by decide) k) ?_
  show OwnGo p e below s _ _ _ s₁ (mkF m 6 #[.val (.int p1), .val (.int p2), .val (.int p3), .val (.int p4), .val (.int p5), .unset, .unset, .unset, .unset, .unset, .unset, .unset, .unset, .unset, .unset] [(.int ((p1 &&& (2147483647 : Int32)) % (5 : Int32)))])
  obtain ⟨nn, hnn⟩ : ∃ z : Int32, z = ((p1 &&& (2147483647 : Int32)) % (5 : Int32)) := ⟨_, rfl⟩
  rw [← hnn]
  show OwnGo p e below s _ _ _ s₁ (mkF m 6 #[.val (.int p1), .val (.int p2), .val (.int p3), .val (.int p4), .val (.int p5), .unset, .unset, .unset, .unset, .unset, .unset, .unset, .unset, .unset, .unset] [(.int nn)])
  refine OwnGo.st (fun _ k => XS.istore X0.here hx rfl (hb hby at_6) rfl (l' := #[.val (.int p1), .val (.int p2), .val (.int p3), .val (.int p4), .val (.int p5), .val (.int nn), .unset, .unset, .unset, .unset, .unset, .unset, .unset, .unset, .unset]) rfl k) ?_
  show OwnGo p e below s _ _ _ s₁ (mkF m 8 #[.val (.int p1), .val (.int p2), .val (.int p3), .val (.int p4), .val (.int p5), .val (.int nn), .unset, .unset, .unset, .unset, .unset, .unset, .unset, .unset, .unset] [])
  refine OwnGo.st (fun _ k => XS.iloadN X0.here hx rfl (hb hby at_8) rfl  k) ?_
  show OwnGo p e below s _ _ _ s₁ (mkF m 9 #[.val (.int p1), .val (.int p2), .val (.int p3), .val (.int p4), .val (.int p5), .val (.int nn), .unset, .unset, .unset, .unset, .unset, .unset, .unset, .unset, .unset] [(.int p2)])
  refine OwnGo.st (fun _ k => XS.i2b X0.here hx rfl (hb hby at_9) rfl k) ?_
  show OwnGo p e below s _ _ _ s₁ (mkF m 10 #[.val (.int p1), .val (.int p2), .val (.int p3), .val (.int p4), .val (.int p5), .val (.int nn), .unset, .unset, .unset, .unset, .unset, .unset, .unset, .unset, .unset] [(.int (p2.toInt8.toInt32))])
  obtain ⟨y0, hy0⟩ : ∃ z : Int32, z = (p2.toInt8.toInt32) := ⟨_, rfl⟩
  rw [← hy0]
  show OwnGo p e below s _ _ _ s₁ (mkF m 10 #[.val (.int p1), .val (.int p2), .val (.int p3), .val (.int p4), .val (.int p5), .val (.int nn), .unset, .unset, .unset, .unset, .unset, .unset, .unset, .unset, .unset] [(.int y0)])
  refine OwnGo.st (fun _ k => XS.istore X0.here hx rfl (hb hby at_10) rfl (l' := #[.val (.int p1), .val (.int p2), .val (.int p3), .val (.int p4), .val (.int p5), .val (.int nn), .val (.int y0), .unset, .unset, .unset, .unset, .unset, .unset, .unset, .unset]) rfl k) ?_
  show OwnGo p e below s _ _ _ s₁ (mkF m 12 #[.val (.int p1), .val (.int p2), .val (.int p3), .val (.int p4), .val (.int p5), .val (.int nn), .val (.int y0), .unset, .unset, .unset, .unset, .unset, .unset, .unset, .unset] [])
  refine OwnGo.st (fun _ k => XS.iloadN X0.here hx rfl (hb hby at_12) rfl  k) ?_
  show OwnGo p e below s _ _ _ s₁ (mkF m 13 #[.val (.int p1), .val (.int p2), .val (.int p3), .val (.int p4), .val (.int p5), .val (.int nn), .val (.int y0), .unset, .unset, .unset, .unset, .unset, .unset, .unset, .unset] [(.int p3)])
  refine OwnGo.st (fun _ k => XS.i2b X0.here hx rfl (hb hby at_13) rfl k) ?_
  show OwnGo p e below s _ _ _ s₁ (mkF m 14 #[.val (.int p1), .val (.int p2), .val (.int p3), .val (.int p4), .val (.int p5), .val (.int nn), .val (.int y0), .unset, .unset, .unset, .unset, .unset, .unset, .unset, .unset] [(.int (p3.toInt8.toInt32))])
  obtain ⟨y1, hy1⟩ : ∃ z : Int32, z = (p3.toInt8.toInt32) := ⟨_, rfl⟩
  rw [← hy1]
  show OwnGo p e below s _ _ _ s₁ (mkF m 14 #[.val (.int p1), .val (.int p2), .val (.int p3), .val (.int p4), .val (.int p5), .val (.int nn), .val (.int y0), .unset, .unset, .unset, .unset, .unset, .unset, .unset, .unset] [(.int y1)])
  refine OwnGo.st (fun _ k => XS.istore X0.here hx rfl (hb hby at_14) rfl (l' := #[.val (.int p1), .val (.int p2), .val (.int p3), .val (.int p4), .val (.int p5), .val (.int nn), .val (.int y0), .val (.int y1), .unset, .unset, .unset, .unset, .unset, .unset, .unset]) rfl k) ?_
  show OwnGo p e below s _ _ _ s₁ (mkF m 16 #[.val (.int p1), .val (.int p2), .val (.int p3), .val (.int p4), .val (.int p5), .val (.int nn), .val (.int y0), .val (.int y1), .unset, .unset, .unset, .unset, .unset, .unset, .unset] [])
  refine OwnGo.st (fun _ k => XS.iloadN X0.here hx rfl (hb hby at_16) rfl  k) ?_
  show OwnGo p e below s _ _ _ s₁ (mkF m 17 #[.val (.int p1), .val (.int p2), .val (.int p3), .val (.int p4), .val (.int p5), .val (.int nn), .val (.int y0), .val (.int y1), .unset, .unset, .unset, .unset, .unset, .unset, .unset] [(.int p4)])
  refine OwnGo.st (fun _ k => XS.i2b X0.here hx rfl (hb hby at_17) rfl k) ?_
  show OwnGo p e below s _ _ _ s₁ (mkF m 18 #[.val (.int p1), .val (.int p2), .val (.int p3), .val (.int p4), .val (.int p5), .val (.int nn), .val (.int y0), .val (.int y1), .unset, .unset, .unset, .unset, .unset, .unset, .unset] [(.int (p4.toInt8.toInt32))])
  obtain ⟨y2, hy2⟩ : ∃ z : Int32, z = (p4.toInt8.toInt32) := ⟨_, rfl⟩
  rw [← hy2]
  show OwnGo p e below s _ _ _ s₁ (mkF m 18 #[.val (.int p1), .val (.int p2), .val (.int p3), .val (.int p4), .val (.int p5), .val (.int nn), .val (.int y0), .val (.int y1), .unset, .unset, .unset, .unset, .unset, .unset, .unset] [(.int y2)])
  refine OwnGo.st (fun _ k => XS.istore X0.here hx rfl (hb hby at_18) rfl (l' := #[.val (.int p1), .val (.int p2), .val (.int p3), .val (.int p4), .val (.int p5), .val (.int nn), .val (.int y0), .val (.int y1), .val (.int y2), .unset, .unset, .unset, .unset, .unset, .unset]) rfl k) ?_
  show OwnGo p e below s _ _ _ s₁ (mkF m 20 #[.val (.int p1), .val (.int p2), .val (.int p3), .val (.int p4), .val (.int p5), .val (.int nn), .val (.int y0), .val (.int y1), .val (.int y2), .unset, .unset, .unset, .unset, .unset, .unset] [])
  refine OwnGo.st (fun _ k => XS.iload X0.here hx rfl (hb hby at_20) rfl  k) ?_
  show OwnGo p e below s _ _ _ s₁ (mkF m 22 #[.val (.int p1), .val (.int p2), .val (.int p3), .val (.int p4), .val (.int p5), .val (.int nn), .val (.int y0), .val (.int y1), .val (.int y2), .unset, .unset, .unset, .unset, .unset, .unset] [(.int p5)])
  refine OwnGo.st (fun _ k => XS.i2b X0.here hx rfl (hb hby at_22) rfl k) ?_
  show OwnGo p e below s _ _ _ s₁ (mkF m 23 #[.val (.int p1), .val (.int p2), .val (.int p3), .val (.int p4), .val (.int p5), .val (.int nn), .val (.int y0), .val (.int y1), .val (.int y2), .unset, .unset, .unset, .unset, .unset, .unset] [(.int (p5.toInt8.toInt32))])
  obtain ⟨y3, hy3⟩ : ∃ z : Int32, z = (p5.toInt8.toInt32) := ⟨_, rfl⟩
  rw [← hy3]
  show OwnGo p e below s _ _ _ s₁ (mkF m 23 #[.val (.int p1), .val (.int p2), .val (.int p3), .val (.int p4), .val (.int p5), .val (.int nn), .val (.int y0), .val (.int y1), .val (.int y2), .unset, .unset, .unset, .unset, .unset, .unset] [(.int y3)])
  refine OwnGo.st (fun _ k => XS.istore X0.here hx rfl (hb hby at_23) rfl (l' := #[.val (.int p1), .val (.int p2), .val (.int p3), .val (.int p4), .val (.int p5), .val (.int nn), .val (.int y0), .val (.int y1), .val (.int y2), .val (.int y3), .unset, .unset, .unset, .unset, .unset]) rfl k) ?_
  show OwnGo p e below s _ _ _ s₁ (mkF m 25 #[.val (.int p1), .val (.int p2), .val (.int p3), .val (.int p4), .val (.int p5), .val (.int nn), .val (.int y0), .val (.int y1), .val (.int y2), .val (.int y3), .unset, .unset, .unset, .unset, .unset] [])
  refine OwnGo.st (fun _ k => XS.iload X0.here hx rfl (hb hby at_25) rfl  k) ?_
  show OwnGo p e below s _ _ _ s₁ (mkF m 27 #[.val (.int p1), .val (.int p2), .val (.int p3), .val (.int p4), .val (.int p5), .val (.int nn), .val (.int y0), .val (.int y1), .val (.int y2), .val (.int y3), .unset, .unset, .unset, .unset, .unset] [(.int nn)])
  by_cases hk0 : nn = (0 : Int32)
  · refine OwnGo.st (fun _ k => XS.ifNo X0.here hx rfl (hb hby at_27) rfl ((if0 _ _).trans (teq (hk0 : nn = (0 : Int32))).2) k) ?_
    show OwnGo p e below s _ _ _ s₁ (mkF m 30 #[.val (.int p1), .val (.int p2), .val (.int p3), .val (.int p4), .val (.int p5), .val (.int nn), .val (.int y0), .val (.int y1), .val (.int y2), .val (.int y3), .unset, .unset, .unset, .unset, .unset] [])
    refine OwnGo.st (fun _ k => XS.iconst X0.here hx rfl (hb hby at_30) k) ?_
    show OwnGo p e below s _ _ _ s₁ (mkF m 31 #[.val (.int p1), .val (.int p2), .val (.int p3), .val (.int p4), .val (.int p5), .val (.int nn), .val (.int y0), .val (.int y1), .val (.int y2), .val (.int y3), .unset, .unset, .unset, .unset, .unset] [(.int (0 : Int32))])
    obtain ⟨T16, h16, k16, X16, e16, E16, A16, Ex16, st16⟩ := newPE X0 hx hZ (hw _ (List.mem_of_getElem? (i := 1) rfl)) e0 (g := (mkF m 31 #[.val (.int p1), .val (.int p2), .val (.int p3), .val (.int p4), .val (.int p5), .val (.int nn), .val (.int y0), .val (.int y1), .val (.int y2), .val (.int y3), .unset, .unset, .unset, .unset, .unset] [(.int (0 : Int32))])) rfl (hb hby at_31) rfl (by decide) (cap := 0) (by decide) (by decide) (by decide) (by decide) (ad := "[B") (by decide)
    obtain ⟨b16, g16⟩ : ∃ z, z = h0.size := ⟨_, rfl⟩
    rw [← g16] at A16 Ex16 st16
    have g_b16 : n0 ≤ b16 := Nat.le_trans Z_ (Nat.le_of_eq g16.symm)
    have Z_ : n0 ≤ h16.size := Nat.le_trans Z_ E16.1
    have V_b16 : Arv Z h16 b16 k16 .byte (0 : Int32) [] (.int (0 : Int32)) := (Arv.new A16 (by decide)).pad (pad_rep [] (.int (0 : Int32)) 0)
    have E_b16 := Ex16
    refine OwnGo.st st16 ?_
    show OwnGo p e below s _ _ _ T16 (mkF m 33 #[.val (.int p1), .val (.int p2), .val (.int p3), .val (.int p4), .val (.int p5), .val (.int nn), .val (.int y0), .val (.int y1), .val (.int y2), .val (.int y3), .unset, .unset, .unset, .unset, .unset] [(.ref b16)])
    refine OwnGo.st (fun _ k => XS.astore X16.here hx rfl (hb hby at_33) rfl rfl (l' := #[.val (.int p1), .val (.int p2), .val (.int p3), .val (.int p4), .val (.int p5), .val (.int nn), .val (.int y0), .val (.int y1), .val (.int y2), .val (.int y3), .val (.ref b16), .unset, .unset, .unset, .unset]) rfl k) ?_
    show OwnGo p e below s _ _ _ T16 (mkF m 35 #[.val (.int p1), .val (.int p2), .val (.int p3), .val (.int p4), .val (.int p5), .val (.int nn), .val (.int y0), .val (.int y1), .val (.int y2), .val (.int y3), .val (.ref b16), .unset, .unset, .unset, .unset] [])
    refine OwnGo.st (fun _ k => XS.goto X16.here hx rfl (pc0 := 35) (pc' := 135) rfl (hb hby at_35) (by decide) (by decide) k) ?_
    show OwnGo p e below s _ _ _ T16 (mkF m 135 #[.val (.int p1), .val (.int p2), .val (.int p3), .val (.int p4), .val (.int p5), .val (.int nn), .val (.int y0), .val (.int y1), .val (.int y2), .val (.int y3), .val (.ref b16), .unset, .unset, .unset, .unset] [])
    refine OwnGo.st (fun _ k => XS.aload X16.here hx rfl (hb hby at_135) rfl rfl  k) ?_
    show OwnGo p e below s _ _ _ T16 (mkF m 137 #[.val (.int p1), .val (.int p2), .val (.int p3), .val (.int p4), .val (.int p5), .val (.int nn), .val (.int y0), .val (.int y1), .val (.int y2), .val (.int y3), .val (.ref b16), .unset, .unset, .unset, .unset] [(.ref b16)])
    obtain ⟨_, _, ⟨T17, L17, k17, n17⟩, -, X17, ⟨Lc17, hQ17, l17, y17, z17⟩, st17⟩ := Jvm.LawKit.callS X16 hx (y := (⟨"com/example/utsatt/utsatt/KeyHashes", "of", "([B)J"⟩ : MethodName)) hown (mvT hZ (hw _ (List.mem_of_getElem? (i := 2) rfl))) (mvT hZ (hw _ (List.mem_of_getElem? (i := 3) rfl))) (mvT hZ (hw _ (List.mem_of_getElem? (i := 4) rfl))) (mvT hZ (hw _ (List.mem_of_getElem? (i := 5) rfl))) (by decide) (backOf (W := 0) (rmof0 l Z a0 hw [] b16 k16 h16 n0 Z_ V_b16) hZ (hw _ (List.mem_of_getElem? (i := 5) rfl)) (hw _ (List.mem_of_getElem? (i := 4) rfl)) (by decide) (by decide)) (g := (mkF m 137 #[.val (.int p1), .val (.int p2), .val (.int p3), .val (.int p4), .val (.int p5), .val (.int nn), .val (.int y0), .val (.int y1), .val (.int y2), .val (.int y3), .val (.ref b16), .unset, .unset, .unset, .unset] [(.ref b16)])) rfl (by rw [hml]; rfl) (argsL := [(.ref b16)]) (rest := []) (lenOf pd_0 rfl) rfl (by show 2 * 0 + _ ≤ _; exact Nat.le_of_eq rfl) (hb hby at_137) (fun _ _ => ⟨rfl, e16, (by decide : 1 + 0 ≤ _), (by decide : 0 + 0 ≤ _)⟩)
    dsimp only [Pt.U, Pt.locs, Pt.cells, Pt.slots] at X17 l17 y17 z17 st17 hQ17
    subst l17 y17 z17
    obtain ⟨rfl, N17q, e17⟩ := hQ17
    have N17 := Fr.app N0 N17q
    refine OwnGo.st st17 ?_
    show OwnGo p e below s _ _ _ T17 (mkF m 140 #[.val (.int p1), .val (.int p2), .val (.int p3), .val (.int p4), .val (.int p5), .val (.int nn), .val (.int y0), .val (.int y1), .val (.int y2), .val (.int y3), .val (.ref b16), .unset, .unset, .unset, .unset] [(.long (own_fin (-3750763034362895579 : Int64)))])
    show OwnGo p e below s _ _ _ T17 (mkF m 140 #[.val (.int p1), .val (.int p2), .val (.int p3), .val (.int p4), .val (.int p5), .val (.int nn), .val (.int y0), .val (.int y1), .val (.int y2), .val (.int y3), .val (.ref b16), .unset, .unset, .unset, .unset] [(.long (own_fin (-3750763034362895579 : Int64)))])
    refine OwnGo.st (fun _ k => XS.lstore X17.here hx rfl (hb hby at_140) rfl (l' := #[.val (.int p1), .val (.int p2), .val (.int p3), .val (.int p4), .val (.int p5), .val (.int nn), .val (.int y0), .val (.int y1), .val (.int y2), .val (.int y3), .val (.ref b16), .val (.long (own_fin (-3750763034362895579 : Int64))), .second, .unset, .unset]) rfl k) ?_
    show OwnGo p e below s _ _ _ T17 (mkF m 142 #[.val (.int p1), .val (.int p2), .val (.int p3), .val (.int p4), .val (.int p5), .val (.int nn), .val (.int y0), .val (.int y1), .val (.int y2), .val (.int y3), .val (.ref b16), .val (.long (own_fin (-3750763034362895579 : Int64))), .second, .unset, .unset] [])
    refine OwnGo.st (fun _ k => XS.lload X17.here hx rfl (hb hby at_142) rfl  k) ?_
    show OwnGo p e below s _ _ _ T17 (mkF m 144 #[.val (.int p1), .val (.int p2), .val (.int p3), .val (.int p4), .val (.int p5), .val (.int nn), .val (.int y0), .val (.int y1), .val (.int y2), .val (.int y3), .val (.ref b16), .val (.long (own_fin (-3750763034362895579 : Int64))), .second, .unset, .unset] [(.long (own_fin (-3750763034362895579 : Int64)))])
    refine OwnGo.st (fun _ k => XS.lload X17.here hx rfl (hb hby at_144) rfl  k) ?_
    show OwnGo p e below s _ _ _ T17 (mkF m 146 #[.val (.int p1), .val (.int p2), .val (.int p3), .val (.int p4), .val (.int p5), .val (.int nn), .val (.int y0), .val (.int y1), .val (.int y2), .val (.int y3), .val (.ref b16), .val (.long (own_fin (-3750763034362895579 : Int64))), .second, .unset, .unset] [(.long (own_fin (-3750763034362895579 : Int64))), (.long (own_fin (-3750763034362895579 : Int64)))])
    refine OwnGo.st (fun _ k => XS.bipush X17.here hx rfl (hb hby at_146) k) ?_
    show OwnGo p e below s _ _ _ T17 (mkF m 148 #[.val (.int p1), .val (.int p2), .val (.int p3), .val (.int p4), .val (.int p5), .val (.int nn), .val (.int y0), .val (.int y1), .val (.int y2), .val (.int y3), .val (.ref b16), .val (.long (own_fin (-3750763034362895579 : Int64))), .second, .unset, .unset] [(.int (31 : Int32)), (.long (own_fin (-3750763034362895579 : Int64))), (.long (own_fin (-3750763034362895579 : Int64)))])
    refine OwnGo.st (fun _ k => XS.lushr X17.here hx rfl (hb hby at_148) rfl k) ?_
    show OwnGo p e below s _ _ _ T17 (mkF m 149 #[.val (.int p1), .val (.int p2), .val (.int p3), .val (.int p4), .val (.int p5), .val (.int nn), .val (.int y0), .val (.int y1), .val (.int y2), .val (.int y3), .val (.ref b16), .val (.long (own_fin (-3750763034362895579 : Int64))), .second, .unset, .unset] [(.long (((own_fin (-3750763034362895579 : Int64)).toUInt64 >>> ((31 : Int32) &&& 0x3f).toInt64.toUInt64).toInt64)), (.long (own_fin (-3750763034362895579 : Int64)))])
    refine OwnGo.st (fun _ k => XS.lxor X17.here hx rfl (hb hby at_149) rfl k) ?_
    show OwnGo p e below s _ _ _ T17 (mkF m 150 #[.val (.int p1), .val (.int p2), .val (.int p3), .val (.int p4), .val (.int p5), .val (.int nn), .val (.int y0), .val (.int y1), .val (.int y2), .val (.int y3), .val (.ref b16), .val (.long (own_fin (-3750763034362895579 : Int64))), .second, .unset, .unset] [(.long ((own_fin (-3750763034362895579 : Int64)) ^^^ (((own_fin (-3750763034362895579 : Int64)).toUInt64 >>> ((31 : Int32) &&& 0x3f).toInt64.toUInt64).toInt64)))])
    refine OwnGo.st (fun _ k => XS.lload X17.here hx rfl (hb hby at_150) rfl  k) ?_
    show OwnGo p e below s _ _ _ T17 (mkF m 152 #[.val (.int p1), .val (.int p2), .val (.int p3), .val (.int p4), .val (.int p5), .val (.int nn), .val (.int y0), .val (.int y1), .val (.int y2), .val (.int y3), .val (.ref b16), .val (.long (own_fin (-3750763034362895579 : Int64))), .second, .unset, .unset] [(.long (own_fin (-3750763034362895579 : Int64))), (.long ((own_fin (-3750763034362895579 : Int64)) ^^^ (((own_fin (-3750763034362895579 : Int64)).toUInt64 >>> ((31 : Int32) &&& 0x3f).toInt64.toUInt64).toInt64)))])
    refine OwnGo.st (fun _ k => XS.bipush X17.here hx rfl (hb hby at_152) k) ?_
    show OwnGo p e below s _ _ _ T17 (mkF m 154 #[.val (.int p1), .val (.int p2), .val (.int p3), .val (.int p4), .val (.int p5), .val (.int nn), .val (.int y0), .val (.int y1), .val (.int y2), .val (.int y3), .val (.ref b16), .val (.long (own_fin (-3750763034362895579 : Int64))), .second, .unset, .unset] [(.int (62 : Int32)), (.long (own_fin (-3750763034362895579 : Int64))), (.long ((own_fin (-3750763034362895579 : Int64)) ^^^ (((own_fin (-3750763034362895579 : Int64)).toUInt64 >>> ((31 : Int32) &&& 0x3f).toInt64.toUInt64).toInt64)))])
    refine OwnGo.st (fun _ k => XS.lushr X17.here hx rfl (hb hby at_154) rfl k) ?_
    show OwnGo p e below s _ _ _ T17 (mkF m 155 #[.val (.int p1), .val (.int p2), .val (.int p3), .val (.int p4), .val (.int p5), .val (.int nn), .val (.int y0), .val (.int y1), .val (.int y2), .val (.int y3), .val (.ref b16), .val (.long (own_fin (-3750763034362895579 : Int64))), .second, .unset, .unset] [(.long (((own_fin (-3750763034362895579 : Int64)).toUInt64 >>> ((62 : Int32) &&& 0x3f).toInt64.toUInt64).toInt64)), (.long ((own_fin (-3750763034362895579 : Int64)) ^^^ (((own_fin (-3750763034362895579 : Int64)).toUInt64 >>> ((31 : Int32) &&& 0x3f).toInt64.toUInt64).toInt64)))])
    refine OwnGo.st (fun _ k => XS.lxor X17.here hx rfl (hb hby at_155) rfl k) ?_
    show OwnGo p e below s _ _ _ T17 (mkF m 156 #[.val (.int p1), .val (.int p2), .val (.int p3), .val (.int p4), .val (.int p5), .val (.int nn), .val (.int y0), .val (.int y1), .val (.int y2), .val (.int y3), .val (.ref b16), .val (.long (own_fin (-3750763034362895579 : Int64))), .second, .unset, .unset] [(.long (((own_fin (-3750763034362895579 : Int64)) ^^^ (((own_fin (-3750763034362895579 : Int64)).toUInt64 >>> ((31 : Int32) &&& 0x3f).toInt64.toUInt64).toInt64)) ^^^ (((own_fin (-3750763034362895579 : Int64)).toUInt64 >>> ((62 : Int32) &&& 0x3f).toInt64.toUInt64).toInt64)))])
    show OwnGo p e below s _ _ _ T17 (mkF m 156 #[.val (.int p1), .val (.int p2), .val (.int p3), .val (.int p4), .val (.int p5), .val (.int nn), .val (.int y0), .val (.int y1), .val (.int y2), .val (.int y3), .val (.ref b16), .val (.long (own_fin (-3750763034362895579 : Int64))), .second, .unset, .unset] [(.long (own_un (own_fin (-3750763034362895579 : Int64)) 31 62))])
    rw [show own_un (own_fin (-3750763034362895579 : Int64)) 31 62 = own_f2 (-3750763034362895579 : Int64) from own_u31 _]
    show OwnGo p e below s _ _ _ T17 (mkF m 156 #[.val (.int p1), .val (.int p2), .val (.int p3), .val (.int p4), .val (.int p5), .val (.int nn), .val (.int y0), .val (.int y1), .val (.int y2), .val (.int y3), .val (.ref b16), .val (.long (own_fin (-3750763034362895579 : Int64))), .second, .unset, .unset] [(.long (own_f2 (-3750763034362895579 : Int64)))])
    refine OwnGo.st (fun _ k => XS.lstore X17.here hx rfl (hb hby at_156) rfl (l' := #[.val (.int p1), .val (.int p2), .val (.int p3), .val (.int p4), .val (.int p5), .val (.int nn), .val (.int y0), .val (.int y1), .val (.int y2), .val (.int y3), .val (.ref b16), .val (.long (own_f2 (-3750763034362895579 : Int64))), .second, .unset, .unset]) rfl k) ?_
    show OwnGo p e below s _ _ _ T17 (mkF m 158 #[.val (.int p1), .val (.int p2), .val (.int p3), .val (.int p4), .val (.int p5), .val (.int nn), .val (.int y0), .val (.int y1), .val (.int y2), .val (.int y3), .val (.ref b16), .val (.long (own_f2 (-3750763034362895579 : Int64))), .second, .unset, .unset] [])
    refine OwnGo.st (fun _ k => XS.lload X17.here hx rfl (hb hby at_158) rfl  k) ?_
    show OwnGo p e below s _ _ _ T17 (mkF m 160 #[.val (.int p1), .val (.int p2), .val (.int p3), .val (.int p4), .val (.int p5), .val (.int nn), .val (.int y0), .val (.int y1), .val (.int y2), .val (.int y3), .val (.ref b16), .val (.long (own_f2 (-3750763034362895579 : Int64))), .second, .unset, .unset] [(.long (own_f2 (-3750763034362895579 : Int64)))])
    refine OwnGo.st (fun _ k => X17.ldc2Long hx hown (mvT hZ (hw _ (List.mem_of_getElem? (i := 9) rfl))) (g := (mkF m 160 #[.val (.int p1), .val (.int p2), .val (.int p3), .val (.int p4), .val (.int p5), .val (.int nn), .val (.int y0), .val (.int y1), .val (.int y2), .val (.int y3), .val (.ref b16), .val (.long (own_f2 (-3750763034362895579 : Int64))), .second, .unset, .unset] [(.long (own_f2 (-3750763034362895579 : Int64)))])) rfl (hb hby at_160) _ k) ?_
    show OwnGo p e below s _ _ _ T17 (mkF m 163 #[.val (.int p1), .val (.int p2), .val (.int p3), .val (.int p4), .val (.int p5), .val (.int nn), .val (.int y0), .val (.int y1), .val (.int y2), .val (.int y3), .val (.ref b16), .val (.long (own_f2 (-3750763034362895579 : Int64))), .second, .unset, .unset] [(.long (-7723592293110705685 : Int64)), (.long (own_f2 (-3750763034362895579 : Int64)))])
    obtain ⟨_, _, ⟨T18, L18, k18, n18⟩, -, X18, ⟨Lc18, hQ18, l18, y18, z18⟩, st18⟩ := Jvm.LawKit.callS X17 hx (y := (⟨"com/example/utsatt/utsatt/KeyHashesOfPinLaw", "inverse", "(J)J"⟩ : MethodName)) hown (mvT hZ (hw _ (List.mem_of_getElem? (i := 10) rfl))) (mvT hZ (hw _ (List.mem_of_getElem? (i := 11) rfl))) (mvT hZ (hw _ (List.mem_of_getElem? (i := 12) rfl))) (mvT hZ (hw _ (List.mem_of_getElem? (i := 13) rfl))) (by decide) (backOf (W := 2) (rm2 l Z a0 hw [] (-7723592293110705685 : Int64) h16 n0 Z_ ) hZ (hw _ (List.mem_of_getElem? (i := 13) rfl)) (hw _ (List.mem_of_getElem? (i := 12) rfl)) (by decide) (by decide)) (g := (mkF m 163 #[.val (.int p1), .val (.int p2), .val (.int p3), .val (.int p4), .val (.int p5), .val (.int nn), .val (.int y0), .val (.int y1), .val (.int y2), .val (.int y3), .val (.ref b16), .val (.long (own_f2 (-3750763034362895579 : Int64))), .second, .unset, .unset] [(.long (-7723592293110705685 : Int64)), (.long (own_f2 (-3750763034362895579 : Int64)))])) rfl (by rw [hml]; rfl) (argsL := [(.long (-7723592293110705685 : Int64))]) (rest := [(.long (own_f2 (-3750763034362895579 : Int64)))]) (lenOf pd_1 rfl) rfl (by show 2 * 0 + _ ≤ _; exact Nat.le_of_eq rfl) (hb hby at_163) (fun _ _ => ⟨rfl, e17, (by decide : 1 + 0 ≤ _), (by decide : 0 + 0 ≤ _)⟩)
    dsimp only [Pt.U, Pt.locs, Pt.cells, Pt.slots] at X18 l18 y18 z18 st18 hQ18
    subst l18 y18 z18
    obtain ⟨rfl, N18q, e18⟩ := hQ18
    have N18 := Fr.app N17 N18q
    refine OwnGo.st st18 ?_
    show OwnGo p e below s _ _ _ T18 (mkF m 166 #[.val (.int p1), .val (.int p2), .val (.int p3), .val (.int p4), .val (.int p5), .val (.int nn), .val (.int y0), .val (.int y1), .val (.int y2), .val (.int y3), .val (.ref b16), .val (.long (own_f2 (-3750763034362895579 : Int64))), .second, .unset, .unset] [(.long (own_inv (-7723592293110705685 : Int64))), (.long (own_f2 (-3750763034362895579 : Int64)))])
    refine OwnGo.st (fun _ k => XS.lmul X18.here hx rfl (hb hby at_166) rfl k) ?_
    show OwnGo p e below s _ _ _ T18 (mkF m 167 #[.val (.int p1), .val (.int p2), .val (.int p3), .val (.int p4), .val (.int p5), .val (.int nn), .val (.int y0), .val (.int y1), .val (.int y2), .val (.int y3), .val (.ref b16), .val (.long (own_f2 (-3750763034362895579 : Int64))), .second, .unset, .unset] [(.long ((own_f2 (-3750763034362895579 : Int64)) * (own_inv (-7723592293110705685 : Int64))))])
    rw [show (own_f2 (-3750763034362895579 : Int64) * own_inv (-7723592293110705685 : Int64)) = own_xs (own_f1 (-3750763034362895579 : Int64)) 27 from own_k2 _]
    show OwnGo p e below s _ _ _ T18 (mkF m 167 #[.val (.int p1), .val (.int p2), .val (.int p3), .val (.int p4), .val (.int p5), .val (.int nn), .val (.int y0), .val (.int y1), .val (.int y2), .val (.int y3), .val (.ref b16), .val (.long (own_f2 (-3750763034362895579 : Int64))), .second, .unset, .unset] [(.long (own_xs (own_f1 (-3750763034362895579 : Int64)) 27))])
    refine OwnGo.st (fun _ k => XS.lstore X18.here hx rfl (hb hby at_167) rfl (l' := #[.val (.int p1), .val (.int p2), .val (.int p3), .val (.int p4), .val (.int p5), .val (.int nn), .val (.int y0), .val (.int y1), .val (.int y2), .val (.int y3), .val (.ref b16), .val (.long (own_xs (own_f1 (-3750763034362895579 : Int64)) 27)), .second, .unset, .unset]) rfl k) ?_
    show OwnGo p e below s _ _ _ T18 (mkF m 169 #[.val (.int p1), .val (.int p2), .val (.int p3), .val (.int p4), .val (.int p5), .val (.int nn), .val (.int y0), .val (.int y1), .val (.int y2), .val (.int y3), .val (.ref b16), .val (.long (own_xs (own_f1 (-3750763034362895579 : Int64)) 27)), .second, .unset, .unset] [])
    refine OwnGo.st (fun _ k => XS.lload X18.here hx rfl (hb hby at_169) rfl  k) ?_
    show OwnGo p e below s _ _ _ T18 (mkF m 171 #[.val (.int p1), .val (.int p2), .val (.int p3), .val (.int p4), .val (.int p5), .val (.int nn), .val (.int y0), .val (.int y1), .val (.int y2), .val (.int y3), .val (.ref b16), .val (.long (own_xs (own_f1 (-3750763034362895579 : Int64)) 27)), .second, .unset, .unset] [(.long (own_xs (own_f1 (-3750763034362895579 : Int64)) 27))])
    refine OwnGo.st (fun _ k => XS.lload X18.here hx rfl (hb hby at_171) rfl  k) ?_
    show OwnGo p e below s _ _ _ T18 (mkF m 173 #[.val (.int p1), .val (.int p2), .val (.int p3), .val (.int p4), .val (.int p5), .val (.int nn), .val (.int y0), .val (.int y1), .val (.int y2), .val (.int y3), .val (.ref b16), .val (.long (own_xs (own_f1 (-3750763034362895579 : Int64)) 27)), .second, .unset, .unset] [(.long (own_xs (own_f1 (-3750763034362895579 : Int64)) 27)), (.long (own_xs (own_f1 (-3750763034362895579 : Int64)) 27))])
    refine OwnGo.st (fun _ k => XS.bipush X18.here hx rfl (hb hby at_173) k) ?_
    show OwnGo p e below s _ _ _ T18 (mkF m 175 #[.val (.int p1), .val (.int p2), .val (.int p3), .val (.int p4), .val (.int p5), .val (.int nn), .val (.int y0), .val (.int y1), .val (.int y2), .val (.int y3), .val (.ref b16), .val (.long (own_xs (own_f1 (-3750763034362895579 : Int64)) 27)), .second, .unset, .unset] [(.int (27 : Int32)), (.long (own_xs (own_f1 (-3750763034362895579 : Int64)) 27)), (.long (own_xs (own_f1 (-3750763034362895579 : Int64)) 27))])
    refine OwnGo.st (fun _ k => XS.lushr X18.here hx rfl (hb hby at_175) rfl k) ?_
    show OwnGo p e below s _ _ _ T18 (mkF m 176 #[.val (.int p1), .val (.int p2), .val (.int p3), .val (.int p4), .val (.int p5), .val (.int nn), .val (.int y0), .val (.int y1), .val (.int y2), .val (.int y3), .val (.ref b16), .val (.long (own_xs (own_f1 (-3750763034362895579 : Int64)) 27)), .second, .unset, .unset] [(.long (((own_xs (own_f1 (-3750763034362895579 : Int64)) 27).toUInt64 >>> ((27 : Int32) &&& 0x3f).toInt64.toUInt64).toInt64)), (.long (own_xs (own_f1 (-3750763034362895579 : Int64)) 27))])
    refine OwnGo.st (fun _ k => XS.lxor X18.here hx rfl (hb hby at_176) rfl k) ?_
    show OwnGo p e below s _ _ _ T18 (mkF m 177 #[.val (.int p1), .val (.int p2), .val (.int p3), .val (.int p4), .val (.int p5), .val (.int nn), .val (.int y0), .val (.int y1), .val (.int y2), .val (.int y3), .val (.ref b16), .val (.long (own_xs (own_f1 (-3750763034362895579 : Int64)) 27)), .second, .unset, .unset] [(.long ((own_xs (own_f1 (-3750763034362895579 : Int64)) 27) ^^^ (((own_xs (own_f1 (-3750763034362895579 : Int64)) 27).toUInt64 >>> ((27 : Int32) &&& 0x3f).toInt64.toUInt64).toInt64)))])
    refine OwnGo.st (fun _ k => XS.lload X18.here hx rfl (hb hby at_177) rfl  k) ?_
    show OwnGo p e below s _ _ _ T18 (mkF m 179 #[.val (.int p1), .val (.int p2), .val (.int p3), .val (.int p4), .val (.int p5), .val (.int nn), .val (.int y0), .val (.int y1), .val (.int y2), .val (.int y3), .val (.ref b16), .val (.long (own_xs (own_f1 (-3750763034362895579 : Int64)) 27)), .second, .unset, .unset] [(.long (own_xs (own_f1 (-3750763034362895579 : Int64)) 27)), (.long ((own_xs (own_f1 (-3750763034362895579 : Int64)) 27) ^^^ (((own_xs (own_f1 (-3750763034362895579 : Int64)) 27).toUInt64 >>> ((27 : Int32) &&& 0x3f).toInt64.toUInt64).toInt64)))])
    refine OwnGo.st (fun _ k => XS.bipush X18.here hx rfl (hb hby at_179) k) ?_
    show OwnGo p e below s _ _ _ T18 (mkF m 181 #[.val (.int p1), .val (.int p2), .val (.int p3), .val (.int p4), .val (.int p5), .val (.int nn), .val (.int y0), .val (.int y1), .val (.int y2), .val (.int y3), .val (.ref b16), .val (.long (own_xs (own_f1 (-3750763034362895579 : Int64)) 27)), .second, .unset, .unset] [(.int (54 : Int32)), (.long (own_xs (own_f1 (-3750763034362895579 : Int64)) 27)), (.long ((own_xs (own_f1 (-3750763034362895579 : Int64)) 27) ^^^ (((own_xs (own_f1 (-3750763034362895579 : Int64)) 27).toUInt64 >>> ((27 : Int32) &&& 0x3f).toInt64.toUInt64).toInt64)))])
    refine OwnGo.st (fun _ k => XS.lushr X18.here hx rfl (hb hby at_181) rfl k) ?_
    show OwnGo p e below s _ _ _ T18 (mkF m 182 #[.val (.int p1), .val (.int p2), .val (.int p3), .val (.int p4), .val (.int p5), .val (.int nn), .val (.int y0), .val (.int y1), .val (.int y2), .val (.int y3), .val (.ref b16), .val (.long (own_xs (own_f1 (-3750763034362895579 : Int64)) 27)), .second, .unset, .unset] [(.long (((own_xs (own_f1 (-3750763034362895579 : Int64)) 27).toUInt64 >>> ((54 : Int32) &&& 0x3f).toInt64.toUInt64).toInt64)), (.long ((own_xs (own_f1 (-3750763034362895579 : Int64)) 27) ^^^ (((own_xs (own_f1 (-3750763034362895579 : Int64)) 27).toUInt64 >>> ((27 : Int32) &&& 0x3f).toInt64.toUInt64).toInt64)))])
    refine OwnGo.st (fun _ k => XS.lxor X18.here hx rfl (hb hby at_182) rfl k) ?_
    show OwnGo p e below s _ _ _ T18 (mkF m 183 #[.val (.int p1), .val (.int p2), .val (.int p3), .val (.int p4), .val (.int p5), .val (.int nn), .val (.int y0), .val (.int y1), .val (.int y2), .val (.int y3), .val (.ref b16), .val (.long (own_xs (own_f1 (-3750763034362895579 : Int64)) 27)), .second, .unset, .unset] [(.long (((own_xs (own_f1 (-3750763034362895579 : Int64)) 27) ^^^ (((own_xs (own_f1 (-3750763034362895579 : Int64)) 27).toUInt64 >>> ((27 : Int32) &&& 0x3f).toInt64.toUInt64).toInt64)) ^^^ (((own_xs (own_f1 (-3750763034362895579 : Int64)) 27).toUInt64 >>> ((54 : Int32) &&& 0x3f).toInt64.toUInt64).toInt64)))])
    show OwnGo p e below s _ _ _ T18 (mkF m 183 #[.val (.int p1), .val (.int p2), .val (.int p3), .val (.int p4), .val (.int p5), .val (.int nn), .val (.int y0), .val (.int y1), .val (.int y2), .val (.int y3), .val (.ref b16), .val (.long (own_xs (own_f1 (-3750763034362895579 : Int64)) 27)), .second, .unset, .unset] [(.long (own_un (own_xs (own_f1 (-3750763034362895579 : Int64)) 27) 27 54))])
    rw [own_u27]
    show OwnGo p e below s _ _ _ T18 (mkF m 183 #[.val (.int p1), .val (.int p2), .val (.int p3), .val (.int p4), .val (.int p5), .val (.int nn), .val (.int y0), .val (.int y1), .val (.int y2), .val (.int y3), .val (.ref b16), .val (.long (own_xs (own_f1 (-3750763034362895579 : Int64)) 27)), .second, .unset, .unset] [(.long (own_f1 (-3750763034362895579 : Int64)))])
    refine OwnGo.st (fun _ k => XS.lstore X18.here hx rfl (hb hby at_183) rfl (l' := #[.val (.int p1), .val (.int p2), .val (.int p3), .val (.int p4), .val (.int p5), .val (.int nn), .val (.int y0), .val (.int y1), .val (.int y2), .val (.int y3), .val (.ref b16), .val (.long (own_f1 (-3750763034362895579 : Int64))), .second, .unset, .unset]) rfl k) ?_
    show OwnGo p e below s _ _ _ T18 (mkF m 185 #[.val (.int p1), .val (.int p2), .val (.int p3), .val (.int p4), .val (.int p5), .val (.int nn), .val (.int y0), .val (.int y1), .val (.int y2), .val (.int y3), .val (.ref b16), .val (.long (own_f1 (-3750763034362895579 : Int64))), .second, .unset, .unset] [])
    refine OwnGo.st (fun _ k => XS.lload X18.here hx rfl (hb hby at_185) rfl  k) ?_
    show OwnGo p e below s _ _ _ T18 (mkF m 187 #[.val (.int p1), .val (.int p2), .val (.int p3), .val (.int p4), .val (.int p5), .val (.int nn), .val (.int y0), .val (.int y1), .val (.int y2), .val (.int y3), .val (.ref b16), .val (.long (own_f1 (-3750763034362895579 : Int64))), .second, .unset, .unset] [(.long (own_f1 (-3750763034362895579 : Int64)))])
    refine OwnGo.st (fun _ k => X18.ldc2Long hx hown (mvT hZ (hw _ (List.mem_of_getElem? (i := 15) rfl))) (g := (mkF m 187 #[.val (.int p1), .val (.int p2), .val (.int p3), .val (.int p4), .val (.int p5), .val (.int nn), .val (.int y0), .val (.int y1), .val (.int y2), .val (.int y3), .val (.ref b16), .val (.long (own_f1 (-3750763034362895579 : Int64))), .second, .unset, .unset] [(.long (own_f1 (-3750763034362895579 : Int64)))])) rfl (hb hby at_187) _ k) ?_
    show OwnGo p e below s _ _ _ T18 (mkF m 190 #[.val (.int p1), .val (.int p2), .val (.int p3), .val (.int p4), .val (.int p5), .val (.int nn), .val (.int y0), .val (.int y1), .val (.int y2), .val (.int y3), .val (.ref b16), .val (.long (own_f1 (-3750763034362895579 : Int64))), .second, .unset, .unset] [(.long (-4658895280553007687 : Int64)), (.long (own_f1 (-3750763034362895579 : Int64)))])
    obtain ⟨_, _, ⟨T19, L19, k19, n19⟩, -, X19, ⟨Lc19, hQ19, l19, y19, z19⟩, st19⟩ := Jvm.LawKit.callS X18 hx (y := (⟨"com/example/utsatt/utsatt/KeyHashesOfPinLaw", "inverse", "(J)J"⟩ : MethodName)) hown (mvT hZ (hw _ (List.mem_of_getElem? (i := 10) rfl))) (mvT hZ (hw _ (List.mem_of_getElem? (i := 11) rfl))) (mvT hZ (hw _ (List.mem_of_getElem? (i := 12) rfl))) (mvT hZ (hw _ (List.mem_of_getElem? (i := 13) rfl))) (by decide) (backOf (W := 2) (rm2 l Z a0 hw [] (-4658895280553007687 : Int64) h16 n0 Z_ ) hZ (hw _ (List.mem_of_getElem? (i := 13) rfl)) (hw _ (List.mem_of_getElem? (i := 12) rfl)) (by decide) (by decide)) (g := (mkF m 190 #[.val (.int p1), .val (.int p2), .val (.int p3), .val (.int p4), .val (.int p5), .val (.int nn), .val (.int y0), .val (.int y1), .val (.int y2), .val (.int y3), .val (.ref b16), .val (.long (own_f1 (-3750763034362895579 : Int64))), .second, .unset, .unset] [(.long (-4658895280553007687 : Int64)), (.long (own_f1 (-3750763034362895579 : Int64)))])) rfl (by rw [hml]; rfl) (argsL := [(.long (-4658895280553007687 : Int64))]) (rest := [(.long (own_f1 (-3750763034362895579 : Int64)))]) (lenOf pd_1 rfl) rfl (by show 2 * 0 + _ ≤ _; exact Nat.le_of_eq rfl) (hb hby at_190) (fun _ _ => ⟨rfl, e18, (by decide : 1 + 0 ≤ _), (by decide : 0 + 0 ≤ _)⟩)
    dsimp only [Pt.U, Pt.locs, Pt.cells, Pt.slots] at X19 l19 y19 z19 st19 hQ19
    subst l19 y19 z19
    obtain ⟨rfl, N19q, e19⟩ := hQ19
    have N19 := Fr.app N18 N19q
    refine OwnGo.st st19 ?_
    show OwnGo p e below s _ _ _ T19 (mkF m 193 #[.val (.int p1), .val (.int p2), .val (.int p3), .val (.int p4), .val (.int p5), .val (.int nn), .val (.int y0), .val (.int y1), .val (.int y2), .val (.int y3), .val (.ref b16), .val (.long (own_f1 (-3750763034362895579 : Int64))), .second, .unset, .unset] [(.long (own_inv (-4658895280553007687 : Int64))), (.long (own_f1 (-3750763034362895579 : Int64)))])
    refine OwnGo.st (fun _ k => XS.lmul X19.here hx rfl (hb hby at_193) rfl k) ?_
    show OwnGo p e below s _ _ _ T19 (mkF m 194 #[.val (.int p1), .val (.int p2), .val (.int p3), .val (.int p4), .val (.int p5), .val (.int nn), .val (.int y0), .val (.int y1), .val (.int y2), .val (.int y3), .val (.ref b16), .val (.long (own_f1 (-3750763034362895579 : Int64))), .second, .unset, .unset] [(.long ((own_f1 (-3750763034362895579 : Int64)) * (own_inv (-4658895280553007687 : Int64))))])
    rw [show (own_f1 (-3750763034362895579 : Int64) * own_inv (-4658895280553007687 : Int64)) = own_xs (-3750763034362895579 : Int64) 30 from own_k1 _]
    show OwnGo p e below s _ _ _ T19 (mkF m 194 #[.val (.int p1), .val (.int p2), .val (.int p3), .val (.int p4), .val (.int p5), .val (.int nn), .val (.int y0), .val (.int y1), .val (.int y2), .val (.int y3), .val (.ref b16), .val (.long (own_f1 (-3750763034362895579 : Int64))), .second, .unset, .unset] [(.long (own_xs (-3750763034362895579 : Int64) 30))])
    refine OwnGo.st (fun _ k => XS.lstore X19.here hx rfl (hb hby at_194) rfl (l' := #[.val (.int p1), .val (.int p2), .val (.int p3), .val (.int p4), .val (.int p5), .val (.int nn), .val (.int y0), .val (.int y1), .val (.int y2), .val (.int y3), .val (.ref b16), .val (.long (own_xs (-3750763034362895579 : Int64) 30)), .second, .unset, .unset]) rfl k) ?_
    show OwnGo p e below s _ _ _ T19 (mkF m 196 #[.val (.int p1), .val (.int p2), .val (.int p3), .val (.int p4), .val (.int p5), .val (.int nn), .val (.int y0), .val (.int y1), .val (.int y2), .val (.int y3), .val (.ref b16), .val (.long (own_xs (-3750763034362895579 : Int64) 30)), .second, .unset, .unset] [])
    refine OwnGo.st (fun _ k => XS.lload X19.here hx rfl (hb hby at_196) rfl  k) ?_
    show OwnGo p e below s _ _ _ T19 (mkF m 198 #[.val (.int p1), .val (.int p2), .val (.int p3), .val (.int p4), .val (.int p5), .val (.int nn), .val (.int y0), .val (.int y1), .val (.int y2), .val (.int y3), .val (.ref b16), .val (.long (own_xs (-3750763034362895579 : Int64) 30)), .second, .unset, .unset] [(.long (own_xs (-3750763034362895579 : Int64) 30))])
    refine OwnGo.st (fun _ k => XS.lload X19.here hx rfl (hb hby at_198) rfl  k) ?_
    show OwnGo p e below s _ _ _ T19 (mkF m 200 #[.val (.int p1), .val (.int p2), .val (.int p3), .val (.int p4), .val (.int p5), .val (.int nn), .val (.int y0), .val (.int y1), .val (.int y2), .val (.int y3), .val (.ref b16), .val (.long (own_xs (-3750763034362895579 : Int64) 30)), .second, .unset, .unset] [(.long (own_xs (-3750763034362895579 : Int64) 30)), (.long (own_xs (-3750763034362895579 : Int64) 30))])
    refine OwnGo.st (fun _ k => XS.bipush X19.here hx rfl (hb hby at_200) k) ?_
    show OwnGo p e below s _ _ _ T19 (mkF m 202 #[.val (.int p1), .val (.int p2), .val (.int p3), .val (.int p4), .val (.int p5), .val (.int nn), .val (.int y0), .val (.int y1), .val (.int y2), .val (.int y3), .val (.ref b16), .val (.long (own_xs (-3750763034362895579 : Int64) 30)), .second, .unset, .unset] [(.int (30 : Int32)), (.long (own_xs (-3750763034362895579 : Int64) 30)), (.long (own_xs (-3750763034362895579 : Int64) 30))])
    refine OwnGo.st (fun _ k => XS.lushr X19.here hx rfl (hb hby at_202) rfl k) ?_
    show OwnGo p e below s _ _ _ T19 (mkF m 203 #[.val (.int p1), .val (.int p2), .val (.int p3), .val (.int p4), .val (.int p5), .val (.int nn), .val (.int y0), .val (.int y1), .val (.int y2), .val (.int y3), .val (.ref b16), .val (.long (own_xs (-3750763034362895579 : Int64) 30)), .second, .unset, .unset] [(.long (((own_xs (-3750763034362895579 : Int64) 30).toUInt64 >>> ((30 : Int32) &&& 0x3f).toInt64.toUInt64).toInt64)), (.long (own_xs (-3750763034362895579 : Int64) 30))])
    refine OwnGo.st (fun _ k => XS.lxor X19.here hx rfl (hb hby at_203) rfl k) ?_
    show OwnGo p e below s _ _ _ T19 (mkF m 204 #[.val (.int p1), .val (.int p2), .val (.int p3), .val (.int p4), .val (.int p5), .val (.int nn), .val (.int y0), .val (.int y1), .val (.int y2), .val (.int y3), .val (.ref b16), .val (.long (own_xs (-3750763034362895579 : Int64) 30)), .second, .unset, .unset] [(.long ((own_xs (-3750763034362895579 : Int64) 30) ^^^ (((own_xs (-3750763034362895579 : Int64) 30).toUInt64 >>> ((30 : Int32) &&& 0x3f).toInt64.toUInt64).toInt64)))])
    refine OwnGo.st (fun _ k => XS.lload X19.here hx rfl (hb hby at_204) rfl  k) ?_
    show OwnGo p e below s _ _ _ T19 (mkF m 206 #[.val (.int p1), .val (.int p2), .val (.int p3), .val (.int p4), .val (.int p5), .val (.int nn), .val (.int y0), .val (.int y1), .val (.int y2), .val (.int y3), .val (.ref b16), .val (.long (own_xs (-3750763034362895579 : Int64) 30)), .second, .unset, .unset] [(.long (own_xs (-3750763034362895579 : Int64) 30)), (.long ((own_xs (-3750763034362895579 : Int64) 30) ^^^ (((own_xs (-3750763034362895579 : Int64) 30).toUInt64 >>> ((30 : Int32) &&& 0x3f).toInt64.toUInt64).toInt64)))])
    refine OwnGo.st (fun _ k => XS.bipush X19.here hx rfl (hb hby at_206) k) ?_
    show OwnGo p e below s _ _ _ T19 (mkF m 208 #[.val (.int p1), .val (.int p2), .val (.int p3), .val (.int p4), .val (.int p5), .val (.int nn), .val (.int y0), .val (.int y1), .val (.int y2), .val (.int y3), .val (.ref b16), .val (.long (own_xs (-3750763034362895579 : Int64) 30)), .second, .unset, .unset] [(.int (60 : Int32)), (.long (own_xs (-3750763034362895579 : Int64) 30)), (.long ((own_xs (-3750763034362895579 : Int64) 30) ^^^ (((own_xs (-3750763034362895579 : Int64) 30).toUInt64 >>> ((30 : Int32) &&& 0x3f).toInt64.toUInt64).toInt64)))])
    refine OwnGo.st (fun _ k => XS.lushr X19.here hx rfl (hb hby at_208) rfl k) ?_
    show OwnGo p e below s _ _ _ T19 (mkF m 209 #[.val (.int p1), .val (.int p2), .val (.int p3), .val (.int p4), .val (.int p5), .val (.int nn), .val (.int y0), .val (.int y1), .val (.int y2), .val (.int y3), .val (.ref b16), .val (.long (own_xs (-3750763034362895579 : Int64) 30)), .second, .unset, .unset] [(.long (((own_xs (-3750763034362895579 : Int64) 30).toUInt64 >>> ((60 : Int32) &&& 0x3f).toInt64.toUInt64).toInt64)), (.long ((own_xs (-3750763034362895579 : Int64) 30) ^^^ (((own_xs (-3750763034362895579 : Int64) 30).toUInt64 >>> ((30 : Int32) &&& 0x3f).toInt64.toUInt64).toInt64)))])
    refine OwnGo.st (fun _ k => XS.lxor X19.here hx rfl (hb hby at_209) rfl k) ?_
    show OwnGo p e below s _ _ _ T19 (mkF m 210 #[.val (.int p1), .val (.int p2), .val (.int p3), .val (.int p4), .val (.int p5), .val (.int nn), .val (.int y0), .val (.int y1), .val (.int y2), .val (.int y3), .val (.ref b16), .val (.long (own_xs (-3750763034362895579 : Int64) 30)), .second, .unset, .unset] [(.long (((own_xs (-3750763034362895579 : Int64) 30) ^^^ (((own_xs (-3750763034362895579 : Int64) 30).toUInt64 >>> ((30 : Int32) &&& 0x3f).toInt64.toUInt64).toInt64)) ^^^ (((own_xs (-3750763034362895579 : Int64) 30).toUInt64 >>> ((60 : Int32) &&& 0x3f).toInt64.toUInt64).toInt64)))])
    show OwnGo p e below s _ _ _ T19 (mkF m 210 #[.val (.int p1), .val (.int p2), .val (.int p3), .val (.int p4), .val (.int p5), .val (.int nn), .val (.int y0), .val (.int y1), .val (.int y2), .val (.int y3), .val (.ref b16), .val (.long (own_xs (-3750763034362895579 : Int64) 30)), .second, .unset, .unset] [(.long (own_un (own_xs (-3750763034362895579 : Int64) 30) 30 60))])
    rw [own_u30]
    show OwnGo p e below s _ _ _ T19 (mkF m 210 #[.val (.int p1), .val (.int p2), .val (.int p3), .val (.int p4), .val (.int p5), .val (.int nn), .val (.int y0), .val (.int y1), .val (.int y2), .val (.int y3), .val (.ref b16), .val (.long (own_xs (-3750763034362895579 : Int64) 30)), .second, .unset, .unset] [(.long (-3750763034362895579 : Int64))])
    refine OwnGo.st (fun _ k => XS.lstore X19.here hx rfl (hb hby at_210) rfl (l' := #[.val (.int p1), .val (.int p2), .val (.int p3), .val (.int p4), .val (.int p5), .val (.int nn), .val (.int y0), .val (.int y1), .val (.int y2), .val (.int y3), .val (.ref b16), .val (.long (-3750763034362895579 : Int64)), .second, .unset, .unset]) rfl k) ?_
    show OwnGo p e below s _ _ _ T19 (mkF m 212 #[.val (.int p1), .val (.int p2), .val (.int p3), .val (.int p4), .val (.int p5), .val (.int nn), .val (.int y0), .val (.int y1), .val (.int y2), .val (.int y3), .val (.ref b16), .val (.long (-3750763034362895579 : Int64)), .second, .unset, .unset] [])
    refine OwnGo.st (fun _ k => X19.ldc2Long hx hown (mvT hZ (hw _ (List.mem_of_getElem? (i := 16) rfl))) (g := (mkF m 212 #[.val (.int p1), .val (.int p2), .val (.int p3), .val (.int p4), .val (.int p5), .val (.int nn), .val (.int y0), .val (.int y1), .val (.int y2), .val (.int y3), .val (.ref b16), .val (.long (-3750763034362895579 : Int64)), .second, .unset, .unset] [])) rfl (hb hby at_212) _ k) ?_
    show OwnGo p e below s _ _ _ T19 (mkF m 215 #[.val (.int p1), .val (.int p2), .val (.int p3), .val (.int p4), .val (.int p5), .val (.int nn), .val (.int y0), .val (.int y1), .val (.int y2), .val (.int y3), .val (.ref b16), .val (.long (-3750763034362895579 : Int64)), .second, .unset, .unset] [(.long (1099511628211 : Int64))])
    obtain ⟨_, _, ⟨T20, L20, k20, n20⟩, -, X20, ⟨Lc20, hQ20, l20, y20, z20⟩, st20⟩ := Jvm.LawKit.callS X19 hx (y := (⟨"com/example/utsatt/utsatt/KeyHashesOfPinLaw", "inverse", "(J)J"⟩ : MethodName)) hown (mvT hZ (hw _ (List.mem_of_getElem? (i := 10) rfl))) (mvT hZ (hw _ (List.mem_of_getElem? (i := 11) rfl))) (mvT hZ (hw _ (List.mem_of_getElem? (i := 12) rfl))) (mvT hZ (hw _ (List.mem_of_getElem? (i := 13) rfl))) (by decide) (backOf (W := 0) (rm2 l Z a0 hw [] (1099511628211 : Int64) h16 n0 Z_ ) hZ (hw _ (List.mem_of_getElem? (i := 13) rfl)) (hw _ (List.mem_of_getElem? (i := 12) rfl)) (by decide) (by decide)) (g := (mkF m 215 #[.val (.int p1), .val (.int p2), .val (.int p3), .val (.int p4), .val (.int p5), .val (.int nn), .val (.int y0), .val (.int y1), .val (.int y2), .val (.int y3), .val (.ref b16), .val (.long (-3750763034362895579 : Int64)), .second, .unset, .unset] [(.long (1099511628211 : Int64))])) rfl (by rw [hml]; rfl) (argsL := [(.long (1099511628211 : Int64))]) (rest := []) (lenOf pd_1 rfl) rfl (by show 2 * 0 + _ ≤ _; exact Nat.le_of_eq rfl) (hb hby at_215) (fun _ _ => ⟨rfl, e19, (by decide : 1 + 0 ≤ _), (by decide : 0 + 0 ≤ _)⟩)
    dsimp only [Pt.U, Pt.locs, Pt.cells, Pt.slots] at X20 l20 y20 z20 st20 hQ20
    subst l20 y20 z20
    obtain ⟨rfl, N20q, e20⟩ := hQ20
    have N20 := Fr.app N19 N20q
    refine OwnGo.st st20 ?_
    show OwnGo p e below s _ _ _ T20 (mkF m 218 #[.val (.int p1), .val (.int p2), .val (.int p3), .val (.int p4), .val (.int p5), .val (.int nn), .val (.int y0), .val (.int y1), .val (.int y2), .val (.int y3), .val (.ref b16), .val (.long (-3750763034362895579 : Int64)), .second, .unset, .unset] [(.long (own_inv (1099511628211 : Int64)))])
    refine OwnGo.st (fun _ k => XS.lstore X20.here hx rfl (hb hby at_218) rfl (l' := #[.val (.int p1), .val (.int p2), .val (.int p3), .val (.int p4), .val (.int p5), .val (.int nn), .val (.int y0), .val (.int y1), .val (.int y2), .val (.int y3), .val (.ref b16), .val (.long (-3750763034362895579 : Int64)), .second, .val (.long (own_inv (1099511628211 : Int64))), .second]) rfl k) ?_
    show OwnGo p e below s _ _ _ T20 (mkF m 220 #[.val (.int p1), .val (.int p2), .val (.int p3), .val (.int p4), .val (.int p5), .val (.int nn), .val (.int y0), .val (.int y1), .val (.int y2), .val (.int y3), .val (.ref b16), .val (.long (-3750763034362895579 : Int64)), .second, .val (.long (own_inv (1099511628211 : Int64))), .second] [])
    refine OwnGo.st (fun _ k => XS.iload X20.here hx rfl (hb hby at_220) rfl  k) ?_
    show OwnGo p e below s _ _ _ T20 (mkF m 222 #[.val (.int p1), .val (.int p2), .val (.int p3), .val (.int p4), .val (.int p5), .val (.int nn), .val (.int y0), .val (.int y1), .val (.int y2), .val (.int y3), .val (.ref b16), .val (.long (-3750763034362895579 : Int64)), .second, .val (.long (own_inv (1099511628211 : Int64))), .second] [(.int nn)])
    refine OwnGo.st (fun _ k => XS.iconst X20.here hx rfl (hb hby at_222) k) ?_
    show OwnGo p e below s _ _ _ T20 (mkF m 223 #[.val (.int p1), .val (.int p2), .val (.int p3), .val (.int p4), .val (.int p5), .val (.int nn), .val (.int y0), .val (.int y1), .val (.int y2), .val (.int y3), .val (.ref b16), .val (.long (-3750763034362895579 : Int64)), .second, .val (.long (own_inv (1099511628211 : Int64))), .second] [(.int (4 : Int32)), (.int nn)])
    refine OwnGo.st (fun _ k => XS.icmpYes X20.here hx rfl (pc0 := 223) (pc' := 241) rfl (hb hby at_223) rfl (tlt ((by rw [hk0]; decide) : nn < (4 : Int32))).1 (by decide) (by decide) k) ?_
    show OwnGo p e below s _ _ _ T20 (mkF m 241 #[.val (.int p1), .val (.int p2), .val (.int p3), .val (.int p4), .val (.int p5), .val (.int nn), .val (.int y0), .val (.int y1), .val (.int y2), .val (.int y3), .val (.ref b16), .val (.long (-3750763034362895579 : Int64)), .second, .val (.long (own_inv (1099511628211 : Int64))), .second] [])
    refine OwnGo.st (fun _ k => XS.iload X20.here hx rfl (hb hby at_241) rfl  k) ?_
    show OwnGo p e below s _ _ _ T20 (mkF m 243 #[.val (.int p1), .val (.int p2), .val (.int p3), .val (.int p4), .val (.int p5), .val (.int nn), .val (.int y0), .val (.int y1), .val (.int y2), .val (.int y3), .val (.ref b16), .val (.long (-3750763034362895579 : Int64)), .second, .val (.long (own_inv (1099511628211 : Int64))), .second] [(.int nn)])
    refine OwnGo.st (fun _ k => XS.iconst X20.here hx rfl (hb hby at_243) k) ?_
    show OwnGo p e below s _ _ _ T20 (mkF m 244 #[.val (.int p1), .val (.int p2), .val (.int p3), .val (.int p4), .val (.int p5), .val (.int nn), .val (.int y0), .val (.int y1), .val (.int y2), .val (.int y3), .val (.ref b16), .val (.long (-3750763034362895579 : Int64)), .second, .val (.long (own_inv (1099511628211 : Int64))), .second] [(.int (3 : Int32)), (.int nn)])
    refine OwnGo.st (fun _ k => XS.icmpYes X20.here hx rfl (pc0 := 244) (pc' := 262) rfl (hb hby at_244) rfl (tlt ((by rw [hk0]; decide) : nn < (3 : Int32))).1 (by decide) (by decide) k) ?_
    show OwnGo p e below s _ _ _ T20 (mkF m 262 #[.val (.int p1), .val (.int p2), .val (.int p3), .val (.int p4), .val (.int p5), .val (.int nn), .val (.int y0), .val (.int y1), .val (.int y2), .val (.int y3), .val (.ref b16), .val (.long (-3750763034362895579 : Int64)), .second, .val (.long (own_inv (1099511628211 : Int64))), .second] [])
    refine OwnGo.st (fun _ k => XS.iload X20.here hx rfl (hb hby at_262) rfl  k) ?_
    show OwnGo p e below s _ _ _ T20 (mkF m 264 #[.val (.int p1), .val (.int p2), .val (.int p3), .val (.int p4), .val (.int p5), .val (.int nn), .val (.int y0), .val (.int y1), .val (.int y2), .val (.int y3), .val (.ref b16), .val (.long (-3750763034362895579 : Int64)), .second, .val (.long (own_inv (1099511628211 : Int64))), .second] [(.int nn)])
    refine OwnGo.st (fun _ k => XS.iconst X20.here hx rfl (hb hby at_264) k) ?_
    show OwnGo p e below s _ _ _ T20 (mkF m 265 #[.val (.int p1), .val (.int p2), .val (.int p3), .val (.int p4), .val (.int p5), .val (.int nn), .val (.int y0), .val (.int y1), .val (.int y2), .val (.int y3), .val (.ref b16), .val (.long (-3750763034362895579 : Int64)), .second, .val (.long (own_inv (1099511628211 : Int64))), .second] [(.int (2 : Int32)), (.int nn)])
    refine OwnGo.st (fun _ k => XS.icmpYes X20.here hx rfl (pc0 := 265) (pc' := 283) rfl (hb hby at_265) rfl (tlt ((by rw [hk0]; decide) : nn < (2 : Int32))).1 (by decide) (by decide) k) ?_
    show OwnGo p e below s _ _ _ T20 (mkF m 283 #[.val (.int p1), .val (.int p2), .val (.int p3), .val (.int p4), .val (.int p5), .val (.int nn), .val (.int y0), .val (.int y1), .val (.int y2), .val (.int y3), .val (.ref b16), .val (.long (-3750763034362895579 : Int64)), .second, .val (.long (own_inv (1099511628211 : Int64))), .second] [])
    refine OwnGo.st (fun _ k => XS.iload X20.here hx rfl (hb hby at_283) rfl  k) ?_
    show OwnGo p e below s _ _ _ T20 (mkF m 285 #[.val (.int p1), .val (.int p2), .val (.int p3), .val (.int p4), .val (.int p5), .val (.int nn), .val (.int y0), .val (.int y1), .val (.int y2), .val (.int y3), .val (.ref b16), .val (.long (-3750763034362895579 : Int64)), .second, .val (.long (own_inv (1099511628211 : Int64))), .second] [(.int nn)])
    refine OwnGo.st (fun _ k => XS.iconst X20.here hx rfl (hb hby at_285) k) ?_
    show OwnGo p e below s _ _ _ T20 (mkF m 286 #[.val (.int p1), .val (.int p2), .val (.int p3), .val (.int p4), .val (.int p5), .val (.int nn), .val (.int y0), .val (.int y1), .val (.int y2), .val (.int y3), .val (.ref b16), .val (.long (-3750763034362895579 : Int64)), .second, .val (.long (own_inv (1099511628211 : Int64))), .second] [(.int (1 : Int32)), (.int nn)])
    refine OwnGo.st (fun _ k => XS.icmpYes X20.here hx rfl (pc0 := 286) (pc' := 304) rfl (hb hby at_286) rfl (tlt ((by rw [hk0]; decide) : nn < (1 : Int32))).1 (by decide) (by decide) k) ?_
    show OwnGo p e below s _ _ _ T20 (mkF m 304 #[.val (.int p1), .val (.int p2), .val (.int p3), .val (.int p4), .val (.int p5), .val (.int nn), .val (.int y0), .val (.int y1), .val (.int y2), .val (.int y3), .val (.ref b16), .val (.long (-3750763034362895579 : Int64)), .second, .val (.long (own_inv (1099511628211 : Int64))), .second] [])
    refine OwnGo.st (fun _ k => XS.lload X20.here hx rfl (hb hby at_304) rfl  k) ?_
    show OwnGo p e below s _ _ _ T20 (mkF m 306 #[.val (.int p1), .val (.int p2), .val (.int p3), .val (.int p4), .val (.int p5), .val (.int nn), .val (.int y0), .val (.int y1), .val (.int y2), .val (.int y3), .val (.ref b16), .val (.long (-3750763034362895579 : Int64)), .second, .val (.long (own_inv (1099511628211 : Int64))), .second] [(.long (-3750763034362895579 : Int64))])
    refine OwnGo.st (fun _ k => X20.ldc2Long hx hown (mvT hZ (hw _ (List.mem_of_getElem? (i := 17) rfl))) (g := (mkF m 306 #[.val (.int p1), .val (.int p2), .val (.int p3), .val (.int p4), .val (.int p5), .val (.int nn), .val (.int y0), .val (.int y1), .val (.int y2), .val (.int y3), .val (.ref b16), .val (.long (-3750763034362895579 : Int64)), .second, .val (.long (own_inv (1099511628211 : Int64))), .second] [(.long (-3750763034362895579 : Int64))])) rfl (hb hby at_306) _ k) ?_
    show OwnGo p e below s _ _ _ T20 (mkF m 309 #[.val (.int p1), .val (.int p2), .val (.int p3), .val (.int p4), .val (.int p5), .val (.int nn), .val (.int y0), .val (.int y1), .val (.int y2), .val (.int y3), .val (.ref b16), .val (.long (-3750763034362895579 : Int64)), .second, .val (.long (own_inv (1099511628211 : Int64))), .second] [(.long (-3750763034362895579 : Int64)), (.long (-3750763034362895579 : Int64))])
    refine OwnGo.st (fun _ k => XS.lcmp X20.here hx rfl (hb hby at_309) rfl k) ?_
    show OwnGo p e below s _ _ _ T20 (mkF m 310 #[.val (.int p1), .val (.int p2), .val (.int p3), .val (.int p4), .val (.int p5), .val (.int nn), .val (.int y0), .val (.int y1), .val (.int y2), .val (.int y3), .val (.ref b16), .val (.long (-3750763034362895579 : Int64)), .second, .val (.long (own_inv (1099511628211 : Int64))), .second] [(.int (lcmpW (-3750763034362895579 : Int64) (-3750763034362895579 : Int64)))])
    refine OwnGo.st (fun _ k => XS.ifNo X20.here hx rfl (hb hby at_310) rfl ((if0 _ _).trans (teq ((lw_eq _ _).2 rfl : (lcmpW (-3750763034362895579 : Int64) (-3750763034362895579 : Int64)) = (0 : Int32))).2) k) ?_
    show OwnGo p e below s _ _ _ T20 (mkF m 313 #[.val (.int p1), .val (.int p2), .val (.int p3), .val (.int p4), .val (.int p5), .val (.int nn), .val (.int y0), .val (.int y1), .val (.int y2), .val (.int y3), .val (.ref b16), .val (.long (-3750763034362895579 : Int64)), .second, .val (.long (own_inv (1099511628211 : Int64))), .second] [])
    refine OwnGo.st (fun _ k => XS.iconst X20.here hx rfl (hb hby at_313) k) ?_
    show OwnGo p e below s _ _ _ T20 (mkF m 314 #[.val (.int p1), .val (.int p2), .val (.int p3), .val (.int p4), .val (.int p5), .val (.int nn), .val (.int y0), .val (.int y1), .val (.int y2), .val (.int y3), .val (.ref b16), .val (.long (-3750763034362895579 : Int64)), .second, .val (.long (own_inv (1099511628211 : Int64))), .second] [(.int (1 : Int32))])
    refine OwnGo.st (fun _ k => XS.goto X20.here hx rfl (pc0 := 314) (pc' := 318) rfl (hb hby at_314) (by decide) (by decide) k) ?_
    show OwnGo p e below s _ _ _ T20 (mkF m 318 #[.val (.int p1), .val (.int p2), .val (.int p3), .val (.int p4), .val (.int p5), .val (.int nn), .val (.int y0), .val (.int y1), .val (.int y2), .val (.int y3), .val (.ref b16), .val (.long (-3750763034362895579 : Int64)), .second, .val (.long (own_inv (1099511628211 : Int64))), .second] [(.int (1 : Int32))])
    exact OwnGo.retN X20 hx (t := .boolean) hret hlk (by simp) (hb hby at_318) (by show Q0 Z p1 p2 p3 p4 p5 h0 n0 _ T20.heap _; rw [e20]; exact ⟨rfl, N20⟩) (by decide) (by decide)
  · refine OwnGo.st (fun _ k => XS.ifYes X0.here hx rfl (pc0 := 27) (pc' := 38) rfl (hb hby at_27) rfl ((if0 _ _).trans (feq (hk0 : ¬ (nn = (0 : Int32)))).2) (by decide) (by decide) k) ?_
    show OwnGo p e below s _ _ _ s₁ (mkF m 38 #[.val (.int p1), .val (.int p2), .val (.int p3), .val (.int p4), .val (.int p5), .val (.int nn), .val (.int y0), .val (.int y1), .val (.int y2), .val (.int y3), .unset, .unset, .unset, .unset, .unset] [])
    refine OwnGo.st (fun _ k => XS.iload X0.here hx rfl (hb hby at_38) rfl  k) ?_
    show OwnGo p e below s _ _ _ s₁ (mkF m 40 #[.val (.int p1), .val (.int p2), .val (.int p3), .val (.int p4), .val (.int p5), .val (.int nn), .val (.int y0), .val (.int y1), .val (.int y2), .val (.int y3), .unset, .unset, .unset, .unset, .unset] [(.int nn)])
    refine OwnGo.st (fun _ k => XS.iconst X0.here hx rfl (hb hby at_40) k) ?_
    show OwnGo p e below s _ _ _ s₁ (mkF m 41 #[.val (.int p1), .val (.int p2), .val (.int p3), .val (.int p4), .val (.int p5), .val (.int nn), .val (.int y0), .val (.int y1), .val (.int y2), .val (.int y3), .unset, .unset, .unset, .unset, .unset] [(.int (1 : Int32)), (.int nn)])
    by_cases hk1 : nn = (1 : Int32)
    · refine OwnGo.st (fun _ k => XS.icmpNo X0.here hx rfl (hb hby at_41) rfl (teq (hk1 : nn = (1 : Int32))).2 k) ?_
      show OwnGo p e below s _ _ _ s₁ (mkF m 44 #[.val (.int p1), .val (.int p2), .val (.int p3), .val (.int p4), .val (.int p5), .val (.int nn), .val (.int y0), .val (.int y1), .val (.int y2), .val (.int y3), .unset, .unset, .unset, .unset, .unset] [])
      refine OwnGo.st (fun _ k => XS.iconst X0.here hx rfl (hb hby at_44) k) ?_
      show OwnGo p e below s _ _ _ s₁ (mkF m 45 #[.val (.int p1), .val (.int p2), .val (.int p3), .val (.int p4), .val (.int p5), .val (.int nn), .val (.int y0), .val (.int y1), .val (.int y2), .val (.int y3), .unset, .unset, .unset, .unset, .unset] [(.int (1 : Int32))])
      obtain ⟨T21, h21, k21, X21, e21, E21, A21, Ex21, st21⟩ := newPE X0 hx hZ (hw _ (List.mem_of_getElem? (i := 1) rfl)) e0 (g := (mkF m 45 #[.val (.int p1), .val (.int p2), .val (.int p3), .val (.int p4), .val (.int p5), .val (.int nn), .val (.int y0), .val (.int y1), .val (.int y2), .val (.int y3), .unset, .unset, .unset, .unset, .unset] [(.int (1 : Int32))])) rfl (hb hby at_45) rfl (by decide) (cap := 1) (by decide) (by decide) (by decide) (by decide) (ad := "[B") (by decide)
      obtain ⟨b21, g21⟩ : ∃ z, z = h0.size := ⟨_, rfl⟩
      rw [← g21] at A21 Ex21 st21
      have g_b21 : n0 ≤ b21 := Nat.le_trans Z_ (Nat.le_of_eq g21.symm)
      have Z_ : n0 ≤ h21.size := Nat.le_trans Z_ E21.1
      have V_b21 : Arv Z h21 b21 k21 .byte (1 : Int32) [(.int (0 : Int32))] (.int (0 : Int32)) := (Arv.new A21 (by decide)).pad (pad_rep [] (.int (0 : Int32)) 1)
      have E_b21 := Ex21
      refine OwnGo.st st21 ?_
      show OwnGo p e below s _ _ _ T21 (mkF m 47 #[.val (.int p1), .val (.int p2), .val (.int p3), .val (.int p4), .val (.int p5), .val (.int nn), .val (.int y0), .val (.int y1), .val (.int y2), .val (.int y3), .unset, .unset, .unset, .unset, .unset] [(.ref b21)])
      refine OwnGo.st (fun _ k => XS.dup X21.here hx rfl (hb hby at_47) rfl rfl k) ?_
      show OwnGo p e below s _ _ _ T21 (mkF m 48 #[.val (.int p1), .val (.int p2), .val (.int p3), .val (.int p4), .val (.int p5), .val (.int nn), .val (.int y0), .val (.int y1), .val (.int y2), .val (.int y3), .unset, .unset, .unset, .unset, .unset] [(.ref b21), (.ref b21)])
      refine OwnGo.st (fun _ k => XS.iconst X21.here hx rfl (hb hby at_48) k) ?_
      show OwnGo p e below s _ _ _ T21 (mkF m 49 #[.val (.int p1), .val (.int p2), .val (.int p3), .val (.int p4), .val (.int p5), .val (.int nn), .val (.int y0), .val (.int y1), .val (.int y2), .val (.int y3), .unset, .unset, .unset, .unset, .unset] [(.int (0 : Int32)), (.ref b21), (.ref b21)])
      refine OwnGo.st (fun _ k => XS.iload X21.here hx rfl (hb hby at_49) rfl  k) ?_
      show OwnGo p e below s _ _ _ T21 (mkF m 51 #[.val (.int p1), .val (.int p2), .val (.int p3), .val (.int p4), .val (.int p5), .val (.int nn), .val (.int y0), .val (.int y1), .val (.int y2), .val (.int y3), .unset, .unset, .unset, .unset, .unset] [(.int y0), (.int (0 : Int32)), (.ref b21), (.ref b21)])
      obtain ⟨cl22, Ar22, q22, S22, N22, H22, G22⟩ := id V_b21
      have hin22 : ¬ ((0 : Int32) < 0 ∨ cl22.slots.size ≤ ((0 : Int32)).toNatClampNeg) := inb_of S22 ⟨by decide, by decide⟩
      obtain ⟨T22, h22, X22, e22, W22, st22⟩ := stB X21 hx hZ e21 Ar22 (j := (0 : Int32)) hin22 (g := (mkF m 51 #[.val (.int p1), .val (.int p2), .val (.int p3), .val (.int p4), .val (.int p5), .val (.int nn), .val (.int y0), .val (.int y1), .val (.int y2), .val (.int y3), .unset, .unset, .unset, .unset, .unset] [(.int y0), (.int (0 : Int32)), (.ref b21), (.ref b21)])) rfl rfl (hb hby at_51)
      have V_b21 : Arv Z h22 b21 k21 .byte (1 : Int32) [(.int (nar .byte y0))] (.int (0 : Int32)) := Arv.set Ar22 q22 S22 N22 H22 G22 (fits_nar_byte _) W22 0 rfl (Nat.le_of_ble_eq_true rfl)
      rw [show nar .byte y0 = y0 from (by rw [hy0]; exact own_nb _)] at V_b21
      have E_b21 := E_b21.wr W22
      have N22 := Fr.snoc X22 N0 g_b21
      have Z_ : n0 ≤ h22.size := by rw [W22.size]; exact Z_
      refine OwnGo.st st22 ?_
      show OwnGo p e below s _ _ _ T22 (mkF m 52 #[.val (.int p1), .val (.int p2), .val (.int p3), .val (.int p4), .val (.int p5), .val (.int nn), .val (.int y0), .val (.int y1), .val (.int y2), .val (.int y3), .unset, .unset, .unset, .unset, .unset] [(.ref b21)])
      refine OwnGo.st (fun _ k => XS.astore X22.here hx rfl (hb hby at_52) rfl rfl (l' := #[.val (.int p1), .val (.int p2), .val (.int p3), .val (.int p4), .val (.int p5), .val (.int nn), .val (.int y0), .val (.int y1), .val (.int y2), .val (.int y3), .val (.ref b21), .unset, .unset, .unset, .unset]) rfl k) ?_
      show OwnGo p e below s _ _ _ T22 (mkF m 54 #[.val (.int p1), .val (.int p2), .val (.int p3), .val (.int p4), .val (.int p5), .val (.int nn), .val (.int y0), .val (.int y1), .val (.int y2), .val (.int y3), .val (.ref b21), .unset, .unset, .unset, .unset] [])
      refine OwnGo.st (fun _ k => XS.goto X22.here hx rfl (pc0 := 54) (pc' := 135) rfl (hb hby at_54) (by decide) (by decide) k) ?_
      show OwnGo p e below s _ _ _ T22 (mkF m 135 #[.val (.int p1), .val (.int p2), .val (.int p3), .val (.int p4), .val (.int p5), .val (.int nn), .val (.int y0), .val (.int y1), .val (.int y2), .val (.int y3), .val (.ref b21), .unset, .unset, .unset, .unset] [])
      refine OwnGo.st (fun _ k => XS.aload X22.here hx rfl (hb hby at_135) rfl rfl  k) ?_
      show OwnGo p e below s _ _ _ T22 (mkF m 137 #[.val (.int p1), .val (.int p2), .val (.int p3), .val (.int p4), .val (.int p5), .val (.int nn), .val (.int y0), .val (.int y1), .val (.int y2), .val (.int y3), .val (.ref b21), .unset, .unset, .unset, .unset] [(.ref b21)])
      obtain ⟨_, _, ⟨T23, L23, k23, n23⟩, -, X23, ⟨Lc23, hQ23, l23, y23, z23⟩, st23⟩ := Jvm.LawKit.callS X22 hx (y := (⟨"com/example/utsatt/utsatt/KeyHashes", "of", "([B)J"⟩ : MethodName)) hown (mvT hZ (hw _ (List.mem_of_getElem? (i := 2) rfl))) (mvT hZ (hw _ (List.mem_of_getElem? (i := 3) rfl))) (mvT hZ (hw _ (List.mem_of_getElem? (i := 4) rfl))) (mvT hZ (hw _ (List.mem_of_getElem? (i := 5) rfl))) (by decide) (backOf (W := 0) (rmof1 l Z a0 hw [] b21 k21 y0 h22 n0 Z_ V_b21) hZ (hw _ (List.mem_of_getElem? (i := 5) rfl)) (hw _ (List.mem_of_getElem? (i := 4) rfl)) (by decide) (by decide)) (g := (mkF m 137 #[.val (.int p1), .val (.int p2), .val (.int p3), .val (.int p4), .val (.int p5), .val (.int nn), .val (.int y0), .val (.int y1), .val (.int y2), .val (.int y3), .val (.ref b21), .unset, .unset, .unset, .unset] [(.ref b21)])) rfl (by rw [hml]; rfl) (argsL := [(.ref b21)]) (rest := []) (lenOf pd_0 rfl) rfl (by show 2 * 0 + _ ≤ _; exact Nat.le_of_eq rfl) (hb hby at_137) (fun _ _ => ⟨rfl, e22, (by decide : 1 + 0 ≤ _), (by decide : 1 + 0 ≤ _)⟩)
      dsimp only [Pt.U, Pt.locs, Pt.cells, Pt.slots] at X23 l23 y23 z23 st23 hQ23
      subst l23 y23 z23
      obtain ⟨rfl, N23q, e23⟩ := hQ23
      have N23 := Fr.app N22 N23q
      refine OwnGo.st st23 ?_
      show OwnGo p e below s _ _ _ T23 (mkF m 140 #[.val (.int p1), .val (.int p2), .val (.int p3), .val (.int p4), .val (.int p5), .val (.int nn), .val (.int y0), .val (.int y1), .val (.int y2), .val (.int y3), .val (.ref b21), .unset, .unset, .unset, .unset] [(.long (own_fin (own_step (-3750763034362895579 : Int64) y0)))])
      obtain ⟨g1, hg1⟩ : ∃ z : Int64, z = own_step (-3750763034362895579 : Int64) y0 := ⟨_, rfl⟩
      rw [← hg1]
      show OwnGo p e below s _ _ _ T23 (mkF m 140 #[.val (.int p1), .val (.int p2), .val (.int p3), .val (.int p4), .val (.int p5), .val (.int nn), .val (.int y0), .val (.int y1), .val (.int y2), .val (.int y3), .val (.ref b21), .unset, .unset, .unset, .unset] [(.long (own_fin g1))])
      refine OwnGo.st (fun _ k => XS.lstore X23.here hx rfl (hb hby at_140) rfl (l' := #[.val (.int p1), .val (.int p2), .val (.int p3), .val (.int p4), .val (.int p5), .val (.int nn), .val (.int y0), .val (.int y1), .val (.int y2), .val (.int y3), .val (.ref b21), .val (.long (own_fin g1)), .second, .unset, .unset]) rfl k) ?_
      show OwnGo p e below s _ _ _ T23 (mkF m 142 #[.val (.int p1), .val (.int p2), .val (.int p3), .val (.int p4), .val (.int p5), .val (.int nn), .val (.int y0), .val (.int y1), .val (.int y2), .val (.int y3), .val (.ref b21), .val (.long (own_fin g1)), .second, .unset, .unset] [])
      refine OwnGo.st (fun _ k => XS.lload X23.here hx rfl (hb hby at_142) rfl  k) ?_
      show OwnGo p e below s _ _ _ T23 (mkF m 144 #[.val (.int p1), .val (.int p2), .val (.int p3), .val (.int p4), .val (.int p5), .val (.int nn), .val (.int y0), .val (.int y1), .val (.int y2), .val (.int y3), .val (.ref b21), .val (.long (own_fin g1)), .second, .unset, .unset] [(.long (own_fin g1))])
      refine OwnGo.st (fun _ k => XS.lload X23.here hx rfl (hb hby at_144) rfl  k) ?_
      show OwnGo p e below s _ _ _ T23 (mkF m 146 #[.val (.int p1), .val (.int p2), .val (.int p3), .val (.int p4), .val (.int p5), .val (.int nn), .val (.int y0), .val (.int y1), .val (.int y2), .val (.int y3), .val (.ref b21), .val (.long (own_fin g1)), .second, .unset, .unset] [(.long (own_fin g1)), (.long (own_fin g1))])
      refine OwnGo.st (fun _ k => XS.bipush X23.here hx rfl (hb hby at_146) k) ?_
      show OwnGo p e below s _ _ _ T23 (mkF m 148 #[.val (.int p1), .val (.int p2), .val (.int p3), .val (.int p4), .val (.int p5), .val (.int nn), .val (.int y0), .val (.int y1), .val (.int y2), .val (.int y3), .val (.ref b21), .val (.long (own_fin g1)), .second, .unset, .unset] [(.int (31 : Int32)), (.long (own_fin g1)), (.long (own_fin g1))])
      refine OwnGo.st (fun _ k => XS.lushr X23.here hx rfl (hb hby at_148) rfl k) ?_
      show OwnGo p e below s _ _ _ T23 (mkF m 149 #[.val (.int p1), .val (.int p2), .val (.int p3), .val (.int p4), .val (.int p5), .val (.int nn), .val (.int y0), .val (.int y1), .val (.int y2), .val (.int y3), .val (.ref b21), .val (.long (own_fin g1)), .second, .unset, .unset] [(.long (((own_fin g1).toUInt64 >>> ((31 : Int32) &&& 0x3f).toInt64.toUInt64).toInt64)), (.long (own_fin g1))])
      refine OwnGo.st (fun _ k => XS.lxor X23.here hx rfl (hb hby at_149) rfl k) ?_
      show OwnGo p e below s _ _ _ T23 (mkF m 150 #[.val (.int p1), .val (.int p2), .val (.int p3), .val (.int p4), .val (.int p5), .val (.int nn), .val (.int y0), .val (.int y1), .val (.int y2), .val (.int y3), .val (.ref b21), .val (.long (own_fin g1)), .second, .unset, .unset] [(.long ((own_fin g1) ^^^ (((own_fin g1).toUInt64 >>> ((31 : Int32) &&& 0x3f).toInt64.toUInt64).toInt64)))])
      refine OwnGo.st (fun _ k => XS.lload X23.here hx rfl (hb hby at_150) rfl  k) ?_
      show OwnGo p e below s _ _ _ T23 (mkF m 152 #[.val (.int p1), .val (.int p2), .val (.int p3), .val (.int p4), .val (.int p5), .val (.int nn), .val (.int y0), .val (.int y1), .val (.int y2), .val (.int y3), .val (.ref b21), .val (.long (own_fin g1)), .second, .unset, .unset] [(.long (own_fin g1)), (.long ((own_fin g1) ^^^ (((own_fin g1).toUInt64 >>> ((31 : Int32) &&& 0x3f).toInt64.toUInt64).toInt64)))])
      refine OwnGo.st (fun _ k => XS.bipush X23.here hx rfl (hb hby at_152) k) ?_
      show OwnGo p e below s _ _ _ T23 (mkF m 154 #[.val (.int p1), .val (.int p2), .val (.int p3), .val (.int p4), .val (.int p5), .val (.int nn), .val (.int y0), .val (.int y1), .val (.int y2), .val (.int y3), .val (.ref b21), .val (.long (own_fin g1)), .second, .unset, .unset] [(.int (62 : Int32)), (.long (own_fin g1)), (.long ((own_fin g1) ^^^ (((own_fin g1).toUInt64 >>> ((31 : Int32) &&& 0x3f).toInt64.toUInt64).toInt64)))])
      refine OwnGo.st (fun _ k => XS.lushr X23.here hx rfl (hb hby at_154) rfl k) ?_
      show OwnGo p e below s _ _ _ T23 (mkF m 155 #[.val (.int p1), .val (.int p2), .val (.int p3), .val (.int p4), .val (.int p5), .val (.int nn), .val (.int y0), .val (.int y1), .val (.int y2), .val (.int y3), .val (.ref b21), .val (.long (own_fin g1)), .second, .unset, .unset] [(.long (((own_fin g1).toUInt64 >>> ((62 : Int32) &&& 0x3f).toInt64.toUInt64).toInt64)), (.long ((own_fin g1) ^^^ (((own_fin g1).toUInt64 >>> ((31 : Int32) &&& 0x3f).toInt64.toUInt64).toInt64)))])
      refine OwnGo.st (fun _ k => XS.lxor X23.here hx rfl (hb hby at_155) rfl k) ?_
      show OwnGo p e below s _ _ _ T23 (mkF m 156 #[.val (.int p1), .val (.int p2), .val (.int p3), .val (.int p4), .val (.int p5), .val (.int nn), .val (.int y0), .val (.int y1), .val (.int y2), .val (.int y3), .val (.ref b21), .val (.long (own_fin g1)), .second, .unset, .unset] [(.long (((own_fin g1) ^^^ (((own_fin g1).toUInt64 >>> ((31 : Int32) &&& 0x3f).toInt64.toUInt64).toInt64)) ^^^ (((own_fin g1).toUInt64 >>> ((62 : Int32) &&& 0x3f).toInt64.toUInt64).toInt64)))])
      show OwnGo p e below s _ _ _ T23 (mkF m 156 #[.val (.int p1), .val (.int p2), .val (.int p3), .val (.int p4), .val (.int p5), .val (.int nn), .val (.int y0), .val (.int y1), .val (.int y2), .val (.int y3), .val (.ref b21), .val (.long (own_fin g1)), .second, .unset, .unset] [(.long (own_un (own_fin g1) 31 62))])
      rw [show own_un (own_fin g1) 31 62 = own_f2 g1 from own_u31 _]
      show OwnGo p e below s _ _ _ T23 (mkF m 156 #[.val (.int p1), .val (.int p2), .val (.int p3), .val (.int p4), .val (.int p5), .val (.int nn), .val (.int y0), .val (.int y1), .val (.int y2), .val (.int y3), .val (.ref b21), .val (.long (own_fin g1)), .second, .unset, .unset] [(.long (own_f2 g1))])
      refine OwnGo.st (fun _ k => XS.lstore X23.here hx rfl (hb hby at_156) rfl (l' := #[.val (.int p1), .val (.int p2), .val (.int p3), .val (.int p4), .val (.int p5), .val (.int nn), .val (.int y0), .val (.int y1), .val (.int y2), .val (.int y3), .val (.ref b21), .val (.long (own_f2 g1)), .second, .unset, .unset]) rfl k) ?_
      show OwnGo p e below s _ _ _ T23 (mkF m 158 #[.val (.int p1), .val (.int p2), .val (.int p3), .val (.int p4), .val (.int p5), .val (.int nn), .val (.int y0), .val (.int y1), .val (.int y2), .val (.int y3), .val (.ref b21), .val (.long (own_f2 g1)), .second, .unset, .unset] [])
      refine OwnGo.st (fun _ k => XS.lload X23.here hx rfl (hb hby at_158) rfl  k) ?_
      show OwnGo p e below s _ _ _ T23 (mkF m 160 #[.val (.int p1), .val (.int p2), .val (.int p3), .val (.int p4), .val (.int p5), .val (.int nn), .val (.int y0), .val (.int y1), .val (.int y2), .val (.int y3), .val (.ref b21), .val (.long (own_f2 g1)), .second, .unset, .unset] [(.long (own_f2 g1))])
      refine OwnGo.st (fun _ k => X23.ldc2Long hx hown (mvT hZ (hw _ (List.mem_of_getElem? (i := 9) rfl))) (g := (mkF m 160 #[.val (.int p1), .val (.int p2), .val (.int p3), .val (.int p4), .val (.int p5), .val (.int nn), .val (.int y0), .val (.int y1), .val (.int y2), .val (.int y3), .val (.ref b21), .val (.long (own_f2 g1)), .second, .unset, .unset] [(.long (own_f2 g1))])) rfl (hb hby at_160) _ k) ?_
      show OwnGo p e below s _ _ _ T23 (mkF m 163 #[.val (.int p1), .val (.int p2), .val (.int p3), .val (.int p4), .val (.int p5), .val (.int nn), .val (.int y0), .val (.int y1), .val (.int y2), .val (.int y3), .val (.ref b21), .val (.long (own_f2 g1)), .second, .unset, .unset] [(.long (-7723592293110705685 : Int64)), (.long (own_f2 g1))])
      obtain ⟨_, _, ⟨T24, L24, k24, n24⟩, -, X24, ⟨Lc24, hQ24, l24, y24, z24⟩, st24⟩ := Jvm.LawKit.callS X23 hx (y := (⟨"com/example/utsatt/utsatt/KeyHashesOfPinLaw", "inverse", "(J)J"⟩ : MethodName)) hown (mvT hZ (hw _ (List.mem_of_getElem? (i := 10) rfl))) (mvT hZ (hw _ (List.mem_of_getElem? (i := 11) rfl))) (mvT hZ (hw _ (List.mem_of_getElem? (i := 12) rfl))) (mvT hZ (hw _ (List.mem_of_getElem? (i := 13) rfl))) (by decide) (backOf (W := 2) (rm2 l Z a0 hw [] (-7723592293110705685 : Int64) h22 n0 Z_ ) hZ (hw _ (List.mem_of_getElem? (i := 13) rfl)) (hw _ (List.mem_of_getElem? (i := 12) rfl)) (by decide) (by decide)) (g := (mkF m 163 #[.val (.int p1), .val (.int p2), .val (.int p3), .val (.int p4), .val (.int p5), .val (.int nn), .val (.int y0), .val (.int y1), .val (.int y2), .val (.int y3), .val (.ref b21), .val (.long (own_f2 g1)), .second, .unset, .unset] [(.long (-7723592293110705685 : Int64)), (.long (own_f2 g1))])) rfl (by rw [hml]; rfl) (argsL := [(.long (-7723592293110705685 : Int64))]) (rest := [(.long (own_f2 g1))]) (lenOf pd_1 rfl) rfl (by show 2 * 0 + _ ≤ _; exact Nat.le_of_eq rfl) (hb hby at_163) (fun _ _ => ⟨rfl, e23, (by decide : 1 + 0 ≤ _), (by decide : 1 + 0 ≤ _)⟩)
      dsimp only [Pt.U, Pt.locs, Pt.cells, Pt.slots] at X24 l24 y24 z24 st24 hQ24
      subst l24 y24 z24
      obtain ⟨rfl, N24q, e24⟩ := hQ24
      have N24 := Fr.app N23 N24q
      refine OwnGo.st st24 ?_
      show OwnGo p e below s _ _ _ T24 (mkF m 166 #[.val (.int p1), .val (.int p2), .val (.int p3), .val (.int p4), .val (.int p5), .val (.int nn), .val (.int y0), .val (.int y1), .val (.int y2), .val (.int y3), .val (.ref b21), .val (.long (own_f2 g1)), .second, .unset, .unset] [(.long (own_inv (-7723592293110705685 : Int64))), (.long (own_f2 g1))])
      refine OwnGo.st (fun _ k => XS.lmul X24.here hx rfl (hb hby at_166) rfl k) ?_
      show OwnGo p e below s _ _ _ T24 (mkF m 167 #[.val (.int p1), .val (.int p2), .val (.int p3), .val (.int p4), .val (.int p5), .val (.int nn), .val (.int y0), .val (.int y1), .val (.int y2), .val (.int y3), .val (.ref b21), .val (.long (own_f2 g1)), .second, .unset, .unset] [(.long ((own_f2 g1) * (own_inv (-7723592293110705685 : Int64))))])
      rw [show (own_f2 g1 * own_inv (-7723592293110705685 : Int64)) = own_xs (own_f1 g1) 27 from own_k2 _]
      show OwnGo p e below s _ _ _ T24 (mkF m 167 #[.val (.int p1), .val (.int p2), .val (.int p3), .val (.int p4), .val (.int p5), .val (.int nn), .val (.int y0), .val (.int y1), .val (.int y2), .val (.int y3), .val (.ref b21), .val (.long (own_f2 g1)), .second, .unset, .unset] [(.long (own_xs (own_f1 g1) 27))])
      refine OwnGo.st (fun _ k => XS.lstore X24.here hx rfl (hb hby at_167) rfl (l' := #[.val (.int p1), .val (.int p2), .val (.int p3), .val (.int p4), .val (.int p5), .val (.int nn), .val (.int y0), .val (.int y1), .val (.int y2), .val (.int y3), .val (.ref b21), .val (.long (own_xs (own_f1 g1) 27)), .second, .unset, .unset]) rfl k) ?_
      show OwnGo p e below s _ _ _ T24 (mkF m 169 #[.val (.int p1), .val (.int p2), .val (.int p3), .val (.int p4), .val (.int p5), .val (.int nn), .val (.int y0), .val (.int y1), .val (.int y2), .val (.int y3), .val (.ref b21), .val (.long (own_xs (own_f1 g1) 27)), .second, .unset, .unset] [])
      refine OwnGo.st (fun _ k => XS.lload X24.here hx rfl (hb hby at_169) rfl  k) ?_
      show OwnGo p e below s _ _ _ T24 (mkF m 171 #[.val (.int p1), .val (.int p2), .val (.int p3), .val (.int p4), .val (.int p5), .val (.int nn), .val (.int y0), .val (.int y1), .val (.int y2), .val (.int y3), .val (.ref b21), .val (.long (own_xs (own_f1 g1) 27)), .second, .unset, .unset] [(.long (own_xs (own_f1 g1) 27))])
      refine OwnGo.st (fun _ k => XS.lload X24.here hx rfl (hb hby at_171) rfl  k) ?_
      show OwnGo p e below s _ _ _ T24 (mkF m 173 #[.val (.int p1), .val (.int p2), .val (.int p3), .val (.int p4), .val (.int p5), .val (.int nn), .val (.int y0), .val (.int y1), .val (.int y2), .val (.int y3), .val (.ref b21), .val (.long (own_xs (own_f1 g1) 27)), .second, .unset, .unset] [(.long (own_xs (own_f1 g1) 27)), (.long (own_xs (own_f1 g1) 27))])
      refine OwnGo.st (fun _ k => XS.bipush X24.here hx rfl (hb hby at_173) k) ?_
      show OwnGo p e below s _ _ _ T24 (mkF m 175 #[.val (.int p1), .val (.int p2), .val (.int p3), .val (.int p4), .val (.int p5), .val (.int nn), .val (.int y0), .val (.int y1), .val (.int y2), .val (.int y3), .val (.ref b21), .val (.long (own_xs (own_f1 g1) 27)), .second, .unset, .unset] [(.int (27 : Int32)), (.long (own_xs (own_f1 g1) 27)), (.long (own_xs (own_f1 g1) 27))])
      refine OwnGo.st (fun _ k => XS.lushr X24.here hx rfl (hb hby at_175) rfl k) ?_
      show OwnGo p e below s _ _ _ T24 (mkF m 176 #[.val (.int p1), .val (.int p2), .val (.int p3), .val (.int p4), .val (.int p5), .val (.int nn), .val (.int y0), .val (.int y1), .val (.int y2), .val (.int y3), .val (.ref b21), .val (.long (own_xs (own_f1 g1) 27)), .second, .unset, .unset] [(.long (((own_xs (own_f1 g1) 27).toUInt64 >>> ((27 : Int32) &&& 0x3f).toInt64.toUInt64).toInt64)), (.long (own_xs (own_f1 g1) 27))])
      refine OwnGo.st (fun _ k => XS.lxor X24.here hx rfl (hb hby at_176) rfl k) ?_
      show OwnGo p e below s _ _ _ T24 (mkF m 177 #[.val (.int p1), .val (.int p2), .val (.int p3), .val (.int p4), .val (.int p5), .val (.int nn), .val (.int y0), .val (.int y1), .val (.int y2), .val (.int y3), .val (.ref b21), .val (.long (own_xs (own_f1 g1) 27)), .second, .unset, .unset] [(.long ((own_xs (own_f1 g1) 27) ^^^ (((own_xs (own_f1 g1) 27).toUInt64 >>> ((27 : Int32) &&& 0x3f).toInt64.toUInt64).toInt64)))])
      refine OwnGo.st (fun _ k => XS.lload X24.here hx rfl (hb hby at_177) rfl  k) ?_
      show OwnGo p e below s _ _ _ T24 (mkF m 179 #[.val (.int p1), .val (.int p2), .val (.int p3), .val (.int p4), .val (.int p5), .val (.int nn), .val (.int y0), .val (.int y1), .val (.int y2), .val (.int y3), .val (.ref b21), .val (.long (own_xs (own_f1 g1) 27)), .second, .unset, .unset] [(.long (own_xs (own_f1 g1) 27)), (.long ((own_xs (own_f1 g1) 27) ^^^ (((own_xs (own_f1 g1) 27).toUInt64 >>> ((27 : Int32) &&& 0x3f).toInt64.toUInt64).toInt64)))])
      refine OwnGo.st (fun _ k => XS.bipush X24.here hx rfl (hb hby at_179) k) ?_
      show OwnGo p e below s _ _ _ T24 (mkF m 181 #[.val (.int p1), .val (.int p2), .val (.int p3), .val (.int p4), .val (.int p5), .val (.int nn), .val (.int y0), .val (.int y1), .val (.int y2), .val (.int y3), .val (.ref b21), .val (.long (own_xs (own_f1 g1) 27)), .second, .unset, .unset] [(.int (54 : Int32)), (.long (own_xs (own_f1 g1) 27)), (.long ((own_xs (own_f1 g1) 27) ^^^ (((own_xs (own_f1 g1) 27).toUInt64 >>> ((27 : Int32) &&& 0x3f).toInt64.toUInt64).toInt64)))])
      refine OwnGo.st (fun _ k => XS.lushr X24.here hx rfl (hb hby at_181) rfl k) ?_
      show OwnGo p e below s _ _ _ T24 (mkF m 182 #[.val (.int p1), .val (.int p2), .val (.int p3), .val (.int p4), .val (.int p5), .val (.int nn), .val (.int y0), .val (.int y1), .val (.int y2), .val (.int y3), .val (.ref b21), .val (.long (own_xs (own_f1 g1) 27)), .second, .unset, .unset] [(.long (((own_xs (own_f1 g1) 27).toUInt64 >>> ((54 : Int32) &&& 0x3f).toInt64.toUInt64).toInt64)), (.long ((own_xs (own_f1 g1) 27) ^^^ (((own_xs (own_f1 g1) 27).toUInt64 >>> ((27 : Int32) &&& 0x3f).toInt64.toUInt64).toInt64)))])
      refine OwnGo.st (fun _ k => XS.lxor X24.here hx rfl (hb hby at_182) rfl k) ?_
      show OwnGo p e below s _ _ _ T24 (mkF m 183 #[.val (.int p1), .val (.int p2), .val (.int p3), .val (.int p4), .val (.int p5), .val (.int nn), .val (.int y0), .val (.int y1), .val (.int y2), .val (.int y3), .val (.ref b21), .val (.long (own_xs (own_f1 g1) 27)), .second, .unset, .unset] [(.long (((own_xs (own_f1 g1) 27) ^^^ (((own_xs (own_f1 g1) 27).toUInt64 >>> ((27 : Int32) &&& 0x3f).toInt64.toUInt64).toInt64)) ^^^ (((own_xs (own_f1 g1) 27).toUInt64 >>> ((54 : Int32) &&& 0x3f).toInt64.toUInt64).toInt64)))])
      show OwnGo p e below s _ _ _ T24 (mkF m 183 #[.val (.int p1), .val (.int p2), .val (.int p3), .val (.int p4), .val (.int p5), .val (.int nn), .val (.int y0), .val (.int y1), .val (.int y2), .val (.int y3), .val (.ref b21), .val (.long (own_xs (own_f1 g1) 27)), .second, .unset, .unset] [(.long (own_un (own_xs (own_f1 g1) 27) 27 54))])
      rw [own_u27]
      show OwnGo p e below s _ _ _ T24 (mkF m 183 #[.val (.int p1), .val (.int p2), .val (.int p3), .val (.int p4), .val (.int p5), .val (.int nn), .val (.int y0), .val (.int y1), .val (.int y2), .val (.int y3), .val (.ref b21), .val (.long (own_xs (own_f1 g1) 27)), .second, .unset, .unset] [(.long (own_f1 g1))])
      refine OwnGo.st (fun _ k => XS.lstore X24.here hx rfl (hb hby at_183) rfl (l' := #[.val (.int p1), .val (.int p2), .val (.int p3), .val (.int p4), .val (.int p5), .val (.int nn), .val (.int y0), .val (.int y1), .val (.int y2), .val (.int y3), .val (.ref b21), .val (.long (own_f1 g1)), .second, .unset, .unset]) rfl k) ?_
      show OwnGo p e below s _ _ _ T24 (mkF m 185 #[.val (.int p1), .val (.int p2), .val (.int p3), .val (.int p4), .val (.int p5), .val (.int nn), .val (.int y0), .val (.int y1), .val (.int y2), .val (.int y3), .val (.ref b21), .val (.long (own_f1 g1)), .second, .unset, .unset] [])
      refine OwnGo.st (fun _ k => XS.lload X24.here hx rfl (hb hby at_185) rfl  k) ?_
      show OwnGo p e below s _ _ _ T24 (mkF m 187 #[.val (.int p1), .val (.int p2), .val (.int p3), .val (.int p4), .val (.int p5), .val (.int nn), .val (.int y0), .val (.int y1), .val (.int y2), .val (.int y3), .val (.ref b21), .val (.long (own_f1 g1)), .second, .unset, .unset] [(.long (own_f1 g1))])
      refine OwnGo.st (fun _ k => X24.ldc2Long hx hown (mvT hZ (hw _ (List.mem_of_getElem? (i := 15) rfl))) (g := (mkF m 187 #[.val (.int p1), .val (.int p2), .val (.int p3), .val (.int p4), .val (.int p5), .val (.int nn), .val (.int y0), .val (.int y1), .val (.int y2), .val (.int y3), .val (.ref b21), .val (.long (own_f1 g1)), .second, .unset, .unset] [(.long (own_f1 g1))])) rfl (hb hby at_187) _ k) ?_
      show OwnGo p e below s _ _ _ T24 (mkF m 190 #[.val (.int p1), .val (.int p2), .val (.int p3), .val (.int p4), .val (.int p5), .val (.int nn), .val (.int y0), .val (.int y1), .val (.int y2), .val (.int y3), .val (.ref b21), .val (.long (own_f1 g1)), .second, .unset, .unset] [(.long (-4658895280553007687 : Int64)), (.long (own_f1 g1))])
      obtain ⟨_, _, ⟨T25, L25, k25, n25⟩, -, X25, ⟨Lc25, hQ25, l25, y25, z25⟩, st25⟩ := Jvm.LawKit.callS X24 hx (y := (⟨"com/example/utsatt/utsatt/KeyHashesOfPinLaw", "inverse", "(J)J"⟩ : MethodName)) hown (mvT hZ (hw _ (List.mem_of_getElem? (i := 10) rfl))) (mvT hZ (hw _ (List.mem_of_getElem? (i := 11) rfl))) (mvT hZ (hw _ (List.mem_of_getElem? (i := 12) rfl))) (mvT hZ (hw _ (List.mem_of_getElem? (i := 13) rfl))) (by decide) (backOf (W := 2) (rm2 l Z a0 hw [] (-4658895280553007687 : Int64) h22 n0 Z_ ) hZ (hw _ (List.mem_of_getElem? (i := 13) rfl)) (hw _ (List.mem_of_getElem? (i := 12) rfl)) (by decide) (by decide)) (g := (mkF m 190 #[.val (.int p1), .val (.int p2), .val (.int p3), .val (.int p4), .val (.int p5), .val (.int nn), .val (.int y0), .val (.int y1), .val (.int y2), .val (.int y3), .val (.ref b21), .val (.long (own_f1 g1)), .second, .unset, .unset] [(.long (-4658895280553007687 : Int64)), (.long (own_f1 g1))])) rfl (by rw [hml]; rfl) (argsL := [(.long (-4658895280553007687 : Int64))]) (rest := [(.long (own_f1 g1))]) (lenOf pd_1 rfl) rfl (by show 2 * 0 + _ ≤ _; exact Nat.le_of_eq rfl) (hb hby at_190) (fun _ _ => ⟨rfl, e24, (by decide : 1 + 0 ≤ _), (by decide : 1 + 0 ≤ _)⟩)
      dsimp only [Pt.U, Pt.locs, Pt.cells, Pt.slots] at X25 l25 y25 z25 st25 hQ25
      subst l25 y25 z25
      obtain ⟨rfl, N25q, e25⟩ := hQ25
      have N25 := Fr.app N24 N25q
      refine OwnGo.st st25 ?_
      show OwnGo p e below s _ _ _ T25 (mkF m 193 #[.val (.int p1), .val (.int p2), .val (.int p3), .val (.int p4), .val (.int p5), .val (.int nn), .val (.int y0), .val (.int y1), .val (.int y2), .val (.int y3), .val (.ref b21), .val (.long (own_f1 g1)), .second, .unset, .unset] [(.long (own_inv (-4658895280553007687 : Int64))), (.long (own_f1 g1))])
      refine OwnGo.st (fun _ k => XS.lmul X25.here hx rfl (hb hby at_193) rfl k) ?_
      show OwnGo p e below s _ _ _ T25 (mkF m 194 #[.val (.int p1), .val (.int p2), .val (.int p3), .val (.int p4), .val (.int p5), .val (.int nn), .val (.int y0), .val (.int y1), .val (.int y2), .val (.int y3), .val (.ref b21), .val (.long (own_f1 g1)), .second, .unset, .unset] [(.long ((own_f1 g1) * (own_inv (-4658895280553007687 : Int64))))])
      rw [show (own_f1 g1 * own_inv (-4658895280553007687 : Int64)) = own_xs g1 30 from own_k1 _]
      show OwnGo p e below s _ _ _ T25 (mkF m 194 #[.val (.int p1), .val (.int p2), .val (.int p3), .val (.int p4), .val (.int p5), .val (.int nn), .val (.int y0), .val (.int y1), .val (.int y2), .val (.int y3), .val (.ref b21), .val (.long (own_f1 g1)), .second, .unset, .unset] [(.long (own_xs g1 30))])
      refine OwnGo.st (fun _ k => XS.lstore X25.here hx rfl (hb hby at_194) rfl (l' := #[.val (.int p1), .val (.int p2), .val (.int p3), .val (.int p4), .val (.int p5), .val (.int nn), .val (.int y0), .val (.int y1), .val (.int y2), .val (.int y3), .val (.ref b21), .val (.long (own_xs g1 30)), .second, .unset, .unset]) rfl k) ?_
      show OwnGo p e below s _ _ _ T25 (mkF m 196 #[.val (.int p1), .val (.int p2), .val (.int p3), .val (.int p4), .val (.int p5), .val (.int nn), .val (.int y0), .val (.int y1), .val (.int y2), .val (.int y3), .val (.ref b21), .val (.long (own_xs g1 30)), .second, .unset, .unset] [])
      refine OwnGo.st (fun _ k => XS.lload X25.here hx rfl (hb hby at_196) rfl  k) ?_
      show OwnGo p e below s _ _ _ T25 (mkF m 198 #[.val (.int p1), .val (.int p2), .val (.int p3), .val (.int p4), .val (.int p5), .val (.int nn), .val (.int y0), .val (.int y1), .val (.int y2), .val (.int y3), .val (.ref b21), .val (.long (own_xs g1 30)), .second, .unset, .unset] [(.long (own_xs g1 30))])
      refine OwnGo.st (fun _ k => XS.lload X25.here hx rfl (hb hby at_198) rfl  k) ?_
      show OwnGo p e below s _ _ _ T25 (mkF m 200 #[.val (.int p1), .val (.int p2), .val (.int p3), .val (.int p4), .val (.int p5), .val (.int nn), .val (.int y0), .val (.int y1), .val (.int y2), .val (.int y3), .val (.ref b21), .val (.long (own_xs g1 30)), .second, .unset, .unset] [(.long (own_xs g1 30)), (.long (own_xs g1 30))])
      refine OwnGo.st (fun _ k => XS.bipush X25.here hx rfl (hb hby at_200) k) ?_
      show OwnGo p e below s _ _ _ T25 (mkF m 202 #[.val (.int p1), .val (.int p2), .val (.int p3), .val (.int p4), .val (.int p5), .val (.int nn), .val (.int y0), .val (.int y1), .val (.int y2), .val (.int y3), .val (.ref b21), .val (.long (own_xs g1 30)), .second, .unset, .unset] [(.int (30 : Int32)), (.long (own_xs g1 30)), (.long (own_xs g1 30))])
      refine OwnGo.st (fun _ k => XS.lushr X25.here hx rfl (hb hby at_202) rfl k) ?_
      show OwnGo p e below s _ _ _ T25 (mkF m 203 #[.val (.int p1), .val (.int p2), .val (.int p3), .val (.int p4), .val (.int p5), .val (.int nn), .val (.int y0), .val (.int y1), .val (.int y2), .val (.int y3), .val (.ref b21), .val (.long (own_xs g1 30)), .second, .unset, .unset] [(.long (((own_xs g1 30).toUInt64 >>> ((30 : Int32) &&& 0x3f).toInt64.toUInt64).toInt64)), (.long (own_xs g1 30))])
      refine OwnGo.st (fun _ k => XS.lxor X25.here hx rfl (hb hby at_203) rfl k) ?_
      show OwnGo p e below s _ _ _ T25 (mkF m 204 #[.val (.int p1), .val (.int p2), .val (.int p3), .val (.int p4), .val (.int p5), .val (.int nn), .val (.int y0), .val (.int y1), .val (.int y2), .val (.int y3), .val (.ref b21), .val (.long (own_xs g1 30)), .second, .unset, .unset] [(.long ((own_xs g1 30) ^^^ (((own_xs g1 30).toUInt64 >>> ((30 : Int32) &&& 0x3f).toInt64.toUInt64).toInt64)))])
      refine OwnGo.st (fun _ k => XS.lload X25.here hx rfl (hb hby at_204) rfl  k) ?_
      show OwnGo p e below s _ _ _ T25 (mkF m 206 #[.val (.int p1), .val (.int p2), .val (.int p3), .val (.int p4), .val (.int p5), .val (.int nn), .val (.int y0), .val (.int y1), .val (.int y2), .val (.int y3), .val (.ref b21), .val (.long (own_xs g1 30)), .second, .unset, .unset] [(.long (own_xs g1 30)), (.long ((own_xs g1 30) ^^^ (((own_xs g1 30).toUInt64 >>> ((30 : Int32) &&& 0x3f).toInt64.toUInt64).toInt64)))])
      refine OwnGo.st (fun _ k => XS.bipush X25.here hx rfl (hb hby at_206) k) ?_
      show OwnGo p e below s _ _ _ T25 (mkF m 208 #[.val (.int p1), .val (.int p2), .val (.int p3), .val (.int p4), .val (.int p5), .val (.int nn), .val (.int y0), .val (.int y1), .val (.int y2), .val (.int y3), .val (.ref b21), .val (.long (own_xs g1 30)), .second, .unset, .unset] [(.int (60 : Int32)), (.long (own_xs g1 30)), (.long ((own_xs g1 30) ^^^ (((own_xs g1 30).toUInt64 >>> ((30 : Int32) &&& 0x3f).toInt64.toUInt64).toInt64)))])
      refine OwnGo.st (fun _ k => XS.lushr X25.here hx rfl (hb hby at_208) rfl k) ?_
      show OwnGo p e below s _ _ _ T25 (mkF m 209 #[.val (.int p1), .val (.int p2), .val (.int p3), .val (.int p4), .val (.int p5), .val (.int nn), .val (.int y0), .val (.int y1), .val (.int y2), .val (.int y3), .val (.ref b21), .val (.long (own_xs g1 30)), .second, .unset, .unset] [(.long (((own_xs g1 30).toUInt64 >>> ((60 : Int32) &&& 0x3f).toInt64.toUInt64).toInt64)), (.long ((own_xs g1 30) ^^^ (((own_xs g1 30).toUInt64 >>> ((30 : Int32) &&& 0x3f).toInt64.toUInt64).toInt64)))])
      refine OwnGo.st (fun _ k => XS.lxor X25.here hx rfl (hb hby at_209) rfl k) ?_
      show OwnGo p e below s _ _ _ T25 (mkF m 210 #[.val (.int p1), .val (.int p2), .val (.int p3), .val (.int p4), .val (.int p5), .val (.int nn), .val (.int y0), .val (.int y1), .val (.int y2), .val (.int y3), .val (.ref b21), .val (.long (own_xs g1 30)), .second, .unset, .unset] [(.long (((own_xs g1 30) ^^^ (((own_xs g1 30).toUInt64 >>> ((30 : Int32) &&& 0x3f).toInt64.toUInt64).toInt64)) ^^^ (((own_xs g1 30).toUInt64 >>> ((60 : Int32) &&& 0x3f).toInt64.toUInt64).toInt64)))])
      show OwnGo p e below s _ _ _ T25 (mkF m 210 #[.val (.int p1), .val (.int p2), .val (.int p3), .val (.int p4), .val (.int p5), .val (.int nn), .val (.int y0), .val (.int y1), .val (.int y2), .val (.int y3), .val (.ref b21), .val (.long (own_xs g1 30)), .second, .unset, .unset] [(.long (own_un (own_xs g1 30) 30 60))])
      rw [own_u30]
      show OwnGo p e below s _ _ _ T25 (mkF m 210 #[.val (.int p1), .val (.int p2), .val (.int p3), .val (.int p4), .val (.int p5), .val (.int nn), .val (.int y0), .val (.int y1), .val (.int y2), .val (.int y3), .val (.ref b21), .val (.long (own_xs g1 30)), .second, .unset, .unset] [(.long g1)])
      refine OwnGo.st (fun _ k => XS.lstore X25.here hx rfl (hb hby at_210) rfl (l' := #[.val (.int p1), .val (.int p2), .val (.int p3), .val (.int p4), .val (.int p5), .val (.int nn), .val (.int y0), .val (.int y1), .val (.int y2), .val (.int y3), .val (.ref b21), .val (.long g1), .second, .unset, .unset]) rfl k) ?_
      show OwnGo p e below s _ _ _ T25 (mkF m 212 #[.val (.int p1), .val (.int p2), .val (.int p3), .val (.int p4), .val (.int p5), .val (.int nn), .val (.int y0), .val (.int y1), .val (.int y2), .val (.int y3), .val (.ref b21), .val (.long g1), .second, .unset, .unset] [])
      refine OwnGo.st (fun _ k => X25.ldc2Long hx hown (mvT hZ (hw _ (List.mem_of_getElem? (i := 16) rfl))) (g := (mkF m 212 #[.val (.int p1), .val (.int p2), .val (.int p3), .val (.int p4), .val (.int p5), .val (.int nn), .val (.int y0), .val (.int y1), .val (.int y2), .val (.int y3), .val (.ref b21), .val (.long g1), .second, .unset, .unset] [])) rfl (hb hby at_212) _ k) ?_
      show OwnGo p e below s _ _ _ T25 (mkF m 215 #[.val (.int p1), .val (.int p2), .val (.int p3), .val (.int p4), .val (.int p5), .val (.int nn), .val (.int y0), .val (.int y1), .val (.int y2), .val (.int y3), .val (.ref b21), .val (.long g1), .second, .unset, .unset] [(.long (1099511628211 : Int64))])
      obtain ⟨_, _, ⟨T26, L26, k26, n26⟩, -, X26, ⟨Lc26, hQ26, l26, y26, z26⟩, st26⟩ := Jvm.LawKit.callS X25 hx (y := (⟨"com/example/utsatt/utsatt/KeyHashesOfPinLaw", "inverse", "(J)J"⟩ : MethodName)) hown (mvT hZ (hw _ (List.mem_of_getElem? (i := 10) rfl))) (mvT hZ (hw _ (List.mem_of_getElem? (i := 11) rfl))) (mvT hZ (hw _ (List.mem_of_getElem? (i := 12) rfl))) (mvT hZ (hw _ (List.mem_of_getElem? (i := 13) rfl))) (by decide) (backOf (W := 0) (rm2 l Z a0 hw [] (1099511628211 : Int64) h22 n0 Z_ ) hZ (hw _ (List.mem_of_getElem? (i := 13) rfl)) (hw _ (List.mem_of_getElem? (i := 12) rfl)) (by decide) (by decide)) (g := (mkF m 215 #[.val (.int p1), .val (.int p2), .val (.int p3), .val (.int p4), .val (.int p5), .val (.int nn), .val (.int y0), .val (.int y1), .val (.int y2), .val (.int y3), .val (.ref b21), .val (.long g1), .second, .unset, .unset] [(.long (1099511628211 : Int64))])) rfl (by rw [hml]; rfl) (argsL := [(.long (1099511628211 : Int64))]) (rest := []) (lenOf pd_1 rfl) rfl (by show 2 * 0 + _ ≤ _; exact Nat.le_of_eq rfl) (hb hby at_215) (fun _ _ => ⟨rfl, e25, (by decide : 1 + 0 ≤ _), (by decide : 1 + 0 ≤ _)⟩)
      dsimp only [Pt.U, Pt.locs, Pt.cells, Pt.slots] at X26 l26 y26 z26 st26 hQ26
      subst l26 y26 z26
      obtain ⟨rfl, N26q, e26⟩ := hQ26
      have N26 := Fr.app N25 N26q
      refine OwnGo.st st26 ?_
      show OwnGo p e below s _ _ _ T26 (mkF m 218 #[.val (.int p1), .val (.int p2), .val (.int p3), .val (.int p4), .val (.int p5), .val (.int nn), .val (.int y0), .val (.int y1), .val (.int y2), .val (.int y3), .val (.ref b21), .val (.long g1), .second, .unset, .unset] [(.long (own_inv (1099511628211 : Int64)))])
      refine OwnGo.st (fun _ k => XS.lstore X26.here hx rfl (hb hby at_218) rfl (l' := #[.val (.int p1), .val (.int p2), .val (.int p3), .val (.int p4), .val (.int p5), .val (.int nn), .val (.int y0), .val (.int y1), .val (.int y2), .val (.int y3), .val (.ref b21), .val (.long g1), .second, .val (.long (own_inv (1099511628211 : Int64))), .second]) rfl k) ?_
      show OwnGo p e below s _ _ _ T26 (mkF m 220 #[.val (.int p1), .val (.int p2), .val (.int p3), .val (.int p4), .val (.int p5), .val (.int nn), .val (.int y0), .val (.int y1), .val (.int y2), .val (.int y3), .val (.ref b21), .val (.long g1), .second, .val (.long (own_inv (1099511628211 : Int64))), .second] [])
      refine OwnGo.st (fun _ k => XS.iload X26.here hx rfl (hb hby at_220) rfl  k) ?_
      show OwnGo p e below s _ _ _ T26 (mkF m 222 #[.val (.int p1), .val (.int p2), .val (.int p3), .val (.int p4), .val (.int p5), .val (.int nn), .val (.int y0), .val (.int y1), .val (.int y2), .val (.int y3), .val (.ref b21), .val (.long g1), .second, .val (.long (own_inv (1099511628211 : Int64))), .second] [(.int nn)])
      refine OwnGo.st (fun _ k => XS.iconst X26.here hx rfl (hb hby at_222) k) ?_
      show OwnGo p e below s _ _ _ T26 (mkF m 223 #[.val (.int p1), .val (.int p2), .val (.int p3), .val (.int p4), .val (.int p5), .val (.int nn), .val (.int y0), .val (.int y1), .val (.int y2), .val (.int y3), .val (.ref b21), .val (.long g1), .second, .val (.long (own_inv (1099511628211 : Int64))), .second] [(.int (4 : Int32)), (.int nn)])
      refine OwnGo.st (fun _ k => XS.icmpYes X26.here hx rfl (pc0 := 223) (pc' := 241) rfl (hb hby at_223) rfl (tlt ((by rw [hk1]; decide) : nn < (4 : Int32))).1 (by decide) (by decide) k) ?_
      show OwnGo p e below s _ _ _ T26 (mkF m 241 #[.val (.int p1), .val (.int p2), .val (.int p3), .val (.int p4), .val (.int p5), .val (.int nn), .val (.int y0), .val (.int y1), .val (.int y2), .val (.int y3), .val (.ref b21), .val (.long g1), .second, .val (.long (own_inv (1099511628211 : Int64))), .second] [])
      refine OwnGo.st (fun _ k => XS.iload X26.here hx rfl (hb hby at_241) rfl  k) ?_
      show OwnGo p e below s _ _ _ T26 (mkF m 243 #[.val (.int p1), .val (.int p2), .val (.int p3), .val (.int p4), .val (.int p5), .val (.int nn), .val (.int y0), .val (.int y1), .val (.int y2), .val (.int y3), .val (.ref b21), .val (.long g1), .second, .val (.long (own_inv (1099511628211 : Int64))), .second] [(.int nn)])
      refine OwnGo.st (fun _ k => XS.iconst X26.here hx rfl (hb hby at_243) k) ?_
      show OwnGo p e below s _ _ _ T26 (mkF m 244 #[.val (.int p1), .val (.int p2), .val (.int p3), .val (.int p4), .val (.int p5), .val (.int nn), .val (.int y0), .val (.int y1), .val (.int y2), .val (.int y3), .val (.ref b21), .val (.long g1), .second, .val (.long (own_inv (1099511628211 : Int64))), .second] [(.int (3 : Int32)), (.int nn)])
      refine OwnGo.st (fun _ k => XS.icmpYes X26.here hx rfl (pc0 := 244) (pc' := 262) rfl (hb hby at_244) rfl (tlt ((by rw [hk1]; decide) : nn < (3 : Int32))).1 (by decide) (by decide) k) ?_
      show OwnGo p e below s _ _ _ T26 (mkF m 262 #[.val (.int p1), .val (.int p2), .val (.int p3), .val (.int p4), .val (.int p5), .val (.int nn), .val (.int y0), .val (.int y1), .val (.int y2), .val (.int y3), .val (.ref b21), .val (.long g1), .second, .val (.long (own_inv (1099511628211 : Int64))), .second] [])
      refine OwnGo.st (fun _ k => XS.iload X26.here hx rfl (hb hby at_262) rfl  k) ?_
      show OwnGo p e below s _ _ _ T26 (mkF m 264 #[.val (.int p1), .val (.int p2), .val (.int p3), .val (.int p4), .val (.int p5), .val (.int nn), .val (.int y0), .val (.int y1), .val (.int y2), .val (.int y3), .val (.ref b21), .val (.long g1), .second, .val (.long (own_inv (1099511628211 : Int64))), .second] [(.int nn)])
      refine OwnGo.st (fun _ k => XS.iconst X26.here hx rfl (hb hby at_264) k) ?_
      show OwnGo p e below s _ _ _ T26 (mkF m 265 #[.val (.int p1), .val (.int p2), .val (.int p3), .val (.int p4), .val (.int p5), .val (.int nn), .val (.int y0), .val (.int y1), .val (.int y2), .val (.int y3), .val (.ref b21), .val (.long g1), .second, .val (.long (own_inv (1099511628211 : Int64))), .second] [(.int (2 : Int32)), (.int nn)])
      refine OwnGo.st (fun _ k => XS.icmpYes X26.here hx rfl (pc0 := 265) (pc' := 283) rfl (hb hby at_265) rfl (tlt ((by rw [hk1]; decide) : nn < (2 : Int32))).1 (by decide) (by decide) k) ?_
      show OwnGo p e below s _ _ _ T26 (mkF m 283 #[.val (.int p1), .val (.int p2), .val (.int p3), .val (.int p4), .val (.int p5), .val (.int nn), .val (.int y0), .val (.int y1), .val (.int y2), .val (.int y3), .val (.ref b21), .val (.long g1), .second, .val (.long (own_inv (1099511628211 : Int64))), .second] [])
      refine OwnGo.st (fun _ k => XS.iload X26.here hx rfl (hb hby at_283) rfl  k) ?_
      show OwnGo p e below s _ _ _ T26 (mkF m 285 #[.val (.int p1), .val (.int p2), .val (.int p3), .val (.int p4), .val (.int p5), .val (.int nn), .val (.int y0), .val (.int y1), .val (.int y2), .val (.int y3), .val (.ref b21), .val (.long g1), .second, .val (.long (own_inv (1099511628211 : Int64))), .second] [(.int nn)])
      refine OwnGo.st (fun _ k => XS.iconst X26.here hx rfl (hb hby at_285) k) ?_
      show OwnGo p e below s _ _ _ T26 (mkF m 286 #[.val (.int p1), .val (.int p2), .val (.int p3), .val (.int p4), .val (.int p5), .val (.int nn), .val (.int y0), .val (.int y1), .val (.int y2), .val (.int y3), .val (.ref b21), .val (.long g1), .second, .val (.long (own_inv (1099511628211 : Int64))), .second] [(.int (1 : Int32)), (.int nn)])
      refine OwnGo.st (fun _ k => XS.icmpNo X26.here hx rfl (hb hby at_286) rfl (flt ((by rw [hk1]; decide) : ¬ (nn < (1 : Int32)))).1 k) ?_
      show OwnGo p e below s _ _ _ T26 (mkF m 289 #[.val (.int p1), .val (.int p2), .val (.int p3), .val (.int p4), .val (.int p5), .val (.int nn), .val (.int y0), .val (.int y1), .val (.int y2), .val (.int y3), .val (.ref b21), .val (.long g1), .second, .val (.long (own_inv (1099511628211 : Int64))), .second] [])
      refine OwnGo.st (fun _ k => XS.lload X26.here hx rfl (hb hby at_289) rfl  k) ?_
      show OwnGo p e below s _ _ _ T26 (mkF m 291 #[.val (.int p1), .val (.int p2), .val (.int p3), .val (.int p4), .val (.int p5), .val (.int nn), .val (.int y0), .val (.int y1), .val (.int y2), .val (.int y3), .val (.ref b21), .val (.long g1), .second, .val (.long (own_inv (1099511628211 : Int64))), .second] [(.long g1)])
      refine OwnGo.st (fun _ k => XS.lload X26.here hx rfl (hb hby at_291) rfl  k) ?_
      show OwnGo p e below s _ _ _ T26 (mkF m 293 #[.val (.int p1), .val (.int p2), .val (.int p3), .val (.int p4), .val (.int p5), .val (.int nn), .val (.int y0), .val (.int y1), .val (.int y2), .val (.int y3), .val (.ref b21), .val (.long g1), .second, .val (.long (own_inv (1099511628211 : Int64))), .second] [(.long (own_inv (1099511628211 : Int64))), (.long g1)])
      refine OwnGo.st (fun _ k => XS.lmul X26.here hx rfl (hb hby at_293) rfl k) ?_
      show OwnGo p e below s _ _ _ T26 (mkF m 294 #[.val (.int p1), .val (.int p2), .val (.int p3), .val (.int p4), .val (.int p5), .val (.int nn), .val (.int y0), .val (.int y1), .val (.int y2), .val (.int y3), .val (.ref b21), .val (.long g1), .second, .val (.long (own_inv (1099511628211 : Int64))), .second] [(.long (g1 * (own_inv (1099511628211 : Int64))))])
      refine OwnGo.st (fun _ k => XS.iload X26.here hx rfl (hb hby at_294) rfl  k) ?_
      show OwnGo p e below s _ _ _ T26 (mkF m 296 #[.val (.int p1), .val (.int p2), .val (.int p3), .val (.int p4), .val (.int p5), .val (.int nn), .val (.int y0), .val (.int y1), .val (.int y2), .val (.int y3), .val (.ref b21), .val (.long g1), .second, .val (.long (own_inv (1099511628211 : Int64))), .second] [(.int y0), (.long (g1 * (own_inv (1099511628211 : Int64))))])
      refine OwnGo.st (fun _ k => XS.sipush X26.here hx rfl (hb hby at_296) k) ?_
      show OwnGo p e below s _ _ _ T26 (mkF m 299 #[.val (.int p1), .val (.int p2), .val (.int p3), .val (.int p4), .val (.int p5), .val (.int nn), .val (.int y0), .val (.int y1), .val (.int y2), .val (.int y3), .val (.ref b21), .val (.long g1), .second, .val (.long (own_inv (1099511628211 : Int64))), .second] [(.int (255 : Int32)), (.int y0), (.long (g1 * (own_inv (1099511628211 : Int64))))])
      refine OwnGo.st (fun _ k => XS.iand X26.here hx rfl (hb hby at_299) rfl k) ?_
      show OwnGo p e below s _ _ _ T26 (mkF m 300 #[.val (.int p1), .val (.int p2), .val (.int p3), .val (.int p4), .val (.int p5), .val (.int nn), .val (.int y0), .val (.int y1), .val (.int y2), .val (.int y3), .val (.ref b21), .val (.long g1), .second, .val (.long (own_inv (1099511628211 : Int64))), .second] [(.int (y0 &&& (255 : Int32))), (.long (g1 * (own_inv (1099511628211 : Int64))))])
      refine OwnGo.st (fun _ k => XS.i2l X26.here hx rfl (hb hby at_300) rfl k) ?_
      show OwnGo p e below s _ _ _ T26 (mkF m 301 #[.val (.int p1), .val (.int p2), .val (.int p3), .val (.int p4), .val (.int p5), .val (.int nn), .val (.int y0), .val (.int y1), .val (.int y2), .val (.int y3), .val (.ref b21), .val (.long g1), .second, .val (.long (own_inv (1099511628211 : Int64))), .second] [(.long ((y0 &&& (255 : Int32)).toInt64)), (.long (g1 * (own_inv (1099511628211 : Int64))))])
      refine OwnGo.st (fun _ k => XS.lxor X26.here hx rfl (hb hby at_301) rfl k) ?_
      show OwnGo p e below s _ _ _ T26 (mkF m 302 #[.val (.int p1), .val (.int p2), .val (.int p3), .val (.int p4), .val (.int p5), .val (.int nn), .val (.int y0), .val (.int y1), .val (.int y2), .val (.int y3), .val (.ref b21), .val (.long g1), .second, .val (.long (own_inv (1099511628211 : Int64))), .second] [(.long ((g1 * (own_inv (1099511628211 : Int64))) ^^^ ((y0 &&& (255 : Int32)).toInt64)))])
      rw [show (g1 * own_inv (1099511628211 : Int64) ^^^ (y0 &&& (255 : Int32)).toInt64) = (-3750763034362895579 : Int64) from (by rw [hg1]; exact own_peel _ _)]
      show OwnGo p e below s _ _ _ T26 (mkF m 302 #[.val (.int p1), .val (.int p2), .val (.int p3), .val (.int p4), .val (.int p5), .val (.int nn), .val (.int y0), .val (.int y1), .val (.int y2), .val (.int y3), .val (.ref b21), .val (.long g1), .second, .val (.long (own_inv (1099511628211 : Int64))), .second] [(.long (-3750763034362895579 : Int64))])
      refine OwnGo.st (fun _ k => XS.lstore X26.here hx rfl (hb hby at_302) rfl (l' := #[.val (.int p1), .val (.int p2), .val (.int p3), .val (.int p4), .val (.int p5), .val (.int nn), .val (.int y0), .val (.int y1), .val (.int y2), .val (.int y3), .val (.ref b21), .val (.long (-3750763034362895579 : Int64)), .second, .val (.long (own_inv (1099511628211 : Int64))), .second]) rfl k) ?_
      show OwnGo p e below s _ _ _ T26 (mkF m 304 #[.val (.int p1), .val (.int p2), .val (.int p3), .val (.int p4), .val (.int p5), .val (.int nn), .val (.int y0), .val (.int y1), .val (.int y2), .val (.int y3), .val (.ref b21), .val (.long (-3750763034362895579 : Int64)), .second, .val (.long (own_inv (1099511628211 : Int64))), .second] [])
      refine OwnGo.st (fun _ k => XS.lload X26.here hx rfl (hb hby at_304) rfl  k) ?_
      show OwnGo p e below s _ _ _ T26 (mkF m 306 #[.val (.int p1), .val (.int p2), .val (.int p3), .val (.int p4), .val (.int p5), .val (.int nn), .val (.int y0), .val (.int y1), .val (.int y2), .val (.int y3), .val (.ref b21), .val (.long (-3750763034362895579 : Int64)), .second, .val (.long (own_inv (1099511628211 : Int64))), .second] [(.long (-3750763034362895579 : Int64))])
      refine OwnGo.st (fun _ k => X26.ldc2Long hx hown (mvT hZ (hw _ (List.mem_of_getElem? (i := 17) rfl))) (g := (mkF m 306 #[.val (.int p1), .val (.int p2), .val (.int p3), .val (.int p4), .val (.int p5), .val (.int nn), .val (.int y0), .val (.int y1), .val (.int y2), .val (.int y3), .val (.ref b21), .val (.long (-3750763034362895579 : Int64)), .second, .val (.long (own_inv (1099511628211 : Int64))), .second] [(.long (-3750763034362895579 : Int64))])) rfl (hb hby at_306) _ k) ?_
      show OwnGo p e below s _ _ _ T26 (mkF m 309 #[.val (.int p1), .val (.int p2), .val (.int p3), .val (.int p4), .val (.int p5), .val (.int nn), .val (.int y0), .val (.int y1), .val (.int y2), .val (.int y3), .val (.ref b21), .val (.long (-3750763034362895579 : Int64)), .second, .val (.long (own_inv (1099511628211 : Int64))), .second] [(.long (-3750763034362895579 : Int64)), (.long (-3750763034362895579 : Int64))])
      refine OwnGo.st (fun _ k => XS.lcmp X26.here hx rfl (hb hby at_309) rfl k) ?_
      show OwnGo p e below s _ _ _ T26 (mkF m 310 #[.val (.int p1), .val (.int p2), .val (.int p3), .val (.int p4), .val (.int p5), .val (.int nn), .val (.int y0), .val (.int y1), .val (.int y2), .val (.int y3), .val (.ref b21), .val (.long (-3750763034362895579 : Int64)), .second, .val (.long (own_inv (1099511628211 : Int64))), .second] [(.int (lcmpW (-3750763034362895579 : Int64) (-3750763034362895579 : Int64)))])
      refine OwnGo.st (fun _ k => XS.ifNo X26.here hx rfl (hb hby at_310) rfl ((if0 _ _).trans (teq ((lw_eq _ _).2 rfl : (lcmpW (-3750763034362895579 : Int64) (-3750763034362895579 : Int64)) = (0 : Int32))).2) k) ?_
      show OwnGo p e below s _ _ _ T26 (mkF m 313 #[.val (.int p1), .val (.int p2), .val (.int p3), .val (.int p4), .val (.int p5), .val (.int nn), .val (.int y0), .val (.int y1), .val (.int y2), .val (.int y3), .val (.ref b21), .val (.long (-3750763034362895579 : Int64)), .second, .val (.long (own_inv (1099511628211 : Int64))), .second] [])
      refine OwnGo.st (fun _ k => XS.iconst X26.here hx rfl (hb hby at_313) k) ?_
      show OwnGo p e below s _ _ _ T26 (mkF m 314 #[.val (.int p1), .val (.int p2), .val (.int p3), .val (.int p4), .val (.int p5), .val (.int nn), .val (.int y0), .val (.int y1), .val (.int y2), .val (.int y3), .val (.ref b21), .val (.long (-3750763034362895579 : Int64)), .second, .val (.long (own_inv (1099511628211 : Int64))), .second] [(.int (1 : Int32))])
      refine OwnGo.st (fun _ k => XS.goto X26.here hx rfl (pc0 := 314) (pc' := 318) rfl (hb hby at_314) (by decide) (by decide) k) ?_
      show OwnGo p e below s _ _ _ T26 (mkF m 318 #[.val (.int p1), .val (.int p2), .val (.int p3), .val (.int p4), .val (.int p5), .val (.int nn), .val (.int y0), .val (.int y1), .val (.int y2), .val (.int y3), .val (.ref b21), .val (.long (-3750763034362895579 : Int64)), .second, .val (.long (own_inv (1099511628211 : Int64))), .second] [(.int (1 : Int32))])
      exact OwnGo.retN X26 hx (t := .boolean) hret hlk (by simp) (hb hby at_318) (by show Q0 Z p1 p2 p3 p4 p5 h0 n0 _ T26.heap _; rw [e26]; exact ⟨rfl, N26⟩) (by decide) (by decide)
    · refine OwnGo.st (fun _ k => XS.icmpYes X0.here hx rfl (pc0 := 41) (pc' := 57) rfl (hb hby at_41) rfl (feq (hk1 : ¬ (nn = (1 : Int32)))).2 (by decide) (by decide) k) ?_
      show OwnGo p e below s _ _ _ s₁ (mkF m 57 #[.val (.int p1), .val (.int p2), .val (.int p3), .val (.int p4), .val (.int p5), .val (.int nn), .val (.int y0), .val (.int y1), .val (.int y2), .val (.int y3), .unset, .unset, .unset, .unset, .unset] [])
      refine OwnGo.st (fun _ k => XS.iload X0.here hx rfl (hb hby at_57) rfl  k) ?_
      show OwnGo p e below s _ _ _ s₁ (mkF m 59 #[.val (.int p1), .val (.int p2), .val (.int p3), .val (.int p4), .val (.int p5), .val (.int nn), .val (.int y0), .val (.int y1), .val (.int y2), .val (.int y3), .unset, .unset, .unset, .unset, .unset] [(.int nn)])
      refine OwnGo.st (fun _ k => XS.iconst X0.here hx rfl (hb hby at_59) k) ?_
      show OwnGo p e below s _ _ _ s₁ (mkF m 60 #[.val (.int p1), .val (.int p2), .val (.int p3), .val (.int p4), .val (.int p5), .val (.int nn), .val (.int y0), .val (.int y1), .val (.int y2), .val (.int y3), .unset, .unset, .unset, .unset, .unset] [(.int (2 : Int32)), (.int nn)])
      by_cases hk2 : nn = (2 : Int32)
      · refine OwnGo.st (fun _ k => XS.icmpNo X0.here hx rfl (hb hby at_60) rfl (teq (hk2 : nn = (2 : Int32))).2 k) ?_
        show OwnGo p e below s _ _ _ s₁ (mkF m 63 #[.val (.int p1), .val (.int p2), .val (.int p3), .val (.int p4), .val (.int p5), .val (.int nn), .val (.int y0), .val (.int y1), .val (.int y2), .val (.int y3), .unset, .unset, .unset, .unset, .unset] [])
        refine OwnGo.st (fun _ k => XS.iconst X0.here hx rfl (hb hby at_63) k) ?_
        show OwnGo p e below s _ _ _ s₁ (mkF m 64 #[.val (.int p1), .val (.int p2), .val (.int p3), .val (.int p4), .val (.int p5), .val (.int nn), .val (.int y0), .val (.int y1), .val (.int y2), .val (.int y3), .unset, .unset, .unset, .unset, .unset] [(.int (2 : Int32))])
        obtain ⟨T27, h27, k27, X27, e27, E27, A27, Ex27, st27⟩ := newPE X0 hx hZ (hw _ (List.mem_of_getElem? (i := 1) rfl)) e0 (g := (mkF m 64 #[.val (.int p1), .val (.int p2), .val (.int p3), .val (.int p4), .val (.int p5), .val (.int nn), .val (.int y0), .val (.int y1), .val (.int y2), .val (.int y3), .unset, .unset, .unset, .unset, .unset] [(.int (2 : Int32))])) rfl (hb hby at_64) rfl (by decide) (cap := 2) (by decide) (by decide) (by decide) (by decide) (ad := "[B") (by decide)
        obtain ⟨b27, g27⟩ : ∃ z, z = h0.size := ⟨_, rfl⟩
        rw [← g27] at A27 Ex27 st27
        have g_b27 : n0 ≤ b27 := Nat.le_trans Z_ (Nat.le_of_eq g27.symm)
        have Z_ : n0 ≤ h27.size := Nat.le_trans Z_ E27.1
        have V_b27 : Arv Z h27 b27 k27 .byte (2 : Int32) [(.int (0 : Int32)), (.int (0 : Int32))] (.int (0 : Int32)) := (Arv.new A27 (by decide)).pad (pad_rep [] (.int (0 : Int32)) 2)
        have E_b27 := Ex27
        refine OwnGo.st st27 ?_
        show OwnGo p e below s _ _ _ T27 (mkF m 66 #[.val (.int p1), .val (.int p2), .val (.int p3), .val (.int p4), .val (.int p5), .val (.int nn), .val (.int y0), .val (.int y1), .val (.int y2), .val (.int y3), .unset, .unset, .unset, .unset, .unset] [(.ref b27)])
        refine OwnGo.st (fun _ k => XS.dup X27.here hx rfl (hb hby at_66) rfl rfl k) ?_
        show OwnGo p e below s _ _ _ T27 (mkF m 67 #[.val (.int p1), .val (.int p2), .val (.int p3), .val (.int p4), .val (.int p5), .val (.int nn), .val (.int y0), .val (.int y1), .val (.int y2), .val (.int y3), .unset, .unset, .unset, .unset, .unset] [(.ref b27), (.ref b27)])
        refine OwnGo.st (fun _ k => XS.iconst X27.here hx rfl (hb hby at_67) k) ?_
        show OwnGo p e below s _ _ _ T27 (mkF m 68 #[.val (.int p1), .val (.int p2), .val (.int p3), .val (.int p4), .val (.int p5), .val (.int nn), .val (.int y0), .val (.int y1), .val (.int y2), .val (.int y3), .unset, .unset, .unset, .unset, .unset] [(.int (0 : Int32)), (.ref b27), (.ref b27)])
        refine OwnGo.st (fun _ k => XS.iload X27.here hx rfl (hb hby at_68) rfl  k) ?_
        show OwnGo p e below s _ _ _ T27 (mkF m 70 #[.val (.int p1), .val (.int p2), .val (.int p3), .val (.int p4), .val (.int p5), .val (.int nn), .val (.int y0), .val (.int y1), .val (.int y2), .val (.int y3), .unset, .unset, .unset, .unset, .unset] [(.int y0), (.int (0 : Int32)), (.ref b27), (.ref b27)])
        obtain ⟨cl28, Ar28, q28, S28, N28, H28, G28⟩ := id V_b27
        have hin28 : ¬ ((0 : Int32) < 0 ∨ cl28.slots.size ≤ ((0 : Int32)).toNatClampNeg) := inb_of S28 ⟨by decide, by decide⟩
        obtain ⟨T28, h28, X28, e28, W28, st28⟩ := stB X27 hx hZ e27 Ar28 (j := (0 : Int32)) hin28 (g := (mkF m 70 #[.val (.int p1), .val (.int p2), .val (.int p3), .val (.int p4), .val (.int p5), .val (.int nn), .val (.int y0), .val (.int y1), .val (.int y2), .val (.int y3), .unset, .unset, .unset, .unset, .unset] [(.int y0), (.int (0 : Int32)), (.ref b27), (.ref b27)])) rfl rfl (hb hby at_70)
        have V_b27 : Arv Z h28 b27 k27 .byte (2 : Int32) [(.int (nar .byte y0)), (.int (0 : Int32))] (.int (0 : Int32)) := Arv.set Ar28 q28 S28 N28 H28 G28 (fits_nar_byte _) W28 0 rfl (Nat.le_of_ble_eq_true rfl)
        rw [show nar .byte y0 = y0 from (by rw [hy0]; exact own_nb _)] at V_b27
        have E_b27 := E_b27.wr W28
        have N28 := Fr.snoc X28 N0 g_b27
        have Z_ : n0 ≤ h28.size := by rw [W28.size]; exact Z_
        refine OwnGo.st st28 ?_
        show OwnGo p e below s _ _ _ T28 (mkF m 71 #[.val (.int p1), .val (.int p2), .val (.int p3), .val (.int p4), .val (.int p5), .val (.int nn), .val (.int y0), .val (.int y1), .val (.int y2), .val (.int y3), .unset, .unset, .unset, .unset, .unset] [(.ref b27)])
        refine OwnGo.st (fun _ k => XS.dup X28.here hx rfl (hb hby at_71) rfl rfl k) ?_
        show OwnGo p e below s _ _ _ T28 (mkF m 72 #[.val (.int p1), .val (.int p2), .val (.int p3), .val (.int p4), .val (.int p5), .val (.int nn), .val (.int y0), .val (.int y1), .val (.int y2), .val (.int y3), .unset, .unset, .unset, .unset, .unset] [(.ref b27), (.ref b27)])
        refine OwnGo.st (fun _ k => XS.iconst X28.here hx rfl (hb hby at_72) k) ?_
        show OwnGo p e below s _ _ _ T28 (mkF m 73 #[.val (.int p1), .val (.int p2), .val (.int p3), .val (.int p4), .val (.int p5), .val (.int nn), .val (.int y0), .val (.int y1), .val (.int y2), .val (.int y3), .unset, .unset, .unset, .unset, .unset] [(.int (1 : Int32)), (.ref b27), (.ref b27)])
        refine OwnGo.st (fun _ k => XS.iload X28.here hx rfl (hb hby at_73) rfl  k) ?_
        show OwnGo p e below s _ _ _ T28 (mkF m 75 #[.val (.int p1), .val (.int p2), .val (.int p3), .val (.int p4), .val (.int p5), .val (.int nn), .val (.int y0), .val (.int y1), .val (.int y2), .val (.int y3), .unset, .unset, .unset, .unset, .unset] [(.int y1), (.int (1 : Int32)), (.ref b27), (.ref b27)])
        obtain ⟨cl29, Ar29, q29, S29, N29, H29, G29⟩ := id V_b27
        have hin29 : ¬ ((1 : Int32) < 0 ∨ cl29.slots.size ≤ ((1 : Int32)).toNatClampNeg) := inb_of S29 ⟨by decide, by decide⟩
        obtain ⟨T29, h29, X29, e29, W29, st29⟩ := stB X28 hx hZ e28 Ar29 (j := (1 : Int32)) hin29 (g := (mkF m 75 #[.val (.int p1), .val (.int p2), .val (.int p3), .val (.int p4), .val (.int p5), .val (.int nn), .val (.int y0), .val (.int y1), .val (.int y2), .val (.int y3), .unset, .unset, .unset, .unset, .unset] [(.int y1), (.int (1 : Int32)), (.ref b27), (.ref b27)])) rfl rfl (hb hby at_75)
        have V_b27 : Arv Z h29 b27 k27 .byte (2 : Int32) [(.int y0), (.int (nar .byte y1))] (.int (0 : Int32)) := Arv.set Ar29 q29 S29 N29 H29 G29 (fits_nar_byte _) W29 1 rfl (Nat.le_of_ble_eq_true rfl)
        rw [show nar .byte y1 = y1 from (by rw [hy1]; exact own_nb _)] at V_b27
        have E_b27 := E_b27.wr W29
        have N29 := Fr.snoc X29 N28 g_b27
        have Z_ : n0 ≤ h29.size := by rw [W29.size]; exact Z_
        refine OwnGo.st st29 ?_
        show OwnGo p e below s _ _ _ T29 (mkF m 76 #[.val (.int p1), .val (.int p2), .val (.int p3), .val (.int p4), .val (.int p5), .val (.int nn), .val (.int y0), .val (.int y1), .val (.int y2), .val (.int y3), .unset, .unset, .unset, .unset, .unset] [(.ref b27)])
        refine OwnGo.st (fun _ k => XS.astore X29.here hx rfl (hb hby at_76) rfl rfl (l' := #[.val (.int p1), .val (.int p2), .val (.int p3), .val (.int p4), .val (.int p5), .val (.int nn), .val (.int y0), .val (.int y1), .val (.int y2), .val (.int y3), .val (.ref b27), .unset, .unset, .unset, .unset]) rfl k) ?_
        show OwnGo p e below s _ _ _ T29 (mkF m 78 #[.val (.int p1), .val (.int p2), .val (.int p3), .val (.int p4), .val (.int p5), .val (.int nn), .val (.int y0), .val (.int y1), .val (.int y2), .val (.int y3), .val (.ref b27), .unset, .unset, .unset, .unset] [])
        refine OwnGo.st (fun _ k => XS.goto X29.here hx rfl (pc0 := 78) (pc' := 135) rfl (hb hby at_78) (by decide) (by decide) k) ?_
        show OwnGo p e below s _ _ _ T29 (mkF m 135 #[.val (.int p1), .val (.int p2), .val (.int p3), .val (.int p4), .val (.int p5), .val (.int nn), .val (.int y0), .val (.int y1), .val (.int y2), .val (.int y3), .val (.ref b27), .unset, .unset, .unset, .unset] [])
        refine OwnGo.st (fun _ k => XS.aload X29.here hx rfl (hb hby at_135) rfl rfl  k) ?_
        show OwnGo p e below s _ _ _ T29 (mkF m 137 #[.val (.int p1), .val (.int p2), .val (.int p3), .val (.int p4), .val (.int p5), .val (.int nn), .val (.int y0), .val (.int y1), .val (.int y2), .val (.int y3), .val (.ref b27), .unset, .unset, .unset, .unset] [(.ref b27)])
        obtain ⟨_, _, ⟨T30, L30, k30, n30⟩, -, X30, ⟨Lc30, hQ30, l30, y30, z30⟩, st30⟩ := Jvm.LawKit.callS X29 hx (y := (⟨"com/example/utsatt/utsatt/KeyHashes", "of", "([B)J"⟩ : MethodName)) hown (mvT hZ (hw _ (List.mem_of_getElem? (i := 2) rfl))) (mvT hZ (hw _ (List.mem_of_getElem? (i := 3) rfl))) (mvT hZ (hw _ (List.mem_of_getElem? (i := 4) rfl))) (mvT hZ (hw _ (List.mem_of_getElem? (i := 5) rfl))) (by decide) (backOf (W := 0) (rmof2 l Z a0 hw [] b27 k27 y0 y1 h29 n0 Z_ V_b27) hZ (hw _ (List.mem_of_getElem? (i := 5) rfl)) (hw _ (List.mem_of_getElem? (i := 4) rfl)) (by decide) (by decide)) (g := (mkF m 137 #[.val (.int p1), .val (.int p2), .val (.int p3), .val (.int p4), .val (.int p5), .val (.int nn), .val (.int y0), .val (.int y1), .val (.int y2), .val (.int y3), .val (.ref b27), .unset, .unset, .unset, .unset] [(.ref b27)])) rfl (by rw [hml]; rfl) (argsL := [(.ref b27)]) (rest := []) (lenOf pd_0 rfl) rfl (by show 2 * 0 + _ ≤ _; exact Nat.le_of_eq rfl) (hb hby at_137) (fun _ _ => ⟨rfl, e29, (by decide : 1 + 0 ≤ _), (by decide : 2 + 0 ≤ _)⟩)
        dsimp only [Pt.U, Pt.locs, Pt.cells, Pt.slots] at X30 l30 y30 z30 st30 hQ30
        subst l30 y30 z30
        obtain ⟨rfl, N30q, e30⟩ := hQ30
        have N30 := Fr.app N29 N30q
        refine OwnGo.st st30 ?_
        show OwnGo p e below s _ _ _ T30 (mkF m 140 #[.val (.int p1), .val (.int p2), .val (.int p3), .val (.int p4), .val (.int p5), .val (.int nn), .val (.int y0), .val (.int y1), .val (.int y2), .val (.int y3), .val (.ref b27), .unset, .unset, .unset, .unset] [(.long (own_fin (own_step (own_step (-3750763034362895579 : Int64) y0) y1)))])
        obtain ⟨g1, hg1⟩ : ∃ z : Int64, z = own_step (-3750763034362895579 : Int64) y0 := ⟨_, rfl⟩
        rw [← hg1]
        obtain ⟨g2, hg2⟩ : ∃ z : Int64, z = own_step g1 y1 := ⟨_, rfl⟩
        rw [← hg2]
        show OwnGo p e below s _ _ _ T30 (mkF m 140 #[.val (.int p1), .val (.int p2), .val (.int p3), .val (.int p4), .val (.int p5), .val (.int nn), .val (.int y0), .val (.int y1), .val (.int y2), .val (.int y3), .val (.ref b27), .unset, .unset, .unset, .unset] [(.long (own_fin g2))])
        refine OwnGo.st (fun _ k => XS.lstore X30.here hx rfl (hb hby at_140) rfl (l' := #[.val (.int p1), .val (.int p2), .val (.int p3), .val (.int p4), .val (.int p5), .val (.int nn), .val (.int y0), .val (.int y1), .val (.int y2), .val (.int y3), .val (.ref b27), .val (.long (own_fin g2)), .second, .unset, .unset]) rfl k) ?_
        show OwnGo p e below s _ _ _ T30 (mkF m 142 #[.val (.int p1), .val (.int p2), .val (.int p3), .val (.int p4), .val (.int p5), .val (.int nn), .val (.int y0), .val (.int y1), .val (.int y2), .val (.int y3), .val (.ref b27), .val (.long (own_fin g2)), .second, .unset, .unset] [])
        refine OwnGo.st (fun _ k => XS.lload X30.here hx rfl (hb hby at_142) rfl  k) ?_
        show OwnGo p e below s _ _ _ T30 (mkF m 144 #[.val (.int p1), .val (.int p2), .val (.int p3), .val (.int p4), .val (.int p5), .val (.int nn), .val (.int y0), .val (.int y1), .val (.int y2), .val (.int y3), .val (.ref b27), .val (.long (own_fin g2)), .second, .unset, .unset] [(.long (own_fin g2))])
        refine OwnGo.st (fun _ k => XS.lload X30.here hx rfl (hb hby at_144) rfl  k) ?_
        show OwnGo p e below s _ _ _ T30 (mkF m 146 #[.val (.int p1), .val (.int p2), .val (.int p3), .val (.int p4), .val (.int p5), .val (.int nn), .val (.int y0), .val (.int y1), .val (.int y2), .val (.int y3), .val (.ref b27), .val (.long (own_fin g2)), .second, .unset, .unset] [(.long (own_fin g2)), (.long (own_fin g2))])
        refine OwnGo.st (fun _ k => XS.bipush X30.here hx rfl (hb hby at_146) k) ?_
        show OwnGo p e below s _ _ _ T30 (mkF m 148 #[.val (.int p1), .val (.int p2), .val (.int p3), .val (.int p4), .val (.int p5), .val (.int nn), .val (.int y0), .val (.int y1), .val (.int y2), .val (.int y3), .val (.ref b27), .val (.long (own_fin g2)), .second, .unset, .unset] [(.int (31 : Int32)), (.long (own_fin g2)), (.long (own_fin g2))])
        refine OwnGo.st (fun _ k => XS.lushr X30.here hx rfl (hb hby at_148) rfl k) ?_
        show OwnGo p e below s _ _ _ T30 (mkF m 149 #[.val (.int p1), .val (.int p2), .val (.int p3), .val (.int p4), .val (.int p5), .val (.int nn), .val (.int y0), .val (.int y1), .val (.int y2), .val (.int y3), .val (.ref b27), .val (.long (own_fin g2)), .second, .unset, .unset] [(.long (((own_fin g2).toUInt64 >>> ((31 : Int32) &&& 0x3f).toInt64.toUInt64).toInt64)), (.long (own_fin g2))])
        refine OwnGo.st (fun _ k => XS.lxor X30.here hx rfl (hb hby at_149) rfl k) ?_
        show OwnGo p e below s _ _ _ T30 (mkF m 150 #[.val (.int p1), .val (.int p2), .val (.int p3), .val (.int p4), .val (.int p5), .val (.int nn), .val (.int y0), .val (.int y1), .val (.int y2), .val (.int y3), .val (.ref b27), .val (.long (own_fin g2)), .second, .unset, .unset] [(.long ((own_fin g2) ^^^ (((own_fin g2).toUInt64 >>> ((31 : Int32) &&& 0x3f).toInt64.toUInt64).toInt64)))])
        refine OwnGo.st (fun _ k => XS.lload X30.here hx rfl (hb hby at_150) rfl  k) ?_
        show OwnGo p e below s _ _ _ T30 (mkF m 152 #[.val (.int p1), .val (.int p2), .val (.int p3), .val (.int p4), .val (.int p5), .val (.int nn), .val (.int y0), .val (.int y1), .val (.int y2), .val (.int y3), .val (.ref b27), .val (.long (own_fin g2)), .second, .unset, .unset] [(.long (own_fin g2)), (.long ((own_fin g2) ^^^ (((own_fin g2).toUInt64 >>> ((31 : Int32) &&& 0x3f).toInt64.toUInt64).toInt64)))])
        refine OwnGo.st (fun _ k => XS.bipush X30.here hx rfl (hb hby at_152) k) ?_
        show OwnGo p e below s _ _ _ T30 (mkF m 154 #[.val (.int p1), .val (.int p2), .val (.int p3), .val (.int p4), .val (.int p5), .val (.int nn), .val (.int y0), .val (.int y1), .val (.int y2), .val (.int y3), .val (.ref b27), .val (.long (own_fin g2)), .second, .unset, .unset] [(.int (62 : Int32)), (.long (own_fin g2)), (.long ((own_fin g2) ^^^ (((own_fin g2).toUInt64 >>> ((31 : Int32) &&& 0x3f).toInt64.toUInt64).toInt64)))])
        refine OwnGo.st (fun _ k => XS.lushr X30.here hx rfl (hb hby at_154) rfl k) ?_
        show OwnGo p e below s _ _ _ T30 (mkF m 155 #[.val (.int p1), .val (.int p2), .val (.int p3), .val (.int p4), .val (.int p5), .val (.int nn), .val (.int y0), .val (.int y1), .val (.int y2), .val (.int y3), .val (.ref b27), .val (.long (own_fin g2)), .second, .unset, .unset] [(.long (((own_fin g2).toUInt64 >>> ((62 : Int32) &&& 0x3f).toInt64.toUInt64).toInt64)), (.long ((own_fin g2) ^^^ (((own_fin g2).toUInt64 >>> ((31 : Int32) &&& 0x3f).toInt64.toUInt64).toInt64)))])
        refine OwnGo.st (fun _ k => XS.lxor X30.here hx rfl (hb hby at_155) rfl k) ?_
        show OwnGo p e below s _ _ _ T30 (mkF m 156 #[.val (.int p1), .val (.int p2), .val (.int p3), .val (.int p4), .val (.int p5), .val (.int nn), .val (.int y0), .val (.int y1), .val (.int y2), .val (.int y3), .val (.ref b27), .val (.long (own_fin g2)), .second, .unset, .unset] [(.long (((own_fin g2) ^^^ (((own_fin g2).toUInt64 >>> ((31 : Int32) &&& 0x3f).toInt64.toUInt64).toInt64)) ^^^ (((own_fin g2).toUInt64 >>> ((62 : Int32) &&& 0x3f).toInt64.toUInt64).toInt64)))])
        show OwnGo p e below s _ _ _ T30 (mkF m 156 #[.val (.int p1), .val (.int p2), .val (.int p3), .val (.int p4), .val (.int p5), .val (.int nn), .val (.int y0), .val (.int y1), .val (.int y2), .val (.int y3), .val (.ref b27), .val (.long (own_fin g2)), .second, .unset, .unset] [(.long (own_un (own_fin g2) 31 62))])
        rw [show own_un (own_fin g2) 31 62 = own_f2 g2 from own_u31 _]
        show OwnGo p e below s _ _ _ T30 (mkF m 156 #[.val (.int p1), .val (.int p2), .val (.int p3), .val (.int p4), .val (.int p5), .val (.int nn), .val (.int y0), .val (.int y1), .val (.int y2), .val (.int y3), .val (.ref b27), .val (.long (own_fin g2)), .second, .unset, .unset] [(.long (own_f2 g2))])
        refine OwnGo.st (fun _ k => XS.lstore X30.here hx rfl (hb hby at_156) rfl (l' := #[.val (.int p1), .val (.int p2), .val (.int p3), .val (.int p4), .val (.int p5), .val (.int nn), .val (.int y0), .val (.int y1), .val (.int y2), .val (.int y3), .val (.ref b27), .val (.long (own_f2 g2)), .second, .unset, .unset]) rfl k) ?_
        show OwnGo p e below s _ _ _ T30 (mkF m 158 #[.val (.int p1), .val (.int p2), .val (.int p3), .val (.int p4), .val (.int p5), .val (.int nn), .val (.int y0), .val (.int y1), .val (.int y2), .val (.int y3), .val (.ref b27), .val (.long (own_f2 g2)), .second, .unset, .unset] [])
        refine OwnGo.st (fun _ k => XS.lload X30.here hx rfl (hb hby at_158) rfl  k) ?_
        show OwnGo p e below s _ _ _ T30 (mkF m 160 #[.val (.int p1), .val (.int p2), .val (.int p3), .val (.int p4), .val (.int p5), .val (.int nn), .val (.int y0), .val (.int y1), .val (.int y2), .val (.int y3), .val (.ref b27), .val (.long (own_f2 g2)), .second, .unset, .unset] [(.long (own_f2 g2))])
        refine OwnGo.st (fun _ k => X30.ldc2Long hx hown (mvT hZ (hw _ (List.mem_of_getElem? (i := 9) rfl))) (g := (mkF m 160 #[.val (.int p1), .val (.int p2), .val (.int p3), .val (.int p4), .val (.int p5), .val (.int nn), .val (.int y0), .val (.int y1), .val (.int y2), .val (.int y3), .val (.ref b27), .val (.long (own_f2 g2)), .second, .unset, .unset] [(.long (own_f2 g2))])) rfl (hb hby at_160) _ k) ?_
        show OwnGo p e below s _ _ _ T30 (mkF m 163 #[.val (.int p1), .val (.int p2), .val (.int p3), .val (.int p4), .val (.int p5), .val (.int nn), .val (.int y0), .val (.int y1), .val (.int y2), .val (.int y3), .val (.ref b27), .val (.long (own_f2 g2)), .second, .unset, .unset] [(.long (-7723592293110705685 : Int64)), (.long (own_f2 g2))])
        obtain ⟨_, _, ⟨T31, L31, k31, n31⟩, -, X31, ⟨Lc31, hQ31, l31, y31, z31⟩, st31⟩ := Jvm.LawKit.callS X30 hx (y := (⟨"com/example/utsatt/utsatt/KeyHashesOfPinLaw", "inverse", "(J)J"⟩ : MethodName)) hown (mvT hZ (hw _ (List.mem_of_getElem? (i := 10) rfl))) (mvT hZ (hw _ (List.mem_of_getElem? (i := 11) rfl))) (mvT hZ (hw _ (List.mem_of_getElem? (i := 12) rfl))) (mvT hZ (hw _ (List.mem_of_getElem? (i := 13) rfl))) (by decide) (backOf (W := 2) (rm2 l Z a0 hw [] (-7723592293110705685 : Int64) h29 n0 Z_ ) hZ (hw _ (List.mem_of_getElem? (i := 13) rfl)) (hw _ (List.mem_of_getElem? (i := 12) rfl)) (by decide) (by decide)) (g := (mkF m 163 #[.val (.int p1), .val (.int p2), .val (.int p3), .val (.int p4), .val (.int p5), .val (.int nn), .val (.int y0), .val (.int y1), .val (.int y2), .val (.int y3), .val (.ref b27), .val (.long (own_f2 g2)), .second, .unset, .unset] [(.long (-7723592293110705685 : Int64)), (.long (own_f2 g2))])) rfl (by rw [hml]; rfl) (argsL := [(.long (-7723592293110705685 : Int64))]) (rest := [(.long (own_f2 g2))]) (lenOf pd_1 rfl) rfl (by show 2 * 0 + _ ≤ _; exact Nat.le_of_eq rfl) (hb hby at_163) (fun _ _ => ⟨rfl, e30, (by decide : 1 + 0 ≤ _), (by decide : 2 + 0 ≤ _)⟩)
        dsimp only [Pt.U, Pt.locs, Pt.cells, Pt.slots] at X31 l31 y31 z31 st31 hQ31
        subst l31 y31 z31
        obtain ⟨rfl, N31q, e31⟩ := hQ31
        have N31 := Fr.app N30 N31q
        refine OwnGo.st st31 ?_
        show OwnGo p e below s _ _ _ T31 (mkF m 166 #[.val (.int p1), .val (.int p2), .val (.int p3), .val (.int p4), .val (.int p5), .val (.int nn), .val (.int y0), .val (.int y1), .val (.int y2), .val (.int y3), .val (.ref b27), .val (.long (own_f2 g2)), .second, .unset, .unset] [(.long (own_inv (-7723592293110705685 : Int64))), (.long (own_f2 g2))])
        refine OwnGo.st (fun _ k => XS.lmul X31.here hx rfl (hb hby at_166) rfl k) ?_
        show OwnGo p e below s _ _ _ T31 (mkF m 167 #[.val (.int p1), .val (.int p2), .val (.int p3), .val (.int p4), .val (.int p5), .val (.int nn), .val (.int y0), .val (.int y1), .val (.int y2), .val (.int y3), .val (.ref b27), .val (.long (own_f2 g2)), .second, .unset, .unset] [(.long ((own_f2 g2) * (own_inv (-7723592293110705685 : Int64))))])
        rw [show (own_f2 g2 * own_inv (-7723592293110705685 : Int64)) = own_xs (own_f1 g2) 27 from own_k2 _]
        show OwnGo p e below s _ _ _ T31 (mkF m 167 #[.val (.int p1), .val (.int p2), .val (.int p3), .val (.int p4), .val (.int p5), .val (.int nn), .val (.int y0), .val (.int y1), .val (.int y2), .val (.int y3), .val (.ref b27), .val (.long (own_f2 g2)), .second, .unset, .unset] [(.long (own_xs (own_f1 g2) 27))])
        refine OwnGo.st (fun _ k => XS.lstore X31.here hx rfl (hb hby at_167) rfl (l' := #[.val (.int p1), .val (.int p2), .val (.int p3), .val (.int p4), .val (.int p5), .val (.int nn), .val (.int y0), .val (.int y1), .val (.int y2), .val (.int y3), .val (.ref b27), .val (.long (own_xs (own_f1 g2) 27)), .second, .unset, .unset]) rfl k) ?_
        show OwnGo p e below s _ _ _ T31 (mkF m 169 #[.val (.int p1), .val (.int p2), .val (.int p3), .val (.int p4), .val (.int p5), .val (.int nn), .val (.int y0), .val (.int y1), .val (.int y2), .val (.int y3), .val (.ref b27), .val (.long (own_xs (own_f1 g2) 27)), .second, .unset, .unset] [])
        refine OwnGo.st (fun _ k => XS.lload X31.here hx rfl (hb hby at_169) rfl  k) ?_
        show OwnGo p e below s _ _ _ T31 (mkF m 171 #[.val (.int p1), .val (.int p2), .val (.int p3), .val (.int p4), .val (.int p5), .val (.int nn), .val (.int y0), .val (.int y1), .val (.int y2), .val (.int y3), .val (.ref b27), .val (.long (own_xs (own_f1 g2) 27)), .second, .unset, .unset] [(.long (own_xs (own_f1 g2) 27))])
        refine OwnGo.st (fun _ k => XS.lload X31.here hx rfl (hb hby at_171) rfl  k) ?_
        show OwnGo p e below s _ _ _ T31 (mkF m 173 #[.val (.int p1), .val (.int p2), .val (.int p3), .val (.int p4), .val (.int p5), .val (.int nn), .val (.int y0), .val (.int y1), .val (.int y2), .val (.int y3), .val (.ref b27), .val (.long (own_xs (own_f1 g2) 27)), .second, .unset, .unset] [(.long (own_xs (own_f1 g2) 27)), (.long (own_xs (own_f1 g2) 27))])
        refine OwnGo.st (fun _ k => XS.bipush X31.here hx rfl (hb hby at_173) k) ?_
        show OwnGo p e below s _ _ _ T31 (mkF m 175 #[.val (.int p1), .val (.int p2), .val (.int p3), .val (.int p4), .val (.int p5), .val (.int nn), .val (.int y0), .val (.int y1), .val (.int y2), .val (.int y3), .val (.ref b27), .val (.long (own_xs (own_f1 g2) 27)), .second, .unset, .unset] [(.int (27 : Int32)), (.long (own_xs (own_f1 g2) 27)), (.long (own_xs (own_f1 g2) 27))])
        refine OwnGo.st (fun _ k => XS.lushr X31.here hx rfl (hb hby at_175) rfl k) ?_
        show OwnGo p e below s _ _ _ T31 (mkF m 176 #[.val (.int p1), .val (.int p2), .val (.int p3), .val (.int p4), .val (.int p5), .val (.int nn), .val (.int y0), .val (.int y1), .val (.int y2), .val (.int y3), .val (.ref b27), .val (.long (own_xs (own_f1 g2) 27)), .second, .unset, .unset] [(.long (((own_xs (own_f1 g2) 27).toUInt64 >>> ((27 : Int32) &&& 0x3f).toInt64.toUInt64).toInt64)), (.long (own_xs (own_f1 g2) 27))])
        refine OwnGo.st (fun _ k => XS.lxor X31.here hx rfl (hb hby at_176) rfl k) ?_
        show OwnGo p e below s _ _ _ T31 (mkF m 177 #[.val (.int p1), .val (.int p2), .val (.int p3), .val (.int p4), .val (.int p5), .val (.int nn), .val (.int y0), .val (.int y1), .val (.int y2), .val (.int y3), .val (.ref b27), .val (.long (own_xs (own_f1 g2) 27)), .second, .unset, .unset] [(.long ((own_xs (own_f1 g2) 27) ^^^ (((own_xs (own_f1 g2) 27).toUInt64 >>> ((27 : Int32) &&& 0x3f).toInt64.toUInt64).toInt64)))])
        refine OwnGo.st (fun _ k => XS.lload X31.here hx rfl (hb hby at_177) rfl  k) ?_
        show OwnGo p e below s _ _ _ T31 (mkF m 179 #[.val (.int p1), .val (.int p2), .val (.int p3), .val (.int p4), .val (.int p5), .val (.int nn), .val (.int y0), .val (.int y1), .val (.int y2), .val (.int y3), .val (.ref b27), .val (.long (own_xs (own_f1 g2) 27)), .second, .unset, .unset] [(.long (own_xs (own_f1 g2) 27)), (.long ((own_xs (own_f1 g2) 27) ^^^ (((own_xs (own_f1 g2) 27).toUInt64 >>> ((27 : Int32) &&& 0x3f).toInt64.toUInt64).toInt64)))])
        refine OwnGo.st (fun _ k => XS.bipush X31.here hx rfl (hb hby at_179) k) ?_
        show OwnGo p e below s _ _ _ T31 (mkF m 181 #[.val (.int p1), .val (.int p2), .val (.int p3), .val (.int p4), .val (.int p5), .val (.int nn), .val (.int y0), .val (.int y1), .val (.int y2), .val (.int y3), .val (.ref b27), .val (.long (own_xs (own_f1 g2) 27)), .second, .unset, .unset] [(.int (54 : Int32)), (.long (own_xs (own_f1 g2) 27)), (.long ((own_xs (own_f1 g2) 27) ^^^ (((own_xs (own_f1 g2) 27).toUInt64 >>> ((27 : Int32) &&& 0x3f).toInt64.toUInt64).toInt64)))])
        refine OwnGo.st (fun _ k => XS.lushr X31.here hx rfl (hb hby at_181) rfl k) ?_
        show OwnGo p e below s _ _ _ T31 (mkF m 182 #[.val (.int p1), .val (.int p2), .val (.int p3), .val (.int p4), .val (.int p5), .val (.int nn), .val (.int y0), .val (.int y1), .val (.int y2), .val (.int y3), .val (.ref b27), .val (.long (own_xs (own_f1 g2) 27)), .second, .unset, .unset] [(.long (((own_xs (own_f1 g2) 27).toUInt64 >>> ((54 : Int32) &&& 0x3f).toInt64.toUInt64).toInt64)), (.long ((own_xs (own_f1 g2) 27) ^^^ (((own_xs (own_f1 g2) 27).toUInt64 >>> ((27 : Int32) &&& 0x3f).toInt64.toUInt64).toInt64)))])
        refine OwnGo.st (fun _ k => XS.lxor X31.here hx rfl (hb hby at_182) rfl k) ?_
        show OwnGo p e below s _ _ _ T31 (mkF m 183 #[.val (.int p1), .val (.int p2), .val (.int p3), .val (.int p4), .val (.int p5), .val (.int nn), .val (.int y0), .val (.int y1), .val (.int y2), .val (.int y3), .val (.ref b27), .val (.long (own_xs (own_f1 g2) 27)), .second, .unset, .unset] [(.long (((own_xs (own_f1 g2) 27) ^^^ (((own_xs (own_f1 g2) 27).toUInt64 >>> ((27 : Int32) &&& 0x3f).toInt64.toUInt64).toInt64)) ^^^ (((own_xs (own_f1 g2) 27).toUInt64 >>> ((54 : Int32) &&& 0x3f).toInt64.toUInt64).toInt64)))])
        show OwnGo p e below s _ _ _ T31 (mkF m 183 #[.val (.int p1), .val (.int p2), .val (.int p3), .val (.int p4), .val (.int p5), .val (.int nn), .val (.int y0), .val (.int y1), .val (.int y2), .val (.int y3), .val (.ref b27), .val (.long (own_xs (own_f1 g2) 27)), .second, .unset, .unset] [(.long (own_un (own_xs (own_f1 g2) 27) 27 54))])
        rw [own_u27]
        show OwnGo p e below s _ _ _ T31 (mkF m 183 #[.val (.int p1), .val (.int p2), .val (.int p3), .val (.int p4), .val (.int p5), .val (.int nn), .val (.int y0), .val (.int y1), .val (.int y2), .val (.int y3), .val (.ref b27), .val (.long (own_xs (own_f1 g2) 27)), .second, .unset, .unset] [(.long (own_f1 g2))])
        refine OwnGo.st (fun _ k => XS.lstore X31.here hx rfl (hb hby at_183) rfl (l' := #[.val (.int p1), .val (.int p2), .val (.int p3), .val (.int p4), .val (.int p5), .val (.int nn), .val (.int y0), .val (.int y1), .val (.int y2), .val (.int y3), .val (.ref b27), .val (.long (own_f1 g2)), .second, .unset, .unset]) rfl k) ?_
        show OwnGo p e below s _ _ _ T31 (mkF m 185 #[.val (.int p1), .val (.int p2), .val (.int p3), .val (.int p4), .val (.int p5), .val (.int nn), .val (.int y0), .val (.int y1), .val (.int y2), .val (.int y3), .val (.ref b27), .val (.long (own_f1 g2)), .second, .unset, .unset] [])
        refine OwnGo.st (fun _ k => XS.lload X31.here hx rfl (hb hby at_185) rfl  k) ?_
        show OwnGo p e below s _ _ _ T31 (mkF m 187 #[.val (.int p1), .val (.int p2), .val (.int p3), .val (.int p4), .val (.int p5), .val (.int nn), .val (.int y0), .val (.int y1), .val (.int y2), .val (.int y3), .val (.ref b27), .val (.long (own_f1 g2)), .second, .unset, .unset] [(.long (own_f1 g2))])
        refine OwnGo.st (fun _ k => X31.ldc2Long hx hown (mvT hZ (hw _ (List.mem_of_getElem? (i := 15) rfl))) (g := (mkF m 187 #[.val (.int p1), .val (.int p2), .val (.int p3), .val (.int p4), .val (.int p5), .val (.int nn), .val (.int y0), .val (.int y1), .val (.int y2), .val (.int y3), .val (.ref b27), .val (.long (own_f1 g2)), .second, .unset, .unset] [(.long (own_f1 g2))])) rfl (hb hby at_187) _ k) ?_
        show OwnGo p e below s _ _ _ T31 (mkF m 190 #[.val (.int p1), .val (.int p2), .val (.int p3), .val (.int p4), .val (.int p5), .val (.int nn), .val (.int y0), .val (.int y1), .val (.int y2), .val (.int y3), .val (.ref b27), .val (.long (own_f1 g2)), .second, .unset, .unset] [(.long (-4658895280553007687 : Int64)), (.long (own_f1 g2))])
        obtain ⟨_, _, ⟨T32, L32, k32, n32⟩, -, X32, ⟨Lc32, hQ32, l32, y32, z32⟩, st32⟩ := Jvm.LawKit.callS X31 hx (y := (⟨"com/example/utsatt/utsatt/KeyHashesOfPinLaw", "inverse", "(J)J"⟩ : MethodName)) hown (mvT hZ (hw _ (List.mem_of_getElem? (i := 10) rfl))) (mvT hZ (hw _ (List.mem_of_getElem? (i := 11) rfl))) (mvT hZ (hw _ (List.mem_of_getElem? (i := 12) rfl))) (mvT hZ (hw _ (List.mem_of_getElem? (i := 13) rfl))) (by decide) (backOf (W := 2) (rm2 l Z a0 hw [] (-4658895280553007687 : Int64) h29 n0 Z_ ) hZ (hw _ (List.mem_of_getElem? (i := 13) rfl)) (hw _ (List.mem_of_getElem? (i := 12) rfl)) (by decide) (by decide)) (g := (mkF m 190 #[.val (.int p1), .val (.int p2), .val (.int p3), .val (.int p4), .val (.int p5), .val (.int nn), .val (.int y0), .val (.int y1), .val (.int y2), .val (.int y3), .val (.ref b27), .val (.long (own_f1 g2)), .second, .unset, .unset] [(.long (-4658895280553007687 : Int64)), (.long (own_f1 g2))])) rfl (by rw [hml]; rfl) (argsL := [(.long (-4658895280553007687 : Int64))]) (rest := [(.long (own_f1 g2))]) (lenOf pd_1 rfl) rfl (by show 2 * 0 + _ ≤ _; exact Nat.le_of_eq rfl) (hb hby at_190) (fun _ _ => ⟨rfl, e31, (by decide : 1 + 0 ≤ _), (by decide : 2 + 0 ≤ _)⟩)
        dsimp only [Pt.U, Pt.locs, Pt.cells, Pt.slots] at X32 l32 y32 z32 st32 hQ32
        subst l32 y32 z32
        obtain ⟨rfl, N32q, e32⟩ := hQ32
        have N32 := Fr.app N31 N32q
        refine OwnGo.st st32 ?_
        show OwnGo p e below s _ _ _ T32 (mkF m 193 #[.val (.int p1), .val (.int p2), .val (.int p3), .val (.int p4), .val (.int p5), .val (.int nn), .val (.int y0), .val (.int y1), .val (.int y2), .val (.int y3), .val (.ref b27), .val (.long (own_f1 g2)), .second, .unset, .unset] [(.long (own_inv (-4658895280553007687 : Int64))), (.long (own_f1 g2))])
        refine OwnGo.st (fun _ k => XS.lmul X32.here hx rfl (hb hby at_193) rfl k) ?_
        show OwnGo p e below s _ _ _ T32 (mkF m 194 #[.val (.int p1), .val (.int p2), .val (.int p3), .val (.int p4), .val (.int p5), .val (.int nn), .val (.int y0), .val (.int y1), .val (.int y2), .val (.int y3), .val (.ref b27), .val (.long (own_f1 g2)), .second, .unset, .unset] [(.long ((own_f1 g2) * (own_inv (-4658895280553007687 : Int64))))])
        rw [show (own_f1 g2 * own_inv (-4658895280553007687 : Int64)) = own_xs g2 30 from own_k1 _]
        show OwnGo p e below s _ _ _ T32 (mkF m 194 #[.val (.int p1), .val (.int p2), .val (.int p3), .val (.int p4), .val (.int p5), .val (.int nn), .val (.int y0), .val (.int y1), .val (.int y2), .val (.int y3), .val (.ref b27), .val (.long (own_f1 g2)), .second, .unset, .unset] [(.long (own_xs g2 30))])
        refine OwnGo.st (fun _ k => XS.lstore X32.here hx rfl (hb hby at_194) rfl (l' := #[.val (.int p1), .val (.int p2), .val (.int p3), .val (.int p4), .val (.int p5), .val (.int nn), .val (.int y0), .val (.int y1), .val (.int y2), .val (.int y3), .val (.ref b27), .val (.long (own_xs g2 30)), .second, .unset, .unset]) rfl k) ?_
        show OwnGo p e below s _ _ _ T32 (mkF m 196 #[.val (.int p1), .val (.int p2), .val (.int p3), .val (.int p4), .val (.int p5), .val (.int nn), .val (.int y0), .val (.int y1), .val (.int y2), .val (.int y3), .val (.ref b27), .val (.long (own_xs g2 30)), .second, .unset, .unset] [])
        refine OwnGo.st (fun _ k => XS.lload X32.here hx rfl (hb hby at_196) rfl  k) ?_
        show OwnGo p e below s _ _ _ T32 (mkF m 198 #[.val (.int p1), .val (.int p2), .val (.int p3), .val (.int p4), .val (.int p5), .val (.int nn), .val (.int y0), .val (.int y1), .val (.int y2), .val (.int y3), .val (.ref b27), .val (.long (own_xs g2 30)), .second, .unset, .unset] [(.long (own_xs g2 30))])
        refine OwnGo.st (fun _ k => XS.lload X32.here hx rfl (hb hby at_198) rfl  k) ?_
        show OwnGo p e below s _ _ _ T32 (mkF m 200 #[.val (.int p1), .val (.int p2), .val (.int p3), .val (.int p4), .val (.int p5), .val (.int nn), .val (.int y0), .val (.int y1), .val (.int y2), .val (.int y3), .val (.ref b27), .val (.long (own_xs g2 30)), .second, .unset, .unset] [(.long (own_xs g2 30)), (.long (own_xs g2 30))])
        refine OwnGo.st (fun _ k => XS.bipush X32.here hx rfl (hb hby at_200) k) ?_
        show OwnGo p e below s _ _ _ T32 (mkF m 202 #[.val (.int p1), .val (.int p2), .val (.int p3), .val (.int p4), .val (.int p5), .val (.int nn), .val (.int y0), .val (.int y1), .val (.int y2), .val (.int y3), .val (.ref b27), .val (.long (own_xs g2 30)), .second, .unset, .unset] [(.int (30 : Int32)), (.long (own_xs g2 30)), (.long (own_xs g2 30))])
        refine OwnGo.st (fun _ k => XS.lushr X32.here hx rfl (hb hby at_202) rfl k) ?_
        show OwnGo p e below s _ _ _ T32 (mkF m 203 #[.val (.int p1), .val (.int p2), .val (.int p3), .val (.int p4), .val (.int p5), .val (.int nn), .val (.int y0), .val (.int y1), .val (.int y2), .val (.int y3), .val (.ref b27), .val (.long (own_xs g2 30)), .second, .unset, .unset] [(.long (((own_xs g2 30).toUInt64 >>> ((30 : Int32) &&& 0x3f).toInt64.toUInt64).toInt64)), (.long (own_xs g2 30))])
        refine OwnGo.st (fun _ k => XS.lxor X32.here hx rfl (hb hby at_203) rfl k) ?_
        show OwnGo p e below s _ _ _ T32 (mkF m 204 #[.val (.int p1), .val (.int p2), .val (.int p3), .val (.int p4), .val (.int p5), .val (.int nn), .val (.int y0), .val (.int y1), .val (.int y2), .val (.int y3), .val (.ref b27), .val (.long (own_xs g2 30)), .second, .unset, .unset] [(.long ((own_xs g2 30) ^^^ (((own_xs g2 30).toUInt64 >>> ((30 : Int32) &&& 0x3f).toInt64.toUInt64).toInt64)))])
        refine OwnGo.st (fun _ k => XS.lload X32.here hx rfl (hb hby at_204) rfl  k) ?_
        show OwnGo p e below s _ _ _ T32 (mkF m 206 #[.val (.int p1), .val (.int p2), .val (.int p3), .val (.int p4), .val (.int p5), .val (.int nn), .val (.int y0), .val (.int y1), .val (.int y2), .val (.int y3), .val (.ref b27), .val (.long (own_xs g2 30)), .second, .unset, .unset] [(.long (own_xs g2 30)), (.long ((own_xs g2 30) ^^^ (((own_xs g2 30).toUInt64 >>> ((30 : Int32) &&& 0x3f).toInt64.toUInt64).toInt64)))])
        refine OwnGo.st (fun _ k => XS.bipush X32.here hx rfl (hb hby at_206) k) ?_
        show OwnGo p e below s _ _ _ T32 (mkF m 208 #[.val (.int p1), .val (.int p2), .val (.int p3), .val (.int p4), .val (.int p5), .val (.int nn), .val (.int y0), .val (.int y1), .val (.int y2), .val (.int y3), .val (.ref b27), .val (.long (own_xs g2 30)), .second, .unset, .unset] [(.int (60 : Int32)), (.long (own_xs g2 30)), (.long ((own_xs g2 30) ^^^ (((own_xs g2 30).toUInt64 >>> ((30 : Int32) &&& 0x3f).toInt64.toUInt64).toInt64)))])
        refine OwnGo.st (fun _ k => XS.lushr X32.here hx rfl (hb hby at_208) rfl k) ?_
        show OwnGo p e below s _ _ _ T32 (mkF m 209 #[.val (.int p1), .val (.int p2), .val (.int p3), .val (.int p4), .val (.int p5), .val (.int nn), .val (.int y0), .val (.int y1), .val (.int y2), .val (.int y3), .val (.ref b27), .val (.long (own_xs g2 30)), .second, .unset, .unset] [(.long (((own_xs g2 30).toUInt64 >>> ((60 : Int32) &&& 0x3f).toInt64.toUInt64).toInt64)), (.long ((own_xs g2 30) ^^^ (((own_xs g2 30).toUInt64 >>> ((30 : Int32) &&& 0x3f).toInt64.toUInt64).toInt64)))])
        refine OwnGo.st (fun _ k => XS.lxor X32.here hx rfl (hb hby at_209) rfl k) ?_
        show OwnGo p e below s _ _ _ T32 (mkF m 210 #[.val (.int p1), .val (.int p2), .val (.int p3), .val (.int p4), .val (.int p5), .val (.int nn), .val (.int y0), .val (.int y1), .val (.int y2), .val (.int y3), .val (.ref b27), .val (.long (own_xs g2 30)), .second, .unset, .unset] [(.long (((own_xs g2 30) ^^^ (((own_xs g2 30).toUInt64 >>> ((30 : Int32) &&& 0x3f).toInt64.toUInt64).toInt64)) ^^^ (((own_xs g2 30).toUInt64 >>> ((60 : Int32) &&& 0x3f).toInt64.toUInt64).toInt64)))])
        show OwnGo p e below s _ _ _ T32 (mkF m 210 #[.val (.int p1), .val (.int p2), .val (.int p3), .val (.int p4), .val (.int p5), .val (.int nn), .val (.int y0), .val (.int y1), .val (.int y2), .val (.int y3), .val (.ref b27), .val (.long (own_xs g2 30)), .second, .unset, .unset] [(.long (own_un (own_xs g2 30) 30 60))])
        rw [own_u30]
        show OwnGo p e below s _ _ _ T32 (mkF m 210 #[.val (.int p1), .val (.int p2), .val (.int p3), .val (.int p4), .val (.int p5), .val (.int nn), .val (.int y0), .val (.int y1), .val (.int y2), .val (.int y3), .val (.ref b27), .val (.long (own_xs g2 30)), .second, .unset, .unset] [(.long g2)])
        refine OwnGo.st (fun _ k => XS.lstore X32.here hx rfl (hb hby at_210) rfl (l' := #[.val (.int p1), .val (.int p2), .val (.int p3), .val (.int p4), .val (.int p5), .val (.int nn), .val (.int y0), .val (.int y1), .val (.int y2), .val (.int y3), .val (.ref b27), .val (.long g2), .second, .unset, .unset]) rfl k) ?_
        show OwnGo p e below s _ _ _ T32 (mkF m 212 #[.val (.int p1), .val (.int p2), .val (.int p3), .val (.int p4), .val (.int p5), .val (.int nn), .val (.int y0), .val (.int y1), .val (.int y2), .val (.int y3), .val (.ref b27), .val (.long g2), .second, .unset, .unset] [])
        refine OwnGo.st (fun _ k => X32.ldc2Long hx hown (mvT hZ (hw _ (List.mem_of_getElem? (i := 16) rfl))) (g := (mkF m 212 #[.val (.int p1), .val (.int p2), .val (.int p3), .val (.int p4), .val (.int p5), .val (.int nn), .val (.int y0), .val (.int y1), .val (.int y2), .val (.int y3), .val (.ref b27), .val (.long g2), .second, .unset, .unset] [])) rfl (hb hby at_212) _ k) ?_
        show OwnGo p e below s _ _ _ T32 (mkF m 215 #[.val (.int p1), .val (.int p2), .val (.int p3), .val (.int p4), .val (.int p5), .val (.int nn), .val (.int y0), .val (.int y1), .val (.int y2), .val (.int y3), .val (.ref b27), .val (.long g2), .second, .unset, .unset] [(.long (1099511628211 : Int64))])
        obtain ⟨_, _, ⟨T33, L33, k33, n33⟩, -, X33, ⟨Lc33, hQ33, l33, y33, z33⟩, st33⟩ := Jvm.LawKit.callS X32 hx (y := (⟨"com/example/utsatt/utsatt/KeyHashesOfPinLaw", "inverse", "(J)J"⟩ : MethodName)) hown (mvT hZ (hw _ (List.mem_of_getElem? (i := 10) rfl))) (mvT hZ (hw _ (List.mem_of_getElem? (i := 11) rfl))) (mvT hZ (hw _ (List.mem_of_getElem? (i := 12) rfl))) (mvT hZ (hw _ (List.mem_of_getElem? (i := 13) rfl))) (by decide) (backOf (W := 0) (rm2 l Z a0 hw [] (1099511628211 : Int64) h29 n0 Z_ ) hZ (hw _ (List.mem_of_getElem? (i := 13) rfl)) (hw _ (List.mem_of_getElem? (i := 12) rfl)) (by decide) (by decide)) (g := (mkF m 215 #[.val (.int p1), .val (.int p2), .val (.int p3), .val (.int p4), .val (.int p5), .val (.int nn), .val (.int y0), .val (.int y1), .val (.int y2), .val (.int y3), .val (.ref b27), .val (.long g2), .second, .unset, .unset] [(.long (1099511628211 : Int64))])) rfl (by rw [hml]; rfl) (argsL := [(.long (1099511628211 : Int64))]) (rest := []) (lenOf pd_1 rfl) rfl (by show 2 * 0 + _ ≤ _; exact Nat.le_of_eq rfl) (hb hby at_215) (fun _ _ => ⟨rfl, e32, (by decide : 1 + 0 ≤ _), (by decide : 2 + 0 ≤ _)⟩)
        dsimp only [Pt.U, Pt.locs, Pt.cells, Pt.slots] at X33 l33 y33 z33 st33 hQ33
        subst l33 y33 z33
        obtain ⟨rfl, N33q, e33⟩ := hQ33
        have N33 := Fr.app N32 N33q
        refine OwnGo.st st33 ?_
        show OwnGo p e below s _ _ _ T33 (mkF m 218 #[.val (.int p1), .val (.int p2), .val (.int p3), .val (.int p4), .val (.int p5), .val (.int nn), .val (.int y0), .val (.int y1), .val (.int y2), .val (.int y3), .val (.ref b27), .val (.long g2), .second, .unset, .unset] [(.long (own_inv (1099511628211 : Int64)))])
        refine OwnGo.st (fun _ k => XS.lstore X33.here hx rfl (hb hby at_218) rfl (l' := #[.val (.int p1), .val (.int p2), .val (.int p3), .val (.int p4), .val (.int p5), .val (.int nn), .val (.int y0), .val (.int y1), .val (.int y2), .val (.int y3), .val (.ref b27), .val (.long g2), .second, .val (.long (own_inv (1099511628211 : Int64))), .second]) rfl k) ?_
        show OwnGo p e below s _ _ _ T33 (mkF m 220 #[.val (.int p1), .val (.int p2), .val (.int p3), .val (.int p4), .val (.int p5), .val (.int nn), .val (.int y0), .val (.int y1), .val (.int y2), .val (.int y3), .val (.ref b27), .val (.long g2), .second, .val (.long (own_inv (1099511628211 : Int64))), .second] [])
        refine OwnGo.st (fun _ k => XS.iload X33.here hx rfl (hb hby at_220) rfl  k) ?_
        show OwnGo p e below s _ _ _ T33 (mkF m 222 #[.val (.int p1), .val (.int p2), .val (.int p3), .val (.int p4), .val (.int p5), .val (.int nn), .val (.int y0), .val (.int y1), .val (.int y2), .val (.int y3), .val (.ref b27), .val (.long g2), .second, .val (.long (own_inv (1099511628211 : Int64))), .second] [(.int nn)])
        refine OwnGo.st (fun _ k => XS.iconst X33.here hx rfl (hb hby at_222) k) ?_
        show OwnGo p e below s _ _ _ T33 (mkF m 223 #[.val (.int p1), .val (.int p2), .val (.int p3), .val (.int p4), .val (.int p5), .val (.int nn), .val (.int y0), .val (.int y1), .val (.int y2), .val (.int y3), .val (.ref b27), .val (.long g2), .second, .val (.long (own_inv (1099511628211 : Int64))), .second] [(.int (4 : Int32)), (.int nn)])
        refine OwnGo.st (fun _ k => XS.icmpYes X33.here hx rfl (pc0 := 223) (pc' := 241) rfl (hb hby at_223) rfl (tlt ((by rw [hk2]; decide) : nn < (4 : Int32))).1 (by decide) (by decide) k) ?_
        show OwnGo p e below s _ _ _ T33 (mkF m 241 #[.val (.int p1), .val (.int p2), .val (.int p3), .val (.int p4), .val (.int p5), .val (.int nn), .val (.int y0), .val (.int y1), .val (.int y2), .val (.int y3), .val (.ref b27), .val (.long g2), .second, .val (.long (own_inv (1099511628211 : Int64))), .second] [])
        refine OwnGo.st (fun _ k => XS.iload X33.here hx rfl (hb hby at_241) rfl  k) ?_
        show OwnGo p e below s _ _ _ T33 (mkF m 243 #[.val (.int p1), .val (.int p2), .val (.int p3), .val (.int p4), .val (.int p5), .val (.int nn), .val (.int y0), .val (.int y1), .val (.int y2), .val (.int y3), .val (.ref b27), .val (.long g2), .second, .val (.long (own_inv (1099511628211 : Int64))), .second] [(.int nn)])
        refine OwnGo.st (fun _ k => XS.iconst X33.here hx rfl (hb hby at_243) k) ?_
        show OwnGo p e below s _ _ _ T33 (mkF m 244 #[.val (.int p1), .val (.int p2), .val (.int p3), .val (.int p4), .val (.int p5), .val (.int nn), .val (.int y0), .val (.int y1), .val (.int y2), .val (.int y3), .val (.ref b27), .val (.long g2), .second, .val (.long (own_inv (1099511628211 : Int64))), .second] [(.int (3 : Int32)), (.int nn)])
        refine OwnGo.st (fun _ k => XS.icmpYes X33.here hx rfl (pc0 := 244) (pc' := 262) rfl (hb hby at_244) rfl (tlt ((by rw [hk2]; decide) : nn < (3 : Int32))).1 (by decide) (by decide) k) ?_
        show OwnGo p e below s _ _ _ T33 (mkF m 262 #[.val (.int p1), .val (.int p2), .val (.int p3), .val (.int p4), .val (.int p5), .val (.int nn), .val (.int y0), .val (.int y1), .val (.int y2), .val (.int y3), .val (.ref b27), .val (.long g2), .second, .val (.long (own_inv (1099511628211 : Int64))), .second] [])
        refine OwnGo.st (fun _ k => XS.iload X33.here hx rfl (hb hby at_262) rfl  k) ?_
        show OwnGo p e below s _ _ _ T33 (mkF m 264 #[.val (.int p1), .val (.int p2), .val (.int p3), .val (.int p4), .val (.int p5), .val (.int nn), .val (.int y0), .val (.int y1), .val (.int y2), .val (.int y3), .val (.ref b27), .val (.long g2), .second, .val (.long (own_inv (1099511628211 : Int64))), .second] [(.int nn)])
        refine OwnGo.st (fun _ k => XS.iconst X33.here hx rfl (hb hby at_264) k) ?_
        show OwnGo p e below s _ _ _ T33 (mkF m 265 #[.val (.int p1), .val (.int p2), .val (.int p3), .val (.int p4), .val (.int p5), .val (.int nn), .val (.int y0), .val (.int y1), .val (.int y2), .val (.int y3), .val (.ref b27), .val (.long g2), .second, .val (.long (own_inv (1099511628211 : Int64))), .second] [(.int (2 : Int32)), (.int nn)])
        refine OwnGo.st (fun _ k => XS.icmpNo X33.here hx rfl (hb hby at_265) rfl (flt ((by rw [hk2]; decide) : ¬ (nn < (2 : Int32)))).1 k) ?_
        show OwnGo p e below s _ _ _ T33 (mkF m 268 #[.val (.int p1), .val (.int p2), .val (.int p3), .val (.int p4), .val (.int p5), .val (.int nn), .val (.int y0), .val (.int y1), .val (.int y2), .val (.int y3), .val (.ref b27), .val (.long g2), .second, .val (.long (own_inv (1099511628211 : Int64))), .second] [])
        refine OwnGo.st (fun _ k => XS.lload X33.here hx rfl (hb hby at_268) rfl  k) ?_
        show OwnGo p e below s _ _ _ T33 (mkF m 270 #[.val (.int p1), .val (.int p2), .val (.int p3), .val (.int p4), .val (.int p5), .val (.int nn), .val (.int y0), .val (.int y1), .val (.int y2), .val (.int y3), .val (.ref b27), .val (.long g2), .second, .val (.long (own_inv (1099511628211 : Int64))), .second] [(.long g2)])
        refine OwnGo.st (fun _ k => XS.lload X33.here hx rfl (hb hby at_270) rfl  k) ?_
        show OwnGo p e below s _ _ _ T33 (mkF m 272 #[.val (.int p1), .val (.int p2), .val (.int p3), .val (.int p4), .val (.int p5), .val (.int nn), .val (.int y0), .val (.int y1), .val (.int y2), .val (.int y3), .val (.ref b27), .val (.long g2), .second, .val (.long (own_inv (1099511628211 : Int64))), .second] [(.long (own_inv (1099511628211 : Int64))), (.long g2)])
        refine OwnGo.st (fun _ k => XS.lmul X33.here hx rfl (hb hby at_272) rfl k) ?_
        show OwnGo p e below s _ _ _ T33 (mkF m 273 #[.val (.int p1), .val (.int p2), .val (.int p3), .val (.int p4), .val (.int p5), .val (.int nn), .val (.int y0), .val (.int y1), .val (.int y2), .val (.int y3), .val (.ref b27), .val (.long g2), .second, .val (.long (own_inv (1099511628211 : Int64))), .second] [(.long (g2 * (own_inv (1099511628211 : Int64))))])
        refine OwnGo.st (fun _ k => XS.iload X33.here hx rfl (hb hby at_273) rfl  k) ?_
        show OwnGo p e below s _ _ _ T33 (mkF m 275 #[.val (.int p1), .val (.int p2), .val (.int p3), .val (.int p4), .val (.int p5), .val (.int nn), .val (.int y0), .val (.int y1), .val (.int y2), .val (.int y3), .val (.ref b27), .val (.long g2), .second, .val (.long (own_inv (1099511628211 : Int64))), .second] [(.int y1), (.long (g2 * (own_inv (1099511628211 : Int64))))])
        refine OwnGo.st (fun _ k => XS.sipush X33.here hx rfl (hb hby at_275) k) ?_
        show OwnGo p e below s _ _ _ T33 (mkF m 278 #[.val (.int p1), .val (.int p2), .val (.int p3), .val (.int p4), .val (.int p5), .val (.int nn), .val (.int y0), .val (.int y1), .val (.int y2), .val (.int y3), .val (.ref b27), .val (.long g2), .second, .val (.long (own_inv (1099511628211 : Int64))), .second] [(.int (255 : Int32)), (.int y1), (.long (g2 * (own_inv (1099511628211 : Int64))))])
        refine OwnGo.st (fun _ k => XS.iand X33.here hx rfl (hb hby at_278) rfl k) ?_
        show OwnGo p e below s _ _ _ T33 (mkF m 279 #[.val (.int p1), .val (.int p2), .val (.int p3), .val (.int p4), .val (.int p5), .val (.int nn), .val (.int y0), .val (.int y1), .val (.int y2), .val (.int y3), .val (.ref b27), .val (.long g2), .second, .val (.long (own_inv (1099511628211 : Int64))), .second] [(.int (y1 &&& (255 : Int32))), (.long (g2 * (own_inv (1099511628211 : Int64))))])
        refine OwnGo.st (fun _ k => XS.i2l X33.here hx rfl (hb hby at_279) rfl k) ?_
        show OwnGo p e below s _ _ _ T33 (mkF m 280 #[.val (.int p1), .val (.int p2), .val (.int p3), .val (.int p4), .val (.int p5), .val (.int nn), .val (.int y0), .val (.int y1), .val (.int y2), .val (.int y3), .val (.ref b27), .val (.long g2), .second, .val (.long (own_inv (1099511628211 : Int64))), .second] [(.long ((y1 &&& (255 : Int32)).toInt64)), (.long (g2 * (own_inv (1099511628211 : Int64))))])
        refine OwnGo.st (fun _ k => XS.lxor X33.here hx rfl (hb hby at_280) rfl k) ?_
        show OwnGo p e below s _ _ _ T33 (mkF m 281 #[.val (.int p1), .val (.int p2), .val (.int p3), .val (.int p4), .val (.int p5), .val (.int nn), .val (.int y0), .val (.int y1), .val (.int y2), .val (.int y3), .val (.ref b27), .val (.long g2), .second, .val (.long (own_inv (1099511628211 : Int64))), .second] [(.long ((g2 * (own_inv (1099511628211 : Int64))) ^^^ ((y1 &&& (255 : Int32)).toInt64)))])
        rw [show (g2 * own_inv (1099511628211 : Int64) ^^^ (y1 &&& (255 : Int32)).toInt64) = g1 from (by rw [hg2]; exact own_peel _ _)]
        show OwnGo p e below s _ _ _ T33 (mkF m 281 #[.val (.int p1), .val (.int p2), .val (.int p3), .val (.int p4), .val (.int p5), .val (.int nn), .val (.int y0), .val (.int y1), .val (.int y2), .val (.int y3), .val (.ref b27), .val (.long g2), .second, .val (.long (own_inv (1099511628211 : Int64))), .second] [(.long g1)])
        refine OwnGo.st (fun _ k => XS.lstore X33.here hx rfl (hb hby at_281) rfl (l' := #[.val (.int p1), .val (.int p2), .val (.int p3), .val (.int p4), .val (.int p5), .val (.int nn), .val (.int y0), .val (.int y1), .val (.int y2), .val (.int y3), .val (.ref b27), .val (.long g1), .second, .val (.long (own_inv (1099511628211 : Int64))), .second]) rfl k) ?_
        show OwnGo p e below s _ _ _ T33 (mkF m 283 #[.val (.int p1), .val (.int p2), .val (.int p3), .val (.int p4), .val (.int p5), .val (.int nn), .val (.int y0), .val (.int y1), .val (.int y2), .val (.int y3), .val (.ref b27), .val (.long g1), .second, .val (.long (own_inv (1099511628211 : Int64))), .second] [])
        refine OwnGo.st (fun _ k => XS.iload X33.here hx rfl (hb hby at_283) rfl  k) ?_
        show OwnGo p e below s _ _ _ T33 (mkF m 285 #[.val (.int p1), .val (.int p2), .val (.int p3), .val (.int p4), .val (.int p5), .val (.int nn), .val (.int y0), .val (.int y1), .val (.int y2), .val (.int y3), .val (.ref b27), .val (.long g1), .second, .val (.long (own_inv (1099511628211 : Int64))), .second] [(.int nn)])
        refine OwnGo.st (fun _ k => XS.iconst X33.here hx rfl (hb hby at_285) k) ?_
        show OwnGo p e below s _ _ _ T33 (mkF m 286 #[.val (.int p1), .val (.int p2), .val (.int p3), .val (.int p4), .val (.int p5), .val (.int nn), .val (.int y0), .val (.int y1), .val (.int y2), .val (.int y3), .val (.ref b27), .val (.long g1), .second, .val (.long (own_inv (1099511628211 : Int64))), .second] [(.int (1 : Int32)), (.int nn)])
        refine OwnGo.st (fun _ k => XS.icmpNo X33.here hx rfl (hb hby at_286) rfl (flt ((by rw [hk2]; decide) : ¬ (nn < (1 : Int32)))).1 k) ?_
        show OwnGo p e below s _ _ _ T33 (mkF m 289 #[.val (.int p1), .val (.int p2), .val (.int p3), .val (.int p4), .val (.int p5), .val (.int nn), .val (.int y0), .val (.int y1), .val (.int y2), .val (.int y3), .val (.ref b27), .val (.long g1), .second, .val (.long (own_inv (1099511628211 : Int64))), .second] [])
        refine OwnGo.st (fun _ k => XS.lload X33.here hx rfl (hb hby at_289) rfl  k) ?_
        show OwnGo p e below s _ _ _ T33 (mkF m 291 #[.val (.int p1), .val (.int p2), .val (.int p3), .val (.int p4), .val (.int p5), .val (.int nn), .val (.int y0), .val (.int y1), .val (.int y2), .val (.int y3), .val (.ref b27), .val (.long g1), .second, .val (.long (own_inv (1099511628211 : Int64))), .second] [(.long g1)])
        refine OwnGo.st (fun _ k => XS.lload X33.here hx rfl (hb hby at_291) rfl  k) ?_
        show OwnGo p e below s _ _ _ T33 (mkF m 293 #[.val (.int p1), .val (.int p2), .val (.int p3), .val (.int p4), .val (.int p5), .val (.int nn), .val (.int y0), .val (.int y1), .val (.int y2), .val (.int y3), .val (.ref b27), .val (.long g1), .second, .val (.long (own_inv (1099511628211 : Int64))), .second] [(.long (own_inv (1099511628211 : Int64))), (.long g1)])
        refine OwnGo.st (fun _ k => XS.lmul X33.here hx rfl (hb hby at_293) rfl k) ?_
        show OwnGo p e below s _ _ _ T33 (mkF m 294 #[.val (.int p1), .val (.int p2), .val (.int p3), .val (.int p4), .val (.int p5), .val (.int nn), .val (.int y0), .val (.int y1), .val (.int y2), .val (.int y3), .val (.ref b27), .val (.long g1), .second, .val (.long (own_inv (1099511628211 : Int64))), .second] [(.long (g1 * (own_inv (1099511628211 : Int64))))])
        refine OwnGo.st (fun _ k => XS.iload X33.here hx rfl (hb hby at_294) rfl  k) ?_
        show OwnGo p e below s _ _ _ T33 (mkF m 296 #[.val (.int p1), .val (.int p2), .val (.int p3), .val (.int p4), .val (.int p5), .val (.int nn), .val (.int y0), .val (.int y1), .val (.int y2), .val (.int y3), .val (.ref b27), .val (.long g1), .second, .val (.long (own_inv (1099511628211 : Int64))), .second] [(.int y0), (.long (g1 * (own_inv (1099511628211 : Int64))))])
        refine OwnGo.st (fun _ k => XS.sipush X33.here hx rfl (hb hby at_296) k) ?_
        show OwnGo p e below s _ _ _ T33 (mkF m 299 #[.val (.int p1), .val (.int p2), .val (.int p3), .val (.int p4), .val (.int p5), .val (.int nn), .val (.int y0), .val (.int y1), .val (.int y2), .val (.int y3), .val (.ref b27), .val (.long g1), .second, .val (.long (own_inv (1099511628211 : Int64))), .second] [(.int (255 : Int32)), (.int y0), (.long (g1 * (own_inv (1099511628211 : Int64))))])
        refine OwnGo.st (fun _ k => XS.iand X33.here hx rfl (hb hby at_299) rfl k) ?_
        show OwnGo p e below s _ _ _ T33 (mkF m 300 #[.val (.int p1), .val (.int p2), .val (.int p3), .val (.int p4), .val (.int p5), .val (.int nn), .val (.int y0), .val (.int y1), .val (.int y2), .val (.int y3), .val (.ref b27), .val (.long g1), .second, .val (.long (own_inv (1099511628211 : Int64))), .second] [(.int (y0 &&& (255 : Int32))), (.long (g1 * (own_inv (1099511628211 : Int64))))])
        refine OwnGo.st (fun _ k => XS.i2l X33.here hx rfl (hb hby at_300) rfl k) ?_
        show OwnGo p e below s _ _ _ T33 (mkF m 301 #[.val (.int p1), .val (.int p2), .val (.int p3), .val (.int p4), .val (.int p5), .val (.int nn), .val (.int y0), .val (.int y1), .val (.int y2), .val (.int y3), .val (.ref b27), .val (.long g1), .second, .val (.long (own_inv (1099511628211 : Int64))), .second] [(.long ((y0 &&& (255 : Int32)).toInt64)), (.long (g1 * (own_inv (1099511628211 : Int64))))])
        refine OwnGo.st (fun _ k => XS.lxor X33.here hx rfl (hb hby at_301) rfl k) ?_
        show OwnGo p e below s _ _ _ T33 (mkF m 302 #[.val (.int p1), .val (.int p2), .val (.int p3), .val (.int p4), .val (.int p5), .val (.int nn), .val (.int y0), .val (.int y1), .val (.int y2), .val (.int y3), .val (.ref b27), .val (.long g1), .second, .val (.long (own_inv (1099511628211 : Int64))), .second] [(.long ((g1 * (own_inv (1099511628211 : Int64))) ^^^ ((y0 &&& (255 : Int32)).toInt64)))])
        rw [show (g1 * own_inv (1099511628211 : Int64) ^^^ (y0 &&& (255 : Int32)).toInt64) = (-3750763034362895579 : Int64) from (by rw [hg1]; exact own_peel _ _)]
        show OwnGo p e below s _ _ _ T33 (mkF m 302 #[.val (.int p1), .val (.int p2), .val (.int p3), .val (.int p4), .val (.int p5), .val (.int nn), .val (.int y0), .val (.int y1), .val (.int y2), .val (.int y3), .val (.ref b27), .val (.long g1), .second, .val (.long (own_inv (1099511628211 : Int64))), .second] [(.long (-3750763034362895579 : Int64))])
        refine OwnGo.st (fun _ k => XS.lstore X33.here hx rfl (hb hby at_302) rfl (l' := #[.val (.int p1), .val (.int p2), .val (.int p3), .val (.int p4), .val (.int p5), .val (.int nn), .val (.int y0), .val (.int y1), .val (.int y2), .val (.int y3), .val (.ref b27), .val (.long (-3750763034362895579 : Int64)), .second, .val (.long (own_inv (1099511628211 : Int64))), .second]) rfl k) ?_
        show OwnGo p e below s _ _ _ T33 (mkF m 304 #[.val (.int p1), .val (.int p2), .val (.int p3), .val (.int p4), .val (.int p5), .val (.int nn), .val (.int y0), .val (.int y1), .val (.int y2), .val (.int y3), .val (.ref b27), .val (.long (-3750763034362895579 : Int64)), .second, .val (.long (own_inv (1099511628211 : Int64))), .second] [])
        refine OwnGo.st (fun _ k => XS.lload X33.here hx rfl (hb hby at_304) rfl  k) ?_
        show OwnGo p e below s _ _ _ T33 (mkF m 306 #[.val (.int p1), .val (.int p2), .val (.int p3), .val (.int p4), .val (.int p5), .val (.int nn), .val (.int y0), .val (.int y1), .val (.int y2), .val (.int y3), .val (.ref b27), .val (.long (-3750763034362895579 : Int64)), .second, .val (.long (own_inv (1099511628211 : Int64))), .second] [(.long (-3750763034362895579 : Int64))])
        refine OwnGo.st (fun _ k => X33.ldc2Long hx hown (mvT hZ (hw _ (List.mem_of_getElem? (i := 17) rfl))) (g := (mkF m 306 #[.val (.int p1), .val (.int p2), .val (.int p3), .val (.int p4), .val (.int p5), .val (.int nn), .val (.int y0), .val (.int y1), .val (.int y2), .val (.int y3), .val (.ref b27), .val (.long (-3750763034362895579 : Int64)), .second, .val (.long (own_inv (1099511628211 : Int64))), .second] [(.long (-3750763034362895579 : Int64))])) rfl (hb hby at_306) _ k) ?_
        show OwnGo p e below s _ _ _ T33 (mkF m 309 #[.val (.int p1), .val (.int p2), .val (.int p3), .val (.int p4), .val (.int p5), .val (.int nn), .val (.int y0), .val (.int y1), .val (.int y2), .val (.int y3), .val (.ref b27), .val (.long (-3750763034362895579 : Int64)), .second, .val (.long (own_inv (1099511628211 : Int64))), .second] [(.long (-3750763034362895579 : Int64)), (.long (-3750763034362895579 : Int64))])
        refine OwnGo.st (fun _ k => XS.lcmp X33.here hx rfl (hb hby at_309) rfl k) ?_
        show OwnGo p e below s _ _ _ T33 (mkF m 310 #[.val (.int p1), .val (.int p2), .val (.int p3), .val (.int p4), .val (.int p5), .val (.int nn), .val (.int y0), .val (.int y1), .val (.int y2), .val (.int y3), .val (.ref b27), .val (.long (-3750763034362895579 : Int64)), .second, .val (.long (own_inv (1099511628211 : Int64))), .second] [(.int (lcmpW (-3750763034362895579 : Int64) (-3750763034362895579 : Int64)))])
        refine OwnGo.st (fun _ k => XS.ifNo X33.here hx rfl (hb hby at_310) rfl ((if0 _ _).trans (teq ((lw_eq _ _).2 rfl : (lcmpW (-3750763034362895579 : Int64) (-3750763034362895579 : Int64)) = (0 : Int32))).2) k) ?_
        show OwnGo p e below s _ _ _ T33 (mkF m 313 #[.val (.int p1), .val (.int p2), .val (.int p3), .val (.int p4), .val (.int p5), .val (.int nn), .val (.int y0), .val (.int y1), .val (.int y2), .val (.int y3), .val (.ref b27), .val (.long (-3750763034362895579 : Int64)), .second, .val (.long (own_inv (1099511628211 : Int64))), .second] [])
        refine OwnGo.st (fun _ k => XS.iconst X33.here hx rfl (hb hby at_313) k) ?_
        show OwnGo p e below s _ _ _ T33 (mkF m 314 #[.val (.int p1), .val (.int p2), .val (.int p3), .val (.int p4), .val (.int p5), .val (.int nn), .val (.int y0), .val (.int y1), .val (.int y2), .val (.int y3), .val (.ref b27), .val (.long (-3750763034362895579 : Int64)), .second, .val (.long (own_inv (1099511628211 : Int64))), .second] [(.int (1 : Int32))])
        refine OwnGo.st (fun _ k => XS.goto X33.here hx rfl (pc0 := 314) (pc' := 318) rfl (hb hby at_314) (by decide) (by decide) k) ?_
        show OwnGo p e below s _ _ _ T33 (mkF m 318 #[.val (.int p1), .val (.int p2), .val (.int p3), .val (.int p4), .val (.int p5), .val (.int nn), .val (.int y0), .val (.int y1), .val (.int y2), .val (.int y3), .val (.ref b27), .val (.long (-3750763034362895579 : Int64)), .second, .val (.long (own_inv (1099511628211 : Int64))), .second] [(.int (1 : Int32))])
        exact OwnGo.retN X33 hx (t := .boolean) hret hlk (by simp) (hb hby at_318) (by show Q0 Z p1 p2 p3 p4 p5 h0 n0 _ T33.heap _; rw [e33]; exact ⟨rfl, N33⟩) (by decide) (by decide)
      · refine OwnGo.st (fun _ k => XS.icmpYes X0.here hx rfl (pc0 := 60) (pc' := 81) rfl (hb hby at_60) rfl (feq (hk2 : ¬ (nn = (2 : Int32)))).2 (by decide) (by decide) k) ?_
        show OwnGo p e below s _ _ _ s₁ (mkF m 81 #[.val (.int p1), .val (.int p2), .val (.int p3), .val (.int p4), .val (.int p5), .val (.int nn), .val (.int y0), .val (.int y1), .val (.int y2), .val (.int y3), .unset, .unset, .unset, .unset, .unset] [])
        refine OwnGo.st (fun _ k => XS.iload X0.here hx rfl (hb hby at_81) rfl  k) ?_
        show OwnGo p e below s _ _ _ s₁ (mkF m 83 #[.val (.int p1), .val (.int p2), .val (.int p3), .val (.int p4), .val (.int p5), .val (.int nn), .val (.int y0), .val (.int y1), .val (.int y2), .val (.int y3), .unset, .unset, .unset, .unset, .unset] [(.int nn)])
        refine OwnGo.st (fun _ k => XS.iconst X0.here hx rfl (hb hby at_83) k) ?_
        show OwnGo p e below s _ _ _ s₁ (mkF m 84 #[.val (.int p1), .val (.int p2), .val (.int p3), .val (.int p4), .val (.int p5), .val (.int nn), .val (.int y0), .val (.int y1), .val (.int y2), .val (.int y3), .unset, .unset, .unset, .unset, .unset] [(.int (3 : Int32)), (.int nn)])
        by_cases hk3 : nn = (3 : Int32)
        · refine OwnGo.st (fun _ k => XS.icmpNo X0.here hx rfl (hb hby at_84) rfl (teq (hk3 : nn = (3 : Int32))).2 k) ?_
          show OwnGo p e below s _ _ _ s₁ (mkF m 87 #[.val (.int p1), .val (.int p2), .val (.int p3), .val (.int p4), .val (.int p5), .val (.int nn), .val (.int y0), .val (.int y1), .val (.int y2), .val (.int y3), .unset, .unset, .unset, .unset, .unset] [])
          refine OwnGo.st (fun _ k => XS.iconst X0.here hx rfl (hb hby at_87) k) ?_
          show OwnGo p e below s _ _ _ s₁ (mkF m 88 #[.val (.int p1), .val (.int p2), .val (.int p3), .val (.int p4), .val (.int p5), .val (.int nn), .val (.int y0), .val (.int y1), .val (.int y2), .val (.int y3), .unset, .unset, .unset, .unset, .unset] [(.int (3 : Int32))])
          obtain ⟨T34, h34, k34, X34, e34, E34, A34, Ex34, st34⟩ := newPE X0 hx hZ (hw _ (List.mem_of_getElem? (i := 1) rfl)) e0 (g := (mkF m 88 #[.val (.int p1), .val (.int p2), .val (.int p3), .val (.int p4), .val (.int p5), .val (.int nn), .val (.int y0), .val (.int y1), .val (.int y2), .val (.int y3), .unset, .unset, .unset, .unset, .unset] [(.int (3 : Int32))])) rfl (hb hby at_88) rfl (by decide) (cap := 3) (by decide) (by decide) (by decide) (by decide) (ad := "[B") (by decide)
          obtain ⟨b34, g34⟩ : ∃ z, z = h0.size := ⟨_, rfl⟩
          rw [← g34] at A34 Ex34 st34
          have g_b34 : n0 ≤ b34 := Nat.le_trans Z_ (Nat.le_of_eq g34.symm)
          have Z_ : n0 ≤ h34.size := Nat.le_trans Z_ E34.1
          have V_b34 : Arv Z h34 b34 k34 .byte (3 : Int32) [(.int (0 : Int32)), (.int (0 : Int32)), (.int (0 : Int32))] (.int (0 : Int32)) := (Arv.new A34 (by decide)).pad (pad_rep [] (.int (0 : Int32)) 3)
          have E_b34 := Ex34
          refine OwnGo.st st34 ?_
          show OwnGo p e below s _ _ _ T34 (mkF m 90 #[.val (.int p1), .val (.int p2), .val (.int p3), .val (.int p4), .val (.int p5), .val (.int nn), .val (.int y0), .val (.int y1), .val (.int y2), .val (.int y3), .unset, .unset, .unset, .unset, .unset] [(.ref b34)])
          refine OwnGo.st (fun _ k => XS.dup X34.here hx rfl (hb hby at_90) rfl rfl k) ?_
          show OwnGo p e below s _ _ _ T34 (mkF m 91 #[.val (.int p1), .val (.int p2), .val (.int p3), .val (.int p4), .val (.int p5), .val (.int nn), .val (.int y0), .val (.int y1), .val (.int y2), .val (.int y3), .unset, .unset, .unset, .unset, .unset] [(.ref b34), (.ref b34)])
          refine OwnGo.st (fun _ k => XS.iconst X34.here hx rfl (hb hby at_91) k) ?_
          show OwnGo p e below s _ _ _ T34 (mkF m 92 #[.val (.int p1), .val (.int p2), .val (.int p3), .val (.int p4), .val (.int p5), .val (.int nn), .val (.int y0), .val (.int y1), .val (.int y2), .val (.int y3), .unset, .unset, .unset, .unset, .unset] [(.int (0 : Int32)), (.ref b34), (.ref b34)])
          refine OwnGo.st (fun _ k => XS.iload X34.here hx rfl (hb hby at_92) rfl  k) ?_
          show OwnGo p e below s _ _ _ T34 (mkF m 94 #[.val (.int p1), .val (.int p2), .val (.int p3), .val (.int p4), .val (.int p5), .val (.int nn), .val (.int y0), .val (.int y1), .val (.int y2), .val (.int y3), .unset, .unset, .unset, .unset, .unset] [(.int y0), (.int (0 : Int32)), (.ref b34), (.ref b34)])
          obtain ⟨cl35, Ar35, q35, S35, N35, H35, G35⟩ := id V_b34
          have hin35 : ¬ ((0 : Int32) < 0 ∨ cl35.slots.size ≤ ((0 : Int32)).toNatClampNeg) := inb_of S35 ⟨by decide, by decide⟩
          obtain ⟨T35, h35, X35, e35, W35, st35⟩ := stB X34 hx hZ e34 Ar35 (j := (0 : Int32)) hin35 (g := (mkF m 94 #[.val (.int p1), .val (.int p2), .val (.int p3), .val (.int p4), .val (.int p5), .val (.int nn), .val (.int y0), .val (.int y1), .val (.int y2), .val (.int y3), .unset, .unset, .unset, .unset, .unset] [(.int y0), (.int (0 : Int32)), (.ref b34), (.ref b34)])) rfl rfl (hb hby at_94)
          have V_b34 : Arv Z h35 b34 k34 .byte (3 : Int32) [(.int (nar .byte y0)), (.int (0 : Int32)), (.int (0 : Int32))] (.int (0 : Int32)) := Arv.set Ar35 q35 S35 N35 H35 G35 (fits_nar_byte _) W35 0 rfl (Nat.le_of_ble_eq_true rfl)
          rw [show nar .byte y0 = y0 from (by rw [hy0]; exact own_nb _)] at V_b34
          have E_b34 := E_b34.wr W35
          have N35 := Fr.snoc X35 N0 g_b34
          have Z_ : n0 ≤ h35.size := by rw [W35.size]; exact Z_
          refine OwnGo.st st35 ?_
          show OwnGo p e below s _ _ _ T35 (mkF m 95 #[.val (.int p1), .val (.int p2), .val (.int p3), .val (.int p4), .val (.int p5), .val (.int nn), .val (.int y0), .val (.int y1), .val (.int y2), .val (.int y3), .unset, .unset, .unset, .unset, .unset] [(.ref b34)])
          refine OwnGo.st (fun _ k => XS.dup X35.here hx rfl (hb hby at_95) rfl rfl k) ?_
          show OwnGo p e below s _ _ _ T35 (mkF m 96 #[.val (.int p1), .val (.int p2), .val (.int p3), .val (.int p4), .val (.int p5), .val (.int nn), .val (.int y0), .val (.int y1), .val (.int y2), .val (.int y3), .unset, .unset, .unset, .unset, .unset] [(.ref b34), (.ref b34)])
          refine OwnGo.st (fun _ k => XS.iconst X35.here hx rfl (hb hby at_96) k) ?_
          show OwnGo p e below s _ _ _ T35 (mkF m 97 #[.val (.int p1), .val (.int p2), .val (.int p3), .val (.int p4), .val (.int p5), .val (.int nn), .val (.int y0), .val (.int y1), .val (.int y2), .val (.int y3), .unset, .unset, .unset, .unset, .unset] [(.int (1 : Int32)), (.ref b34), (.ref b34)])
          refine OwnGo.st (fun _ k => XS.iload X35.here hx rfl (hb hby at_97) rfl  k) ?_
          show OwnGo p e below s _ _ _ T35 (mkF m 99 #[.val (.int p1), .val (.int p2), .val (.int p3), .val (.int p4), .val (.int p5), .val (.int nn), .val (.int y0), .val (.int y1), .val (.int y2), .val (.int y3), .unset, .unset, .unset, .unset, .unset] [(.int y1), (.int (1 : Int32)), (.ref b34), (.ref b34)])
          obtain ⟨cl36, Ar36, q36, S36, N36, H36, G36⟩ := id V_b34
          have hin36 : ¬ ((1 : Int32) < 0 ∨ cl36.slots.size ≤ ((1 : Int32)).toNatClampNeg) := inb_of S36 ⟨by decide, by decide⟩
          obtain ⟨T36, h36, X36, e36, W36, st36⟩ := stB X35 hx hZ e35 Ar36 (j := (1 : Int32)) hin36 (g := (mkF m 99 #[.val (.int p1), .val (.int p2), .val (.int p3), .val (.int p4), .val (.int p5), .val (.int nn), .val (.int y0), .val (.int y1), .val (.int y2), .val (.int y3), .unset, .unset, .unset, .unset, .unset] [(.int y1), (.int (1 : Int32)), (.ref b34), (.ref b34)])) rfl rfl (hb hby at_99)
          have V_b34 : Arv Z h36 b34 k34 .byte (3 : Int32) [(.int y0), (.int (nar .byte y1)), (.int (0 : Int32))] (.int (0 : Int32)) := Arv.set Ar36 q36 S36 N36 H36 G36 (fits_nar_byte _) W36 1 rfl (Nat.le_of_ble_eq_true rfl)
          rw [show nar .byte y1 = y1 from (by rw [hy1]; exact own_nb _)] at V_b34
          have E_b34 := E_b34.wr W36
          have N36 := Fr.snoc X36 N35 g_b34
          have Z_ : n0 ≤ h36.size := by rw [W36.size]; exact Z_
          refine OwnGo.st st36 ?_
          show OwnGo p e below s _ _ _ T36 (mkF m 100 #[.val (.int p1), .val (.int p2), .val (.int p3), .val (.int p4), .val (.int p5), .val (.int nn), .val (.int y0), .val (.int y1), .val (.int y2), .val (.int y3), .unset, .unset, .unset, .unset, .unset] [(.ref b34)])
          refine OwnGo.st (fun _ k => XS.dup X36.here hx rfl (hb hby at_100) rfl rfl k) ?_
          show OwnGo p e below s _ _ _ T36 (mkF m 101 #[.val (.int p1), .val (.int p2), .val (.int p3), .val (.int p4), .val (.int p5), .val (.int nn), .val (.int y0), .val (.int y1), .val (.int y2), .val (.int y3), .unset, .unset, .unset, .unset, .unset] [(.ref b34), (.ref b34)])
          refine OwnGo.st (fun _ k => XS.iconst X36.here hx rfl (hb hby at_101) k) ?_
          show OwnGo p e below s _ _ _ T36 (mkF m 102 #[.val (.int p1), .val (.int p2), .val (.int p3), .val (.int p4), .val (.int p5), .val (.int nn), .val (.int y0), .val (.int y1), .val (.int y2), .val (.int y3), .unset, .unset, .unset, .unset, .unset] [(.int (2 : Int32)), (.ref b34), (.ref b34)])
          refine OwnGo.st (fun _ k => XS.iload X36.here hx rfl (hb hby at_102) rfl  k) ?_
          show OwnGo p e below s _ _ _ T36 (mkF m 104 #[.val (.int p1), .val (.int p2), .val (.int p3), .val (.int p4), .val (.int p5), .val (.int nn), .val (.int y0), .val (.int y1), .val (.int y2), .val (.int y3), .unset, .unset, .unset, .unset, .unset] [(.int y2), (.int (2 : Int32)), (.ref b34), (.ref b34)])
          obtain ⟨cl37, Ar37, q37, S37, N37, H37, G37⟩ := id V_b34
          have hin37 : ¬ ((2 : Int32) < 0 ∨ cl37.slots.size ≤ ((2 : Int32)).toNatClampNeg) := inb_of S37 ⟨by decide, by decide⟩
          obtain ⟨T37, h37, X37, e37, W37, st37⟩ := stB X36 hx hZ e36 Ar37 (j := (2 : Int32)) hin37 (g := (mkF m 104 #[.val (.int p1), .val (.int p2), .val (.int p3), .val (.int p4), .val (.int p5), .val (.int nn), .val (.int y0), .val (.int y1), .val (.int y2), .val (.int y3), .unset, .unset, .unset, .unset, .unset] [(.int y2), (.int (2 : Int32)), (.ref b34), (.ref b34)])) rfl rfl (hb hby at_104)
          have V_b34 : Arv Z h37 b34 k34 .byte (3 : Int32) [(.int y0), (.int y1), (.int (nar .byte y2))] (.int (0 : Int32)) := Arv.set Ar37 q37 S37 N37 H37 G37 (fits_nar_byte _) W37 2 rfl (Nat.le_of_ble_eq_true rfl)
          rw [show nar .byte y2 = y2 from (by rw [hy2]; exact own_nb _)] at V_b34
          have E_b34 := E_b34.wr W37
          have N37 := Fr.snoc X37 N36 g_b34
          have Z_ : n0 ≤ h37.size := by rw [W37.size]; exact Z_
          refine OwnGo.st st37 ?_
          show OwnGo p e below s _ _ _ T37 (mkF m 105 #[.val (.int p1), .val (.int p2), .val (.int p3), .val (.int p4), .val (.int p5), .val (.int nn), .val (.int y0), .val (.int y1), .val (.int y2), .val (.int y3), .unset, .unset, .unset, .unset, .unset] [(.ref b34)])
          refine OwnGo.st (fun _ k => XS.astore X37.here hx rfl (hb hby at_105) rfl rfl (l' := #[.val (.int p1), .val (.int p2), .val (.int p3), .val (.int p4), .val (.int p5), .val (.int nn), .val (.int y0), .val (.int y1), .val (.int y2), .val (.int y3), .val (.ref b34), .unset, .unset, .unset, .unset]) rfl k) ?_
          show OwnGo p e below s _ _ _ T37 (mkF m 107 #[.val (.int p1), .val (.int p2), .val (.int p3), .val (.int p4), .val (.int p5), .val (.int nn), .val (.int y0), .val (.int y1), .val (.int y2), .val (.int y3), .val (.ref b34), .unset, .unset, .unset, .unset] [])
          refine OwnGo.st (fun _ k => XS.goto X37.here hx rfl (pc0 := 107) (pc' := 135) rfl (hb hby at_107) (by decide) (by decide) k) ?_
          show OwnGo p e below s _ _ _ T37 (mkF m 135 #[.val (.int p1), .val (.int p2), .val (.int p3), .val (.int p4), .val (.int p5), .val (.int nn), .val (.int y0), .val (.int y1), .val (.int y2), .val (.int y3), .val (.ref b34), .unset, .unset, .unset, .unset] [])
          refine OwnGo.st (fun _ k => XS.aload X37.here hx rfl (hb hby at_135) rfl rfl  k) ?_
          show OwnGo p e below s _ _ _ T37 (mkF m 137 #[.val (.int p1), .val (.int p2), .val (.int p3), .val (.int p4), .val (.int p5), .val (.int nn), .val (.int y0), .val (.int y1), .val (.int y2), .val (.int y3), .val (.ref b34), .unset, .unset, .unset, .unset] [(.ref b34)])
          obtain ⟨_, _, ⟨T38, L38, k38, n38⟩, -, X38, ⟨Lc38, hQ38, l38, y38, z38⟩, st38⟩ := Jvm.LawKit.callS X37 hx (y := (⟨"com/example/utsatt/utsatt/KeyHashes", "of", "([B)J"⟩ : MethodName)) hown (mvT hZ (hw _ (List.mem_of_getElem? (i := 2) rfl))) (mvT hZ (hw _ (List.mem_of_getElem? (i := 3) rfl))) (mvT hZ (hw _ (List.mem_of_getElem? (i := 4) rfl))) (mvT hZ (hw _ (List.mem_of_getElem? (i := 5) rfl))) (by decide) (backOf (W := 0) (rmof3 l Z a0 hw [] b34 k34 y0 y1 y2 h37 n0 Z_ V_b34) hZ (hw _ (List.mem_of_getElem? (i := 5) rfl)) (hw _ (List.mem_of_getElem? (i := 4) rfl)) (by decide) (by decide)) (g := (mkF m 137 #[.val (.int p1), .val (.int p2), .val (.int p3), .val (.int p4), .val (.int p5), .val (.int nn), .val (.int y0), .val (.int y1), .val (.int y2), .val (.int y3), .val (.ref b34), .unset, .unset, .unset, .unset] [(.ref b34)])) rfl (by rw [hml]; rfl) (argsL := [(.ref b34)]) (rest := []) (lenOf pd_0 rfl) rfl (by show 2 * 0 + _ ≤ _; exact Nat.le_of_eq rfl) (hb hby at_137) (fun _ _ => ⟨rfl, e37, (by decide : 1 + 0 ≤ _), (by decide : 3 + 0 ≤ _)⟩)
          dsimp only [Pt.U, Pt.locs, Pt.cells, Pt.slots] at X38 l38 y38 z38 st38 hQ38
          subst l38 y38 z38
          obtain ⟨rfl, N38q, e38⟩ := hQ38
          have N38 := Fr.app N37 N38q
          refine OwnGo.st st38 ?_
          show OwnGo p e below s _ _ _ T38 (mkF m 140 #[.val (.int p1), .val (.int p2), .val (.int p3), .val (.int p4), .val (.int p5), .val (.int nn), .val (.int y0), .val (.int y1), .val (.int y2), .val (.int y3), .val (.ref b34), .unset, .unset, .unset, .unset] [(.long (own_fin (own_step (own_step (own_step (-3750763034362895579 : Int64) y0) y1) y2)))])
          obtain ⟨g1, hg1⟩ : ∃ z : Int64, z = own_step (-3750763034362895579 : Int64) y0 := ⟨_, rfl⟩
          rw [← hg1]
          obtain ⟨g2, hg2⟩ : ∃ z : Int64, z = own_step g1 y1 := ⟨_, rfl⟩
          rw [← hg2]
          obtain ⟨g3, hg3⟩ : ∃ z : Int64, z = own_step g2 y2 := ⟨_, rfl⟩
          rw [← hg3]
          show OwnGo p e below s _ _ _ T38 (mkF m 140 #[.val (.int p1), .val (.int p2), .val (.int p3), .val (.int p4), .val (.int p5), .val (.int nn), .val (.int y0), .val (.int y1), .val (.int y2), .val (.int y3), .val (.ref b34), .unset, .unset, .unset, .unset] [(.long (own_fin g3))])
          refine OwnGo.st (fun _ k => XS.lstore X38.here hx rfl (hb hby at_140) rfl (l' := #[.val (.int p1), .val (.int p2), .val (.int p3), .val (.int p4), .val (.int p5), .val (.int nn), .val (.int y0), .val (.int y1), .val (.int y2), .val (.int y3), .val (.ref b34), .val (.long (own_fin g3)), .second, .unset, .unset]) rfl k) ?_
          show OwnGo p e below s _ _ _ T38 (mkF m 142 #[.val (.int p1), .val (.int p2), .val (.int p3), .val (.int p4), .val (.int p5), .val (.int nn), .val (.int y0), .val (.int y1), .val (.int y2), .val (.int y3), .val (.ref b34), .val (.long (own_fin g3)), .second, .unset, .unset] [])
          refine OwnGo.st (fun _ k => XS.lload X38.here hx rfl (hb hby at_142) rfl  k) ?_
          show OwnGo p e below s _ _ _ T38 (mkF m 144 #[.val (.int p1), .val (.int p2), .val (.int p3), .val (.int p4), .val (.int p5), .val (.int nn), .val (.int y0), .val (.int y1), .val (.int y2), .val (.int y3), .val (.ref b34), .val (.long (own_fin g3)), .second, .unset, .unset] [(.long (own_fin g3))])
          refine OwnGo.st (fun _ k => XS.lload X38.here hx rfl (hb hby at_144) rfl  k) ?_
          show OwnGo p e below s _ _ _ T38 (mkF m 146 #[.val (.int p1), .val (.int p2), .val (.int p3), .val (.int p4), .val (.int p5), .val (.int nn), .val (.int y0), .val (.int y1), .val (.int y2), .val (.int y3), .val (.ref b34), .val (.long (own_fin g3)), .second, .unset, .unset] [(.long (own_fin g3)), (.long (own_fin g3))])
          refine OwnGo.st (fun _ k => XS.bipush X38.here hx rfl (hb hby at_146) k) ?_
          show OwnGo p e below s _ _ _ T38 (mkF m 148 #[.val (.int p1), .val (.int p2), .val (.int p3), .val (.int p4), .val (.int p5), .val (.int nn), .val (.int y0), .val (.int y1), .val (.int y2), .val (.int y3), .val (.ref b34), .val (.long (own_fin g3)), .second, .unset, .unset] [(.int (31 : Int32)), (.long (own_fin g3)), (.long (own_fin g3))])
          refine OwnGo.st (fun _ k => XS.lushr X38.here hx rfl (hb hby at_148) rfl k) ?_
          show OwnGo p e below s _ _ _ T38 (mkF m 149 #[.val (.int p1), .val (.int p2), .val (.int p3), .val (.int p4), .val (.int p5), .val (.int nn), .val (.int y0), .val (.int y1), .val (.int y2), .val (.int y3), .val (.ref b34), .val (.long (own_fin g3)), .second, .unset, .unset] [(.long (((own_fin g3).toUInt64 >>> ((31 : Int32) &&& 0x3f).toInt64.toUInt64).toInt64)), (.long (own_fin g3))])
          refine OwnGo.st (fun _ k => XS.lxor X38.here hx rfl (hb hby at_149) rfl k) ?_
          show OwnGo p e below s _ _ _ T38 (mkF m 150 #[.val (.int p1), .val (.int p2), .val (.int p3), .val (.int p4), .val (.int p5), .val (.int nn), .val (.int y0), .val (.int y1), .val (.int y2), .val (.int y3), .val (.ref b34), .val (.long (own_fin g3)), .second, .unset, .unset] [(.long ((own_fin g3) ^^^ (((own_fin g3).toUInt64 >>> ((31 : Int32) &&& 0x3f).toInt64.toUInt64).toInt64)))])
          refine OwnGo.st (fun _ k => XS.lload X38.here hx rfl (hb hby at_150) rfl  k) ?_
          show OwnGo p e below s _ _ _ T38 (mkF m 152 #[.val (.int p1), .val (.int p2), .val (.int p3), .val (.int p4), .val (.int p5), .val (.int nn), .val (.int y0), .val (.int y1), .val (.int y2), .val (.int y3), .val (.ref b34), .val (.long (own_fin g3)), .second, .unset, .unset] [(.long (own_fin g3)), (.long ((own_fin g3) ^^^ (((own_fin g3).toUInt64 >>> ((31 : Int32) &&& 0x3f).toInt64.toUInt64).toInt64)))])
          refine OwnGo.st (fun _ k => XS.bipush X38.here hx rfl (hb hby at_152) k) ?_
          show OwnGo p e below s _ _ _ T38 (mkF m 154 #[.val (.int p1), .val (.int p2), .val (.int p3), .val (.int p4), .val (.int p5), .val (.int nn), .val (.int y0), .val (.int y1), .val (.int y2), .val (.int y3), .val (.ref b34), .val (.long (own_fin g3)), .second, .unset, .unset] [(.int (62 : Int32)), (.long (own_fin g3)), (.long ((own_fin g3) ^^^ (((own_fin g3).toUInt64 >>> ((31 : Int32) &&& 0x3f).toInt64.toUInt64).toInt64)))])
          refine OwnGo.st (fun _ k => XS.lushr X38.here hx rfl (hb hby at_154) rfl k) ?_
          show OwnGo p e below s _ _ _ T38 (mkF m 155 #[.val (.int p1), .val (.int p2), .val (.int p3), .val (.int p4), .val (.int p5), .val (.int nn), .val (.int y0), .val (.int y1), .val (.int y2), .val (.int y3), .val (.ref b34), .val (.long (own_fin g3)), .second, .unset, .unset] [(.long (((own_fin g3).toUInt64 >>> ((62 : Int32) &&& 0x3f).toInt64.toUInt64).toInt64)), (.long ((own_fin g3) ^^^ (((own_fin g3).toUInt64 >>> ((31 : Int32) &&& 0x3f).toInt64.toUInt64).toInt64)))])
          refine OwnGo.st (fun _ k => XS.lxor X38.here hx rfl (hb hby at_155) rfl k) ?_
          show OwnGo p e below s _ _ _ T38 (mkF m 156 #[.val (.int p1), .val (.int p2), .val (.int p3), .val (.int p4), .val (.int p5), .val (.int nn), .val (.int y0), .val (.int y1), .val (.int y2), .val (.int y3), .val (.ref b34), .val (.long (own_fin g3)), .second, .unset, .unset] [(.long (((own_fin g3) ^^^ (((own_fin g3).toUInt64 >>> ((31 : Int32) &&& 0x3f).toInt64.toUInt64).toInt64)) ^^^ (((own_fin g3).toUInt64 >>> ((62 : Int32) &&& 0x3f).toInt64.toUInt64).toInt64)))])
          show OwnGo p e below s _ _ _ T38 (mkF m 156 #[.val (.int p1), .val (.int p2), .val (.int p3), .val (.int p4), .val (.int p5), .val (.int nn), .val (.int y0), .val (.int y1), .val (.int y2), .val (.int y3), .val (.ref b34), .val (.long (own_fin g3)), .second, .unset, .unset] [(.long (own_un (own_fin g3) 31 62))])
          rw [show own_un (own_fin g3) 31 62 = own_f2 g3 from own_u31 _]
          show OwnGo p e below s _ _ _ T38 (mkF m 156 #[.val (.int p1), .val (.int p2), .val (.int p3), .val (.int p4), .val (.int p5), .val (.int nn), .val (.int y0), .val (.int y1), .val (.int y2), .val (.int y3), .val (.ref b34), .val (.long (own_fin g3)), .second, .unset, .unset] [(.long (own_f2 g3))])
          refine OwnGo.st (fun _ k => XS.lstore X38.here hx rfl (hb hby at_156) rfl (l' := #[.val (.int p1), .val (.int p2), .val (.int p3), .val (.int p4), .val (.int p5), .val (.int nn), .val (.int y0), .val (.int y1), .val (.int y2), .val (.int y3), .val (.ref b34), .val (.long (own_f2 g3)), .second, .unset, .unset]) rfl k) ?_
          show OwnGo p e below s _ _ _ T38 (mkF m 158 #[.val (.int p1), .val (.int p2), .val (.int p3), .val (.int p4), .val (.int p5), .val (.int nn), .val (.int y0), .val (.int y1), .val (.int y2), .val (.int y3), .val (.ref b34), .val (.long (own_f2 g3)), .second, .unset, .unset] [])
          refine OwnGo.st (fun _ k => XS.lload X38.here hx rfl (hb hby at_158) rfl  k) ?_
          show OwnGo p e below s _ _ _ T38 (mkF m 160 #[.val (.int p1), .val (.int p2), .val (.int p3), .val (.int p4), .val (.int p5), .val (.int nn), .val (.int y0), .val (.int y1), .val (.int y2), .val (.int y3), .val (.ref b34), .val (.long (own_f2 g3)), .second, .unset, .unset] [(.long (own_f2 g3))])
          refine OwnGo.st (fun _ k => X38.ldc2Long hx hown (mvT hZ (hw _ (List.mem_of_getElem? (i := 9) rfl))) (g := (mkF m 160 #[.val (.int p1), .val (.int p2), .val (.int p3), .val (.int p4), .val (.int p5), .val (.int nn), .val (.int y0), .val (.int y1), .val (.int y2), .val (.int y3), .val (.ref b34), .val (.long (own_f2 g3)), .second, .unset, .unset] [(.long (own_f2 g3))])) rfl (hb hby at_160) _ k) ?_
          show OwnGo p e below s _ _ _ T38 (mkF m 163 #[.val (.int p1), .val (.int p2), .val (.int p3), .val (.int p4), .val (.int p5), .val (.int nn), .val (.int y0), .val (.int y1), .val (.int y2), .val (.int y3), .val (.ref b34), .val (.long (own_f2 g3)), .second, .unset, .unset] [(.long (-7723592293110705685 : Int64)), (.long (own_f2 g3))])
          obtain ⟨_, _, ⟨T39, L39, k39, n39⟩, -, X39, ⟨Lc39, hQ39, l39, y39, z39⟩, st39⟩ := Jvm.LawKit.callS X38 hx (y := (⟨"com/example/utsatt/utsatt/KeyHashesOfPinLaw", "inverse", "(J)J"⟩ : MethodName)) hown (mvT hZ (hw _ (List.mem_of_getElem? (i := 10) rfl))) (mvT hZ (hw _ (List.mem_of_getElem? (i := 11) rfl))) (mvT hZ (hw _ (List.mem_of_getElem? (i := 12) rfl))) (mvT hZ (hw _ (List.mem_of_getElem? (i := 13) rfl))) (by decide) (backOf (W := 2) (rm2 l Z a0 hw [] (-7723592293110705685 : Int64) h37 n0 Z_ ) hZ (hw _ (List.mem_of_getElem? (i := 13) rfl)) (hw _ (List.mem_of_getElem? (i := 12) rfl)) (by decide) (by decide)) (g := (mkF m 163 #[.val (.int p1), .val (.int p2), .val (.int p3), .val (.int p4), .val (.int p5), .val (.int nn), .val (.int y0), .val (.int y1), .val (.int y2), .val (.int y3), .val (.ref b34), .val (.long (own_f2 g3)), .second, .unset, .unset] [(.long (-7723592293110705685 : Int64)), (.long (own_f2 g3))])) rfl (by rw [hml]; rfl) (argsL := [(.long (-7723592293110705685 : Int64))]) (rest := [(.long (own_f2 g3))]) (lenOf pd_1 rfl) rfl (by show 2 * 0 + _ ≤ _; exact Nat.le_of_eq rfl) (hb hby at_163) (fun _ _ => ⟨rfl, e38, (by decide : 1 + 0 ≤ _), (by decide : 3 + 0 ≤ _)⟩)
          dsimp only [Pt.U, Pt.locs, Pt.cells, Pt.slots] at X39 l39 y39 z39 st39 hQ39
          subst l39 y39 z39
          obtain ⟨rfl, N39q, e39⟩ := hQ39
          have N39 := Fr.app N38 N39q
          refine OwnGo.st st39 ?_
          show OwnGo p e below s _ _ _ T39 (mkF m 166 #[.val (.int p1), .val (.int p2), .val (.int p3), .val (.int p4), .val (.int p5), .val (.int nn), .val (.int y0), .val (.int y1), .val (.int y2), .val (.int y3), .val (.ref b34), .val (.long (own_f2 g3)), .second, .unset, .unset] [(.long (own_inv (-7723592293110705685 : Int64))), (.long (own_f2 g3))])
          refine OwnGo.st (fun _ k => XS.lmul X39.here hx rfl (hb hby at_166) rfl k) ?_
          show OwnGo p e below s _ _ _ T39 (mkF m 167 #[.val (.int p1), .val (.int p2), .val (.int p3), .val (.int p4), .val (.int p5), .val (.int nn), .val (.int y0), .val (.int y1), .val (.int y2), .val (.int y3), .val (.ref b34), .val (.long (own_f2 g3)), .second, .unset, .unset] [(.long ((own_f2 g3) * (own_inv (-7723592293110705685 : Int64))))])
          rw [show (own_f2 g3 * own_inv (-7723592293110705685 : Int64)) = own_xs (own_f1 g3) 27 from own_k2 _]
          show OwnGo p e below s _ _ _ T39 (mkF m 167 #[.val (.int p1), .val (.int p2), .val (.int p3), .val (.int p4), .val (.int p5), .val (.int nn), .val (.int y0), .val (.int y1), .val (.int y2), .val (.int y3), .val (.ref b34), .val (.long (own_f2 g3)), .second, .unset, .unset] [(.long (own_xs (own_f1 g3) 27))])
          refine OwnGo.st (fun _ k => XS.lstore X39.here hx rfl (hb hby at_167) rfl (l' := #[.val (.int p1), .val (.int p2), .val (.int p3), .val (.int p4), .val (.int p5), .val (.int nn), .val (.int y0), .val (.int y1), .val (.int y2), .val (.int y3), .val (.ref b34), .val (.long (own_xs (own_f1 g3) 27)), .second, .unset, .unset]) rfl k) ?_
          show OwnGo p e below s _ _ _ T39 (mkF m 169 #[.val (.int p1), .val (.int p2), .val (.int p3), .val (.int p4), .val (.int p5), .val (.int nn), .val (.int y0), .val (.int y1), .val (.int y2), .val (.int y3), .val (.ref b34), .val (.long (own_xs (own_f1 g3) 27)), .second, .unset, .unset] [])
          refine OwnGo.st (fun _ k => XS.lload X39.here hx rfl (hb hby at_169) rfl  k) ?_
          show OwnGo p e below s _ _ _ T39 (mkF m 171 #[.val (.int p1), .val (.int p2), .val (.int p3), .val (.int p4), .val (.int p5), .val (.int nn), .val (.int y0), .val (.int y1), .val (.int y2), .val (.int y3), .val (.ref b34), .val (.long (own_xs (own_f1 g3) 27)), .second, .unset, .unset] [(.long (own_xs (own_f1 g3) 27))])
          refine OwnGo.st (fun _ k => XS.lload X39.here hx rfl (hb hby at_171) rfl  k) ?_
          show OwnGo p e below s _ _ _ T39 (mkF m 173 #[.val (.int p1), .val (.int p2), .val (.int p3), .val (.int p4), .val (.int p5), .val (.int nn), .val (.int y0), .val (.int y1), .val (.int y2), .val (.int y3), .val (.ref b34), .val (.long (own_xs (own_f1 g3) 27)), .second, .unset, .unset] [(.long (own_xs (own_f1 g3) 27)), (.long (own_xs (own_f1 g3) 27))])
          refine OwnGo.st (fun _ k => XS.bipush X39.here hx rfl (hb hby at_173) k) ?_
          show OwnGo p e below s _ _ _ T39 (mkF m 175 #[.val (.int p1), .val (.int p2), .val (.int p3), .val (.int p4), .val (.int p5), .val (.int nn), .val (.int y0), .val (.int y1), .val (.int y2), .val (.int y3), .val (.ref b34), .val (.long (own_xs (own_f1 g3) 27)), .second, .unset, .unset] [(.int (27 : Int32)), (.long (own_xs (own_f1 g3) 27)), (.long (own_xs (own_f1 g3) 27))])
          refine OwnGo.st (fun _ k => XS.lushr X39.here hx rfl (hb hby at_175) rfl k) ?_
          show OwnGo p e below s _ _ _ T39 (mkF m 176 #[.val (.int p1), .val (.int p2), .val (.int p3), .val (.int p4), .val (.int p5), .val (.int nn), .val (.int y0), .val (.int y1), .val (.int y2), .val (.int y3), .val (.ref b34), .val (.long (own_xs (own_f1 g3) 27)), .second, .unset, .unset] [(.long (((own_xs (own_f1 g3) 27).toUInt64 >>> ((27 : Int32) &&& 0x3f).toInt64.toUInt64).toInt64)), (.long (own_xs (own_f1 g3) 27))])
          refine OwnGo.st (fun _ k => XS.lxor X39.here hx rfl (hb hby at_176) rfl k) ?_
          show OwnGo p e below s _ _ _ T39 (mkF m 177 #[.val (.int p1), .val (.int p2), .val (.int p3), .val (.int p4), .val (.int p5), .val (.int nn), .val (.int y0), .val (.int y1), .val (.int y2), .val (.int y3), .val (.ref b34), .val (.long (own_xs (own_f1 g3) 27)), .second, .unset, .unset] [(.long ((own_xs (own_f1 g3) 27) ^^^ (((own_xs (own_f1 g3) 27).toUInt64 >>> ((27 : Int32) &&& 0x3f).toInt64.toUInt64).toInt64)))])
          refine OwnGo.st (fun _ k => XS.lload X39.here hx rfl (hb hby at_177) rfl  k) ?_
          show OwnGo p e below s _ _ _ T39 (mkF m 179 #[.val (.int p1), .val (.int p2), .val (.int p3), .val (.int p4), .val (.int p5), .val (.int nn), .val (.int y0), .val (.int y1), .val (.int y2), .val (.int y3), .val (.ref b34), .val (.long (own_xs (own_f1 g3) 27)), .second, .unset, .unset] [(.long (own_xs (own_f1 g3) 27)), (.long ((own_xs (own_f1 g3) 27) ^^^ (((own_xs (own_f1 g3) 27).toUInt64 >>> ((27 : Int32) &&& 0x3f).toInt64.toUInt64).toInt64)))])
          refine OwnGo.st (fun _ k => XS.bipush X39.here hx rfl (hb hby at_179) k) ?_
          show OwnGo p e below s _ _ _ T39 (mkF m 181 #[.val (.int p1), .val (.int p2), .val (.int p3), .val (.int p4), .val (.int p5), .val (.int nn), .val (.int y0), .val (.int y1), .val (.int y2), .val (.int y3), .val (.ref b34), .val (.long (own_xs (own_f1 g3) 27)), .second, .unset, .unset] [(.int (54 : Int32)), (.long (own_xs (own_f1 g3) 27)), (.long ((own_xs (own_f1 g3) 27) ^^^ (((own_xs (own_f1 g3) 27).toUInt64 >>> ((27 : Int32) &&& 0x3f).toInt64.toUInt64).toInt64)))])
          refine OwnGo.st (fun _ k => XS.lushr X39.here hx rfl (hb hby at_181) rfl k) ?_
          show OwnGo p e below s _ _ _ T39 (mkF m 182 #[.val (.int p1), .val (.int p2), .val (.int p3), .val (.int p4), .val (.int p5), .val (.int nn), .val (.int y0), .val (.int y1), .val (.int y2), .val (.int y3), .val (.ref b34), .val (.long (own_xs (own_f1 g3) 27)), .second, .unset, .unset] [(.long (((own_xs (own_f1 g3) 27).toUInt64 >>> ((54 : Int32) &&& 0x3f).toInt64.toUInt64).toInt64)), (.long ((own_xs (own_f1 g3) 27) ^^^ (((own_xs (own_f1 g3) 27).toUInt64 >>> ((27 : Int32) &&& 0x3f).toInt64.toUInt64).toInt64)))])
          refine OwnGo.st (fun _ k => XS.lxor X39.here hx rfl (hb hby at_182) rfl k) ?_
          show OwnGo p e below s _ _ _ T39 (mkF m 183 #[.val (.int p1), .val (.int p2), .val (.int p3), .val (.int p4), .val (.int p5), .val (.int nn), .val (.int y0), .val (.int y1), .val (.int y2), .val (.int y3), .val (.ref b34), .val (.long (own_xs (own_f1 g3) 27)), .second, .unset, .unset] [(.long (((own_xs (own_f1 g3) 27) ^^^ (((own_xs (own_f1 g3) 27).toUInt64 >>> ((27 : Int32) &&& 0x3f).toInt64.toUInt64).toInt64)) ^^^ (((own_xs (own_f1 g3) 27).toUInt64 >>> ((54 : Int32) &&& 0x3f).toInt64.toUInt64).toInt64)))])
          show OwnGo p e below s _ _ _ T39 (mkF m 183 #[.val (.int p1), .val (.int p2), .val (.int p3), .val (.int p4), .val (.int p5), .val (.int nn), .val (.int y0), .val (.int y1), .val (.int y2), .val (.int y3), .val (.ref b34), .val (.long (own_xs (own_f1 g3) 27)), .second, .unset, .unset] [(.long (own_un (own_xs (own_f1 g3) 27) 27 54))])
          rw [own_u27]
          show OwnGo p e below s _ _ _ T39 (mkF m 183 #[.val (.int p1), .val (.int p2), .val (.int p3), .val (.int p4), .val (.int p5), .val (.int nn), .val (.int y0), .val (.int y1), .val (.int y2), .val (.int y3), .val (.ref b34), .val (.long (own_xs (own_f1 g3) 27)), .second, .unset, .unset] [(.long (own_f1 g3))])
          refine OwnGo.st (fun _ k => XS.lstore X39.here hx rfl (hb hby at_183) rfl (l' := #[.val (.int p1), .val (.int p2), .val (.int p3), .val (.int p4), .val (.int p5), .val (.int nn), .val (.int y0), .val (.int y1), .val (.int y2), .val (.int y3), .val (.ref b34), .val (.long (own_f1 g3)), .second, .unset, .unset]) rfl k) ?_
          show OwnGo p e below s _ _ _ T39 (mkF m 185 #[.val (.int p1), .val (.int p2), .val (.int p3), .val (.int p4), .val (.int p5), .val (.int nn), .val (.int y0), .val (.int y1), .val (.int y2), .val (.int y3), .val (.ref b34), .val (.long (own_f1 g3)), .second, .unset, .unset] [])
          refine OwnGo.st (fun _ k => XS.lload X39.here hx rfl (hb hby at_185) rfl  k) ?_
          show OwnGo p e below s _ _ _ T39 (mkF m 187 #[.val (.int p1), .val (.int p2), .val (.int p3), .val (.int p4), .val (.int p5), .val (.int nn), .val (.int y0), .val (.int y1), .val (.int y2), .val (.int y3), .val (.ref b34), .val (.long (own_f1 g3)), .second, .unset, .unset] [(.long (own_f1 g3))])
          refine OwnGo.st (fun _ k => X39.ldc2Long hx hown (mvT hZ (hw _ (List.mem_of_getElem? (i := 15) rfl))) (g := (mkF m 187 #[.val (.int p1), .val (.int p2), .val (.int p3), .val (.int p4), .val (.int p5), .val (.int nn), .val (.int y0), .val (.int y1), .val (.int y2), .val (.int y3), .val (.ref b34), .val (.long (own_f1 g3)), .second, .unset, .unset] [(.long (own_f1 g3))])) rfl (hb hby at_187) _ k) ?_
          show OwnGo p e below s _ _ _ T39 (mkF m 190 #[.val (.int p1), .val (.int p2), .val (.int p3), .val (.int p4), .val (.int p5), .val (.int nn), .val (.int y0), .val (.int y1), .val (.int y2), .val (.int y3), .val (.ref b34), .val (.long (own_f1 g3)), .second, .unset, .unset] [(.long (-4658895280553007687 : Int64)), (.long (own_f1 g3))])
          obtain ⟨_, _, ⟨T40, L40, k40, n40⟩, -, X40, ⟨Lc40, hQ40, l40, y40, z40⟩, st40⟩ := Jvm.LawKit.callS X39 hx (y := (⟨"com/example/utsatt/utsatt/KeyHashesOfPinLaw", "inverse", "(J)J"⟩ : MethodName)) hown (mvT hZ (hw _ (List.mem_of_getElem? (i := 10) rfl))) (mvT hZ (hw _ (List.mem_of_getElem? (i := 11) rfl))) (mvT hZ (hw _ (List.mem_of_getElem? (i := 12) rfl))) (mvT hZ (hw _ (List.mem_of_getElem? (i := 13) rfl))) (by decide) (backOf (W := 2) (rm2 l Z a0 hw [] (-4658895280553007687 : Int64) h37 n0 Z_ ) hZ (hw _ (List.mem_of_getElem? (i := 13) rfl)) (hw _ (List.mem_of_getElem? (i := 12) rfl)) (by decide) (by decide)) (g := (mkF m 190 #[.val (.int p1), .val (.int p2), .val (.int p3), .val (.int p4), .val (.int p5), .val (.int nn), .val (.int y0), .val (.int y1), .val (.int y2), .val (.int y3), .val (.ref b34), .val (.long (own_f1 g3)), .second, .unset, .unset] [(.long (-4658895280553007687 : Int64)), (.long (own_f1 g3))])) rfl (by rw [hml]; rfl) (argsL := [(.long (-4658895280553007687 : Int64))]) (rest := [(.long (own_f1 g3))]) (lenOf pd_1 rfl) rfl (by show 2 * 0 + _ ≤ _; exact Nat.le_of_eq rfl) (hb hby at_190) (fun _ _ => ⟨rfl, e39, (by decide : 1 + 0 ≤ _), (by decide : 3 + 0 ≤ _)⟩)
          dsimp only [Pt.U, Pt.locs, Pt.cells, Pt.slots] at X40 l40 y40 z40 st40 hQ40
          subst l40 y40 z40
          obtain ⟨rfl, N40q, e40⟩ := hQ40
          have N40 := Fr.app N39 N40q
          refine OwnGo.st st40 ?_
          show OwnGo p e below s _ _ _ T40 (mkF m 193 #[.val (.int p1), .val (.int p2), .val (.int p3), .val (.int p4), .val (.int p5), .val (.int nn), .val (.int y0), .val (.int y1), .val (.int y2), .val (.int y3), .val (.ref b34), .val (.long (own_f1 g3)), .second, .unset, .unset] [(.long (own_inv (-4658895280553007687 : Int64))), (.long (own_f1 g3))])
          refine OwnGo.st (fun _ k => XS.lmul X40.here hx rfl (hb hby at_193) rfl k) ?_
          show OwnGo p e below s _ _ _ T40 (mkF m 194 #[.val (.int p1), .val (.int p2), .val (.int p3), .val (.int p4), .val (.int p5), .val (.int nn), .val (.int y0), .val (.int y1), .val (.int y2), .val (.int y3), .val (.ref b34), .val (.long (own_f1 g3)), .second, .unset, .unset] [(.long ((own_f1 g3) * (own_inv (-4658895280553007687 : Int64))))])
          rw [show (own_f1 g3 * own_inv (-4658895280553007687 : Int64)) = own_xs g3 30 from own_k1 _]
          show OwnGo p e below s _ _ _ T40 (mkF m 194 #[.val (.int p1), .val (.int p2), .val (.int p3), .val (.int p4), .val (.int p5), .val (.int nn), .val (.int y0), .val (.int y1), .val (.int y2), .val (.int y3), .val (.ref b34), .val (.long (own_f1 g3)), .second, .unset, .unset] [(.long (own_xs g3 30))])
          refine OwnGo.st (fun _ k => XS.lstore X40.here hx rfl (hb hby at_194) rfl (l' := #[.val (.int p1), .val (.int p2), .val (.int p3), .val (.int p4), .val (.int p5), .val (.int nn), .val (.int y0), .val (.int y1), .val (.int y2), .val (.int y3), .val (.ref b34), .val (.long (own_xs g3 30)), .second, .unset, .unset]) rfl k) ?_
          show OwnGo p e below s _ _ _ T40 (mkF m 196 #[.val (.int p1), .val (.int p2), .val (.int p3), .val (.int p4), .val (.int p5), .val (.int nn), .val (.int y0), .val (.int y1), .val (.int y2), .val (.int y3), .val (.ref b34), .val (.long (own_xs g3 30)), .second, .unset, .unset] [])
          refine OwnGo.st (fun _ k => XS.lload X40.here hx rfl (hb hby at_196) rfl  k) ?_
          show OwnGo p e below s _ _ _ T40 (mkF m 198 #[.val (.int p1), .val (.int p2), .val (.int p3), .val (.int p4), .val (.int p5), .val (.int nn), .val (.int y0), .val (.int y1), .val (.int y2), .val (.int y3), .val (.ref b34), .val (.long (own_xs g3 30)), .second, .unset, .unset] [(.long (own_xs g3 30))])
          refine OwnGo.st (fun _ k => XS.lload X40.here hx rfl (hb hby at_198) rfl  k) ?_
          show OwnGo p e below s _ _ _ T40 (mkF m 200 #[.val (.int p1), .val (.int p2), .val (.int p3), .val (.int p4), .val (.int p5), .val (.int nn), .val (.int y0), .val (.int y1), .val (.int y2), .val (.int y3), .val (.ref b34), .val (.long (own_xs g3 30)), .second, .unset, .unset] [(.long (own_xs g3 30)), (.long (own_xs g3 30))])
          refine OwnGo.st (fun _ k => XS.bipush X40.here hx rfl (hb hby at_200) k) ?_
          show OwnGo p e below s _ _ _ T40 (mkF m 202 #[.val (.int p1), .val (.int p2), .val (.int p3), .val (.int p4), .val (.int p5), .val (.int nn), .val (.int y0), .val (.int y1), .val (.int y2), .val (.int y3), .val (.ref b34), .val (.long (own_xs g3 30)), .second, .unset, .unset] [(.int (30 : Int32)), (.long (own_xs g3 30)), (.long (own_xs g3 30))])
          refine OwnGo.st (fun _ k => XS.lushr X40.here hx rfl (hb hby at_202) rfl k) ?_
          show OwnGo p e below s _ _ _ T40 (mkF m 203 #[.val (.int p1), .val (.int p2), .val (.int p3), .val (.int p4), .val (.int p5), .val (.int nn), .val (.int y0), .val (.int y1), .val (.int y2), .val (.int y3), .val (.ref b34), .val (.long (own_xs g3 30)), .second, .unset, .unset] [(.long (((own_xs g3 30).toUInt64 >>> ((30 : Int32) &&& 0x3f).toInt64.toUInt64).toInt64)), (.long (own_xs g3 30))])
          refine OwnGo.st (fun _ k => XS.lxor X40.here hx rfl (hb hby at_203) rfl k) ?_
          show OwnGo p e below s _ _ _ T40 (mkF m 204 #[.val (.int p1), .val (.int p2), .val (.int p3), .val (.int p4), .val (.int p5), .val (.int nn), .val (.int y0), .val (.int y1), .val (.int y2), .val (.int y3), .val (.ref b34), .val (.long (own_xs g3 30)), .second, .unset, .unset] [(.long ((own_xs g3 30) ^^^ (((own_xs g3 30).toUInt64 >>> ((30 : Int32) &&& 0x3f).toInt64.toUInt64).toInt64)))])
          refine OwnGo.st (fun _ k => XS.lload X40.here hx rfl (hb hby at_204) rfl  k) ?_
          show OwnGo p e below s _ _ _ T40 (mkF m 206 #[.val (.int p1), .val (.int p2), .val (.int p3), .val (.int p4), .val (.int p5), .val (.int nn), .val (.int y0), .val (.int y1), .val (.int y2), .val (.int y3), .val (.ref b34), .val (.long (own_xs g3 30)), .second, .unset, .unset] [(.long (own_xs g3 30)), (.long ((own_xs g3 30) ^^^ (((own_xs g3 30).toUInt64 >>> ((30 : Int32) &&& 0x3f).toInt64.toUInt64).toInt64)))])
          refine OwnGo.st (fun _ k => XS.bipush X40.here hx rfl (hb hby at_206) k) ?_
          show OwnGo p e below s _ _ _ T40 (mkF m 208 #[.val (.int p1), .val (.int p2), .val (.int p3), .val (.int p4), .val (.int p5), .val (.int nn), .val (.int y0), .val (.int y1), .val (.int y2), .val (.int y3), .val (.ref b34), .val (.long (own_xs g3 30)), .second, .unset, .unset] [(.int (60 : Int32)), (.long (own_xs g3 30)), (.long ((own_xs g3 30) ^^^ (((own_xs g3 30).toUInt64 >>> ((30 : Int32) &&& 0x3f).toInt64.toUInt64).toInt64)))])
          refine OwnGo.st (fun _ k => XS.lushr X40.here hx rfl (hb hby at_208) rfl k) ?_
          show OwnGo p e below s _ _ _ T40 (mkF m 209 #[.val (.int p1), .val (.int p2), .val (.int p3), .val (.int p4), .val (.int p5), .val (.int nn), .val (.int y0), .val (.int y1), .val (.int y2), .val (.int y3), .val (.ref b34), .val (.long (own_xs g3 30)), .second, .unset, .unset] [(.long (((own_xs g3 30).toUInt64 >>> ((60 : Int32) &&& 0x3f).toInt64.toUInt64).toInt64)), (.long ((own_xs g3 30) ^^^ (((own_xs g3 30).toUInt64 >>> ((30 : Int32) &&& 0x3f).toInt64.toUInt64).toInt64)))])
          refine OwnGo.st (fun _ k => XS.lxor X40.here hx rfl (hb hby at_209) rfl k) ?_
          show OwnGo p e below s _ _ _ T40 (mkF m 210 #[.val (.int p1), .val (.int p2), .val (.int p3), .val (.int p4), .val (.int p5), .val (.int nn), .val (.int y0), .val (.int y1), .val (.int y2), .val (.int y3), .val (.ref b34), .val (.long (own_xs g3 30)), .second, .unset, .unset] [(.long (((own_xs g3 30) ^^^ (((own_xs g3 30).toUInt64 >>> ((30 : Int32) &&& 0x3f).toInt64.toUInt64).toInt64)) ^^^ (((own_xs g3 30).toUInt64 >>> ((60 : Int32) &&& 0x3f).toInt64.toUInt64).toInt64)))])
          show OwnGo p e below s _ _ _ T40 (mkF m 210 #[.val (.int p1), .val (.int p2), .val (.int p3), .val (.int p4), .val (.int p5), .val (.int nn), .val (.int y0), .val (.int y1), .val (.int y2), .val (.int y3), .val (.ref b34), .val (.long (own_xs g3 30)), .second, .unset, .unset] [(.long (own_un (own_xs g3 30) 30 60))])
          rw [own_u30]
          show OwnGo p e below s _ _ _ T40 (mkF m 210 #[.val (.int p1), .val (.int p2), .val (.int p3), .val (.int p4), .val (.int p5), .val (.int nn), .val (.int y0), .val (.int y1), .val (.int y2), .val (.int y3), .val (.ref b34), .val (.long (own_xs g3 30)), .second, .unset, .unset] [(.long g3)])
          refine OwnGo.st (fun _ k => XS.lstore X40.here hx rfl (hb hby at_210) rfl (l' := #[.val (.int p1), .val (.int p2), .val (.int p3), .val (.int p4), .val (.int p5), .val (.int nn), .val (.int y0), .val (.int y1), .val (.int y2), .val (.int y3), .val (.ref b34), .val (.long g3), .second, .unset, .unset]) rfl k) ?_
          show OwnGo p e below s _ _ _ T40 (mkF m 212 #[.val (.int p1), .val (.int p2), .val (.int p3), .val (.int p4), .val (.int p5), .val (.int nn), .val (.int y0), .val (.int y1), .val (.int y2), .val (.int y3), .val (.ref b34), .val (.long g3), .second, .unset, .unset] [])
          refine OwnGo.st (fun _ k => X40.ldc2Long hx hown (mvT hZ (hw _ (List.mem_of_getElem? (i := 16) rfl))) (g := (mkF m 212 #[.val (.int p1), .val (.int p2), .val (.int p3), .val (.int p4), .val (.int p5), .val (.int nn), .val (.int y0), .val (.int y1), .val (.int y2), .val (.int y3), .val (.ref b34), .val (.long g3), .second, .unset, .unset] [])) rfl (hb hby at_212) _ k) ?_
          show OwnGo p e below s _ _ _ T40 (mkF m 215 #[.val (.int p1), .val (.int p2), .val (.int p3), .val (.int p4), .val (.int p5), .val (.int nn), .val (.int y0), .val (.int y1), .val (.int y2), .val (.int y3), .val (.ref b34), .val (.long g3), .second, .unset, .unset] [(.long (1099511628211 : Int64))])
          obtain ⟨_, _, ⟨T41, L41, k41, n41⟩, -, X41, ⟨Lc41, hQ41, l41, y41, z41⟩, st41⟩ := Jvm.LawKit.callS X40 hx (y := (⟨"com/example/utsatt/utsatt/KeyHashesOfPinLaw", "inverse", "(J)J"⟩ : MethodName)) hown (mvT hZ (hw _ (List.mem_of_getElem? (i := 10) rfl))) (mvT hZ (hw _ (List.mem_of_getElem? (i := 11) rfl))) (mvT hZ (hw _ (List.mem_of_getElem? (i := 12) rfl))) (mvT hZ (hw _ (List.mem_of_getElem? (i := 13) rfl))) (by decide) (backOf (W := 0) (rm2 l Z a0 hw [] (1099511628211 : Int64) h37 n0 Z_ ) hZ (hw _ (List.mem_of_getElem? (i := 13) rfl)) (hw _ (List.mem_of_getElem? (i := 12) rfl)) (by decide) (by decide)) (g := (mkF m 215 #[.val (.int p1), .val (.int p2), .val (.int p3), .val (.int p4), .val (.int p5), .val (.int nn), .val (.int y0), .val (.int y1), .val (.int y2), .val (.int y3), .val (.ref b34), .val (.long g3), .second, .unset, .unset] [(.long (1099511628211 : Int64))])) rfl (by rw [hml]; rfl) (argsL := [(.long (1099511628211 : Int64))]) (rest := []) (lenOf pd_1 rfl) rfl (by show 2 * 0 + _ ≤ _; exact Nat.le_of_eq rfl) (hb hby at_215) (fun _ _ => ⟨rfl, e40, (by decide : 1 + 0 ≤ _), (by decide : 3 + 0 ≤ _)⟩)
          dsimp only [Pt.U, Pt.locs, Pt.cells, Pt.slots] at X41 l41 y41 z41 st41 hQ41
          subst l41 y41 z41
          obtain ⟨rfl, N41q, e41⟩ := hQ41
          have N41 := Fr.app N40 N41q
          refine OwnGo.st st41 ?_
          show OwnGo p e below s _ _ _ T41 (mkF m 218 #[.val (.int p1), .val (.int p2), .val (.int p3), .val (.int p4), .val (.int p5), .val (.int nn), .val (.int y0), .val (.int y1), .val (.int y2), .val (.int y3), .val (.ref b34), .val (.long g3), .second, .unset, .unset] [(.long (own_inv (1099511628211 : Int64)))])
          refine OwnGo.st (fun _ k => XS.lstore X41.here hx rfl (hb hby at_218) rfl (l' := #[.val (.int p1), .val (.int p2), .val (.int p3), .val (.int p4), .val (.int p5), .val (.int nn), .val (.int y0), .val (.int y1), .val (.int y2), .val (.int y3), .val (.ref b34), .val (.long g3), .second, .val (.long (own_inv (1099511628211 : Int64))), .second]) rfl k) ?_
          show OwnGo p e below s _ _ _ T41 (mkF m 220 #[.val (.int p1), .val (.int p2), .val (.int p3), .val (.int p4), .val (.int p5), .val (.int nn), .val (.int y0), .val (.int y1), .val (.int y2), .val (.int y3), .val (.ref b34), .val (.long g3), .second, .val (.long (own_inv (1099511628211 : Int64))), .second] [])
          refine OwnGo.st (fun _ k => XS.iload X41.here hx rfl (hb hby at_220) rfl  k) ?_
          show OwnGo p e below s _ _ _ T41 (mkF m 222 #[.val (.int p1), .val (.int p2), .val (.int p3), .val (.int p4), .val (.int p5), .val (.int nn), .val (.int y0), .val (.int y1), .val (.int y2), .val (.int y3), .val (.ref b34), .val (.long g3), .second, .val (.long (own_inv (1099511628211 : Int64))), .second] [(.int nn)])
          refine OwnGo.st (fun _ k => XS.iconst X41.here hx rfl (hb hby at_222) k) ?_
          show OwnGo p e below s _ _ _ T41 (mkF m 223 #[.val (.int p1), .val (.int p2), .val (.int p3), .val (.int p4), .val (.int p5), .val (.int nn), .val (.int y0), .val (.int y1), .val (.int y2), .val (.int y3), .val (.ref b34), .val (.long g3), .second, .val (.long (own_inv (1099511628211 : Int64))), .second] [(.int (4 : Int32)), (.int nn)])
          refine OwnGo.st (fun _ k => XS.icmpYes X41.here hx rfl (pc0 := 223) (pc' := 241) rfl (hb hby at_223) rfl (tlt ((by rw [hk3]; decide) : nn < (4 : Int32))).1 (by decide) (by decide) k) ?_
          show OwnGo p e below s _ _ _ T41 (mkF m 241 #[.val (.int p1), .val (.int p2), .val (.int p3), .val (.int p4), .val (.int p5), .val (.int nn), .val (.int y0), .val (.int y1), .val (.int y2), .val (.int y3), .val (.ref b34), .val (.long g3), .second, .val (.long (own_inv (1099511628211 : Int64))), .second] [])
          refine OwnGo.st (fun _ k => XS.iload X41.here hx rfl (hb hby at_241) rfl  k) ?_
          show OwnGo p e below s _ _ _ T41 (mkF m 243 #[.val (.int p1), .val (.int p2), .val (.int p3), .val (.int p4), .val (.int p5), .val (.int nn), .val (.int y0), .val (.int y1), .val (.int y2), .val (.int y3), .val (.ref b34), .val (.long g3), .second, .val (.long (own_inv (1099511628211 : Int64))), .second] [(.int nn)])
          refine OwnGo.st (fun _ k => XS.iconst X41.here hx rfl (hb hby at_243) k) ?_
          show OwnGo p e below s _ _ _ T41 (mkF m 244 #[.val (.int p1), .val (.int p2), .val (.int p3), .val (.int p4), .val (.int p5), .val (.int nn), .val (.int y0), .val (.int y1), .val (.int y2), .val (.int y3), .val (.ref b34), .val (.long g3), .second, .val (.long (own_inv (1099511628211 : Int64))), .second] [(.int (3 : Int32)), (.int nn)])
          refine OwnGo.st (fun _ k => XS.icmpNo X41.here hx rfl (hb hby at_244) rfl (flt ((by rw [hk3]; decide) : ¬ (nn < (3 : Int32)))).1 k) ?_
          show OwnGo p e below s _ _ _ T41 (mkF m 247 #[.val (.int p1), .val (.int p2), .val (.int p3), .val (.int p4), .val (.int p5), .val (.int nn), .val (.int y0), .val (.int y1), .val (.int y2), .val (.int y3), .val (.ref b34), .val (.long g3), .second, .val (.long (own_inv (1099511628211 : Int64))), .second] [])
          refine OwnGo.st (fun _ k => XS.lload X41.here hx rfl (hb hby at_247) rfl  k) ?_
          show OwnGo p e below s _ _ _ T41 (mkF m 249 #[.val (.int p1), .val (.int p2), .val (.int p3), .val (.int p4), .val (.int p5), .val (.int nn), .val (.int y0), .val (.int y1), .val (.int y2), .val (.int y3), .val (.ref b34), .val (.long g3), .second, .val (.long (own_inv (1099511628211 : Int64))), .second] [(.long g3)])
          refine OwnGo.st (fun _ k => XS.lload X41.here hx rfl (hb hby at_249) rfl  k) ?_
          show OwnGo p e below s _ _ _ T41 (mkF m 251 #[.val (.int p1), .val (.int p2), .val (.int p3), .val (.int p4), .val (.int p5), .val (.int nn), .val (.int y0), .val (.int y1), .val (.int y2), .val (.int y3), .val (.ref b34), .val (.long g3), .second, .val (.long (own_inv (1099511628211 : Int64))), .second] [(.long (own_inv (1099511628211 : Int64))), (.long g3)])
          refine OwnGo.st (fun _ k => XS.lmul X41.here hx rfl (hb hby at_251) rfl k) ?_
          show OwnGo p e below s _ _ _ T41 (mkF m 252 #[.val (.int p1), .val (.int p2), .val (.int p3), .val (.int p4), .val (.int p5), .val (.int nn), .val (.int y0), .val (.int y1), .val (.int y2), .val (.int y3), .val (.ref b34), .val (.long g3), .second, .val (.long (own_inv (1099511628211 : Int64))), .second] [(.long (g3 * (own_inv (1099511628211 : Int64))))])
          refine OwnGo.st (fun _ k => XS.iload X41.here hx rfl (hb hby at_252) rfl  k) ?_
          show OwnGo p e below s _ _ _ T41 (mkF m 254 #[.val (.int p1), .val (.int p2), .val (.int p3), .val (.int p4), .val (.int p5), .val (.int nn), .val (.int y0), .val (.int y1), .val (.int y2), .val (.int y3), .val (.ref b34), .val (.long g3), .second, .val (.long (own_inv (1099511628211 : Int64))), .second] [(.int y2), (.long (g3 * (own_inv (1099511628211 : Int64))))])
          refine OwnGo.st (fun _ k => XS.sipush X41.here hx rfl (hb hby at_254) k) ?_
          show OwnGo p e below s _ _ _ T41 (mkF m 257 #[.val (.int p1), .val (.int p2), .val (.int p3), .val (.int p4), .val (.int p5), .val (.int nn), .val (.int y0), .val (.int y1), .val (.int y2), .val (.int y3), .val (.ref b34), .val (.long g3), .second, .val (.long (own_inv (1099511628211 : Int64))), .second] [(.int (255 : Int32)), (.int y2), (.long (g3 * (own_inv (1099511628211 : Int64))))])
          refine OwnGo.st (fun _ k => XS.iand X41.here hx rfl (hb hby at_257) rfl k) ?_
          show OwnGo p e below s _ _ _ T41 (mkF m 258 #[.val (.int p1), .val (.int p2), .val (.int p3), .val (.int p4), .val (.int p5), .val (.int nn), .val (.int y0), .val (.int y1), .val (.int y2), .val (.int y3), .val (.ref b34), .val (.long g3), .second, .val (.long (own_inv (1099511628211 : Int64))), .second] [(.int (y2 &&& (255 : Int32))), (.long (g3 * (own_inv (1099511628211 : Int64))))])
          refine OwnGo.st (fun _ k => XS.i2l X41.here hx rfl (hb hby at_258) rfl k) ?_
          show OwnGo p e below s _ _ _ T41 (mkF m 259 #[.val (.int p1), .val (.int p2), .val (.int p3), .val (.int p4), .val (.int p5), .val (.int nn), .val (.int y0), .val (.int y1), .val (.int y2), .val (.int y3), .val (.ref b34), .val (.long g3), .second, .val (.long (own_inv (1099511628211 : Int64))), .second] [(.long ((y2 &&& (255 : Int32)).toInt64)), (.long (g3 * (own_inv (1099511628211 : Int64))))])
          refine OwnGo.st (fun _ k => XS.lxor X41.here hx rfl (hb hby at_259) rfl k) ?_
          show OwnGo p e below s _ _ _ T41 (mkF m 260 #[.val (.int p1), .val (.int p2), .val (.int p3), .val (.int p4), .val (.int p5), .val (.int nn), .val (.int y0), .val (.int y1), .val (.int y2), .val (.int y3), .val (.ref b34), .val (.long g3), .second, .val (.long (own_inv (1099511628211 : Int64))), .second] [(.long ((g3 * (own_inv (1099511628211 : Int64))) ^^^ ((y2 &&& (255 : Int32)).toInt64)))])
          rw [show (g3 * own_inv (1099511628211 : Int64) ^^^ (y2 &&& (255 : Int32)).toInt64) = g2 from (by rw [hg3]; exact own_peel _ _)]
          show OwnGo p e below s _ _ _ T41 (mkF m 260 #[.val (.int p1), .val (.int p2), .val (.int p3), .val (.int p4), .val (.int p5), .val (.int nn), .val (.int y0), .val (.int y1), .val (.int y2), .val (.int y3), .val (.ref b34), .val (.long g3), .second, .val (.long (own_inv (1099511628211 : Int64))), .second] [(.long g2)])
          refine OwnGo.st (fun _ k => XS.lstore X41.here hx rfl (hb hby at_260) rfl (l' := #[.val (.int p1), .val (.int p2), .val (.int p3), .val (.int p4), .val (.int p5), .val (.int nn), .val (.int y0), .val (.int y1), .val (.int y2), .val (.int y3), .val (.ref b34), .val (.long g2), .second, .val (.long (own_inv (1099511628211 : Int64))), .second]) rfl k) ?_
          show OwnGo p e below s _ _ _ T41 (mkF m 262 #[.val (.int p1), .val (.int p2), .val (.int p3), .val (.int p4), .val (.int p5), .val (.int nn), .val (.int y0), .val (.int y1), .val (.int y2), .val (.int y3), .val (.ref b34), .val (.long g2), .second, .val (.long (own_inv (1099511628211 : Int64))), .second] [])
          refine OwnGo.st (fun _ k => XS.iload X41.here hx rfl (hb hby at_262) rfl  k) ?_
          show OwnGo p e below s _ _ _ T41 (mkF m 264 #[.val (.int p1), .val (.int p2), .val (.int p3), .val (.int p4), .val (.int p5), .val (.int nn), .val (.int y0), .val (.int y1), .val (.int y2), .val (.int y3), .val (.ref b34), .val (.long g2), .second, .val (.long (own_inv (1099511628211 : Int64))), .second] [(.int nn)])
          refine OwnGo.st (fun _ k => XS.iconst X41.here hx rfl (hb hby at_264) k) ?_
          show OwnGo p e below s _ _ _ T41 (mkF m 265 #[.val (.int p1), .val (.int p2), .val (.int p3), .val (.int p4), .val (.int p5), .val (.int nn), .val (.int y0), .val (.int y1), .val (.int y2), .val (.int y3), .val (.ref b34), .val (.long g2), .second, .val (.long (own_inv (1099511628211 : Int64))), .second] [(.int (2 : Int32)), (.int nn)])
          refine OwnGo.st (fun _ k => XS.icmpNo X41.here hx rfl (hb hby at_265) rfl (flt ((by rw [hk3]; decide) : ¬ (nn < (2 : Int32)))).1 k) ?_
          show OwnGo p e below s _ _ _ T41 (mkF m 268 #[.val (.int p1), .val (.int p2), .val (.int p3), .val (.int p4), .val (.int p5), .val (.int nn), .val (.int y0), .val (.int y1), .val (.int y2), .val (.int y3), .val (.ref b34), .val (.long g2), .second, .val (.long (own_inv (1099511628211 : Int64))), .second] [])
          refine OwnGo.st (fun _ k => XS.lload X41.here hx rfl (hb hby at_268) rfl  k) ?_
          show OwnGo p e below s _ _ _ T41 (mkF m 270 #[.val (.int p1), .val (.int p2), .val (.int p3), .val (.int p4), .val (.int p5), .val (.int nn), .val (.int y0), .val (.int y1), .val (.int y2), .val (.int y3), .val (.ref b34), .val (.long g2), .second, .val (.long (own_inv (1099511628211 : Int64))), .second] [(.long g2)])
          refine OwnGo.st (fun _ k => XS.lload X41.here hx rfl (hb hby at_270) rfl  k) ?_
          show OwnGo p e below s _ _ _ T41 (mkF m 272 #[.val (.int p1), .val (.int p2), .val (.int p3), .val (.int p4), .val (.int p5), .val (.int nn), .val (.int y0), .val (.int y1), .val (.int y2), .val (.int y3), .val (.ref b34), .val (.long g2), .second, .val (.long (own_inv (1099511628211 : Int64))), .second] [(.long (own_inv (1099511628211 : Int64))), (.long g2)])
          refine OwnGo.st (fun _ k => XS.lmul X41.here hx rfl (hb hby at_272) rfl k) ?_
          show OwnGo p e below s _ _ _ T41 (mkF m 273 #[.val (.int p1), .val (.int p2), .val (.int p3), .val (.int p4), .val (.int p5), .val (.int nn), .val (.int y0), .val (.int y1), .val (.int y2), .val (.int y3), .val (.ref b34), .val (.long g2), .second, .val (.long (own_inv (1099511628211 : Int64))), .second] [(.long (g2 * (own_inv (1099511628211 : Int64))))])
          refine OwnGo.st (fun _ k => XS.iload X41.here hx rfl (hb hby at_273) rfl  k) ?_
          show OwnGo p e below s _ _ _ T41 (mkF m 275 #[.val (.int p1), .val (.int p2), .val (.int p3), .val (.int p4), .val (.int p5), .val (.int nn), .val (.int y0), .val (.int y1), .val (.int y2), .val (.int y3), .val (.ref b34), .val (.long g2), .second, .val (.long (own_inv (1099511628211 : Int64))), .second] [(.int y1), (.long (g2 * (own_inv (1099511628211 : Int64))))])
          refine OwnGo.st (fun _ k => XS.sipush X41.here hx rfl (hb hby at_275) k) ?_
          show OwnGo p e below s _ _ _ T41 (mkF m 278 #[.val (.int p1), .val (.int p2), .val (.int p3), .val (.int p4), .val (.int p5), .val (.int nn), .val (.int y0), .val (.int y1), .val (.int y2), .val (.int y3), .val (.ref b34), .val (.long g2), .second, .val (.long (own_inv (1099511628211 : Int64))), .second] [(.int (255 : Int32)), (.int y1), (.long (g2 * (own_inv (1099511628211 : Int64))))])
          refine OwnGo.st (fun _ k => XS.iand X41.here hx rfl (hb hby at_278) rfl k) ?_
          show OwnGo p e below s _ _ _ T41 (mkF m 279 #[.val (.int p1), .val (.int p2), .val (.int p3), .val (.int p4), .val (.int p5), .val (.int nn), .val (.int y0), .val (.int y1), .val (.int y2), .val (.int y3), .val (.ref b34), .val (.long g2), .second, .val (.long (own_inv (1099511628211 : Int64))), .second] [(.int (y1 &&& (255 : Int32))), (.long (g2 * (own_inv (1099511628211 : Int64))))])
          refine OwnGo.st (fun _ k => XS.i2l X41.here hx rfl (hb hby at_279) rfl k) ?_
          show OwnGo p e below s _ _ _ T41 (mkF m 280 #[.val (.int p1), .val (.int p2), .val (.int p3), .val (.int p4), .val (.int p5), .val (.int nn), .val (.int y0), .val (.int y1), .val (.int y2), .val (.int y3), .val (.ref b34), .val (.long g2), .second, .val (.long (own_inv (1099511628211 : Int64))), .second] [(.long ((y1 &&& (255 : Int32)).toInt64)), (.long (g2 * (own_inv (1099511628211 : Int64))))])
          refine OwnGo.st (fun _ k => XS.lxor X41.here hx rfl (hb hby at_280) rfl k) ?_
          show OwnGo p e below s _ _ _ T41 (mkF m 281 #[.val (.int p1), .val (.int p2), .val (.int p3), .val (.int p4), .val (.int p5), .val (.int nn), .val (.int y0), .val (.int y1), .val (.int y2), .val (.int y3), .val (.ref b34), .val (.long g2), .second, .val (.long (own_inv (1099511628211 : Int64))), .second] [(.long ((g2 * (own_inv (1099511628211 : Int64))) ^^^ ((y1 &&& (255 : Int32)).toInt64)))])
          rw [show (g2 * own_inv (1099511628211 : Int64) ^^^ (y1 &&& (255 : Int32)).toInt64) = g1 from (by rw [hg2]; exact own_peel _ _)]
          show OwnGo p e below s _ _ _ T41 (mkF m 281 #[.val (.int p1), .val (.int p2), .val (.int p3), .val (.int p4), .val (.int p5), .val (.int nn), .val (.int y0), .val (.int y1), .val (.int y2), .val (.int y3), .val (.ref b34), .val (.long g2), .second, .val (.long (own_inv (1099511628211 : Int64))), .second] [(.long g1)])
          refine OwnGo.st (fun _ k => XS.lstore X41.here hx rfl (hb hby at_281) rfl (l' := #[.val (.int p1), .val (.int p2), .val (.int p3), .val (.int p4), .val (.int p5), .val (.int nn), .val (.int y0), .val (.int y1), .val (.int y2), .val (.int y3), .val (.ref b34), .val (.long g1), .second, .val (.long (own_inv (1099511628211 : Int64))), .second]) rfl k) ?_
          show OwnGo p e below s _ _ _ T41 (mkF m 283 #[.val (.int p1), .val (.int p2), .val (.int p3), .val (.int p4), .val (.int p5), .val (.int nn), .val (.int y0), .val (.int y1), .val (.int y2), .val (.int y3), .val (.ref b34), .val (.long g1), .second, .val (.long (own_inv (1099511628211 : Int64))), .second] [])
          refine OwnGo.st (fun _ k => XS.iload X41.here hx rfl (hb hby at_283) rfl  k) ?_
          show OwnGo p e below s _ _ _ T41 (mkF m 285 #[.val (.int p1), .val (.int p2), .val (.int p3), .val (.int p4), .val (.int p5), .val (.int nn), .val (.int y0), .val (.int y1), .val (.int y2), .val (.int y3), .val (.ref b34), .val (.long g1), .second, .val (.long (own_inv (1099511628211 : Int64))), .second] [(.int nn)])
          refine OwnGo.st (fun _ k => XS.iconst X41.here hx rfl (hb hby at_285) k) ?_
          show OwnGo p e below s _ _ _ T41 (mkF m 286 #[.val (.int p1), .val (.int p2), .val (.int p3), .val (.int p4), .val (.int p5), .val (.int nn), .val (.int y0), .val (.int y1), .val (.int y2), .val (.int y3), .val (.ref b34), .val (.long g1), .second, .val (.long (own_inv (1099511628211 : Int64))), .second] [(.int (1 : Int32)), (.int nn)])
          refine OwnGo.st (fun _ k => XS.icmpNo X41.here hx rfl (hb hby at_286) rfl (flt ((by rw [hk3]; decide) : ¬ (nn < (1 : Int32)))).1 k) ?_
          show OwnGo p e below s _ _ _ T41 (mkF m 289 #[.val (.int p1), .val (.int p2), .val (.int p3), .val (.int p4), .val (.int p5), .val (.int nn), .val (.int y0), .val (.int y1), .val (.int y2), .val (.int y3), .val (.ref b34), .val (.long g1), .second, .val (.long (own_inv (1099511628211 : Int64))), .second] [])
          refine OwnGo.st (fun _ k => XS.lload X41.here hx rfl (hb hby at_289) rfl  k) ?_
          show OwnGo p e below s _ _ _ T41 (mkF m 291 #[.val (.int p1), .val (.int p2), .val (.int p3), .val (.int p4), .val (.int p5), .val (.int nn), .val (.int y0), .val (.int y1), .val (.int y2), .val (.int y3), .val (.ref b34), .val (.long g1), .second, .val (.long (own_inv (1099511628211 : Int64))), .second] [(.long g1)])
          refine OwnGo.st (fun _ k => XS.lload X41.here hx rfl (hb hby at_291) rfl  k) ?_
          show OwnGo p e below s _ _ _ T41 (mkF m 293 #[.val (.int p1), .val (.int p2), .val (.int p3), .val (.int p4), .val (.int p5), .val (.int nn), .val (.int y0), .val (.int y1), .val (.int y2), .val (.int y3), .val (.ref b34), .val (.long g1), .second, .val (.long (own_inv (1099511628211 : Int64))), .second] [(.long (own_inv (1099511628211 : Int64))), (.long g1)])
          refine OwnGo.st (fun _ k => XS.lmul X41.here hx rfl (hb hby at_293) rfl k) ?_
          show OwnGo p e below s _ _ _ T41 (mkF m 294 #[.val (.int p1), .val (.int p2), .val (.int p3), .val (.int p4), .val (.int p5), .val (.int nn), .val (.int y0), .val (.int y1), .val (.int y2), .val (.int y3), .val (.ref b34), .val (.long g1), .second, .val (.long (own_inv (1099511628211 : Int64))), .second] [(.long (g1 * (own_inv (1099511628211 : Int64))))])
          refine OwnGo.st (fun _ k => XS.iload X41.here hx rfl (hb hby at_294) rfl  k) ?_
          show OwnGo p e below s _ _ _ T41 (mkF m 296 #[.val (.int p1), .val (.int p2), .val (.int p3), .val (.int p4), .val (.int p5), .val (.int nn), .val (.int y0), .val (.int y1), .val (.int y2), .val (.int y3), .val (.ref b34), .val (.long g1), .second, .val (.long (own_inv (1099511628211 : Int64))), .second] [(.int y0), (.long (g1 * (own_inv (1099511628211 : Int64))))])
          refine OwnGo.st (fun _ k => XS.sipush X41.here hx rfl (hb hby at_296) k) ?_
          show OwnGo p e below s _ _ _ T41 (mkF m 299 #[.val (.int p1), .val (.int p2), .val (.int p3), .val (.int p4), .val (.int p5), .val (.int nn), .val (.int y0), .val (.int y1), .val (.int y2), .val (.int y3), .val (.ref b34), .val (.long g1), .second, .val (.long (own_inv (1099511628211 : Int64))), .second] [(.int (255 : Int32)), (.int y0), (.long (g1 * (own_inv (1099511628211 : Int64))))])
          refine OwnGo.st (fun _ k => XS.iand X41.here hx rfl (hb hby at_299) rfl k) ?_
          show OwnGo p e below s _ _ _ T41 (mkF m 300 #[.val (.int p1), .val (.int p2), .val (.int p3), .val (.int p4), .val (.int p5), .val (.int nn), .val (.int y0), .val (.int y1), .val (.int y2), .val (.int y3), .val (.ref b34), .val (.long g1), .second, .val (.long (own_inv (1099511628211 : Int64))), .second] [(.int (y0 &&& (255 : Int32))), (.long (g1 * (own_inv (1099511628211 : Int64))))])
          refine OwnGo.st (fun _ k => XS.i2l X41.here hx rfl (hb hby at_300) rfl k) ?_
          show OwnGo p e below s _ _ _ T41 (mkF m 301 #[.val (.int p1), .val (.int p2), .val (.int p3), .val (.int p4), .val (.int p5), .val (.int nn), .val (.int y0), .val (.int y1), .val (.int y2), .val (.int y3), .val (.ref b34), .val (.long g1), .second, .val (.long (own_inv (1099511628211 : Int64))), .second] [(.long ((y0 &&& (255 : Int32)).toInt64)), (.long (g1 * (own_inv (1099511628211 : Int64))))])
          refine OwnGo.st (fun _ k => XS.lxor X41.here hx rfl (hb hby at_301) rfl k) ?_
          show OwnGo p e below s _ _ _ T41 (mkF m 302 #[.val (.int p1), .val (.int p2), .val (.int p3), .val (.int p4), .val (.int p5), .val (.int nn), .val (.int y0), .val (.int y1), .val (.int y2), .val (.int y3), .val (.ref b34), .val (.long g1), .second, .val (.long (own_inv (1099511628211 : Int64))), .second] [(.long ((g1 * (own_inv (1099511628211 : Int64))) ^^^ ((y0 &&& (255 : Int32)).toInt64)))])
          rw [show (g1 * own_inv (1099511628211 : Int64) ^^^ (y0 &&& (255 : Int32)).toInt64) = (-3750763034362895579 : Int64) from (by rw [hg1]; exact own_peel _ _)]
          show OwnGo p e below s _ _ _ T41 (mkF m 302 #[.val (.int p1), .val (.int p2), .val (.int p3), .val (.int p4), .val (.int p5), .val (.int nn), .val (.int y0), .val (.int y1), .val (.int y2), .val (.int y3), .val (.ref b34), .val (.long g1), .second, .val (.long (own_inv (1099511628211 : Int64))), .second] [(.long (-3750763034362895579 : Int64))])
          refine OwnGo.st (fun _ k => XS.lstore X41.here hx rfl (hb hby at_302) rfl (l' := #[.val (.int p1), .val (.int p2), .val (.int p3), .val (.int p4), .val (.int p5), .val (.int nn), .val (.int y0), .val (.int y1), .val (.int y2), .val (.int y3), .val (.ref b34), .val (.long (-3750763034362895579 : Int64)), .second, .val (.long (own_inv (1099511628211 : Int64))), .second]) rfl k) ?_
          show OwnGo p e below s _ _ _ T41 (mkF m 304 #[.val (.int p1), .val (.int p2), .val (.int p3), .val (.int p4), .val (.int p5), .val (.int nn), .val (.int y0), .val (.int y1), .val (.int y2), .val (.int y3), .val (.ref b34), .val (.long (-3750763034362895579 : Int64)), .second, .val (.long (own_inv (1099511628211 : Int64))), .second] [])
          refine OwnGo.st (fun _ k => XS.lload X41.here hx rfl (hb hby at_304) rfl  k) ?_
          show OwnGo p e below s _ _ _ T41 (mkF m 306 #[.val (.int p1), .val (.int p2), .val (.int p3), .val (.int p4), .val (.int p5), .val (.int nn), .val (.int y0), .val (.int y1), .val (.int y2), .val (.int y3), .val (.ref b34), .val (.long (-3750763034362895579 : Int64)), .second, .val (.long (own_inv (1099511628211 : Int64))), .second] [(.long (-3750763034362895579 : Int64))])
          refine OwnGo.st (fun _ k => X41.ldc2Long hx hown (mvT hZ (hw _ (List.mem_of_getElem? (i := 17) rfl))) (g := (mkF m 306 #[.val (.int p1), .val (.int p2), .val (.int p3), .val (.int p4), .val (.int p5), .val (.int nn), .val (.int y0), .val (.int y1), .val (.int y2), .val (.int y3), .val (.ref b34), .val (.long (-3750763034362895579 : Int64)), .second, .val (.long (own_inv (1099511628211 : Int64))), .second] [(.long (-3750763034362895579 : Int64))])) rfl (hb hby at_306) _ k) ?_
          show OwnGo p e below s _ _ _ T41 (mkF m 309 #[.val (.int p1), .val (.int p2), .val (.int p3), .val (.int p4), .val (.int p5), .val (.int nn), .val (.int y0), .val (.int y1), .val (.int y2), .val (.int y3), .val (.ref b34), .val (.long (-3750763034362895579 : Int64)), .second, .val (.long (own_inv (1099511628211 : Int64))), .second] [(.long (-3750763034362895579 : Int64)), (.long (-3750763034362895579 : Int64))])
          refine OwnGo.st (fun _ k => XS.lcmp X41.here hx rfl (hb hby at_309) rfl k) ?_
          show OwnGo p e below s _ _ _ T41 (mkF m 310 #[.val (.int p1), .val (.int p2), .val (.int p3), .val (.int p4), .val (.int p5), .val (.int nn), .val (.int y0), .val (.int y1), .val (.int y2), .val (.int y3), .val (.ref b34), .val (.long (-3750763034362895579 : Int64)), .second, .val (.long (own_inv (1099511628211 : Int64))), .second] [(.int (lcmpW (-3750763034362895579 : Int64) (-3750763034362895579 : Int64)))])
          refine OwnGo.st (fun _ k => XS.ifNo X41.here hx rfl (hb hby at_310) rfl ((if0 _ _).trans (teq ((lw_eq _ _).2 rfl : (lcmpW (-3750763034362895579 : Int64) (-3750763034362895579 : Int64)) = (0 : Int32))).2) k) ?_
          show OwnGo p e below s _ _ _ T41 (mkF m 313 #[.val (.int p1), .val (.int p2), .val (.int p3), .val (.int p4), .val (.int p5), .val (.int nn), .val (.int y0), .val (.int y1), .val (.int y2), .val (.int y3), .val (.ref b34), .val (.long (-3750763034362895579 : Int64)), .second, .val (.long (own_inv (1099511628211 : Int64))), .second] [])
          refine OwnGo.st (fun _ k => XS.iconst X41.here hx rfl (hb hby at_313) k) ?_
          show OwnGo p e below s _ _ _ T41 (mkF m 314 #[.val (.int p1), .val (.int p2), .val (.int p3), .val (.int p4), .val (.int p5), .val (.int nn), .val (.int y0), .val (.int y1), .val (.int y2), .val (.int y3), .val (.ref b34), .val (.long (-3750763034362895579 : Int64)), .second, .val (.long (own_inv (1099511628211 : Int64))), .second] [(.int (1 : Int32))])
          refine OwnGo.st (fun _ k => XS.goto X41.here hx rfl (pc0 := 314) (pc' := 318) rfl (hb hby at_314) (by decide) (by decide) k) ?_
          show OwnGo p e below s _ _ _ T41 (mkF m 318 #[.val (.int p1), .val (.int p2), .val (.int p3), .val (.int p4), .val (.int p5), .val (.int nn), .val (.int y0), .val (.int y1), .val (.int y2), .val (.int y3), .val (.ref b34), .val (.long (-3750763034362895579 : Int64)), .second, .val (.long (own_inv (1099511628211 : Int64))), .second] [(.int (1 : Int32))])
          exact OwnGo.retN X41 hx (t := .boolean) hret hlk (by simp) (hb hby at_318) (by show Q0 Z p1 p2 p3 p4 p5 h0 n0 _ T41.heap _; rw [e41]; exact ⟨rfl, N41⟩) (by decide) (by decide)
        · refine OwnGo.st (fun _ k => XS.icmpYes X0.here hx rfl (pc0 := 84) (pc' := 110) rfl (hb hby at_84) rfl (feq (hk3 : ¬ (nn = (3 : Int32)))).2 (by decide) (by decide) k) ?_
          show OwnGo p e below s _ _ _ s₁ (mkF m 110 #[.val (.int p1), .val (.int p2), .val (.int p3), .val (.int p4), .val (.int p5), .val (.int nn), .val (.int y0), .val (.int y1), .val (.int y2), .val (.int y3), .unset, .unset, .unset, .unset, .unset] [])
          have hk4 : nn = (4 : Int32) := (((((own_m5 p1 _ hnn).resolve_left hk0).resolve_left hk1).resolve_left hk2).resolve_left hk3)
          refine OwnGo.st (fun _ k => XS.iconst X0.here hx rfl (hb hby at_110) k) ?_
          show OwnGo p e below s _ _ _ s₁ (mkF m 111 #[.val (.int p1), .val (.int p2), .val (.int p3), .val (.int p4), .val (.int p5), .val (.int nn), .val (.int y0), .val (.int y1), .val (.int y2), .val (.int y3), .unset, .unset, .unset, .unset, .unset] [(.int (4 : Int32))])
          obtain ⟨T42, h42, k42, X42, e42, E42, A42, Ex42, st42⟩ := newPE X0 hx hZ (hw _ (List.mem_of_getElem? (i := 1) rfl)) e0 (g := (mkF m 111 #[.val (.int p1), .val (.int p2), .val (.int p3), .val (.int p4), .val (.int p5), .val (.int nn), .val (.int y0), .val (.int y1), .val (.int y2), .val (.int y3), .unset, .unset, .unset, .unset, .unset] [(.int (4 : Int32))])) rfl (hb hby at_111) rfl (by decide) (cap := 4) (by decide) (by decide) (by decide) (by decide) (ad := "[B") (by decide)
          obtain ⟨b42, g42⟩ : ∃ z, z = h0.size := ⟨_, rfl⟩
          rw [← g42] at A42 Ex42 st42
          have g_b42 : n0 ≤ b42 := Nat.le_trans Z_ (Nat.le_of_eq g42.symm)
          have Z_ : n0 ≤ h42.size := Nat.le_trans Z_ E42.1
          have V_b42 : Arv Z h42 b42 k42 .byte (4 : Int32) [(.int (0 : Int32)), (.int (0 : Int32)), (.int (0 : Int32)), (.int (0 : Int32))] (.int (0 : Int32)) := (Arv.new A42 (by decide)).pad (pad_rep [] (.int (0 : Int32)) 4)
          have E_b42 := Ex42
          refine OwnGo.st st42 ?_
          show OwnGo p e below s _ _ _ T42 (mkF m 113 #[.val (.int p1), .val (.int p2), .val (.int p3), .val (.int p4), .val (.int p5), .val (.int nn), .val (.int y0), .val (.int y1), .val (.int y2), .val (.int y3), .unset, .unset, .unset, .unset, .unset] [(.ref b42)])
          refine OwnGo.st (fun _ k => XS.dup X42.here hx rfl (hb hby at_113) rfl rfl k) ?_
          show OwnGo p e below s _ _ _ T42 (mkF m 114 #[.val (.int p1), .val (.int p2), .val (.int p3), .val (.int p4), .val (.int p5), .val (.int nn), .val (.int y0), .val (.int y1), .val (.int y2), .val (.int y3), .unset, .unset, .unset, .unset, .unset] [(.ref b42), (.ref b42)])
          refine OwnGo.st (fun _ k => XS.iconst X42.here hx rfl (hb hby at_114) k) ?_
          show OwnGo p e below s _ _ _ T42 (mkF m 115 #[.val (.int p1), .val (.int p2), .val (.int p3), .val (.int p4), .val (.int p5), .val (.int nn), .val (.int y0), .val (.int y1), .val (.int y2), .val (.int y3), .unset, .unset, .unset, .unset, .unset] [(.int (0 : Int32)), (.ref b42), (.ref b42)])
          refine OwnGo.st (fun _ k => XS.iload X42.here hx rfl (hb hby at_115) rfl  k) ?_
          show OwnGo p e below s _ _ _ T42 (mkF m 117 #[.val (.int p1), .val (.int p2), .val (.int p3), .val (.int p4), .val (.int p5), .val (.int nn), .val (.int y0), .val (.int y1), .val (.int y2), .val (.int y3), .unset, .unset, .unset, .unset, .unset] [(.int y0), (.int (0 : Int32)), (.ref b42), (.ref b42)])
          obtain ⟨cl43, Ar43, q43, S43, N43, H43, G43⟩ := id V_b42
          have hin43 : ¬ ((0 : Int32) < 0 ∨ cl43.slots.size ≤ ((0 : Int32)).toNatClampNeg) := inb_of S43 ⟨by decide, by decide⟩
          obtain ⟨T43, h43, X43, e43, W43, st43⟩ := stB X42 hx hZ e42 Ar43 (j := (0 : Int32)) hin43 (g := (mkF m 117 #[.val (.int p1), .val (.int p2), .val (.int p3), .val (.int p4), .val (.int p5), .val (.int nn), .val (.int y0), .val (.int y1), .val (.int y2), .val (.int y3), .unset, .unset, .unset, .unset, .unset] [(.int y0), (.int (0 : Int32)), (.ref b42), (.ref b42)])) rfl rfl (hb hby at_117)
          have V_b42 : Arv Z h43 b42 k42 .byte (4 : Int32) [(.int (nar .byte y0)), (.int (0 : Int32)), (.int (0 : Int32)), (.int (0 : Int32))] (.int (0 : Int32)) := Arv.set Ar43 q43 S43 N43 H43 G43 (fits_nar_byte _) W43 0 rfl (Nat.le_of_ble_eq_true rfl)
          rw [show nar .byte y0 = y0 from (by rw [hy0]; exact own_nb _)] at V_b42
          have E_b42 := E_b42.wr W43
          have N43 := Fr.snoc X43 N0 g_b42
          have Z_ : n0 ≤ h43.size := by rw [W43.size]; exact Z_
          refine OwnGo.st st43 ?_
          show OwnGo p e below s _ _ _ T43 (mkF m 118 #[.val (.int p1), .val (.int p2), .val (.int p3), .val (.int p4), .val (.int p5), .val (.int nn), .val (.int y0), .val (.int y1), .val (.int y2), .val (.int y3), .unset, .unset, .unset, .unset, .unset] [(.ref b42)])
          refine OwnGo.st (fun _ k => XS.dup X43.here hx rfl (hb hby at_118) rfl rfl k) ?_
          show OwnGo p e below s _ _ _ T43 (mkF m 119 #[.val (.int p1), .val (.int p2), .val (.int p3), .val (.int p4), .val (.int p5), .val (.int nn), .val (.int y0), .val (.int y1), .val (.int y2), .val (.int y3), .unset, .unset, .unset, .unset, .unset] [(.ref b42), (.ref b42)])
          refine OwnGo.st (fun _ k => XS.iconst X43.here hx rfl (hb hby at_119) k) ?_
          show OwnGo p e below s _ _ _ T43 (mkF m 120 #[.val (.int p1), .val (.int p2), .val (.int p3), .val (.int p4), .val (.int p5), .val (.int nn), .val (.int y0), .val (.int y1), .val (.int y2), .val (.int y3), .unset, .unset, .unset, .unset, .unset] [(.int (1 : Int32)), (.ref b42), (.ref b42)])
          refine OwnGo.st (fun _ k => XS.iload X43.here hx rfl (hb hby at_120) rfl  k) ?_
          show OwnGo p e below s _ _ _ T43 (mkF m 122 #[.val (.int p1), .val (.int p2), .val (.int p3), .val (.int p4), .val (.int p5), .val (.int nn), .val (.int y0), .val (.int y1), .val (.int y2), .val (.int y3), .unset, .unset, .unset, .unset, .unset] [(.int y1), (.int (1 : Int32)), (.ref b42), (.ref b42)])
          obtain ⟨cl44, Ar44, q44, S44, N44, H44, G44⟩ := id V_b42
          have hin44 : ¬ ((1 : Int32) < 0 ∨ cl44.slots.size ≤ ((1 : Int32)).toNatClampNeg) := inb_of S44 ⟨by decide, by decide⟩
          obtain ⟨T44, h44, X44, e44, W44, st44⟩ := stB X43 hx hZ e43 Ar44 (j := (1 : Int32)) hin44 (g := (mkF m 122 #[.val (.int p1), .val (.int p2), .val (.int p3), .val (.int p4), .val (.int p5), .val (.int nn), .val (.int y0), .val (.int y1), .val (.int y2), .val (.int y3), .unset, .unset, .unset, .unset, .unset] [(.int y1), (.int (1 : Int32)), (.ref b42), (.ref b42)])) rfl rfl (hb hby at_122)
          have V_b42 : Arv Z h44 b42 k42 .byte (4 : Int32) [(.int y0), (.int (nar .byte y1)), (.int (0 : Int32)), (.int (0 : Int32))] (.int (0 : Int32)) := Arv.set Ar44 q44 S44 N44 H44 G44 (fits_nar_byte _) W44 1 rfl (Nat.le_of_ble_eq_true rfl)
          rw [show nar .byte y1 = y1 from (by rw [hy1]; exact own_nb _)] at V_b42
          have E_b42 := E_b42.wr W44
          have N44 := Fr.snoc X44 N43 g_b42
          have Z_ : n0 ≤ h44.size := by rw [W44.size]; exact Z_
          refine OwnGo.st st44 ?_
          show OwnGo p e below s _ _ _ T44 (mkF m 123 #[.val (.int p1), .val (.int p2), .val (.int p3), .val (.int p4), .val (.int p5), .val (.int nn), .val (.int y0), .val (.int y1), .val (.int y2), .val (.int y3), .unset, .unset, .unset, .unset, .unset] [(.ref b42)])
          refine OwnGo.st (fun _ k => XS.dup X44.here hx rfl (hb hby at_123) rfl rfl k) ?_
          show OwnGo p e below s _ _ _ T44 (mkF m 124 #[.val (.int p1), .val (.int p2), .val (.int p3), .val (.int p4), .val (.int p5), .val (.int nn), .val (.int y0), .val (.int y1), .val (.int y2), .val (.int y3), .unset, .unset, .unset, .unset, .unset] [(.ref b42), (.ref b42)])
          refine OwnGo.st (fun _ k => XS.iconst X44.here hx rfl (hb hby at_124) k) ?_
          show OwnGo p e below s _ _ _ T44 (mkF m 125 #[.val (.int p1), .val (.int p2), .val (.int p3), .val (.int p4), .val (.int p5), .val (.int nn), .val (.int y0), .val (.int y1), .val (.int y2), .val (.int y3), .unset, .unset, .unset, .unset, .unset] [(.int (2 : Int32)), (.ref b42), (.ref b42)])
          refine OwnGo.st (fun _ k => XS.iload X44.here hx rfl (hb hby at_125) rfl  k) ?_
          show OwnGo p e below s _ _ _ T44 (mkF m 127 #[.val (.int p1), .val (.int p2), .val (.int p3), .val (.int p4), .val (.int p5), .val (.int nn), .val (.int y0), .val (.int y1), .val (.int y2), .val (.int y3), .unset, .unset, .unset, .unset, .unset] [(.int y2), (.int (2 : Int32)), (.ref b42), (.ref b42)])
          obtain ⟨cl45, Ar45, q45, S45, N45, H45, G45⟩ := id V_b42
          have hin45 : ¬ ((2 : Int32) < 0 ∨ cl45.slots.size ≤ ((2 : Int32)).toNatClampNeg) := inb_of S45 ⟨by decide, by decide⟩
          obtain ⟨T45, h45, X45, e45, W45, st45⟩ := stB X44 hx hZ e44 Ar45 (j := (2 : Int32)) hin45 (g := (mkF m 127 #[.val (.int p1), .val (.int p2), .val (.int p3), .val (.int p4), .val (.int p5), .val (.int nn), .val (.int y0), .val (.int y1), .val (.int y2), .val (.int y3), .unset, .unset, .unset, .unset, .unset] [(.int y2), (.int (2 : Int32)), (.ref b42), (.ref b42)])) rfl rfl (hb hby at_127)
          have V_b42 : Arv Z h45 b42 k42 .byte (4 : Int32) [(.int y0), (.int y1), (.int (nar .byte y2)), (.int (0 : Int32))] (.int (0 : Int32)) := Arv.set Ar45 q45 S45 N45 H45 G45 (fits_nar_byte _) W45 2 rfl (Nat.le_of_ble_eq_true rfl)
          rw [show nar .byte y2 = y2 from (by rw [hy2]; exact own_nb _)] at V_b42
          have E_b42 := E_b42.wr W45
          have N45 := Fr.snoc X45 N44 g_b42
          have Z_ : n0 ≤ h45.size := by rw [W45.size]; exact Z_
          refine OwnGo.st st45 ?_
          show OwnGo p e below s _ _ _ T45 (mkF m 128 #[.val (.int p1), .val (.int p2), .val (.int p3), .val (.int p4), .val (.int p5), .val (.int nn), .val (.int y0), .val (.int y1), .val (.int y2), .val (.int y3), .unset, .unset, .unset, .unset, .unset] [(.ref b42)])
          refine OwnGo.st (fun _ k => XS.dup X45.here hx rfl (hb hby at_128) rfl rfl k) ?_
          show OwnGo p e below s _ _ _ T45 (mkF m 129 #[.val (.int p1), .val (.int p2), .val (.int p3), .val (.int p4), .val (.int p5), .val (.int nn), .val (.int y0), .val (.int y1), .val (.int y2), .val (.int y3), .unset, .unset, .unset, .unset, .unset] [(.ref b42), (.ref b42)])
          refine OwnGo.st (fun _ k => XS.iconst X45.here hx rfl (hb hby at_129) k) ?_
          show OwnGo p e below s _ _ _ T45 (mkF m 130 #[.val (.int p1), .val (.int p2), .val (.int p3), .val (.int p4), .val (.int p5), .val (.int nn), .val (.int y0), .val (.int y1), .val (.int y2), .val (.int y3), .unset, .unset, .unset, .unset, .unset] [(.int (3 : Int32)), (.ref b42), (.ref b42)])
          refine OwnGo.st (fun _ k => XS.iload X45.here hx rfl (hb hby at_130) rfl  k) ?_
          show OwnGo p e below s _ _ _ T45 (mkF m 132 #[.val (.int p1), .val (.int p2), .val (.int p3), .val (.int p4), .val (.int p5), .val (.int nn), .val (.int y0), .val (.int y1), .val (.int y2), .val (.int y3), .unset, .unset, .unset, .unset, .unset] [(.int y3), (.int (3 : Int32)), (.ref b42), (.ref b42)])
          obtain ⟨cl46, Ar46, q46, S46, N46, H46, G46⟩ := id V_b42
          have hin46 : ¬ ((3 : Int32) < 0 ∨ cl46.slots.size ≤ ((3 : Int32)).toNatClampNeg) := inb_of S46 ⟨by decide, by decide⟩
          obtain ⟨T46, h46, X46, e46, W46, st46⟩ := stB X45 hx hZ e45 Ar46 (j := (3 : Int32)) hin46 (g := (mkF m 132 #[.val (.int p1), .val (.int p2), .val (.int p3), .val (.int p4), .val (.int p5), .val (.int nn), .val (.int y0), .val (.int y1), .val (.int y2), .val (.int y3), .unset, .unset, .unset, .unset, .unset] [(.int y3), (.int (3 : Int32)), (.ref b42), (.ref b42)])) rfl rfl (hb hby at_132)
          have V_b42 : Arv Z h46 b42 k42 .byte (4 : Int32) [(.int y0), (.int y1), (.int y2), (.int (nar .byte y3))] (.int (0 : Int32)) := Arv.set Ar46 q46 S46 N46 H46 G46 (fits_nar_byte _) W46 3 rfl (Nat.le_of_ble_eq_true rfl)
          rw [show nar .byte y3 = y3 from (by rw [hy3]; exact own_nb _)] at V_b42
          have E_b42 := E_b42.wr W46
          have N46 := Fr.snoc X46 N45 g_b42
          have Z_ : n0 ≤ h46.size := by rw [W46.size]; exact Z_
          refine OwnGo.st st46 ?_
          show OwnGo p e below s _ _ _ T46 (mkF m 133 #[.val (.int p1), .val (.int p2), .val (.int p3), .val (.int p4), .val (.int p5), .val (.int nn), .val (.int y0), .val (.int y1), .val (.int y2), .val (.int y3), .unset, .unset, .unset, .unset, .unset] [(.ref b42)])
          refine OwnGo.st (fun _ k => XS.astore X46.here hx rfl (hb hby at_133) rfl rfl (l' := #[.val (.int p1), .val (.int p2), .val (.int p3), .val (.int p4), .val (.int p5), .val (.int nn), .val (.int y0), .val (.int y1), .val (.int y2), .val (.int y3), .val (.ref b42), .unset, .unset, .unset, .unset]) rfl k) ?_
          show OwnGo p e below s _ _ _ T46 (mkF m 135 #[.val (.int p1), .val (.int p2), .val (.int p3), .val (.int p4), .val (.int p5), .val (.int nn), .val (.int y0), .val (.int y1), .val (.int y2), .val (.int y3), .val (.ref b42), .unset, .unset, .unset, .unset] [])
          refine OwnGo.st (fun _ k => XS.aload X46.here hx rfl (hb hby at_135) rfl rfl  k) ?_
          show OwnGo p e below s _ _ _ T46 (mkF m 137 #[.val (.int p1), .val (.int p2), .val (.int p3), .val (.int p4), .val (.int p5), .val (.int nn), .val (.int y0), .val (.int y1), .val (.int y2), .val (.int y3), .val (.ref b42), .unset, .unset, .unset, .unset] [(.ref b42)])
          obtain ⟨_, _, ⟨T47, L47, k47, n47⟩, -, X47, ⟨Lc47, hQ47, l47, y47, z47⟩, st47⟩ := Jvm.LawKit.callS X46 hx (y := (⟨"com/example/utsatt/utsatt/KeyHashes", "of", "([B)J"⟩ : MethodName)) hown (mvT hZ (hw _ (List.mem_of_getElem? (i := 2) rfl))) (mvT hZ (hw _ (List.mem_of_getElem? (i := 3) rfl))) (mvT hZ (hw _ (List.mem_of_getElem? (i := 4) rfl))) (mvT hZ (hw _ (List.mem_of_getElem? (i := 5) rfl))) (by decide) (backOf (W := 0) (rmof4 l Z a0 hw [] b42 k42 y0 y1 y2 y3 h46 n0 Z_ V_b42) hZ (hw _ (List.mem_of_getElem? (i := 5) rfl)) (hw _ (List.mem_of_getElem? (i := 4) rfl)) (by decide) (by decide)) (g := (mkF m 137 #[.val (.int p1), .val (.int p2), .val (.int p3), .val (.int p4), .val (.int p5), .val (.int nn), .val (.int y0), .val (.int y1), .val (.int y2), .val (.int y3), .val (.ref b42), .unset, .unset, .unset, .unset] [(.ref b42)])) rfl (by rw [hml]; rfl) (argsL := [(.ref b42)]) (rest := []) (lenOf pd_0 rfl) rfl (by show 2 * 0 + _ ≤ _; exact Nat.le_of_eq rfl) (hb hby at_137) (fun _ _ => ⟨rfl, e46, (by decide : 1 + 0 ≤ _), (by decide : 4 + 0 ≤ _)⟩)
          dsimp only [Pt.U, Pt.locs, Pt.cells, Pt.slots] at X47 l47 y47 z47 st47 hQ47
          subst l47 y47 z47
          obtain ⟨rfl, N47q, e47⟩ := hQ47
          have N47 := Fr.app N46 N47q
          refine OwnGo.st st47 ?_
          show OwnGo p e below s _ _ _ T47 (mkF m 140 #[.val (.int p1), .val (.int p2), .val (.int p3), .val (.int p4), .val (.int p5), .val (.int nn), .val (.int y0), .val (.int y1), .val (.int y2), .val (.int y3), .val (.ref b42), .unset, .unset, .unset, .unset] [(.long (own_fin (own_step (own_step (own_step (own_step (-3750763034362895579 : Int64) y0) y1) y2) y3)))])
          obtain ⟨g1, hg1⟩ : ∃ z : Int64, z = own_step (-3750763034362895579 : Int64) y0 := ⟨_, rfl⟩
          rw [← hg1]
          obtain ⟨g2, hg2⟩ : ∃ z : Int64, z = own_step g1 y1 := ⟨_, rfl⟩
          rw [← hg2]
          obtain ⟨g3, hg3⟩ : ∃ z : Int64, z = own_step g2 y2 := ⟨_, rfl⟩
          rw [← hg3]
          obtain ⟨g4, hg4⟩ : ∃ z : Int64, z = own_step g3 y3 := ⟨_, rfl⟩
          rw [← hg4]
          show OwnGo p e below s _ _ _ T47 (mkF m 140 #[.val (.int p1), .val (.int p2), .val (.int p3), .val (.int p4), .val (.int p5), .val (.int nn), .val (.int y0), .val (.int y1), .val (.int y2), .val (.int y3), .val (.ref b42), .unset, .unset, .unset, .unset] [(.long (own_fin g4))])
          refine OwnGo.st (fun _ k => XS.lstore X47.here hx rfl (hb hby at_140) rfl (l' := #[.val (.int p1), .val (.int p2), .val (.int p3), .val (.int p4), .val (.int p5), .val (.int nn), .val (.int y0), .val (.int y1), .val (.int y2), .val (.int y3), .val (.ref b42), .val (.long (own_fin g4)), .second, .unset, .unset]) rfl k) ?_
          show OwnGo p e below s _ _ _ T47 (mkF m 142 #[.val (.int p1), .val (.int p2), .val (.int p3), .val (.int p4), .val (.int p5), .val (.int nn), .val (.int y0), .val (.int y1), .val (.int y2), .val (.int y3), .val (.ref b42), .val (.long (own_fin g4)), .second, .unset, .unset] [])
          refine OwnGo.st (fun _ k => XS.lload X47.here hx rfl (hb hby at_142) rfl  k) ?_
          show OwnGo p e below s _ _ _ T47 (mkF m 144 #[.val (.int p1), .val (.int p2), .val (.int p3), .val (.int p4), .val (.int p5), .val (.int nn), .val (.int y0), .val (.int y1), .val (.int y2), .val (.int y3), .val (.ref b42), .val (.long (own_fin g4)), .second, .unset, .unset] [(.long (own_fin g4))])
          refine OwnGo.st (fun _ k => XS.lload X47.here hx rfl (hb hby at_144) rfl  k) ?_
          show OwnGo p e below s _ _ _ T47 (mkF m 146 #[.val (.int p1), .val (.int p2), .val (.int p3), .val (.int p4), .val (.int p5), .val (.int nn), .val (.int y0), .val (.int y1), .val (.int y2), .val (.int y3), .val (.ref b42), .val (.long (own_fin g4)), .second, .unset, .unset] [(.long (own_fin g4)), (.long (own_fin g4))])
          refine OwnGo.st (fun _ k => XS.bipush X47.here hx rfl (hb hby at_146) k) ?_
          show OwnGo p e below s _ _ _ T47 (mkF m 148 #[.val (.int p1), .val (.int p2), .val (.int p3), .val (.int p4), .val (.int p5), .val (.int nn), .val (.int y0), .val (.int y1), .val (.int y2), .val (.int y3), .val (.ref b42), .val (.long (own_fin g4)), .second, .unset, .unset] [(.int (31 : Int32)), (.long (own_fin g4)), (.long (own_fin g4))])
          refine OwnGo.st (fun _ k => XS.lushr X47.here hx rfl (hb hby at_148) rfl k) ?_
          show OwnGo p e below s _ _ _ T47 (mkF m 149 #[.val (.int p1), .val (.int p2), .val (.int p3), .val (.int p4), .val (.int p5), .val (.int nn), .val (.int y0), .val (.int y1), .val (.int y2), .val (.int y3), .val (.ref b42), .val (.long (own_fin g4)), .second, .unset, .unset] [(.long (((own_fin g4).toUInt64 >>> ((31 : Int32) &&& 0x3f).toInt64.toUInt64).toInt64)), (.long (own_fin g4))])
          refine OwnGo.st (fun _ k => XS.lxor X47.here hx rfl (hb hby at_149) rfl k) ?_
          show OwnGo p e below s _ _ _ T47 (mkF m 150 #[.val (.int p1), .val (.int p2), .val (.int p3), .val (.int p4), .val (.int p5), .val (.int nn), .val (.int y0), .val (.int y1), .val (.int y2), .val (.int y3), .val (.ref b42), .val (.long (own_fin g4)), .second, .unset, .unset] [(.long ((own_fin g4) ^^^ (((own_fin g4).toUInt64 >>> ((31 : Int32) &&& 0x3f).toInt64.toUInt64).toInt64)))])
          refine OwnGo.st (fun _ k => XS.lload X47.here hx rfl (hb hby at_150) rfl  k) ?_
          show OwnGo p e below s _ _ _ T47 (mkF m 152 #[.val (.int p1), .val (.int p2), .val (.int p3), .val (.int p4), .val (.int p5), .val (.int nn), .val (.int y0), .val (.int y1), .val (.int y2), .val (.int y3), .val (.ref b42), .val (.long (own_fin g4)), .second, .unset, .unset] [(.long (own_fin g4)), (.long ((own_fin g4) ^^^ (((own_fin g4).toUInt64 >>> ((31 : Int32) &&& 0x3f).toInt64.toUInt64).toInt64)))])
          refine OwnGo.st (fun _ k => XS.bipush X47.here hx rfl (hb hby at_152) k) ?_
          show OwnGo p e below s _ _ _ T47 (mkF m 154 #[.val (.int p1), .val (.int p2), .val (.int p3), .val (.int p4), .val (.int p5), .val (.int nn), .val (.int y0), .val (.int y1), .val (.int y2), .val (.int y3), .val (.ref b42), .val (.long (own_fin g4)), .second, .unset, .unset] [(.int (62 : Int32)), (.long (own_fin g4)), (.long ((own_fin g4) ^^^ (((own_fin g4).toUInt64 >>> ((31 : Int32) &&& 0x3f).toInt64.toUInt64).toInt64)))])
          refine OwnGo.st (fun _ k => XS.lushr X47.here hx rfl (hb hby at_154) rfl k) ?_
          show OwnGo p e below s _ _ _ T47 (mkF m 155 #[.val (.int p1), .val (.int p2), .val (.int p3), .val (.int p4), .val (.int p5), .val (.int nn), .val (.int y0), .val (.int y1), .val (.int y2), .val (.int y3), .val (.ref b42), .val (.long (own_fin g4)), .second, .unset, .unset] [(.long (((own_fin g4).toUInt64 >>> ((62 : Int32) &&& 0x3f).toInt64.toUInt64).toInt64)), (.long ((own_fin g4) ^^^ (((own_fin g4).toUInt64 >>> ((31 : Int32) &&& 0x3f).toInt64.toUInt64).toInt64)))])
          refine OwnGo.st (fun _ k => XS.lxor X47.here hx rfl (hb hby at_155) rfl k) ?_
          show OwnGo p e below s _ _ _ T47 (mkF m 156 #[.val (.int p1), .val (.int p2), .val (.int p3), .val (.int p4), .val (.int p5), .val (.int nn), .val (.int y0), .val (.int y1), .val (.int y2), .val (.int y3), .val (.ref b42), .val (.long (own_fin g4)), .second, .unset, .unset] [(.long (((own_fin g4) ^^^ (((own_fin g4).toUInt64 >>> ((31 : Int32) &&& 0x3f).toInt64.toUInt64).toInt64)) ^^^ (((own_fin g4).toUInt64 >>> ((62 : Int32) &&& 0x3f).toInt64.toUInt64).toInt64)))])
          show OwnGo p e below s _ _ _ T47 (mkF m 156 #[.val (.int p1), .val (.int p2), .val (.int p3), .val (.int p4), .val (.int p5), .val (.int nn), .val (.int y0), .val (.int y1), .val (.int y2), .val (.int y3), .val (.ref b42), .val (.long (own_fin g4)), .second, .unset, .unset] [(.long (own_un (own_fin g4) 31 62))])
          rw [show own_un (own_fin g4) 31 62 = own_f2 g4 from own_u31 _]
          show OwnGo p e below s _ _ _ T47 (mkF m 156 #[.val (.int p1), .val (.int p2), .val (.int p3), .val (.int p4), .val (.int p5), .val (.int nn), .val (.int y0), .val (.int y1), .val (.int y2), .val (.int y3), .val (.ref b42), .val (.long (own_fin g4)), .second, .unset, .unset] [(.long (own_f2 g4))])
          refine OwnGo.st (fun _ k => XS.lstore X47.here hx rfl (hb hby at_156) rfl (l' := #[.val (.int p1), .val (.int p2), .val (.int p3), .val (.int p4), .val (.int p5), .val (.int nn), .val (.int y0), .val (.int y1), .val (.int y2), .val (.int y3), .val (.ref b42), .val (.long (own_f2 g4)), .second, .unset, .unset]) rfl k) ?_
          show OwnGo p e below s _ _ _ T47 (mkF m 158 #[.val (.int p1), .val (.int p2), .val (.int p3), .val (.int p4), .val (.int p5), .val (.int nn), .val (.int y0), .val (.int y1), .val (.int y2), .val (.int y3), .val (.ref b42), .val (.long (own_f2 g4)), .second, .unset, .unset] [])
          refine OwnGo.st (fun _ k => XS.lload X47.here hx rfl (hb hby at_158) rfl  k) ?_
          show OwnGo p e below s _ _ _ T47 (mkF m 160 #[.val (.int p1), .val (.int p2), .val (.int p3), .val (.int p4), .val (.int p5), .val (.int nn), .val (.int y0), .val (.int y1), .val (.int y2), .val (.int y3), .val (.ref b42), .val (.long (own_f2 g4)), .second, .unset, .unset] [(.long (own_f2 g4))])
          refine OwnGo.st (fun _ k => X47.ldc2Long hx hown (mvT hZ (hw _ (List.mem_of_getElem? (i := 9) rfl))) (g := (mkF m 160 #[.val (.int p1), .val (.int p2), .val (.int p3), .val (.int p4), .val (.int p5), .val (.int nn), .val (.int y0), .val (.int y1), .val (.int y2), .val (.int y3), .val (.ref b42), .val (.long (own_f2 g4)), .second, .unset, .unset] [(.long (own_f2 g4))])) rfl (hb hby at_160) _ k) ?_
          show OwnGo p e below s _ _ _ T47 (mkF m 163 #[.val (.int p1), .val (.int p2), .val (.int p3), .val (.int p4), .val (.int p5), .val (.int nn), .val (.int y0), .val (.int y1), .val (.int y2), .val (.int y3), .val (.ref b42), .val (.long (own_f2 g4)), .second, .unset, .unset] [(.long (-7723592293110705685 : Int64)), (.long (own_f2 g4))])
          obtain ⟨_, _, ⟨T48, L48, k48, n48⟩, -, X48, ⟨Lc48, hQ48, l48, y48, z48⟩, st48⟩ := Jvm.LawKit.callS X47 hx (y := (⟨"com/example/utsatt/utsatt/KeyHashesOfPinLaw", "inverse", "(J)J"⟩ : MethodName)) hown (mvT hZ (hw _ (List.mem_of_getElem? (i := 10) rfl))) (mvT hZ (hw _ (List.mem_of_getElem? (i := 11) rfl))) (mvT hZ (hw _ (List.mem_of_getElem? (i := 12) rfl))) (mvT hZ (hw _ (List.mem_of_getElem? (i := 13) rfl))) (by decide) (backOf (W := 2) (rm2 l Z a0 hw [] (-7723592293110705685 : Int64) h46 n0 Z_ ) hZ (hw _ (List.mem_of_getElem? (i := 13) rfl)) (hw _ (List.mem_of_getElem? (i := 12) rfl)) (by decide) (by decide)) (g := (mkF m 163 #[.val (.int p1), .val (.int p2), .val (.int p3), .val (.int p4), .val (.int p5), .val (.int nn), .val (.int y0), .val (.int y1), .val (.int y2), .val (.int y3), .val (.ref b42), .val (.long (own_f2 g4)), .second, .unset, .unset] [(.long (-7723592293110705685 : Int64)), (.long (own_f2 g4))])) rfl (by rw [hml]; rfl) (argsL := [(.long (-7723592293110705685 : Int64))]) (rest := [(.long (own_f2 g4))]) (lenOf pd_1 rfl) rfl (by show 2 * 0 + _ ≤ _; exact Nat.le_of_eq rfl) (hb hby at_163) (fun _ _ => ⟨rfl, e47, (by decide : 1 + 0 ≤ _), (by decide : 4 + 0 ≤ _)⟩)
          dsimp only [Pt.U, Pt.locs, Pt.cells, Pt.slots] at X48 l48 y48 z48 st48 hQ48
          subst l48 y48 z48
          obtain ⟨rfl, N48q, e48⟩ := hQ48
          have N48 := Fr.app N47 N48q
          refine OwnGo.st st48 ?_
          show OwnGo p e below s _ _ _ T48 (mkF m 166 #[.val (.int p1), .val (.int p2), .val (.int p3), .val (.int p4), .val (.int p5), .val (.int nn), .val (.int y0), .val (.int y1), .val (.int y2), .val (.int y3), .val (.ref b42), .val (.long (own_f2 g4)), .second, .unset, .unset] [(.long (own_inv (-7723592293110705685 : Int64))), (.long (own_f2 g4))])
          refine OwnGo.st (fun _ k => XS.lmul X48.here hx rfl (hb hby at_166) rfl k) ?_
          show OwnGo p e below s _ _ _ T48 (mkF m 167 #[.val (.int p1), .val (.int p2), .val (.int p3), .val (.int p4), .val (.int p5), .val (.int nn), .val (.int y0), .val (.int y1), .val (.int y2), .val (.int y3), .val (.ref b42), .val (.long (own_f2 g4)), .second, .unset, .unset] [(.long ((own_f2 g4) * (own_inv (-7723592293110705685 : Int64))))])
          rw [show (own_f2 g4 * own_inv (-7723592293110705685 : Int64)) = own_xs (own_f1 g4) 27 from own_k2 _]
          show OwnGo p e below s _ _ _ T48 (mkF m 167 #[.val (.int p1), .val (.int p2), .val (.int p3), .val (.int p4), .val (.int p5), .val (.int nn), .val (.int y0), .val (.int y1), .val (.int y2), .val (.int y3), .val (.ref b42), .val (.long (own_f2 g4)), .second, .unset, .unset] [(.long (own_xs (own_f1 g4) 27))])
          refine OwnGo.st (fun _ k => XS.lstore X48.here hx rfl (hb hby at_167) rfl (l' := #[.val (.int p1), .val (.int p2), .val (.int p3), .val (.int p4), .val (.int p5), .val (.int nn), .val (.int y0), .val (.int y1), .val (.int y2), .val (.int y3), .val (.ref b42), .val (.long (own_xs (own_f1 g4) 27)), .second, .unset, .unset]) rfl k) ?_
          show OwnGo p e below s _ _ _ T48 (mkF m 169 #[.val (.int p1), .val (.int p2), .val (.int p3), .val (.int p4), .val (.int p5), .val (.int nn), .val (.int y0), .val (.int y1), .val (.int y2), .val (.int y3), .val (.ref b42), .val (.long (own_xs (own_f1 g4) 27)), .second, .unset, .unset] [])
          refine OwnGo.st (fun _ k => XS.lload X48.here hx rfl (hb hby at_169) rfl  k) ?_
          show OwnGo p e below s _ _ _ T48 (mkF m 171 #[.val (.int p1), .val (.int p2), .val (.int p3), .val (.int p4), .val (.int p5), .val (.int nn), .val (.int y0), .val (.int y1), .val (.int y2), .val (.int y3), .val (.ref b42), .val (.long (own_xs (own_f1 g4) 27)), .second, .unset, .unset] [(.long (own_xs (own_f1 g4) 27))])
          refine OwnGo.st (fun _ k => XS.lload X48.here hx rfl (hb hby at_171) rfl  k) ?_
          show OwnGo p e below s _ _ _ T48 (mkF m 173 #[.val (.int p1), .val (.int p2), .val (.int p3), .val (.int p4), .val (.int p5), .val (.int nn), .val (.int y0), .val (.int y1), .val (.int y2), .val (.int y3), .val (.ref b42), .val (.long (own_xs (own_f1 g4) 27)), .second, .unset, .unset] [(.long (own_xs (own_f1 g4) 27)), (.long (own_xs (own_f1 g4) 27))])
          refine OwnGo.st (fun _ k => XS.bipush X48.here hx rfl (hb hby at_173) k) ?_
          show OwnGo p e below s _ _ _ T48 (mkF m 175 #[.val (.int p1), .val (.int p2), .val (.int p3), .val (.int p4), .val (.int p5), .val (.int nn), .val (.int y0), .val (.int y1), .val (.int y2), .val (.int y3), .val (.ref b42), .val (.long (own_xs (own_f1 g4) 27)), .second, .unset, .unset] [(.int (27 : Int32)), (.long (own_xs (own_f1 g4) 27)), (.long (own_xs (own_f1 g4) 27))])
          refine OwnGo.st (fun _ k => XS.lushr X48.here hx rfl (hb hby at_175) rfl k) ?_
          show OwnGo p e below s _ _ _ T48 (mkF m 176 #[.val (.int p1), .val (.int p2), .val (.int p3), .val (.int p4), .val (.int p5), .val (.int nn), .val (.int y0), .val (.int y1), .val (.int y2), .val (.int y3), .val (.ref b42), .val (.long (own_xs (own_f1 g4) 27)), .second, .unset, .unset] [(.long (((own_xs (own_f1 g4) 27).toUInt64 >>> ((27 : Int32) &&& 0x3f).toInt64.toUInt64).toInt64)), (.long (own_xs (own_f1 g4) 27))])
          refine OwnGo.st (fun _ k => XS.lxor X48.here hx rfl (hb hby at_176) rfl k) ?_
          show OwnGo p e below s _ _ _ T48 (mkF m 177 #[.val (.int p1), .val (.int p2), .val (.int p3), .val (.int p4), .val (.int p5), .val (.int nn), .val (.int y0), .val (.int y1), .val (.int y2), .val (.int y3), .val (.ref b42), .val (.long (own_xs (own_f1 g4) 27)), .second, .unset, .unset] [(.long ((own_xs (own_f1 g4) 27) ^^^ (((own_xs (own_f1 g4) 27).toUInt64 >>> ((27 : Int32) &&& 0x3f).toInt64.toUInt64).toInt64)))])
          refine OwnGo.st (fun _ k => XS.lload X48.here hx rfl (hb hby at_177) rfl  k) ?_
          show OwnGo p e below s _ _ _ T48 (mkF m 179 #[.val (.int p1), .val (.int p2), .val (.int p3), .val (.int p4), .val (.int p5), .val (.int nn), .val (.int y0), .val (.int y1), .val (.int y2), .val (.int y3), .val (.ref b42), .val (.long (own_xs (own_f1 g4) 27)), .second, .unset, .unset] [(.long (own_xs (own_f1 g4) 27)), (.long ((own_xs (own_f1 g4) 27) ^^^ (((own_xs (own_f1 g4) 27).toUInt64 >>> ((27 : Int32) &&& 0x3f).toInt64.toUInt64).toInt64)))])
          refine OwnGo.st (fun _ k => XS.bipush X48.here hx rfl (hb hby at_179) k) ?_
          show OwnGo p e below s _ _ _ T48 (mkF m 181 #[.val (.int p1), .val (.int p2), .val (.int p3), .val (.int p4), .val (.int p5), .val (.int nn), .val (.int y0), .val (.int y1), .val (.int y2), .val (.int y3), .val (.ref b42), .val (.long (own_xs (own_f1 g4) 27)), .second, .unset, .unset] [(.int (54 : Int32)), (.long (own_xs (own_f1 g4) 27)), (.long ((own_xs (own_f1 g4) 27) ^^^ (((own_xs (own_f1 g4) 27).toUInt64 >>> ((27 : Int32) &&& 0x3f).toInt64.toUInt64).toInt64)))])
          refine OwnGo.st (fun _ k => XS.lushr X48.here hx rfl (hb hby at_181) rfl k) ?_
          show OwnGo p e below s _ _ _ T48 (mkF m 182 #[.val (.int p1), .val (.int p2), .val (.int p3), .val (.int p4), .val (.int p5), .val (.int nn), .val (.int y0), .val (.int y1), .val (.int y2), .val (.int y3), .val (.ref b42), .val (.long (own_xs (own_f1 g4) 27)), .second, .unset, .unset] [(.long (((own_xs (own_f1 g4) 27).toUInt64 >>> ((54 : Int32) &&& 0x3f).toInt64.toUInt64).toInt64)), (.long ((own_xs (own_f1 g4) 27) ^^^ (((own_xs (own_f1 g4) 27).toUInt64 >>> ((27 : Int32) &&& 0x3f).toInt64.toUInt64).toInt64)))])
          refine OwnGo.st (fun _ k => XS.lxor X48.here hx rfl (hb hby at_182) rfl k) ?_
          show OwnGo p e below s _ _ _ T48 (mkF m 183 #[.val (.int p1), .val (.int p2), .val (.int p3), .val (.int p4), .val (.int p5), .val (.int nn), .val (.int y0), .val (.int y1), .val (.int y2), .val (.int y3), .val (.ref b42), .val (.long (own_xs (own_f1 g4) 27)), .second, .unset, .unset] [(.long (((own_xs (own_f1 g4) 27) ^^^ (((own_xs (own_f1 g4) 27).toUInt64 >>> ((27 : Int32) &&& 0x3f).toInt64.toUInt64).toInt64)) ^^^ (((own_xs (own_f1 g4) 27).toUInt64 >>> ((54 : Int32) &&& 0x3f).toInt64.toUInt64).toInt64)))])
          show OwnGo p e below s _ _ _ T48 (mkF m 183 #[.val (.int p1), .val (.int p2), .val (.int p3), .val (.int p4), .val (.int p5), .val (.int nn), .val (.int y0), .val (.int y1), .val (.int y2), .val (.int y3), .val (.ref b42), .val (.long (own_xs (own_f1 g4) 27)), .second, .unset, .unset] [(.long (own_un (own_xs (own_f1 g4) 27) 27 54))])
          rw [own_u27]
          show OwnGo p e below s _ _ _ T48 (mkF m 183 #[.val (.int p1), .val (.int p2), .val (.int p3), .val (.int p4), .val (.int p5), .val (.int nn), .val (.int y0), .val (.int y1), .val (.int y2), .val (.int y3), .val (.ref b42), .val (.long (own_xs (own_f1 g4) 27)), .second, .unset, .unset] [(.long (own_f1 g4))])
          refine OwnGo.st (fun _ k => XS.lstore X48.here hx rfl (hb hby at_183) rfl (l' := #[.val (.int p1), .val (.int p2), .val (.int p3), .val (.int p4), .val (.int p5), .val (.int nn), .val (.int y0), .val (.int y1), .val (.int y2), .val (.int y3), .val (.ref b42), .val (.long (own_f1 g4)), .second, .unset, .unset]) rfl k) ?_
          show OwnGo p e below s _ _ _ T48 (mkF m 185 #[.val (.int p1), .val (.int p2), .val (.int p3), .val (.int p4), .val (.int p5), .val (.int nn), .val (.int y0), .val (.int y1), .val (.int y2), .val (.int y3), .val (.ref b42), .val (.long (own_f1 g4)), .second, .unset, .unset] [])
          refine OwnGo.st (fun _ k => XS.lload X48.here hx rfl (hb hby at_185) rfl  k) ?_
          show OwnGo p e below s _ _ _ T48 (mkF m 187 #[.val (.int p1), .val (.int p2), .val (.int p3), .val (.int p4), .val (.int p5), .val (.int nn), .val (.int y0), .val (.int y1), .val (.int y2), .val (.int y3), .val (.ref b42), .val (.long (own_f1 g4)), .second, .unset, .unset] [(.long (own_f1 g4))])
          refine OwnGo.st (fun _ k => X48.ldc2Long hx hown (mvT hZ (hw _ (List.mem_of_getElem? (i := 15) rfl))) (g := (mkF m 187 #[.val (.int p1), .val (.int p2), .val (.int p3), .val (.int p4), .val (.int p5), .val (.int nn), .val (.int y0), .val (.int y1), .val (.int y2), .val (.int y3), .val (.ref b42), .val (.long (own_f1 g4)), .second, .unset, .unset] [(.long (own_f1 g4))])) rfl (hb hby at_187) _ k) ?_
          show OwnGo p e below s _ _ _ T48 (mkF m 190 #[.val (.int p1), .val (.int p2), .val (.int p3), .val (.int p4), .val (.int p5), .val (.int nn), .val (.int y0), .val (.int y1), .val (.int y2), .val (.int y3), .val (.ref b42), .val (.long (own_f1 g4)), .second, .unset, .unset] [(.long (-4658895280553007687 : Int64)), (.long (own_f1 g4))])
          obtain ⟨_, _, ⟨T49, L49, k49, n49⟩, -, X49, ⟨Lc49, hQ49, l49, y49, z49⟩, st49⟩ := Jvm.LawKit.callS X48 hx (y := (⟨"com/example/utsatt/utsatt/KeyHashesOfPinLaw", "inverse", "(J)J"⟩ : MethodName)) hown (mvT hZ (hw _ (List.mem_of_getElem? (i := 10) rfl))) (mvT hZ (hw _ (List.mem_of_getElem? (i := 11) rfl))) (mvT hZ (hw _ (List.mem_of_getElem? (i := 12) rfl))) (mvT hZ (hw _ (List.mem_of_getElem? (i := 13) rfl))) (by decide) (backOf (W := 2) (rm2 l Z a0 hw [] (-4658895280553007687 : Int64) h46 n0 Z_ ) hZ (hw _ (List.mem_of_getElem? (i := 13) rfl)) (hw _ (List.mem_of_getElem? (i := 12) rfl)) (by decide) (by decide)) (g := (mkF m 190 #[.val (.int p1), .val (.int p2), .val (.int p3), .val (.int p4), .val (.int p5), .val (.int nn), .val (.int y0), .val (.int y1), .val (.int y2), .val (.int y3), .val (.ref b42), .val (.long (own_f1 g4)), .second, .unset, .unset] [(.long (-4658895280553007687 : Int64)), (.long (own_f1 g4))])) rfl (by rw [hml]; rfl) (argsL := [(.long (-4658895280553007687 : Int64))]) (rest := [(.long (own_f1 g4))]) (lenOf pd_1 rfl) rfl (by show 2 * 0 + _ ≤ _; exact Nat.le_of_eq rfl) (hb hby at_190) (fun _ _ => ⟨rfl, e48, (by decide : 1 + 0 ≤ _), (by decide : 4 + 0 ≤ _)⟩)
          dsimp only [Pt.U, Pt.locs, Pt.cells, Pt.slots] at X49 l49 y49 z49 st49 hQ49
          subst l49 y49 z49
          obtain ⟨rfl, N49q, e49⟩ := hQ49
          have N49 := Fr.app N48 N49q
          refine OwnGo.st st49 ?_
          show OwnGo p e below s _ _ _ T49 (mkF m 193 #[.val (.int p1), .val (.int p2), .val (.int p3), .val (.int p4), .val (.int p5), .val (.int nn), .val (.int y0), .val (.int y1), .val (.int y2), .val (.int y3), .val (.ref b42), .val (.long (own_f1 g4)), .second, .unset, .unset] [(.long (own_inv (-4658895280553007687 : Int64))), (.long (own_f1 g4))])
          refine OwnGo.st (fun _ k => XS.lmul X49.here hx rfl (hb hby at_193) rfl k) ?_
          show OwnGo p e below s _ _ _ T49 (mkF m 194 #[.val (.int p1), .val (.int p2), .val (.int p3), .val (.int p4), .val (.int p5), .val (.int nn), .val (.int y0), .val (.int y1), .val (.int y2), .val (.int y3), .val (.ref b42), .val (.long (own_f1 g4)), .second, .unset, .unset] [(.long ((own_f1 g4) * (own_inv (-4658895280553007687 : Int64))))])
          rw [show (own_f1 g4 * own_inv (-4658895280553007687 : Int64)) = own_xs g4 30 from own_k1 _]
          show OwnGo p e below s _ _ _ T49 (mkF m 194 #[.val (.int p1), .val (.int p2), .val (.int p3), .val (.int p4), .val (.int p5), .val (.int nn), .val (.int y0), .val (.int y1), .val (.int y2), .val (.int y3), .val (.ref b42), .val (.long (own_f1 g4)), .second, .unset, .unset] [(.long (own_xs g4 30))])
          refine OwnGo.st (fun _ k => XS.lstore X49.here hx rfl (hb hby at_194) rfl (l' := #[.val (.int p1), .val (.int p2), .val (.int p3), .val (.int p4), .val (.int p5), .val (.int nn), .val (.int y0), .val (.int y1), .val (.int y2), .val (.int y3), .val (.ref b42), .val (.long (own_xs g4 30)), .second, .unset, .unset]) rfl k) ?_
          show OwnGo p e below s _ _ _ T49 (mkF m 196 #[.val (.int p1), .val (.int p2), .val (.int p3), .val (.int p4), .val (.int p5), .val (.int nn), .val (.int y0), .val (.int y1), .val (.int y2), .val (.int y3), .val (.ref b42), .val (.long (own_xs g4 30)), .second, .unset, .unset] [])
          refine OwnGo.st (fun _ k => XS.lload X49.here hx rfl (hb hby at_196) rfl  k) ?_
          show OwnGo p e below s _ _ _ T49 (mkF m 198 #[.val (.int p1), .val (.int p2), .val (.int p3), .val (.int p4), .val (.int p5), .val (.int nn), .val (.int y0), .val (.int y1), .val (.int y2), .val (.int y3), .val (.ref b42), .val (.long (own_xs g4 30)), .second, .unset, .unset] [(.long (own_xs g4 30))])
          refine OwnGo.st (fun _ k => XS.lload X49.here hx rfl (hb hby at_198) rfl  k) ?_
          show OwnGo p e below s _ _ _ T49 (mkF m 200 #[.val (.int p1), .val (.int p2), .val (.int p3), .val (.int p4), .val (.int p5), .val (.int nn), .val (.int y0), .val (.int y1), .val (.int y2), .val (.int y3), .val (.ref b42), .val (.long (own_xs g4 30)), .second, .unset, .unset] [(.long (own_xs g4 30)), (.long (own_xs g4 30))])
          refine OwnGo.st (fun _ k => XS.bipush X49.here hx rfl (hb hby at_200) k) ?_
          show OwnGo p e below s _ _ _ T49 (mkF m 202 #[.val (.int p1), .val (.int p2), .val (.int p3), .val (.int p4), .val (.int p5), .val (.int nn), .val (.int y0), .val (.int y1), .val (.int y2), .val (.int y3), .val (.ref b42), .val (.long (own_xs g4 30)), .second, .unset, .unset] [(.int (30 : Int32)), (.long (own_xs g4 30)), (.long (own_xs g4 30))])
          refine OwnGo.st (fun _ k => XS.lushr X49.here hx rfl (hb hby at_202) rfl k) ?_
          show OwnGo p e below s _ _ _ T49 (mkF m 203 #[.val (.int p1), .val (.int p2), .val (.int p3), .val (.int p4), .val (.int p5), .val (.int nn), .val (.int y0), .val (.int y1), .val (.int y2), .val (.int y3), .val (.ref b42), .val (.long (own_xs g4 30)), .second, .unset, .unset] [(.long (((own_xs g4 30).toUInt64 >>> ((30 : Int32) &&& 0x3f).toInt64.toUInt64).toInt64)), (.long (own_xs g4 30))])
          refine OwnGo.st (fun _ k => XS.lxor X49.here hx rfl (hb hby at_203) rfl k) ?_
          show OwnGo p e below s _ _ _ T49 (mkF m 204 #[.val (.int p1), .val (.int p2), .val (.int p3), .val (.int p4), .val (.int p5), .val (.int nn), .val (.int y0), .val (.int y1), .val (.int y2), .val (.int y3), .val (.ref b42), .val (.long (own_xs g4 30)), .second, .unset, .unset] [(.long ((own_xs g4 30) ^^^ (((own_xs g4 30).toUInt64 >>> ((30 : Int32) &&& 0x3f).toInt64.toUInt64).toInt64)))])
          refine OwnGo.st (fun _ k => XS.lload X49.here hx rfl (hb hby at_204) rfl  k) ?_
          show OwnGo p e below s _ _ _ T49 (mkF m 206 #[.val (.int p1), .val (.int p2), .val (.int p3), .val (.int p4), .val (.int p5), .val (.int nn), .val (.int y0), .val (.int y1), .val (.int y2), .val (.int y3), .val (.ref b42), .val (.long (own_xs g4 30)), .second, .unset, .unset] [(.long (own_xs g4 30)), (.long ((own_xs g4 30) ^^^ (((own_xs g4 30).toUInt64 >>> ((30 : Int32) &&& 0x3f).toInt64.toUInt64).toInt64)))])
          refine OwnGo.st (fun _ k => XS.bipush X49.here hx rfl (hb hby at_206) k) ?_
          show OwnGo p e below s _ _ _ T49 (mkF m 208 #[.val (.int p1), .val (.int p2), .val (.int p3), .val (.int p4), .val (.int p5), .val (.int nn), .val (.int y0), .val (.int y1), .val (.int y2), .val (.int y3), .val (.ref b42), .val (.long (own_xs g4 30)), .second, .unset, .unset] [(.int (60 : Int32)), (.long (own_xs g4 30)), (.long ((own_xs g4 30) ^^^ (((own_xs g4 30).toUInt64 >>> ((30 : Int32) &&& 0x3f).toInt64.toUInt64).toInt64)))])
          refine OwnGo.st (fun _ k => XS.lushr X49.here hx rfl (hb hby at_208) rfl k) ?_
          show OwnGo p e below s _ _ _ T49 (mkF m 209 #[.val (.int p1), .val (.int p2), .val (.int p3), .val (.int p4), .val (.int p5), .val (.int nn), .val (.int y0), .val (.int y1), .val (.int y2), .val (.int y3), .val (.ref b42), .val (.long (own_xs g4 30)), .second, .unset, .unset] [(.long (((own_xs g4 30).toUInt64 >>> ((60 : Int32) &&& 0x3f).toInt64.toUInt64).toInt64)), (.long ((own_xs g4 30) ^^^ (((own_xs g4 30).toUInt64 >>> ((30 : Int32) &&& 0x3f).toInt64.toUInt64).toInt64)))])
          refine OwnGo.st (fun _ k => XS.lxor X49.here hx rfl (hb hby at_209) rfl k) ?_
          show OwnGo p e below s _ _ _ T49 (mkF m 210 #[.val (.int p1), .val (.int p2), .val (.int p3), .val (.int p4), .val (.int p5), .val (.int nn), .val (.int y0), .val (.int y1), .val (.int y2), .val (.int y3), .val (.ref b42), .val (.long (own_xs g4 30)), .second, .unset, .unset] [(.long (((own_xs g4 30) ^^^ (((own_xs g4 30).toUInt64 >>> ((30 : Int32) &&& 0x3f).toInt64.toUInt64).toInt64)) ^^^ (((own_xs g4 30).toUInt64 >>> ((60 : Int32) &&& 0x3f).toInt64.toUInt64).toInt64)))])
          show OwnGo p e below s _ _ _ T49 (mkF m 210 #[.val (.int p1), .val (.int p2), .val (.int p3), .val (.int p4), .val (.int p5), .val (.int nn), .val (.int y0), .val (.int y1), .val (.int y2), .val (.int y3), .val (.ref b42), .val (.long (own_xs g4 30)), .second, .unset, .unset] [(.long (own_un (own_xs g4 30) 30 60))])
          rw [own_u30]
          show OwnGo p e below s _ _ _ T49 (mkF m 210 #[.val (.int p1), .val (.int p2), .val (.int p3), .val (.int p4), .val (.int p5), .val (.int nn), .val (.int y0), .val (.int y1), .val (.int y2), .val (.int y3), .val (.ref b42), .val (.long (own_xs g4 30)), .second, .unset, .unset] [(.long g4)])
          refine OwnGo.st (fun _ k => XS.lstore X49.here hx rfl (hb hby at_210) rfl (l' := #[.val (.int p1), .val (.int p2), .val (.int p3), .val (.int p4), .val (.int p5), .val (.int nn), .val (.int y0), .val (.int y1), .val (.int y2), .val (.int y3), .val (.ref b42), .val (.long g4), .second, .unset, .unset]) rfl k) ?_
          show OwnGo p e below s _ _ _ T49 (mkF m 212 #[.val (.int p1), .val (.int p2), .val (.int p3), .val (.int p4), .val (.int p5), .val (.int nn), .val (.int y0), .val (.int y1), .val (.int y2), .val (.int y3), .val (.ref b42), .val (.long g4), .second, .unset, .unset] [])
          refine OwnGo.st (fun _ k => X49.ldc2Long hx hown (mvT hZ (hw _ (List.mem_of_getElem? (i := 16) rfl))) (g := (mkF m 212 #[.val (.int p1), .val (.int p2), .val (.int p3), .val (.int p4), .val (.int p5), .val (.int nn), .val (.int y0), .val (.int y1), .val (.int y2), .val (.int y3), .val (.ref b42), .val (.long g4), .second, .unset, .unset] [])) rfl (hb hby at_212) _ k) ?_
          show OwnGo p e below s _ _ _ T49 (mkF m 215 #[.val (.int p1), .val (.int p2), .val (.int p3), .val (.int p4), .val (.int p5), .val (.int nn), .val (.int y0), .val (.int y1), .val (.int y2), .val (.int y3), .val (.ref b42), .val (.long g4), .second, .unset, .unset] [(.long (1099511628211 : Int64))])
          obtain ⟨_, _, ⟨T50, L50, k50, n50⟩, -, X50, ⟨Lc50, hQ50, l50, y50, z50⟩, st50⟩ := Jvm.LawKit.callS X49 hx (y := (⟨"com/example/utsatt/utsatt/KeyHashesOfPinLaw", "inverse", "(J)J"⟩ : MethodName)) hown (mvT hZ (hw _ (List.mem_of_getElem? (i := 10) rfl))) (mvT hZ (hw _ (List.mem_of_getElem? (i := 11) rfl))) (mvT hZ (hw _ (List.mem_of_getElem? (i := 12) rfl))) (mvT hZ (hw _ (List.mem_of_getElem? (i := 13) rfl))) (by decide) (backOf (W := 0) (rm2 l Z a0 hw [] (1099511628211 : Int64) h46 n0 Z_ ) hZ (hw _ (List.mem_of_getElem? (i := 13) rfl)) (hw _ (List.mem_of_getElem? (i := 12) rfl)) (by decide) (by decide)) (g := (mkF m 215 #[.val (.int p1), .val (.int p2), .val (.int p3), .val (.int p4), .val (.int p5), .val (.int nn), .val (.int y0), .val (.int y1), .val (.int y2), .val (.int y3), .val (.ref b42), .val (.long g4), .second, .unset, .unset] [(.long (1099511628211 : Int64))])) rfl (by rw [hml]; rfl) (argsL := [(.long (1099511628211 : Int64))]) (rest := []) (lenOf pd_1 rfl) rfl (by show 2 * 0 + _ ≤ _; exact Nat.le_of_eq rfl) (hb hby at_215) (fun _ _ => ⟨rfl, e49, (by decide : 1 + 0 ≤ _), (by decide : 4 + 0 ≤ _)⟩)
          dsimp only [Pt.U, Pt.locs, Pt.cells, Pt.slots] at X50 l50 y50 z50 st50 hQ50
          subst l50 y50 z50
          obtain ⟨rfl, N50q, e50⟩ := hQ50
          have N50 := Fr.app N49 N50q
          refine OwnGo.st st50 ?_
          show OwnGo p e below s _ _ _ T50 (mkF m 218 #[.val (.int p1), .val (.int p2), .val (.int p3), .val (.int p4), .val (.int p5), .val (.int nn), .val (.int y0), .val (.int y1), .val (.int y2), .val (.int y3), .val (.ref b42), .val (.long g4), .second, .unset, .unset] [(.long (own_inv (1099511628211 : Int64)))])
          refine OwnGo.st (fun _ k => XS.lstore X50.here hx rfl (hb hby at_218) rfl (l' := #[.val (.int p1), .val (.int p2), .val (.int p3), .val (.int p4), .val (.int p5), .val (.int nn), .val (.int y0), .val (.int y1), .val (.int y2), .val (.int y3), .val (.ref b42), .val (.long g4), .second, .val (.long (own_inv (1099511628211 : Int64))), .second]) rfl k) ?_
          show OwnGo p e below s _ _ _ T50 (mkF m 220 #[.val (.int p1), .val (.int p2), .val (.int p3), .val (.int p4), .val (.int p5), .val (.int nn), .val (.int y0), .val (.int y1), .val (.int y2), .val (.int y3), .val (.ref b42), .val (.long g4), .second, .val (.long (own_inv (1099511628211 : Int64))), .second] [])
          refine OwnGo.st (fun _ k => XS.iload X50.here hx rfl (hb hby at_220) rfl  k) ?_
          show OwnGo p e below s _ _ _ T50 (mkF m 222 #[.val (.int p1), .val (.int p2), .val (.int p3), .val (.int p4), .val (.int p5), .val (.int nn), .val (.int y0), .val (.int y1), .val (.int y2), .val (.int y3), .val (.ref b42), .val (.long g4), .second, .val (.long (own_inv (1099511628211 : Int64))), .second] [(.int nn)])
          refine OwnGo.st (fun _ k => XS.iconst X50.here hx rfl (hb hby at_222) k) ?_
          show OwnGo p e below s _ _ _ T50 (mkF m 223 #[.val (.int p1), .val (.int p2), .val (.int p3), .val (.int p4), .val (.int p5), .val (.int nn), .val (.int y0), .val (.int y1), .val (.int y2), .val (.int y3), .val (.ref b42), .val (.long g4), .second, .val (.long (own_inv (1099511628211 : Int64))), .second] [(.int (4 : Int32)), (.int nn)])
          refine OwnGo.st (fun _ k => XS.icmpNo X50.here hx rfl (hb hby at_223) rfl (flt ((by rw [hk4]; decide) : ¬ (nn < (4 : Int32)))).1 k) ?_
          show OwnGo p e below s _ _ _ T50 (mkF m 226 #[.val (.int p1), .val (.int p2), .val (.int p3), .val (.int p4), .val (.int p5), .val (.int nn), .val (.int y0), .val (.int y1), .val (.int y2), .val (.int y3), .val (.ref b42), .val (.long g4), .second, .val (.long (own_inv (1099511628211 : Int64))), .second] [])
          refine OwnGo.st (fun _ k => XS.lload X50.here hx rfl (hb hby at_226) rfl  k) ?_
          show OwnGo p e below s _ _ _ T50 (mkF m 228 #[.val (.int p1), .val (.int p2), .val (.int p3), .val (.int p4), .val (.int p5), .val (.int nn), .val (.int y0), .val (.int y1), .val (.int y2), .val (.int y3), .val (.ref b42), .val (.long g4), .second, .val (.long (own_inv (1099511628211 : Int64))), .second] [(.long g4)])
          refine OwnGo.st (fun _ k => XS.lload X50.here hx rfl (hb hby at_228) rfl  k) ?_
          show OwnGo p e below s _ _ _ T50 (mkF m 230 #[.val (.int p1), .val (.int p2), .val (.int p3), .val (.int p4), .val (.int p5), .val (.int nn), .val (.int y0), .val (.int y1), .val (.int y2), .val (.int y3), .val (.ref b42), .val (.long g4), .second, .val (.long (own_inv (1099511628211 : Int64))), .second] [(.long (own_inv (1099511628211 : Int64))), (.long g4)])
          refine OwnGo.st (fun _ k => XS.lmul X50.here hx rfl (hb hby at_230) rfl k) ?_
          show OwnGo p e below s _ _ _ T50 (mkF m 231 #[.val (.int p1), .val (.int p2), .val (.int p3), .val (.int p4), .val (.int p5), .val (.int nn), .val (.int y0), .val (.int y1), .val (.int y2), .val (.int y3), .val (.ref b42), .val (.long g4), .second, .val (.long (own_inv (1099511628211 : Int64))), .second] [(.long (g4 * (own_inv (1099511628211 : Int64))))])
          refine OwnGo.st (fun _ k => XS.iload X50.here hx rfl (hb hby at_231) rfl  k) ?_
          show OwnGo p e below s _ _ _ T50 (mkF m 233 #[.val (.int p1), .val (.int p2), .val (.int p3), .val (.int p4), .val (.int p5), .val (.int nn), .val (.int y0), .val (.int y1), .val (.int y2), .val (.int y3), .val (.ref b42), .val (.long g4), .second, .val (.long (own_inv (1099511628211 : Int64))), .second] [(.int y3), (.long (g4 * (own_inv (1099511628211 : Int64))))])
          refine OwnGo.st (fun _ k => XS.sipush X50.here hx rfl (hb hby at_233) k) ?_
          show OwnGo p e below s _ _ _ T50 (mkF m 236 #[.val (.int p1), .val (.int p2), .val (.int p3), .val (.int p4), .val (.int p5), .val (.int nn), .val (.int y0), .val (.int y1), .val (.int y2), .val (.int y3), .val (.ref b42), .val (.long g4), .second, .val (.long (own_inv (1099511628211 : Int64))), .second] [(.int (255 : Int32)), (.int y3), (.long (g4 * (own_inv (1099511628211 : Int64))))])
          refine OwnGo.st (fun _ k => XS.iand X50.here hx rfl (hb hby at_236) rfl k) ?_
          show OwnGo p e below s _ _ _ T50 (mkF m 237 #[.val (.int p1), .val (.int p2), .val (.int p3), .val (.int p4), .val (.int p5), .val (.int nn), .val (.int y0), .val (.int y1), .val (.int y2), .val (.int y3), .val (.ref b42), .val (.long g4), .second, .val (.long (own_inv (1099511628211 : Int64))), .second] [(.int (y3 &&& (255 : Int32))), (.long (g4 * (own_inv (1099511628211 : Int64))))])
          refine OwnGo.st (fun _ k => XS.i2l X50.here hx rfl (hb hby at_237) rfl k) ?_
          show OwnGo p e below s _ _ _ T50 (mkF m 238 #[.val (.int p1), .val (.int p2), .val (.int p3), .val (.int p4), .val (.int p5), .val (.int nn), .val (.int y0), .val (.int y1), .val (.int y2), .val (.int y3), .val (.ref b42), .val (.long g4), .second, .val (.long (own_inv (1099511628211 : Int64))), .second] [(.long ((y3 &&& (255 : Int32)).toInt64)), (.long (g4 * (own_inv (1099511628211 : Int64))))])
          refine OwnGo.st (fun _ k => XS.lxor X50.here hx rfl (hb hby at_238) rfl k) ?_
          show OwnGo p e below s _ _ _ T50 (mkF m 239 #[.val (.int p1), .val (.int p2), .val (.int p3), .val (.int p4), .val (.int p5), .val (.int nn), .val (.int y0), .val (.int y1), .val (.int y2), .val (.int y3), .val (.ref b42), .val (.long g4), .second, .val (.long (own_inv (1099511628211 : Int64))), .second] [(.long ((g4 * (own_inv (1099511628211 : Int64))) ^^^ ((y3 &&& (255 : Int32)).toInt64)))])
          rw [show (g4 * own_inv (1099511628211 : Int64) ^^^ (y3 &&& (255 : Int32)).toInt64) = g3 from (by rw [hg4]; exact own_peel _ _)]
          show OwnGo p e below s _ _ _ T50 (mkF m 239 #[.val (.int p1), .val (.int p2), .val (.int p3), .val (.int p4), .val (.int p5), .val (.int nn), .val (.int y0), .val (.int y1), .val (.int y2), .val (.int y3), .val (.ref b42), .val (.long g4), .second, .val (.long (own_inv (1099511628211 : Int64))), .second] [(.long g3)])
          refine OwnGo.st (fun _ k => XS.lstore X50.here hx rfl (hb hby at_239) rfl (l' := #[.val (.int p1), .val (.int p2), .val (.int p3), .val (.int p4), .val (.int p5), .val (.int nn), .val (.int y0), .val (.int y1), .val (.int y2), .val (.int y3), .val (.ref b42), .val (.long g3), .second, .val (.long (own_inv (1099511628211 : Int64))), .second]) rfl k) ?_
          show OwnGo p e below s _ _ _ T50 (mkF m 241 #[.val (.int p1), .val (.int p2), .val (.int p3), .val (.int p4), .val (.int p5), .val (.int nn), .val (.int y0), .val (.int y1), .val (.int y2), .val (.int y3), .val (.ref b42), .val (.long g3), .second, .val (.long (own_inv (1099511628211 : Int64))), .second] [])
          refine OwnGo.st (fun _ k => XS.iload X50.here hx rfl (hb hby at_241) rfl  k) ?_
          show OwnGo p e below s _ _ _ T50 (mkF m 243 #[.val (.int p1), .val (.int p2), .val (.int p3), .val (.int p4), .val (.int p5), .val (.int nn), .val (.int y0), .val (.int y1), .val (.int y2), .val (.int y3), .val (.ref b42), .val (.long g3), .second, .val (.long (own_inv (1099511628211 : Int64))), .second] [(.int nn)])
          refine OwnGo.st (fun _ k => XS.iconst X50.here hx rfl (hb hby at_243) k) ?_
          show OwnGo p e below s _ _ _ T50 (mkF m 244 #[.val (.int p1), .val (.int p2), .val (.int p3), .val (.int p4), .val (.int p5), .val (.int nn), .val (.int y0), .val (.int y1), .val (.int y2), .val (.int y3), .val (.ref b42), .val (.long g3), .second, .val (.long (own_inv (1099511628211 : Int64))), .second] [(.int (3 : Int32)), (.int nn)])
          refine OwnGo.st (fun _ k => XS.icmpNo X50.here hx rfl (hb hby at_244) rfl (flt ((by rw [hk4]; decide) : ¬ (nn < (3 : Int32)))).1 k) ?_
          show OwnGo p e below s _ _ _ T50 (mkF m 247 #[.val (.int p1), .val (.int p2), .val (.int p3), .val (.int p4), .val (.int p5), .val (.int nn), .val (.int y0), .val (.int y1), .val (.int y2), .val (.int y3), .val (.ref b42), .val (.long g3), .second, .val (.long (own_inv (1099511628211 : Int64))), .second] [])
          refine OwnGo.st (fun _ k => XS.lload X50.here hx rfl (hb hby at_247) rfl  k) ?_
          show OwnGo p e below s _ _ _ T50 (mkF m 249 #[.val (.int p1), .val (.int p2), .val (.int p3), .val (.int p4), .val (.int p5), .val (.int nn), .val (.int y0), .val (.int y1), .val (.int y2), .val (.int y3), .val (.ref b42), .val (.long g3), .second, .val (.long (own_inv (1099511628211 : Int64))), .second] [(.long g3)])
          refine OwnGo.st (fun _ k => XS.lload X50.here hx rfl (hb hby at_249) rfl  k) ?_
          show OwnGo p e below s _ _ _ T50 (mkF m 251 #[.val (.int p1), .val (.int p2), .val (.int p3), .val (.int p4), .val (.int p5), .val (.int nn), .val (.int y0), .val (.int y1), .val (.int y2), .val (.int y3), .val (.ref b42), .val (.long g3), .second, .val (.long (own_inv (1099511628211 : Int64))), .second] [(.long (own_inv (1099511628211 : Int64))), (.long g3)])
          refine OwnGo.st (fun _ k => XS.lmul X50.here hx rfl (hb hby at_251) rfl k) ?_
          show OwnGo p e below s _ _ _ T50 (mkF m 252 #[.val (.int p1), .val (.int p2), .val (.int p3), .val (.int p4), .val (.int p5), .val (.int nn), .val (.int y0), .val (.int y1), .val (.int y2), .val (.int y3), .val (.ref b42), .val (.long g3), .second, .val (.long (own_inv (1099511628211 : Int64))), .second] [(.long (g3 * (own_inv (1099511628211 : Int64))))])
          refine OwnGo.st (fun _ k => XS.iload X50.here hx rfl (hb hby at_252) rfl  k) ?_
          show OwnGo p e below s _ _ _ T50 (mkF m 254 #[.val (.int p1), .val (.int p2), .val (.int p3), .val (.int p4), .val (.int p5), .val (.int nn), .val (.int y0), .val (.int y1), .val (.int y2), .val (.int y3), .val (.ref b42), .val (.long g3), .second, .val (.long (own_inv (1099511628211 : Int64))), .second] [(.int y2), (.long (g3 * (own_inv (1099511628211 : Int64))))])
          refine OwnGo.st (fun _ k => XS.sipush X50.here hx rfl (hb hby at_254) k) ?_
          show OwnGo p e below s _ _ _ T50 (mkF m 257 #[.val (.int p1), .val (.int p2), .val (.int p3), .val (.int p4), .val (.int p5), .val (.int nn), .val (.int y0), .val (.int y1), .val (.int y2), .val (.int y3), .val (.ref b42), .val (.long g3), .second, .val (.long (own_inv (1099511628211 : Int64))), .second] [(.int (255 : Int32)), (.int y2), (.long (g3 * (own_inv (1099511628211 : Int64))))])
          refine OwnGo.st (fun _ k => XS.iand X50.here hx rfl (hb hby at_257) rfl k) ?_
          show OwnGo p e below s _ _ _ T50 (mkF m 258 #[.val (.int p1), .val (.int p2), .val (.int p3), .val (.int p4), .val (.int p5), .val (.int nn), .val (.int y0), .val (.int y1), .val (.int y2), .val (.int y3), .val (.ref b42), .val (.long g3), .second, .val (.long (own_inv (1099511628211 : Int64))), .second] [(.int (y2 &&& (255 : Int32))), (.long (g3 * (own_inv (1099511628211 : Int64))))])
          refine OwnGo.st (fun _ k => XS.i2l X50.here hx rfl (hb hby at_258) rfl k) ?_
          show OwnGo p e below s _ _ _ T50 (mkF m 259 #[.val (.int p1), .val (.int p2), .val (.int p3), .val (.int p4), .val (.int p5), .val (.int nn), .val (.int y0), .val (.int y1), .val (.int y2), .val (.int y3), .val (.ref b42), .val (.long g3), .second, .val (.long (own_inv (1099511628211 : Int64))), .second] [(.long ((y2 &&& (255 : Int32)).toInt64)), (.long (g3 * (own_inv (1099511628211 : Int64))))])
          refine OwnGo.st (fun _ k => XS.lxor X50.here hx rfl (hb hby at_259) rfl k) ?_
          show OwnGo p e below s _ _ _ T50 (mkF m 260 #[.val (.int p1), .val (.int p2), .val (.int p3), .val (.int p4), .val (.int p5), .val (.int nn), .val (.int y0), .val (.int y1), .val (.int y2), .val (.int y3), .val (.ref b42), .val (.long g3), .second, .val (.long (own_inv (1099511628211 : Int64))), .second] [(.long ((g3 * (own_inv (1099511628211 : Int64))) ^^^ ((y2 &&& (255 : Int32)).toInt64)))])
          rw [show (g3 * own_inv (1099511628211 : Int64) ^^^ (y2 &&& (255 : Int32)).toInt64) = g2 from (by rw [hg3]; exact own_peel _ _)]
          show OwnGo p e below s _ _ _ T50 (mkF m 260 #[.val (.int p1), .val (.int p2), .val (.int p3), .val (.int p4), .val (.int p5), .val (.int nn), .val (.int y0), .val (.int y1), .val (.int y2), .val (.int y3), .val (.ref b42), .val (.long g3), .second, .val (.long (own_inv (1099511628211 : Int64))), .second] [(.long g2)])
          refine OwnGo.st (fun _ k => XS.lstore X50.here hx rfl (hb hby at_260) rfl (l' := #[.val (.int p1), .val (.int p2), .val (.int p3), .val (.int p4), .val (.int p5), .val (.int nn), .val (.int y0), .val (.int y1), .val (.int y2), .val (.int y3), .val (.ref b42), .val (.long g2), .second, .val (.long (own_inv (1099511628211 : Int64))), .second]) rfl k) ?_
          show OwnGo p e below s _ _ _ T50 (mkF m 262 #[.val (.int p1), .val (.int p2), .val (.int p3), .val (.int p4), .val (.int p5), .val (.int nn), .val (.int y0), .val (.int y1), .val (.int y2), .val (.int y3), .val (.ref b42), .val (.long g2), .second, .val (.long (own_inv (1099511628211 : Int64))), .second] [])
          refine OwnGo.st (fun _ k => XS.iload X50.here hx rfl (hb hby at_262) rfl  k) ?_
          show OwnGo p e below s _ _ _ T50 (mkF m 264 #[.val (.int p1), .val (.int p2), .val (.int p3), .val (.int p4), .val (.int p5), .val (.int nn), .val (.int y0), .val (.int y1), .val (.int y2), .val (.int y3), .val (.ref b42), .val (.long g2), .second, .val (.long (own_inv (1099511628211 : Int64))), .second] [(.int nn)])
          refine OwnGo.st (fun _ k => XS.iconst X50.here hx rfl (hb hby at_264) k) ?_
          show OwnGo p e below s _ _ _ T50 (mkF m 265 #[.val (.int p1), .val (.int p2), .val (.int p3), .val (.int p4), .val (.int p5), .val (.int nn), .val (.int y0), .val (.int y1), .val (.int y2), .val (.int y3), .val (.ref b42), .val (.long g2), .second, .val (.long (own_inv (1099511628211 : Int64))), .second] [(.int (2 : Int32)), (.int nn)])
          refine OwnGo.st (fun _ k => XS.icmpNo X50.here hx rfl (hb hby at_265) rfl (flt ((by rw [hk4]; decide) : ¬ (nn < (2 : Int32)))).1 k) ?_
          show OwnGo p e below s _ _ _ T50 (mkF m 268 #[.val (.int p1), .val (.int p2), .val (.int p3), .val (.int p4), .val (.int p5), .val (.int nn), .val (.int y0), .val (.int y1), .val (.int y2), .val (.int y3), .val (.ref b42), .val (.long g2), .second, .val (.long (own_inv (1099511628211 : Int64))), .second] [])
          refine OwnGo.st (fun _ k => XS.lload X50.here hx rfl (hb hby at_268) rfl  k) ?_
          show OwnGo p e below s _ _ _ T50 (mkF m 270 #[.val (.int p1), .val (.int p2), .val (.int p3), .val (.int p4), .val (.int p5), .val (.int nn), .val (.int y0), .val (.int y1), .val (.int y2), .val (.int y3), .val (.ref b42), .val (.long g2), .second, .val (.long (own_inv (1099511628211 : Int64))), .second] [(.long g2)])
          refine OwnGo.st (fun _ k => XS.lload X50.here hx rfl (hb hby at_270) rfl  k) ?_
          show OwnGo p e below s _ _ _ T50 (mkF m 272 #[.val (.int p1), .val (.int p2), .val (.int p3), .val (.int p4), .val (.int p5), .val (.int nn), .val (.int y0), .val (.int y1), .val (.int y2), .val (.int y3), .val (.ref b42), .val (.long g2), .second, .val (.long (own_inv (1099511628211 : Int64))), .second] [(.long (own_inv (1099511628211 : Int64))), (.long g2)])
          refine OwnGo.st (fun _ k => XS.lmul X50.here hx rfl (hb hby at_272) rfl k) ?_
          show OwnGo p e below s _ _ _ T50 (mkF m 273 #[.val (.int p1), .val (.int p2), .val (.int p3), .val (.int p4), .val (.int p5), .val (.int nn), .val (.int y0), .val (.int y1), .val (.int y2), .val (.int y3), .val (.ref b42), .val (.long g2), .second, .val (.long (own_inv (1099511628211 : Int64))), .second] [(.long (g2 * (own_inv (1099511628211 : Int64))))])
          refine OwnGo.st (fun _ k => XS.iload X50.here hx rfl (hb hby at_273) rfl  k) ?_
          show OwnGo p e below s _ _ _ T50 (mkF m 275 #[.val (.int p1), .val (.int p2), .val (.int p3), .val (.int p4), .val (.int p5), .val (.int nn), .val (.int y0), .val (.int y1), .val (.int y2), .val (.int y3), .val (.ref b42), .val (.long g2), .second, .val (.long (own_inv (1099511628211 : Int64))), .second] [(.int y1), (.long (g2 * (own_inv (1099511628211 : Int64))))])
          refine OwnGo.st (fun _ k => XS.sipush X50.here hx rfl (hb hby at_275) k) ?_
          show OwnGo p e below s _ _ _ T50 (mkF m 278 #[.val (.int p1), .val (.int p2), .val (.int p3), .val (.int p4), .val (.int p5), .val (.int nn), .val (.int y0), .val (.int y1), .val (.int y2), .val (.int y3), .val (.ref b42), .val (.long g2), .second, .val (.long (own_inv (1099511628211 : Int64))), .second] [(.int (255 : Int32)), (.int y1), (.long (g2 * (own_inv (1099511628211 : Int64))))])
          refine OwnGo.st (fun _ k => XS.iand X50.here hx rfl (hb hby at_278) rfl k) ?_
          show OwnGo p e below s _ _ _ T50 (mkF m 279 #[.val (.int p1), .val (.int p2), .val (.int p3), .val (.int p4), .val (.int p5), .val (.int nn), .val (.int y0), .val (.int y1), .val (.int y2), .val (.int y3), .val (.ref b42), .val (.long g2), .second, .val (.long (own_inv (1099511628211 : Int64))), .second] [(.int (y1 &&& (255 : Int32))), (.long (g2 * (own_inv (1099511628211 : Int64))))])
          refine OwnGo.st (fun _ k => XS.i2l X50.here hx rfl (hb hby at_279) rfl k) ?_
          show OwnGo p e below s _ _ _ T50 (mkF m 280 #[.val (.int p1), .val (.int p2), .val (.int p3), .val (.int p4), .val (.int p5), .val (.int nn), .val (.int y0), .val (.int y1), .val (.int y2), .val (.int y3), .val (.ref b42), .val (.long g2), .second, .val (.long (own_inv (1099511628211 : Int64))), .second] [(.long ((y1 &&& (255 : Int32)).toInt64)), (.long (g2 * (own_inv (1099511628211 : Int64))))])
          refine OwnGo.st (fun _ k => XS.lxor X50.here hx rfl (hb hby at_280) rfl k) ?_
          show OwnGo p e below s _ _ _ T50 (mkF m 281 #[.val (.int p1), .val (.int p2), .val (.int p3), .val (.int p4), .val (.int p5), .val (.int nn), .val (.int y0), .val (.int y1), .val (.int y2), .val (.int y3), .val (.ref b42), .val (.long g2), .second, .val (.long (own_inv (1099511628211 : Int64))), .second] [(.long ((g2 * (own_inv (1099511628211 : Int64))) ^^^ ((y1 &&& (255 : Int32)).toInt64)))])
          rw [show (g2 * own_inv (1099511628211 : Int64) ^^^ (y1 &&& (255 : Int32)).toInt64) = g1 from (by rw [hg2]; exact own_peel _ _)]
          show OwnGo p e below s _ _ _ T50 (mkF m 281 #[.val (.int p1), .val (.int p2), .val (.int p3), .val (.int p4), .val (.int p5), .val (.int nn), .val (.int y0), .val (.int y1), .val (.int y2), .val (.int y3), .val (.ref b42), .val (.long g2), .second, .val (.long (own_inv (1099511628211 : Int64))), .second] [(.long g1)])
          refine OwnGo.st (fun _ k => XS.lstore X50.here hx rfl (hb hby at_281) rfl (l' := #[.val (.int p1), .val (.int p2), .val (.int p3), .val (.int p4), .val (.int p5), .val (.int nn), .val (.int y0), .val (.int y1), .val (.int y2), .val (.int y3), .val (.ref b42), .val (.long g1), .second, .val (.long (own_inv (1099511628211 : Int64))), .second]) rfl k) ?_
          show OwnGo p e below s _ _ _ T50 (mkF m 283 #[.val (.int p1), .val (.int p2), .val (.int p3), .val (.int p4), .val (.int p5), .val (.int nn), .val (.int y0), .val (.int y1), .val (.int y2), .val (.int y3), .val (.ref b42), .val (.long g1), .second, .val (.long (own_inv (1099511628211 : Int64))), .second] [])
          refine OwnGo.st (fun _ k => XS.iload X50.here hx rfl (hb hby at_283) rfl  k) ?_
          show OwnGo p e below s _ _ _ T50 (mkF m 285 #[.val (.int p1), .val (.int p2), .val (.int p3), .val (.int p4), .val (.int p5), .val (.int nn), .val (.int y0), .val (.int y1), .val (.int y2), .val (.int y3), .val (.ref b42), .val (.long g1), .second, .val (.long (own_inv (1099511628211 : Int64))), .second] [(.int nn)])
          refine OwnGo.st (fun _ k => XS.iconst X50.here hx rfl (hb hby at_285) k) ?_
          show OwnGo p e below s _ _ _ T50 (mkF m 286 #[.val (.int p1), .val (.int p2), .val (.int p3), .val (.int p4), .val (.int p5), .val (.int nn), .val (.int y0), .val (.int y1), .val (.int y2), .val (.int y3), .val (.ref b42), .val (.long g1), .second, .val (.long (own_inv (1099511628211 : Int64))), .second] [(.int (1 : Int32)), (.int nn)])
          refine OwnGo.st (fun _ k => XS.icmpNo X50.here hx rfl (hb hby at_286) rfl (flt ((by rw [hk4]; decide) : ¬ (nn < (1 : Int32)))).1 k) ?_
          show OwnGo p e below s _ _ _ T50 (mkF m 289 #[.val (.int p1), .val (.int p2), .val (.int p3), .val (.int p4), .val (.int p5), .val (.int nn), .val (.int y0), .val (.int y1), .val (.int y2), .val (.int y3), .val (.ref b42), .val (.long g1), .second, .val (.long (own_inv (1099511628211 : Int64))), .second] [])
          refine OwnGo.st (fun _ k => XS.lload X50.here hx rfl (hb hby at_289) rfl  k) ?_
          show OwnGo p e below s _ _ _ T50 (mkF m 291 #[.val (.int p1), .val (.int p2), .val (.int p3), .val (.int p4), .val (.int p5), .val (.int nn), .val (.int y0), .val (.int y1), .val (.int y2), .val (.int y3), .val (.ref b42), .val (.long g1), .second, .val (.long (own_inv (1099511628211 : Int64))), .second] [(.long g1)])
          refine OwnGo.st (fun _ k => XS.lload X50.here hx rfl (hb hby at_291) rfl  k) ?_
          show OwnGo p e below s _ _ _ T50 (mkF m 293 #[.val (.int p1), .val (.int p2), .val (.int p3), .val (.int p4), .val (.int p5), .val (.int nn), .val (.int y0), .val (.int y1), .val (.int y2), .val (.int y3), .val (.ref b42), .val (.long g1), .second, .val (.long (own_inv (1099511628211 : Int64))), .second] [(.long (own_inv (1099511628211 : Int64))), (.long g1)])
          refine OwnGo.st (fun _ k => XS.lmul X50.here hx rfl (hb hby at_293) rfl k) ?_
          show OwnGo p e below s _ _ _ T50 (mkF m 294 #[.val (.int p1), .val (.int p2), .val (.int p3), .val (.int p4), .val (.int p5), .val (.int nn), .val (.int y0), .val (.int y1), .val (.int y2), .val (.int y3), .val (.ref b42), .val (.long g1), .second, .val (.long (own_inv (1099511628211 : Int64))), .second] [(.long (g1 * (own_inv (1099511628211 : Int64))))])
          refine OwnGo.st (fun _ k => XS.iload X50.here hx rfl (hb hby at_294) rfl  k) ?_
          show OwnGo p e below s _ _ _ T50 (mkF m 296 #[.val (.int p1), .val (.int p2), .val (.int p3), .val (.int p4), .val (.int p5), .val (.int nn), .val (.int y0), .val (.int y1), .val (.int y2), .val (.int y3), .val (.ref b42), .val (.long g1), .second, .val (.long (own_inv (1099511628211 : Int64))), .second] [(.int y0), (.long (g1 * (own_inv (1099511628211 : Int64))))])
          refine OwnGo.st (fun _ k => XS.sipush X50.here hx rfl (hb hby at_296) k) ?_
          show OwnGo p e below s _ _ _ T50 (mkF m 299 #[.val (.int p1), .val (.int p2), .val (.int p3), .val (.int p4), .val (.int p5), .val (.int nn), .val (.int y0), .val (.int y1), .val (.int y2), .val (.int y3), .val (.ref b42), .val (.long g1), .second, .val (.long (own_inv (1099511628211 : Int64))), .second] [(.int (255 : Int32)), (.int y0), (.long (g1 * (own_inv (1099511628211 : Int64))))])
          refine OwnGo.st (fun _ k => XS.iand X50.here hx rfl (hb hby at_299) rfl k) ?_
          show OwnGo p e below s _ _ _ T50 (mkF m 300 #[.val (.int p1), .val (.int p2), .val (.int p3), .val (.int p4), .val (.int p5), .val (.int nn), .val (.int y0), .val (.int y1), .val (.int y2), .val (.int y3), .val (.ref b42), .val (.long g1), .second, .val (.long (own_inv (1099511628211 : Int64))), .second] [(.int (y0 &&& (255 : Int32))), (.long (g1 * (own_inv (1099511628211 : Int64))))])
          refine OwnGo.st (fun _ k => XS.i2l X50.here hx rfl (hb hby at_300) rfl k) ?_
          show OwnGo p e below s _ _ _ T50 (mkF m 301 #[.val (.int p1), .val (.int p2), .val (.int p3), .val (.int p4), .val (.int p5), .val (.int nn), .val (.int y0), .val (.int y1), .val (.int y2), .val (.int y3), .val (.ref b42), .val (.long g1), .second, .val (.long (own_inv (1099511628211 : Int64))), .second] [(.long ((y0 &&& (255 : Int32)).toInt64)), (.long (g1 * (own_inv (1099511628211 : Int64))))])
          refine OwnGo.st (fun _ k => XS.lxor X50.here hx rfl (hb hby at_301) rfl k) ?_
          show OwnGo p e below s _ _ _ T50 (mkF m 302 #[.val (.int p1), .val (.int p2), .val (.int p3), .val (.int p4), .val (.int p5), .val (.int nn), .val (.int y0), .val (.int y1), .val (.int y2), .val (.int y3), .val (.ref b42), .val (.long g1), .second, .val (.long (own_inv (1099511628211 : Int64))), .second] [(.long ((g1 * (own_inv (1099511628211 : Int64))) ^^^ ((y0 &&& (255 : Int32)).toInt64)))])
          rw [show (g1 * own_inv (1099511628211 : Int64) ^^^ (y0 &&& (255 : Int32)).toInt64) = (-3750763034362895579 : Int64) from (by rw [hg1]; exact own_peel _ _)]
          show OwnGo p e below s _ _ _ T50 (mkF m 302 #[.val (.int p1), .val (.int p2), .val (.int p3), .val (.int p4), .val (.int p5), .val (.int nn), .val (.int y0), .val (.int y1), .val (.int y2), .val (.int y3), .val (.ref b42), .val (.long g1), .second, .val (.long (own_inv (1099511628211 : Int64))), .second] [(.long (-3750763034362895579 : Int64))])
          refine OwnGo.st (fun _ k => XS.lstore X50.here hx rfl (hb hby at_302) rfl (l' := #[.val (.int p1), .val (.int p2), .val (.int p3), .val (.int p4), .val (.int p5), .val (.int nn), .val (.int y0), .val (.int y1), .val (.int y2), .val (.int y3), .val (.ref b42), .val (.long (-3750763034362895579 : Int64)), .second, .val (.long (own_inv (1099511628211 : Int64))), .second]) rfl k) ?_
          show OwnGo p e below s _ _ _ T50 (mkF m 304 #[.val (.int p1), .val (.int p2), .val (.int p3), .val (.int p4), .val (.int p5), .val (.int nn), .val (.int y0), .val (.int y1), .val (.int y2), .val (.int y3), .val (.ref b42), .val (.long (-3750763034362895579 : Int64)), .second, .val (.long (own_inv (1099511628211 : Int64))), .second] [])
          refine OwnGo.st (fun _ k => XS.lload X50.here hx rfl (hb hby at_304) rfl  k) ?_
          show OwnGo p e below s _ _ _ T50 (mkF m 306 #[.val (.int p1), .val (.int p2), .val (.int p3), .val (.int p4), .val (.int p5), .val (.int nn), .val (.int y0), .val (.int y1), .val (.int y2), .val (.int y3), .val (.ref b42), .val (.long (-3750763034362895579 : Int64)), .second, .val (.long (own_inv (1099511628211 : Int64))), .second] [(.long (-3750763034362895579 : Int64))])
          refine OwnGo.st (fun _ k => X50.ldc2Long hx hown (mvT hZ (hw _ (List.mem_of_getElem? (i := 17) rfl))) (g := (mkF m 306 #[.val (.int p1), .val (.int p2), .val (.int p3), .val (.int p4), .val (.int p5), .val (.int nn), .val (.int y0), .val (.int y1), .val (.int y2), .val (.int y3), .val (.ref b42), .val (.long (-3750763034362895579 : Int64)), .second, .val (.long (own_inv (1099511628211 : Int64))), .second] [(.long (-3750763034362895579 : Int64))])) rfl (hb hby at_306) _ k) ?_
          show OwnGo p e below s _ _ _ T50 (mkF m 309 #[.val (.int p1), .val (.int p2), .val (.int p3), .val (.int p4), .val (.int p5), .val (.int nn), .val (.int y0), .val (.int y1), .val (.int y2), .val (.int y3), .val (.ref b42), .val (.long (-3750763034362895579 : Int64)), .second, .val (.long (own_inv (1099511628211 : Int64))), .second] [(.long (-3750763034362895579 : Int64)), (.long (-3750763034362895579 : Int64))])
          refine OwnGo.st (fun _ k => XS.lcmp X50.here hx rfl (hb hby at_309) rfl k) ?_
          show OwnGo p e below s _ _ _ T50 (mkF m 310 #[.val (.int p1), .val (.int p2), .val (.int p3), .val (.int p4), .val (.int p5), .val (.int nn), .val (.int y0), .val (.int y1), .val (.int y2), .val (.int y3), .val (.ref b42), .val (.long (-3750763034362895579 : Int64)), .second, .val (.long (own_inv (1099511628211 : Int64))), .second] [(.int (lcmpW (-3750763034362895579 : Int64) (-3750763034362895579 : Int64)))])
          refine OwnGo.st (fun _ k => XS.ifNo X50.here hx rfl (hb hby at_310) rfl ((if0 _ _).trans (teq ((lw_eq _ _).2 rfl : (lcmpW (-3750763034362895579 : Int64) (-3750763034362895579 : Int64)) = (0 : Int32))).2) k) ?_
          show OwnGo p e below s _ _ _ T50 (mkF m 313 #[.val (.int p1), .val (.int p2), .val (.int p3), .val (.int p4), .val (.int p5), .val (.int nn), .val (.int y0), .val (.int y1), .val (.int y2), .val (.int y3), .val (.ref b42), .val (.long (-3750763034362895579 : Int64)), .second, .val (.long (own_inv (1099511628211 : Int64))), .second] [])
          refine OwnGo.st (fun _ k => XS.iconst X50.here hx rfl (hb hby at_313) k) ?_
          show OwnGo p e below s _ _ _ T50 (mkF m 314 #[.val (.int p1), .val (.int p2), .val (.int p3), .val (.int p4), .val (.int p5), .val (.int nn), .val (.int y0), .val (.int y1), .val (.int y2), .val (.int y3), .val (.ref b42), .val (.long (-3750763034362895579 : Int64)), .second, .val (.long (own_inv (1099511628211 : Int64))), .second] [(.int (1 : Int32))])
          refine OwnGo.st (fun _ k => XS.goto X50.here hx rfl (pc0 := 314) (pc' := 318) rfl (hb hby at_314) (by decide) (by decide) k) ?_
          show OwnGo p e below s _ _ _ T50 (mkF m 318 #[.val (.int p1), .val (.int p2), .val (.int p3), .val (.int p4), .val (.int p5), .val (.int nn), .val (.int y0), .val (.int y1), .val (.int y2), .val (.int y3), .val (.ref b42), .val (.long (-3750763034362895579 : Int64)), .second, .val (.long (own_inv (1099511628211 : Int64))), .second] [(.int (1 : Int32))])
          exact OwnGo.retN X50 hx (t := .boolean) hret hlk (by simp) (hb hby at_318) (by show Q0 Z p1 p2 p3 p4 p5 h0 n0 _ T50.heap _; rw [e50]; exact ⟨rfl, N50⟩) (by decide) (by decide)
set_option maxRecDepth 65536 in
set_option maxHeartbeats 40000000 in
theorem comes_1 {Post : Tables → Env → Array Value → State → Outcome → State → Prop} (hpost : ∀ tb e args s v u, (limb_1_1.after args s (.returned v) u = true ∧ limb_1_2.after args s (.returned v) u = true ∧ True) → FrameEnd s (.returned v) u (Jvm.fieldLocs frame_1_writes args s ++ Jvm.arrayLocs frame_1_arrays args s ++ Jvm.staticLocs frame_1_statics s) 16 128 → Post tb e args s (.returned v) u) :
    ArmFor flags0 classFile x code maxLocals ret World_1 tables_1 room_1 Calls_1 rest_1 Pre_1 Post := by
  intro l hfl _ _ p e ha hc hk s m args below hf hA hF happ hP
  obtain ⟨hcalls, hrest, hpre⟩ := hP
  obtain ⟨-, -, -, hnamed, -, -, -, hat⟩ := (Spec.applies_iff hf).mp happ
  obtain ⟨hg, hn⟩ := and_e (Cond.before_iff.mp (show (Jvm.Cond.and given_1 narrow_1).before args s = true from hpre))
  obtain ⟨hcnt, hg⟩ := and_e hg
  obtain ⟨hg0, hg⟩ := and_e hg
  obtain ⟨hg1, hg⟩ := and_e hg
  obtain ⟨hg2, hg⟩ := and_e hg
  obtain ⟨hg3, hg⟩ := and_e hg
  have hg4 := hg
  obtain ⟨w0, w1, w2, w3, w4, rfl⟩ : ∃ w0 w1 w2 w3 w4 : Value, args = #[w0, w1, w2, w3, w4] := by
    have hs : args.size = 5 := by simpa [Cond.value, given_1] using hcnt
    obtain ⟨L⟩ := args
    match L, hs with
    | [w0, w1, w2, w3, w4], _ => exact ⟨w0, w1, w2, w3, w4, rfl⟩
  have hw := fun d (hd : d ∈ tables_1) => atoms_spec (ws := Jvm.Cond.code x code maxLocals ret :: tables_1) hat d (List.mem_cons_of_mem _ hd)
  have hfit : Fit s := fun {y c} hc i hi => by
    obtain ⟨ha, rfl⟩ := Array.getElem?_eq_some_iff.mp hc
    have q := List.all_eq_true.mp ((Array.all_eq_true_iff_forall_mem.mp hF) _ (Array.getElem_mem ha)) i (List.mem_range.mpr hi)
    simpa [Array.getElem?_eq_getElem hi] using q
  obtain ⟨i0, ei0⟩ := is_v hg0
  obtain rfl : w0 = (.int i0) := Option.some.inj ei0
  obtain ⟨i1, ei1⟩ := is_v hg1
  obtain rfl : w1 = (.int i1) := Option.some.inj ei1
  obtain ⟨i2, ei2⟩ := is_v hg2
  obtain rfl : w2 = (.int i2) := Option.some.inj ei2
  obtain ⟨i3, ei3⟩ := is_v hg3
  obtain rfl : w3 = (.int i3) := Option.some.inj ei3
  obtain ⟨i4, ei4⟩ := is_v hg4
  obtain rfl : w4 = (.int i4) := Option.some.inj ei4
  obtain ⟨n, o, h1, h2, h3, _, L, rfl, ⟨rfl, N⟩, hq⟩ := rm0 l s _ hw tables_1 i0 i1 i2 i3 i4 s.heap s.heap.size (Nat.le_refl _)   p e ha hc hk s m _ below hf ((Spec.applies_iff_loose hf).mp happ).1 ⟨rfl, State.Warmed39.refl s, rfl⟩ trivial
  refine ⟨n, _, h1, h2, h3, hpost _ _ _ _ _ _ ⟨Cond.after_iff.mpr rfl, Cond.after_iff.mpr (eq_i res_at (Term.int_eval (1)) rfl), trivial⟩ ⟨hq.1, hq.2.1, (hq.2.2.sift fun y hy => Or.inr (N y hy)).mono (by decide) (by decide)⟩⟩
theorem main_1_1 : Claimed_1_1 := comes_1 fun _ _ _ _ _ _ h hF => ⟨h.1, hF⟩
theorem main_1_2 : Claimed_1_2 := comes_1 fun _ _ _ _ _ _ h hF => ⟨h.2.1, hF⟩
end Jvm.Pilot.@@N@@
namespace Jvm.Pilot.@@N@@
open Jvm Jvm.ClassFile Sem Op Lib Jvm.Free Jvm.Stand Jvm.Pilot.@@N@@.Jvm.D
/-! MADE BY PROGRAM (witnessworld.py) out of the Statement's table words and the real class files: 9 classes; the members and pool entries that the words name. The judged class is class 1, her method 1. -/
namespace start1
open Jvm.ClassFile
def u (s : String) : CpInfo := .utf8 (stringToUtf16 s)
/-- a pool by its gaps: so many unusable entries, then the entry; so many at the end -/
def gap : Nat → List CpInfo → List CpInfo
  | 0, r => r
  | n + 1, r => .unusable :: gap n r
def poolList (es : List (Nat × CpInfo)) (last : Nat) : List CpInfo := es.foldr (fun e r => gap e.1 (e.2 :: r)) (gap last [])
def pool (es : List (Nat × CpInfo)) (last : Nat) : Array CpInfo := ⟨poolList es last⟩
def fileOf (pool : Array CpInfo) (this : Nat) (attrs : Array Attribute := #[]) (ms : Array MethodInfo := #[]) (fl : Nat := 33) (sup : Nat := 0) (ifs : Array Nat := #[]) (fds : Array FieldInfo := #[]) : ClassFile where
  minorVersion := 0
  majorVersion := 65
  constantPool := pool
  accessFlags := fl
  thisClass := this
  superClass := sup
  interfaces := ifs
  fields := fds
  methods := ms
  attributes := attrs
def plain (name : String) (sup : Option ClassId) : Class where
  name := name
  kind := .ordinary
  loader := none
  accessFlags := 33
  super := sup
  interfaces := #[]
  cf := none
  fields := #[]
  methods := #[]
  instanceTypes := #[]
  staticTypes := #[]
  resolved := #[]
  callSites := []
  init := .initialized
  statics := none
  mirror := none

def pool0 : Array CpInfo := pool [(5, u "<init>"), (0, u "()V"), (1, .class_ 10), (1, u "java/lang/Object")] 113

def k0m0 : Method := { name := "<init>", desc := "()V", sig := { parameters := [], returnType := none }, accessFlags := 1, code := none }
/-- java/lang/Object -/
def k0 : Class := { plain "java/lang/Object" none with
  accessFlags := 33
  interfaces := #[]
  cf := some (fileOf pool0 8 #[] #[{ accessFlags := 1, nameIndex := 5, descriptorIndex := 6, attributes := #[] }] 33 0 #[] #[])
  fields := #[]
  methods := #[k0m0]
  instanceTypes := #[]
  staticTypes := #[]
  resolved := Array.replicate 124 none
  statics := none }

def pool1 : Array CpInfo := pool [(2, .class_ 4), (1, u "java/lang/Object"), (0, u "<init>"), (0, u "()V"), (0, .integer 2147483647), (0, .methodref 9 10), (0, .class_ 11), (0, .nameAndType 12 13), (0, u "com/example/utsatt/utsatt/KeyHashes"), (0, u "of"), (0, u "([B)J"), (0, .long 10723151780598845931), (1, .methodref 17 18), (0, .class_ 19), (0, .nameAndType 20 21), (0, u "com/example/utsatt/utsatt/KeyHashesOfPinLaw"), (0, u "inverse"), (0, u "(J)J"), (0, .long 13787848793156543929), (1, .long 1099511628211), (1, .long 14695981039346656037), (1, .long 2), (3, u "law"), (0, u "(IIIII)Z")] 5

def k1m0 : Method := { name := "<init>", desc := "()V", sig := { parameters := [], returnType := none }, accessFlags := 1, code := none }
def k1c1 : Code := { maxStack := 5, maxLocals := 15, code := code, exceptionTable := #[], attributes := #[] }
def k1m1 : Method := { name := "law", desc := "(IIIII)Z", sig := { parameters := [.int, .int, .int, .int, .int], returnType := some .boolean }, accessFlags := 9, code := some k1c1 }
def k1c2 : Code := { maxStack := 8, maxLocals := 4, code := method_3_code, exceptionTable := #[], attributes := #[] }
def k1m2 : Method := { name := "inverse", desc := "(J)J", sig := { parameters := [.long], returnType := some .long }, accessFlags := 10, code := some k1c2 }
/-- com/example/utsatt/utsatt/KeyHashesOfPinLaw -/
def k1 : Class := { plain "com/example/utsatt/utsatt/KeyHashesOfPinLaw" (some 0) with
  accessFlags := 49
  interfaces := #[]
  cf := some (fileOf pool1 17 #[] #[{ accessFlags := 1, nameIndex := 5, descriptorIndex := 6, attributes := #[] }, { accessFlags := 9, nameIndex := 32, descriptorIndex := 33, attributes := #[] }, { accessFlags := 10, nameIndex := 20, descriptorIndex := 21, attributes := #[] }] 49 2 #[] #[])
  fields := #[]
  methods := #[k1m0, k1m1, k1m2]
  instanceTypes := #[]
  staticTypes := #[]
  resolved := Array.replicate 39 none
  statics := none }

def pool2 : Array CpInfo := pool [(2, .class_ 4), (1, u "java/lang/Object"), (0, u "<init>"), (0, u "()V"), (0, .class_ 8), (0, u "com/example/utsatt/utsatt/KeyHashes"), (2, u "slots"), (0, u "[J"), (0, .long 14695981039346656037), (1, .long 1099511628211), (1, .long 13787848793156543929), (1, .long 10723151780598845931), (3, u "size"), (0, u "I"), (30, u "FREE"), (0, u "J"), (3, u "ZERO_STANDIN"), (2, u "MIN_CAPACITY"), (1, u "MAX_LOAD"), (0, u "D"), (0, u "MIN_LOAD"), (2, u "of"), (0, u "([B)J")] 10

def k2m0 : Method := { name := "<init>", desc := "()V", sig := { parameters := [], returnType := none }, accessFlags := 0, code := none }
def k2c1 : Code := { maxStack := 5, maxLocals := 7, code := prog_2_method_2_code, exceptionTable := #[], attributes := #[] }
def k2m1 : Method := { name := "of", desc := "([B)J", sig := { parameters := [(.array .byte)], returnType := some .long }, accessFlags := 8, code := some k2c1 }
/-- com/example/utsatt/utsatt/KeyHashes -/
def k2 : Class := { plain "com/example/utsatt/utsatt/KeyHashes" (some 0) with
  accessFlags := 48
  interfaces := #[]
  cf := some (fileOf pool2 7 #[] #[{ accessFlags := 0, nameIndex := 5, descriptorIndex := 6, attributes := #[] }, { accessFlags := 8, nameIndex := 70, descriptorIndex := 71, attributes := #[] }] 48 2 #[] #[{ accessFlags := 26, nameIndex := 55, descriptorIndex := 56, attributes := #[] }, { accessFlags := 26, nameIndex := 60, descriptorIndex := 56, attributes := #[] }, { accessFlags := 26, nameIndex := 63, descriptorIndex := 24, attributes := #[] }, { accessFlags := 26, nameIndex := 65, descriptorIndex := 66, attributes := #[] }, { accessFlags := 26, nameIndex := 67, descriptorIndex := 66, attributes := #[] }, { accessFlags := 2, nameIndex := 11, descriptorIndex := 12, attributes := #[] }, { accessFlags := 2, nameIndex := 23, descriptorIndex := 24, attributes := #[] }])
  fields := #[{ name := "FREE", type := .long, accessFlags := 26, slot := 0, constantValue := 0 }, { name := "ZERO_STANDIN", type := .long, accessFlags := 26, slot := 1, constantValue := 0 }, { name := "MIN_CAPACITY", type := .int, accessFlags := 26, slot := 2, constantValue := 0 }, { name := "MAX_LOAD", type := .double, accessFlags := 26, slot := 3, constantValue := 0 }, { name := "MIN_LOAD", type := .double, accessFlags := 26, slot := 4, constantValue := 0 }, { name := "slots", type := (.array .long), accessFlags := 2, slot := 0, constantValue := 0 }, { name := "size", type := .int, accessFlags := 2, slot := 1, constantValue := 0 }]
  methods := #[k2m0, k2m1]
  instanceTypes := #[(.array .long), .int]
  staticTypes := #[.long, .long, .int, .double, .double]
  resolved := Array.replicate 82 none
  statics := none }

def pool3 : Array CpInfo := pool [(1, u "java/lang/Cloneable"), (0, .class_ 1), (0, u "java/lang/Object"), (0, .class_ 3)] 3

/-- java/lang/Cloneable -/
def k3 : Class := { plain "java/lang/Cloneable" (some 0) with
  accessFlags := 1537
  interfaces := #[]
  cf := some (fileOf pool3 2 #[] #[] 1537 4 #[] #[])
  fields := #[]
  methods := #[]
  instanceTypes := #[]
  staticTypes := #[]
  resolved := Array.replicate 8 none
  statics := none }

def pool4 : Array CpInfo := pool [(1, u "java/io/Serializable"), (0, .class_ 1), (0, u "java/lang/Object"), (0, .class_ 3)] 3

/-- java/io/Serializable -/
def k4 : Class := { plain "java/io/Serializable" (some 0) with
  accessFlags := 1537
  interfaces := #[]
  cf := some (fileOf pool4 2 #[] #[] 1537 4 #[] #[])
  fields := #[]
  methods := #[]
  instanceTypes := #[]
  staticTypes := #[]
  resolved := Array.replicate 8 none
  statics := none }

/-- the primitive byte -/
def k5 : Class := { plain "byte" none with kind := .primitive 'B', accessFlags := 0x411 }
/-- [B -/
def k6 : Class := { plain "[B" (some 0) with kind := .array 5 .byte, interfaces := #[3, 4], accessFlags := 1041 }

/-- the primitive int -/
def k7 : Class := { plain "int" none with kind := .primitive 'I', accessFlags := 0x411 }
/-- [I -/
def k8 : Class := { plain "[I" (some 0) with kind := .array 7 .int, interfaces := #[3, 4], accessFlags := 1041 }

def heap : Heap := #[]
def classes : Array Class := #[k0, k1, k2, k3, k4, k5, k6, k7, k8]
def interned : List (Array UInt16 × Addr) := []
def slotsUsed : Nat := 0
def theMethod : MethodId := ⟨1, 1⟩
def args0 : Array Value := #[.int 3, .int 1, .int 2, .int 3, .int 4]
def aboutOver (below : List Frame) : State where
  vm := { classes := classes, interned := interned.toArray }
  heap := heap
  slotsUsed := slotsUsed
  threads := #[{ frames := .invoking theMethod args0 :: below }]
def below0 : List Frame := [.native { method := ⟨0, 0⟩, args := #[] }]
def about1 : State := aboutOver below0
def p0 : Program := .bare "" "" ""
def e0 : Env := launch0.env 0 0 0
theorem w_frames : about1.frames = Frame.invoking theMethod args0 :: below0 := rfl
set_option maxRecDepth 65536 in
theorem w_args : argsFit about1.vm theMethod args0 = true := by decide +kernel
set_option maxRecDepth 65536 in
theorem w_heap : heapFits about1 = true := by decide +kernel
set_option maxRecDepth 65536 in
theorem w_runnable : about1.curStatus? = some .runnable := by decide +kernel
set_option maxRecDepth 65536 in
theorem w_alone : about1.alone = true := by decide +kernel
set_option maxRecDepth 65536 in
theorem w_named : about1.methodNamed? x = some theMethod := by decide +kernel
set_option maxRecDepth 65536 in
theorem w_hears : about1.hears theMethod below0 = true := by decide +kernel
set_option maxRecDepth 65536 in
theorem w_ripe : about1.ripe theMethod args0 below0 = true := by decide +kernel
theorem w_running : about1.status = .running := rfl
set_option maxRecDepth 65536 in
theorem w_room : about1.hasRoom e0.platform room_1 = true :=
  launch0.hasRoom_least _ room_1 (by decide +kernel) (by decide +kernel) (by decide +kernel) (by decide +kernel) (by decide +kernel) (by decide +kernel)
theorem allAtoms_all (ts : List Jvm.Cond) (a : Array Jvm.Value) (st : Jvm.State) : (allAtoms ts).before a st = ts.all (fun c => c.before a st) := by
  induction ts with
  | nil => rfl
  | cons c t ih =>
    show (Jvm.Cond.and c (allAtoms t)).before a st = _
    rw [Jvm.Cond.before_and, ih, List.all_cons]
def words1 : List Jvm.Cond := Jvm.Cond.code x code maxLocals ret :: tables_1
/-- a 'code' word, met by the world's own term for the bytes: nothing is compared byte by byte -/
theorem code_word {y : MethodName} {bytes : ByteArray} {mx : Nat} {rt : Option FieldType} {a : Array Value} {s : State} {m : MethodId} {meth : Method} {c : Code} (h1 : s.methodNamed? y = some m) (h2 : s.vm.method? m = some meth) (h3 : meth.code = some c) (h4 : c.code = bytes)
    (h5 : (c.maxLocals == mx && c.exceptionTable.isEmpty && decide (c.maxStack ≤ mostOperands) && decide (meth.sig.returnType = rt) && !meth.locks && decide (parseMethodDescriptor y.desc = some meth.sig)) = true) : (Jvm.Cond.code y bytes mx rt).before a s = true := by
  simp only [Bool.and_eq_true, beq_iff_eq, Bool.not_eq_true', decide_eq_true_eq] at h5
  obtain ⟨⟨⟨⟨⟨g1, g2⟩, g3⟩, g4⟩, g5⟩, g6⟩ := h5
  simp [Cond.before, Cond.holds, Cond.value, h1, h2, h3, h4, g1, g2, g3, g4, g5, g6]
def isCode : Jvm.Cond → Bool
  | .code _ _ _ _ => true
  | _ => false
theorem all_split {L : List Jvm.Cond} {P : Jvm.Cond → Bool} (h1 : L.all (fun c => isCode c || P c) = true) (h2 : ∀ c ∈ L.filter isCode, P c = true) : L.all P = true := by
  refine List.all_eq_true.mpr fun c hc => ?_
  have h := List.all_eq_true.mp h1 c hc
  rcases Bool.eq_false_or_eq_true (isCode c) with hi | hi
  · exact h2 c (List.mem_filter.mpr ⟨hc, hi⟩)
  · simpa [hi] using h
set_option maxRecDepth 65536 in
theorem w_c0 : (Jvm.Cond.code x code maxLocals ret).before args0 about1 = true := code_word (m := ⟨1, 1⟩) (meth := k1m1) (c := k1c1) (by decide +kernel) rfl rfl rfl (by decide +kernel)
set_option maxRecDepth 65536 in
theorem w_c1 : (Jvm.Cond.code ({ cls := "com/example/utsatt/utsatt/KeyHashes", name := "of", desc := "([B)J" } : Jvm.MethodName) prog_2_method_2_code (7 : Nat) (Option.some Jvm.ClassFile.FieldType.long)).before args0 about1 = true := code_word (m := ⟨2, 1⟩) (meth := k2m1) (c := k2c1) (by decide +kernel) rfl rfl rfl (by decide +kernel)
set_option maxRecDepth 65536 in
theorem w_c2 : (Jvm.Cond.code ({ cls := "com/example/utsatt/utsatt/KeyHashesOfPinLaw", name := "inverse", desc := "(J)J" } : Jvm.MethodName) method_3_code (4 : Nat) (Option.some Jvm.ClassFile.FieldType.long)).before args0 about1 = true := code_word (m := ⟨1, 2⟩) (meth := k1m2) (c := k1c2) (by decide +kernel) rfl rfl rfl (by decide +kernel)
def codes1 : List Jvm.Cond := [Jvm.Cond.code x code maxLocals ret, Jvm.Cond.code ({ cls := "com/example/utsatt/utsatt/KeyHashes", name := "of", desc := "([B)J" } : Jvm.MethodName) prog_2_method_2_code (7 : Nat) (Option.some Jvm.ClassFile.FieldType.long), Jvm.Cond.code ({ cls := "com/example/utsatt/utsatt/KeyHashesOfPinLaw", name := "inverse", desc := "(J)J" } : Jvm.MethodName) method_3_code (4 : Nat) (Option.some Jvm.ClassFile.FieldType.long)]
set_option maxRecDepth 65536 in
theorem codes_eq : words1.filter isCode = codes1 := rfl
theorem w_codes : ∀ c ∈ words1.filter isCode, c.before args0 about1 = true := by
  rw [codes_eq]
  intro c hc
  simp only [codes1, List.mem_cons, List.not_mem_nil, or_false] at hc
  rcases hc with rfl | rfl | rfl
  · exact w_c0
  · exact w_c1
  · exact w_c2
set_option maxRecDepth 65536 in
theorem w_t1 : words1.all (fun c => isCode c || c.before args0 about1) = true := by decide +kernel
theorem w_tables : (allAtoms (Jvm.Cond.code x code maxLocals ret :: tables_1)).before args0 about1 = true := by
  rw [allAtoms_all]
  show words1.all (fun c => c.before args0 about1) = true
  refine all_split ?_ w_codes
  rw [w_t1]
set_option maxRecDepth 65536 in
theorem w_case : (Jvm.Cond.and given_1 narrow_1).before args0 about1 = true := by decide +kernel
theorem w_applies : (headSpec (Jvm.Cond.code x code maxLocals ret :: tables_1) room_1).applies x e0.platform about1 = true :=
  (Spec.applies_iff w_frames).mpr ⟨w_running, w_runnable, w_alone, w_named, w_hears, w_ripe, w_room, w_tables⟩
theorem atStart : AtStart classFile x code maxLocals ret World_1 tables_1 room_1 Calls_1 rest_1 Pre_1 launch0 p0 e0 about1 theMethod args0 below0 :=
  ⟨lists_1, trivial, launch0.admits_env _ _ _, launch0.least_env, fairChoices_fair.cas, fairChoices_fair.clock, w_frames, w_args, w_heap, w_applies, trivial, trivial, w_case⟩
end start1
theorem witness_1 : WitnessClaimed_1 := ⟨start1.p0, start1.e0, start1.about1, start1.theMethod, start1.args0, start1.below0, start1.atStart⟩
end Jvm.Pilot.@@N@@
